import JvmDerived
import JvmDerived.Pilot.@@N@@Statement
import JvmDerived.Pilot.@@N@@Code
set_option linter.unusedVariables false
set_option linter.unusedSimpArgs false
namespace Jvm.RoadKit
open Sem ClassFile Op Lib Jvm.Stand Jvm.Free Jvm.LawKit
section New
variable {p : Program} {l : Launch} {e : Env} {R : Room} {s : State} {m : MethodId} {args : Array Value} {below : List Frame} {meth : Method} {c : Code} {T : State} {locs : List Loc} {cells slots : Nat}
theorem retI (X : Stand p l e R s m args below meth c T locs cells slots) (hx : p.tables.exec = Jvm.exec) {pc : Nat} {Ls : Array Slot} {z : Int32} {rest : List Value} (hret : meth.sig.returnType = some .int) (hd : decode c.code pc = .ok (.ireturn, 1)) {fs : List Frame}
    (hl : ∀ (f : JFrame) (acts : List Action), f.method = m → f.locked = none → f.entered = [] → (doReturn e (T.setTop f) acts (some (.int z))).1 = T.setFrames fs) : Steps p.tables e below (T.setTop (mkF m pc Ls (.int z :: rest))) (T.setFrames fs) := by
  have hm' : T.vm.method? m = some meth := X.method'
  have hn : narrow .int (.int z) = .int z := rfl
  show Steps p.tables e below (T.setTop { method := m, pc := pc, locals := Ls, stack := _ :: rest, locked := none }) _
  jvm_step X.here [X.here.top, hx, hd, hm', hret, hn]
  first | (intro acts; rw [hl _ acts rfl rfl rfl]) | rw [hl _ _ rfl rfl rfl]
  exact Steps.refl _
end New
end Jvm.RoadKit
namespace Jvm.Pilot.@@N@@
open Jvm Jvm.ClassFile Sem Op Lib Jvm.Free Jvm.Stand Jvm.LawKit Jvm.RoadKit Bundle Jvm.Pilot.@@N@@.Jvm.D
theorem own_bt {P : Prop} [Decidable P] (h : P) : ifCond.holds .eq (if P then (1 : Int32) else (0 : Int32)) = false ∧ ifCond.holds .ne (if P then (1 : Int32) else (0 : Int32)) = true := by rw [if_pos h]; exact ⟨rfl, rfl⟩
theorem own_bf {P : Prop} [Decidable P] (h : ¬ P) : ifCond.holds .eq (if P then (1 : Int32) else (0 : Int32)) = true ∧ ifCond.holds .ne (if P then (1 : Int32) else (0 : Int32)) = false := by rw [if_neg h]; exact ⟨rfl, rfl⟩
theorem own_getI (L : List Int32) (i : Nat) : (List.map Value.int L).getD i (.int (0 : Int32)) = .int (L.getD i 0) := by
  simp only [List.getD_eq_getElem?_getD, List.getElem?_map]; cases L[i]? <;> rfl
theorem own_getJ (L : List Int64) (i : Nat) : (List.map Value.long L).getD i (.long (0 : Int64)) = .long (L.getD i 0) := by
  simp only [List.getD_eq_getElem?_getD, List.getElem?_map]; cases L[i]? <;> rfl
theorem own_setI (L : List Int32) (i : Nat) (x : Int32) : (List.map Value.int L).set i (.int x) = List.map Value.int (L.set i x) := (List.map_set).symm
theorem own_setJ (L : List Int64) (i : Nat) (x : Int64) : (List.map Value.long L).set i (.long x) = List.map Value.long (L.set i x) := (List.map_set).symm
theorem own_ns {Z : State} {h : Heap} {o : Addr} {C : String} (E : Exa Z h o C) : ∃ c : Cell, h[o]? = some c ∧ c.vm.isStatics = false := by
  obtain ⟨c, k, h1, -, -, h4, -⟩ := E; exact ⟨c, h1, h4⟩
theorem own_sta_keep {Z : State} {h h' : Heap} {ws : List Addr} {C n d : String} {v : Value} (S : Sta Z h C n d v) (K : Keep h h' ws) (q : ∀ w ∈ ws, ∃ c : Cell, h[w]? = some c ∧ c.vm.isStatics = false) : Sta Z h' C n d v := by
  obtain ⟨cf, i, k, f, st, cell, h1, h2, h3, h4, h5, h6, h7⟩ := S
  refine ⟨cf, i, k, f, st, cell, h1, h2, h3, h4, K.2.1 _ _ h5 (fun z => ?_), h6, h7⟩
  obtain ⟨c, e1, e2⟩ := q _ z
  cases h5.symm.trans e1; rw [e2] at h6; cases h6
theorem own_selp {s : State} {args args' : Array Value} {y z : MethodName} (hcls : z.cls = y.cls) (hnf : NotFace s z) (hz : (Cond.instanceMethod z).before args' s = true) (hpriv : s.PrivateAt y) (hinst : (Cond.instanceMethod y).before args s = true) (hy : y.cls ≠ "java/lang/invoke/MethodHandle" ∧ y.cls ≠ "java/lang/invoke/VarHandle") : (Cond.selects y.cls y y).before args s = true := by
  obtain ⟨mz, _, hnz, _⟩ := Cond.instanceMethod_spec hz
  obtain ⟨k, hk, hni⟩ := hnf mz hnz
  exact selects_self_of_private (by rw [← hcls]; exact findClass_of_methodNamed hnz) hk hni hpriv hinst hy
theorem own_hide {p : Program} {l : Launch} {e : Env} {R : Room} {s : State} {m : MethodId} {args : Array Value} {below : List Frame} {meth : Method} {c : Code} {T : State} {locs : List Loc} {cells slots n0 : Nat} (X : Stand p l e R s m args below meth c T locs cells slots) (N : Fr n0 locs) : ∃ LL, Stand p l e R s m args below meth c T LL cells slots ∧ Fr n0 LL := ⟨_, X, N⟩
theorem own_ent {tb : Tables} {e : Env} {below : List Frame} {a b t : State} (h : a = b) (s : Steps tb e below a t) : Steps tb e below b t := h ▸ s
theorem own_swne {x k : Int32} {n : Int} (h : ¬ x = k) (e : k.toInt = n) : n ≠ x.toInt := fun q => h (Int32.toInt_inj.mp (by rw [e, q]))
theorem d5_0 : decode jdk_29_method_65_code 0 = .ok (.iload_n 0, 1) := by decide +kernel
theorem d5_1 : decode jdk_29_method_65_code 1 = .ok (.iload_n 1, 1) := by decide +kernel
theorem d5_2 : decode jdk_29_method_65_code 2 = .ok (.if_icmp .lt 7, 3) := by decide +kernel
theorem d5_5 : decode jdk_29_method_65_code 5 = .ok (.iload_n 0, 1) := by decide +kernel
theorem d5_6 : decode jdk_29_method_65_code 6 = .ok (.goto 4, 3) := by decide +kernel
theorem d5_9 : decode jdk_29_method_65_code 9 = .ok (.iload_n 1, 1) := by decide +kernel
theorem d5_10 : decode jdk_29_method_65_code 10 = .ok (.ireturn, 1) := by decide +kernel
theorem ef_5 (m : MethodId) (x0 : Int32) (x1 : Int32)  : entryFrame m #[(.int x0), (.int x1)] 2 = mkF m 0 #[.val (.int x0), .val (.int x1)] [] := by first | (simp [entryFrame, mkF, argsToLocals, Value.category]; done) | rfl
def F5 (x0 : Int32) (x1 : Int32) : Int32 := if x0 < x1 then x1 else x0
def Q5 (Z : State) (x0 : Int32) (x1 : Int32) (h0 : Heap) (n0 : Nat) (vE : Option Value) (hE : Heap) (LE : List Loc) : Prop := vE = some (.int (F5 x0 x1)) ∧ Fr n0 LE ∧ hE = h0
set_option maxRecDepth 65536 in
set_option maxHeartbeats 40000000 in
theorem rm5 (l : Launch) (Z : State) (a0 : Array Value) (hw : ∀ d ∈ tables_1, d.before a0 Z = true) (ws : List Jvm.Cond) (x0 : Int32) (x1 : Int32) (h0 : Heap) (n0 : Nat) (Z0 : n0 ≤ h0.size) :
    MetFree l (⟨"java/lang/Math", "max", "(II)I"⟩ : MethodName) (head1 (Jvm.Cond.code (⟨"java/lang/Math", "max", "(II)I"⟩ : MethodName) jdk_29_method_65_code 2 (some .int) :: ws) ({ frames := 0, cells := 0, slots := 0, locals := 0 } : Room)) (fun a U => a = #[(.int x0), (.int x1)] ∧ Z.Warmed39 U.vm ∧ U.heap = h0) (fun _ _ _ _ _ => True) (fun _ U o U' => ∃ vE LE, o = .returned vE ∧ Q5 Z x0 x1 h0 n0 vE U'.heap LE ∧ FrameEnd U o U' LE ({ frames := 0, cells := 0, slots := 0, locals := 0 } : Room).cells ({ frames := 0, cells := 0, slots := 0, locals := 0 } : Room).slots) := by
  refine MetFree.of_bodySF (Jvm.Free.JP.mathPlain rfl (by decide +kernel)) hisR ?_
  intro p e s m args below meth c s₁ Bd hml0 hP hK
  obtain ⟨rfl, hZ, hh⟩ := hP
  have hx := Bd.exec
  have hby := Bd.bytes
  have hml : c.maxLocals = 2 := hml0
  have hown : s.vm.findClass "java/lang/Math" = some m.cls := findClass_of_methodNamed Bd.named
  have hnm := (name_of_methodNamed Bd.named Bd.method).1
  have X0 : Stand p l e ({ frames := 0, cells := 0, slots := 0, locals := 0 } : Room) s m #[(.int x0), (.int x1)] below meth c s₁ [] 0 0 := Stand.of_body Bd
  have e0 : s₁.heap = h0 := by rw [← hh, Bd.state]; rfl
  have N0 := Fr.nil n0
  obtain ⟨sE, hsE⟩ : ∃ z, z = (s₁.setTop (entryFrame m #[(.int x0), (.int x1)] 2)) := ⟨_, rfl⟩
  have st0 : Steps p.tables e below sE (s₁.setTop (mkF m 0 #[.val (.int x0), .val (.int x1)] [])) := by rw [hsE]; exact castTop (ef_5 m x0 x1) (Steps.refl _)
  have st1 : Steps p.tables e below sE (s₁.setTop (mkF m 2 #[.val (.int x0), .val (.int x1)] [(.int x1), (.int x0)])) := st0.trans (by
      show Steps _ _ _ (s₁.setTop (mkF m 0 #[.val (.int x0), .val (.int x1)] [])) _
      refine XS.iloadN X0.here hx rfl (hb hby d5_0) rfl ?_
      show Steps _ _ _ (s₁.setTop (mkF m 1 #[.val (.int x0), .val (.int x1)] [(.int x0)])) _
      refine XS.iloadN X0.here hx rfl (hb hby d5_1) rfl ?_
      exact Steps.refl _)
  by_cases hc2 : x0 < x1
  · have st3 : Steps p.tables e below sE (s₁.setTop (mkF m 10 #[.val (.int x0), .val (.int x1)] [(.int x1)])) := st1.trans (by
        show Steps _ _ _ (s₁.setTop (mkF m 2 #[.val (.int x0), .val (.int x1)] [(.int x1), (.int x0)])) _
        refine XS.icmpYes X0.here hx rfl (pc0 := 2) (pc' := 9) rfl (hb hby d5_2) rfl (tlt hc2).1 (by decide) (by decide) ?_
        show Steps _ _ _ (s₁.setTop (mkF m 9 #[.val (.int x0), .val (.int x1)] [])) _
        refine XS.iloadN X0.here hx rfl (hb hby d5_9) rfl ?_
        exact Steps.refl _)
    obtain ⟨fs, hr, hrun, hended, hW, hsame⟩ := X0.leave (v := some (.int x1)) (fun h => by rw [Bd.returns] at h; cases h)
    refine ⟨_, _, (own_ent hsE st3).trans ?_, hrun, hended, _, _, rfl, ?_, ⟨_, rfl⟩, hW, hsame.mono (by decide) (by decide)⟩
    · exact retI X0 hx Bd.returns (hb hby d5_10) hr
    · show Q5 Z x0 x1 h0 n0 _ s₁.heap _
      rw [e0]
      exact ⟨by rw [F5, if_pos hc2], N0, rfl⟩
  · have st4 : Steps p.tables e below sE (s₁.setTop (mkF m 10 #[.val (.int x0), .val (.int x1)] [(.int x0)])) := st1.trans (by
        show Steps _ _ _ (s₁.setTop (mkF m 2 #[.val (.int x0), .val (.int x1)] [(.int x1), (.int x0)])) _
        refine XS.icmpNo X0.here hx rfl (hb hby d5_2) rfl (flt hc2).1 ?_
        show Steps _ _ _ (s₁.setTop (mkF m 5 #[.val (.int x0), .val (.int x1)] [])) _
        refine XS.iloadN X0.here hx rfl (hb hby d5_5) rfl ?_
        show Steps _ _ _ (s₁.setTop (mkF m 6 #[.val (.int x0), .val (.int x1)] [(.int x0)])) _
        refine XS.goto X0.here hx rfl (pc0 := 6) (pc' := 10) rfl (hb hby d5_6) (by decide) (by decide) ?_
        exact Steps.refl _)
    obtain ⟨fs, hr, hrun, hended, hW, hsame⟩ := X0.leave (v := some (.int x0)) (fun h => by rw [Bd.returns] at h; cases h)
    refine ⟨_, _, (own_ent hsE st4).trans ?_, hrun, hended, _, _, rfl, ?_, ⟨_, rfl⟩, hW, hsame.mono (by decide) (by decide)⟩
    · exact retI X0 hx Bd.returns (hb hby d5_10) hr
    · show Q5 Z x0 x1 h0 n0 _ s₁.heap _
      rw [e0]
      exact ⟨by rw [F5, if_neg hc2], N0, rfl⟩
theorem d6_0 : decode jdk_29_method_69_code 0 = .ok (.iload_n 0, 1) := by decide +kernel
theorem d6_1 : decode jdk_29_method_69_code 1 = .ok (.iload_n 1, 1) := by decide +kernel
theorem d6_2 : decode jdk_29_method_69_code 2 = .ok (.if_icmp .gt 7, 3) := by decide +kernel
theorem d6_5 : decode jdk_29_method_69_code 5 = .ok (.iload_n 0, 1) := by decide +kernel
theorem d6_6 : decode jdk_29_method_69_code 6 = .ok (.goto 4, 3) := by decide +kernel
theorem d6_9 : decode jdk_29_method_69_code 9 = .ok (.iload_n 1, 1) := by decide +kernel
theorem d6_10 : decode jdk_29_method_69_code 10 = .ok (.ireturn, 1) := by decide +kernel
theorem ef_6 (m : MethodId) (x0 : Int32) (x1 : Int32)  : entryFrame m #[(.int x0), (.int x1)] 2 = mkF m 0 #[.val (.int x0), .val (.int x1)] [] := by first | (simp [entryFrame, mkF, argsToLocals, Value.category]; done) | rfl
def F6 (x0 : Int32) (x1 : Int32) : Int32 := if x1 < x0 then x1 else x0
def Q6 (Z : State) (x0 : Int32) (x1 : Int32) (h0 : Heap) (n0 : Nat) (vE : Option Value) (hE : Heap) (LE : List Loc) : Prop := vE = some (.int (F6 x0 x1)) ∧ Fr n0 LE ∧ hE = h0
set_option maxRecDepth 65536 in
set_option maxHeartbeats 40000000 in
theorem rm6 (l : Launch) (Z : State) (a0 : Array Value) (hw : ∀ d ∈ tables_1, d.before a0 Z = true) (ws : List Jvm.Cond) (x0 : Int32) (x1 : Int32) (h0 : Heap) (n0 : Nat) (Z0 : n0 ≤ h0.size) :
    MetFree l (⟨"java/lang/Math", "min", "(II)I"⟩ : MethodName) (head1 (Jvm.Cond.code (⟨"java/lang/Math", "min", "(II)I"⟩ : MethodName) jdk_29_method_69_code 2 (some .int) :: ws) ({ frames := 0, cells := 0, slots := 0, locals := 0 } : Room)) (fun a U => a = #[(.int x0), (.int x1)] ∧ Z.Warmed39 U.vm ∧ U.heap = h0) (fun _ _ _ _ _ => True) (fun _ U o U' => ∃ vE LE, o = .returned vE ∧ Q6 Z x0 x1 h0 n0 vE U'.heap LE ∧ FrameEnd U o U' LE ({ frames := 0, cells := 0, slots := 0, locals := 0 } : Room).cells ({ frames := 0, cells := 0, slots := 0, locals := 0 } : Room).slots) := by
  refine MetFree.of_bodySF (Jvm.Free.JP.mathPlain rfl (by decide +kernel)) hisR ?_
  intro p e s m args below meth c s₁ Bd hml0 hP hK
  obtain ⟨rfl, hZ, hh⟩ := hP
  have hx := Bd.exec
  have hby := Bd.bytes
  have hml : c.maxLocals = 2 := hml0
  have hown : s.vm.findClass "java/lang/Math" = some m.cls := findClass_of_methodNamed Bd.named
  have hnm := (name_of_methodNamed Bd.named Bd.method).1
  have X0 : Stand p l e ({ frames := 0, cells := 0, slots := 0, locals := 0 } : Room) s m #[(.int x0), (.int x1)] below meth c s₁ [] 0 0 := Stand.of_body Bd
  have e0 : s₁.heap = h0 := by rw [← hh, Bd.state]; rfl
  have N0 := Fr.nil n0
  obtain ⟨sE, hsE⟩ : ∃ z, z = (s₁.setTop (entryFrame m #[(.int x0), (.int x1)] 2)) := ⟨_, rfl⟩
  have st0 : Steps p.tables e below sE (s₁.setTop (mkF m 0 #[.val (.int x0), .val (.int x1)] [])) := by rw [hsE]; exact castTop (ef_6 m x0 x1) (Steps.refl _)
  have st1 : Steps p.tables e below sE (s₁.setTop (mkF m 2 #[.val (.int x0), .val (.int x1)] [(.int x1), (.int x0)])) := st0.trans (by
      show Steps _ _ _ (s₁.setTop (mkF m 0 #[.val (.int x0), .val (.int x1)] [])) _
      refine XS.iloadN X0.here hx rfl (hb hby d6_0) rfl ?_
      show Steps _ _ _ (s₁.setTop (mkF m 1 #[.val (.int x0), .val (.int x1)] [(.int x0)])) _
      refine XS.iloadN X0.here hx rfl (hb hby d6_1) rfl ?_
      exact Steps.refl _)
  by_cases hc2 : x1 < x0
  · have st3 : Steps p.tables e below sE (s₁.setTop (mkF m 10 #[.val (.int x0), .val (.int x1)] [(.int x1)])) := st1.trans (by
        show Steps _ _ _ (s₁.setTop (mkF m 2 #[.val (.int x0), .val (.int x1)] [(.int x1), (.int x0)])) _
        refine XS.icmpYes X0.here hx rfl (pc0 := 2) (pc' := 9) rfl (hb hby d6_2) rfl (tlt hc2).2.2.1 (by decide) (by decide) ?_
        show Steps _ _ _ (s₁.setTop (mkF m 9 #[.val (.int x0), .val (.int x1)] [])) _
        refine XS.iloadN X0.here hx rfl (hb hby d6_9) rfl ?_
        exact Steps.refl _)
    obtain ⟨fs, hr, hrun, hended, hW, hsame⟩ := X0.leave (v := some (.int x1)) (fun h => by rw [Bd.returns] at h; cases h)
    refine ⟨_, _, (own_ent hsE st3).trans ?_, hrun, hended, _, _, rfl, ?_, ⟨_, rfl⟩, hW, hsame.mono (by decide) (by decide)⟩
    · exact retI X0 hx Bd.returns (hb hby d6_10) hr
    · show Q6 Z x0 x1 h0 n0 _ s₁.heap _
      rw [e0]
      exact ⟨by rw [F6, if_pos hc2], N0, rfl⟩
  · have st4 : Steps p.tables e below sE (s₁.setTop (mkF m 10 #[.val (.int x0), .val (.int x1)] [(.int x0)])) := st1.trans (by
        show Steps _ _ _ (s₁.setTop (mkF m 2 #[.val (.int x0), .val (.int x1)] [(.int x1), (.int x0)])) _
        refine XS.icmpNo X0.here hx rfl (hb hby d6_2) rfl (flt hc2).2.2.1 ?_
        show Steps _ _ _ (s₁.setTop (mkF m 5 #[.val (.int x0), .val (.int x1)] [])) _
        refine XS.iloadN X0.here hx rfl (hb hby d6_5) rfl ?_
        show Steps _ _ _ (s₁.setTop (mkF m 6 #[.val (.int x0), .val (.int x1)] [(.int x0)])) _
        refine XS.goto X0.here hx rfl (pc0 := 6) (pc' := 10) rfl (hb hby d6_6) (by decide) (by decide) ?_
        exact Steps.refl _)
    obtain ⟨fs, hr, hrun, hended, hW, hsame⟩ := X0.leave (v := some (.int x0)) (fun h => by rw [Bd.returns] at h; cases h)
    refine ⟨_, _, (own_ent hsE st4).trans ?_, hrun, hended, _, _, rfl, ?_, ⟨_, rfl⟩, hW, hsame.mono (by decide) (by decide)⟩
    · exact retI X0 hx Bd.returns (hb hby d6_10) hr
    · show Q6 Z x0 x1 h0 n0 _ s₁.heap _
      rw [e0]
      exact ⟨by rw [F6, if_neg hc2], N0, rfl⟩
theorem d1_0 : decode prog_20_method_1_code 0 = .ok (.aload_n 0, 1) := by decide +kernel
theorem d1_1 : decode prog_20_method_1_code 1 = .ok (.invokespecial 1, 3) := by decide +kernel
theorem d1_4 : decode prog_20_method_1_code 4 = .ok (.return_, 1) := by decide +kernel
theorem pn_0 : plainName "com/example/tideloop/tideloop/Message" = true := by first | (simp [plainName, overriddenIn]; done) | decide +kernel
theorem ef_1 (m : MethodId) (x0 : Addr)  : entryFrame m #[(.ref x0)] 1 = mkF m 0 #[.val (.ref x0)] [] := by first | (simp [entryFrame, mkF, argsToLocals, Value.category]; done) | rfl
def Q1 (Z : State) (x0 : Addr) (h0 : Heap) (n0 : Nat) (vE : Option Value) (hE : Heap) (LE : List Loc) : Prop := vE = none ∧ Fr n0 LE ∧ hE = h0
set_option maxRecDepth 65536 in
set_option maxHeartbeats 40000000 in
theorem rm1 (l : Launch) (Z : State) (a0 : Array Value) (hw : ∀ d ∈ tables_1, d.before a0 Z = true) (ws : List Jvm.Cond) (x0 : Addr) (h0 : Heap) (n0 : Nat) (Z0 : n0 ≤ h0.size) (E_x : Exa Z h0 x0 "com/example/tideloop/tideloop/Message") :
    MetFree l (⟨"com/example/tideloop/tideloop/Message", "<init>", "()V"⟩ : MethodName) (head1 (Jvm.Cond.code (⟨"com/example/tideloop/tideloop/Message", "<init>", "()V"⟩ : MethodName) prog_20_method_1_code 1 none :: ws) ({ frames := 1, cells := 0, slots := 0, locals := 12 } : Room)) (fun a U => a = #[(.ref x0)] ∧ Z.Warmed39 U.vm ∧ U.heap = h0) (fun _ _ _ _ _ => True) (fun _ U o U' => ∃ vE LE, o = .returned vE ∧ Q1 Z x0 h0 n0 vE U'.heap LE ∧ FrameEnd U o U' LE ({ frames := 1, cells := 0, slots := 0, locals := 12 } : Room).cells ({ frames := 1, cells := 0, slots := 0, locals := 12 } : Room).slots) := by
  refine MetFree.of_bodySF (plainFor_of_name pn_0) hisR ?_
  intro p e s m args below meth c s₁ Bd hml0 hP hK
  obtain ⟨rfl, hZ, hh⟩ := hP
  have hx := Bd.exec
  have hby := Bd.bytes
  have hml : c.maxLocals = 1 := hml0
  have hown : s.vm.findClass "com/example/tideloop/tideloop/Message" = some m.cls := findClass_of_methodNamed Bd.named
  have hnm := (name_of_methodNamed Bd.named Bd.method).1
  have X0 : Stand p l e ({ frames := 1, cells := 0, slots := 0, locals := 12 } : Room) s m #[(.ref x0)] below meth c s₁ [] 0 0 := Stand.of_body Bd
  have e0 : s₁.heap = h0 := by rw [← hh, Bd.state]; rfl
  have N0 := Fr.nil n0
  obtain ⟨sE, hsE⟩ : ∃ z, z = (s₁.setTop (entryFrame m #[(.ref x0)] 1)) := ⟨_, rfl⟩
  have st0 : Steps p.tables e below sE (s₁.setTop (mkF m 0 #[.val (.ref x0)] [])) := by rw [hsE]; exact castTop (ef_1 m x0) (Steps.refl _)
  have st1 : Steps p.tables e below sE (s₁.setTop (mkF m 1 #[.val (.ref x0)] [(.ref x0)])) := st0.trans (by
      show Steps _ _ _ (s₁.setTop (mkF m 0 #[.val (.ref x0)] [])) _
      refine XS.aloadN X0.here hx rfl (hb hby d1_0) rfl rfl ?_
      exact Steps.refl _)
  obtain ⟨T2, X2, e2, sr2⟩ := initO X0 hx hZ hown (hw _ (List.mem_of_getElem? (i := 6) rfl)) (hw _ (List.mem_of_getElem? (i := 7) rfl)) (hw _ (List.mem_of_getElem? (i := 8) rfl)) e0 (g := (mkF m 1 #[.val (.ref x0)] [(.ref x0)])) rfl (by rw [hml]; rfl) rfl (hb hby d1_1) (by decide) (W := 0) (by show 2 * 0 + _ ≤ _; exact Nat.le_of_eq rfl) (by decide)
  have st3 : Steps p.tables e below sE (T2.setTop (mkF m 4 #[.val (.ref x0)] [])) := st1.trans (sr2 _ (Steps.refl _))
  obtain ⟨fs, hr, hrun, hended, hW, hsame⟩ := X2.leave (v := none) (fun _ => rfl)
  refine ⟨_, _, (own_ent hsE st3).trans ?_, hrun, hended, _, _, rfl, ?_, ⟨_, rfl⟩, hW, hsame.mono (by decide) (by decide)⟩
  · exact X2.returnOut hx Bd.returns (hb hby d1_4) hr
  · show Q1 Z x0 h0 n0 _ T2.heap _
    rw [e2]
    exact ⟨rfl, N0, rfl⟩
theorem d3_0 : decode prog_24_method_1_code 0 = .ok (.aload_n 0, 1) := by decide +kernel
theorem d3_1 : decode prog_24_method_1_code 1 = .ok (.invokespecial 1, 3) := by decide +kernel
theorem d3_4 : decode prog_24_method_1_code 4 = .ok (.aload_n 0, 1) := by decide +kernel
theorem d3_5 : decode prog_24_method_1_code 5 = .ok (.iload_n 1, 1) := by decide +kernel
theorem d3_6 : decode prog_24_method_1_code 6 = .ok (.putfield 7, 3) := by decide +kernel
theorem d3_9 : decode prog_24_method_1_code 9 = .ok (.return_, 1) := by decide +kernel
theorem pn_1 : plainName "com/example/tideloop/tideloop/MessagePool" = true := by first | (simp [plainName, overriddenIn]; done) | decide +kernel
theorem ef_3 (m : MethodId) (x0 : Addr) (x1 : Int32)  : entryFrame m #[(.ref x0), (.int x1)] 2 = mkF m 0 #[.val (.ref x0), .val (.int x1)] [] := by first | (simp [entryFrame, mkF, argsToLocals, Value.category]; done) | rfl
def Q3 (Z : State) (x0 : Addr) (x1 : Int32) (h0 : Heap) (n0 : Nat) (vE : Option Value) (hE : Heap) (LE : List Loc) : Prop := vE = none ∧ Fr n0 LE ∧ Keep h0 hE [x0] ∧ Exa Z hE x0 "com/example/tideloop/tideloop/MessagePool" ∧ Fld Z hE x0 "com/example/tideloop/tideloop/MessagePool" "capacity" "I" (.int x1) ∧ Fld Z hE x0 "com/example/tideloop/tideloop/MessagePool" "size" "I" (.int (0 : Int32)) ∧ Fld Z hE x0 "com/example/tideloop/tideloop/MessagePool" "head" "Lcom/example/tideloop/tideloop/Message;" .null
set_option maxRecDepth 65536 in
set_option maxHeartbeats 40000000 in
theorem rm3 (l : Launch) (Z : State) (a0 : Array Value) (hw : ∀ d ∈ tables_1, d.before a0 Z = true) (ws : List Jvm.Cond) (x0 : Addr) (x1 : Int32) (h0 : Heap) (n0 : Nat) (Z0 : n0 ≤ h0.size) (E_x : Exa Z h0 x0 "com/example/tideloop/tideloop/MessagePool") (F_c : Fld Z h0 x0 "com/example/tideloop/tideloop/MessagePool" "capacity" "I" (.int (0 : Int32))) (F_s : Fld Z h0 x0 "com/example/tideloop/tideloop/MessagePool" "size" "I" (.int (0 : Int32))) (F_h : Fld Z h0 x0 "com/example/tideloop/tideloop/MessagePool" "head" "Lcom/example/tideloop/tideloop/Message;" .null) (g_x : n0 ≤ x0) :
    MetFree l (⟨"com/example/tideloop/tideloop/MessagePool", "<init>", "(I)V"⟩ : MethodName) (head1 (Jvm.Cond.code (⟨"com/example/tideloop/tideloop/MessagePool", "<init>", "(I)V"⟩ : MethodName) prog_24_method_1_code 2 none :: ws) ({ frames := 1, cells := 0, slots := 0, locals := 12 } : Room)) (fun a U => a = #[(.ref x0), (.int x1)] ∧ Z.Warmed39 U.vm ∧ U.heap = h0) (fun _ _ _ _ _ => True) (fun _ U o U' => ∃ vE LE, o = .returned vE ∧ Q3 Z x0 x1 h0 n0 vE U'.heap LE ∧ FrameEnd U o U' LE ({ frames := 1, cells := 0, slots := 0, locals := 12 } : Room).cells ({ frames := 1, cells := 0, slots := 0, locals := 12 } : Room).slots) := by
  refine MetFree.of_bodySF (plainFor_of_name pn_1) hisR ?_
  intro p e s m args below meth c s₁ Bd hml0 hP hK
  obtain ⟨rfl, hZ, hh⟩ := hP
  have hx := Bd.exec
  have hby := Bd.bytes
  have hml : c.maxLocals = 2 := hml0
  have hown : s.vm.findClass "com/example/tideloop/tideloop/MessagePool" = some m.cls := findClass_of_methodNamed Bd.named
  have hnm := (name_of_methodNamed Bd.named Bd.method).1
  have X0 : Stand p l e ({ frames := 1, cells := 0, slots := 0, locals := 12 } : Room) s m #[(.ref x0), (.int x1)] below meth c s₁ [] 0 0 := Stand.of_body Bd
  have e0 : s₁.heap = h0 := by rw [← hh, Bd.state]; rfl
  have N0 := Fr.nil n0
  obtain ⟨sE, hsE⟩ : ∃ z, z = (s₁.setTop (entryFrame m #[(.ref x0), (.int x1)] 2)) := ⟨_, rfl⟩
  have st0 : Steps p.tables e below sE (s₁.setTop (mkF m 0 #[.val (.ref x0), .val (.int x1)] [])) := by rw [hsE]; exact castTop (ef_3 m x0 x1) (Steps.refl _)
  have K0 : Keep h0 h0 [x0] := Keep.refl _ _
  have st1 : Steps p.tables e below sE (s₁.setTop (mkF m 1 #[.val (.ref x0), .val (.int x1)] [(.ref x0)])) := st0.trans (by
      show Steps _ _ _ (s₁.setTop (mkF m 0 #[.val (.ref x0), .val (.int x1)] [])) _
      refine XS.aloadN X0.here hx rfl (hb hby d3_0) rfl rfl ?_
      exact Steps.refl _)
  obtain ⟨T2, X2, e2, sr2⟩ := initO X0 hx hZ hown (hw _ (List.mem_of_getElem? (i := 19) rfl)) (hw _ (List.mem_of_getElem? (i := 7) rfl)) (hw _ (List.mem_of_getElem? (i := 8) rfl)) e0 (g := (mkF m 1 #[.val (.ref x0), .val (.int x1)] [(.ref x0)])) rfl (by rw [hml]; rfl) rfl (hb hby d3_1) (by decide) (W := 0) (by show 2 * 0 + _ ≤ _; exact Nat.le_of_eq rfl) (by decide)
  have st3 : Steps p.tables e below sE (T2.setTop (mkF m 4 #[.val (.ref x0), .val (.int x1)] [])) := st1.trans (sr2 _ (Steps.refl _))
  have st4 : Steps p.tables e below sE (T2.setTop (mkF m 6 #[.val (.ref x0), .val (.int x1)] [(.int x1), (.ref x0)])) := st3.trans (by
      show Steps _ _ _ (T2.setTop (mkF m 4 #[.val (.ref x0), .val (.int x1)] [])) _
      refine XS.aloadN X2.here hx rfl (hb hby d3_4) rfl rfl ?_
      show Steps _ _ _ (T2.setTop (mkF m 5 #[.val (.ref x0), .val (.int x1)] [(.ref x0)])) _
      refine XS.iloadN X2.here hx rfl (hb hby d3_5) rfl ?_
      exact Steps.refl _)
  obtain ⟨T5, h5, X5, e5, W5, sr5⟩ := putF X2 hx hZ hown (host := "") (Or.inl (hw _ (List.mem_of_getElem? (i := 20) rfl))) Via.refl e2 F_c E_x (Or.inr ⟨(hw _ (List.mem_of_getElem? (i := 21) rfl)), rfl, hnm⟩) (hw _ (List.mem_of_getElem? (i := 14) rfl)) (ty := .int) (by decide) rfl rfl (g := (mkF m 6 #[.val (.ref x0), .val (.int x1)] [(.int x1), (.ref x0)])) rfl rfl (hb hby d3_6)
  have f6 : Exa Z h5 x0 "com/example/tideloop/tideloop/MessagePool" := E_x.wr W5
  have f7 : Fld Z h5 x0 "com/example/tideloop/tideloop/MessagePool" "size" "I" (.int (0 : Int32)) := F_s.other W5 (Or.inr (slot_ne (Or.inl (hw _ (List.mem_of_getElem? (i := 28) rfl))) (Or.inr (hw _ (List.mem_of_getElem? (i := 21) rfl))) (by decide) (t := .int) (t' := .int) (by decide) (by decide)))
  have f8 : Fld Z h5 x0 "com/example/tideloop/tideloop/MessagePool" "head" "Lcom/example/tideloop/tideloop/Message;" .null := F_h.other W5 (Or.inr (slot_ne (Or.inl (hw _ (List.mem_of_getElem? (i := 42) rfl))) (Or.inr (hw _ (List.mem_of_getElem? (i := 21) rfl))) (by decide) (t := (.object "com/example/tideloop/tideloop/Message")) (t' := .int) (by decide) (by decide)))
  have f9 : Fld Z h5 x0 "com/example/tideloop/tideloop/MessagePool" "capacity" "I" (.int x1) := F_c.same W5
  have K10 : Keep h0 h5 [x0] := K0.wr W5 (Or.inl (List.mem_of_getElem? (i := 0) rfl))
  have Z5 : n0 ≤ h5.size := Nat.le_trans Z0 (Keep.of_wr W5).1
  have N5 := Fr.snoc X5 N0 g_x
  obtain ⟨LL5, X5, N5⟩ := own_hide X5 N5
  have st11 : Steps p.tables e below sE (T5.setTop (mkF m 9 #[.val (.ref x0), .val (.int x1)] [])) := st4.trans (sr5 _ (Steps.refl _))
  obtain ⟨fs, hr, hrun, hended, hW, hsame⟩ := X5.leave (v := none) (fun _ => rfl)
  refine ⟨_, _, (own_ent hsE st11).trans ?_, hrun, hended, _, _, rfl, ?_, ⟨_, rfl⟩, hW, hsame.mono (by decide) (by decide)⟩
  · exact X5.returnOut hx Bd.returns (hb hby d3_9) hr
  · show Q3 Z x0 x1 h0 n0 _ T5.heap _
    rw [e5]
    exact ⟨rfl, N5, K10, f6, f9, f7, f8⟩
theorem d4_0 : decode prog_24_method_4_code 0 = .ok (.aload_n 0, 1) := by decide +kernel
theorem d4_1 : decode prog_24_method_4_code 1 = .ok (.getfield 23, 3) := by decide +kernel
theorem d4_4 : decode prog_24_method_4_code 4 = .ok (.aload_n 0, 1) := by decide +kernel
theorem d4_5 : decode prog_24_method_4_code 5 = .ok (.getfield 7, 3) := by decide +kernel
theorem d4_8 : decode prog_24_method_4_code 8 = .ok (.if_icmp .ge 26, 3) := by decide +kernel
theorem d4_34 : decode prog_24_method_4_code 34 = .ok (.return_, 1) := by decide +kernel
theorem ef_kn (m : MethodId) (x0 : Addr) (x1 : Addr)  : entryFrame m #[(.ref x0), (.ref x1)] 2 = mkF m 0 #[.val (.ref x0), .val (.ref x1)] [] := by first | (simp [entryFrame, mkF, argsToLocals, Value.category]; done) | rfl
def Qkn (Z : State) (x0 : Addr) (x1 : Addr) (sz : Int32) (cp : Int32) (h0 : Heap) (n0 : Nat) (vE : Option Value) (hE : Heap) (LE : List Loc) : Prop := vE = none ∧ Fr n0 LE ∧ hE = h0
set_option maxRecDepth 65536 in
set_option maxHeartbeats 40000000 in
theorem rmkn (l : Launch) (Z : State) (a0 : Array Value) (hw : ∀ d ∈ tables_1, d.before a0 Z = true) (ws : List Jvm.Cond) (x0 : Addr) (x1 : Addr) (sz : Int32) (cp : Int32) (h0 : Heap) (n0 : Nat) (Z0 : n0 ≤ h0.size) (E_x : Exa Z h0 x0 "com/example/tideloop/tideloop/MessagePool") (F_s : Fld Z h0 x0 "com/example/tideloop/tideloop/MessagePool" "size" "I" (.int sz)) (F_c : Fld Z h0 x0 "com/example/tideloop/tideloop/MessagePool" "capacity" "I" (.int cp)) (hno : ¬ sz < cp) :
    MetFree l (⟨"com/example/tideloop/tideloop/MessagePool", "keep", "(Lcom/example/tideloop/tideloop/Message;)V"⟩ : MethodName) (head1 (Jvm.Cond.code (⟨"com/example/tideloop/tideloop/MessagePool", "keep", "(Lcom/example/tideloop/tideloop/Message;)V"⟩ : MethodName) prog_24_method_4_code 2 none :: ws) ({ frames := 0, cells := 0, slots := 0, locals := 0 } : Room)) (fun a U => a = #[(.ref x0), (.ref x1)] ∧ Z.Warmed39 U.vm ∧ U.heap = h0) (fun _ _ _ _ _ => True) (fun _ U o U' => ∃ vE LE, o = .returned vE ∧ Qkn Z x0 x1 sz cp h0 n0 vE U'.heap LE ∧ FrameEnd U o U' LE ({ frames := 0, cells := 0, slots := 0, locals := 0 } : Room).cells ({ frames := 0, cells := 0, slots := 0, locals := 0 } : Room).slots) := by
  refine MetFree.of_bodySF (plainFor_of_name pn_1) hisR ?_
  intro p e s m args below meth c s₁ Bd hml0 hP hK
  obtain ⟨rfl, hZ, hh⟩ := hP
  have hx := Bd.exec
  have hby := Bd.bytes
  have hml : c.maxLocals = 2 := hml0
  have hown : s.vm.findClass "com/example/tideloop/tideloop/MessagePool" = some m.cls := findClass_of_methodNamed Bd.named
  have hnm := (name_of_methodNamed Bd.named Bd.method).1
  have X0 : Stand p l e ({ frames := 0, cells := 0, slots := 0, locals := 0 } : Room) s m #[(.ref x0), (.ref x1)] below meth c s₁ [] 0 0 := Stand.of_body Bd
  have e0 : s₁.heap = h0 := by rw [← hh, Bd.state]; rfl
  have N0 := Fr.nil n0
  obtain ⟨sE, hsE⟩ : ∃ z, z = (s₁.setTop (entryFrame m #[(.ref x0), (.ref x1)] 2)) := ⟨_, rfl⟩
  have st0 : Steps p.tables e below sE (s₁.setTop (mkF m 0 #[.val (.ref x0), .val (.ref x1)] [])) := by rw [hsE]; exact castTop (ef_kn m x0 x1) (Steps.refl _)
  have st1 : Steps p.tables e below sE (s₁.setTop (mkF m 1 #[.val (.ref x0), .val (.ref x1)] [(.ref x0)])) := st0.trans (by
      show Steps _ _ _ (s₁.setTop (mkF m 0 #[.val (.ref x0), .val (.ref x1)] [])) _
      refine XS.aloadN X0.here hx rfl (hb hby d4_0) rfl rfl ?_
      exact Steps.refl _)
  obtain ⟨T2, X2, e2, sr2⟩ := getF X0 hx hZ hown (host := "") (Or.inl (hw _ (List.mem_of_getElem? (i := 27) rfl))) Via.refl e0 F_s (g := (mkF m 1 #[.val (.ref x0), .val (.ref x1)] [(.ref x0)])) rfl rfl (hb hby d4_1)
  have st3 : Steps p.tables e below sE (T2.setTop (mkF m 4 #[.val (.ref x0), .val (.ref x1)] [(.int sz)])) := st1.trans (sr2 _ (Steps.refl _))
  have st4 : Steps p.tables e below sE (T2.setTop (mkF m 5 #[.val (.ref x0), .val (.ref x1)] [(.ref x0), (.int sz)])) := st3.trans (by
      show Steps _ _ _ (T2.setTop (mkF m 4 #[.val (.ref x0), .val (.ref x1)] [(.int sz)])) _
      refine XS.aloadN X2.here hx rfl (hb hby d4_4) rfl rfl ?_
      exact Steps.refl _)
  obtain ⟨T5, X5, e5, sr5⟩ := getF X2 hx hZ hown (host := "") (Or.inl (hw _ (List.mem_of_getElem? (i := 20) rfl))) Via.refl e2 F_c (g := (mkF m 5 #[.val (.ref x0), .val (.ref x1)] [(.ref x0), (.int sz)])) rfl rfl (hb hby d4_5)
  have st6 : Steps p.tables e below sE (T5.setTop (mkF m 8 #[.val (.ref x0), .val (.ref x1)] [(.int cp), (.int sz)])) := st4.trans (sr5 _ (Steps.refl _))
  have hf7 : ¬ (sz < cp) := hno
  have st8 : Steps p.tables e below sE (T5.setTop (mkF m 34 #[.val (.ref x0), .val (.ref x1)] [])) := st6.trans (by
      show Steps _ _ _ (T5.setTop (mkF m 8 #[.val (.ref x0), .val (.ref x1)] [(.int cp), (.int sz)])) _
      refine XS.icmpYes X5.here hx rfl (pc0 := 8) (pc' := 34) rfl (hb hby d4_8) rfl (flt hf7).2.1 (by decide) (by decide) ?_
      exact Steps.refl _)
  obtain ⟨fs, hr, hrun, hended, hW, hsame⟩ := X5.leave (v := none) (fun _ => rfl)
  refine ⟨_, _, (own_ent hsE st8).trans ?_, hrun, hended, _, _, rfl, ?_, ⟨_, rfl⟩, hW, hsame.mono (by decide) (by decide)⟩
  · exact X5.returnOut hx Bd.returns (hb hby d4_34) hr
  · show Qkn Z x0 x1 sz cp h0 n0 _ T5.heap _
    rw [e5]
    exact ⟨rfl, N0, rfl⟩
theorem d4_11 : decode prog_24_method_4_code 11 = .ok (.aload_n 1, 1) := by decide +kernel
theorem d4_12 : decode prog_24_method_4_code 12 = .ok (.aload_n 0, 1) := by decide +kernel
theorem d4_13 : decode prog_24_method_4_code 13 = .ok (.getfield 13, 3) := by decide +kernel
theorem d4_16 : decode prog_24_method_4_code 16 = .ok (.putfield 20, 3) := by decide +kernel
theorem d4_19 : decode prog_24_method_4_code 19 = .ok (.aload_n 0, 1) := by decide +kernel
theorem d4_20 : decode prog_24_method_4_code 20 = .ok (.aload_n 1, 1) := by decide +kernel
theorem d4_21 : decode prog_24_method_4_code 21 = .ok (.putfield 13, 3) := by decide +kernel
theorem d4_24 : decode prog_24_method_4_code 24 = .ok (.aload_n 0, 1) := by decide +kernel
theorem d4_25 : decode prog_24_method_4_code 25 = .ok (.dup, 1) := by decide +kernel
theorem d4_26 : decode prog_24_method_4_code 26 = .ok (.getfield 23, 3) := by decide +kernel
theorem d4_29 : decode prog_24_method_4_code 29 = .ok (.iconst 1, 1) := by decide +kernel
theorem d4_30 : decode prog_24_method_4_code 30 = .ok (.iadd, 1) := by decide +kernel
theorem d4_31 : decode prog_24_method_4_code 31 = .ok (.putfield 23, 3) := by decide +kernel
def Qky0 (Z : State) (x0 : Addr) (x1 : Addr) (sz : Int32) (cp : Int32) (w : Int32) (nx : Addr) (h0 : Heap) (n0 : Nat) (vE : Option Value) (hE : Heap) (LE : List Loc) : Prop := vE = none ∧ Fr n0 LE ∧ Keep h0 hE [x0, x1] ∧ Exa Z hE x0 "com/example/tideloop/tideloop/MessagePool" ∧ Fld Z hE x0 "com/example/tideloop/tideloop/MessagePool" "size" "I" (.int (sz + (1 : Int32))) ∧ Fld Z hE x0 "com/example/tideloop/tideloop/MessagePool" "capacity" "I" (.int cp) ∧ Fld Z hE x0 "com/example/tideloop/tideloop/MessagePool" "head" "Lcom/example/tideloop/tideloop/Message;" (.ref x1) ∧ Exa Z hE x1 "com/example/tideloop/tideloop/Message" ∧ Fld Z hE x1 "com/example/tideloop/tideloop/Message" "what" "I" (.int w) ∧ Fld Z hE x1 "com/example/tideloop/tideloop/Message" "nextPooled" "Lcom/example/tideloop/tideloop/Message;" .null
set_option maxRecDepth 65536 in
set_option maxHeartbeats 40000000 in
theorem rmky0 (l : Launch) (Z : State) (a0 : Array Value) (hw : ∀ d ∈ tables_1, d.before a0 Z = true) (ws : List Jvm.Cond) (x0 : Addr) (x1 : Addr) (sz : Int32) (cp : Int32) (w : Int32) (nx : Addr) (h0 : Heap) (n0 : Nat) (Z0 : n0 ≤ h0.size) (E_x : Exa Z h0 x0 "com/example/tideloop/tideloop/MessagePool") (F_s : Fld Z h0 x0 "com/example/tideloop/tideloop/MessagePool" "size" "I" (.int sz)) (F_c : Fld Z h0 x0 "com/example/tideloop/tideloop/MessagePool" "capacity" "I" (.int cp)) (F_h : Fld Z h0 x0 "com/example/tideloop/tideloop/MessagePool" "head" "Lcom/example/tideloop/tideloop/Message;" .null) (E_m : Exa Z h0 x1 "com/example/tideloop/tideloop/Message") (F_w : Fld Z h0 x1 "com/example/tideloop/tideloop/Message" "what" "I" (.int w)) (F_n : Fld Z h0 x1 "com/example/tideloop/tideloop/Message" "nextPooled" "Lcom/example/tideloop/tideloop/Message;" (.ref nx)) (g_x : n0 ≤ x0) (g_m : n0 ≤ x1) (ne : x1 ≠ x0) (hyes : sz < cp) :
    MetFree l (⟨"com/example/tideloop/tideloop/MessagePool", "keep", "(Lcom/example/tideloop/tideloop/Message;)V"⟩ : MethodName) (head1 (Jvm.Cond.code (⟨"com/example/tideloop/tideloop/MessagePool", "keep", "(Lcom/example/tideloop/tideloop/Message;)V"⟩ : MethodName) prog_24_method_4_code 2 none :: ws) ({ frames := 0, cells := 0, slots := 0, locals := 0 } : Room)) (fun a U => a = #[(.ref x0), (.ref x1)] ∧ Z.Warmed39 U.vm ∧ U.heap = h0) (fun _ _ _ _ _ => True) (fun _ U o U' => ∃ vE LE, o = .returned vE ∧ Qky0 Z x0 x1 sz cp w nx h0 n0 vE U'.heap LE ∧ FrameEnd U o U' LE ({ frames := 0, cells := 0, slots := 0, locals := 0 } : Room).cells ({ frames := 0, cells := 0, slots := 0, locals := 0 } : Room).slots) := by
  refine MetFree.of_bodySF (plainFor_of_name pn_1) hisR ?_
  intro p e s m args below meth c s₁ Bd hml0 hP hK
  obtain ⟨rfl, hZ, hh⟩ := hP
  have hx := Bd.exec
  have hby := Bd.bytes
  have hml : c.maxLocals = 2 := hml0
  have hown : s.vm.findClass "com/example/tideloop/tideloop/MessagePool" = some m.cls := findClass_of_methodNamed Bd.named
  have hnm := (name_of_methodNamed Bd.named Bd.method).1
  have X0 : Stand p l e ({ frames := 0, cells := 0, slots := 0, locals := 0 } : Room) s m #[(.ref x0), (.ref x1)] below meth c s₁ [] 0 0 := Stand.of_body Bd
  have e0 : s₁.heap = h0 := by rw [← hh, Bd.state]; rfl
  have N0 := Fr.nil n0
  obtain ⟨sE, hsE⟩ : ∃ z, z = (s₁.setTop (entryFrame m #[(.ref x0), (.ref x1)] 2)) := ⟨_, rfl⟩
  have st0 : Steps p.tables e below sE (s₁.setTop (mkF m 0 #[.val (.ref x0), .val (.ref x1)] [])) := by rw [hsE]; exact castTop (ef_kn m x0 x1) (Steps.refl _)
  have K0 : Keep h0 h0 [x0, x1] := Keep.refl _ _
  have st1 : Steps p.tables e below sE (s₁.setTop (mkF m 1 #[.val (.ref x0), .val (.ref x1)] [(.ref x0)])) := st0.trans (by
      show Steps _ _ _ (s₁.setTop (mkF m 0 #[.val (.ref x0), .val (.ref x1)] [])) _
      refine XS.aloadN X0.here hx rfl (hb hby d4_0) rfl rfl ?_
      exact Steps.refl _)
  obtain ⟨T2, X2, e2, sr2⟩ := getF X0 hx hZ hown (host := "") (Or.inl (hw _ (List.mem_of_getElem? (i := 27) rfl))) Via.refl e0 F_s (g := (mkF m 1 #[.val (.ref x0), .val (.ref x1)] [(.ref x0)])) rfl rfl (hb hby d4_1)
  have st3 : Steps p.tables e below sE (T2.setTop (mkF m 4 #[.val (.ref x0), .val (.ref x1)] [(.int sz)])) := st1.trans (sr2 _ (Steps.refl _))
  have st4 : Steps p.tables e below sE (T2.setTop (mkF m 5 #[.val (.ref x0), .val (.ref x1)] [(.ref x0), (.int sz)])) := st3.trans (by
      show Steps _ _ _ (T2.setTop (mkF m 4 #[.val (.ref x0), .val (.ref x1)] [(.int sz)])) _
      refine XS.aloadN X2.here hx rfl (hb hby d4_4) rfl rfl ?_
      exact Steps.refl _)
  obtain ⟨T5, X5, e5, sr5⟩ := getF X2 hx hZ hown (host := "") (Or.inl (hw _ (List.mem_of_getElem? (i := 20) rfl))) Via.refl e2 F_c (g := (mkF m 5 #[.val (.ref x0), .val (.ref x1)] [(.ref x0), (.int sz)])) rfl rfl (hb hby d4_5)
  have st6 : Steps p.tables e below sE (T5.setTop (mkF m 8 #[.val (.ref x0), .val (.ref x1)] [(.int cp), (.int sz)])) := st4.trans (sr5 _ (Steps.refl _))
  have hf7 : sz < cp := hyes
  have st8 : Steps p.tables e below sE (T5.setTop (mkF m 13 #[.val (.ref x0), .val (.ref x1)] [(.ref x0), (.ref x1)])) := st6.trans (by
      show Steps _ _ _ (T5.setTop (mkF m 8 #[.val (.ref x0), .val (.ref x1)] [(.int cp), (.int sz)])) _
      refine XS.icmpNo X5.here hx rfl (hb hby d4_8) rfl (tlt hf7).2.1 ?_
      show Steps _ _ _ (T5.setTop (mkF m 11 #[.val (.ref x0), .val (.ref x1)] [])) _
      refine XS.aloadN X5.here hx rfl (hb hby d4_11) rfl rfl ?_
      show Steps _ _ _ (T5.setTop (mkF m 12 #[.val (.ref x0), .val (.ref x1)] [(.ref x1)])) _
      refine XS.aloadN X5.here hx rfl (hb hby d4_12) rfl rfl ?_
      exact Steps.refl _)
  obtain ⟨T9, X9, e9, sr9⟩ := getF X5 hx hZ hown (host := "") (Or.inl (hw _ (List.mem_of_getElem? (i := 41) rfl))) Via.refl e5 F_h (g := (mkF m 13 #[.val (.ref x0), .val (.ref x1)] [(.ref x0), (.ref x1)])) rfl rfl (hb hby d4_13)
  have st10 : Steps p.tables e below sE (T9.setTop (mkF m 16 #[.val (.ref x0), .val (.ref x1)] [.null, (.ref x1)])) := st8.trans (sr9 _ (Steps.refl _))
  obtain ⟨T11, h11, X11, e11, W11, sr11⟩ := putF X9 hx hZ hown (host := "") (Or.inl (hw _ (List.mem_of_getElem? (i := 49) rfl))) Via.refl e9 F_n E_m (Or.inl (hw _ (List.mem_of_getElem? (i := 12) rfl))) (hw _ (List.mem_of_getElem? (i := 1) rfl)) (ty := (.object "com/example/tideloop/tideloop/Message")) (by decide) rfl rfl (g := (mkF m 16 #[.val (.ref x0), .val (.ref x1)] [.null, (.ref x1)])) rfl rfl (hb hby d4_16)
  have f12 : Exa Z h11 x0 "com/example/tideloop/tideloop/MessagePool" := E_x.wr W11
  have f13 : Fld Z h11 x0 "com/example/tideloop/tideloop/MessagePool" "size" "I" (.int sz) := F_s.other W11 (Or.inl (Ne.symm ne))
  have f14 : Fld Z h11 x0 "com/example/tideloop/tideloop/MessagePool" "capacity" "I" (.int cp) := F_c.other W11 (Or.inl (Ne.symm ne))
  have f15 : Fld Z h11 x0 "com/example/tideloop/tideloop/MessagePool" "head" "Lcom/example/tideloop/tideloop/Message;" .null := F_h.other W11 (Or.inl (Ne.symm ne))
  have f16 : Exa Z h11 x1 "com/example/tideloop/tideloop/Message" := E_m.wr W11
  have f17 : Fld Z h11 x1 "com/example/tideloop/tideloop/Message" "what" "I" (.int w) := F_w.other W11 (Or.inr (slot_ne (Or.inl (hw _ (List.mem_of_getElem? (i := 10) rfl))) (Or.inl (hw _ (List.mem_of_getElem? (i := 12) rfl))) (by decide) (t := .int) (t' := (.object "com/example/tideloop/tideloop/Message")) (by decide) (by decide)))
  have f18 : Fld Z h11 x1 "com/example/tideloop/tideloop/Message" "nextPooled" "Lcom/example/tideloop/tideloop/Message;" .null := F_n.same W11
  have K19 : Keep h0 h11 [x0, x1] := K0.wr W11 (Or.inl (List.mem_of_getElem? (i := 1) rfl))
  have Z11 : n0 ≤ h11.size := Nat.le_trans Z0 (Keep.of_wr W11).1
  have N11 := Fr.snoc X11 N0 g_m
  obtain ⟨LL11, X11, N11⟩ := own_hide X11 N11
  have st20 : Steps p.tables e below sE (T11.setTop (mkF m 19 #[.val (.ref x0), .val (.ref x1)] [])) := st10.trans (sr11 _ (Steps.refl _))
  have st21 : Steps p.tables e below sE (T11.setTop (mkF m 21 #[.val (.ref x0), .val (.ref x1)] [(.ref x1), (.ref x0)])) := st20.trans (by
      show Steps _ _ _ (T11.setTop (mkF m 19 #[.val (.ref x0), .val (.ref x1)] [])) _
      refine XS.aloadN X11.here hx rfl (hb hby d4_19) rfl rfl ?_
      show Steps _ _ _ (T11.setTop (mkF m 20 #[.val (.ref x0), .val (.ref x1)] [(.ref x0)])) _
      refine XS.aloadN X11.here hx rfl (hb hby d4_20) rfl rfl ?_
      exact Steps.refl _)
  obtain ⟨T22, h22, X22, e22, W22, sr22⟩ := putF X11 hx hZ hown (host := "") (Or.inl (hw _ (List.mem_of_getElem? (i := 41) rfl))) Via.refl e11 f15 f12 (Or.inl (hw _ (List.mem_of_getElem? (i := 42) rfl))) (hw _ (List.mem_of_getElem? (i := 14) rfl)) (ty := (.object "com/example/tideloop/tideloop/Message")) (by decide) rfl rfl (g := (mkF m 21 #[.val (.ref x0), .val (.ref x1)] [(.ref x1), (.ref x0)])) rfl rfl (hb hby d4_21)
  have f23 : Exa Z h22 x0 "com/example/tideloop/tideloop/MessagePool" := f12.wr W22
  have f24 : Fld Z h22 x0 "com/example/tideloop/tideloop/MessagePool" "size" "I" (.int sz) := f13.other W22 (Or.inr (slot_ne (Or.inl (hw _ (List.mem_of_getElem? (i := 28) rfl))) (Or.inl (hw _ (List.mem_of_getElem? (i := 42) rfl))) (by decide) (t := .int) (t' := (.object "com/example/tideloop/tideloop/Message")) (by decide) (by decide)))
  have f25 : Fld Z h22 x0 "com/example/tideloop/tideloop/MessagePool" "capacity" "I" (.int cp) := f14.other W22 (Or.inr (slot_ne (Or.inr (hw _ (List.mem_of_getElem? (i := 21) rfl))) (Or.inl (hw _ (List.mem_of_getElem? (i := 42) rfl))) (by decide) (t := .int) (t' := (.object "com/example/tideloop/tideloop/Message")) (by decide) (by decide)))
  have f26 : Exa Z h22 x1 "com/example/tideloop/tideloop/Message" := f16.wr W22
  have f27 : Fld Z h22 x1 "com/example/tideloop/tideloop/Message" "what" "I" (.int w) := f17.other W22 (Or.inl ne)
  have f28 : Fld Z h22 x1 "com/example/tideloop/tideloop/Message" "nextPooled" "Lcom/example/tideloop/tideloop/Message;" .null := f18.other W22 (Or.inl ne)
  have f29 : Fld Z h22 x0 "com/example/tideloop/tideloop/MessagePool" "head" "Lcom/example/tideloop/tideloop/Message;" (.ref x1) := f15.same W22
  have K30 : Keep h0 h22 [x0, x1] := K19.wr W22 (Or.inl (List.mem_of_getElem? (i := 0) rfl))
  have Z22 : n0 ≤ h22.size := Nat.le_trans Z11 (Keep.of_wr W22).1
  have N22 := Fr.snoc X22 N11 g_x
  obtain ⟨LL22, X22, N22⟩ := own_hide X22 N22
  have st31 : Steps p.tables e below sE (T22.setTop (mkF m 24 #[.val (.ref x0), .val (.ref x1)] [])) := st21.trans (sr22 _ (Steps.refl _))
  have st32 : Steps p.tables e below sE (T22.setTop (mkF m 26 #[.val (.ref x0), .val (.ref x1)] [(.ref x0), (.ref x0)])) := st31.trans (by
      show Steps _ _ _ (T22.setTop (mkF m 24 #[.val (.ref x0), .val (.ref x1)] [])) _
      refine XS.aloadN X22.here hx rfl (hb hby d4_24) rfl rfl ?_
      show Steps _ _ _ (T22.setTop (mkF m 25 #[.val (.ref x0), .val (.ref x1)] [(.ref x0)])) _
      refine XS.dup X22.here hx rfl (hb hby d4_25) rfl rfl ?_
      exact Steps.refl _)
  obtain ⟨T33, X33, e33, sr33⟩ := getF X22 hx hZ hown (host := "") (Or.inl (hw _ (List.mem_of_getElem? (i := 27) rfl))) Via.refl e22 f24 (g := (mkF m 26 #[.val (.ref x0), .val (.ref x1)] [(.ref x0), (.ref x0)])) rfl rfl (hb hby d4_26)
  have st34 : Steps p.tables e below sE (T33.setTop (mkF m 29 #[.val (.ref x0), .val (.ref x1)] [(.int sz), (.ref x0)])) := st32.trans (sr33 _ (Steps.refl _))
  have st35 : Steps p.tables e below sE (T33.setTop (mkF m 31 #[.val (.ref x0), .val (.ref x1)] [(.int (sz + (1 : Int32))), (.ref x0)])) := st34.trans (by
      show Steps _ _ _ (T33.setTop (mkF m 29 #[.val (.ref x0), .val (.ref x1)] [(.int sz), (.ref x0)])) _
      refine XS.iconst X33.here hx rfl (hb hby d4_29) ?_
      show Steps _ _ _ (T33.setTop (mkF m 30 #[.val (.ref x0), .val (.ref x1)] [(.int (1 : Int32)), (.int sz), (.ref x0)])) _
      refine XS.iadd X33.here hx rfl (hb hby d4_30) rfl ?_
      exact Steps.refl _)
  obtain ⟨T36, h36, X36, e36, W36, sr36⟩ := putF X33 hx hZ hown (host := "") (Or.inl (hw _ (List.mem_of_getElem? (i := 27) rfl))) Via.refl e33 f24 f23 (Or.inl (hw _ (List.mem_of_getElem? (i := 28) rfl))) (hw _ (List.mem_of_getElem? (i := 14) rfl)) (ty := .int) (by decide) rfl rfl (g := (mkF m 31 #[.val (.ref x0), .val (.ref x1)] [(.int (sz + (1 : Int32))), (.ref x0)])) rfl rfl (hb hby d4_31)
  have f37 : Exa Z h36 x0 "com/example/tideloop/tideloop/MessagePool" := f23.wr W36
  have f38 : Fld Z h36 x0 "com/example/tideloop/tideloop/MessagePool" "capacity" "I" (.int cp) := f25.other W36 (Or.inr (slot_ne (Or.inr (hw _ (List.mem_of_getElem? (i := 21) rfl))) (Or.inl (hw _ (List.mem_of_getElem? (i := 28) rfl))) (by decide) (t := .int) (t' := .int) (by decide) (by decide)))
  have f39 : Exa Z h36 x1 "com/example/tideloop/tideloop/Message" := f26.wr W36
  have f40 : Fld Z h36 x1 "com/example/tideloop/tideloop/Message" "what" "I" (.int w) := f27.other W36 (Or.inl ne)
  have f41 : Fld Z h36 x1 "com/example/tideloop/tideloop/Message" "nextPooled" "Lcom/example/tideloop/tideloop/Message;" .null := f28.other W36 (Or.inl ne)
  have f42 : Fld Z h36 x0 "com/example/tideloop/tideloop/MessagePool" "head" "Lcom/example/tideloop/tideloop/Message;" (.ref x1) := f29.other W36 (Or.inr (slot_ne (Or.inl (hw _ (List.mem_of_getElem? (i := 42) rfl))) (Or.inl (hw _ (List.mem_of_getElem? (i := 28) rfl))) (by decide) (t := (.object "com/example/tideloop/tideloop/Message")) (t' := .int) (by decide) (by decide)))
  have f43 : Fld Z h36 x0 "com/example/tideloop/tideloop/MessagePool" "size" "I" (.int (sz + (1 : Int32))) := f24.same W36
  have K44 : Keep h0 h36 [x0, x1] := K30.wr W36 (Or.inl (List.mem_of_getElem? (i := 0) rfl))
  have Z36 : n0 ≤ h36.size := Nat.le_trans Z22 (Keep.of_wr W36).1
  have N36 := Fr.snoc X36 N22 g_x
  obtain ⟨LL36, X36, N36⟩ := own_hide X36 N36
  have st45 : Steps p.tables e below sE (T36.setTop (mkF m 34 #[.val (.ref x0), .val (.ref x1)] [])) := st35.trans (sr36 _ (Steps.refl _))
  obtain ⟨fs, hr, hrun, hended, hW, hsame⟩ := X36.leave (v := none) (fun _ => rfl)
  refine ⟨_, _, (own_ent hsE st45).trans ?_, hrun, hended, _, _, rfl, ?_, ⟨_, rfl⟩, hW, hsame.mono (by decide) (by decide)⟩
  · exact X36.returnOut hx Bd.returns (hb hby d4_34) hr
  · show Qky0 Z x0 x1 sz cp w nx h0 n0 _ T36.heap _
    rw [e36]
    exact ⟨rfl, N36, K44, f37, f43, f38, f42, f39, f40, f41⟩
def Qky1 (Z : State) (x0 : Addr) (x1 : Addr) (sz : Int32) (cp : Int32) (w : Int32) (nx : Addr) (hd : Addr) (h0 : Heap) (n0 : Nat) (vE : Option Value) (hE : Heap) (LE : List Loc) : Prop := vE = none ∧ Fr n0 LE ∧ Keep h0 hE [x0, x1] ∧ Exa Z hE x0 "com/example/tideloop/tideloop/MessagePool" ∧ Fld Z hE x0 "com/example/tideloop/tideloop/MessagePool" "size" "I" (.int (sz + (1 : Int32))) ∧ Fld Z hE x0 "com/example/tideloop/tideloop/MessagePool" "capacity" "I" (.int cp) ∧ Fld Z hE x0 "com/example/tideloop/tideloop/MessagePool" "head" "Lcom/example/tideloop/tideloop/Message;" (.ref x1) ∧ Exa Z hE x1 "com/example/tideloop/tideloop/Message" ∧ Fld Z hE x1 "com/example/tideloop/tideloop/Message" "what" "I" (.int w) ∧ Fld Z hE x1 "com/example/tideloop/tideloop/Message" "nextPooled" "Lcom/example/tideloop/tideloop/Message;" (.ref hd)
set_option maxRecDepth 65536 in
set_option maxHeartbeats 40000000 in
theorem rmky1 (l : Launch) (Z : State) (a0 : Array Value) (hw : ∀ d ∈ tables_1, d.before a0 Z = true) (ws : List Jvm.Cond) (x0 : Addr) (x1 : Addr) (sz : Int32) (cp : Int32) (w : Int32) (nx : Addr) (hd : Addr) (h0 : Heap) (n0 : Nat) (Z0 : n0 ≤ h0.size) (E_x : Exa Z h0 x0 "com/example/tideloop/tideloop/MessagePool") (F_s : Fld Z h0 x0 "com/example/tideloop/tideloop/MessagePool" "size" "I" (.int sz)) (F_c : Fld Z h0 x0 "com/example/tideloop/tideloop/MessagePool" "capacity" "I" (.int cp)) (F_h : Fld Z h0 x0 "com/example/tideloop/tideloop/MessagePool" "head" "Lcom/example/tideloop/tideloop/Message;" (.ref hd)) (E_m : Exa Z h0 x1 "com/example/tideloop/tideloop/Message") (F_w : Fld Z h0 x1 "com/example/tideloop/tideloop/Message" "what" "I" (.int w)) (F_n : Fld Z h0 x1 "com/example/tideloop/tideloop/Message" "nextPooled" "Lcom/example/tideloop/tideloop/Message;" (.ref nx)) (g_x : n0 ≤ x0) (g_m : n0 ≤ x1) (ne : x1 ≠ x0) (hyes : sz < cp) :
    MetFree l (⟨"com/example/tideloop/tideloop/MessagePool", "keep", "(Lcom/example/tideloop/tideloop/Message;)V"⟩ : MethodName) (head1 (Jvm.Cond.code (⟨"com/example/tideloop/tideloop/MessagePool", "keep", "(Lcom/example/tideloop/tideloop/Message;)V"⟩ : MethodName) prog_24_method_4_code 2 none :: ws) ({ frames := 0, cells := 0, slots := 0, locals := 0 } : Room)) (fun a U => a = #[(.ref x0), (.ref x1)] ∧ Z.Warmed39 U.vm ∧ U.heap = h0) (fun _ _ _ _ _ => True) (fun _ U o U' => ∃ vE LE, o = .returned vE ∧ Qky1 Z x0 x1 sz cp w nx hd h0 n0 vE U'.heap LE ∧ FrameEnd U o U' LE ({ frames := 0, cells := 0, slots := 0, locals := 0 } : Room).cells ({ frames := 0, cells := 0, slots := 0, locals := 0 } : Room).slots) := by
  refine MetFree.of_bodySF (plainFor_of_name pn_1) hisR ?_
  intro p e s m args below meth c s₁ Bd hml0 hP hK
  obtain ⟨rfl, hZ, hh⟩ := hP
  have hx := Bd.exec
  have hby := Bd.bytes
  have hml : c.maxLocals = 2 := hml0
  have hown : s.vm.findClass "com/example/tideloop/tideloop/MessagePool" = some m.cls := findClass_of_methodNamed Bd.named
  have hnm := (name_of_methodNamed Bd.named Bd.method).1
  have X0 : Stand p l e ({ frames := 0, cells := 0, slots := 0, locals := 0 } : Room) s m #[(.ref x0), (.ref x1)] below meth c s₁ [] 0 0 := Stand.of_body Bd
  have e0 : s₁.heap = h0 := by rw [← hh, Bd.state]; rfl
  have N0 := Fr.nil n0
  obtain ⟨sE, hsE⟩ : ∃ z, z = (s₁.setTop (entryFrame m #[(.ref x0), (.ref x1)] 2)) := ⟨_, rfl⟩
  have st0 : Steps p.tables e below sE (s₁.setTop (mkF m 0 #[.val (.ref x0), .val (.ref x1)] [])) := by rw [hsE]; exact castTop (ef_kn m x0 x1) (Steps.refl _)
  have K0 : Keep h0 h0 [x0, x1] := Keep.refl _ _
  have st1 : Steps p.tables e below sE (s₁.setTop (mkF m 1 #[.val (.ref x0), .val (.ref x1)] [(.ref x0)])) := st0.trans (by
      show Steps _ _ _ (s₁.setTop (mkF m 0 #[.val (.ref x0), .val (.ref x1)] [])) _
      refine XS.aloadN X0.here hx rfl (hb hby d4_0) rfl rfl ?_
      exact Steps.refl _)
  obtain ⟨T2, X2, e2, sr2⟩ := getF X0 hx hZ hown (host := "") (Or.inl (hw _ (List.mem_of_getElem? (i := 27) rfl))) Via.refl e0 F_s (g := (mkF m 1 #[.val (.ref x0), .val (.ref x1)] [(.ref x0)])) rfl rfl (hb hby d4_1)
  have st3 : Steps p.tables e below sE (T2.setTop (mkF m 4 #[.val (.ref x0), .val (.ref x1)] [(.int sz)])) := st1.trans (sr2 _ (Steps.refl _))
  have st4 : Steps p.tables e below sE (T2.setTop (mkF m 5 #[.val (.ref x0), .val (.ref x1)] [(.ref x0), (.int sz)])) := st3.trans (by
      show Steps _ _ _ (T2.setTop (mkF m 4 #[.val (.ref x0), .val (.ref x1)] [(.int sz)])) _
      refine XS.aloadN X2.here hx rfl (hb hby d4_4) rfl rfl ?_
      exact Steps.refl _)
  obtain ⟨T5, X5, e5, sr5⟩ := getF X2 hx hZ hown (host := "") (Or.inl (hw _ (List.mem_of_getElem? (i := 20) rfl))) Via.refl e2 F_c (g := (mkF m 5 #[.val (.ref x0), .val (.ref x1)] [(.ref x0), (.int sz)])) rfl rfl (hb hby d4_5)
  have st6 : Steps p.tables e below sE (T5.setTop (mkF m 8 #[.val (.ref x0), .val (.ref x1)] [(.int cp), (.int sz)])) := st4.trans (sr5 _ (Steps.refl _))
  have hf7 : sz < cp := hyes
  have st8 : Steps p.tables e below sE (T5.setTop (mkF m 13 #[.val (.ref x0), .val (.ref x1)] [(.ref x0), (.ref x1)])) := st6.trans (by
      show Steps _ _ _ (T5.setTop (mkF m 8 #[.val (.ref x0), .val (.ref x1)] [(.int cp), (.int sz)])) _
      refine XS.icmpNo X5.here hx rfl (hb hby d4_8) rfl (tlt hf7).2.1 ?_
      show Steps _ _ _ (T5.setTop (mkF m 11 #[.val (.ref x0), .val (.ref x1)] [])) _
      refine XS.aloadN X5.here hx rfl (hb hby d4_11) rfl rfl ?_
      show Steps _ _ _ (T5.setTop (mkF m 12 #[.val (.ref x0), .val (.ref x1)] [(.ref x1)])) _
      refine XS.aloadN X5.here hx rfl (hb hby d4_12) rfl rfl ?_
      exact Steps.refl _)
  obtain ⟨T9, X9, e9, sr9⟩ := getF X5 hx hZ hown (host := "") (Or.inl (hw _ (List.mem_of_getElem? (i := 41) rfl))) Via.refl e5 F_h (g := (mkF m 13 #[.val (.ref x0), .val (.ref x1)] [(.ref x0), (.ref x1)])) rfl rfl (hb hby d4_13)
  have st10 : Steps p.tables e below sE (T9.setTop (mkF m 16 #[.val (.ref x0), .val (.ref x1)] [(.ref hd), (.ref x1)])) := st8.trans (sr9 _ (Steps.refl _))
  obtain ⟨T11, h11, X11, e11, W11, sr11⟩ := putF X9 hx hZ hown (host := "") (Or.inl (hw _ (List.mem_of_getElem? (i := 49) rfl))) Via.refl e9 F_n E_m (Or.inl (hw _ (List.mem_of_getElem? (i := 12) rfl))) (hw _ (List.mem_of_getElem? (i := 1) rfl)) (ty := (.object "com/example/tideloop/tideloop/Message")) (by decide) rfl rfl (g := (mkF m 16 #[.val (.ref x0), .val (.ref x1)] [(.ref hd), (.ref x1)])) rfl rfl (hb hby d4_16)
  have f12 : Exa Z h11 x0 "com/example/tideloop/tideloop/MessagePool" := E_x.wr W11
  have f13 : Fld Z h11 x0 "com/example/tideloop/tideloop/MessagePool" "size" "I" (.int sz) := F_s.other W11 (Or.inl (Ne.symm ne))
  have f14 : Fld Z h11 x0 "com/example/tideloop/tideloop/MessagePool" "capacity" "I" (.int cp) := F_c.other W11 (Or.inl (Ne.symm ne))
  have f15 : Fld Z h11 x0 "com/example/tideloop/tideloop/MessagePool" "head" "Lcom/example/tideloop/tideloop/Message;" (.ref hd) := F_h.other W11 (Or.inl (Ne.symm ne))
  have f16 : Exa Z h11 x1 "com/example/tideloop/tideloop/Message" := E_m.wr W11
  have f17 : Fld Z h11 x1 "com/example/tideloop/tideloop/Message" "what" "I" (.int w) := F_w.other W11 (Or.inr (slot_ne (Or.inl (hw _ (List.mem_of_getElem? (i := 10) rfl))) (Or.inl (hw _ (List.mem_of_getElem? (i := 12) rfl))) (by decide) (t := .int) (t' := (.object "com/example/tideloop/tideloop/Message")) (by decide) (by decide)))
  have f18 : Fld Z h11 x1 "com/example/tideloop/tideloop/Message" "nextPooled" "Lcom/example/tideloop/tideloop/Message;" (.ref hd) := F_n.same W11
  have K19 : Keep h0 h11 [x0, x1] := K0.wr W11 (Or.inl (List.mem_of_getElem? (i := 1) rfl))
  have Z11 : n0 ≤ h11.size := Nat.le_trans Z0 (Keep.of_wr W11).1
  have N11 := Fr.snoc X11 N0 g_m
  obtain ⟨LL11, X11, N11⟩ := own_hide X11 N11
  have st20 : Steps p.tables e below sE (T11.setTop (mkF m 19 #[.val (.ref x0), .val (.ref x1)] [])) := st10.trans (sr11 _ (Steps.refl _))
  have st21 : Steps p.tables e below sE (T11.setTop (mkF m 21 #[.val (.ref x0), .val (.ref x1)] [(.ref x1), (.ref x0)])) := st20.trans (by
      show Steps _ _ _ (T11.setTop (mkF m 19 #[.val (.ref x0), .val (.ref x1)] [])) _
      refine XS.aloadN X11.here hx rfl (hb hby d4_19) rfl rfl ?_
      show Steps _ _ _ (T11.setTop (mkF m 20 #[.val (.ref x0), .val (.ref x1)] [(.ref x0)])) _
      refine XS.aloadN X11.here hx rfl (hb hby d4_20) rfl rfl ?_
      exact Steps.refl _)
  obtain ⟨T22, h22, X22, e22, W22, sr22⟩ := putF X11 hx hZ hown (host := "") (Or.inl (hw _ (List.mem_of_getElem? (i := 41) rfl))) Via.refl e11 f15 f12 (Or.inl (hw _ (List.mem_of_getElem? (i := 42) rfl))) (hw _ (List.mem_of_getElem? (i := 14) rfl)) (ty := (.object "com/example/tideloop/tideloop/Message")) (by decide) rfl rfl (g := (mkF m 21 #[.val (.ref x0), .val (.ref x1)] [(.ref x1), (.ref x0)])) rfl rfl (hb hby d4_21)
  have f23 : Exa Z h22 x0 "com/example/tideloop/tideloop/MessagePool" := f12.wr W22
  have f24 : Fld Z h22 x0 "com/example/tideloop/tideloop/MessagePool" "size" "I" (.int sz) := f13.other W22 (Or.inr (slot_ne (Or.inl (hw _ (List.mem_of_getElem? (i := 28) rfl))) (Or.inl (hw _ (List.mem_of_getElem? (i := 42) rfl))) (by decide) (t := .int) (t' := (.object "com/example/tideloop/tideloop/Message")) (by decide) (by decide)))
  have f25 : Fld Z h22 x0 "com/example/tideloop/tideloop/MessagePool" "capacity" "I" (.int cp) := f14.other W22 (Or.inr (slot_ne (Or.inr (hw _ (List.mem_of_getElem? (i := 21) rfl))) (Or.inl (hw _ (List.mem_of_getElem? (i := 42) rfl))) (by decide) (t := .int) (t' := (.object "com/example/tideloop/tideloop/Message")) (by decide) (by decide)))
  have f26 : Exa Z h22 x1 "com/example/tideloop/tideloop/Message" := f16.wr W22
  have f27 : Fld Z h22 x1 "com/example/tideloop/tideloop/Message" "what" "I" (.int w) := f17.other W22 (Or.inl ne)
  have f28 : Fld Z h22 x1 "com/example/tideloop/tideloop/Message" "nextPooled" "Lcom/example/tideloop/tideloop/Message;" (.ref hd) := f18.other W22 (Or.inl ne)
  have f29 : Fld Z h22 x0 "com/example/tideloop/tideloop/MessagePool" "head" "Lcom/example/tideloop/tideloop/Message;" (.ref x1) := f15.same W22
  have K30 : Keep h0 h22 [x0, x1] := K19.wr W22 (Or.inl (List.mem_of_getElem? (i := 0) rfl))
  have Z22 : n0 ≤ h22.size := Nat.le_trans Z11 (Keep.of_wr W22).1
  have N22 := Fr.snoc X22 N11 g_x
  obtain ⟨LL22, X22, N22⟩ := own_hide X22 N22
  have st31 : Steps p.tables e below sE (T22.setTop (mkF m 24 #[.val (.ref x0), .val (.ref x1)] [])) := st21.trans (sr22 _ (Steps.refl _))
  have st32 : Steps p.tables e below sE (T22.setTop (mkF m 26 #[.val (.ref x0), .val (.ref x1)] [(.ref x0), (.ref x0)])) := st31.trans (by
      show Steps _ _ _ (T22.setTop (mkF m 24 #[.val (.ref x0), .val (.ref x1)] [])) _
      refine XS.aloadN X22.here hx rfl (hb hby d4_24) rfl rfl ?_
      show Steps _ _ _ (T22.setTop (mkF m 25 #[.val (.ref x0), .val (.ref x1)] [(.ref x0)])) _
      refine XS.dup X22.here hx rfl (hb hby d4_25) rfl rfl ?_
      exact Steps.refl _)
  obtain ⟨T33, X33, e33, sr33⟩ := getF X22 hx hZ hown (host := "") (Or.inl (hw _ (List.mem_of_getElem? (i := 27) rfl))) Via.refl e22 f24 (g := (mkF m 26 #[.val (.ref x0), .val (.ref x1)] [(.ref x0), (.ref x0)])) rfl rfl (hb hby d4_26)
  have st34 : Steps p.tables e below sE (T33.setTop (mkF m 29 #[.val (.ref x0), .val (.ref x1)] [(.int sz), (.ref x0)])) := st32.trans (sr33 _ (Steps.refl _))
  have st35 : Steps p.tables e below sE (T33.setTop (mkF m 31 #[.val (.ref x0), .val (.ref x1)] [(.int (sz + (1 : Int32))), (.ref x0)])) := st34.trans (by
      show Steps _ _ _ (T33.setTop (mkF m 29 #[.val (.ref x0), .val (.ref x1)] [(.int sz), (.ref x0)])) _
      refine XS.iconst X33.here hx rfl (hb hby d4_29) ?_
      show Steps _ _ _ (T33.setTop (mkF m 30 #[.val (.ref x0), .val (.ref x1)] [(.int (1 : Int32)), (.int sz), (.ref x0)])) _
      refine XS.iadd X33.here hx rfl (hb hby d4_30) rfl ?_
      exact Steps.refl _)
  obtain ⟨T36, h36, X36, e36, W36, sr36⟩ := putF X33 hx hZ hown (host := "") (Or.inl (hw _ (List.mem_of_getElem? (i := 27) rfl))) Via.refl e33 f24 f23 (Or.inl (hw _ (List.mem_of_getElem? (i := 28) rfl))) (hw _ (List.mem_of_getElem? (i := 14) rfl)) (ty := .int) (by decide) rfl rfl (g := (mkF m 31 #[.val (.ref x0), .val (.ref x1)] [(.int (sz + (1 : Int32))), (.ref x0)])) rfl rfl (hb hby d4_31)
  have f37 : Exa Z h36 x0 "com/example/tideloop/tideloop/MessagePool" := f23.wr W36
  have f38 : Fld Z h36 x0 "com/example/tideloop/tideloop/MessagePool" "capacity" "I" (.int cp) := f25.other W36 (Or.inr (slot_ne (Or.inr (hw _ (List.mem_of_getElem? (i := 21) rfl))) (Or.inl (hw _ (List.mem_of_getElem? (i := 28) rfl))) (by decide) (t := .int) (t' := .int) (by decide) (by decide)))
  have f39 : Exa Z h36 x1 "com/example/tideloop/tideloop/Message" := f26.wr W36
  have f40 : Fld Z h36 x1 "com/example/tideloop/tideloop/Message" "what" "I" (.int w) := f27.other W36 (Or.inl ne)
  have f41 : Fld Z h36 x1 "com/example/tideloop/tideloop/Message" "nextPooled" "Lcom/example/tideloop/tideloop/Message;" (.ref hd) := f28.other W36 (Or.inl ne)
  have f42 : Fld Z h36 x0 "com/example/tideloop/tideloop/MessagePool" "head" "Lcom/example/tideloop/tideloop/Message;" (.ref x1) := f29.other W36 (Or.inr (slot_ne (Or.inl (hw _ (List.mem_of_getElem? (i := 42) rfl))) (Or.inl (hw _ (List.mem_of_getElem? (i := 28) rfl))) (by decide) (t := (.object "com/example/tideloop/tideloop/Message")) (t' := .int) (by decide) (by decide)))
  have f43 : Fld Z h36 x0 "com/example/tideloop/tideloop/MessagePool" "size" "I" (.int (sz + (1 : Int32))) := f24.same W36
  have K44 : Keep h0 h36 [x0, x1] := K30.wr W36 (Or.inl (List.mem_of_getElem? (i := 0) rfl))
  have Z36 : n0 ≤ h36.size := Nat.le_trans Z22 (Keep.of_wr W36).1
  have N36 := Fr.snoc X36 N22 g_x
  obtain ⟨LL36, X36, N36⟩ := own_hide X36 N36
  have st45 : Steps p.tables e below sE (T36.setTop (mkF m 34 #[.val (.ref x0), .val (.ref x1)] [])) := st35.trans (sr36 _ (Steps.refl _))
  obtain ⟨fs, hr, hrun, hended, hW, hsame⟩ := X36.leave (v := none) (fun _ => rfl)
  refine ⟨_, _, (own_ent hsE st45).trans ?_, hrun, hended, _, _, rfl, ?_, ⟨_, rfl⟩, hW, hsame.mono (by decide) (by decide)⟩
  · exact X36.returnOut hx Bd.returns (hb hby d4_34) hr
  · show Qky1 Z x0 x1 sz cp w nx hd h0 n0 _ T36.heap _
    rw [e36]
    exact ⟨rfl, N36, K44, f37, f43, f38, f42, f39, f40, f41⟩
theorem pd_0 : parseMethodDescriptor "()V" = some ⟨[], none⟩ := by decide +kernel
theorem d7_0 : decode prog_24_method_2_code 0 = .ok (.aload_n 0, 1) := by decide +kernel
theorem d7_1 : decode prog_24_method_2_code 1 = .ok (.getfield 13, 3) := by decide +kernel
theorem d7_4 : decode prog_24_method_2_code 4 = .ok (.astore_n 1, 1) := by decide +kernel
theorem d7_5 : decode prog_24_method_2_code 5 = .ok (.aload_n 1, 1) := by decide +kernel
theorem d7_6 : decode prog_24_method_2_code 6 = .ok (.ifnonnull 14, 3) := by decide +kernel
theorem d7_9 : decode prog_24_method_2_code 9 = .ok (.new 17, 3) := by decide +kernel
theorem d7_12 : decode prog_24_method_2_code 12 = .ok (.dup, 1) := by decide +kernel
theorem d7_13 : decode prog_24_method_2_code 13 = .ok (.invokespecial 19, 3) := by decide +kernel
theorem d7_16 : decode prog_24_method_2_code 16 = .ok (.astore_n 1, 1) := by decide +kernel
theorem d7_17 : decode prog_24_method_2_code 17 = .ok (.goto 26, 3) := by decide +kernel
theorem d7_43 : decode prog_24_method_2_code 43 = .ok (.aload_n 1, 1) := by decide +kernel
theorem d7_44 : decode prog_24_method_2_code 44 = .ok (.areturn, 1) := by decide +kernel
theorem ef_tk0 (m : MethodId) (x0 : Addr)  : entryFrame m #[(.ref x0)] 2 = mkF m 0 #[.val (.ref x0), .unset] [] := by first | (simp [entryFrame, mkF, argsToLocals, Value.category]; done) | rfl
def Qtk0 (Z : State) (x0 : Addr) (h0 : Heap) (n0 : Nat) (vE : Option Value) (hE : Heap) (LE : List Loc) : Prop := vE = some (.ref h0.size) ∧ Fr n0 LE ∧ Keep h0 hE [] ∧ (Exa Z hE h0.size "com/example/tideloop/tideloop/Message" ∧ Fld Z hE h0.size "com/example/tideloop/tideloop/Message" "nextPooled" "Lcom/example/tideloop/tideloop/Message;" .null ∧ Fld Z hE h0.size "com/example/tideloop/tideloop/Message" "what" "I" (.int (0 : Int32)))
set_option maxRecDepth 65536 in
set_option maxHeartbeats 40000000 in
theorem rmtk0 (l : Launch) (Z : State) (a0 : Array Value) (hw : ∀ d ∈ tables_1, d.before a0 Z = true) (ws : List Jvm.Cond) (x0 : Addr) (h0 : Heap) (n0 : Nat) (Z0 : n0 ≤ h0.size) (E_x : Exa Z h0 x0 "com/example/tideloop/tideloop/MessagePool") (F_h : Fld Z h0 x0 "com/example/tideloop/tideloop/MessagePool" "head" "Lcom/example/tideloop/tideloop/Message;" .null) :
    MetFree l (⟨"com/example/tideloop/tideloop/MessagePool", "take", "()Lcom/example/tideloop/tideloop/Message;"⟩ : MethodName) (head1 (Jvm.Cond.code (⟨"com/example/tideloop/tideloop/MessagePool", "take", "()Lcom/example/tideloop/tideloop/Message;"⟩ : MethodName) prog_24_method_2_code 2 (some (.object "com/example/tideloop/tideloop/Message")) :: ws) ({ frames := 2, cells := 1, slots := 19, locals := 25 } : Room)) (fun a U => a = #[(.ref x0)] ∧ Z.Warmed39 U.vm ∧ U.heap = h0) (fun _ _ _ _ _ => True) (fun _ U o U' => ∃ vE LE, o = .returned vE ∧ Qtk0 Z x0 h0 n0 vE U'.heap LE ∧ FrameEnd U o U' LE ({ frames := 2, cells := 1, slots := 19, locals := 25 } : Room).cells ({ frames := 2, cells := 1, slots := 19, locals := 25 } : Room).slots) := by
  refine MetFree.of_bodySF (plainFor_of_name pn_1) hisR ?_
  intro p e s m args below meth c s₁ Bd hml0 hP hK
  obtain ⟨rfl, hZ, hh⟩ := hP
  have hx := Bd.exec
  have hby := Bd.bytes
  have hml : c.maxLocals = 2 := hml0
  have hown : s.vm.findClass "com/example/tideloop/tideloop/MessagePool" = some m.cls := findClass_of_methodNamed Bd.named
  have hnm := (name_of_methodNamed Bd.named Bd.method).1
  have X0 : Stand p l e ({ frames := 2, cells := 1, slots := 19, locals := 25 } : Room) s m #[(.ref x0)] below meth c s₁ [] 0 0 := Stand.of_body Bd
  have e0 : s₁.heap = h0 := by rw [← hh, Bd.state]; rfl
  have N0 := Fr.nil n0
  obtain ⟨sE, hsE⟩ : ∃ z, z = (s₁.setTop (entryFrame m #[(.ref x0)] 2)) := ⟨_, rfl⟩
  have st0 : Steps p.tables e below sE (s₁.setTop (mkF m 0 #[.val (.ref x0), .unset] [])) := by rw [hsE]; exact castTop (ef_tk0 m x0) (Steps.refl _)
  have K0 : Keep h0 h0 [] := Keep.refl _ _
  have st1 : Steps p.tables e below sE (s₁.setTop (mkF m 1 #[.val (.ref x0), .unset] [(.ref x0)])) := st0.trans (by
      show Steps _ _ _ (s₁.setTop (mkF m 0 #[.val (.ref x0), .unset] [])) _
      refine XS.aloadN X0.here hx rfl (hb hby d7_0) rfl rfl ?_
      exact Steps.refl _)
  obtain ⟨T2, X2, e2, sr2⟩ := getF X0 hx hZ hown (host := "") (Or.inl (hw _ (List.mem_of_getElem? (i := 41) rfl))) Via.refl e0 F_h (g := (mkF m 1 #[.val (.ref x0), .unset] [(.ref x0)])) rfl rfl (hb hby d7_1)
  have st3 : Steps p.tables e below sE (T2.setTop (mkF m 4 #[.val (.ref x0), .unset] [.null])) := st1.trans (sr2 _ (Steps.refl _))
  have st4 : Steps p.tables e below sE (T2.setTop (mkF m 9 #[.val (.ref x0), .val .null] [])) := st3.trans (by
      show Steps _ _ _ (T2.setTop (mkF m 4 #[.val (.ref x0), .unset] [.null])) _
      refine XS.astoreN X2.here hx rfl (hb hby d7_4) rfl rfl (l' := #[.val (.ref x0), .val .null]) rfl ?_
      show Steps _ _ _ (T2.setTop (mkF m 5 #[.val (.ref x0), .val .null] [])) _
      refine XS.aloadN X2.here hx rfl (hb hby d7_5) rfl rfl ?_
      show Steps _ _ _ (T2.setTop (mkF m 6 #[.val (.ref x0), .val .null] [.null])) _
      refine XS.ifnonnullNo X2.here hx rfl (hb hby d7_6) rfl ?_
      exact Steps.refl _)
  obtain ⟨T5, h5, X5, e5, E5, A5, D5, -, sr5⟩ := newO X2 hx hZ hown (hw _ (List.mem_of_getElem? (i := 43) rfl)) (hw _ (List.mem_of_getElem? (i := 1) rfl)) (hw _ (List.mem_of_getElem? (i := 2) rfl)) e2 (g := (mkF m 9 #[.val (.ref x0), .val .null] [])) rfl (hb hby d7_9) (by decide) (by decide)
  obtain ⟨b5, g5⟩ : ∃ z, z = h0.size := ⟨_, rfl⟩
  rw [← g5] at A5 D5 sr5
  have g_b5 : n0 ≤ b5 := Nat.le_trans Z0 (Nat.le_of_eq g5.symm)
  have sz_b5 : h0.size ≤ b5 := Nat.le_trans K0.1 (Nat.le_of_eq g5.symm)
  have ne_x0_b5 : x0 ≠ b5 := Nat.ne_of_lt (Nat.lt_of_lt_of_le E_x.lt (Nat.le_of_eq g5.symm))
  have f6 : Exa Z h5 x0 "com/example/tideloop/tideloop/MessagePool" := E_x.ext E5
  have f7 : Fld Z h5 x0 "com/example/tideloop/tideloop/MessagePool" "head" "Lcom/example/tideloop/tideloop/Message;" .null := F_h.ext E5
  have K8 : Keep h0 h5 [] := K0.ext E5
  have f9 : Fld Z h5 b5 "com/example/tideloop/tideloop/Message" "what" "I" (.int (0 : Int32)) := D5 (Or.inl (hw _ (List.mem_of_getElem? (i := 10) rfl))) (ty := .int) (by decide)
  have f10 : Fld Z h5 b5 "com/example/tideloop/tideloop/Message" "nextPooled" "Lcom/example/tideloop/tideloop/Message;" .null := D5 (Or.inl (hw _ (List.mem_of_getElem? (i := 12) rfl))) (ty := (.object "com/example/tideloop/tideloop/Message")) (by decide)
  have Z5 : n0 ≤ h5.size := Nat.le_trans Z0 E5.1
  have st11 : Steps p.tables e below sE (T5.setTop (mkF m 12 #[.val (.ref x0), .val .null] [(.ref b5)])) := st4.trans (sr5 _ (Steps.refl _))
  have st12 : Steps p.tables e below sE (T5.setTop (mkF m 13 #[.val (.ref x0), .val .null] [(.ref b5), (.ref b5)])) := st11.trans (by
      show Steps _ _ _ (T5.setTop (mkF m 12 #[.val (.ref x0), .val .null] [(.ref b5)])) _
      refine XS.dup X5.here hx rfl (hb hby d7_12) rfl rfl ?_
      exact Steps.refl _)
  obtain ⟨_, _, ⟨T13, L13, k13, n13⟩, -, X13, ⟨Lc13, hQ13, l13, y13, z13⟩, sr13⟩ := X5.specialBack hx (y := (⟨"com/example/tideloop/tideloop/Message", "<init>", "()V"⟩ : MethodName)) rfl hown (mvT hZ (hw _ (List.mem_of_getElem? (i := 44) rfl))) (mvT hZ (hw _ (List.mem_of_getElem? (i := 4) rfl))) (mvT hZ (hw _ (List.mem_of_getElem? (i := 5) rfl))) (by decide) (backOf (W := 1) (rm1 l Z a0 hw [] b5  h5 n0 Z5 A5) hZ (hw _ (List.mem_of_getElem? (i := 5) rfl)) (hw _ (List.mem_of_getElem? (i := 2) rfl)) (by decide) (by decide)) (g := (mkF m 13 #[.val (.ref x0), .val .null] [(.ref b5), (.ref b5)])) rfl (by rw [hml]; rfl) (Steps.refl _) (a := b5) (argsL := []) (rest := [(.ref b5)]) (lenOf pd_0 rfl) rfl (by show 2 * 0 + _ ≤ _; exact Nat.le_of_eq rfl) (hb hby d7_13) (fun _ _ => ⟨rfl, e5, (by decide : 1 + 0 ≤ _), (by decide : 19 + 0 ≤ _)⟩)
  dsimp only [Pt.U, Pt.locs, Pt.cells, Pt.slots] at X13 l13 y13 z13 sr13 hQ13
  subst l13 y13 z13
  obtain ⟨rfl, N13q, hh13⟩ := hQ13
  have N13 := Fr.app N0 N13q
  obtain ⟨LL13, X13, N13⟩ := own_hide X13 N13
  have st14 : Steps p.tables e below sE (T13.setTop (mkF m 16 #[.val (.ref x0), .val .null] [(.ref b5)])) := st12.trans (sr13)
  have st15 : Steps p.tables e below sE (T13.setTop (mkF m 44 #[.val (.ref x0), .val (.ref b5)] [(.ref b5)])) := st14.trans (by
      show Steps _ _ _ (T13.setTop (mkF m 16 #[.val (.ref x0), .val .null] [(.ref b5)])) _
      refine XS.astoreN X13.here hx rfl (hb hby d7_16) rfl rfl (l' := #[.val (.ref x0), .val (.ref b5)]) rfl ?_
      show Steps _ _ _ (T13.setTop (mkF m 17 #[.val (.ref x0), .val (.ref b5)] [])) _
      refine XS.goto X13.here hx rfl (pc0 := 17) (pc' := 43) rfl (hb hby d7_17) (by decide) (by decide) ?_
      show Steps _ _ _ (T13.setTop (mkF m 43 #[.val (.ref x0), .val (.ref b5)] [])) _
      refine XS.aloadN X13.here hx rfl (hb hby d7_43) rfl rfl ?_
      exact Steps.refl _)
  obtain ⟨fs, hr, hrun, hended, hW, hsame⟩ := X13.leave (v := some (.ref b5)) (fun h => by rw [Bd.returns] at h; cases h)
  refine ⟨_, _, (own_ent hsE st15).trans ?_, hrun, hended, _, _, rfl, ?_, ⟨_, rfl⟩, hW, hsame.mono (by decide) (by decide)⟩
  · exact retOut X13 hx (t := (.object "com/example/tideloop/tideloop/Message")) Bd.returns rfl (Or.inr (Or.inr (Or.inr (Or.inr ⟨rfl, rfl, rfl⟩)))) (hb hby d7_44) hr
  · show Qtk0 Z x0 h0 n0 _ T13.heap _
    rw [hh13]
    exact ⟨by rw [g5], N13, K8, ⟨by rw [← g5]; exact A5, by rw [← g5]; exact f10, by rw [← g5]; exact f9⟩⟩
theorem d7_20 : decode prog_24_method_2_code 20 = .ok (.aload_n 0, 1) := by decide +kernel
theorem d7_21 : decode prog_24_method_2_code 21 = .ok (.aload_n 1, 1) := by decide +kernel
theorem d7_22 : decode prog_24_method_2_code 22 = .ok (.getfield 20, 3) := by decide +kernel
theorem d7_25 : decode prog_24_method_2_code 25 = .ok (.putfield 13, 3) := by decide +kernel
theorem d7_28 : decode prog_24_method_2_code 28 = .ok (.aload_n 1, 1) := by decide +kernel
theorem d7_29 : decode prog_24_method_2_code 29 = .ok (.aconst_null, 1) := by decide +kernel
theorem d7_30 : decode prog_24_method_2_code 30 = .ok (.putfield 20, 3) := by decide +kernel
theorem d7_33 : decode prog_24_method_2_code 33 = .ok (.aload_n 0, 1) := by decide +kernel
theorem d7_34 : decode prog_24_method_2_code 34 = .ok (.dup, 1) := by decide +kernel
theorem d7_35 : decode prog_24_method_2_code 35 = .ok (.getfield 23, 3) := by decide +kernel
theorem d7_38 : decode prog_24_method_2_code 38 = .ok (.iconst 1, 1) := by decide +kernel
theorem d7_39 : decode prog_24_method_2_code 39 = .ok (.isub, 1) := by decide +kernel
theorem d7_40 : decode prog_24_method_2_code 40 = .ok (.putfield 23, 3) := by decide +kernel
def Qtk1 (Z : State) (x0 : Addr) (sz : Int32) (cp : Int32) (w : Int32) (hd : Addr) (h0 : Heap) (n0 : Nat) (vE : Option Value) (hE : Heap) (LE : List Loc) : Prop := vE = some (.ref hd) ∧ Fr n0 LE ∧ Keep h0 hE [x0, hd] ∧ Exa Z hE x0 "com/example/tideloop/tideloop/MessagePool" ∧ Fld Z hE x0 "com/example/tideloop/tideloop/MessagePool" "size" "I" (.int (sz - (1 : Int32))) ∧ Fld Z hE x0 "com/example/tideloop/tideloop/MessagePool" "capacity" "I" (.int cp) ∧ Fld Z hE x0 "com/example/tideloop/tideloop/MessagePool" "head" "Lcom/example/tideloop/tideloop/Message;" .null ∧ Exa Z hE hd "com/example/tideloop/tideloop/Message" ∧ Fld Z hE hd "com/example/tideloop/tideloop/Message" "what" "I" (.int w) ∧ Fld Z hE hd "com/example/tideloop/tideloop/Message" "nextPooled" "Lcom/example/tideloop/tideloop/Message;" .null
set_option maxRecDepth 65536 in
set_option maxHeartbeats 40000000 in
theorem rmtk1 (l : Launch) (Z : State) (a0 : Array Value) (hw : ∀ d ∈ tables_1, d.before a0 Z = true) (ws : List Jvm.Cond) (x0 : Addr) (sz : Int32) (cp : Int32) (w : Int32) (hd : Addr) (h0 : Heap) (n0 : Nat) (Z0 : n0 ≤ h0.size) (E_x : Exa Z h0 x0 "com/example/tideloop/tideloop/MessagePool") (F_s : Fld Z h0 x0 "com/example/tideloop/tideloop/MessagePool" "size" "I" (.int sz)) (F_c : Fld Z h0 x0 "com/example/tideloop/tideloop/MessagePool" "capacity" "I" (.int cp)) (F_h : Fld Z h0 x0 "com/example/tideloop/tideloop/MessagePool" "head" "Lcom/example/tideloop/tideloop/Message;" (.ref hd)) (E_m : Exa Z h0 hd "com/example/tideloop/tideloop/Message") (F_w : Fld Z h0 hd "com/example/tideloop/tideloop/Message" "what" "I" (.int w)) (g_x : n0 ≤ x0) (g_m : n0 ≤ hd) (ne : hd ≠ x0) (F_n : Fld Z h0 hd "com/example/tideloop/tideloop/Message" "nextPooled" "Lcom/example/tideloop/tideloop/Message;" .null) :
    MetFree l (⟨"com/example/tideloop/tideloop/MessagePool", "take", "()Lcom/example/tideloop/tideloop/Message;"⟩ : MethodName) (head1 (Jvm.Cond.code (⟨"com/example/tideloop/tideloop/MessagePool", "take", "()Lcom/example/tideloop/tideloop/Message;"⟩ : MethodName) prog_24_method_2_code 2 (some (.object "com/example/tideloop/tideloop/Message")) :: ws) ({ frames := 0, cells := 0, slots := 0, locals := 0 } : Room)) (fun a U => a = #[(.ref x0)] ∧ Z.Warmed39 U.vm ∧ U.heap = h0) (fun _ _ _ _ _ => True) (fun _ U o U' => ∃ vE LE, o = .returned vE ∧ Qtk1 Z x0 sz cp w hd h0 n0 vE U'.heap LE ∧ FrameEnd U o U' LE ({ frames := 0, cells := 0, slots := 0, locals := 0 } : Room).cells ({ frames := 0, cells := 0, slots := 0, locals := 0 } : Room).slots) := by
  refine MetFree.of_bodySF (plainFor_of_name pn_1) hisR ?_
  intro p e s m args below meth c s₁ Bd hml0 hP hK
  obtain ⟨rfl, hZ, hh⟩ := hP
  have hx := Bd.exec
  have hby := Bd.bytes
  have hml : c.maxLocals = 2 := hml0
  have hown : s.vm.findClass "com/example/tideloop/tideloop/MessagePool" = some m.cls := findClass_of_methodNamed Bd.named
  have hnm := (name_of_methodNamed Bd.named Bd.method).1
  have X0 : Stand p l e ({ frames := 0, cells := 0, slots := 0, locals := 0 } : Room) s m #[(.ref x0)] below meth c s₁ [] 0 0 := Stand.of_body Bd
  have e0 : s₁.heap = h0 := by rw [← hh, Bd.state]; rfl
  have N0 := Fr.nil n0
  obtain ⟨sE, hsE⟩ : ∃ z, z = (s₁.setTop (entryFrame m #[(.ref x0)] 2)) := ⟨_, rfl⟩
  have st0 : Steps p.tables e below sE (s₁.setTop (mkF m 0 #[.val (.ref x0), .unset] [])) := by rw [hsE]; exact castTop (ef_tk0 m x0) (Steps.refl _)
  have K0 : Keep h0 h0 [x0, hd] := Keep.refl _ _
  have st1 : Steps p.tables e below sE (s₁.setTop (mkF m 1 #[.val (.ref x0), .unset] [(.ref x0)])) := st0.trans (by
      show Steps _ _ _ (s₁.setTop (mkF m 0 #[.val (.ref x0), .unset] [])) _
      refine XS.aloadN X0.here hx rfl (hb hby d7_0) rfl rfl ?_
      exact Steps.refl _)
  obtain ⟨T2, X2, e2, sr2⟩ := getF X0 hx hZ hown (host := "") (Or.inl (hw _ (List.mem_of_getElem? (i := 41) rfl))) Via.refl e0 F_h (g := (mkF m 1 #[.val (.ref x0), .unset] [(.ref x0)])) rfl rfl (hb hby d7_1)
  have st3 : Steps p.tables e below sE (T2.setTop (mkF m 4 #[.val (.ref x0), .unset] [(.ref hd)])) := st1.trans (sr2 _ (Steps.refl _))
  have st4 : Steps p.tables e below sE (T2.setTop (mkF m 22 #[.val (.ref x0), .val (.ref hd)] [(.ref hd), (.ref x0)])) := st3.trans (by
      show Steps _ _ _ (T2.setTop (mkF m 4 #[.val (.ref x0), .unset] [(.ref hd)])) _
      refine XS.astoreN X2.here hx rfl (hb hby d7_4) rfl rfl (l' := #[.val (.ref x0), .val (.ref hd)]) rfl ?_
      show Steps _ _ _ (T2.setTop (mkF m 5 #[.val (.ref x0), .val (.ref hd)] [])) _
      refine XS.aloadN X2.here hx rfl (hb hby d7_5) rfl rfl ?_
      show Steps _ _ _ (T2.setTop (mkF m 6 #[.val (.ref x0), .val (.ref hd)] [(.ref hd)])) _
      refine XS.ifnonnullYes X2.here hx rfl (pc0 := 6) (pc' := 20) rfl (hb hby d7_6) rfl (by decide) (by decide) ?_
      show Steps _ _ _ (T2.setTop (mkF m 20 #[.val (.ref x0), .val (.ref hd)] [])) _
      refine XS.aloadN X2.here hx rfl (hb hby d7_20) rfl rfl ?_
      show Steps _ _ _ (T2.setTop (mkF m 21 #[.val (.ref x0), .val (.ref hd)] [(.ref x0)])) _
      refine XS.aloadN X2.here hx rfl (hb hby d7_21) rfl rfl ?_
      exact Steps.refl _)
  obtain ⟨T5, X5, e5, sr5⟩ := getF X2 hx hZ hown (host := "") (Or.inl (hw _ (List.mem_of_getElem? (i := 49) rfl))) Via.refl e2 F_n (g := (mkF m 22 #[.val (.ref x0), .val (.ref hd)] [(.ref hd), (.ref x0)])) rfl rfl (hb hby d7_22)
  have st6 : Steps p.tables e below sE (T5.setTop (mkF m 25 #[.val (.ref x0), .val (.ref hd)] [.null, (.ref x0)])) := st4.trans (sr5 _ (Steps.refl _))
  obtain ⟨T7, h7, X7, e7, W7, sr7⟩ := putF X5 hx hZ hown (host := "") (Or.inl (hw _ (List.mem_of_getElem? (i := 41) rfl))) Via.refl e5 F_h E_x (Or.inl (hw _ (List.mem_of_getElem? (i := 42) rfl))) (hw _ (List.mem_of_getElem? (i := 14) rfl)) (ty := (.object "com/example/tideloop/tideloop/Message")) (by decide) rfl rfl (g := (mkF m 25 #[.val (.ref x0), .val (.ref hd)] [.null, (.ref x0)])) rfl rfl (hb hby d7_25)
  have f8 : Exa Z h7 x0 "com/example/tideloop/tideloop/MessagePool" := E_x.wr W7
  have f9 : Fld Z h7 x0 "com/example/tideloop/tideloop/MessagePool" "size" "I" (.int sz) := F_s.other W7 (Or.inr (slot_ne (Or.inl (hw _ (List.mem_of_getElem? (i := 28) rfl))) (Or.inl (hw _ (List.mem_of_getElem? (i := 42) rfl))) (by decide) (t := .int) (t' := (.object "com/example/tideloop/tideloop/Message")) (by decide) (by decide)))
  have f10 : Fld Z h7 x0 "com/example/tideloop/tideloop/MessagePool" "capacity" "I" (.int cp) := F_c.other W7 (Or.inr (slot_ne (Or.inr (hw _ (List.mem_of_getElem? (i := 21) rfl))) (Or.inl (hw _ (List.mem_of_getElem? (i := 42) rfl))) (by decide) (t := .int) (t' := (.object "com/example/tideloop/tideloop/Message")) (by decide) (by decide)))
  have f11 : Exa Z h7 hd "com/example/tideloop/tideloop/Message" := E_m.wr W7
  have f12 : Fld Z h7 hd "com/example/tideloop/tideloop/Message" "what" "I" (.int w) := F_w.other W7 (Or.inl ne)
  have f13 : Fld Z h7 hd "com/example/tideloop/tideloop/Message" "nextPooled" "Lcom/example/tideloop/tideloop/Message;" .null := F_n.other W7 (Or.inl ne)
  have f14 : Fld Z h7 x0 "com/example/tideloop/tideloop/MessagePool" "head" "Lcom/example/tideloop/tideloop/Message;" .null := F_h.same W7
  have K15 : Keep h0 h7 [x0, hd] := K0.wr W7 (Or.inl (List.mem_of_getElem? (i := 0) rfl))
  have Z7 : n0 ≤ h7.size := Nat.le_trans Z0 (Keep.of_wr W7).1
  have N7 := Fr.snoc X7 N0 g_x
  obtain ⟨LL7, X7, N7⟩ := own_hide X7 N7
  have st16 : Steps p.tables e below sE (T7.setTop (mkF m 28 #[.val (.ref x0), .val (.ref hd)] [])) := st6.trans (sr7 _ (Steps.refl _))
  have st17 : Steps p.tables e below sE (T7.setTop (mkF m 30 #[.val (.ref x0), .val (.ref hd)] [.null, (.ref hd)])) := st16.trans (by
      show Steps _ _ _ (T7.setTop (mkF m 28 #[.val (.ref x0), .val (.ref hd)] [])) _
      refine XS.aloadN X7.here hx rfl (hb hby d7_28) rfl rfl ?_
      show Steps _ _ _ (T7.setTop (mkF m 29 #[.val (.ref x0), .val (.ref hd)] [(.ref hd)])) _
      refine XS.aconstNull X7.here hx rfl (hb hby d7_29) ?_
      exact Steps.refl _)
  obtain ⟨T18, h18, X18, e18, W18, sr18⟩ := putF X7 hx hZ hown (host := "") (Or.inl (hw _ (List.mem_of_getElem? (i := 49) rfl))) Via.refl e7 f13 f11 (Or.inl (hw _ (List.mem_of_getElem? (i := 12) rfl))) (hw _ (List.mem_of_getElem? (i := 1) rfl)) (ty := (.object "com/example/tideloop/tideloop/Message")) (by decide) rfl rfl (g := (mkF m 30 #[.val (.ref x0), .val (.ref hd)] [.null, (.ref hd)])) rfl rfl (hb hby d7_30)
  have f19 : Exa Z h18 x0 "com/example/tideloop/tideloop/MessagePool" := f8.wr W18
  have f20 : Fld Z h18 x0 "com/example/tideloop/tideloop/MessagePool" "size" "I" (.int sz) := f9.other W18 (Or.inl (Ne.symm ne))
  have f21 : Fld Z h18 x0 "com/example/tideloop/tideloop/MessagePool" "capacity" "I" (.int cp) := f10.other W18 (Or.inl (Ne.symm ne))
  have f22 : Exa Z h18 hd "com/example/tideloop/tideloop/Message" := f11.wr W18
  have f23 : Fld Z h18 hd "com/example/tideloop/tideloop/Message" "what" "I" (.int w) := f12.other W18 (Or.inr (slot_ne (Or.inl (hw _ (List.mem_of_getElem? (i := 10) rfl))) (Or.inl (hw _ (List.mem_of_getElem? (i := 12) rfl))) (by decide) (t := .int) (t' := (.object "com/example/tideloop/tideloop/Message")) (by decide) (by decide)))
  have f24 : Fld Z h18 x0 "com/example/tideloop/tideloop/MessagePool" "head" "Lcom/example/tideloop/tideloop/Message;" .null := f14.other W18 (Or.inl (Ne.symm ne))
  have f25 : Fld Z h18 hd "com/example/tideloop/tideloop/Message" "nextPooled" "Lcom/example/tideloop/tideloop/Message;" .null := f13.same W18
  have K26 : Keep h0 h18 [x0, hd] := K15.wr W18 (Or.inl (List.mem_of_getElem? (i := 1) rfl))
  have Z18 : n0 ≤ h18.size := Nat.le_trans Z7 (Keep.of_wr W18).1
  have N18 := Fr.snoc X18 N7 g_m
  obtain ⟨LL18, X18, N18⟩ := own_hide X18 N18
  have st27 : Steps p.tables e below sE (T18.setTop (mkF m 33 #[.val (.ref x0), .val (.ref hd)] [])) := st17.trans (sr18 _ (Steps.refl _))
  have st28 : Steps p.tables e below sE (T18.setTop (mkF m 35 #[.val (.ref x0), .val (.ref hd)] [(.ref x0), (.ref x0)])) := st27.trans (by
      show Steps _ _ _ (T18.setTop (mkF m 33 #[.val (.ref x0), .val (.ref hd)] [])) _
      refine XS.aloadN X18.here hx rfl (hb hby d7_33) rfl rfl ?_
      show Steps _ _ _ (T18.setTop (mkF m 34 #[.val (.ref x0), .val (.ref hd)] [(.ref x0)])) _
      refine XS.dup X18.here hx rfl (hb hby d7_34) rfl rfl ?_
      exact Steps.refl _)
  obtain ⟨T29, X29, e29, sr29⟩ := getF X18 hx hZ hown (host := "") (Or.inl (hw _ (List.mem_of_getElem? (i := 27) rfl))) Via.refl e18 f20 (g := (mkF m 35 #[.val (.ref x0), .val (.ref hd)] [(.ref x0), (.ref x0)])) rfl rfl (hb hby d7_35)
  have st30 : Steps p.tables e below sE (T29.setTop (mkF m 38 #[.val (.ref x0), .val (.ref hd)] [(.int sz), (.ref x0)])) := st28.trans (sr29 _ (Steps.refl _))
  have st31 : Steps p.tables e below sE (T29.setTop (mkF m 40 #[.val (.ref x0), .val (.ref hd)] [(.int (sz - (1 : Int32))), (.ref x0)])) := st30.trans (by
      show Steps _ _ _ (T29.setTop (mkF m 38 #[.val (.ref x0), .val (.ref hd)] [(.int sz), (.ref x0)])) _
      refine XS.iconst X29.here hx rfl (hb hby d7_38) ?_
      show Steps _ _ _ (T29.setTop (mkF m 39 #[.val (.ref x0), .val (.ref hd)] [(.int (1 : Int32)), (.int sz), (.ref x0)])) _
      refine XS.isub X29.here hx rfl (hb hby d7_39) rfl ?_
      exact Steps.refl _)
  obtain ⟨T32, h32, X32, e32, W32, sr32⟩ := putF X29 hx hZ hown (host := "") (Or.inl (hw _ (List.mem_of_getElem? (i := 27) rfl))) Via.refl e29 f20 f19 (Or.inl (hw _ (List.mem_of_getElem? (i := 28) rfl))) (hw _ (List.mem_of_getElem? (i := 14) rfl)) (ty := .int) (by decide) rfl rfl (g := (mkF m 40 #[.val (.ref x0), .val (.ref hd)] [(.int (sz - (1 : Int32))), (.ref x0)])) rfl rfl (hb hby d7_40)
  have f33 : Exa Z h32 x0 "com/example/tideloop/tideloop/MessagePool" := f19.wr W32
  have f34 : Fld Z h32 x0 "com/example/tideloop/tideloop/MessagePool" "capacity" "I" (.int cp) := f21.other W32 (Or.inr (slot_ne (Or.inr (hw _ (List.mem_of_getElem? (i := 21) rfl))) (Or.inl (hw _ (List.mem_of_getElem? (i := 28) rfl))) (by decide) (t := .int) (t' := .int) (by decide) (by decide)))
  have f35 : Exa Z h32 hd "com/example/tideloop/tideloop/Message" := f22.wr W32
  have f36 : Fld Z h32 hd "com/example/tideloop/tideloop/Message" "what" "I" (.int w) := f23.other W32 (Or.inl ne)
  have f37 : Fld Z h32 x0 "com/example/tideloop/tideloop/MessagePool" "head" "Lcom/example/tideloop/tideloop/Message;" .null := f24.other W32 (Or.inr (slot_ne (Or.inl (hw _ (List.mem_of_getElem? (i := 42) rfl))) (Or.inl (hw _ (List.mem_of_getElem? (i := 28) rfl))) (by decide) (t := (.object "com/example/tideloop/tideloop/Message")) (t' := .int) (by decide) (by decide)))
  have f38 : Fld Z h32 hd "com/example/tideloop/tideloop/Message" "nextPooled" "Lcom/example/tideloop/tideloop/Message;" .null := f25.other W32 (Or.inl ne)
  have f39 : Fld Z h32 x0 "com/example/tideloop/tideloop/MessagePool" "size" "I" (.int (sz - (1 : Int32))) := f20.same W32
  have K40 : Keep h0 h32 [x0, hd] := K26.wr W32 (Or.inl (List.mem_of_getElem? (i := 0) rfl))
  have Z32 : n0 ≤ h32.size := Nat.le_trans Z18 (Keep.of_wr W32).1
  have N32 := Fr.snoc X32 N18 g_x
  obtain ⟨LL32, X32, N32⟩ := own_hide X32 N32
  have st41 : Steps p.tables e below sE (T32.setTop (mkF m 43 #[.val (.ref x0), .val (.ref hd)] [])) := st31.trans (sr32 _ (Steps.refl _))
  have st42 : Steps p.tables e below sE (T32.setTop (mkF m 44 #[.val (.ref x0), .val (.ref hd)] [(.ref hd)])) := st41.trans (by
      show Steps _ _ _ (T32.setTop (mkF m 43 #[.val (.ref x0), .val (.ref hd)] [])) _
      refine XS.aloadN X32.here hx rfl (hb hby d7_43) rfl rfl ?_
      exact Steps.refl _)
  obtain ⟨fs, hr, hrun, hended, hW, hsame⟩ := X32.leave (v := some (.ref hd)) (fun h => by rw [Bd.returns] at h; cases h)
  refine ⟨_, _, (own_ent hsE st42).trans ?_, hrun, hended, _, _, rfl, ?_, ⟨_, rfl⟩, hW, hsame.mono (by decide) (by decide)⟩
  · exact retOut X32 hx (t := (.object "com/example/tideloop/tideloop/Message")) Bd.returns rfl (Or.inr (Or.inr (Or.inr (Or.inr ⟨rfl, rfl, rfl⟩)))) (hb hby d7_44) hr
  · show Qtk1 Z x0 sz cp w hd h0 n0 _ T32.heap _
    rw [e32]
    exact ⟨rfl, N32, K40, f33, f39, f34, f37, f35, f36, f38⟩
def Qtk2 (Z : State) (x0 : Addr) (sz : Int32) (cp : Int32) (w : Int32) (hd : Addr) (nx : Addr) (h0 : Heap) (n0 : Nat) (vE : Option Value) (hE : Heap) (LE : List Loc) : Prop := vE = some (.ref hd) ∧ Fr n0 LE ∧ Keep h0 hE [x0, hd] ∧ Exa Z hE x0 "com/example/tideloop/tideloop/MessagePool" ∧ Fld Z hE x0 "com/example/tideloop/tideloop/MessagePool" "size" "I" (.int (sz - (1 : Int32))) ∧ Fld Z hE x0 "com/example/tideloop/tideloop/MessagePool" "capacity" "I" (.int cp) ∧ Fld Z hE x0 "com/example/tideloop/tideloop/MessagePool" "head" "Lcom/example/tideloop/tideloop/Message;" (.ref nx) ∧ Exa Z hE hd "com/example/tideloop/tideloop/Message" ∧ Fld Z hE hd "com/example/tideloop/tideloop/Message" "what" "I" (.int w) ∧ Fld Z hE hd "com/example/tideloop/tideloop/Message" "nextPooled" "Lcom/example/tideloop/tideloop/Message;" .null
set_option maxRecDepth 65536 in
set_option maxHeartbeats 40000000 in
theorem rmtk2 (l : Launch) (Z : State) (a0 : Array Value) (hw : ∀ d ∈ tables_1, d.before a0 Z = true) (ws : List Jvm.Cond) (x0 : Addr) (sz : Int32) (cp : Int32) (w : Int32) (hd : Addr) (nx : Addr) (h0 : Heap) (n0 : Nat) (Z0 : n0 ≤ h0.size) (E_x : Exa Z h0 x0 "com/example/tideloop/tideloop/MessagePool") (F_s : Fld Z h0 x0 "com/example/tideloop/tideloop/MessagePool" "size" "I" (.int sz)) (F_c : Fld Z h0 x0 "com/example/tideloop/tideloop/MessagePool" "capacity" "I" (.int cp)) (F_h : Fld Z h0 x0 "com/example/tideloop/tideloop/MessagePool" "head" "Lcom/example/tideloop/tideloop/Message;" (.ref hd)) (E_m : Exa Z h0 hd "com/example/tideloop/tideloop/Message") (F_w : Fld Z h0 hd "com/example/tideloop/tideloop/Message" "what" "I" (.int w)) (g_x : n0 ≤ x0) (g_m : n0 ≤ hd) (ne : hd ≠ x0) (F_n : Fld Z h0 hd "com/example/tideloop/tideloop/Message" "nextPooled" "Lcom/example/tideloop/tideloop/Message;" (.ref nx)) :
    MetFree l (⟨"com/example/tideloop/tideloop/MessagePool", "take", "()Lcom/example/tideloop/tideloop/Message;"⟩ : MethodName) (head1 (Jvm.Cond.code (⟨"com/example/tideloop/tideloop/MessagePool", "take", "()Lcom/example/tideloop/tideloop/Message;"⟩ : MethodName) prog_24_method_2_code 2 (some (.object "com/example/tideloop/tideloop/Message")) :: ws) ({ frames := 0, cells := 0, slots := 0, locals := 0 } : Room)) (fun a U => a = #[(.ref x0)] ∧ Z.Warmed39 U.vm ∧ U.heap = h0) (fun _ _ _ _ _ => True) (fun _ U o U' => ∃ vE LE, o = .returned vE ∧ Qtk2 Z x0 sz cp w hd nx h0 n0 vE U'.heap LE ∧ FrameEnd U o U' LE ({ frames := 0, cells := 0, slots := 0, locals := 0 } : Room).cells ({ frames := 0, cells := 0, slots := 0, locals := 0 } : Room).slots) := by
  refine MetFree.of_bodySF (plainFor_of_name pn_1) hisR ?_
  intro p e s m args below meth c s₁ Bd hml0 hP hK
  obtain ⟨rfl, hZ, hh⟩ := hP
  have hx := Bd.exec
  have hby := Bd.bytes
  have hml : c.maxLocals = 2 := hml0
  have hown : s.vm.findClass "com/example/tideloop/tideloop/MessagePool" = some m.cls := findClass_of_methodNamed Bd.named
  have hnm := (name_of_methodNamed Bd.named Bd.method).1
  have X0 : Stand p l e ({ frames := 0, cells := 0, slots := 0, locals := 0 } : Room) s m #[(.ref x0)] below meth c s₁ [] 0 0 := Stand.of_body Bd
  have e0 : s₁.heap = h0 := by rw [← hh, Bd.state]; rfl
  have N0 := Fr.nil n0
  obtain ⟨sE, hsE⟩ : ∃ z, z = (s₁.setTop (entryFrame m #[(.ref x0)] 2)) := ⟨_, rfl⟩
  have st0 : Steps p.tables e below sE (s₁.setTop (mkF m 0 #[.val (.ref x0), .unset] [])) := by rw [hsE]; exact castTop (ef_tk0 m x0) (Steps.refl _)
  have K0 : Keep h0 h0 [x0, hd] := Keep.refl _ _
  have st1 : Steps p.tables e below sE (s₁.setTop (mkF m 1 #[.val (.ref x0), .unset] [(.ref x0)])) := st0.trans (by
      show Steps _ _ _ (s₁.setTop (mkF m 0 #[.val (.ref x0), .unset] [])) _
      refine XS.aloadN X0.here hx rfl (hb hby d7_0) rfl rfl ?_
      exact Steps.refl _)
  obtain ⟨T2, X2, e2, sr2⟩ := getF X0 hx hZ hown (host := "") (Or.inl (hw _ (List.mem_of_getElem? (i := 41) rfl))) Via.refl e0 F_h (g := (mkF m 1 #[.val (.ref x0), .unset] [(.ref x0)])) rfl rfl (hb hby d7_1)
  have st3 : Steps p.tables e below sE (T2.setTop (mkF m 4 #[.val (.ref x0), .unset] [(.ref hd)])) := st1.trans (sr2 _ (Steps.refl _))
  have st4 : Steps p.tables e below sE (T2.setTop (mkF m 22 #[.val (.ref x0), .val (.ref hd)] [(.ref hd), (.ref x0)])) := st3.trans (by
      show Steps _ _ _ (T2.setTop (mkF m 4 #[.val (.ref x0), .unset] [(.ref hd)])) _
      refine XS.astoreN X2.here hx rfl (hb hby d7_4) rfl rfl (l' := #[.val (.ref x0), .val (.ref hd)]) rfl ?_
      show Steps _ _ _ (T2.setTop (mkF m 5 #[.val (.ref x0), .val (.ref hd)] [])) _
      refine XS.aloadN X2.here hx rfl (hb hby d7_5) rfl rfl ?_
      show Steps _ _ _ (T2.setTop (mkF m 6 #[.val (.ref x0), .val (.ref hd)] [(.ref hd)])) _
      refine XS.ifnonnullYes X2.here hx rfl (pc0 := 6) (pc' := 20) rfl (hb hby d7_6) rfl (by decide) (by decide) ?_
      show Steps _ _ _ (T2.setTop (mkF m 20 #[.val (.ref x0), .val (.ref hd)] [])) _
      refine XS.aloadN X2.here hx rfl (hb hby d7_20) rfl rfl ?_
      show Steps _ _ _ (T2.setTop (mkF m 21 #[.val (.ref x0), .val (.ref hd)] [(.ref x0)])) _
      refine XS.aloadN X2.here hx rfl (hb hby d7_21) rfl rfl ?_
      exact Steps.refl _)
  obtain ⟨T5, X5, e5, sr5⟩ := getF X2 hx hZ hown (host := "") (Or.inl (hw _ (List.mem_of_getElem? (i := 49) rfl))) Via.refl e2 F_n (g := (mkF m 22 #[.val (.ref x0), .val (.ref hd)] [(.ref hd), (.ref x0)])) rfl rfl (hb hby d7_22)
  have st6 : Steps p.tables e below sE (T5.setTop (mkF m 25 #[.val (.ref x0), .val (.ref hd)] [(.ref nx), (.ref x0)])) := st4.trans (sr5 _ (Steps.refl _))
  obtain ⟨T7, h7, X7, e7, W7, sr7⟩ := putF X5 hx hZ hown (host := "") (Or.inl (hw _ (List.mem_of_getElem? (i := 41) rfl))) Via.refl e5 F_h E_x (Or.inl (hw _ (List.mem_of_getElem? (i := 42) rfl))) (hw _ (List.mem_of_getElem? (i := 14) rfl)) (ty := (.object "com/example/tideloop/tideloop/Message")) (by decide) rfl rfl (g := (mkF m 25 #[.val (.ref x0), .val (.ref hd)] [(.ref nx), (.ref x0)])) rfl rfl (hb hby d7_25)
  have f8 : Exa Z h7 x0 "com/example/tideloop/tideloop/MessagePool" := E_x.wr W7
  have f9 : Fld Z h7 x0 "com/example/tideloop/tideloop/MessagePool" "size" "I" (.int sz) := F_s.other W7 (Or.inr (slot_ne (Or.inl (hw _ (List.mem_of_getElem? (i := 28) rfl))) (Or.inl (hw _ (List.mem_of_getElem? (i := 42) rfl))) (by decide) (t := .int) (t' := (.object "com/example/tideloop/tideloop/Message")) (by decide) (by decide)))
  have f10 : Fld Z h7 x0 "com/example/tideloop/tideloop/MessagePool" "capacity" "I" (.int cp) := F_c.other W7 (Or.inr (slot_ne (Or.inr (hw _ (List.mem_of_getElem? (i := 21) rfl))) (Or.inl (hw _ (List.mem_of_getElem? (i := 42) rfl))) (by decide) (t := .int) (t' := (.object "com/example/tideloop/tideloop/Message")) (by decide) (by decide)))
  have f11 : Exa Z h7 hd "com/example/tideloop/tideloop/Message" := E_m.wr W7
  have f12 : Fld Z h7 hd "com/example/tideloop/tideloop/Message" "what" "I" (.int w) := F_w.other W7 (Or.inl ne)
  have f13 : Fld Z h7 hd "com/example/tideloop/tideloop/Message" "nextPooled" "Lcom/example/tideloop/tideloop/Message;" (.ref nx) := F_n.other W7 (Or.inl ne)
  have f14 : Fld Z h7 x0 "com/example/tideloop/tideloop/MessagePool" "head" "Lcom/example/tideloop/tideloop/Message;" (.ref nx) := F_h.same W7
  have K15 : Keep h0 h7 [x0, hd] := K0.wr W7 (Or.inl (List.mem_of_getElem? (i := 0) rfl))
  have Z7 : n0 ≤ h7.size := Nat.le_trans Z0 (Keep.of_wr W7).1
  have N7 := Fr.snoc X7 N0 g_x
  obtain ⟨LL7, X7, N7⟩ := own_hide X7 N7
  have st16 : Steps p.tables e below sE (T7.setTop (mkF m 28 #[.val (.ref x0), .val (.ref hd)] [])) := st6.trans (sr7 _ (Steps.refl _))
  have st17 : Steps p.tables e below sE (T7.setTop (mkF m 30 #[.val (.ref x0), .val (.ref hd)] [.null, (.ref hd)])) := st16.trans (by
      show Steps _ _ _ (T7.setTop (mkF m 28 #[.val (.ref x0), .val (.ref hd)] [])) _
      refine XS.aloadN X7.here hx rfl (hb hby d7_28) rfl rfl ?_
      show Steps _ _ _ (T7.setTop (mkF m 29 #[.val (.ref x0), .val (.ref hd)] [(.ref hd)])) _
      refine XS.aconstNull X7.here hx rfl (hb hby d7_29) ?_
      exact Steps.refl _)
  obtain ⟨T18, h18, X18, e18, W18, sr18⟩ := putF X7 hx hZ hown (host := "") (Or.inl (hw _ (List.mem_of_getElem? (i := 49) rfl))) Via.refl e7 f13 f11 (Or.inl (hw _ (List.mem_of_getElem? (i := 12) rfl))) (hw _ (List.mem_of_getElem? (i := 1) rfl)) (ty := (.object "com/example/tideloop/tideloop/Message")) (by decide) rfl rfl (g := (mkF m 30 #[.val (.ref x0), .val (.ref hd)] [.null, (.ref hd)])) rfl rfl (hb hby d7_30)
  have f19 : Exa Z h18 x0 "com/example/tideloop/tideloop/MessagePool" := f8.wr W18
  have f20 : Fld Z h18 x0 "com/example/tideloop/tideloop/MessagePool" "size" "I" (.int sz) := f9.other W18 (Or.inl (Ne.symm ne))
  have f21 : Fld Z h18 x0 "com/example/tideloop/tideloop/MessagePool" "capacity" "I" (.int cp) := f10.other W18 (Or.inl (Ne.symm ne))
  have f22 : Exa Z h18 hd "com/example/tideloop/tideloop/Message" := f11.wr W18
  have f23 : Fld Z h18 hd "com/example/tideloop/tideloop/Message" "what" "I" (.int w) := f12.other W18 (Or.inr (slot_ne (Or.inl (hw _ (List.mem_of_getElem? (i := 10) rfl))) (Or.inl (hw _ (List.mem_of_getElem? (i := 12) rfl))) (by decide) (t := .int) (t' := (.object "com/example/tideloop/tideloop/Message")) (by decide) (by decide)))
  have f24 : Fld Z h18 x0 "com/example/tideloop/tideloop/MessagePool" "head" "Lcom/example/tideloop/tideloop/Message;" (.ref nx) := f14.other W18 (Or.inl (Ne.symm ne))
  have f25 : Fld Z h18 hd "com/example/tideloop/tideloop/Message" "nextPooled" "Lcom/example/tideloop/tideloop/Message;" .null := f13.same W18
  have K26 : Keep h0 h18 [x0, hd] := K15.wr W18 (Or.inl (List.mem_of_getElem? (i := 1) rfl))
  have Z18 : n0 ≤ h18.size := Nat.le_trans Z7 (Keep.of_wr W18).1
  have N18 := Fr.snoc X18 N7 g_m
  obtain ⟨LL18, X18, N18⟩ := own_hide X18 N18
  have st27 : Steps p.tables e below sE (T18.setTop (mkF m 33 #[.val (.ref x0), .val (.ref hd)] [])) := st17.trans (sr18 _ (Steps.refl _))
  have st28 : Steps p.tables e below sE (T18.setTop (mkF m 35 #[.val (.ref x0), .val (.ref hd)] [(.ref x0), (.ref x0)])) := st27.trans (by
      show Steps _ _ _ (T18.setTop (mkF m 33 #[.val (.ref x0), .val (.ref hd)] [])) _
      refine XS.aloadN X18.here hx rfl (hb hby d7_33) rfl rfl ?_
      show Steps _ _ _ (T18.setTop (mkF m 34 #[.val (.ref x0), .val (.ref hd)] [(.ref x0)])) _
      refine XS.dup X18.here hx rfl (hb hby d7_34) rfl rfl ?_
      exact Steps.refl _)
  obtain ⟨T29, X29, e29, sr29⟩ := getF X18 hx hZ hown (host := "") (Or.inl (hw _ (List.mem_of_getElem? (i := 27) rfl))) Via.refl e18 f20 (g := (mkF m 35 #[.val (.ref x0), .val (.ref hd)] [(.ref x0), (.ref x0)])) rfl rfl (hb hby d7_35)
  have st30 : Steps p.tables e below sE (T29.setTop (mkF m 38 #[.val (.ref x0), .val (.ref hd)] [(.int sz), (.ref x0)])) := st28.trans (sr29 _ (Steps.refl _))
  have st31 : Steps p.tables e below sE (T29.setTop (mkF m 40 #[.val (.ref x0), .val (.ref hd)] [(.int (sz - (1 : Int32))), (.ref x0)])) := st30.trans (by
      show Steps _ _ _ (T29.setTop (mkF m 38 #[.val (.ref x0), .val (.ref hd)] [(.int sz), (.ref x0)])) _
      refine XS.iconst X29.here hx rfl (hb hby d7_38) ?_
      show Steps _ _ _ (T29.setTop (mkF m 39 #[.val (.ref x0), .val (.ref hd)] [(.int (1 : Int32)), (.int sz), (.ref x0)])) _
      refine XS.isub X29.here hx rfl (hb hby d7_39) rfl ?_
      exact Steps.refl _)
  obtain ⟨T32, h32, X32, e32, W32, sr32⟩ := putF X29 hx hZ hown (host := "") (Or.inl (hw _ (List.mem_of_getElem? (i := 27) rfl))) Via.refl e29 f20 f19 (Or.inl (hw _ (List.mem_of_getElem? (i := 28) rfl))) (hw _ (List.mem_of_getElem? (i := 14) rfl)) (ty := .int) (by decide) rfl rfl (g := (mkF m 40 #[.val (.ref x0), .val (.ref hd)] [(.int (sz - (1 : Int32))), (.ref x0)])) rfl rfl (hb hby d7_40)
  have f33 : Exa Z h32 x0 "com/example/tideloop/tideloop/MessagePool" := f19.wr W32
  have f34 : Fld Z h32 x0 "com/example/tideloop/tideloop/MessagePool" "capacity" "I" (.int cp) := f21.other W32 (Or.inr (slot_ne (Or.inr (hw _ (List.mem_of_getElem? (i := 21) rfl))) (Or.inl (hw _ (List.mem_of_getElem? (i := 28) rfl))) (by decide) (t := .int) (t' := .int) (by decide) (by decide)))
  have f35 : Exa Z h32 hd "com/example/tideloop/tideloop/Message" := f22.wr W32
  have f36 : Fld Z h32 hd "com/example/tideloop/tideloop/Message" "what" "I" (.int w) := f23.other W32 (Or.inl ne)
  have f37 : Fld Z h32 x0 "com/example/tideloop/tideloop/MessagePool" "head" "Lcom/example/tideloop/tideloop/Message;" (.ref nx) := f24.other W32 (Or.inr (slot_ne (Or.inl (hw _ (List.mem_of_getElem? (i := 42) rfl))) (Or.inl (hw _ (List.mem_of_getElem? (i := 28) rfl))) (by decide) (t := (.object "com/example/tideloop/tideloop/Message")) (t' := .int) (by decide) (by decide)))
  have f38 : Fld Z h32 hd "com/example/tideloop/tideloop/Message" "nextPooled" "Lcom/example/tideloop/tideloop/Message;" .null := f25.other W32 (Or.inl ne)
  have f39 : Fld Z h32 x0 "com/example/tideloop/tideloop/MessagePool" "size" "I" (.int (sz - (1 : Int32))) := f20.same W32
  have K40 : Keep h0 h32 [x0, hd] := K26.wr W32 (Or.inl (List.mem_of_getElem? (i := 0) rfl))
  have Z32 : n0 ≤ h32.size := Nat.le_trans Z18 (Keep.of_wr W32).1
  have N32 := Fr.snoc X32 N18 g_x
  obtain ⟨LL32, X32, N32⟩ := own_hide X32 N32
  have st41 : Steps p.tables e below sE (T32.setTop (mkF m 43 #[.val (.ref x0), .val (.ref hd)] [])) := st31.trans (sr32 _ (Steps.refl _))
  have st42 : Steps p.tables e below sE (T32.setTop (mkF m 44 #[.val (.ref x0), .val (.ref hd)] [(.ref hd)])) := st41.trans (by
      show Steps _ _ _ (T32.setTop (mkF m 43 #[.val (.ref x0), .val (.ref hd)] [])) _
      refine XS.aloadN X32.here hx rfl (hb hby d7_43) rfl rfl ?_
      exact Steps.refl _)
  obtain ⟨fs, hr, hrun, hended, hW, hsame⟩ := X32.leave (v := some (.ref hd)) (fun h => by rw [Bd.returns] at h; cases h)
  refine ⟨_, _, (own_ent hsE st42).trans ?_, hrun, hended, _, _, rfl, ?_, ⟨_, rfl⟩, hW, hsame.mono (by decide) (by decide)⟩
  · exact retOut X32 hx (t := (.object "com/example/tideloop/tideloop/Message")) Bd.returns rfl (Or.inr (Or.inr (Or.inr (Or.inr ⟨rfl, rfl, rfl⟩)))) (hb hby d7_44) hr
  · show Qtk2 Z x0 sz cp w hd nx h0 n0 _ T32.heap _
    rw [e32]
    exact ⟨rfl, N32, K40, f33, f39, f34, f37, f35, f36, f38⟩
theorem d8_0 : decode method_3_code 0 = .ok (.aload_n 0, 1) := by decide +kernel
theorem d8_1 : decode method_3_code 1 = .ok (.ifnull 10, 3) := by decide +kernel
theorem d8_4 : decode method_3_code 4 = .ok (.aload_n 0, 1) := by decide +kernel
theorem d8_5 : decode method_3_code 5 = .ok (.getfield 14, 3) := by decide +kernel
theorem d8_8 : decode method_3_code 8 = .ok (.ifnull 5, 3) := by decide +kernel
theorem d8_13 : decode method_3_code 13 = .ok (.iload_n 1, 1) := by decide +kernel
theorem d8_14 : decode method_3_code 14 = .ok (.iload_n 2, 1) := by decide +kernel
theorem d8_15 : decode method_3_code 15 = .ok (.if_icmp .gt 82, 3) := by decide +kernel
theorem d8_18 : decode method_3_code 18 = .ok (.iload_n 2, 1) := by decide +kernel
theorem d8_19 : decode method_3_code 19 = .ok (.iload_n 1, 1) := by decide +kernel
theorem d8_20 : decode method_3_code 20 = .ok (.isub, 1) := by decide +kernel
theorem d8_21 : decode method_3_code 21 = .ok (.iconst 1, 1) := by decide +kernel
theorem d8_22 : decode method_3_code 22 = .ok (.iadd, 1) := by decide +kernel
theorem d8_23 : decode method_3_code 23 = .ok (.istore 9, 2) := by decide +kernel
theorem d8_25 : decode method_3_code 25 = .ok (.iload 9, 2) := by decide +kernel
theorem d8_27 : decode method_3_code 27 = .ok (.iconst 1, 1) := by decide +kernel
theorem d8_28 : decode method_3_code 28 = .ok (.if_icmp .ne 7, 3) := by decide +kernel
theorem d8_31 : decode method_3_code 31 = .ok (.aload_n 3, 1) := by decide +kernel
theorem d8_32 : decode method_3_code 32 = .ok (.goto 16, 3) := by decide +kernel
theorem d8_35 : decode method_3_code 35 = .ok (.iload 9, 2) := by decide +kernel
theorem d8_37 : decode method_3_code 37 = .ok (.iconst 2, 1) := by decide +kernel
theorem d8_38 : decode method_3_code 38 = .ok (.if_icmp .ne 8, 3) := by decide +kernel
theorem d8_41 : decode method_3_code 41 = .ok (.aload 4, 2) := by decide +kernel
theorem d8_43 : decode method_3_code 43 = .ok (.goto 5, 3) := by decide +kernel
theorem d8_46 : decode method_3_code 46 = .ok (.aload 5, 2) := by decide +kernel
theorem d8_48 : decode method_3_code 48 = .ok (.astore 10, 2) := by decide +kernel
theorem d8_50 : decode method_3_code 50 = .ok (.iload 9, 2) := by decide +kernel
theorem d8_52 : decode method_3_code 52 = .ok (.iconst 1, 1) := by decide +kernel
theorem d8_53 : decode method_3_code 53 = .ok (.if_icmp .ne 8, 3) := by decide +kernel
theorem d8_56 : decode method_3_code 56 = .ok (.iload 6, 2) := by decide +kernel
theorem d8_58 : decode method_3_code 58 = .ok (.goto 16, 3) := by decide +kernel
theorem d8_61 : decode method_3_code 61 = .ok (.iload 9, 2) := by decide +kernel
theorem d8_63 : decode method_3_code 63 = .ok (.iconst 2, 1) := by decide +kernel
theorem d8_64 : decode method_3_code 64 = .ok (.if_icmp .ne 8, 3) := by decide +kernel
theorem d8_67 : decode method_3_code 67 = .ok (.iload 7, 2) := by decide +kernel
theorem d8_69 : decode method_3_code 69 = .ok (.goto 5, 3) := by decide +kernel
theorem d8_72 : decode method_3_code 72 = .ok (.iload 8, 2) := by decide +kernel
theorem d8_74 : decode method_3_code 74 = .ok (.istore 11, 2) := by decide +kernel
theorem d8_76 : decode method_3_code 76 = .ok (.aload_n 0, 1) := by decide +kernel
theorem d8_77 : decode method_3_code 77 = .ok (.aload 10, 2) := by decide +kernel
theorem d8_79 : decode method_3_code 79 = .ok (.if_acmp .ne 16, 3) := by decide +kernel
theorem d8_82 : decode method_3_code 82 = .ok (.aload_n 0, 1) := by decide +kernel
theorem d8_83 : decode method_3_code 83 = .ok (.getfield 10, 3) := by decide +kernel
theorem d8_86 : decode method_3_code 86 = .ok (.iload 11, 2) := by decide +kernel
theorem d8_88 : decode method_3_code 88 = .ok (.if_icmp .ne 7, 3) := by decide +kernel
theorem d8_91 : decode method_3_code 91 = .ok (.iconst 1, 1) := by decide +kernel
theorem d8_92 : decode method_3_code 92 = .ok (.goto 4, 3) := by decide +kernel
theorem d8_95 : decode method_3_code 95 = .ok (.iconst 0, 1) := by decide +kernel
theorem d8_96 : decode method_3_code 96 = .ok (.ireturn, 1) := by decide +kernel
theorem d8_97 : decode method_3_code 97 = .ok (.aload_n 0, 1) := by decide +kernel
theorem d8_98 : decode method_3_code 98 = .ok (.aload_n 3, 1) := by decide +kernel
theorem d8_99 : decode method_3_code 99 = .ok (.if_acmp .eq 26, 3) := by decide +kernel
theorem d8_102 : decode method_3_code 102 = .ok (.aload_n 0, 1) := by decide +kernel
theorem d8_103 : decode method_3_code 103 = .ok (.aload 4, 2) := by decide +kernel
theorem d8_105 : decode method_3_code 105 = .ok (.if_acmp .eq 20, 3) := by decide +kernel
theorem d8_108 : decode method_3_code 108 = .ok (.aload_n 0, 1) := by decide +kernel
theorem d8_109 : decode method_3_code 109 = .ok (.aload 5, 2) := by decide +kernel
theorem d8_111 : decode method_3_code 111 = .ok (.if_acmp .eq 14, 3) := by decide +kernel
theorem d8_114 : decode method_3_code 114 = .ok (.aload_n 0, 1) := by decide +kernel
theorem d8_115 : decode method_3_code 115 = .ok (.getfield 10, 3) := by decide +kernel
theorem d8_118 : decode method_3_code 118 = .ok (.ifCond .ne 7, 3) := by decide +kernel
theorem d8_121 : decode method_3_code 121 = .ok (.iconst 1, 1) := by decide +kernel
theorem d8_122 : decode method_3_code 122 = .ok (.goto 4, 3) := by decide +kernel
theorem d8_125 : decode method_3_code 125 = .ok (.iconst 0, 1) := by decide +kernel
theorem d8_126 : decode method_3_code 126 = .ok (.ireturn, 1) := by decide +kernel
theorem pn_2 : plainName "com/example/tideloop/tideloop/MessagePoolKeepPinLaw" = true := by first | (simp [plainName, overriddenIn]; done) | decide +kernel
theorem ef_8 (m : MethodId) (x0 : Addr) (x1 : Int32) (x2 : Int32) (x3 : Addr) (x4 : Addr) (x5 : Addr) (x6 : Int32) (x7 : Int32) (x8 : Int32)  : entryFrame m #[(.ref x0), (.int x1), (.int x2), (.ref x3), (.ref x4), (.ref x5), (.int x6), (.int x7), (.int x8)] 12 = mkF m 0 #[.val (.ref x0), .val (.int x1), .val (.int x2), .val (.ref x3), .val (.ref x4), .val (.ref x5), .val (.int x6), .val (.int x7), .val (.int x8), .unset, .unset, .unset] [] := by first | (simp [entryFrame, mkF, argsToLocals, Value.category]; done) | rfl
def F8 (x0 : Addr) (x1 : Int32) (x2 : Int32) (x3 : Addr) (x4 : Addr) (x5 : Addr) (x6 : Int32) (x7 : Int32) (x8 : Int32) (wt : Int32) : Int32 := if x2 < x1 then (if x0 = x3 then (0 : Int32) else (if x0 = x4 then (0 : Int32) else (if x0 = x5 then (0 : Int32) else (if wt = (0 : Int32) then (1 : Int32) else (0 : Int32))))) else (if x0 = (if ((x2 - x1) + (1 : Int32)) = (1 : Int32) then x3 else (if ((x2 - x1) + (1 : Int32)) = (2 : Int32) then x4 else x5)) then (if wt = (if ((x2 - x1) + (1 : Int32)) = (1 : Int32) then x6 else (if ((x2 - x1) + (1 : Int32)) = (2 : Int32) then x7 else x8)) then (1 : Int32) else (0 : Int32)) else (0 : Int32))
def Q8 (Z : State) (x0 : Addr) (x1 : Int32) (x2 : Int32) (x3 : Addr) (x4 : Addr) (x5 : Addr) (x6 : Int32) (x7 : Int32) (x8 : Int32) (wt : Int32) (h0 : Heap) (n0 : Nat) (vE : Option Value) (hE : Heap) (LE : List Loc) : Prop := vE = some (.int (F8 x0 x1 x2 x3 x4 x5 x6 x7 x8 wt)) ∧ Fr n0 LE ∧ hE = h0
set_option maxRecDepth 65536 in
set_option maxHeartbeats 40000000 in
theorem rm8 (l : Launch) (Z : State) (a0 : Array Value) (hw : ∀ d ∈ tables_1, d.before a0 Z = true) (ws : List Jvm.Cond) (x0 : Addr) (x1 : Int32) (x2 : Int32) (x3 : Addr) (x4 : Addr) (x5 : Addr) (x6 : Int32) (x7 : Int32) (x8 : Int32) (wt : Int32) (h0 : Heap) (n0 : Nat) (Z0 : n0 ≤ h0.size) (F_n : Fld Z h0 x0 "com/example/tideloop/tideloop/Message" "nextPooled" "Lcom/example/tideloop/tideloop/Message;" .null) (F_w : Fld Z h0 x0 "com/example/tideloop/tideloop/Message" "what" "I" (.int wt)) :
    MetFree l (⟨"com/example/tideloop/tideloop/MessagePoolKeepPinLaw", "check", "(Lcom/example/tideloop/tideloop/Message;IILcom/example/tideloop/tideloop/Message;Lcom/example/tideloop/tideloop/Message;Lcom/example/tideloop/tideloop/Message;III)Z"⟩ : MethodName) (head1 (Jvm.Cond.code (⟨"com/example/tideloop/tideloop/MessagePoolKeepPinLaw", "check", "(Lcom/example/tideloop/tideloop/Message;IILcom/example/tideloop/tideloop/Message;Lcom/example/tideloop/tideloop/Message;Lcom/example/tideloop/tideloop/Message;III)Z"⟩ : MethodName) method_3_code 12 (some .boolean) :: ws) ({ frames := 0, cells := 0, slots := 0, locals := 0 } : Room)) (fun a U => a = #[(.ref x0), (.int x1), (.int x2), (.ref x3), (.ref x4), (.ref x5), (.int x6), (.int x7), (.int x8)] ∧ Z.Warmed39 U.vm ∧ U.heap = h0) (fun _ _ _ _ _ => True) (fun _ U o U' => ∃ vE LE, o = .returned vE ∧ Q8 Z x0 x1 x2 x3 x4 x5 x6 x7 x8 wt h0 n0 vE U'.heap LE ∧ FrameEnd U o U' LE ({ frames := 0, cells := 0, slots := 0, locals := 0 } : Room).cells ({ frames := 0, cells := 0, slots := 0, locals := 0 } : Room).slots) := by
  refine MetFree.of_bodySF (plainFor_of_name pn_2) hisR ?_
  intro p e s m args below meth c s₁ Bd hml0 hP hK
  obtain ⟨rfl, hZ, hh⟩ := hP
  have hx := Bd.exec
  have hby := Bd.bytes
  have hml : c.maxLocals = 12 := hml0
  have hown : s.vm.findClass "com/example/tideloop/tideloop/MessagePoolKeepPinLaw" = some m.cls := findClass_of_methodNamed Bd.named
  have hnm := (name_of_methodNamed Bd.named Bd.method).1
  have X0 : Stand p l e ({ frames := 0, cells := 0, slots := 0, locals := 0 } : Room) s m #[(.ref x0), (.int x1), (.int x2), (.ref x3), (.ref x4), (.ref x5), (.int x6), (.int x7), (.int x8)] below meth c s₁ [] 0 0 := Stand.of_body Bd
  have e0 : s₁.heap = h0 := by rw [← hh, Bd.state]; rfl
  have N0 := Fr.nil n0
  obtain ⟨sE, hsE⟩ : ∃ z, z = (s₁.setTop (entryFrame m #[(.ref x0), (.int x1), (.int x2), (.ref x3), (.ref x4), (.ref x5), (.int x6), (.int x7), (.int x8)] 12)) := ⟨_, rfl⟩
  have st0 : Steps p.tables e below sE (s₁.setTop (mkF m 0 #[.val (.ref x0), .val (.int x1), .val (.int x2), .val (.ref x3), .val (.ref x4), .val (.ref x5), .val (.int x6), .val (.int x7), .val (.int x8), .unset, .unset, .unset] [])) := by rw [hsE]; exact castTop (ef_8 m x0 x1 x2 x3 x4 x5 x6 x7 x8) (Steps.refl _)
  have st1 : Steps p.tables e below sE (s₁.setTop (mkF m 5 #[.val (.ref x0), .val (.int x1), .val (.int x2), .val (.ref x3), .val (.ref x4), .val (.ref x5), .val (.int x6), .val (.int x7), .val (.int x8), .unset, .unset, .unset] [(.ref x0)])) := st0.trans (by
      show Steps _ _ _ (s₁.setTop (mkF m 0 #[.val (.ref x0), .val (.int x1), .val (.int x2), .val (.ref x3), .val (.ref x4), .val (.ref x5), .val (.int x6), .val (.int x7), .val (.int x8), .unset, .unset, .unset] [])) _
      refine XS.aloadN X0.here hx rfl (hb hby d8_0) rfl rfl ?_
      show Steps _ _ _ (s₁.setTop (mkF m 1 #[.val (.ref x0), .val (.int x1), .val (.int x2), .val (.ref x3), .val (.ref x4), .val (.ref x5), .val (.int x6), .val (.int x7), .val (.int x8), .unset, .unset, .unset] [(.ref x0)])) _
      refine XS.ifnullNo X0.here hx rfl (hb hby d8_1) rfl ?_
      show Steps _ _ _ (s₁.setTop (mkF m 4 #[.val (.ref x0), .val (.int x1), .val (.int x2), .val (.ref x3), .val (.ref x4), .val (.ref x5), .val (.int x6), .val (.int x7), .val (.int x8), .unset, .unset, .unset] [])) _
      refine XS.aloadN X0.here hx rfl (hb hby d8_4) rfl rfl ?_
      exact Steps.refl _)
  obtain ⟨T2, X2, e2, sr2⟩ := getF X0 hx hZ hown (host := "") (Or.inl (hw _ (List.mem_of_getElem? (i := 11) rfl))) Via.refl e0 F_n (g := (mkF m 5 #[.val (.ref x0), .val (.int x1), .val (.int x2), .val (.ref x3), .val (.ref x4), .val (.ref x5), .val (.int x6), .val (.int x7), .val (.int x8), .unset, .unset, .unset] [(.ref x0)])) rfl rfl (hb hby d8_5)
  have st3 : Steps p.tables e below sE (T2.setTop (mkF m 8 #[.val (.ref x0), .val (.int x1), .val (.int x2), .val (.ref x3), .val (.ref x4), .val (.ref x5), .val (.int x6), .val (.int x7), .val (.int x8), .unset, .unset, .unset] [.null])) := st1.trans (sr2 _ (Steps.refl _))
  have st4 : Steps p.tables e below sE (T2.setTop (mkF m 15 #[.val (.ref x0), .val (.int x1), .val (.int x2), .val (.ref x3), .val (.ref x4), .val (.ref x5), .val (.int x6), .val (.int x7), .val (.int x8), .unset, .unset, .unset] [(.int x2), (.int x1)])) := st3.trans (by
      show Steps _ _ _ (T2.setTop (mkF m 8 #[.val (.ref x0), .val (.int x1), .val (.int x2), .val (.ref x3), .val (.ref x4), .val (.ref x5), .val (.int x6), .val (.int x7), .val (.int x8), .unset, .unset, .unset] [.null])) _
      refine XS.ifnullYes X2.here hx rfl (pc0 := 8) (pc' := 13) rfl (hb hby d8_8) rfl (by decide) (by decide) ?_
      show Steps _ _ _ (T2.setTop (mkF m 13 #[.val (.ref x0), .val (.int x1), .val (.int x2), .val (.ref x3), .val (.ref x4), .val (.ref x5), .val (.int x6), .val (.int x7), .val (.int x8), .unset, .unset, .unset] [])) _
      refine XS.iloadN X2.here hx rfl (hb hby d8_13) rfl ?_
      show Steps _ _ _ (T2.setTop (mkF m 14 #[.val (.ref x0), .val (.int x1), .val (.int x2), .val (.ref x3), .val (.ref x4), .val (.ref x5), .val (.int x6), .val (.int x7), .val (.int x8), .unset, .unset, .unset] [(.int x1)])) _
      refine XS.iloadN X2.here hx rfl (hb hby d8_14) rfl ?_
      exact Steps.refl _)
  by_cases hc5 : x2 < x1
  · have st6 : Steps p.tables e below sE (T2.setTop (mkF m 99 #[.val (.ref x0), .val (.int x1), .val (.int x2), .val (.ref x3), .val (.ref x4), .val (.ref x5), .val (.int x6), .val (.int x7), .val (.int x8), .unset, .unset, .unset] [(.ref x3), (.ref x0)])) := st4.trans (by
        show Steps _ _ _ (T2.setTop (mkF m 15 #[.val (.ref x0), .val (.int x1), .val (.int x2), .val (.ref x3), .val (.ref x4), .val (.ref x5), .val (.int x6), .val (.int x7), .val (.int x8), .unset, .unset, .unset] [(.int x2), (.int x1)])) _
        refine XS.icmpYes X2.here hx rfl (pc0 := 15) (pc' := 97) rfl (hb hby d8_15) rfl (tlt hc5).2.2.1 (by decide) (by decide) ?_
        show Steps _ _ _ (T2.setTop (mkF m 97 #[.val (.ref x0), .val (.int x1), .val (.int x2), .val (.ref x3), .val (.ref x4), .val (.ref x5), .val (.int x6), .val (.int x7), .val (.int x8), .unset, .unset, .unset] [])) _
        refine XS.aloadN X2.here hx rfl (hb hby d8_97) rfl rfl ?_
        show Steps _ _ _ (T2.setTop (mkF m 98 #[.val (.ref x0), .val (.int x1), .val (.int x2), .val (.ref x3), .val (.ref x4), .val (.ref x5), .val (.int x6), .val (.int x7), .val (.int x8), .unset, .unset, .unset] [(.ref x0)])) _
        refine XS.aloadN X2.here hx rfl (hb hby d8_98) rfl rfl ?_
        exact Steps.refl _)
    by_cases hc7 : x0 = x3
    · have st8 : Steps p.tables e below sE (T2.setTop (mkF m 126 #[.val (.ref x0), .val (.int x1), .val (.int x2), .val (.ref x3), .val (.ref x4), .val (.ref x5), .val (.int x6), .val (.int x7), .val (.int x8), .unset, .unset, .unset] [(.int (0 : Int32))])) := st6.trans (by
          show Steps _ _ _ (T2.setTop (mkF m 99 #[.val (.ref x0), .val (.int x1), .val (.int x2), .val (.ref x3), .val (.ref x4), .val (.ref x5), .val (.int x6), .val (.int x7), .val (.int x8), .unset, .unset, .unset] [(.ref x3), (.ref x0)])) _
          refine Jvm.RoadKit.acmp (g := (mkF m 99 #[.val (.ref x0), .val (.int x1), .val (.int x2), .val (.ref x3), .val (.ref x4), .val (.ref x5), .val (.int x6), .val (.int x7), .val (.int x8), .unset, .unset, .unset] [(.ref x3), (.ref x0)])) X2 hx rfl rfl rfl (pc0 := 99) (pc' := 125) (same := true) rfl (hb hby d8_99) rfl (decide_eq_true (congrArg Value.ref hc7)) (by decide) (by decide) ?_
          show Steps _ _ _ (T2.setTop (mkF m 125 #[.val (.ref x0), .val (.int x1), .val (.int x2), .val (.ref x3), .val (.ref x4), .val (.ref x5), .val (.int x6), .val (.int x7), .val (.int x8), .unset, .unset, .unset] [])) _
          refine XS.iconst X2.here hx rfl (hb hby d8_125) ?_
          exact Steps.refl _)
      obtain ⟨fs, hr, hrun, hended, hW, hsame⟩ := X2.leave (v := some (.int (0 : Int32))) (fun h => by rw [Bd.returns] at h; cases h)
      refine ⟨_, _, (own_ent hsE st8).trans ?_, hrun, hended, _, _, rfl, ?_, ⟨_, rfl⟩, hW, hsame.mono (by decide) (by decide)⟩
      · exact retN X2 hx (t := .boolean) Bd.returns (by simp) (hb hby d8_126) hr
      · show Q8 Z x0 x1 x2 x3 x4 x5 x6 x7 x8 wt h0 n0 _ T2.heap _
        rw [e2]
        exact ⟨by rw [F8, if_pos hc5, if_pos hc7], N0, rfl⟩
    · have st9 : Steps p.tables e below sE (T2.setTop (mkF m 105 #[.val (.ref x0), .val (.int x1), .val (.int x2), .val (.ref x3), .val (.ref x4), .val (.ref x5), .val (.int x6), .val (.int x7), .val (.int x8), .unset, .unset, .unset] [(.ref x4), (.ref x0)])) := st6.trans (by
          show Steps _ _ _ (T2.setTop (mkF m 99 #[.val (.ref x0), .val (.int x1), .val (.int x2), .val (.ref x3), .val (.ref x4), .val (.ref x5), .val (.int x6), .val (.int x7), .val (.int x8), .unset, .unset, .unset] [(.ref x3), (.ref x0)])) _
          refine Jvm.RoadKit.acmp (g := (mkF m 99 #[.val (.ref x0), .val (.int x1), .val (.int x2), .val (.ref x3), .val (.ref x4), .val (.ref x5), .val (.int x6), .val (.int x7), .val (.int x8), .unset, .unset, .unset] [(.ref x3), (.ref x0)])) X2 hx rfl rfl rfl (pc0 := 99) (pc' := 102) (same := false) rfl (hb hby d8_99) rfl (decide_eq_false fun q => hc7 (Value.ref.inj q)) (by decide) (by decide) ?_
          show Steps _ _ _ (T2.setTop (mkF m 102 #[.val (.ref x0), .val (.int x1), .val (.int x2), .val (.ref x3), .val (.ref x4), .val (.ref x5), .val (.int x6), .val (.int x7), .val (.int x8), .unset, .unset, .unset] [])) _
          refine XS.aloadN X2.here hx rfl (hb hby d8_102) rfl rfl ?_
          show Steps _ _ _ (T2.setTop (mkF m 103 #[.val (.ref x0), .val (.int x1), .val (.int x2), .val (.ref x3), .val (.ref x4), .val (.ref x5), .val (.int x6), .val (.int x7), .val (.int x8), .unset, .unset, .unset] [(.ref x0)])) _
          refine XS.aload X2.here hx rfl (hb hby d8_103) rfl rfl ?_
          exact Steps.refl _)
      by_cases hc10 : x0 = x4
      · have st11 : Steps p.tables e below sE (T2.setTop (mkF m 126 #[.val (.ref x0), .val (.int x1), .val (.int x2), .val (.ref x3), .val (.ref x4), .val (.ref x5), .val (.int x6), .val (.int x7), .val (.int x8), .unset, .unset, .unset] [(.int (0 : Int32))])) := st9.trans (by
            show Steps _ _ _ (T2.setTop (mkF m 105 #[.val (.ref x0), .val (.int x1), .val (.int x2), .val (.ref x3), .val (.ref x4), .val (.ref x5), .val (.int x6), .val (.int x7), .val (.int x8), .unset, .unset, .unset] [(.ref x4), (.ref x0)])) _
            refine Jvm.RoadKit.acmp (g := (mkF m 105 #[.val (.ref x0), .val (.int x1), .val (.int x2), .val (.ref x3), .val (.ref x4), .val (.ref x5), .val (.int x6), .val (.int x7), .val (.int x8), .unset, .unset, .unset] [(.ref x4), (.ref x0)])) X2 hx rfl rfl rfl (pc0 := 105) (pc' := 125) (same := true) rfl (hb hby d8_105) rfl (decide_eq_true (congrArg Value.ref hc10)) (by decide) (by decide) ?_
            show Steps _ _ _ (T2.setTop (mkF m 125 #[.val (.ref x0), .val (.int x1), .val (.int x2), .val (.ref x3), .val (.ref x4), .val (.ref x5), .val (.int x6), .val (.int x7), .val (.int x8), .unset, .unset, .unset] [])) _
            refine XS.iconst X2.here hx rfl (hb hby d8_125) ?_
            exact Steps.refl _)
        obtain ⟨fs, hr, hrun, hended, hW, hsame⟩ := X2.leave (v := some (.int (0 : Int32))) (fun h => by rw [Bd.returns] at h; cases h)
        refine ⟨_, _, (own_ent hsE st11).trans ?_, hrun, hended, _, _, rfl, ?_, ⟨_, rfl⟩, hW, hsame.mono (by decide) (by decide)⟩
        · exact retN X2 hx (t := .boolean) Bd.returns (by simp) (hb hby d8_126) hr
        · show Q8 Z x0 x1 x2 x3 x4 x5 x6 x7 x8 wt h0 n0 _ T2.heap _
          rw [e2]
          exact ⟨by rw [F8, if_pos hc5, if_neg hc7, if_pos hc10], N0, rfl⟩
      · have st12 : Steps p.tables e below sE (T2.setTop (mkF m 111 #[.val (.ref x0), .val (.int x1), .val (.int x2), .val (.ref x3), .val (.ref x4), .val (.ref x5), .val (.int x6), .val (.int x7), .val (.int x8), .unset, .unset, .unset] [(.ref x5), (.ref x0)])) := st9.trans (by
            show Steps _ _ _ (T2.setTop (mkF m 105 #[.val (.ref x0), .val (.int x1), .val (.int x2), .val (.ref x3), .val (.ref x4), .val (.ref x5), .val (.int x6), .val (.int x7), .val (.int x8), .unset, .unset, .unset] [(.ref x4), (.ref x0)])) _
            refine Jvm.RoadKit.acmp (g := (mkF m 105 #[.val (.ref x0), .val (.int x1), .val (.int x2), .val (.ref x3), .val (.ref x4), .val (.ref x5), .val (.int x6), .val (.int x7), .val (.int x8), .unset, .unset, .unset] [(.ref x4), (.ref x0)])) X2 hx rfl rfl rfl (pc0 := 105) (pc' := 108) (same := false) rfl (hb hby d8_105) rfl (decide_eq_false fun q => hc10 (Value.ref.inj q)) (by decide) (by decide) ?_
            show Steps _ _ _ (T2.setTop (mkF m 108 #[.val (.ref x0), .val (.int x1), .val (.int x2), .val (.ref x3), .val (.ref x4), .val (.ref x5), .val (.int x6), .val (.int x7), .val (.int x8), .unset, .unset, .unset] [])) _
            refine XS.aloadN X2.here hx rfl (hb hby d8_108) rfl rfl ?_
            show Steps _ _ _ (T2.setTop (mkF m 109 #[.val (.ref x0), .val (.int x1), .val (.int x2), .val (.ref x3), .val (.ref x4), .val (.ref x5), .val (.int x6), .val (.int x7), .val (.int x8), .unset, .unset, .unset] [(.ref x0)])) _
            refine XS.aload X2.here hx rfl (hb hby d8_109) rfl rfl ?_
            exact Steps.refl _)
        by_cases hc13 : x0 = x5
        · have st14 : Steps p.tables e below sE (T2.setTop (mkF m 126 #[.val (.ref x0), .val (.int x1), .val (.int x2), .val (.ref x3), .val (.ref x4), .val (.ref x5), .val (.int x6), .val (.int x7), .val (.int x8), .unset, .unset, .unset] [(.int (0 : Int32))])) := st12.trans (by
              show Steps _ _ _ (T2.setTop (mkF m 111 #[.val (.ref x0), .val (.int x1), .val (.int x2), .val (.ref x3), .val (.ref x4), .val (.ref x5), .val (.int x6), .val (.int x7), .val (.int x8), .unset, .unset, .unset] [(.ref x5), (.ref x0)])) _
              refine Jvm.RoadKit.acmp (g := (mkF m 111 #[.val (.ref x0), .val (.int x1), .val (.int x2), .val (.ref x3), .val (.ref x4), .val (.ref x5), .val (.int x6), .val (.int x7), .val (.int x8), .unset, .unset, .unset] [(.ref x5), (.ref x0)])) X2 hx rfl rfl rfl (pc0 := 111) (pc' := 125) (same := true) rfl (hb hby d8_111) rfl (decide_eq_true (congrArg Value.ref hc13)) (by decide) (by decide) ?_
              show Steps _ _ _ (T2.setTop (mkF m 125 #[.val (.ref x0), .val (.int x1), .val (.int x2), .val (.ref x3), .val (.ref x4), .val (.ref x5), .val (.int x6), .val (.int x7), .val (.int x8), .unset, .unset, .unset] [])) _
              refine XS.iconst X2.here hx rfl (hb hby d8_125) ?_
              exact Steps.refl _)
          obtain ⟨fs, hr, hrun, hended, hW, hsame⟩ := X2.leave (v := some (.int (0 : Int32))) (fun h => by rw [Bd.returns] at h; cases h)
          refine ⟨_, _, (own_ent hsE st14).trans ?_, hrun, hended, _, _, rfl, ?_, ⟨_, rfl⟩, hW, hsame.mono (by decide) (by decide)⟩
          · exact retN X2 hx (t := .boolean) Bd.returns (by simp) (hb hby d8_126) hr
          · show Q8 Z x0 x1 x2 x3 x4 x5 x6 x7 x8 wt h0 n0 _ T2.heap _
            rw [e2]
            exact ⟨by rw [F8, if_pos hc5, if_neg hc7, if_neg hc10, if_pos hc13], N0, rfl⟩
        · have st15 : Steps p.tables e below sE (T2.setTop (mkF m 115 #[.val (.ref x0), .val (.int x1), .val (.int x2), .val (.ref x3), .val (.ref x4), .val (.ref x5), .val (.int x6), .val (.int x7), .val (.int x8), .unset, .unset, .unset] [(.ref x0)])) := st12.trans (by
              show Steps _ _ _ (T2.setTop (mkF m 111 #[.val (.ref x0), .val (.int x1), .val (.int x2), .val (.ref x3), .val (.ref x4), .val (.ref x5), .val (.int x6), .val (.int x7), .val (.int x8), .unset, .unset, .unset] [(.ref x5), (.ref x0)])) _
              refine Jvm.RoadKit.acmp (g := (mkF m 111 #[.val (.ref x0), .val (.int x1), .val (.int x2), .val (.ref x3), .val (.ref x4), .val (.ref x5), .val (.int x6), .val (.int x7), .val (.int x8), .unset, .unset, .unset] [(.ref x5), (.ref x0)])) X2 hx rfl rfl rfl (pc0 := 111) (pc' := 114) (same := false) rfl (hb hby d8_111) rfl (decide_eq_false fun q => hc13 (Value.ref.inj q)) (by decide) (by decide) ?_
              show Steps _ _ _ (T2.setTop (mkF m 114 #[.val (.ref x0), .val (.int x1), .val (.int x2), .val (.ref x3), .val (.ref x4), .val (.ref x5), .val (.int x6), .val (.int x7), .val (.int x8), .unset, .unset, .unset] [])) _
              refine XS.aloadN X2.here hx rfl (hb hby d8_114) rfl rfl ?_
              exact Steps.refl _)
          obtain ⟨T16, X16, e16, sr16⟩ := getF X2 hx hZ hown (host := "") (Or.inl (hw _ (List.mem_of_getElem? (i := 9) rfl))) Via.refl e2 F_w (g := (mkF m 115 #[.val (.ref x0), .val (.int x1), .val (.int x2), .val (.ref x3), .val (.ref x4), .val (.ref x5), .val (.int x6), .val (.int x7), .val (.int x8), .unset, .unset, .unset] [(.ref x0)])) rfl rfl (hb hby d8_115)
          have st17 : Steps p.tables e below sE (T16.setTop (mkF m 118 #[.val (.ref x0), .val (.int x1), .val (.int x2), .val (.ref x3), .val (.ref x4), .val (.ref x5), .val (.int x6), .val (.int x7), .val (.int x8), .unset, .unset, .unset] [(.int wt)])) := st15.trans (sr16 _ (Steps.refl _))
          by_cases hc18 : wt = (0 : Int32)
          · have st19 : Steps p.tables e below sE (T16.setTop (mkF m 126 #[.val (.ref x0), .val (.int x1), .val (.int x2), .val (.ref x3), .val (.ref x4), .val (.ref x5), .val (.int x6), .val (.int x7), .val (.int x8), .unset, .unset, .unset] [(.int (1 : Int32))])) := st17.trans (by
                show Steps _ _ _ (T16.setTop (mkF m 118 #[.val (.ref x0), .val (.int x1), .val (.int x2), .val (.ref x3), .val (.ref x4), .val (.ref x5), .val (.int x6), .val (.int x7), .val (.int x8), .unset, .unset, .unset] [(.int wt)])) _
                refine XS.ifNo X16.here hx rfl (hb hby d8_118) rfl ((if0 _ _).trans (teq hc18).2) ?_
                show Steps _ _ _ (T16.setTop (mkF m 121 #[.val (.ref x0), .val (.int x1), .val (.int x2), .val (.ref x3), .val (.ref x4), .val (.ref x5), .val (.int x6), .val (.int x7), .val (.int x8), .unset, .unset, .unset] [])) _
                refine XS.iconst X16.here hx rfl (hb hby d8_121) ?_
                show Steps _ _ _ (T16.setTop (mkF m 122 #[.val (.ref x0), .val (.int x1), .val (.int x2), .val (.ref x3), .val (.ref x4), .val (.ref x5), .val (.int x6), .val (.int x7), .val (.int x8), .unset, .unset, .unset] [(.int (1 : Int32))])) _
                refine XS.goto X16.here hx rfl (pc0 := 122) (pc' := 126) rfl (hb hby d8_122) (by decide) (by decide) ?_
                exact Steps.refl _)
            obtain ⟨fs, hr, hrun, hended, hW, hsame⟩ := X16.leave (v := some (.int (1 : Int32))) (fun h => by rw [Bd.returns] at h; cases h)
            refine ⟨_, _, (own_ent hsE st19).trans ?_, hrun, hended, _, _, rfl, ?_, ⟨_, rfl⟩, hW, hsame.mono (by decide) (by decide)⟩
            · exact retN X16 hx (t := .boolean) Bd.returns (by simp) (hb hby d8_126) hr
            · show Q8 Z x0 x1 x2 x3 x4 x5 x6 x7 x8 wt h0 n0 _ T16.heap _
              rw [e16]
              exact ⟨by rw [F8, if_pos hc5, if_neg hc7, if_neg hc10, if_neg hc13, if_pos hc18], N0, rfl⟩
          · have st20 : Steps p.tables e below sE (T16.setTop (mkF m 126 #[.val (.ref x0), .val (.int x1), .val (.int x2), .val (.ref x3), .val (.ref x4), .val (.ref x5), .val (.int x6), .val (.int x7), .val (.int x8), .unset, .unset, .unset] [(.int (0 : Int32))])) := st17.trans (by
                show Steps _ _ _ (T16.setTop (mkF m 118 #[.val (.ref x0), .val (.int x1), .val (.int x2), .val (.ref x3), .val (.ref x4), .val (.ref x5), .val (.int x6), .val (.int x7), .val (.int x8), .unset, .unset, .unset] [(.int wt)])) _
                refine XS.ifYes X16.here hx rfl (pc0 := 118) (pc' := 125) rfl (hb hby d8_118) rfl ((if0 _ _).trans (feq hc18).2) (by decide) (by decide) ?_
                show Steps _ _ _ (T16.setTop (mkF m 125 #[.val (.ref x0), .val (.int x1), .val (.int x2), .val (.ref x3), .val (.ref x4), .val (.ref x5), .val (.int x6), .val (.int x7), .val (.int x8), .unset, .unset, .unset] [])) _
                refine XS.iconst X16.here hx rfl (hb hby d8_125) ?_
                exact Steps.refl _)
            obtain ⟨fs, hr, hrun, hended, hW, hsame⟩ := X16.leave (v := some (.int (0 : Int32))) (fun h => by rw [Bd.returns] at h; cases h)
            refine ⟨_, _, (own_ent hsE st20).trans ?_, hrun, hended, _, _, rfl, ?_, ⟨_, rfl⟩, hW, hsame.mono (by decide) (by decide)⟩
            · exact retN X16 hx (t := .boolean) Bd.returns (by simp) (hb hby d8_126) hr
            · show Q8 Z x0 x1 x2 x3 x4 x5 x6 x7 x8 wt h0 n0 _ T16.heap _
              rw [e16]
              exact ⟨by rw [F8, if_pos hc5, if_neg hc7, if_neg hc10, if_neg hc13, if_neg hc18], N0, rfl⟩
  · have st21 : Steps p.tables e below sE (T2.setTop (mkF m 28 #[.val (.ref x0), .val (.int x1), .val (.int x2), .val (.ref x3), .val (.ref x4), .val (.ref x5), .val (.int x6), .val (.int x7), .val (.int x8), .val (.int ((x2 - x1) + (1 : Int32))), .unset, .unset] [(.int (1 : Int32)), (.int ((x2 - x1) + (1 : Int32)))])) := st4.trans (by
        show Steps _ _ _ (T2.setTop (mkF m 15 #[.val (.ref x0), .val (.int x1), .val (.int x2), .val (.ref x3), .val (.ref x4), .val (.ref x5), .val (.int x6), .val (.int x7), .val (.int x8), .unset, .unset, .unset] [(.int x2), (.int x1)])) _
        refine XS.icmpNo X2.here hx rfl (hb hby d8_15) rfl (flt hc5).2.2.1 ?_
        show Steps _ _ _ (T2.setTop (mkF m 18 #[.val (.ref x0), .val (.int x1), .val (.int x2), .val (.ref x3), .val (.ref x4), .val (.ref x5), .val (.int x6), .val (.int x7), .val (.int x8), .unset, .unset, .unset] [])) _
        refine XS.iloadN X2.here hx rfl (hb hby d8_18) rfl ?_
        show Steps _ _ _ (T2.setTop (mkF m 19 #[.val (.ref x0), .val (.int x1), .val (.int x2), .val (.ref x3), .val (.ref x4), .val (.ref x5), .val (.int x6), .val (.int x7), .val (.int x8), .unset, .unset, .unset] [(.int x2)])) _
        refine XS.iloadN X2.here hx rfl (hb hby d8_19) rfl ?_
        show Steps _ _ _ (T2.setTop (mkF m 20 #[.val (.ref x0), .val (.int x1), .val (.int x2), .val (.ref x3), .val (.ref x4), .val (.ref x5), .val (.int x6), .val (.int x7), .val (.int x8), .unset, .unset, .unset] [(.int x1), (.int x2)])) _
        refine XS.isub X2.here hx rfl (hb hby d8_20) rfl ?_
        show Steps _ _ _ (T2.setTop (mkF m 21 #[.val (.ref x0), .val (.int x1), .val (.int x2), .val (.ref x3), .val (.ref x4), .val (.ref x5), .val (.int x6), .val (.int x7), .val (.int x8), .unset, .unset, .unset] [(.int (x2 - x1))])) _
        refine XS.iconst X2.here hx rfl (hb hby d8_21) ?_
        show Steps _ _ _ (T2.setTop (mkF m 22 #[.val (.ref x0), .val (.int x1), .val (.int x2), .val (.ref x3), .val (.ref x4), .val (.ref x5), .val (.int x6), .val (.int x7), .val (.int x8), .unset, .unset, .unset] [(.int (1 : Int32)), (.int (x2 - x1))])) _
        refine XS.iadd X2.here hx rfl (hb hby d8_22) rfl ?_
        show Steps _ _ _ (T2.setTop (mkF m 23 #[.val (.ref x0), .val (.int x1), .val (.int x2), .val (.ref x3), .val (.ref x4), .val (.ref x5), .val (.int x6), .val (.int x7), .val (.int x8), .unset, .unset, .unset] [(.int ((x2 - x1) + (1 : Int32)))])) _
        refine XS.istore X2.here hx rfl (hb hby d8_23) rfl (l' := #[.val (.ref x0), .val (.int x1), .val (.int x2), .val (.ref x3), .val (.ref x4), .val (.ref x5), .val (.int x6), .val (.int x7), .val (.int x8), .val (.int ((x2 - x1) + (1 : Int32))), .unset, .unset]) rfl ?_
        show Steps _ _ _ (T2.setTop (mkF m 25 #[.val (.ref x0), .val (.int x1), .val (.int x2), .val (.ref x3), .val (.ref x4), .val (.ref x5), .val (.int x6), .val (.int x7), .val (.int x8), .val (.int ((x2 - x1) + (1 : Int32))), .unset, .unset] [])) _
        refine XS.iload X2.here hx rfl (hb hby d8_25) rfl ?_
        show Steps _ _ _ (T2.setTop (mkF m 27 #[.val (.ref x0), .val (.int x1), .val (.int x2), .val (.ref x3), .val (.ref x4), .val (.ref x5), .val (.int x6), .val (.int x7), .val (.int x8), .val (.int ((x2 - x1) + (1 : Int32))), .unset, .unset] [(.int ((x2 - x1) + (1 : Int32)))])) _
        refine XS.iconst X2.here hx rfl (hb hby d8_27) ?_
        exact Steps.refl _)
    have st24 : Steps p.tables e below sE (T2.setTop (mkF m 48 #[.val (.ref x0), .val (.int x1), .val (.int x2), .val (.ref x3), .val (.ref x4), .val (.ref x5), .val (.int x6), .val (.int x7), .val (.int x8), .val (.int ((x2 - x1) + (1 : Int32))), .unset, .unset] [(.ref (if ((x2 - x1) + (1 : Int32)) = (1 : Int32) then x3 else (if ((x2 - x1) + (1 : Int32)) = (2 : Int32) then x4 else x5)))])) := st21.trans (by
        show Steps _ _ _ (T2.setTop (mkF m 28 #[.val (.ref x0), .val (.int x1), .val (.int x2), .val (.ref x3), .val (.ref x4), .val (.ref x5), .val (.int x6), .val (.int x7), .val (.int x8), .val (.int ((x2 - x1) + (1 : Int32))), .unset, .unset] [(.int (1 : Int32)), (.int ((x2 - x1) + (1 : Int32)))])) _
        by_cases hc22 : ((x2 - x1) + (1 : Int32)) = (1 : Int32)
        · show Steps _ _ _ (T2.setTop (mkF m 28 #[.val (.ref x0), .val (.int x1), .val (.int x2), .val (.ref x3), .val (.ref x4), .val (.ref x5), .val (.int x6), .val (.int x7), .val (.int x8), .val (.int ((x2 - x1) + (1 : Int32))), .unset, .unset] [(.int (1 : Int32)), (.int ((x2 - x1) + (1 : Int32)))])) _
          refine XS.icmpNo X2.here hx rfl (hb hby d8_28) rfl (teq hc22).2 ?_
          show Steps _ _ _ (T2.setTop (mkF m 31 #[.val (.ref x0), .val (.int x1), .val (.int x2), .val (.ref x3), .val (.ref x4), .val (.ref x5), .val (.int x6), .val (.int x7), .val (.int x8), .val (.int ((x2 - x1) + (1 : Int32))), .unset, .unset] [])) _
          refine XS.aloadN X2.here hx rfl (hb hby d8_31) rfl rfl ?_
          show Steps _ _ _ (T2.setTop (mkF m 32 #[.val (.ref x0), .val (.int x1), .val (.int x2), .val (.ref x3), .val (.ref x4), .val (.ref x5), .val (.int x6), .val (.int x7), .val (.int x8), .val (.int ((x2 - x1) + (1 : Int32))), .unset, .unset] [(.ref x3)])) _
          refine XS.goto X2.here hx rfl (pc0 := 32) (pc' := 48) rfl (hb hby d8_32) (by decide) (by decide) ?_
          simp only [if_pos hc22]
          exact Steps.refl _
        · show Steps _ _ _ (T2.setTop (mkF m 28 #[.val (.ref x0), .val (.int x1), .val (.int x2), .val (.ref x3), .val (.ref x4), .val (.ref x5), .val (.int x6), .val (.int x7), .val (.int x8), .val (.int ((x2 - x1) + (1 : Int32))), .unset, .unset] [(.int (1 : Int32)), (.int ((x2 - x1) + (1 : Int32)))])) _
          refine XS.icmpYes X2.here hx rfl (pc0 := 28) (pc' := 35) rfl (hb hby d8_28) rfl (feq hc22).2 (by decide) (by decide) ?_
          show Steps _ _ _ (T2.setTop (mkF m 35 #[.val (.ref x0), .val (.int x1), .val (.int x2), .val (.ref x3), .val (.ref x4), .val (.ref x5), .val (.int x6), .val (.int x7), .val (.int x8), .val (.int ((x2 - x1) + (1 : Int32))), .unset, .unset] [])) _
          refine XS.iload X2.here hx rfl (hb hby d8_35) rfl ?_
          show Steps _ _ _ (T2.setTop (mkF m 37 #[.val (.ref x0), .val (.int x1), .val (.int x2), .val (.ref x3), .val (.ref x4), .val (.ref x5), .val (.int x6), .val (.int x7), .val (.int x8), .val (.int ((x2 - x1) + (1 : Int32))), .unset, .unset] [(.int ((x2 - x1) + (1 : Int32)))])) _
          refine XS.iconst X2.here hx rfl (hb hby d8_37) ?_
          show Steps _ _ _ (T2.setTop (mkF m 38 #[.val (.ref x0), .val (.int x1), .val (.int x2), .val (.ref x3), .val (.ref x4), .val (.ref x5), .val (.int x6), .val (.int x7), .val (.int x8), .val (.int ((x2 - x1) + (1 : Int32))), .unset, .unset] [(.int (2 : Int32)), (.int ((x2 - x1) + (1 : Int32)))])) _
          by_cases hc23 : ((x2 - x1) + (1 : Int32)) = (2 : Int32)
          · show Steps _ _ _ (T2.setTop (mkF m 38 #[.val (.ref x0), .val (.int x1), .val (.int x2), .val (.ref x3), .val (.ref x4), .val (.ref x5), .val (.int x6), .val (.int x7), .val (.int x8), .val (.int ((x2 - x1) + (1 : Int32))), .unset, .unset] [(.int (2 : Int32)), (.int ((x2 - x1) + (1 : Int32)))])) _
            refine XS.icmpNo X2.here hx rfl (hb hby d8_38) rfl (teq hc23).2 ?_
            show Steps _ _ _ (T2.setTop (mkF m 41 #[.val (.ref x0), .val (.int x1), .val (.int x2), .val (.ref x3), .val (.ref x4), .val (.ref x5), .val (.int x6), .val (.int x7), .val (.int x8), .val (.int ((x2 - x1) + (1 : Int32))), .unset, .unset] [])) _
            refine XS.aload X2.here hx rfl (hb hby d8_41) rfl rfl ?_
            show Steps _ _ _ (T2.setTop (mkF m 43 #[.val (.ref x0), .val (.int x1), .val (.int x2), .val (.ref x3), .val (.ref x4), .val (.ref x5), .val (.int x6), .val (.int x7), .val (.int x8), .val (.int ((x2 - x1) + (1 : Int32))), .unset, .unset] [(.ref x4)])) _
            refine XS.goto X2.here hx rfl (pc0 := 43) (pc' := 48) rfl (hb hby d8_43) (by decide) (by decide) ?_
            simp only [if_neg hc22, if_pos hc23]
            exact Steps.refl _
          · show Steps _ _ _ (T2.setTop (mkF m 38 #[.val (.ref x0), .val (.int x1), .val (.int x2), .val (.ref x3), .val (.ref x4), .val (.ref x5), .val (.int x6), .val (.int x7), .val (.int x8), .val (.int ((x2 - x1) + (1 : Int32))), .unset, .unset] [(.int (2 : Int32)), (.int ((x2 - x1) + (1 : Int32)))])) _
            refine XS.icmpYes X2.here hx rfl (pc0 := 38) (pc' := 46) rfl (hb hby d8_38) rfl (feq hc23).2 (by decide) (by decide) ?_
            show Steps _ _ _ (T2.setTop (mkF m 46 #[.val (.ref x0), .val (.int x1), .val (.int x2), .val (.ref x3), .val (.ref x4), .val (.ref x5), .val (.int x6), .val (.int x7), .val (.int x8), .val (.int ((x2 - x1) + (1 : Int32))), .unset, .unset] [])) _
            refine XS.aload X2.here hx rfl (hb hby d8_46) rfl rfl ?_
            simp only [if_neg hc22, if_neg hc23]
            exact Steps.refl _
        )
    have st25 : Steps p.tables e below sE (T2.setTop (mkF m 53 #[.val (.ref x0), .val (.int x1), .val (.int x2), .val (.ref x3), .val (.ref x4), .val (.ref x5), .val (.int x6), .val (.int x7), .val (.int x8), .val (.int ((x2 - x1) + (1 : Int32))), .val (.ref (if ((x2 - x1) + (1 : Int32)) = (1 : Int32) then x3 else (if ((x2 - x1) + (1 : Int32)) = (2 : Int32) then x4 else x5))), .unset] [(.int (1 : Int32)), (.int ((x2 - x1) + (1 : Int32)))])) := st24.trans (by
        show Steps _ _ _ (T2.setTop (mkF m 48 #[.val (.ref x0), .val (.int x1), .val (.int x2), .val (.ref x3), .val (.ref x4), .val (.ref x5), .val (.int x6), .val (.int x7), .val (.int x8), .val (.int ((x2 - x1) + (1 : Int32))), .unset, .unset] [(.ref (if ((x2 - x1) + (1 : Int32)) = (1 : Int32) then x3 else (if ((x2 - x1) + (1 : Int32)) = (2 : Int32) then x4 else x5)))])) _
        refine XS.astore X2.here hx rfl (hb hby d8_48) rfl rfl (l' := #[.val (.ref x0), .val (.int x1), .val (.int x2), .val (.ref x3), .val (.ref x4), .val (.ref x5), .val (.int x6), .val (.int x7), .val (.int x8), .val (.int ((x2 - x1) + (1 : Int32))), .val (.ref (if ((x2 - x1) + (1 : Int32)) = (1 : Int32) then x3 else (if ((x2 - x1) + (1 : Int32)) = (2 : Int32) then x4 else x5))), .unset]) rfl ?_
        show Steps _ _ _ (T2.setTop (mkF m 50 #[.val (.ref x0), .val (.int x1), .val (.int x2), .val (.ref x3), .val (.ref x4), .val (.ref x5), .val (.int x6), .val (.int x7), .val (.int x8), .val (.int ((x2 - x1) + (1 : Int32))), .val (.ref (if ((x2 - x1) + (1 : Int32)) = (1 : Int32) then x3 else (if ((x2 - x1) + (1 : Int32)) = (2 : Int32) then x4 else x5))), .unset] [])) _
        refine XS.iload X2.here hx rfl (hb hby d8_50) rfl ?_
        show Steps _ _ _ (T2.setTop (mkF m 52 #[.val (.ref x0), .val (.int x1), .val (.int x2), .val (.ref x3), .val (.ref x4), .val (.ref x5), .val (.int x6), .val (.int x7), .val (.int x8), .val (.int ((x2 - x1) + (1 : Int32))), .val (.ref (if ((x2 - x1) + (1 : Int32)) = (1 : Int32) then x3 else (if ((x2 - x1) + (1 : Int32)) = (2 : Int32) then x4 else x5))), .unset] [(.int ((x2 - x1) + (1 : Int32)))])) _
        refine XS.iconst X2.here hx rfl (hb hby d8_52) ?_
        exact Steps.refl _)
    have st28 : Steps p.tables e below sE (T2.setTop (mkF m 74 #[.val (.ref x0), .val (.int x1), .val (.int x2), .val (.ref x3), .val (.ref x4), .val (.ref x5), .val (.int x6), .val (.int x7), .val (.int x8), .val (.int ((x2 - x1) + (1 : Int32))), .val (.ref (if ((x2 - x1) + (1 : Int32)) = (1 : Int32) then x3 else (if ((x2 - x1) + (1 : Int32)) = (2 : Int32) then x4 else x5))), .unset] [(.int (if ((x2 - x1) + (1 : Int32)) = (1 : Int32) then x6 else (if ((x2 - x1) + (1 : Int32)) = (2 : Int32) then x7 else x8)))])) := st25.trans (by
        show Steps _ _ _ (T2.setTop (mkF m 53 #[.val (.ref x0), .val (.int x1), .val (.int x2), .val (.ref x3), .val (.ref x4), .val (.ref x5), .val (.int x6), .val (.int x7), .val (.int x8), .val (.int ((x2 - x1) + (1 : Int32))), .val (.ref (if ((x2 - x1) + (1 : Int32)) = (1 : Int32) then x3 else (if ((x2 - x1) + (1 : Int32)) = (2 : Int32) then x4 else x5))), .unset] [(.int (1 : Int32)), (.int ((x2 - x1) + (1 : Int32)))])) _
        by_cases hc26 : ((x2 - x1) + (1 : Int32)) = (1 : Int32)
        · show Steps _ _ _ (T2.setTop (mkF m 53 #[.val (.ref x0), .val (.int x1), .val (.int x2), .val (.ref x3), .val (.ref x4), .val (.ref x5), .val (.int x6), .val (.int x7), .val (.int x8), .val (.int ((x2 - x1) + (1 : Int32))), .val (.ref (if ((x2 - x1) + (1 : Int32)) = (1 : Int32) then x3 else (if ((x2 - x1) + (1 : Int32)) = (2 : Int32) then x4 else x5))), .unset] [(.int (1 : Int32)), (.int ((x2 - x1) + (1 : Int32)))])) _
          refine XS.icmpNo X2.here hx rfl (hb hby d8_53) rfl (teq hc26).2 ?_
          show Steps _ _ _ (T2.setTop (mkF m 56 #[.val (.ref x0), .val (.int x1), .val (.int x2), .val (.ref x3), .val (.ref x4), .val (.ref x5), .val (.int x6), .val (.int x7), .val (.int x8), .val (.int ((x2 - x1) + (1 : Int32))), .val (.ref (if ((x2 - x1) + (1 : Int32)) = (1 : Int32) then x3 else (if ((x2 - x1) + (1 : Int32)) = (2 : Int32) then x4 else x5))), .unset] [])) _
          refine XS.iload X2.here hx rfl (hb hby d8_56) rfl ?_
          show Steps _ _ _ (T2.setTop (mkF m 58 #[.val (.ref x0), .val (.int x1), .val (.int x2), .val (.ref x3), .val (.ref x4), .val (.ref x5), .val (.int x6), .val (.int x7), .val (.int x8), .val (.int ((x2 - x1) + (1 : Int32))), .val (.ref (if ((x2 - x1) + (1 : Int32)) = (1 : Int32) then x3 else (if ((x2 - x1) + (1 : Int32)) = (2 : Int32) then x4 else x5))), .unset] [(.int x6)])) _
          refine XS.goto X2.here hx rfl (pc0 := 58) (pc' := 74) rfl (hb hby d8_58) (by decide) (by decide) ?_
          simp only [if_pos hc26]
          exact Steps.refl _
        · show Steps _ _ _ (T2.setTop (mkF m 53 #[.val (.ref x0), .val (.int x1), .val (.int x2), .val (.ref x3), .val (.ref x4), .val (.ref x5), .val (.int x6), .val (.int x7), .val (.int x8), .val (.int ((x2 - x1) + (1 : Int32))), .val (.ref (if ((x2 - x1) + (1 : Int32)) = (1 : Int32) then x3 else (if ((x2 - x1) + (1 : Int32)) = (2 : Int32) then x4 else x5))), .unset] [(.int (1 : Int32)), (.int ((x2 - x1) + (1 : Int32)))])) _
          refine XS.icmpYes X2.here hx rfl (pc0 := 53) (pc' := 61) rfl (hb hby d8_53) rfl (feq hc26).2 (by decide) (by decide) ?_
          show Steps _ _ _ (T2.setTop (mkF m 61 #[.val (.ref x0), .val (.int x1), .val (.int x2), .val (.ref x3), .val (.ref x4), .val (.ref x5), .val (.int x6), .val (.int x7), .val (.int x8), .val (.int ((x2 - x1) + (1 : Int32))), .val (.ref (if ((x2 - x1) + (1 : Int32)) = (1 : Int32) then x3 else (if ((x2 - x1) + (1 : Int32)) = (2 : Int32) then x4 else x5))), .unset] [])) _
          refine XS.iload X2.here hx rfl (hb hby d8_61) rfl ?_
          show Steps _ _ _ (T2.setTop (mkF m 63 #[.val (.ref x0), .val (.int x1), .val (.int x2), .val (.ref x3), .val (.ref x4), .val (.ref x5), .val (.int x6), .val (.int x7), .val (.int x8), .val (.int ((x2 - x1) + (1 : Int32))), .val (.ref (if ((x2 - x1) + (1 : Int32)) = (1 : Int32) then x3 else (if ((x2 - x1) + (1 : Int32)) = (2 : Int32) then x4 else x5))), .unset] [(.int ((x2 - x1) + (1 : Int32)))])) _
          refine XS.iconst X2.here hx rfl (hb hby d8_63) ?_
          show Steps _ _ _ (T2.setTop (mkF m 64 #[.val (.ref x0), .val (.int x1), .val (.int x2), .val (.ref x3), .val (.ref x4), .val (.ref x5), .val (.int x6), .val (.int x7), .val (.int x8), .val (.int ((x2 - x1) + (1 : Int32))), .val (.ref (if ((x2 - x1) + (1 : Int32)) = (1 : Int32) then x3 else (if ((x2 - x1) + (1 : Int32)) = (2 : Int32) then x4 else x5))), .unset] [(.int (2 : Int32)), (.int ((x2 - x1) + (1 : Int32)))])) _
          by_cases hc27 : ((x2 - x1) + (1 : Int32)) = (2 : Int32)
          · show Steps _ _ _ (T2.setTop (mkF m 64 #[.val (.ref x0), .val (.int x1), .val (.int x2), .val (.ref x3), .val (.ref x4), .val (.ref x5), .val (.int x6), .val (.int x7), .val (.int x8), .val (.int ((x2 - x1) + (1 : Int32))), .val (.ref (if ((x2 - x1) + (1 : Int32)) = (1 : Int32) then x3 else (if ((x2 - x1) + (1 : Int32)) = (2 : Int32) then x4 else x5))), .unset] [(.int (2 : Int32)), (.int ((x2 - x1) + (1 : Int32)))])) _
            refine XS.icmpNo X2.here hx rfl (hb hby d8_64) rfl (teq hc27).2 ?_
            show Steps _ _ _ (T2.setTop (mkF m 67 #[.val (.ref x0), .val (.int x1), .val (.int x2), .val (.ref x3), .val (.ref x4), .val (.ref x5), .val (.int x6), .val (.int x7), .val (.int x8), .val (.int ((x2 - x1) + (1 : Int32))), .val (.ref (if ((x2 - x1) + (1 : Int32)) = (1 : Int32) then x3 else (if ((x2 - x1) + (1 : Int32)) = (2 : Int32) then x4 else x5))), .unset] [])) _
            refine XS.iload X2.here hx rfl (hb hby d8_67) rfl ?_
            show Steps _ _ _ (T2.setTop (mkF m 69 #[.val (.ref x0), .val (.int x1), .val (.int x2), .val (.ref x3), .val (.ref x4), .val (.ref x5), .val (.int x6), .val (.int x7), .val (.int x8), .val (.int ((x2 - x1) + (1 : Int32))), .val (.ref (if ((x2 - x1) + (1 : Int32)) = (1 : Int32) then x3 else (if ((x2 - x1) + (1 : Int32)) = (2 : Int32) then x4 else x5))), .unset] [(.int x7)])) _
            refine XS.goto X2.here hx rfl (pc0 := 69) (pc' := 74) rfl (hb hby d8_69) (by decide) (by decide) ?_
            simp only [if_neg hc26, if_pos hc27]
            exact Steps.refl _
          · show Steps _ _ _ (T2.setTop (mkF m 64 #[.val (.ref x0), .val (.int x1), .val (.int x2), .val (.ref x3), .val (.ref x4), .val (.ref x5), .val (.int x6), .val (.int x7), .val (.int x8), .val (.int ((x2 - x1) + (1 : Int32))), .val (.ref (if ((x2 - x1) + (1 : Int32)) = (1 : Int32) then x3 else (if ((x2 - x1) + (1 : Int32)) = (2 : Int32) then x4 else x5))), .unset] [(.int (2 : Int32)), (.int ((x2 - x1) + (1 : Int32)))])) _
            refine XS.icmpYes X2.here hx rfl (pc0 := 64) (pc' := 72) rfl (hb hby d8_64) rfl (feq hc27).2 (by decide) (by decide) ?_
            show Steps _ _ _ (T2.setTop (mkF m 72 #[.val (.ref x0), .val (.int x1), .val (.int x2), .val (.ref x3), .val (.ref x4), .val (.ref x5), .val (.int x6), .val (.int x7), .val (.int x8), .val (.int ((x2 - x1) + (1 : Int32))), .val (.ref (if ((x2 - x1) + (1 : Int32)) = (1 : Int32) then x3 else (if ((x2 - x1) + (1 : Int32)) = (2 : Int32) then x4 else x5))), .unset] [])) _
            refine XS.iload X2.here hx rfl (hb hby d8_72) rfl ?_
            simp only [if_neg hc26, if_neg hc27]
            exact Steps.refl _
        )
    have st29 : Steps p.tables e below sE (T2.setTop (mkF m 79 #[.val (.ref x0), .val (.int x1), .val (.int x2), .val (.ref x3), .val (.ref x4), .val (.ref x5), .val (.int x6), .val (.int x7), .val (.int x8), .val (.int ((x2 - x1) + (1 : Int32))), .val (.ref (if ((x2 - x1) + (1 : Int32)) = (1 : Int32) then x3 else (if ((x2 - x1) + (1 : Int32)) = (2 : Int32) then x4 else x5))), .val (.int (if ((x2 - x1) + (1 : Int32)) = (1 : Int32) then x6 else (if ((x2 - x1) + (1 : Int32)) = (2 : Int32) then x7 else x8)))] [(.ref (if ((x2 - x1) + (1 : Int32)) = (1 : Int32) then x3 else (if ((x2 - x1) + (1 : Int32)) = (2 : Int32) then x4 else x5))), (.ref x0)])) := st28.trans (by
        show Steps _ _ _ (T2.setTop (mkF m 74 #[.val (.ref x0), .val (.int x1), .val (.int x2), .val (.ref x3), .val (.ref x4), .val (.ref x5), .val (.int x6), .val (.int x7), .val (.int x8), .val (.int ((x2 - x1) + (1 : Int32))), .val (.ref (if ((x2 - x1) + (1 : Int32)) = (1 : Int32) then x3 else (if ((x2 - x1) + (1 : Int32)) = (2 : Int32) then x4 else x5))), .unset] [(.int (if ((x2 - x1) + (1 : Int32)) = (1 : Int32) then x6 else (if ((x2 - x1) + (1 : Int32)) = (2 : Int32) then x7 else x8)))])) _
        refine XS.istore X2.here hx rfl (hb hby d8_74) rfl (l' := #[.val (.ref x0), .val (.int x1), .val (.int x2), .val (.ref x3), .val (.ref x4), .val (.ref x5), .val (.int x6), .val (.int x7), .val (.int x8), .val (.int ((x2 - x1) + (1 : Int32))), .val (.ref (if ((x2 - x1) + (1 : Int32)) = (1 : Int32) then x3 else (if ((x2 - x1) + (1 : Int32)) = (2 : Int32) then x4 else x5))), .val (.int (if ((x2 - x1) + (1 : Int32)) = (1 : Int32) then x6 else (if ((x2 - x1) + (1 : Int32)) = (2 : Int32) then x7 else x8)))]) rfl ?_
        show Steps _ _ _ (T2.setTop (mkF m 76 #[.val (.ref x0), .val (.int x1), .val (.int x2), .val (.ref x3), .val (.ref x4), .val (.ref x5), .val (.int x6), .val (.int x7), .val (.int x8), .val (.int ((x2 - x1) + (1 : Int32))), .val (.ref (if ((x2 - x1) + (1 : Int32)) = (1 : Int32) then x3 else (if ((x2 - x1) + (1 : Int32)) = (2 : Int32) then x4 else x5))), .val (.int (if ((x2 - x1) + (1 : Int32)) = (1 : Int32) then x6 else (if ((x2 - x1) + (1 : Int32)) = (2 : Int32) then x7 else x8)))] [])) _
        refine XS.aloadN X2.here hx rfl (hb hby d8_76) rfl rfl ?_
        show Steps _ _ _ (T2.setTop (mkF m 77 #[.val (.ref x0), .val (.int x1), .val (.int x2), .val (.ref x3), .val (.ref x4), .val (.ref x5), .val (.int x6), .val (.int x7), .val (.int x8), .val (.int ((x2 - x1) + (1 : Int32))), .val (.ref (if ((x2 - x1) + (1 : Int32)) = (1 : Int32) then x3 else (if ((x2 - x1) + (1 : Int32)) = (2 : Int32) then x4 else x5))), .val (.int (if ((x2 - x1) + (1 : Int32)) = (1 : Int32) then x6 else (if ((x2 - x1) + (1 : Int32)) = (2 : Int32) then x7 else x8)))] [(.ref x0)])) _
        refine XS.aload X2.here hx rfl (hb hby d8_77) rfl rfl ?_
        exact Steps.refl _)
    by_cases hc30 : x0 = (if ((x2 - x1) + (1 : Int32)) = (1 : Int32) then x3 else (if ((x2 - x1) + (1 : Int32)) = (2 : Int32) then x4 else x5))
    · have st31 : Steps p.tables e below sE (T2.setTop (mkF m 83 #[.val (.ref x0), .val (.int x1), .val (.int x2), .val (.ref x3), .val (.ref x4), .val (.ref x5), .val (.int x6), .val (.int x7), .val (.int x8), .val (.int ((x2 - x1) + (1 : Int32))), .val (.ref (if ((x2 - x1) + (1 : Int32)) = (1 : Int32) then x3 else (if ((x2 - x1) + (1 : Int32)) = (2 : Int32) then x4 else x5))), .val (.int (if ((x2 - x1) + (1 : Int32)) = (1 : Int32) then x6 else (if ((x2 - x1) + (1 : Int32)) = (2 : Int32) then x7 else x8)))] [(.ref x0)])) := st29.trans (by
          show Steps _ _ _ (T2.setTop (mkF m 79 #[.val (.ref x0), .val (.int x1), .val (.int x2), .val (.ref x3), .val (.ref x4), .val (.ref x5), .val (.int x6), .val (.int x7), .val (.int x8), .val (.int ((x2 - x1) + (1 : Int32))), .val (.ref (if ((x2 - x1) + (1 : Int32)) = (1 : Int32) then x3 else (if ((x2 - x1) + (1 : Int32)) = (2 : Int32) then x4 else x5))), .val (.int (if ((x2 - x1) + (1 : Int32)) = (1 : Int32) then x6 else (if ((x2 - x1) + (1 : Int32)) = (2 : Int32) then x7 else x8)))] [(.ref (if ((x2 - x1) + (1 : Int32)) = (1 : Int32) then x3 else (if ((x2 - x1) + (1 : Int32)) = (2 : Int32) then x4 else x5))), (.ref x0)])) _
          refine Jvm.RoadKit.acmp (g := (mkF m 79 #[.val (.ref x0), .val (.int x1), .val (.int x2), .val (.ref x3), .val (.ref x4), .val (.ref x5), .val (.int x6), .val (.int x7), .val (.int x8), .val (.int ((x2 - x1) + (1 : Int32))), .val (.ref (if ((x2 - x1) + (1 : Int32)) = (1 : Int32) then x3 else (if ((x2 - x1) + (1 : Int32)) = (2 : Int32) then x4 else x5))), .val (.int (if ((x2 - x1) + (1 : Int32)) = (1 : Int32) then x6 else (if ((x2 - x1) + (1 : Int32)) = (2 : Int32) then x7 else x8)))] [(.ref (if ((x2 - x1) + (1 : Int32)) = (1 : Int32) then x3 else (if ((x2 - x1) + (1 : Int32)) = (2 : Int32) then x4 else x5))), (.ref x0)])) X2 hx rfl rfl rfl (pc0 := 79) (pc' := 82) (same := true) rfl (hb hby d8_79) rfl (decide_eq_true (congrArg Value.ref hc30)) (by decide) (by decide) ?_
          show Steps _ _ _ (T2.setTop (mkF m 82 #[.val (.ref x0), .val (.int x1), .val (.int x2), .val (.ref x3), .val (.ref x4), .val (.ref x5), .val (.int x6), .val (.int x7), .val (.int x8), .val (.int ((x2 - x1) + (1 : Int32))), .val (.ref (if ((x2 - x1) + (1 : Int32)) = (1 : Int32) then x3 else (if ((x2 - x1) + (1 : Int32)) = (2 : Int32) then x4 else x5))), .val (.int (if ((x2 - x1) + (1 : Int32)) = (1 : Int32) then x6 else (if ((x2 - x1) + (1 : Int32)) = (2 : Int32) then x7 else x8)))] [])) _
          refine XS.aloadN X2.here hx rfl (hb hby d8_82) rfl rfl ?_
          exact Steps.refl _)
      obtain ⟨T32, X32, e32, sr32⟩ := getF X2 hx hZ hown (host := "") (Or.inl (hw _ (List.mem_of_getElem? (i := 9) rfl))) Via.refl e2 F_w (g := (mkF m 83 #[.val (.ref x0), .val (.int x1), .val (.int x2), .val (.ref x3), .val (.ref x4), .val (.ref x5), .val (.int x6), .val (.int x7), .val (.int x8), .val (.int ((x2 - x1) + (1 : Int32))), .val (.ref (if ((x2 - x1) + (1 : Int32)) = (1 : Int32) then x3 else (if ((x2 - x1) + (1 : Int32)) = (2 : Int32) then x4 else x5))), .val (.int (if ((x2 - x1) + (1 : Int32)) = (1 : Int32) then x6 else (if ((x2 - x1) + (1 : Int32)) = (2 : Int32) then x7 else x8)))] [(.ref x0)])) rfl rfl (hb hby d8_83)
      have st33 : Steps p.tables e below sE (T32.setTop (mkF m 86 #[.val (.ref x0), .val (.int x1), .val (.int x2), .val (.ref x3), .val (.ref x4), .val (.ref x5), .val (.int x6), .val (.int x7), .val (.int x8), .val (.int ((x2 - x1) + (1 : Int32))), .val (.ref (if ((x2 - x1) + (1 : Int32)) = (1 : Int32) then x3 else (if ((x2 - x1) + (1 : Int32)) = (2 : Int32) then x4 else x5))), .val (.int (if ((x2 - x1) + (1 : Int32)) = (1 : Int32) then x6 else (if ((x2 - x1) + (1 : Int32)) = (2 : Int32) then x7 else x8)))] [(.int wt)])) := st31.trans (sr32 _ (Steps.refl _))
      have st34 : Steps p.tables e below sE (T32.setTop (mkF m 88 #[.val (.ref x0), .val (.int x1), .val (.int x2), .val (.ref x3), .val (.ref x4), .val (.ref x5), .val (.int x6), .val (.int x7), .val (.int x8), .val (.int ((x2 - x1) + (1 : Int32))), .val (.ref (if ((x2 - x1) + (1 : Int32)) = (1 : Int32) then x3 else (if ((x2 - x1) + (1 : Int32)) = (2 : Int32) then x4 else x5))), .val (.int (if ((x2 - x1) + (1 : Int32)) = (1 : Int32) then x6 else (if ((x2 - x1) + (1 : Int32)) = (2 : Int32) then x7 else x8)))] [(.int (if ((x2 - x1) + (1 : Int32)) = (1 : Int32) then x6 else (if ((x2 - x1) + (1 : Int32)) = (2 : Int32) then x7 else x8))), (.int wt)])) := st33.trans (by
          show Steps _ _ _ (T32.setTop (mkF m 86 #[.val (.ref x0), .val (.int x1), .val (.int x2), .val (.ref x3), .val (.ref x4), .val (.ref x5), .val (.int x6), .val (.int x7), .val (.int x8), .val (.int ((x2 - x1) + (1 : Int32))), .val (.ref (if ((x2 - x1) + (1 : Int32)) = (1 : Int32) then x3 else (if ((x2 - x1) + (1 : Int32)) = (2 : Int32) then x4 else x5))), .val (.int (if ((x2 - x1) + (1 : Int32)) = (1 : Int32) then x6 else (if ((x2 - x1) + (1 : Int32)) = (2 : Int32) then x7 else x8)))] [(.int wt)])) _
          refine XS.iload X32.here hx rfl (hb hby d8_86) rfl ?_
          exact Steps.refl _)
      by_cases hc35 : wt = (if ((x2 - x1) + (1 : Int32)) = (1 : Int32) then x6 else (if ((x2 - x1) + (1 : Int32)) = (2 : Int32) then x7 else x8))
      · have st36 : Steps p.tables e below sE (T32.setTop (mkF m 96 #[.val (.ref x0), .val (.int x1), .val (.int x2), .val (.ref x3), .val (.ref x4), .val (.ref x5), .val (.int x6), .val (.int x7), .val (.int x8), .val (.int ((x2 - x1) + (1 : Int32))), .val (.ref (if ((x2 - x1) + (1 : Int32)) = (1 : Int32) then x3 else (if ((x2 - x1) + (1 : Int32)) = (2 : Int32) then x4 else x5))), .val (.int (if ((x2 - x1) + (1 : Int32)) = (1 : Int32) then x6 else (if ((x2 - x1) + (1 : Int32)) = (2 : Int32) then x7 else x8)))] [(.int (1 : Int32))])) := st34.trans (by
            show Steps _ _ _ (T32.setTop (mkF m 88 #[.val (.ref x0), .val (.int x1), .val (.int x2), .val (.ref x3), .val (.ref x4), .val (.ref x5), .val (.int x6), .val (.int x7), .val (.int x8), .val (.int ((x2 - x1) + (1 : Int32))), .val (.ref (if ((x2 - x1) + (1 : Int32)) = (1 : Int32) then x3 else (if ((x2 - x1) + (1 : Int32)) = (2 : Int32) then x4 else x5))), .val (.int (if ((x2 - x1) + (1 : Int32)) = (1 : Int32) then x6 else (if ((x2 - x1) + (1 : Int32)) = (2 : Int32) then x7 else x8)))] [(.int (if ((x2 - x1) + (1 : Int32)) = (1 : Int32) then x6 else (if ((x2 - x1) + (1 : Int32)) = (2 : Int32) then x7 else x8))), (.int wt)])) _
            refine XS.icmpNo X32.here hx rfl (hb hby d8_88) rfl (teq hc35).2 ?_
            show Steps _ _ _ (T32.setTop (mkF m 91 #[.val (.ref x0), .val (.int x1), .val (.int x2), .val (.ref x3), .val (.ref x4), .val (.ref x5), .val (.int x6), .val (.int x7), .val (.int x8), .val (.int ((x2 - x1) + (1 : Int32))), .val (.ref (if ((x2 - x1) + (1 : Int32)) = (1 : Int32) then x3 else (if ((x2 - x1) + (1 : Int32)) = (2 : Int32) then x4 else x5))), .val (.int (if ((x2 - x1) + (1 : Int32)) = (1 : Int32) then x6 else (if ((x2 - x1) + (1 : Int32)) = (2 : Int32) then x7 else x8)))] [])) _
            refine XS.iconst X32.here hx rfl (hb hby d8_91) ?_
            show Steps _ _ _ (T32.setTop (mkF m 92 #[.val (.ref x0), .val (.int x1), .val (.int x2), .val (.ref x3), .val (.ref x4), .val (.ref x5), .val (.int x6), .val (.int x7), .val (.int x8), .val (.int ((x2 - x1) + (1 : Int32))), .val (.ref (if ((x2 - x1) + (1 : Int32)) = (1 : Int32) then x3 else (if ((x2 - x1) + (1 : Int32)) = (2 : Int32) then x4 else x5))), .val (.int (if ((x2 - x1) + (1 : Int32)) = (1 : Int32) then x6 else (if ((x2 - x1) + (1 : Int32)) = (2 : Int32) then x7 else x8)))] [(.int (1 : Int32))])) _
            refine XS.goto X32.here hx rfl (pc0 := 92) (pc' := 96) rfl (hb hby d8_92) (by decide) (by decide) ?_
            exact Steps.refl _)
        obtain ⟨fs, hr, hrun, hended, hW, hsame⟩ := X32.leave (v := some (.int (1 : Int32))) (fun h => by rw [Bd.returns] at h; cases h)
        refine ⟨_, _, (own_ent hsE st36).trans ?_, hrun, hended, _, _, rfl, ?_, ⟨_, rfl⟩, hW, hsame.mono (by decide) (by decide)⟩
        · exact retN X32 hx (t := .boolean) Bd.returns (by simp) (hb hby d8_96) hr
        · show Q8 Z x0 x1 x2 x3 x4 x5 x6 x7 x8 wt h0 n0 _ T32.heap _
          rw [e32]
          exact ⟨by rw [F8, if_neg hc5, if_pos hc30, if_pos hc35], N0, rfl⟩
      · have st37 : Steps p.tables e below sE (T32.setTop (mkF m 96 #[.val (.ref x0), .val (.int x1), .val (.int x2), .val (.ref x3), .val (.ref x4), .val (.ref x5), .val (.int x6), .val (.int x7), .val (.int x8), .val (.int ((x2 - x1) + (1 : Int32))), .val (.ref (if ((x2 - x1) + (1 : Int32)) = (1 : Int32) then x3 else (if ((x2 - x1) + (1 : Int32)) = (2 : Int32) then x4 else x5))), .val (.int (if ((x2 - x1) + (1 : Int32)) = (1 : Int32) then x6 else (if ((x2 - x1) + (1 : Int32)) = (2 : Int32) then x7 else x8)))] [(.int (0 : Int32))])) := st34.trans (by
            show Steps _ _ _ (T32.setTop (mkF m 88 #[.val (.ref x0), .val (.int x1), .val (.int x2), .val (.ref x3), .val (.ref x4), .val (.ref x5), .val (.int x6), .val (.int x7), .val (.int x8), .val (.int ((x2 - x1) + (1 : Int32))), .val (.ref (if ((x2 - x1) + (1 : Int32)) = (1 : Int32) then x3 else (if ((x2 - x1) + (1 : Int32)) = (2 : Int32) then x4 else x5))), .val (.int (if ((x2 - x1) + (1 : Int32)) = (1 : Int32) then x6 else (if ((x2 - x1) + (1 : Int32)) = (2 : Int32) then x7 else x8)))] [(.int (if ((x2 - x1) + (1 : Int32)) = (1 : Int32) then x6 else (if ((x2 - x1) + (1 : Int32)) = (2 : Int32) then x7 else x8))), (.int wt)])) _
            refine XS.icmpYes X32.here hx rfl (pc0 := 88) (pc' := 95) rfl (hb hby d8_88) rfl (feq hc35).2 (by decide) (by decide) ?_
            show Steps _ _ _ (T32.setTop (mkF m 95 #[.val (.ref x0), .val (.int x1), .val (.int x2), .val (.ref x3), .val (.ref x4), .val (.ref x5), .val (.int x6), .val (.int x7), .val (.int x8), .val (.int ((x2 - x1) + (1 : Int32))), .val (.ref (if ((x2 - x1) + (1 : Int32)) = (1 : Int32) then x3 else (if ((x2 - x1) + (1 : Int32)) = (2 : Int32) then x4 else x5))), .val (.int (if ((x2 - x1) + (1 : Int32)) = (1 : Int32) then x6 else (if ((x2 - x1) + (1 : Int32)) = (2 : Int32) then x7 else x8)))] [])) _
            refine XS.iconst X32.here hx rfl (hb hby d8_95) ?_
            exact Steps.refl _)
        obtain ⟨fs, hr, hrun, hended, hW, hsame⟩ := X32.leave (v := some (.int (0 : Int32))) (fun h => by rw [Bd.returns] at h; cases h)
        refine ⟨_, _, (own_ent hsE st37).trans ?_, hrun, hended, _, _, rfl, ?_, ⟨_, rfl⟩, hW, hsame.mono (by decide) (by decide)⟩
        · exact retN X32 hx (t := .boolean) Bd.returns (by simp) (hb hby d8_96) hr
        · show Q8 Z x0 x1 x2 x3 x4 x5 x6 x7 x8 wt h0 n0 _ T32.heap _
          rw [e32]
          exact ⟨by rw [F8, if_neg hc5, if_pos hc30, if_neg hc35], N0, rfl⟩
    · have st38 : Steps p.tables e below sE (T2.setTop (mkF m 96 #[.val (.ref x0), .val (.int x1), .val (.int x2), .val (.ref x3), .val (.ref x4), .val (.ref x5), .val (.int x6), .val (.int x7), .val (.int x8), .val (.int ((x2 - x1) + (1 : Int32))), .val (.ref (if ((x2 - x1) + (1 : Int32)) = (1 : Int32) then x3 else (if ((x2 - x1) + (1 : Int32)) = (2 : Int32) then x4 else x5))), .val (.int (if ((x2 - x1) + (1 : Int32)) = (1 : Int32) then x6 else (if ((x2 - x1) + (1 : Int32)) = (2 : Int32) then x7 else x8)))] [(.int (0 : Int32))])) := st29.trans (by
          show Steps _ _ _ (T2.setTop (mkF m 79 #[.val (.ref x0), .val (.int x1), .val (.int x2), .val (.ref x3), .val (.ref x4), .val (.ref x5), .val (.int x6), .val (.int x7), .val (.int x8), .val (.int ((x2 - x1) + (1 : Int32))), .val (.ref (if ((x2 - x1) + (1 : Int32)) = (1 : Int32) then x3 else (if ((x2 - x1) + (1 : Int32)) = (2 : Int32) then x4 else x5))), .val (.int (if ((x2 - x1) + (1 : Int32)) = (1 : Int32) then x6 else (if ((x2 - x1) + (1 : Int32)) = (2 : Int32) then x7 else x8)))] [(.ref (if ((x2 - x1) + (1 : Int32)) = (1 : Int32) then x3 else (if ((x2 - x1) + (1 : Int32)) = (2 : Int32) then x4 else x5))), (.ref x0)])) _
          refine Jvm.RoadKit.acmp (g := (mkF m 79 #[.val (.ref x0), .val (.int x1), .val (.int x2), .val (.ref x3), .val (.ref x4), .val (.ref x5), .val (.int x6), .val (.int x7), .val (.int x8), .val (.int ((x2 - x1) + (1 : Int32))), .val (.ref (if ((x2 - x1) + (1 : Int32)) = (1 : Int32) then x3 else (if ((x2 - x1) + (1 : Int32)) = (2 : Int32) then x4 else x5))), .val (.int (if ((x2 - x1) + (1 : Int32)) = (1 : Int32) then x6 else (if ((x2 - x1) + (1 : Int32)) = (2 : Int32) then x7 else x8)))] [(.ref (if ((x2 - x1) + (1 : Int32)) = (1 : Int32) then x3 else (if ((x2 - x1) + (1 : Int32)) = (2 : Int32) then x4 else x5))), (.ref x0)])) X2 hx rfl rfl rfl (pc0 := 79) (pc' := 95) (same := false) rfl (hb hby d8_79) rfl (decide_eq_false fun q => hc30 (Value.ref.inj q)) (by decide) (by decide) ?_
          show Steps _ _ _ (T2.setTop (mkF m 95 #[.val (.ref x0), .val (.int x1), .val (.int x2), .val (.ref x3), .val (.ref x4), .val (.ref x5), .val (.int x6), .val (.int x7), .val (.int x8), .val (.int ((x2 - x1) + (1 : Int32))), .val (.ref (if ((x2 - x1) + (1 : Int32)) = (1 : Int32) then x3 else (if ((x2 - x1) + (1 : Int32)) = (2 : Int32) then x4 else x5))), .val (.int (if ((x2 - x1) + (1 : Int32)) = (1 : Int32) then x6 else (if ((x2 - x1) + (1 : Int32)) = (2 : Int32) then x7 else x8)))] [])) _
          refine XS.iconst X2.here hx rfl (hb hby d8_95) ?_
          exact Steps.refl _)
      obtain ⟨fs, hr, hrun, hended, hW, hsame⟩ := X2.leave (v := some (.int (0 : Int32))) (fun h => by rw [Bd.returns] at h; cases h)
      refine ⟨_, _, (own_ent hsE st38).trans ?_, hrun, hended, _, _, rfl, ?_, ⟨_, rfl⟩, hW, hsame.mono (by decide) (by decide)⟩
      · exact retN X2 hx (t := .boolean) Bd.returns (by simp) (hb hby d8_96) hr
      · show Q8 Z x0 x1 x2 x3 x4 x5 x6 x7 x8 wt h0 n0 _ T2.heap _
        rw [e2]
        exact ⟨by rw [F8, if_neg hc5, if_neg hc30], N0, rfl⟩
theorem own_lti {a b : Int32} (h : a < b) {z : Int} (e : a.toInt = z) : z < b.toInt := by rw [← e]; exact Int32.lt_iff_toInt_lt.mp h
theorem own_nlti {a b : Int32} (h : ¬ a < b) {z : Int} (e : a.toInt = z) : b.toInt ≤ z := by rw [← e]; rw [Int32.lt_iff_toInt_lt] at h; omega
theorem own_ltr {a b : Int32} (h : a < b) {z : Int} (e : b.toInt = z) : a.toInt < z := by rw [← e]; exact Int32.lt_iff_toInt_lt.mp h
theorem own_nltr {a b : Int32} (h : ¬ a < b) {z : Int} (e : b.toInt = z) : z ≤ a.toInt := by rw [← e]; rw [Int32.lt_iff_toInt_lt] at h; omega
theorem own_lt {x a b : Int32} (h : x < a) (e : a ≤ b) : x < b := by
  rw [Int32.lt_iff_toInt_lt] at *; rw [Int32.le_iff_toInt_le] at e; omega
theorem own_kp (n cap k : Int32) (h : (n.toInt ≤ cap.toInt ∧ 0 ≤ n.toInt ∧ k.toInt = n.toInt) ∨ (cap.toInt ≤ n.toInt ∧ 0 ≤ cap.toInt ∧ k.toInt = cap.toInt) ∨ (cap.toInt ≤ 0 ∧ 0 ≤ n.toInt ∧ k.toInt = 0)) : F6 n (F5 (0 : Int32) cap) = k := by
  have k0 : (0 : Int32).toInt = 0 := by decide
  unfold F6 F5
  apply Int32.toInt_inj.mp
  split <;> split <;> rename_i h1 h2 <;> simp only [Int32.lt_iff_toInt_lt] at h1 h2 <;> omega
theorem pd_1 : parseMethodDescriptor "(I)V" = some ⟨[.int], none⟩ := by decide +kernel
theorem pd_2 : parseMethodDescriptor "(II)I" = some ⟨[.int, .int], some .int⟩ := by decide +kernel
theorem pd_3 : parseMethodDescriptor "()Lcom/example/tideloop/tideloop/Message;" = some ⟨[], some (.object "com/example/tideloop/tideloop/Message")⟩ := by decide +kernel
theorem pd_4 : parseMethodDescriptor "(Lcom/example/tideloop/tideloop/Message;IILcom/example/tideloop/tideloop/Message;Lcom/example/tideloop/tideloop/Message;Lcom/example/tideloop/tideloop/Message;III)Z" = some ⟨[(.object "com/example/tideloop/tideloop/Message"), .int, .int, (.object "com/example/tideloop/tideloop/Message"), (.object "com/example/tideloop/tideloop/Message"), (.object "com/example/tideloop/tideloop/Message"), .int, .int, .int], some .boolean⟩ := by decide +kernel
theorem pd_5 : parseMethodDescriptor "(Lcom/example/tideloop/tideloop/Message;)V" = some ⟨[(.object "com/example/tideloop/tideloop/Message")], none⟩ := by decide +kernel
theorem ef_0 (m : MethodId) (x0 : Int32) (x1 : Int32) (x2 : Int32) (x3 : Int32) (x4 : Int32)  : entryFrame m #[(.int x0), (.int x1), (.int x2), (.int x3), (.int x4)] maxLocals = mkF m 0 #[.val (.int x0), .val (.int x1), .val (.int x2), .val (.int x3), .val (.int x4), .unset, .unset, .unset, .unset, .unset, .unset, .unset, .unset, .unset, .unset, .unset] [] := by first | (simp [entryFrame, mkF, argsToLocals, Value.category, maxLocals]; done) | rfl
def Q0 (Z : State) (x0 : Int32) (x1 : Int32) (x2 : Int32) (x3 : Int32) (x4 : Int32) (h0 : Heap) (n0 : Nat) (vE : Option Value) (hE : Heap) (LE : List Loc) : Prop := vE = some (.int (1 : Int32)) ∧ Fr n0 LE
set_option maxRecDepth 65536 in
set_option maxHeartbeats 40000000 in
theorem rm0 (l : Launch) (Z : State) (a0 : Array Value) (hw : ∀ d ∈ tables_1, d.before a0 Z = true) (ws : List Jvm.Cond) (x0 : Int32) (x1 : Int32) (x2 : Int32) (x3 : Int32) (x4 : Int32) (h0 : Heap) (n0 : Nat) (Z0 : n0 ≤ h0.size) :
    MetFree l x (head1 (Jvm.Cond.code x code maxLocals ret :: ws) room_1) (fun a U => a = #[(.int x0), (.int x1), (.int x2), (.int x3), (.int x4)] ∧ Z.Warmed39 U.vm ∧ U.heap = h0) (fun _ _ _ _ _ => True) (fun _ U o U' => ∃ vE LE, o = .returned vE ∧ Q0 Z x0 x1 x2 x3 x4 h0 n0 vE U'.heap LE ∧ FrameEnd U o U' LE room_1.cells room_1.slots) := by
  refine MetFree.of_bodySF (plainFor_of_name pn_2) hisR ?_
  intro p e s m args below meth c s₁ Bd hml0 hP hK
  obtain ⟨rfl, hZ, hh⟩ := hP
  have hx := Bd.exec
  have hby := Bd.bytes
  have hml : c.maxLocals = 16 := hml0
  have hown : s.vm.findClass "com/example/tideloop/tideloop/MessagePoolKeepPinLaw" = some m.cls := findClass_of_methodNamed Bd.named
  have hnm := (name_of_methodNamed Bd.named Bd.method).1
  have X0 : Stand p l e room_1 s m #[(.int x0), (.int x1), (.int x2), (.int x3), (.int x4)] below meth c s₁ [] 0 0 := Stand.of_body Bd
  have e0 : s₁.heap = h0 := by rw [← hh, Bd.state]; rfl
  have N0 := Fr.nil n0
  obtain ⟨sE, hsE⟩ : ∃ z, z = (s₁.setTop (entryFrame m #[(.int x0), (.int x1), (.int x2), (.int x3), (.int x4)] maxLocals)) := ⟨_, rfl⟩
  have st0 : Steps p.tables e below sE (s₁.setTop (mkF m 0 #[.val (.int x0), .val (.int x1), .val (.int x2), .val (.int x3), .val (.int x4), .unset, .unset, .unset, .unset, .unset, .unset, .unset, .unset, .unset, .unset, .unset] [])) := by rw [hsE]; exact castTop (ef_0 m x0 x1 x2 x3 x4) (Steps.refl _)
  have st1 : Steps p.tables e below sE (s₁.setTop (mkF m 3 #[.val (.int x0), .val (.int x1), .val (.int x2), .val (.int x3), .val (.int x4), .unset, .unset, .unset, .unset, .unset, .unset, .unset, .unset, .unset, .unset, .unset] [(.int (x0 &&& (1 : Int32)))])) := st0.trans (by
      show Steps _ _ _ (s₁.setTop (mkF m 0 #[.val (.int x0), .val (.int x1), .val (.int x2), .val (.int x3), .val (.int x4), .unset, .unset, .unset, .unset, .unset, .unset, .unset, .unset, .unset, .unset, .unset] [])) _
      refine XS.iloadN X0.here hx rfl (hb hby at_0) rfl ?_
      show Steps _ _ _ (s₁.setTop (mkF m 1 #[.val (.int x0), .val (.int x1), .val (.int x2), .val (.int x3), .val (.int x4), .unset, .unset, .unset, .unset, .unset, .unset, .unset, .unset, .unset, .unset, .unset] [(.int x0)])) _
      refine XS.iconst X0.here hx rfl (hb hby at_1) ?_
      show Steps _ _ _ (s₁.setTop (mkF m 2 #[.val (.int x0), .val (.int x1), .val (.int x2), .val (.int x3), .val (.int x4), .unset, .unset, .unset, .unset, .unset, .unset, .unset, .unset, .unset, .unset, .unset] [(.int (1 : Int32)), (.int x0)])) _
      refine XS.iand X0.here hx rfl (hb hby at_2) rfl ?_
      exact Steps.refl _)
  have st3 : Steps p.tables e below sE (s₁.setTop (mkF m 18 #[.val (.int x0), .val (.int x1), .val (.int x2), .val (.int x3), .val (.int x4), .unset, .unset, .unset, .unset, .unset, .unset, .unset, .unset, .unset, .unset, .unset] [(.int (if (x0 &&& (1 : Int32)) = (0 : Int32) then (((x0 >>> ((1 : Int32) &&& 31)) &&& (7 : Int32)) - (2 : Int32)) else x0))])) := st1.trans (by
      show Steps _ _ _ (s₁.setTop (mkF m 3 #[.val (.int x0), .val (.int x1), .val (.int x2), .val (.int x3), .val (.int x4), .unset, .unset, .unset, .unset, .unset, .unset, .unset, .unset, .unset, .unset, .unset] [(.int (x0 &&& (1 : Int32)))])) _
      by_cases hc2 : (x0 &&& (1 : Int32)) = (0 : Int32)
      · show Steps _ _ _ (s₁.setTop (mkF m 3 #[.val (.int x0), .val (.int x1), .val (.int x2), .val (.int x3), .val (.int x4), .unset, .unset, .unset, .unset, .unset, .unset, .unset, .unset, .unset, .unset, .unset] [(.int (x0 &&& (1 : Int32)))])) _
        refine XS.ifYes X0.here hx rfl (pc0 := 3) (pc' := 10) rfl (hb hby at_3) rfl ((if0 _ _).trans (teq hc2).1) (by decide) (by decide) ?_
        show Steps _ _ _ (s₁.setTop (mkF m 10 #[.val (.int x0), .val (.int x1), .val (.int x2), .val (.int x3), .val (.int x4), .unset, .unset, .unset, .unset, .unset, .unset, .unset, .unset, .unset, .unset, .unset] [])) _
        refine XS.iloadN X0.here hx rfl (hb hby at_10) rfl ?_
        show Steps _ _ _ (s₁.setTop (mkF m 11 #[.val (.int x0), .val (.int x1), .val (.int x2), .val (.int x3), .val (.int x4), .unset, .unset, .unset, .unset, .unset, .unset, .unset, .unset, .unset, .unset, .unset] [(.int x0)])) _
        refine XS.iconst X0.here hx rfl (hb hby at_11) ?_
        show Steps _ _ _ (s₁.setTop (mkF m 12 #[.val (.int x0), .val (.int x1), .val (.int x2), .val (.int x3), .val (.int x4), .unset, .unset, .unset, .unset, .unset, .unset, .unset, .unset, .unset, .unset, .unset] [(.int (1 : Int32)), (.int x0)])) _
        refine XS.ishr X0.here hx rfl (hb hby at_12) rfl ?_
        show Steps _ _ _ (s₁.setTop (mkF m 13 #[.val (.int x0), .val (.int x1), .val (.int x2), .val (.int x3), .val (.int x4), .unset, .unset, .unset, .unset, .unset, .unset, .unset, .unset, .unset, .unset, .unset] [(.int (x0 >>> ((1 : Int32) &&& 31)))])) _
        refine XS.bipush X0.here hx rfl (hb hby at_13) ?_
        show Steps _ _ _ (s₁.setTop (mkF m 15 #[.val (.int x0), .val (.int x1), .val (.int x2), .val (.int x3), .val (.int x4), .unset, .unset, .unset, .unset, .unset, .unset, .unset, .unset, .unset, .unset, .unset] [(.int (7 : Int32)), (.int (x0 >>> ((1 : Int32) &&& 31)))])) _
        refine XS.iand X0.here hx rfl (hb hby at_15) rfl ?_
        show Steps _ _ _ (s₁.setTop (mkF m 16 #[.val (.int x0), .val (.int x1), .val (.int x2), .val (.int x3), .val (.int x4), .unset, .unset, .unset, .unset, .unset, .unset, .unset, .unset, .unset, .unset, .unset] [(.int ((x0 >>> ((1 : Int32) &&& 31)) &&& (7 : Int32)))])) _
        refine XS.iconst X0.here hx rfl (hb hby at_16) ?_
        show Steps _ _ _ (s₁.setTop (mkF m 17 #[.val (.int x0), .val (.int x1), .val (.int x2), .val (.int x3), .val (.int x4), .unset, .unset, .unset, .unset, .unset, .unset, .unset, .unset, .unset, .unset, .unset] [(.int (2 : Int32)), (.int ((x0 >>> ((1 : Int32) &&& 31)) &&& (7 : Int32)))])) _
        refine XS.isub X0.here hx rfl (hb hby at_17) rfl ?_
        simp only [if_pos hc2]
        exact Steps.refl _
      · show Steps _ _ _ (s₁.setTop (mkF m 3 #[.val (.int x0), .val (.int x1), .val (.int x2), .val (.int x3), .val (.int x4), .unset, .unset, .unset, .unset, .unset, .unset, .unset, .unset, .unset, .unset, .unset] [(.int (x0 &&& (1 : Int32)))])) _
        refine XS.ifNo X0.here hx rfl (hb hby at_3) rfl ((if0 _ _).trans (feq hc2).1) ?_
        show Steps _ _ _ (s₁.setTop (mkF m 6 #[.val (.int x0), .val (.int x1), .val (.int x2), .val (.int x3), .val (.int x4), .unset, .unset, .unset, .unset, .unset, .unset, .unset, .unset, .unset, .unset, .unset] [])) _
        refine XS.iloadN X0.here hx rfl (hb hby at_6) rfl ?_
        show Steps _ _ _ (s₁.setTop (mkF m 7 #[.val (.int x0), .val (.int x1), .val (.int x2), .val (.int x3), .val (.int x4), .unset, .unset, .unset, .unset, .unset, .unset, .unset, .unset, .unset, .unset, .unset] [(.int x0)])) _
        refine XS.goto X0.here hx rfl (pc0 := 7) (pc' := 18) rfl (hb hby at_7) (by decide) (by decide) ?_
        simp only [if_neg hc2]
        exact Steps.refl _
      )
  obtain ⟨cap, hcap⟩ : ∃ z, z = (if (x0 &&& (1 : Int32)) = (0 : Int32) then (((x0 >>> ((1 : Int32) &&& 31)) &&& (7 : Int32)) - (2 : Int32)) else x0) := ⟨_, rfl⟩
  rw [← hcap] at st3
  have st4 : Steps p.tables e below sE (s₁.setTop (mkF m 23 #[.val (.int x0), .val (.int x1), .val (.int x2), .val (.int x3), .val (.int x4), .val (.int cap), .unset, .unset, .unset, .unset, .unset, .unset, .unset, .unset, .unset, .unset] [(.int (x1 &&& (3 : Int32)))])) := st3.trans (by
      show Steps _ _ _ (s₁.setTop (mkF m 18 #[.val (.int x0), .val (.int x1), .val (.int x2), .val (.int x3), .val (.int x4), .unset, .unset, .unset, .unset, .unset, .unset, .unset, .unset, .unset, .unset, .unset] [(.int cap)])) _
      refine XS.istore X0.here hx rfl (hb hby at_18) rfl (l' := #[.val (.int x0), .val (.int x1), .val (.int x2), .val (.int x3), .val (.int x4), .val (.int cap), .unset, .unset, .unset, .unset, .unset, .unset, .unset, .unset, .unset, .unset]) rfl ?_
      show Steps _ _ _ (s₁.setTop (mkF m 20 #[.val (.int x0), .val (.int x1), .val (.int x2), .val (.int x3), .val (.int x4), .val (.int cap), .unset, .unset, .unset, .unset, .unset, .unset, .unset, .unset, .unset, .unset] [])) _
      refine XS.iloadN X0.here hx rfl (hb hby at_20) rfl ?_
      show Steps _ _ _ (s₁.setTop (mkF m 21 #[.val (.int x0), .val (.int x1), .val (.int x2), .val (.int x3), .val (.int x4), .val (.int cap), .unset, .unset, .unset, .unset, .unset, .unset, .unset, .unset, .unset, .unset] [(.int x1)])) _
      refine XS.iconst X0.here hx rfl (hb hby at_21) ?_
      show Steps _ _ _ (s₁.setTop (mkF m 22 #[.val (.int x0), .val (.int x1), .val (.int x2), .val (.int x3), .val (.int x4), .val (.int cap), .unset, .unset, .unset, .unset, .unset, .unset, .unset, .unset, .unset, .unset] [(.int (3 : Int32)), (.int x1)])) _
      refine XS.iand X0.here hx rfl (hb hby at_22) rfl ?_
      exact Steps.refl _)
  have hn : (x1 &&& (3 : Int32)).toInt = x1.toInt % (2 ^ 2 : Nat) := c_mask x1 3 2 (by decide) (by decide)
  obtain ⟨n, hnn⟩ : ∃ z, z = (x1 &&& (3 : Int32)) := ⟨_, rfl⟩
  rw [← hnn] at st4 hn
  have st5 : Steps p.tables e below sE (s₁.setTop (mkF m 25 #[.val (.int x0), .val (.int x1), .val (.int x2), .val (.int x3), .val (.int x4), .val (.int cap), .val (.int n), .unset, .unset, .unset, .unset, .unset, .unset, .unset, .unset, .unset] [])) := st4.trans (by
      show Steps _ _ _ (s₁.setTop (mkF m 23 #[.val (.int x0), .val (.int x1), .val (.int x2), .val (.int x3), .val (.int x4), .val (.int cap), .unset, .unset, .unset, .unset, .unset, .unset, .unset, .unset, .unset, .unset] [(.int n)])) _
      refine XS.istore X0.here hx rfl (hb hby at_23) rfl (l' := #[.val (.int x0), .val (.int x1), .val (.int x2), .val (.int x3), .val (.int x4), .val (.int cap), .val (.int n), .unset, .unset, .unset, .unset, .unset, .unset, .unset, .unset, .unset]) rfl ?_
      exact Steps.refl _)
  obtain ⟨T6, h6, X6, e6, E6, A6, D6, -, sr6⟩ := newO X0 hx hZ hown (hw _ (List.mem_of_getElem? (i := 0) rfl)) (hw _ (List.mem_of_getElem? (i := 1) rfl)) (hw _ (List.mem_of_getElem? (i := 2) rfl)) e0 (g := (mkF m 25 #[.val (.int x0), .val (.int x1), .val (.int x2), .val (.int x3), .val (.int x4), .val (.int cap), .val (.int n), .unset, .unset, .unset, .unset, .unset, .unset, .unset, .unset, .unset] [])) rfl (hb hby at_25) (by decide) (by decide)
  obtain ⟨b6, g6⟩ : ∃ z, z = h0.size := ⟨_, rfl⟩
  rw [← g6] at A6 D6 sr6
  have g_b6 : n0 ≤ b6 := Nat.le_trans Z0 (Nat.le_of_eq g6.symm)
  have f7 : Fld Z h6 b6 "com/example/tideloop/tideloop/Message" "what" "I" (.int (0 : Int32)) := D6 (Or.inl (hw _ (List.mem_of_getElem? (i := 10) rfl))) (ty := .int) (by decide)
  have f8 : Fld Z h6 b6 "com/example/tideloop/tideloop/Message" "nextPooled" "Lcom/example/tideloop/tideloop/Message;" .null := D6 (Or.inl (hw _ (List.mem_of_getElem? (i := 12) rfl))) (ty := (.object "com/example/tideloop/tideloop/Message")) (by decide)
  have Z6 : n0 ≤ h6.size := Nat.le_trans Z0 E6.1
  have st9 : Steps p.tables e below sE (T6.setTop (mkF m 28 #[.val (.int x0), .val (.int x1), .val (.int x2), .val (.int x3), .val (.int x4), .val (.int cap), .val (.int n), .unset, .unset, .unset, .unset, .unset, .unset, .unset, .unset, .unset] [(.ref b6)])) := st5.trans (sr6 _ (Steps.refl _))
  have st10 : Steps p.tables e below sE (T6.setTop (mkF m 29 #[.val (.int x0), .val (.int x1), .val (.int x2), .val (.int x3), .val (.int x4), .val (.int cap), .val (.int n), .unset, .unset, .unset, .unset, .unset, .unset, .unset, .unset, .unset] [(.ref b6), (.ref b6)])) := st9.trans (by
      show Steps _ _ _ (T6.setTop (mkF m 28 #[.val (.int x0), .val (.int x1), .val (.int x2), .val (.int x3), .val (.int x4), .val (.int cap), .val (.int n), .unset, .unset, .unset, .unset, .unset, .unset, .unset, .unset, .unset] [(.ref b6)])) _
      refine XS.dup X6.here hx rfl (hb hby at_28) rfl rfl ?_
      exact Steps.refl _)
  obtain ⟨_, _, ⟨T11, L11, k11, n11⟩, -, X11, ⟨Lc11, hQ11, l11, y11, z11⟩, sr11⟩ := X6.specialBack hx (y := (⟨"com/example/tideloop/tideloop/Message", "<init>", "()V"⟩ : MethodName)) rfl hown (mvT hZ (hw _ (List.mem_of_getElem? (i := 3) rfl))) (mvT hZ (hw _ (List.mem_of_getElem? (i := 4) rfl))) (mvT hZ (hw _ (List.mem_of_getElem? (i := 5) rfl))) (by decide) (backOf (W := 1) (rm1 l Z a0 hw [] b6  h6 n0 Z6 A6) hZ (hw _ (List.mem_of_getElem? (i := 5) rfl)) (hw _ (List.mem_of_getElem? (i := 2) rfl)) (by decide) (by decide)) (g := (mkF m 29 #[.val (.int x0), .val (.int x1), .val (.int x2), .val (.int x3), .val (.int x4), .val (.int cap), .val (.int n), .unset, .unset, .unset, .unset, .unset, .unset, .unset, .unset, .unset] [(.ref b6), (.ref b6)])) rfl (by rw [hml]; rfl) (Steps.refl _) (a := b6) (argsL := []) (rest := [(.ref b6)]) (lenOf pd_0 rfl) rfl (by show 2 * 0 + _ ≤ _; exact Nat.le_of_eq rfl) (hb hby at_29) (fun _ _ => ⟨rfl, e6, (by decide : 1 + 0 ≤ _), (by decide : 19 + 0 ≤ _)⟩)
  dsimp only [Pt.U, Pt.locs, Pt.cells, Pt.slots] at X11 l11 y11 z11 sr11 hQ11
  subst l11 y11 z11
  obtain ⟨rfl, N11q, hh11⟩ := hQ11
  have N11 := Fr.app N0 N11q
  obtain ⟨LL11, X11, N11⟩ := own_hide X11 N11
  have st12 : Steps p.tables e below sE (T11.setTop (mkF m 32 #[.val (.int x0), .val (.int x1), .val (.int x2), .val (.int x3), .val (.int x4), .val (.int cap), .val (.int n), .unset, .unset, .unset, .unset, .unset, .unset, .unset, .unset, .unset] [(.ref b6)])) := st10.trans (sr11)
  have st13 : Steps p.tables e below sE (T11.setTop (mkF m 34 #[.val (.int x0), .val (.int x1), .val (.int x2), .val (.int x3), .val (.int x4), .val (.int cap), .val (.int n), .val (.ref b6), .unset, .unset, .unset, .unset, .unset, .unset, .unset, .unset] [])) := st12.trans (by
      show Steps _ _ _ (T11.setTop (mkF m 32 #[.val (.int x0), .val (.int x1), .val (.int x2), .val (.int x3), .val (.int x4), .val (.int cap), .val (.int n), .unset, .unset, .unset, .unset, .unset, .unset, .unset, .unset, .unset] [(.ref b6)])) _
      refine XS.astore X11.here hx rfl (hb hby at_32) rfl rfl (l' := #[.val (.int x0), .val (.int x1), .val (.int x2), .val (.int x3), .val (.int x4), .val (.int cap), .val (.int n), .val (.ref b6), .unset, .unset, .unset, .unset, .unset, .unset, .unset, .unset]) rfl ?_
      exact Steps.refl _)
  obtain ⟨T14, h14, X14, e14, E14, A14, D14, -, sr14⟩ := newO X11 hx hZ hown (hw _ (List.mem_of_getElem? (i := 0) rfl)) (hw _ (List.mem_of_getElem? (i := 1) rfl)) (hw _ (List.mem_of_getElem? (i := 2) rfl)) hh11 (g := (mkF m 34 #[.val (.int x0), .val (.int x1), .val (.int x2), .val (.int x3), .val (.int x4), .val (.int cap), .val (.int n), .val (.ref b6), .unset, .unset, .unset, .unset, .unset, .unset, .unset, .unset] [])) rfl (hb hby at_34) (by decide) (by decide)
  obtain ⟨b14, g14⟩ : ∃ z, z = h6.size := ⟨_, rfl⟩
  rw [← g14] at A14 D14 sr14
  have g_b14 : n0 ≤ b14 := Nat.le_trans Z6 (Nat.le_of_eq g14.symm)
  have ne_b6_b14 : b6 ≠ b14 := Nat.ne_of_lt (Nat.lt_of_lt_of_le A6.lt (Nat.le_of_eq g14.symm))
  have f15 : Exa Z h14 b6 "com/example/tideloop/tideloop/Message" := A6.ext E14
  have f16 : Fld Z h14 b6 "com/example/tideloop/tideloop/Message" "what" "I" (.int (0 : Int32)) := f7.ext E14
  have f17 : Fld Z h14 b6 "com/example/tideloop/tideloop/Message" "nextPooled" "Lcom/example/tideloop/tideloop/Message;" .null := f8.ext E14
  have f18 : Fld Z h14 b14 "com/example/tideloop/tideloop/Message" "what" "I" (.int (0 : Int32)) := D14 (Or.inl (hw _ (List.mem_of_getElem? (i := 10) rfl))) (ty := .int) (by decide)
  have f19 : Fld Z h14 b14 "com/example/tideloop/tideloop/Message" "nextPooled" "Lcom/example/tideloop/tideloop/Message;" .null := D14 (Or.inl (hw _ (List.mem_of_getElem? (i := 12) rfl))) (ty := (.object "com/example/tideloop/tideloop/Message")) (by decide)
  have Z14 : n0 ≤ h14.size := Nat.le_trans Z6 E14.1
  have st20 : Steps p.tables e below sE (T14.setTop (mkF m 37 #[.val (.int x0), .val (.int x1), .val (.int x2), .val (.int x3), .val (.int x4), .val (.int cap), .val (.int n), .val (.ref b6), .unset, .unset, .unset, .unset, .unset, .unset, .unset, .unset] [(.ref b14)])) := st13.trans (sr14 _ (Steps.refl _))
  have st21 : Steps p.tables e below sE (T14.setTop (mkF m 38 #[.val (.int x0), .val (.int x1), .val (.int x2), .val (.int x3), .val (.int x4), .val (.int cap), .val (.int n), .val (.ref b6), .unset, .unset, .unset, .unset, .unset, .unset, .unset, .unset] [(.ref b14), (.ref b14)])) := st20.trans (by
      show Steps _ _ _ (T14.setTop (mkF m 37 #[.val (.int x0), .val (.int x1), .val (.int x2), .val (.int x3), .val (.int x4), .val (.int cap), .val (.int n), .val (.ref b6), .unset, .unset, .unset, .unset, .unset, .unset, .unset, .unset] [(.ref b14)])) _
      refine XS.dup X14.here hx rfl (hb hby at_37) rfl rfl ?_
      exact Steps.refl _)
  obtain ⟨_, _, ⟨T22, L22, k22, n22⟩, -, X22, ⟨Lc22, hQ22, l22, y22, z22⟩, sr22⟩ := X14.specialBack hx (y := (⟨"com/example/tideloop/tideloop/Message", "<init>", "()V"⟩ : MethodName)) rfl hown (mvT hZ (hw _ (List.mem_of_getElem? (i := 3) rfl))) (mvT hZ (hw _ (List.mem_of_getElem? (i := 4) rfl))) (mvT hZ (hw _ (List.mem_of_getElem? (i := 5) rfl))) (by decide) (backOf (W := 1) (rm1 l Z a0 hw [] b14  h14 n0 Z14 A14) hZ (hw _ (List.mem_of_getElem? (i := 5) rfl)) (hw _ (List.mem_of_getElem? (i := 2) rfl)) (by decide) (by decide)) (g := (mkF m 38 #[.val (.int x0), .val (.int x1), .val (.int x2), .val (.int x3), .val (.int x4), .val (.int cap), .val (.int n), .val (.ref b6), .unset, .unset, .unset, .unset, .unset, .unset, .unset, .unset] [(.ref b14), (.ref b14)])) rfl (by rw [hml]; rfl) (Steps.refl _) (a := b14) (argsL := []) (rest := [(.ref b14)]) (lenOf pd_0 rfl) rfl (by show 2 * 0 + _ ≤ _; exact Nat.le_of_eq rfl) (hb hby at_38) (fun _ _ => ⟨rfl, e14, (by decide : 2 + 0 ≤ _), (by decide : 38 + 0 ≤ _)⟩)
  dsimp only [Pt.U, Pt.locs, Pt.cells, Pt.slots] at X22 l22 y22 z22 sr22 hQ22
  subst l22 y22 z22
  obtain ⟨rfl, N22q, hh22⟩ := hQ22
  have N22 := Fr.app N11 N22q
  obtain ⟨LL22, X22, N22⟩ := own_hide X22 N22
  have st23 : Steps p.tables e below sE (T22.setTop (mkF m 41 #[.val (.int x0), .val (.int x1), .val (.int x2), .val (.int x3), .val (.int x4), .val (.int cap), .val (.int n), .val (.ref b6), .unset, .unset, .unset, .unset, .unset, .unset, .unset, .unset] [(.ref b14)])) := st21.trans (sr22)
  have st24 : Steps p.tables e below sE (T22.setTop (mkF m 43 #[.val (.int x0), .val (.int x1), .val (.int x2), .val (.int x3), .val (.int x4), .val (.int cap), .val (.int n), .val (.ref b6), .val (.ref b14), .unset, .unset, .unset, .unset, .unset, .unset, .unset] [])) := st23.trans (by
      show Steps _ _ _ (T22.setTop (mkF m 41 #[.val (.int x0), .val (.int x1), .val (.int x2), .val (.int x3), .val (.int x4), .val (.int cap), .val (.int n), .val (.ref b6), .unset, .unset, .unset, .unset, .unset, .unset, .unset, .unset] [(.ref b14)])) _
      refine XS.astore X22.here hx rfl (hb hby at_41) rfl rfl (l' := #[.val (.int x0), .val (.int x1), .val (.int x2), .val (.int x3), .val (.int x4), .val (.int cap), .val (.int n), .val (.ref b6), .val (.ref b14), .unset, .unset, .unset, .unset, .unset, .unset, .unset]) rfl ?_
      exact Steps.refl _)
  obtain ⟨T25, h25, X25, e25, E25, A25, D25, -, sr25⟩ := newO X22 hx hZ hown (hw _ (List.mem_of_getElem? (i := 0) rfl)) (hw _ (List.mem_of_getElem? (i := 1) rfl)) (hw _ (List.mem_of_getElem? (i := 2) rfl)) hh22 (g := (mkF m 43 #[.val (.int x0), .val (.int x1), .val (.int x2), .val (.int x3), .val (.int x4), .val (.int cap), .val (.int n), .val (.ref b6), .val (.ref b14), .unset, .unset, .unset, .unset, .unset, .unset, .unset] [])) rfl (hb hby at_43) (by decide) (by decide)
  obtain ⟨b25, g25⟩ : ∃ z, z = h14.size := ⟨_, rfl⟩
  rw [← g25] at A25 D25 sr25
  have g_b25 : n0 ≤ b25 := Nat.le_trans Z14 (Nat.le_of_eq g25.symm)
  have ne_b6_b25 : b6 ≠ b25 := Nat.ne_of_lt (Nat.lt_of_lt_of_le f15.lt (Nat.le_of_eq g25.symm))
  have ne_b14_b25 : b14 ≠ b25 := Nat.ne_of_lt (Nat.lt_of_lt_of_le A14.lt (Nat.le_of_eq g25.symm))
  have f26 : Exa Z h25 b6 "com/example/tideloop/tideloop/Message" := f15.ext E25
  have f27 : Fld Z h25 b6 "com/example/tideloop/tideloop/Message" "what" "I" (.int (0 : Int32)) := f16.ext E25
  have f28 : Fld Z h25 b6 "com/example/tideloop/tideloop/Message" "nextPooled" "Lcom/example/tideloop/tideloop/Message;" .null := f17.ext E25
  have f29 : Exa Z h25 b14 "com/example/tideloop/tideloop/Message" := A14.ext E25
  have f30 : Fld Z h25 b14 "com/example/tideloop/tideloop/Message" "what" "I" (.int (0 : Int32)) := f18.ext E25
  have f31 : Fld Z h25 b14 "com/example/tideloop/tideloop/Message" "nextPooled" "Lcom/example/tideloop/tideloop/Message;" .null := f19.ext E25
  have f32 : Fld Z h25 b25 "com/example/tideloop/tideloop/Message" "what" "I" (.int (0 : Int32)) := D25 (Or.inl (hw _ (List.mem_of_getElem? (i := 10) rfl))) (ty := .int) (by decide)
  have f33 : Fld Z h25 b25 "com/example/tideloop/tideloop/Message" "nextPooled" "Lcom/example/tideloop/tideloop/Message;" .null := D25 (Or.inl (hw _ (List.mem_of_getElem? (i := 12) rfl))) (ty := (.object "com/example/tideloop/tideloop/Message")) (by decide)
  have Z25 : n0 ≤ h25.size := Nat.le_trans Z14 E25.1
  have st34 : Steps p.tables e below sE (T25.setTop (mkF m 46 #[.val (.int x0), .val (.int x1), .val (.int x2), .val (.int x3), .val (.int x4), .val (.int cap), .val (.int n), .val (.ref b6), .val (.ref b14), .unset, .unset, .unset, .unset, .unset, .unset, .unset] [(.ref b25)])) := st24.trans (sr25 _ (Steps.refl _))
  have st35 : Steps p.tables e below sE (T25.setTop (mkF m 47 #[.val (.int x0), .val (.int x1), .val (.int x2), .val (.int x3), .val (.int x4), .val (.int cap), .val (.int n), .val (.ref b6), .val (.ref b14), .unset, .unset, .unset, .unset, .unset, .unset, .unset] [(.ref b25), (.ref b25)])) := st34.trans (by
      show Steps _ _ _ (T25.setTop (mkF m 46 #[.val (.int x0), .val (.int x1), .val (.int x2), .val (.int x3), .val (.int x4), .val (.int cap), .val (.int n), .val (.ref b6), .val (.ref b14), .unset, .unset, .unset, .unset, .unset, .unset, .unset] [(.ref b25)])) _
      refine XS.dup X25.here hx rfl (hb hby at_46) rfl rfl ?_
      exact Steps.refl _)
  obtain ⟨_, _, ⟨T36, L36, k36, n36⟩, -, X36, ⟨Lc36, hQ36, l36, y36, z36⟩, sr36⟩ := X25.specialBack hx (y := (⟨"com/example/tideloop/tideloop/Message", "<init>", "()V"⟩ : MethodName)) rfl hown (mvT hZ (hw _ (List.mem_of_getElem? (i := 3) rfl))) (mvT hZ (hw _ (List.mem_of_getElem? (i := 4) rfl))) (mvT hZ (hw _ (List.mem_of_getElem? (i := 5) rfl))) (by decide) (backOf (W := 1) (rm1 l Z a0 hw [] b25  h25 n0 Z25 A25) hZ (hw _ (List.mem_of_getElem? (i := 5) rfl)) (hw _ (List.mem_of_getElem? (i := 2) rfl)) (by decide) (by decide)) (g := (mkF m 47 #[.val (.int x0), .val (.int x1), .val (.int x2), .val (.int x3), .val (.int x4), .val (.int cap), .val (.int n), .val (.ref b6), .val (.ref b14), .unset, .unset, .unset, .unset, .unset, .unset, .unset] [(.ref b25), (.ref b25)])) rfl (by rw [hml]; rfl) (Steps.refl _) (a := b25) (argsL := []) (rest := [(.ref b25)]) (lenOf pd_0 rfl) rfl (by show 2 * 0 + _ ≤ _; exact Nat.le_of_eq rfl) (hb hby at_47) (fun _ _ => ⟨rfl, e25, (by decide : 3 + 0 ≤ _), (by decide : 57 + 0 ≤ _)⟩)
  dsimp only [Pt.U, Pt.locs, Pt.cells, Pt.slots] at X36 l36 y36 z36 sr36 hQ36
  subst l36 y36 z36
  obtain ⟨rfl, N36q, hh36⟩ := hQ36
  have N36 := Fr.app N22 N36q
  obtain ⟨LL36, X36, N36⟩ := own_hide X36 N36
  have st37 : Steps p.tables e below sE (T36.setTop (mkF m 50 #[.val (.int x0), .val (.int x1), .val (.int x2), .val (.int x3), .val (.int x4), .val (.int cap), .val (.int n), .val (.ref b6), .val (.ref b14), .unset, .unset, .unset, .unset, .unset, .unset, .unset] [(.ref b25)])) := st35.trans (sr36)
  have st38 : Steps p.tables e below sE (T36.setTop (mkF m 55 #[.val (.int x0), .val (.int x1), .val (.int x2), .val (.int x3), .val (.int x4), .val (.int cap), .val (.int n), .val (.ref b6), .val (.ref b14), .val (.ref b25), .unset, .unset, .unset, .unset, .unset, .unset] [(.int x2), (.ref b6)])) := st37.trans (by
      show Steps _ _ _ (T36.setTop (mkF m 50 #[.val (.int x0), .val (.int x1), .val (.int x2), .val (.int x3), .val (.int x4), .val (.int cap), .val (.int n), .val (.ref b6), .val (.ref b14), .unset, .unset, .unset, .unset, .unset, .unset, .unset] [(.ref b25)])) _
      refine XS.astore X36.here hx rfl (hb hby at_50) rfl rfl (l' := #[.val (.int x0), .val (.int x1), .val (.int x2), .val (.int x3), .val (.int x4), .val (.int cap), .val (.int n), .val (.ref b6), .val (.ref b14), .val (.ref b25), .unset, .unset, .unset, .unset, .unset, .unset]) rfl ?_
      show Steps _ _ _ (T36.setTop (mkF m 52 #[.val (.int x0), .val (.int x1), .val (.int x2), .val (.int x3), .val (.int x4), .val (.int cap), .val (.int n), .val (.ref b6), .val (.ref b14), .val (.ref b25), .unset, .unset, .unset, .unset, .unset, .unset] [])) _
      refine XS.aload X36.here hx rfl (hb hby at_52) rfl rfl ?_
      show Steps _ _ _ (T36.setTop (mkF m 54 #[.val (.int x0), .val (.int x1), .val (.int x2), .val (.int x3), .val (.int x4), .val (.int cap), .val (.int n), .val (.ref b6), .val (.ref b14), .val (.ref b25), .unset, .unset, .unset, .unset, .unset, .unset] [(.ref b6)])) _
      refine XS.iloadN X36.here hx rfl (hb hby at_54) rfl ?_
      exact Steps.refl _)
  obtain ⟨T39, h39, X39, e39, W39, sr39⟩ := putF X36 hx hZ hown (host := "") (Or.inl (hw _ (List.mem_of_getElem? (i := 9) rfl))) Via.refl hh36 f27 f26 (Or.inl (hw _ (List.mem_of_getElem? (i := 10) rfl))) (hw _ (List.mem_of_getElem? (i := 1) rfl)) (ty := .int) (by decide) rfl rfl (g := (mkF m 55 #[.val (.int x0), .val (.int x1), .val (.int x2), .val (.int x3), .val (.int x4), .val (.int cap), .val (.int n), .val (.ref b6), .val (.ref b14), .val (.ref b25), .unset, .unset, .unset, .unset, .unset, .unset] [(.int x2), (.ref b6)])) rfl rfl (hb hby at_55)
  have f40 : Exa Z h39 b6 "com/example/tideloop/tideloop/Message" := f26.wr W39
  have f41 : Fld Z h39 b6 "com/example/tideloop/tideloop/Message" "nextPooled" "Lcom/example/tideloop/tideloop/Message;" .null := f28.other W39 (Or.inr (slot_ne (Or.inl (hw _ (List.mem_of_getElem? (i := 12) rfl))) (Or.inl (hw _ (List.mem_of_getElem? (i := 10) rfl))) (by decide) (t := (.object "com/example/tideloop/tideloop/Message")) (t' := .int) (by decide) (by decide)))
  have f42 : Exa Z h39 b14 "com/example/tideloop/tideloop/Message" := f29.wr W39
  have f43 : Fld Z h39 b14 "com/example/tideloop/tideloop/Message" "what" "I" (.int (0 : Int32)) := f30.other W39 (Or.inl (Ne.symm ne_b6_b14))
  have f44 : Fld Z h39 b14 "com/example/tideloop/tideloop/Message" "nextPooled" "Lcom/example/tideloop/tideloop/Message;" .null := f31.other W39 (Or.inl (Ne.symm ne_b6_b14))
  have f45 : Exa Z h39 b25 "com/example/tideloop/tideloop/Message" := A25.wr W39
  have f46 : Fld Z h39 b25 "com/example/tideloop/tideloop/Message" "what" "I" (.int (0 : Int32)) := f32.other W39 (Or.inl (Ne.symm ne_b6_b25))
  have f47 : Fld Z h39 b25 "com/example/tideloop/tideloop/Message" "nextPooled" "Lcom/example/tideloop/tideloop/Message;" .null := f33.other W39 (Or.inl (Ne.symm ne_b6_b25))
  have f48 : Fld Z h39 b6 "com/example/tideloop/tideloop/Message" "what" "I" (.int x2) := f27.same W39
  have Z39 : n0 ≤ h39.size := Nat.le_trans Z25 (Keep.of_wr W39).1
  have N39 := Fr.snoc X39 N36 g_b6
  obtain ⟨LL39, X39, N39⟩ := own_hide X39 N39
  have st49 : Steps p.tables e below sE (T39.setTop (mkF m 58 #[.val (.int x0), .val (.int x1), .val (.int x2), .val (.int x3), .val (.int x4), .val (.int cap), .val (.int n), .val (.ref b6), .val (.ref b14), .val (.ref b25), .unset, .unset, .unset, .unset, .unset, .unset] [])) := st38.trans (sr39 _ (Steps.refl _))
  have st50 : Steps p.tables e below sE (T39.setTop (mkF m 61 #[.val (.int x0), .val (.int x1), .val (.int x2), .val (.int x3), .val (.int x4), .val (.int cap), .val (.int n), .val (.ref b6), .val (.ref b14), .val (.ref b25), .unset, .unset, .unset, .unset, .unset, .unset] [(.int x3), (.ref b14)])) := st49.trans (by
      show Steps _ _ _ (T39.setTop (mkF m 58 #[.val (.int x0), .val (.int x1), .val (.int x2), .val (.int x3), .val (.int x4), .val (.int cap), .val (.int n), .val (.ref b6), .val (.ref b14), .val (.ref b25), .unset, .unset, .unset, .unset, .unset, .unset] [])) _
      refine XS.aload X39.here hx rfl (hb hby at_58) rfl rfl ?_
      show Steps _ _ _ (T39.setTop (mkF m 60 #[.val (.int x0), .val (.int x1), .val (.int x2), .val (.int x3), .val (.int x4), .val (.int cap), .val (.int n), .val (.ref b6), .val (.ref b14), .val (.ref b25), .unset, .unset, .unset, .unset, .unset, .unset] [(.ref b14)])) _
      refine XS.iloadN X39.here hx rfl (hb hby at_60) rfl ?_
      exact Steps.refl _)
  obtain ⟨T51, h51, X51, e51, W51, sr51⟩ := putF X39 hx hZ hown (host := "") (Or.inl (hw _ (List.mem_of_getElem? (i := 9) rfl))) Via.refl e39 f43 f42 (Or.inl (hw _ (List.mem_of_getElem? (i := 10) rfl))) (hw _ (List.mem_of_getElem? (i := 1) rfl)) (ty := .int) (by decide) rfl rfl (g := (mkF m 61 #[.val (.int x0), .val (.int x1), .val (.int x2), .val (.int x3), .val (.int x4), .val (.int cap), .val (.int n), .val (.ref b6), .val (.ref b14), .val (.ref b25), .unset, .unset, .unset, .unset, .unset, .unset] [(.int x3), (.ref b14)])) rfl rfl (hb hby at_61)
  have f52 : Exa Z h51 b6 "com/example/tideloop/tideloop/Message" := f40.wr W51
  have f53 : Fld Z h51 b6 "com/example/tideloop/tideloop/Message" "nextPooled" "Lcom/example/tideloop/tideloop/Message;" .null := f41.other W51 (Or.inl ne_b6_b14)
  have f54 : Exa Z h51 b14 "com/example/tideloop/tideloop/Message" := f42.wr W51
  have f55 : Fld Z h51 b14 "com/example/tideloop/tideloop/Message" "nextPooled" "Lcom/example/tideloop/tideloop/Message;" .null := f44.other W51 (Or.inr (slot_ne (Or.inl (hw _ (List.mem_of_getElem? (i := 12) rfl))) (Or.inl (hw _ (List.mem_of_getElem? (i := 10) rfl))) (by decide) (t := (.object "com/example/tideloop/tideloop/Message")) (t' := .int) (by decide) (by decide)))
  have f56 : Exa Z h51 b25 "com/example/tideloop/tideloop/Message" := f45.wr W51
  have f57 : Fld Z h51 b25 "com/example/tideloop/tideloop/Message" "what" "I" (.int (0 : Int32)) := f46.other W51 (Or.inl (Ne.symm ne_b14_b25))
  have f58 : Fld Z h51 b25 "com/example/tideloop/tideloop/Message" "nextPooled" "Lcom/example/tideloop/tideloop/Message;" .null := f47.other W51 (Or.inl (Ne.symm ne_b14_b25))
  have f59 : Fld Z h51 b6 "com/example/tideloop/tideloop/Message" "what" "I" (.int x2) := f48.other W51 (Or.inl ne_b6_b14)
  have f60 : Fld Z h51 b14 "com/example/tideloop/tideloop/Message" "what" "I" (.int x3) := f43.same W51
  have Z51 : n0 ≤ h51.size := Nat.le_trans Z39 (Keep.of_wr W51).1
  have N51 := Fr.snoc X51 N39 g_b14
  obtain ⟨LL51, X51, N51⟩ := own_hide X51 N51
  have st61 : Steps p.tables e below sE (T51.setTop (mkF m 64 #[.val (.int x0), .val (.int x1), .val (.int x2), .val (.int x3), .val (.int x4), .val (.int cap), .val (.int n), .val (.ref b6), .val (.ref b14), .val (.ref b25), .unset, .unset, .unset, .unset, .unset, .unset] [])) := st50.trans (sr51 _ (Steps.refl _))
  have st62 : Steps p.tables e below sE (T51.setTop (mkF m 68 #[.val (.int x0), .val (.int x1), .val (.int x2), .val (.int x3), .val (.int x4), .val (.int cap), .val (.int n), .val (.ref b6), .val (.ref b14), .val (.ref b25), .unset, .unset, .unset, .unset, .unset, .unset] [(.int x4), (.ref b25)])) := st61.trans (by
      show Steps _ _ _ (T51.setTop (mkF m 64 #[.val (.int x0), .val (.int x1), .val (.int x2), .val (.int x3), .val (.int x4), .val (.int cap), .val (.int n), .val (.ref b6), .val (.ref b14), .val (.ref b25), .unset, .unset, .unset, .unset, .unset, .unset] [])) _
      refine XS.aload X51.here hx rfl (hb hby at_64) rfl rfl ?_
      show Steps _ _ _ (T51.setTop (mkF m 66 #[.val (.int x0), .val (.int x1), .val (.int x2), .val (.int x3), .val (.int x4), .val (.int cap), .val (.int n), .val (.ref b6), .val (.ref b14), .val (.ref b25), .unset, .unset, .unset, .unset, .unset, .unset] [(.ref b25)])) _
      refine XS.iload X51.here hx rfl (hb hby at_66) rfl ?_
      exact Steps.refl _)
  obtain ⟨T63, h63, X63, e63, W63, sr63⟩ := putF X51 hx hZ hown (host := "") (Or.inl (hw _ (List.mem_of_getElem? (i := 9) rfl))) Via.refl e51 f57 f56 (Or.inl (hw _ (List.mem_of_getElem? (i := 10) rfl))) (hw _ (List.mem_of_getElem? (i := 1) rfl)) (ty := .int) (by decide) rfl rfl (g := (mkF m 68 #[.val (.int x0), .val (.int x1), .val (.int x2), .val (.int x3), .val (.int x4), .val (.int cap), .val (.int n), .val (.ref b6), .val (.ref b14), .val (.ref b25), .unset, .unset, .unset, .unset, .unset, .unset] [(.int x4), (.ref b25)])) rfl rfl (hb hby at_68)
  have f64 : Exa Z h63 b6 "com/example/tideloop/tideloop/Message" := f52.wr W63
  have f65 : Fld Z h63 b6 "com/example/tideloop/tideloop/Message" "nextPooled" "Lcom/example/tideloop/tideloop/Message;" .null := f53.other W63 (Or.inl ne_b6_b25)
  have f66 : Exa Z h63 b14 "com/example/tideloop/tideloop/Message" := f54.wr W63
  have f67 : Fld Z h63 b14 "com/example/tideloop/tideloop/Message" "nextPooled" "Lcom/example/tideloop/tideloop/Message;" .null := f55.other W63 (Or.inl ne_b14_b25)
  have f68 : Exa Z h63 b25 "com/example/tideloop/tideloop/Message" := f56.wr W63
  have f69 : Fld Z h63 b25 "com/example/tideloop/tideloop/Message" "nextPooled" "Lcom/example/tideloop/tideloop/Message;" .null := f58.other W63 (Or.inr (slot_ne (Or.inl (hw _ (List.mem_of_getElem? (i := 12) rfl))) (Or.inl (hw _ (List.mem_of_getElem? (i := 10) rfl))) (by decide) (t := (.object "com/example/tideloop/tideloop/Message")) (t' := .int) (by decide) (by decide)))
  have f70 : Fld Z h63 b6 "com/example/tideloop/tideloop/Message" "what" "I" (.int x2) := f59.other W63 (Or.inl ne_b6_b25)
  have f71 : Fld Z h63 b14 "com/example/tideloop/tideloop/Message" "what" "I" (.int x3) := f60.other W63 (Or.inl ne_b14_b25)
  have f72 : Fld Z h63 b25 "com/example/tideloop/tideloop/Message" "what" "I" (.int x4) := f57.same W63
  have Z63 : n0 ≤ h63.size := Nat.le_trans Z51 (Keep.of_wr W63).1
  have N63 := Fr.snoc X63 N51 g_b25
  obtain ⟨LL63, X63, N63⟩ := own_hide X63 N63
  have st73 : Steps p.tables e below sE (T63.setTop (mkF m 71 #[.val (.int x0), .val (.int x1), .val (.int x2), .val (.int x3), .val (.int x4), .val (.int cap), .val (.int n), .val (.ref b6), .val (.ref b14), .val (.ref b25), .unset, .unset, .unset, .unset, .unset, .unset] [])) := st62.trans (sr63 _ (Steps.refl _))
  have st74 : Steps p.tables e below sE (T63.setTop (mkF m 75 #[.val (.int x0), .val (.int x1), .val (.int x2), .val (.int x3), .val (.int x4), .val (.int cap), .val (.int n), .val (.ref b6), .val (.ref b14), .val (.ref b25), .unset, .unset, .unset, .unset, .unset, .unset] [(.ref b25), (.ref b6)])) := st73.trans (by
      show Steps _ _ _ (T63.setTop (mkF m 71 #[.val (.int x0), .val (.int x1), .val (.int x2), .val (.int x3), .val (.int x4), .val (.int cap), .val (.int n), .val (.ref b6), .val (.ref b14), .val (.ref b25), .unset, .unset, .unset, .unset, .unset, .unset] [])) _
      refine XS.aload X63.here hx rfl (hb hby at_71) rfl rfl ?_
      show Steps _ _ _ (T63.setTop (mkF m 73 #[.val (.int x0), .val (.int x1), .val (.int x2), .val (.int x3), .val (.int x4), .val (.int cap), .val (.int n), .val (.ref b6), .val (.ref b14), .val (.ref b25), .unset, .unset, .unset, .unset, .unset, .unset] [(.ref b6)])) _
      refine XS.aload X63.here hx rfl (hb hby at_73) rfl rfl ?_
      exact Steps.refl _)
  obtain ⟨T75, h75, X75, e75, W75, sr75⟩ := putF X63 hx hZ hown (host := "") (Or.inl (hw _ (List.mem_of_getElem? (i := 11) rfl))) Via.refl e63 f65 f64 (Or.inl (hw _ (List.mem_of_getElem? (i := 12) rfl))) (hw _ (List.mem_of_getElem? (i := 1) rfl)) (ty := (.object "com/example/tideloop/tideloop/Message")) (by decide) rfl rfl (g := (mkF m 75 #[.val (.int x0), .val (.int x1), .val (.int x2), .val (.int x3), .val (.int x4), .val (.int cap), .val (.int n), .val (.ref b6), .val (.ref b14), .val (.ref b25), .unset, .unset, .unset, .unset, .unset, .unset] [(.ref b25), (.ref b6)])) rfl rfl (hb hby at_75)
  have f76 : Exa Z h75 b6 "com/example/tideloop/tideloop/Message" := f64.wr W75
  have f77 : Exa Z h75 b14 "com/example/tideloop/tideloop/Message" := f66.wr W75
  have f78 : Fld Z h75 b14 "com/example/tideloop/tideloop/Message" "nextPooled" "Lcom/example/tideloop/tideloop/Message;" .null := f67.other W75 (Or.inl (Ne.symm ne_b6_b14))
  have f79 : Exa Z h75 b25 "com/example/tideloop/tideloop/Message" := f68.wr W75
  have f80 : Fld Z h75 b25 "com/example/tideloop/tideloop/Message" "nextPooled" "Lcom/example/tideloop/tideloop/Message;" .null := f69.other W75 (Or.inl (Ne.symm ne_b6_b25))
  have f81 : Fld Z h75 b6 "com/example/tideloop/tideloop/Message" "what" "I" (.int x2) := f70.other W75 (Or.inr (slot_ne (Or.inl (hw _ (List.mem_of_getElem? (i := 10) rfl))) (Or.inl (hw _ (List.mem_of_getElem? (i := 12) rfl))) (by decide) (t := .int) (t' := (.object "com/example/tideloop/tideloop/Message")) (by decide) (by decide)))
  have f82 : Fld Z h75 b14 "com/example/tideloop/tideloop/Message" "what" "I" (.int x3) := f71.other W75 (Or.inl (Ne.symm ne_b6_b14))
  have f83 : Fld Z h75 b25 "com/example/tideloop/tideloop/Message" "what" "I" (.int x4) := f72.other W75 (Or.inl (Ne.symm ne_b6_b25))
  have f84 : Fld Z h75 b6 "com/example/tideloop/tideloop/Message" "nextPooled" "Lcom/example/tideloop/tideloop/Message;" (.ref b25) := f65.same W75
  have Z75 : n0 ≤ h75.size := Nat.le_trans Z63 (Keep.of_wr W75).1
  have N75 := Fr.snoc X75 N63 g_b6
  obtain ⟨LL75, X75, N75⟩ := own_hide X75 N75
  have st85 : Steps p.tables e below sE (T75.setTop (mkF m 78 #[.val (.int x0), .val (.int x1), .val (.int x2), .val (.int x3), .val (.int x4), .val (.int cap), .val (.int n), .val (.ref b6), .val (.ref b14), .val (.ref b25), .unset, .unset, .unset, .unset, .unset, .unset] [])) := st74.trans (sr75 _ (Steps.refl _))
  have st86 : Steps p.tables e below sE (T75.setTop (mkF m 82 #[.val (.int x0), .val (.int x1), .val (.int x2), .val (.int x3), .val (.int x4), .val (.int cap), .val (.int n), .val (.ref b6), .val (.ref b14), .val (.ref b25), .unset, .unset, .unset, .unset, .unset, .unset] [(.ref b6), (.ref b14)])) := st85.trans (by
      show Steps _ _ _ (T75.setTop (mkF m 78 #[.val (.int x0), .val (.int x1), .val (.int x2), .val (.int x3), .val (.int x4), .val (.int cap), .val (.int n), .val (.ref b6), .val (.ref b14), .val (.ref b25), .unset, .unset, .unset, .unset, .unset, .unset] [])) _
      refine XS.aload X75.here hx rfl (hb hby at_78) rfl rfl ?_
      show Steps _ _ _ (T75.setTop (mkF m 80 #[.val (.int x0), .val (.int x1), .val (.int x2), .val (.int x3), .val (.int x4), .val (.int cap), .val (.int n), .val (.ref b6), .val (.ref b14), .val (.ref b25), .unset, .unset, .unset, .unset, .unset, .unset] [(.ref b14)])) _
      refine XS.aload X75.here hx rfl (hb hby at_80) rfl rfl ?_
      exact Steps.refl _)
  obtain ⟨T87, h87, X87, e87, W87, sr87⟩ := putF X75 hx hZ hown (host := "") (Or.inl (hw _ (List.mem_of_getElem? (i := 11) rfl))) Via.refl e75 f78 f77 (Or.inl (hw _ (List.mem_of_getElem? (i := 12) rfl))) (hw _ (List.mem_of_getElem? (i := 1) rfl)) (ty := (.object "com/example/tideloop/tideloop/Message")) (by decide) rfl rfl (g := (mkF m 82 #[.val (.int x0), .val (.int x1), .val (.int x2), .val (.int x3), .val (.int x4), .val (.int cap), .val (.int n), .val (.ref b6), .val (.ref b14), .val (.ref b25), .unset, .unset, .unset, .unset, .unset, .unset] [(.ref b6), (.ref b14)])) rfl rfl (hb hby at_82)
  have f88 : Exa Z h87 b6 "com/example/tideloop/tideloop/Message" := f76.wr W87
  have f89 : Exa Z h87 b14 "com/example/tideloop/tideloop/Message" := f77.wr W87
  have f90 : Exa Z h87 b25 "com/example/tideloop/tideloop/Message" := f79.wr W87
  have f91 : Fld Z h87 b25 "com/example/tideloop/tideloop/Message" "nextPooled" "Lcom/example/tideloop/tideloop/Message;" .null := f80.other W87 (Or.inl (Ne.symm ne_b14_b25))
  have f92 : Fld Z h87 b6 "com/example/tideloop/tideloop/Message" "what" "I" (.int x2) := f81.other W87 (Or.inl ne_b6_b14)
  have f93 : Fld Z h87 b14 "com/example/tideloop/tideloop/Message" "what" "I" (.int x3) := f82.other W87 (Or.inr (slot_ne (Or.inl (hw _ (List.mem_of_getElem? (i := 10) rfl))) (Or.inl (hw _ (List.mem_of_getElem? (i := 12) rfl))) (by decide) (t := .int) (t' := (.object "com/example/tideloop/tideloop/Message")) (by decide) (by decide)))
  have f94 : Fld Z h87 b25 "com/example/tideloop/tideloop/Message" "what" "I" (.int x4) := f83.other W87 (Or.inl (Ne.symm ne_b14_b25))
  have f95 : Fld Z h87 b6 "com/example/tideloop/tideloop/Message" "nextPooled" "Lcom/example/tideloop/tideloop/Message;" (.ref b25) := f84.other W87 (Or.inl ne_b6_b14)
  have f96 : Fld Z h87 b14 "com/example/tideloop/tideloop/Message" "nextPooled" "Lcom/example/tideloop/tideloop/Message;" (.ref b6) := f78.same W87
  have Z87 : n0 ≤ h87.size := Nat.le_trans Z75 (Keep.of_wr W87).1
  have N87 := Fr.snoc X87 N75 g_b14
  obtain ⟨LL87, X87, N87⟩ := own_hide X87 N87
  have st97 : Steps p.tables e below sE (T87.setTop (mkF m 85 #[.val (.int x0), .val (.int x1), .val (.int x2), .val (.int x3), .val (.int x4), .val (.int cap), .val (.int n), .val (.ref b6), .val (.ref b14), .val (.ref b25), .unset, .unset, .unset, .unset, .unset, .unset] [])) := st86.trans (sr87 _ (Steps.refl _))
  have st98 : Steps p.tables e below sE (T87.setTop (mkF m 89 #[.val (.int x0), .val (.int x1), .val (.int x2), .val (.int x3), .val (.int x4), .val (.int cap), .val (.int n), .val (.ref b6), .val (.ref b14), .val (.ref b25), .unset, .unset, .unset, .unset, .unset, .unset] [(.ref b14), (.ref b25)])) := st97.trans (by
      show Steps _ _ _ (T87.setTop (mkF m 85 #[.val (.int x0), .val (.int x1), .val (.int x2), .val (.int x3), .val (.int x4), .val (.int cap), .val (.int n), .val (.ref b6), .val (.ref b14), .val (.ref b25), .unset, .unset, .unset, .unset, .unset, .unset] [])) _
      refine XS.aload X87.here hx rfl (hb hby at_85) rfl rfl ?_
      show Steps _ _ _ (T87.setTop (mkF m 87 #[.val (.int x0), .val (.int x1), .val (.int x2), .val (.int x3), .val (.int x4), .val (.int cap), .val (.int n), .val (.ref b6), .val (.ref b14), .val (.ref b25), .unset, .unset, .unset, .unset, .unset, .unset] [(.ref b25)])) _
      refine XS.aload X87.here hx rfl (hb hby at_87) rfl rfl ?_
      exact Steps.refl _)
  obtain ⟨T99, h99, X99, e99, W99, sr99⟩ := putF X87 hx hZ hown (host := "") (Or.inl (hw _ (List.mem_of_getElem? (i := 11) rfl))) Via.refl e87 f91 f90 (Or.inl (hw _ (List.mem_of_getElem? (i := 12) rfl))) (hw _ (List.mem_of_getElem? (i := 1) rfl)) (ty := (.object "com/example/tideloop/tideloop/Message")) (by decide) rfl rfl (g := (mkF m 89 #[.val (.int x0), .val (.int x1), .val (.int x2), .val (.int x3), .val (.int x4), .val (.int cap), .val (.int n), .val (.ref b6), .val (.ref b14), .val (.ref b25), .unset, .unset, .unset, .unset, .unset, .unset] [(.ref b14), (.ref b25)])) rfl rfl (hb hby at_89)
  have f100 : Exa Z h99 b6 "com/example/tideloop/tideloop/Message" := f88.wr W99
  have f101 : Exa Z h99 b14 "com/example/tideloop/tideloop/Message" := f89.wr W99
  have f102 : Exa Z h99 b25 "com/example/tideloop/tideloop/Message" := f90.wr W99
  have f103 : Fld Z h99 b6 "com/example/tideloop/tideloop/Message" "what" "I" (.int x2) := f92.other W99 (Or.inl ne_b6_b25)
  have f104 : Fld Z h99 b14 "com/example/tideloop/tideloop/Message" "what" "I" (.int x3) := f93.other W99 (Or.inl ne_b14_b25)
  have f105 : Fld Z h99 b25 "com/example/tideloop/tideloop/Message" "what" "I" (.int x4) := f94.other W99 (Or.inr (slot_ne (Or.inl (hw _ (List.mem_of_getElem? (i := 10) rfl))) (Or.inl (hw _ (List.mem_of_getElem? (i := 12) rfl))) (by decide) (t := .int) (t' := (.object "com/example/tideloop/tideloop/Message")) (by decide) (by decide)))
  have f106 : Fld Z h99 b6 "com/example/tideloop/tideloop/Message" "nextPooled" "Lcom/example/tideloop/tideloop/Message;" (.ref b25) := f95.other W99 (Or.inl ne_b6_b25)
  have f107 : Fld Z h99 b14 "com/example/tideloop/tideloop/Message" "nextPooled" "Lcom/example/tideloop/tideloop/Message;" (.ref b6) := f96.other W99 (Or.inl ne_b14_b25)
  have f108 : Fld Z h99 b25 "com/example/tideloop/tideloop/Message" "nextPooled" "Lcom/example/tideloop/tideloop/Message;" (.ref b14) := f91.same W99
  have Z99 : n0 ≤ h99.size := Nat.le_trans Z87 (Keep.of_wr W99).1
  have N99 := Fr.snoc X99 N87 g_b25
  obtain ⟨LL99, X99, N99⟩ := own_hide X99 N99
  have st109 : Steps p.tables e below sE (T99.setTop (mkF m 92 #[.val (.int x0), .val (.int x1), .val (.int x2), .val (.int x3), .val (.int x4), .val (.int cap), .val (.int n), .val (.ref b6), .val (.ref b14), .val (.ref b25), .unset, .unset, .unset, .unset, .unset, .unset] [])) := st98.trans (sr99 _ (Steps.refl _))
  obtain ⟨T110, h110, X110, e110, E110, A110, D110, -, sr110⟩ := newO X99 hx hZ hown (hw _ (List.mem_of_getElem? (i := 13) rfl)) (hw _ (List.mem_of_getElem? (i := 14) rfl)) (hw _ (List.mem_of_getElem? (i := 15) rfl)) e99 (g := (mkF m 92 #[.val (.int x0), .val (.int x1), .val (.int x2), .val (.int x3), .val (.int x4), .val (.int cap), .val (.int n), .val (.ref b6), .val (.ref b14), .val (.ref b25), .unset, .unset, .unset, .unset, .unset, .unset] [])) rfl (hb hby at_92) (by decide) (by decide)
  obtain ⟨b110, g110⟩ : ∃ z, z = h99.size := ⟨_, rfl⟩
  rw [← g110] at A110 D110 sr110
  have g_b110 : n0 ≤ b110 := Nat.le_trans Z99 (Nat.le_of_eq g110.symm)
  have ne_b6_b110 : b6 ≠ b110 := Nat.ne_of_lt (Nat.lt_of_lt_of_le f100.lt (Nat.le_of_eq g110.symm))
  have ne_b14_b110 : b14 ≠ b110 := Nat.ne_of_lt (Nat.lt_of_lt_of_le f101.lt (Nat.le_of_eq g110.symm))
  have ne_b25_b110 : b25 ≠ b110 := Nat.ne_of_lt (Nat.lt_of_lt_of_le f102.lt (Nat.le_of_eq g110.symm))
  have f111 : Exa Z h110 b6 "com/example/tideloop/tideloop/Message" := f100.ext E110
  have f112 : Exa Z h110 b14 "com/example/tideloop/tideloop/Message" := f101.ext E110
  have f113 : Exa Z h110 b25 "com/example/tideloop/tideloop/Message" := f102.ext E110
  have f114 : Fld Z h110 b6 "com/example/tideloop/tideloop/Message" "what" "I" (.int x2) := f103.ext E110
  have f115 : Fld Z h110 b14 "com/example/tideloop/tideloop/Message" "what" "I" (.int x3) := f104.ext E110
  have f116 : Fld Z h110 b25 "com/example/tideloop/tideloop/Message" "what" "I" (.int x4) := f105.ext E110
  have f117 : Fld Z h110 b6 "com/example/tideloop/tideloop/Message" "nextPooled" "Lcom/example/tideloop/tideloop/Message;" (.ref b25) := f106.ext E110
  have f118 : Fld Z h110 b14 "com/example/tideloop/tideloop/Message" "nextPooled" "Lcom/example/tideloop/tideloop/Message;" (.ref b6) := f107.ext E110
  have f119 : Fld Z h110 b25 "com/example/tideloop/tideloop/Message" "nextPooled" "Lcom/example/tideloop/tideloop/Message;" (.ref b14) := f108.ext E110
  have f120 : Fld Z h110 b110 "com/example/tideloop/tideloop/MessagePool" "capacity" "I" (.int (0 : Int32)) := D110 (Or.inr (hw _ (List.mem_of_getElem? (i := 21) rfl))) (ty := .int) (by decide)
  have f121 : Fld Z h110 b110 "com/example/tideloop/tideloop/MessagePool" "size" "I" (.int (0 : Int32)) := D110 (Or.inl (hw _ (List.mem_of_getElem? (i := 28) rfl))) (ty := .int) (by decide)
  have f122 : Fld Z h110 b110 "com/example/tideloop/tideloop/MessagePool" "head" "Lcom/example/tideloop/tideloop/Message;" .null := D110 (Or.inl (hw _ (List.mem_of_getElem? (i := 42) rfl))) (ty := (.object "com/example/tideloop/tideloop/Message")) (by decide)
  have Z110 : n0 ≤ h110.size := Nat.le_trans Z99 E110.1
  have st123 : Steps p.tables e below sE (T110.setTop (mkF m 95 #[.val (.int x0), .val (.int x1), .val (.int x2), .val (.int x3), .val (.int x4), .val (.int cap), .val (.int n), .val (.ref b6), .val (.ref b14), .val (.ref b25), .unset, .unset, .unset, .unset, .unset, .unset] [(.ref b110)])) := st109.trans (sr110 _ (Steps.refl _))
  have st124 : Steps p.tables e below sE (T110.setTop (mkF m 98 #[.val (.int x0), .val (.int x1), .val (.int x2), .val (.int x3), .val (.int x4), .val (.int cap), .val (.int n), .val (.ref b6), .val (.ref b14), .val (.ref b25), .unset, .unset, .unset, .unset, .unset, .unset] [(.int cap), (.ref b110), (.ref b110)])) := st123.trans (by
      show Steps _ _ _ (T110.setTop (mkF m 95 #[.val (.int x0), .val (.int x1), .val (.int x2), .val (.int x3), .val (.int x4), .val (.int cap), .val (.int n), .val (.ref b6), .val (.ref b14), .val (.ref b25), .unset, .unset, .unset, .unset, .unset, .unset] [(.ref b110)])) _
      refine XS.dup X110.here hx rfl (hb hby at_95) rfl rfl ?_
      show Steps _ _ _ (T110.setTop (mkF m 96 #[.val (.int x0), .val (.int x1), .val (.int x2), .val (.int x3), .val (.int x4), .val (.int cap), .val (.int n), .val (.ref b6), .val (.ref b14), .val (.ref b25), .unset, .unset, .unset, .unset, .unset, .unset] [(.ref b110), (.ref b110)])) _
      refine XS.iload X110.here hx rfl (hb hby at_96) rfl ?_
      exact Steps.refl _)
  obtain ⟨_, _, ⟨T125, L125, k125, n125⟩, -, X125, ⟨Lc125, hQ125, l125, y125, z125⟩, sr125⟩ := X110.specialBack hx (y := (⟨"com/example/tideloop/tideloop/MessagePool", "<init>", "(I)V"⟩ : MethodName)) rfl hown (mvT hZ (hw _ (List.mem_of_getElem? (i := 16) rfl))) (mvT hZ (hw _ (List.mem_of_getElem? (i := 17) rfl))) (mvT hZ (hw _ (List.mem_of_getElem? (i := 18) rfl))) (by decide) (backOf (W := 1) (rm3 l Z a0 hw [] b110 cap  h110 n0 Z110 A110 f120 f121 f122 g_b110) hZ (hw _ (List.mem_of_getElem? (i := 18) rfl)) (hw _ (List.mem_of_getElem? (i := 15) rfl)) (by decide) (by decide)) (g := (mkF m 98 #[.val (.int x0), .val (.int x1), .val (.int x2), .val (.int x3), .val (.int x4), .val (.int cap), .val (.int n), .val (.ref b6), .val (.ref b14), .val (.ref b25), .unset, .unset, .unset, .unset, .unset, .unset] [(.int cap), (.ref b110), (.ref b110)])) rfl (by rw [hml]; rfl) (Steps.refl _) (a := b110) (argsL := [(.int cap)]) (rest := [(.ref b110)]) (lenOf pd_1 rfl) rfl (by show 2 * 0 + _ ≤ _; exact Nat.le_of_eq rfl) (hb hby at_98) (fun _ _ => ⟨rfl, e110, (by decide : 4 + 0 ≤ _), (by decide : 60 + 0 ≤ _)⟩)
  dsimp only [Pt.U, Pt.locs, Pt.cells, Pt.slots] at X125 l125 y125 z125 sr125 hQ125
  subst l125 y125 z125
  obtain ⟨rfl, N125q, K125c, f125_0, f125_1, f125_2, f125_3⟩ := hQ125
  have N125 := Fr.app N99 N125q
  obtain ⟨LL125, X125, N125⟩ := own_hide X125 N125
  have f126 : Exa Z T125.heap b6 "com/example/tideloop/tideloop/Message" := f111.keep K125c
  have f127 : Exa Z T125.heap b14 "com/example/tideloop/tideloop/Message" := f112.keep K125c
  have f128 : Exa Z T125.heap b25 "com/example/tideloop/tideloop/Message" := f113.keep K125c
  have f129 : Fld Z T125.heap b6 "com/example/tideloop/tideloop/Message" "what" "I" (.int x2) := f114.keep K125c (ninS ne_b6_b110 nin0)
  have f130 : Fld Z T125.heap b14 "com/example/tideloop/tideloop/Message" "what" "I" (.int x3) := f115.keep K125c (ninS ne_b14_b110 nin0)
  have f131 : Fld Z T125.heap b25 "com/example/tideloop/tideloop/Message" "what" "I" (.int x4) := f116.keep K125c (ninS ne_b25_b110 nin0)
  have f132 : Fld Z T125.heap b6 "com/example/tideloop/tideloop/Message" "nextPooled" "Lcom/example/tideloop/tideloop/Message;" (.ref b25) := f117.keep K125c (ninS ne_b6_b110 nin0)
  have f133 : Fld Z T125.heap b14 "com/example/tideloop/tideloop/Message" "nextPooled" "Lcom/example/tideloop/tideloop/Message;" (.ref b6) := f118.keep K125c (ninS ne_b14_b110 nin0)
  have f134 : Fld Z T125.heap b25 "com/example/tideloop/tideloop/Message" "nextPooled" "Lcom/example/tideloop/tideloop/Message;" (.ref b14) := f119.keep K125c (ninS ne_b25_b110 nin0)
  have f135 : Exa Z T125.heap b110 "com/example/tideloop/tideloop/MessagePool" := A110.keep K125c
  have Z136 : n0 ≤ T125.heap.size := Nat.le_trans Z110 K125c.1
  have st137 : Steps p.tables e below sE (T125.setTop (mkF m 101 #[.val (.int x0), .val (.int x1), .val (.int x2), .val (.int x3), .val (.int x4), .val (.int cap), .val (.int n), .val (.ref b6), .val (.ref b14), .val (.ref b25), .unset, .unset, .unset, .unset, .unset, .unset] [(.ref b110)])) := st124.trans (sr125)
  have st138 : Steps p.tables e below sE (T125.setTop (mkF m 106 #[.val (.int x0), .val (.int x1), .val (.int x2), .val (.int x3), .val (.int x4), .val (.int cap), .val (.int n), .val (.ref b6), .val (.ref b14), .val (.ref b25), .val (.ref b110), .unset, .unset, .unset, .unset, .unset] [(.int (1 : Int32)), (.int n)])) := st137.trans (by
      show Steps _ _ _ (T125.setTop (mkF m 101 #[.val (.int x0), .val (.int x1), .val (.int x2), .val (.int x3), .val (.int x4), .val (.int cap), .val (.int n), .val (.ref b6), .val (.ref b14), .val (.ref b25), .unset, .unset, .unset, .unset, .unset, .unset] [(.ref b110)])) _
      refine XS.astore X125.here hx rfl (hb hby at_101) rfl rfl (l' := #[.val (.int x0), .val (.int x1), .val (.int x2), .val (.int x3), .val (.int x4), .val (.int cap), .val (.int n), .val (.ref b6), .val (.ref b14), .val (.ref b25), .val (.ref b110), .unset, .unset, .unset, .unset, .unset]) rfl ?_
      show Steps _ _ _ (T125.setTop (mkF m 103 #[.val (.int x0), .val (.int x1), .val (.int x2), .val (.int x3), .val (.int x4), .val (.int cap), .val (.int n), .val (.ref b6), .val (.ref b14), .val (.ref b25), .val (.ref b110), .unset, .unset, .unset, .unset, .unset] [])) _
      refine XS.iload X125.here hx rfl (hb hby at_103) rfl ?_
      show Steps _ _ _ (T125.setTop (mkF m 105 #[.val (.int x0), .val (.int x1), .val (.int x2), .val (.int x3), .val (.int x4), .val (.int cap), .val (.int n), .val (.ref b6), .val (.ref b14), .val (.ref b25), .val (.ref b110), .unset, .unset, .unset, .unset, .unset] [(.int n)])) _
      refine XS.iconst X125.here hx rfl (hb hby at_105) ?_
      exact Steps.refl _)
  by_cases hc139 : n < (1 : Int32)
  · have st140 : Steps p.tables e below sE (T125.setTop (mkF m 119 #[.val (.int x0), .val (.int x1), .val (.int x2), .val (.int x3), .val (.int x4), .val (.int cap), .val (.int n), .val (.ref b6), .val (.ref b14), .val (.ref b25), .val (.ref b110), .unset, .unset, .unset, .unset, .unset] [(.int (2 : Int32)), (.int n)])) := st138.trans (by
        show Steps _ _ _ (T125.setTop (mkF m 106 #[.val (.int x0), .val (.int x1), .val (.int x2), .val (.int x3), .val (.int x4), .val (.int cap), .val (.int n), .val (.ref b6), .val (.ref b14), .val (.ref b25), .val (.ref b110), .unset, .unset, .unset, .unset, .unset] [(.int (1 : Int32)), (.int n)])) _
        refine XS.icmpYes X125.here hx rfl (pc0 := 106) (pc' := 116) rfl (hb hby at_106) rfl (tlt hc139).1 (by decide) (by decide) ?_
        show Steps _ _ _ (T125.setTop (mkF m 116 #[.val (.int x0), .val (.int x1), .val (.int x2), .val (.int x3), .val (.int x4), .val (.int cap), .val (.int n), .val (.ref b6), .val (.ref b14), .val (.ref b25), .val (.ref b110), .unset, .unset, .unset, .unset, .unset] [])) _
        refine XS.iload X125.here hx rfl (hb hby at_116) rfl ?_
        show Steps _ _ _ (T125.setTop (mkF m 118 #[.val (.int x0), .val (.int x1), .val (.int x2), .val (.int x3), .val (.int x4), .val (.int cap), .val (.int n), .val (.ref b6), .val (.ref b14), .val (.ref b25), .val (.ref b110), .unset, .unset, .unset, .unset, .unset] [(.int n)])) _
        refine XS.iconst X125.here hx rfl (hb hby at_118) ?_
        exact Steps.refl _)
    have hf141 : n < (2 : Int32) := own_lt hc139 (by decide)
    have st142 : Steps p.tables e below sE (T125.setTop (mkF m 132 #[.val (.int x0), .val (.int x1), .val (.int x2), .val (.int x3), .val (.int x4), .val (.int cap), .val (.int n), .val (.ref b6), .val (.ref b14), .val (.ref b25), .val (.ref b110), .unset, .unset, .unset, .unset, .unset] [(.int (3 : Int32)), (.int n)])) := st140.trans (by
        show Steps _ _ _ (T125.setTop (mkF m 119 #[.val (.int x0), .val (.int x1), .val (.int x2), .val (.int x3), .val (.int x4), .val (.int cap), .val (.int n), .val (.ref b6), .val (.ref b14), .val (.ref b25), .val (.ref b110), .unset, .unset, .unset, .unset, .unset] [(.int (2 : Int32)), (.int n)])) _
        refine XS.icmpYes X125.here hx rfl (pc0 := 119) (pc' := 129) rfl (hb hby at_119) rfl (tlt hf141).1 (by decide) (by decide) ?_
        show Steps _ _ _ (T125.setTop (mkF m 129 #[.val (.int x0), .val (.int x1), .val (.int x2), .val (.int x3), .val (.int x4), .val (.int cap), .val (.int n), .val (.ref b6), .val (.ref b14), .val (.ref b25), .val (.ref b110), .unset, .unset, .unset, .unset, .unset] [])) _
        refine XS.iload X125.here hx rfl (hb hby at_129) rfl ?_
        show Steps _ _ _ (T125.setTop (mkF m 131 #[.val (.int x0), .val (.int x1), .val (.int x2), .val (.int x3), .val (.int x4), .val (.int cap), .val (.int n), .val (.ref b6), .val (.ref b14), .val (.ref b25), .val (.ref b110), .unset, .unset, .unset, .unset, .unset] [(.int n)])) _
        refine XS.iconst X125.here hx rfl (hb hby at_131) ?_
        exact Steps.refl _)
    have hf143 : n < (3 : Int32) := own_lt hc139 (by decide)
    have st144 : Steps p.tables e below sE (T125.setTop (mkF m 142 #[.val (.int x0), .val (.int x1), .val (.int x2), .val (.int x3), .val (.int x4), .val (.int cap), .val (.int n), .val (.ref b6), .val (.ref b14), .val (.ref b25), .val (.ref b110), .unset, .unset, .unset, .unset, .unset] [])) := st142.trans (by
        show Steps _ _ _ (T125.setTop (mkF m 132 #[.val (.int x0), .val (.int x1), .val (.int x2), .val (.int x3), .val (.int x4), .val (.int cap), .val (.int n), .val (.ref b6), .val (.ref b14), .val (.ref b25), .val (.ref b110), .unset, .unset, .unset, .unset, .unset] [(.int (3 : Int32)), (.int n)])) _
        refine XS.icmpYes X125.here hx rfl (pc0 := 132) (pc' := 142) rfl (hb hby at_132) rfl (tlt hf143).1 (by decide) (by decide) ?_
        exact Steps.refl _)
    have st145 : Steps p.tables e below sE (T125.setTop (mkF m 147 #[.val (.int x0), .val (.int x1), .val (.int x2), .val (.int x3), .val (.int x4), .val (.int cap), .val (.int n), .val (.ref b6), .val (.ref b14), .val (.ref b25), .val (.ref b110), .unset, .unset, .unset, .unset, .unset] [(.int cap), (.int (0 : Int32)), (.int n)])) := st144.trans (by
        show Steps _ _ _ (T125.setTop (mkF m 142 #[.val (.int x0), .val (.int x1), .val (.int x2), .val (.int x3), .val (.int x4), .val (.int cap), .val (.int n), .val (.ref b6), .val (.ref b14), .val (.ref b25), .val (.ref b110), .unset, .unset, .unset, .unset, .unset] [])) _
        refine XS.iload X125.here hx rfl (hb hby at_142) rfl ?_
        show Steps _ _ _ (T125.setTop (mkF m 144 #[.val (.int x0), .val (.int x1), .val (.int x2), .val (.int x3), .val (.int x4), .val (.int cap), .val (.int n), .val (.ref b6), .val (.ref b14), .val (.ref b25), .val (.ref b110), .unset, .unset, .unset, .unset, .unset] [(.int n)])) _
        refine XS.iconst X125.here hx rfl (hb hby at_144) ?_
        show Steps _ _ _ (T125.setTop (mkF m 145 #[.val (.int x0), .val (.int x1), .val (.int x2), .val (.int x3), .val (.int x4), .val (.int cap), .val (.int n), .val (.ref b6), .val (.ref b14), .val (.ref b25), .val (.ref b110), .unset, .unset, .unset, .unset, .unset] [(.int (0 : Int32)), (.int n)])) _
        refine XS.iload X125.here hx rfl (hb hby at_145) rfl ?_
        exact Steps.refl _)
    obtain ⟨_, _, ⟨T146, L146, k146, n146⟩, -, X146, ⟨Lc146, hQ146, l146, y146, z146⟩, sr146⟩ := Jvm.LawKit.callS X125 hx (y := (⟨"java/lang/Math", "max", "(II)I"⟩ : MethodName)) hown (mvT hZ (hw _ (List.mem_of_getElem? (i := 29) rfl))) (mvT hZ (hw _ (List.mem_of_getElem? (i := 30) rfl))) (mvT hZ (hw _ (List.mem_of_getElem? (i := 31) rfl))) (mvT hZ (hw _ (List.mem_of_getElem? (i := 32) rfl))) (by decide) (backOf (W := 1) (rm5 l Z a0 hw [] (0 : Int32) cap  T125.heap n0 Z136 ) hZ (hw _ (List.mem_of_getElem? (i := 32) rfl)) (hw _ (List.mem_of_getElem? (i := 31) rfl)) (by decide) (by decide)) (g := (mkF m 147 #[.val (.int x0), .val (.int x1), .val (.int x2), .val (.int x3), .val (.int x4), .val (.int cap), .val (.int n), .val (.ref b6), .val (.ref b14), .val (.ref b25), .val (.ref b110), .unset, .unset, .unset, .unset, .unset] [(.int cap), (.int (0 : Int32)), (.int n)])) rfl (by rw [hml]; rfl) (argsL := [(.int (0 : Int32)), (.int cap)]) (rest := [(.int n)]) (lenOf pd_2 rfl) rfl (by show 2 * 0 + _ ≤ _; exact Nat.le_of_eq rfl) (hb hby at_147) (fun _ _ => ⟨rfl, rfl, (by decide : 4 + 0 ≤ _), (by decide : 60 + 0 ≤ _)⟩)
    dsimp only [Pt.U, Pt.locs, Pt.cells, Pt.slots] at X146 l146 y146 z146 sr146 hQ146
    subst l146 y146 z146
    obtain ⟨rfl, N146q, hh146⟩ := hQ146
    have N146 := Fr.app N125 N146q
    obtain ⟨LL146, X146, N146⟩ := own_hide X146 N146
    have st147 : Steps p.tables e below sE (T146.setTop (mkF m 150 #[.val (.int x0), .val (.int x1), .val (.int x2), .val (.int x3), .val (.int x4), .val (.int cap), .val (.int n), .val (.ref b6), .val (.ref b14), .val (.ref b25), .val (.ref b110), .unset, .unset, .unset, .unset, .unset] [(.int (F5 (0 : Int32) cap)), (.int n)])) := st145.trans (sr146 _ (Steps.refl _))
    obtain ⟨_, _, ⟨T148, L148, k148, n148⟩, -, X148, ⟨Lc148, hQ148, l148, y148, z148⟩, sr148⟩ := Jvm.LawKit.callS X146 hx (y := (⟨"java/lang/Math", "min", "(II)I"⟩ : MethodName)) hown (mvT hZ (hw _ (List.mem_of_getElem? (i := 33) rfl))) (mvT hZ (hw _ (List.mem_of_getElem? (i := 34) rfl))) (mvT hZ (hw _ (List.mem_of_getElem? (i := 31) rfl))) (mvT hZ (hw _ (List.mem_of_getElem? (i := 35) rfl))) (by decide) (backOf (W := 0) (rm6 l Z a0 hw [] n (F5 (0 : Int32) cap)  T125.heap n0 Z136 ) hZ (hw _ (List.mem_of_getElem? (i := 35) rfl)) (hw _ (List.mem_of_getElem? (i := 31) rfl)) (by decide) (by decide)) (g := (mkF m 150 #[.val (.int x0), .val (.int x1), .val (.int x2), .val (.int x3), .val (.int x4), .val (.int cap), .val (.int n), .val (.ref b6), .val (.ref b14), .val (.ref b25), .val (.ref b110), .unset, .unset, .unset, .unset, .unset] [(.int (F5 (0 : Int32) cap)), (.int n)])) rfl (by rw [hml]; rfl) (argsL := [(.int n), (.int (F5 (0 : Int32) cap))]) (rest := []) (lenOf pd_2 rfl) rfl (by show 2 * 0 + _ ≤ _; exact Nat.le_of_eq rfl) (hb hby at_150) (fun _ _ => ⟨rfl, hh146, (by decide : 4 + 0 ≤ _), (by decide : 60 + 0 ≤ _)⟩)
    dsimp only [Pt.U, Pt.locs, Pt.cells, Pt.slots] at X148 l148 y148 z148 sr148 hQ148
    subst l148 y148 z148
    obtain ⟨rfl, N148q, hh148⟩ := hQ148
    have N148 := Fr.app N146 N148q
    obtain ⟨LL148, X148, N148⟩ := own_hide X148 N148
    have st149 : Steps p.tables e below sE (T148.setTop (mkF m 153 #[.val (.int x0), .val (.int x1), .val (.int x2), .val (.int x3), .val (.int x4), .val (.int cap), .val (.int n), .val (.ref b6), .val (.ref b14), .val (.ref b25), .val (.ref b110), .unset, .unset, .unset, .unset, .unset] [(.int (F6 n (F5 (0 : Int32) cap)))])) := st147.trans (sr148 _ (Steps.refl _))
    have hm1 := own_ltr hc139 (z := 1) (by decide)
    have hk0 : (0 : Int32).toInt = 0 := by decide
    have hkp : (F6 n (F5 (0 : Int32) cap)) = (0 : Int32) := own_kp n cap (0 : Int32) (by omega)
    rw [hkp] at st149
    have st150 : Steps p.tables e below sE (T148.setTop (mkF m 157 #[.val (.int x0), .val (.int x1), .val (.int x2), .val (.int x3), .val (.int x4), .val (.int cap), .val (.int n), .val (.ref b6), .val (.ref b14), .val (.ref b25), .val (.ref b110), .val (.int (0 : Int32)), .unset, .unset, .unset, .unset] [(.ref b110)])) := st149.trans (by
        show Steps _ _ _ (T148.setTop (mkF m 153 #[.val (.int x0), .val (.int x1), .val (.int x2), .val (.int x3), .val (.int x4), .val (.int cap), .val (.int n), .val (.ref b6), .val (.ref b14), .val (.ref b25), .val (.ref b110), .unset, .unset, .unset, .unset, .unset] [(.int (0 : Int32))])) _
        refine XS.istore X148.here hx rfl (hb hby at_153) rfl (l' := #[.val (.int x0), .val (.int x1), .val (.int x2), .val (.int x3), .val (.int x4), .val (.int cap), .val (.int n), .val (.ref b6), .val (.ref b14), .val (.ref b25), .val (.ref b110), .val (.int (0 : Int32)), .unset, .unset, .unset, .unset]) rfl ?_
        show Steps _ _ _ (T148.setTop (mkF m 155 #[.val (.int x0), .val (.int x1), .val (.int x2), .val (.int x3), .val (.int x4), .val (.int cap), .val (.int n), .val (.ref b6), .val (.ref b14), .val (.ref b25), .val (.ref b110), .val (.int (0 : Int32)), .unset, .unset, .unset, .unset] [])) _
        refine XS.aload X148.here hx rfl (hb hby at_155) rfl rfl ?_
        exact Steps.refl _)
    obtain ⟨cq151, kq151, q151a, q151b, q151c⟩ := isOf hZ hh148 f125_0
    obtain ⟨_, _, ⟨T151, L151, k151, n151⟩, -, X151, ⟨Lc151, hQ151, l151, y151, z151⟩, sr151⟩ := X148.virtualBack hx (y := (⟨"com/example/tideloop/tideloop/MessagePool", "take", "()Lcom/example/tideloop/tideloop/Message;"⟩ : MethodName)) (z := (⟨"com/example/tideloop/tideloop/MessagePool", "take", "()Lcom/example/tideloop/tideloop/Message;"⟩ : MethodName)) hown (mvT hZ (hw _ (List.mem_of_getElem? (i := 36) rfl))) (mvT hZ (hw _ (List.mem_of_getElem? (i := 37) rfl))) (notFace_of_selects (args := #[]) (mvT hZ (hw _ (List.mem_of_getElem? (i := 39) rfl)))) (mvT hZ (hw _ (List.mem_of_getElem? (i := 39) rfl))) (mvT hZ (hw _ (List.mem_of_getElem? (i := 38) rfl))) (by decide) (backOf (W := 0) (rmtk0 l Z a0 hw [] b110  T125.heap n0 Z136 f125_0 f125_3) hZ (hw _ (List.mem_of_getElem? (i := 40) rfl)) (hw _ (List.mem_of_getElem? (i := 15) rfl)) (by decide) (by decide)) q151a q151c (g := (mkF m 157 #[.val (.int x0), .val (.int x1), .val (.int x2), .val (.int x3), .val (.int x4), .val (.int cap), .val (.int n), .val (.ref b6), .val (.ref b14), .val (.ref b25), .val (.ref b110), .val (.int (0 : Int32)), .unset, .unset, .unset, .unset] [(.ref b110)])) rfl (by rw [hml]; rfl) (Steps.refl _) (argsL := []) (rest := []) (lenOf pd_3 rfl) rfl (by show 2 * 0 + _ ≤ _; exact Nat.le_of_eq rfl) (hb hby at_157) (fun _ _ => ⟨rfl, hh148, (by decide : 4 + 1 ≤ _), (by decide : 60 + 19 ≤ _)⟩)
    dsimp only [Pt.U, Pt.locs, Pt.cells, Pt.slots] at X151 l151 y151 z151 sr151 hQ151
    subst l151 y151 z151
    obtain ⟨rfl, N151q, K151c, ⟨qe151, qn151, qw151⟩⟩ := hQ151
    have N151 := Fr.app N148 N151q
    obtain ⟨LL151, X151, N151⟩ := own_hide X151 N151
    have f152 : Exa Z T151.heap b6 "com/example/tideloop/tideloop/Message" := f126.keep K151c
    have f153 : Exa Z T151.heap b14 "com/example/tideloop/tideloop/Message" := f127.keep K151c
    have f154 : Exa Z T151.heap b25 "com/example/tideloop/tideloop/Message" := f128.keep K151c
    have f155 : Fld Z T151.heap b6 "com/example/tideloop/tideloop/Message" "what" "I" (.int x2) := f129.keep K151c nin0
    have f156 : Fld Z T151.heap b14 "com/example/tideloop/tideloop/Message" "what" "I" (.int x3) := f130.keep K151c nin0
    have f157 : Fld Z T151.heap b25 "com/example/tideloop/tideloop/Message" "what" "I" (.int x4) := f131.keep K151c nin0
    have f158 : Fld Z T151.heap b6 "com/example/tideloop/tideloop/Message" "nextPooled" "Lcom/example/tideloop/tideloop/Message;" (.ref b25) := f132.keep K151c nin0
    have f159 : Fld Z T151.heap b14 "com/example/tideloop/tideloop/Message" "nextPooled" "Lcom/example/tideloop/tideloop/Message;" (.ref b6) := f133.keep K151c nin0
    have f160 : Fld Z T151.heap b25 "com/example/tideloop/tideloop/Message" "nextPooled" "Lcom/example/tideloop/tideloop/Message;" (.ref b14) := f134.keep K151c nin0
    have f161 : Exa Z T151.heap b110 "com/example/tideloop/tideloop/MessagePool" := f125_0.keep K151c
    have f162 : Fld Z T151.heap b110 "com/example/tideloop/tideloop/MessagePool" "capacity" "I" (.int cap) := f125_1.keep K151c nin0
    have f163 : Fld Z T151.heap b110 "com/example/tideloop/tideloop/MessagePool" "size" "I" (.int (0 : Int32)) := f125_2.keep K151c nin0
    have f164 : Fld Z T151.heap b110 "com/example/tideloop/tideloop/MessagePool" "head" "Lcom/example/tideloop/tideloop/Message;" .null := f125_3.keep K151c nin0
    have Z165 : n0 ≤ T151.heap.size := Nat.le_trans Z136 K151c.1
    obtain ⟨bt151, g151⟩ : ∃ z, z = T125.heap.size := ⟨_, rfl⟩
    rw [← g151] at qe151 qn151 qw151 sr151
    have g_bt151 : n0 ≤ bt151 := Nat.le_trans Z136 (Nat.le_of_eq g151.symm)
    have ne_b6_bt151 : b6 ≠ bt151 := Nat.ne_of_lt (Nat.lt_of_lt_of_le f126.lt (Nat.le_of_eq g151.symm))
    have ne_b14_bt151 : b14 ≠ bt151 := Nat.ne_of_lt (Nat.lt_of_lt_of_le f127.lt (Nat.le_of_eq g151.symm))
    have ne_b25_bt151 : b25 ≠ bt151 := Nat.ne_of_lt (Nat.lt_of_lt_of_le f128.lt (Nat.le_of_eq g151.symm))
    have ne_b110_bt151 : b110 ≠ bt151 := Nat.ne_of_lt (Nat.lt_of_lt_of_le f125_0.lt (Nat.le_of_eq g151.symm))
    have st166 : Steps p.tables e below sE (T151.setTop (mkF m 160 #[.val (.int x0), .val (.int x1), .val (.int x2), .val (.int x3), .val (.int x4), .val (.int cap), .val (.int n), .val (.ref b6), .val (.ref b14), .val (.ref b25), .val (.ref b110), .val (.int (0 : Int32)), .unset, .unset, .unset, .unset] [(.ref bt151)])) := st150.trans (sr151)
    have st167 : Steps p.tables e below sE (T151.setTop (mkF m 164 #[.val (.int x0), .val (.int x1), .val (.int x2), .val (.int x3), .val (.int x4), .val (.int cap), .val (.int n), .val (.ref b6), .val (.ref b14), .val (.ref b25), .val (.ref b110), .val (.int (0 : Int32)), .val (.ref bt151), .unset, .unset, .unset] [(.ref b110)])) := st166.trans (by
        show Steps _ _ _ (T151.setTop (mkF m 160 #[.val (.int x0), .val (.int x1), .val (.int x2), .val (.int x3), .val (.int x4), .val (.int cap), .val (.int n), .val (.ref b6), .val (.ref b14), .val (.ref b25), .val (.ref b110), .val (.int (0 : Int32)), .unset, .unset, .unset, .unset] [(.ref bt151)])) _
        refine XS.astore X151.here hx rfl (hb hby at_160) rfl rfl (l' := #[.val (.int x0), .val (.int x1), .val (.int x2), .val (.int x3), .val (.int x4), .val (.int cap), .val (.int n), .val (.ref b6), .val (.ref b14), .val (.ref b25), .val (.ref b110), .val (.int (0 : Int32)), .val (.ref bt151), .unset, .unset, .unset]) rfl ?_
        show Steps _ _ _ (T151.setTop (mkF m 162 #[.val (.int x0), .val (.int x1), .val (.int x2), .val (.int x3), .val (.int x4), .val (.int cap), .val (.int n), .val (.ref b6), .val (.ref b14), .val (.ref b25), .val (.ref b110), .val (.int (0 : Int32)), .val (.ref bt151), .unset, .unset, .unset] [])) _
        refine XS.aload X151.here hx rfl (hb hby at_162) rfl rfl ?_
        exact Steps.refl _)
    obtain ⟨cq168, kq168, q168a, q168b, q168c⟩ := isOf hZ rfl f161
    obtain ⟨_, _, ⟨T168, L168, k168, n168⟩, -, X168, ⟨Lc168, hQ168, l168, y168, z168⟩, sr168⟩ := X151.virtualBack hx (y := (⟨"com/example/tideloop/tideloop/MessagePool", "take", "()Lcom/example/tideloop/tideloop/Message;"⟩ : MethodName)) (z := (⟨"com/example/tideloop/tideloop/MessagePool", "take", "()Lcom/example/tideloop/tideloop/Message;"⟩ : MethodName)) hown (mvT hZ (hw _ (List.mem_of_getElem? (i := 36) rfl))) (mvT hZ (hw _ (List.mem_of_getElem? (i := 37) rfl))) (notFace_of_selects (args := #[]) (mvT hZ (hw _ (List.mem_of_getElem? (i := 39) rfl)))) (mvT hZ (hw _ (List.mem_of_getElem? (i := 39) rfl))) (mvT hZ (hw _ (List.mem_of_getElem? (i := 38) rfl))) (by decide) (backOf (W := 0) (rmtk0 l Z a0 hw [] b110  T151.heap n0 Z165 f161 f164) hZ (hw _ (List.mem_of_getElem? (i := 40) rfl)) (hw _ (List.mem_of_getElem? (i := 15) rfl)) (by decide) (by decide)) q168a q168c (g := (mkF m 164 #[.val (.int x0), .val (.int x1), .val (.int x2), .val (.int x3), .val (.int x4), .val (.int cap), .val (.int n), .val (.ref b6), .val (.ref b14), .val (.ref b25), .val (.ref b110), .val (.int (0 : Int32)), .val (.ref bt151), .unset, .unset, .unset] [(.ref b110)])) rfl (by rw [hml]; rfl) (Steps.refl _) (argsL := []) (rest := []) (lenOf pd_3 rfl) rfl (by show 2 * 0 + _ ≤ _; exact Nat.le_of_eq rfl) (hb hby at_164) (fun _ _ => ⟨rfl, rfl, (by decide : 5 + 1 ≤ _), (by decide : 79 + 19 ≤ _)⟩)
    dsimp only [Pt.U, Pt.locs, Pt.cells, Pt.slots] at X168 l168 y168 z168 sr168 hQ168
    subst l168 y168 z168
    obtain ⟨rfl, N168q, K168c, ⟨qe168, qn168, qw168⟩⟩ := hQ168
    have N168 := Fr.app N151 N168q
    obtain ⟨LL168, X168, N168⟩ := own_hide X168 N168
    have f169 : Exa Z T168.heap b6 "com/example/tideloop/tideloop/Message" := f152.keep K168c
    have f170 : Exa Z T168.heap b14 "com/example/tideloop/tideloop/Message" := f153.keep K168c
    have f171 : Exa Z T168.heap b25 "com/example/tideloop/tideloop/Message" := f154.keep K168c
    have f172 : Fld Z T168.heap b6 "com/example/tideloop/tideloop/Message" "what" "I" (.int x2) := f155.keep K168c nin0
    have f173 : Fld Z T168.heap b14 "com/example/tideloop/tideloop/Message" "what" "I" (.int x3) := f156.keep K168c nin0
    have f174 : Fld Z T168.heap b25 "com/example/tideloop/tideloop/Message" "what" "I" (.int x4) := f157.keep K168c nin0
    have f175 : Fld Z T168.heap b6 "com/example/tideloop/tideloop/Message" "nextPooled" "Lcom/example/tideloop/tideloop/Message;" (.ref b25) := f158.keep K168c nin0
    have f176 : Fld Z T168.heap b14 "com/example/tideloop/tideloop/Message" "nextPooled" "Lcom/example/tideloop/tideloop/Message;" (.ref b6) := f159.keep K168c nin0
    have f177 : Fld Z T168.heap b25 "com/example/tideloop/tideloop/Message" "nextPooled" "Lcom/example/tideloop/tideloop/Message;" (.ref b14) := f160.keep K168c nin0
    have f178 : Exa Z T168.heap b110 "com/example/tideloop/tideloop/MessagePool" := f161.keep K168c
    have f179 : Fld Z T168.heap b110 "com/example/tideloop/tideloop/MessagePool" "capacity" "I" (.int cap) := f162.keep K168c nin0
    have f180 : Fld Z T168.heap b110 "com/example/tideloop/tideloop/MessagePool" "size" "I" (.int (0 : Int32)) := f163.keep K168c nin0
    have f181 : Fld Z T168.heap b110 "com/example/tideloop/tideloop/MessagePool" "head" "Lcom/example/tideloop/tideloop/Message;" .null := f164.keep K168c nin0
    have f182 : Exa Z T168.heap bt151 "com/example/tideloop/tideloop/Message" := qe151.keep K168c
    have f183 : Fld Z T168.heap bt151 "com/example/tideloop/tideloop/Message" "nextPooled" "Lcom/example/tideloop/tideloop/Message;" .null := qn151.keep K168c nin0
    have f184 : Fld Z T168.heap bt151 "com/example/tideloop/tideloop/Message" "what" "I" (.int (0 : Int32)) := qw151.keep K168c nin0
    have Z185 : n0 ≤ T168.heap.size := Nat.le_trans Z165 K168c.1
    obtain ⟨bt168, g168⟩ : ∃ z, z = T151.heap.size := ⟨_, rfl⟩
    rw [← g168] at qe168 qn168 qw168 sr168
    have g_bt168 : n0 ≤ bt168 := Nat.le_trans Z165 (Nat.le_of_eq g168.symm)
    have ne_b6_bt168 : b6 ≠ bt168 := Nat.ne_of_lt (Nat.lt_of_lt_of_le f152.lt (Nat.le_of_eq g168.symm))
    have ne_b14_bt168 : b14 ≠ bt168 := Nat.ne_of_lt (Nat.lt_of_lt_of_le f153.lt (Nat.le_of_eq g168.symm))
    have ne_b25_bt168 : b25 ≠ bt168 := Nat.ne_of_lt (Nat.lt_of_lt_of_le f154.lt (Nat.le_of_eq g168.symm))
    have ne_b110_bt168 : b110 ≠ bt168 := Nat.ne_of_lt (Nat.lt_of_lt_of_le f161.lt (Nat.le_of_eq g168.symm))
    have ne_bt151_bt168 : bt151 ≠ bt168 := Nat.ne_of_lt (Nat.lt_of_lt_of_le qe151.lt (Nat.le_of_eq g168.symm))
    have st186 : Steps p.tables e below sE (T168.setTop (mkF m 167 #[.val (.int x0), .val (.int x1), .val (.int x2), .val (.int x3), .val (.int x4), .val (.int cap), .val (.int n), .val (.ref b6), .val (.ref b14), .val (.ref b25), .val (.ref b110), .val (.int (0 : Int32)), .val (.ref bt151), .unset, .unset, .unset] [(.ref bt168)])) := st167.trans (sr168)
    have st187 : Steps p.tables e below sE (T168.setTop (mkF m 171 #[.val (.int x0), .val (.int x1), .val (.int x2), .val (.int x3), .val (.int x4), .val (.int cap), .val (.int n), .val (.ref b6), .val (.ref b14), .val (.ref b25), .val (.ref b110), .val (.int (0 : Int32)), .val (.ref bt151), .val (.ref bt168), .unset, .unset] [(.ref b110)])) := st186.trans (by
        show Steps _ _ _ (T168.setTop (mkF m 167 #[.val (.int x0), .val (.int x1), .val (.int x2), .val (.int x3), .val (.int x4), .val (.int cap), .val (.int n), .val (.ref b6), .val (.ref b14), .val (.ref b25), .val (.ref b110), .val (.int (0 : Int32)), .val (.ref bt151), .unset, .unset, .unset] [(.ref bt168)])) _
        refine XS.astore X168.here hx rfl (hb hby at_167) rfl rfl (l' := #[.val (.int x0), .val (.int x1), .val (.int x2), .val (.int x3), .val (.int x4), .val (.int cap), .val (.int n), .val (.ref b6), .val (.ref b14), .val (.ref b25), .val (.ref b110), .val (.int (0 : Int32)), .val (.ref bt151), .val (.ref bt168), .unset, .unset]) rfl ?_
        show Steps _ _ _ (T168.setTop (mkF m 169 #[.val (.int x0), .val (.int x1), .val (.int x2), .val (.int x3), .val (.int x4), .val (.int cap), .val (.int n), .val (.ref b6), .val (.ref b14), .val (.ref b25), .val (.ref b110), .val (.int (0 : Int32)), .val (.ref bt151), .val (.ref bt168), .unset, .unset] [])) _
        refine XS.aload X168.here hx rfl (hb hby at_169) rfl rfl ?_
        exact Steps.refl _)
    obtain ⟨cq188, kq188, q188a, q188b, q188c⟩ := isOf hZ rfl f178
    obtain ⟨_, _, ⟨T188, L188, k188, n188⟩, -, X188, ⟨Lc188, hQ188, l188, y188, z188⟩, sr188⟩ := X168.virtualBack hx (y := (⟨"com/example/tideloop/tideloop/MessagePool", "take", "()Lcom/example/tideloop/tideloop/Message;"⟩ : MethodName)) (z := (⟨"com/example/tideloop/tideloop/MessagePool", "take", "()Lcom/example/tideloop/tideloop/Message;"⟩ : MethodName)) hown (mvT hZ (hw _ (List.mem_of_getElem? (i := 36) rfl))) (mvT hZ (hw _ (List.mem_of_getElem? (i := 37) rfl))) (notFace_of_selects (args := #[]) (mvT hZ (hw _ (List.mem_of_getElem? (i := 39) rfl)))) (mvT hZ (hw _ (List.mem_of_getElem? (i := 39) rfl))) (mvT hZ (hw _ (List.mem_of_getElem? (i := 38) rfl))) (by decide) (backOf (W := 0) (rmtk0 l Z a0 hw [] b110  T168.heap n0 Z185 f178 f181) hZ (hw _ (List.mem_of_getElem? (i := 40) rfl)) (hw _ (List.mem_of_getElem? (i := 15) rfl)) (by decide) (by decide)) q188a q188c (g := (mkF m 171 #[.val (.int x0), .val (.int x1), .val (.int x2), .val (.int x3), .val (.int x4), .val (.int cap), .val (.int n), .val (.ref b6), .val (.ref b14), .val (.ref b25), .val (.ref b110), .val (.int (0 : Int32)), .val (.ref bt151), .val (.ref bt168), .unset, .unset] [(.ref b110)])) rfl (by rw [hml]; rfl) (Steps.refl _) (argsL := []) (rest := []) (lenOf pd_3 rfl) rfl (by show 2 * 0 + _ ≤ _; exact Nat.le_of_eq rfl) (hb hby at_171) (fun _ _ => ⟨rfl, rfl, (by decide : 6 + 1 ≤ _), (by decide : 98 + 19 ≤ _)⟩)
    dsimp only [Pt.U, Pt.locs, Pt.cells, Pt.slots] at X188 l188 y188 z188 sr188 hQ188
    subst l188 y188 z188
    obtain ⟨rfl, N188q, K188c, ⟨qe188, qn188, qw188⟩⟩ := hQ188
    have N188 := Fr.app N168 N188q
    obtain ⟨LL188, X188, N188⟩ := own_hide X188 N188
    have f189 : Exa Z T188.heap b6 "com/example/tideloop/tideloop/Message" := f169.keep K188c
    have f190 : Exa Z T188.heap b14 "com/example/tideloop/tideloop/Message" := f170.keep K188c
    have f191 : Exa Z T188.heap b25 "com/example/tideloop/tideloop/Message" := f171.keep K188c
    have f192 : Fld Z T188.heap b6 "com/example/tideloop/tideloop/Message" "what" "I" (.int x2) := f172.keep K188c nin0
    have f193 : Fld Z T188.heap b14 "com/example/tideloop/tideloop/Message" "what" "I" (.int x3) := f173.keep K188c nin0
    have f194 : Fld Z T188.heap b25 "com/example/tideloop/tideloop/Message" "what" "I" (.int x4) := f174.keep K188c nin0
    have f195 : Fld Z T188.heap b6 "com/example/tideloop/tideloop/Message" "nextPooled" "Lcom/example/tideloop/tideloop/Message;" (.ref b25) := f175.keep K188c nin0
    have f196 : Fld Z T188.heap b14 "com/example/tideloop/tideloop/Message" "nextPooled" "Lcom/example/tideloop/tideloop/Message;" (.ref b6) := f176.keep K188c nin0
    have f197 : Fld Z T188.heap b25 "com/example/tideloop/tideloop/Message" "nextPooled" "Lcom/example/tideloop/tideloop/Message;" (.ref b14) := f177.keep K188c nin0
    have f198 : Exa Z T188.heap b110 "com/example/tideloop/tideloop/MessagePool" := f178.keep K188c
    have f199 : Fld Z T188.heap b110 "com/example/tideloop/tideloop/MessagePool" "capacity" "I" (.int cap) := f179.keep K188c nin0
    have f200 : Fld Z T188.heap b110 "com/example/tideloop/tideloop/MessagePool" "size" "I" (.int (0 : Int32)) := f180.keep K188c nin0
    have f201 : Fld Z T188.heap b110 "com/example/tideloop/tideloop/MessagePool" "head" "Lcom/example/tideloop/tideloop/Message;" .null := f181.keep K188c nin0
    have f202 : Exa Z T188.heap bt151 "com/example/tideloop/tideloop/Message" := f182.keep K188c
    have f203 : Fld Z T188.heap bt151 "com/example/tideloop/tideloop/Message" "nextPooled" "Lcom/example/tideloop/tideloop/Message;" .null := f183.keep K188c nin0
    have f204 : Fld Z T188.heap bt151 "com/example/tideloop/tideloop/Message" "what" "I" (.int (0 : Int32)) := f184.keep K188c nin0
    have f205 : Exa Z T188.heap bt168 "com/example/tideloop/tideloop/Message" := qe168.keep K188c
    have f206 : Fld Z T188.heap bt168 "com/example/tideloop/tideloop/Message" "nextPooled" "Lcom/example/tideloop/tideloop/Message;" .null := qn168.keep K188c nin0
    have f207 : Fld Z T188.heap bt168 "com/example/tideloop/tideloop/Message" "what" "I" (.int (0 : Int32)) := qw168.keep K188c nin0
    have Z208 : n0 ≤ T188.heap.size := Nat.le_trans Z185 K188c.1
    obtain ⟨bt188, g188⟩ : ∃ z, z = T168.heap.size := ⟨_, rfl⟩
    rw [← g188] at qe188 qn188 qw188 sr188
    have g_bt188 : n0 ≤ bt188 := Nat.le_trans Z185 (Nat.le_of_eq g188.symm)
    have ne_b6_bt188 : b6 ≠ bt188 := Nat.ne_of_lt (Nat.lt_of_lt_of_le f169.lt (Nat.le_of_eq g188.symm))
    have ne_b14_bt188 : b14 ≠ bt188 := Nat.ne_of_lt (Nat.lt_of_lt_of_le f170.lt (Nat.le_of_eq g188.symm))
    have ne_b25_bt188 : b25 ≠ bt188 := Nat.ne_of_lt (Nat.lt_of_lt_of_le f171.lt (Nat.le_of_eq g188.symm))
    have ne_b110_bt188 : b110 ≠ bt188 := Nat.ne_of_lt (Nat.lt_of_lt_of_le f178.lt (Nat.le_of_eq g188.symm))
    have ne_bt151_bt188 : bt151 ≠ bt188 := Nat.ne_of_lt (Nat.lt_of_lt_of_le f182.lt (Nat.le_of_eq g188.symm))
    have ne_bt168_bt188 : bt168 ≠ bt188 := Nat.ne_of_lt (Nat.lt_of_lt_of_le qe168.lt (Nat.le_of_eq g188.symm))
    have st209 : Steps p.tables e below sE (T188.setTop (mkF m 174 #[.val (.int x0), .val (.int x1), .val (.int x2), .val (.int x3), .val (.int x4), .val (.int cap), .val (.int n), .val (.ref b6), .val (.ref b14), .val (.ref b25), .val (.ref b110), .val (.int (0 : Int32)), .val (.ref bt151), .val (.ref bt168), .unset, .unset] [(.ref bt188)])) := st187.trans (sr188)
    have st210 : Steps p.tables e below sE (T188.setTop (mkF m 178 #[.val (.int x0), .val (.int x1), .val (.int x2), .val (.int x3), .val (.int x4), .val (.int cap), .val (.int n), .val (.ref b6), .val (.ref b14), .val (.ref b25), .val (.ref b110), .val (.int (0 : Int32)), .val (.ref bt151), .val (.ref bt168), .val (.ref bt188), .unset] [(.ref b110)])) := st209.trans (by
        show Steps _ _ _ (T188.setTop (mkF m 174 #[.val (.int x0), .val (.int x1), .val (.int x2), .val (.int x3), .val (.int x4), .val (.int cap), .val (.int n), .val (.ref b6), .val (.ref b14), .val (.ref b25), .val (.ref b110), .val (.int (0 : Int32)), .val (.ref bt151), .val (.ref bt168), .unset, .unset] [(.ref bt188)])) _
        refine XS.astore X188.here hx rfl (hb hby at_174) rfl rfl (l' := #[.val (.int x0), .val (.int x1), .val (.int x2), .val (.int x3), .val (.int x4), .val (.int cap), .val (.int n), .val (.ref b6), .val (.ref b14), .val (.ref b25), .val (.ref b110), .val (.int (0 : Int32)), .val (.ref bt151), .val (.ref bt168), .val (.ref bt188), .unset]) rfl ?_
        show Steps _ _ _ (T188.setTop (mkF m 176 #[.val (.int x0), .val (.int x1), .val (.int x2), .val (.int x3), .val (.int x4), .val (.int cap), .val (.int n), .val (.ref b6), .val (.ref b14), .val (.ref b25), .val (.ref b110), .val (.int (0 : Int32)), .val (.ref bt151), .val (.ref bt168), .val (.ref bt188), .unset] [])) _
        refine XS.aload X188.here hx rfl (hb hby at_176) rfl rfl ?_
        exact Steps.refl _)
    obtain ⟨cq211, kq211, q211a, q211b, q211c⟩ := isOf hZ rfl f198
    obtain ⟨_, _, ⟨T211, L211, k211, n211⟩, -, X211, ⟨Lc211, hQ211, l211, y211, z211⟩, sr211⟩ := X188.virtualBack hx (y := (⟨"com/example/tideloop/tideloop/MessagePool", "take", "()Lcom/example/tideloop/tideloop/Message;"⟩ : MethodName)) (z := (⟨"com/example/tideloop/tideloop/MessagePool", "take", "()Lcom/example/tideloop/tideloop/Message;"⟩ : MethodName)) hown (mvT hZ (hw _ (List.mem_of_getElem? (i := 36) rfl))) (mvT hZ (hw _ (List.mem_of_getElem? (i := 37) rfl))) (notFace_of_selects (args := #[]) (mvT hZ (hw _ (List.mem_of_getElem? (i := 39) rfl)))) (mvT hZ (hw _ (List.mem_of_getElem? (i := 39) rfl))) (mvT hZ (hw _ (List.mem_of_getElem? (i := 38) rfl))) (by decide) (backOf (W := 0) (rmtk0 l Z a0 hw [] b110  T188.heap n0 Z208 f198 f201) hZ (hw _ (List.mem_of_getElem? (i := 40) rfl)) (hw _ (List.mem_of_getElem? (i := 15) rfl)) (by decide) (by decide)) q211a q211c (g := (mkF m 178 #[.val (.int x0), .val (.int x1), .val (.int x2), .val (.int x3), .val (.int x4), .val (.int cap), .val (.int n), .val (.ref b6), .val (.ref b14), .val (.ref b25), .val (.ref b110), .val (.int (0 : Int32)), .val (.ref bt151), .val (.ref bt168), .val (.ref bt188), .unset] [(.ref b110)])) rfl (by rw [hml]; rfl) (Steps.refl _) (argsL := []) (rest := []) (lenOf pd_3 rfl) rfl (by show 2 * 0 + _ ≤ _; exact Nat.le_of_eq rfl) (hb hby at_178) (fun _ _ => ⟨rfl, rfl, (by decide : 7 + 1 ≤ _), (by decide : 117 + 19 ≤ _)⟩)
    dsimp only [Pt.U, Pt.locs, Pt.cells, Pt.slots] at X211 l211 y211 z211 sr211 hQ211
    subst l211 y211 z211
    obtain ⟨rfl, N211q, K211c, ⟨qe211, qn211, qw211⟩⟩ := hQ211
    have N211 := Fr.app N188 N211q
    obtain ⟨LL211, X211, N211⟩ := own_hide X211 N211
    have f212 : Exa Z T211.heap b6 "com/example/tideloop/tideloop/Message" := f189.keep K211c
    have f213 : Exa Z T211.heap b14 "com/example/tideloop/tideloop/Message" := f190.keep K211c
    have f214 : Exa Z T211.heap b25 "com/example/tideloop/tideloop/Message" := f191.keep K211c
    have f215 : Fld Z T211.heap b6 "com/example/tideloop/tideloop/Message" "what" "I" (.int x2) := f192.keep K211c nin0
    have f216 : Fld Z T211.heap b14 "com/example/tideloop/tideloop/Message" "what" "I" (.int x3) := f193.keep K211c nin0
    have f217 : Fld Z T211.heap b25 "com/example/tideloop/tideloop/Message" "what" "I" (.int x4) := f194.keep K211c nin0
    have f218 : Fld Z T211.heap b6 "com/example/tideloop/tideloop/Message" "nextPooled" "Lcom/example/tideloop/tideloop/Message;" (.ref b25) := f195.keep K211c nin0
    have f219 : Fld Z T211.heap b14 "com/example/tideloop/tideloop/Message" "nextPooled" "Lcom/example/tideloop/tideloop/Message;" (.ref b6) := f196.keep K211c nin0
    have f220 : Fld Z T211.heap b25 "com/example/tideloop/tideloop/Message" "nextPooled" "Lcom/example/tideloop/tideloop/Message;" (.ref b14) := f197.keep K211c nin0
    have f221 : Exa Z T211.heap b110 "com/example/tideloop/tideloop/MessagePool" := f198.keep K211c
    have f222 : Fld Z T211.heap b110 "com/example/tideloop/tideloop/MessagePool" "capacity" "I" (.int cap) := f199.keep K211c nin0
    have f223 : Fld Z T211.heap b110 "com/example/tideloop/tideloop/MessagePool" "size" "I" (.int (0 : Int32)) := f200.keep K211c nin0
    have f224 : Fld Z T211.heap b110 "com/example/tideloop/tideloop/MessagePool" "head" "Lcom/example/tideloop/tideloop/Message;" .null := f201.keep K211c nin0
    have f225 : Exa Z T211.heap bt151 "com/example/tideloop/tideloop/Message" := f202.keep K211c
    have f226 : Fld Z T211.heap bt151 "com/example/tideloop/tideloop/Message" "nextPooled" "Lcom/example/tideloop/tideloop/Message;" .null := f203.keep K211c nin0
    have f227 : Fld Z T211.heap bt151 "com/example/tideloop/tideloop/Message" "what" "I" (.int (0 : Int32)) := f204.keep K211c nin0
    have f228 : Exa Z T211.heap bt168 "com/example/tideloop/tideloop/Message" := f205.keep K211c
    have f229 : Fld Z T211.heap bt168 "com/example/tideloop/tideloop/Message" "nextPooled" "Lcom/example/tideloop/tideloop/Message;" .null := f206.keep K211c nin0
    have f230 : Fld Z T211.heap bt168 "com/example/tideloop/tideloop/Message" "what" "I" (.int (0 : Int32)) := f207.keep K211c nin0
    have f231 : Exa Z T211.heap bt188 "com/example/tideloop/tideloop/Message" := qe188.keep K211c
    have f232 : Fld Z T211.heap bt188 "com/example/tideloop/tideloop/Message" "nextPooled" "Lcom/example/tideloop/tideloop/Message;" .null := qn188.keep K211c nin0
    have f233 : Fld Z T211.heap bt188 "com/example/tideloop/tideloop/Message" "what" "I" (.int (0 : Int32)) := qw188.keep K211c nin0
    have Z234 : n0 ≤ T211.heap.size := Nat.le_trans Z208 K211c.1
    obtain ⟨bt211, g211⟩ : ∃ z, z = T188.heap.size := ⟨_, rfl⟩
    rw [← g211] at qe211 qn211 qw211 sr211
    have g_bt211 : n0 ≤ bt211 := Nat.le_trans Z208 (Nat.le_of_eq g211.symm)
    have ne_b6_bt211 : b6 ≠ bt211 := Nat.ne_of_lt (Nat.lt_of_lt_of_le f189.lt (Nat.le_of_eq g211.symm))
    have ne_b14_bt211 : b14 ≠ bt211 := Nat.ne_of_lt (Nat.lt_of_lt_of_le f190.lt (Nat.le_of_eq g211.symm))
    have ne_b25_bt211 : b25 ≠ bt211 := Nat.ne_of_lt (Nat.lt_of_lt_of_le f191.lt (Nat.le_of_eq g211.symm))
    have ne_b110_bt211 : b110 ≠ bt211 := Nat.ne_of_lt (Nat.lt_of_lt_of_le f198.lt (Nat.le_of_eq g211.symm))
    have ne_bt151_bt211 : bt151 ≠ bt211 := Nat.ne_of_lt (Nat.lt_of_lt_of_le f202.lt (Nat.le_of_eq g211.symm))
    have ne_bt168_bt211 : bt168 ≠ bt211 := Nat.ne_of_lt (Nat.lt_of_lt_of_le f205.lt (Nat.le_of_eq g211.symm))
    have ne_bt188_bt211 : bt188 ≠ bt211 := Nat.ne_of_lt (Nat.lt_of_lt_of_le qe188.lt (Nat.le_of_eq g211.symm))
    have st235 : Steps p.tables e below sE (T211.setTop (mkF m 181 #[.val (.int x0), .val (.int x1), .val (.int x2), .val (.int x3), .val (.int x4), .val (.int cap), .val (.int n), .val (.ref b6), .val (.ref b14), .val (.ref b25), .val (.ref b110), .val (.int (0 : Int32)), .val (.ref bt151), .val (.ref bt168), .val (.ref bt188), .unset] [(.ref bt211)])) := st210.trans (sr211)
    have st236 : Steps p.tables e below sE (T211.setTop (mkF m 198 #[.val (.int x0), .val (.int x1), .val (.int x2), .val (.int x3), .val (.int x4), .val (.int cap), .val (.int n), .val (.ref b6), .val (.ref b14), .val (.ref b25), .val (.ref b110), .val (.int (0 : Int32)), .val (.ref bt151), .val (.ref bt168), .val (.ref bt188), .val (.ref bt211)] [(.int x4), (.int x3), (.int x2), (.ref b25), (.ref b14), (.ref b6), (.int (0 : Int32)), (.int (1 : Int32)), (.ref bt151)])) := st235.trans (by
        show Steps _ _ _ (T211.setTop (mkF m 181 #[.val (.int x0), .val (.int x1), .val (.int x2), .val (.int x3), .val (.int x4), .val (.int cap), .val (.int n), .val (.ref b6), .val (.ref b14), .val (.ref b25), .val (.ref b110), .val (.int (0 : Int32)), .val (.ref bt151), .val (.ref bt168), .val (.ref bt188), .unset] [(.ref bt211)])) _
        refine XS.astore X211.here hx rfl (hb hby at_181) rfl rfl (l' := #[.val (.int x0), .val (.int x1), .val (.int x2), .val (.int x3), .val (.int x4), .val (.int cap), .val (.int n), .val (.ref b6), .val (.ref b14), .val (.ref b25), .val (.ref b110), .val (.int (0 : Int32)), .val (.ref bt151), .val (.ref bt168), .val (.ref bt188), .val (.ref bt211)]) rfl ?_
        show Steps _ _ _ (T211.setTop (mkF m 183 #[.val (.int x0), .val (.int x1), .val (.int x2), .val (.int x3), .val (.int x4), .val (.int cap), .val (.int n), .val (.ref b6), .val (.ref b14), .val (.ref b25), .val (.ref b110), .val (.int (0 : Int32)), .val (.ref bt151), .val (.ref bt168), .val (.ref bt188), .val (.ref bt211)] [])) _
        refine XS.aload X211.here hx rfl (hb hby at_183) rfl rfl ?_
        show Steps _ _ _ (T211.setTop (mkF m 185 #[.val (.int x0), .val (.int x1), .val (.int x2), .val (.int x3), .val (.int x4), .val (.int cap), .val (.int n), .val (.ref b6), .val (.ref b14), .val (.ref b25), .val (.ref b110), .val (.int (0 : Int32)), .val (.ref bt151), .val (.ref bt168), .val (.ref bt188), .val (.ref bt211)] [(.ref bt151)])) _
        refine XS.iconst X211.here hx rfl (hb hby at_185) ?_
        show Steps _ _ _ (T211.setTop (mkF m 186 #[.val (.int x0), .val (.int x1), .val (.int x2), .val (.int x3), .val (.int x4), .val (.int cap), .val (.int n), .val (.ref b6), .val (.ref b14), .val (.ref b25), .val (.ref b110), .val (.int (0 : Int32)), .val (.ref bt151), .val (.ref bt168), .val (.ref bt188), .val (.ref bt211)] [(.int (1 : Int32)), (.ref bt151)])) _
        refine XS.iload X211.here hx rfl (hb hby at_186) rfl ?_
        show Steps _ _ _ (T211.setTop (mkF m 188 #[.val (.int x0), .val (.int x1), .val (.int x2), .val (.int x3), .val (.int x4), .val (.int cap), .val (.int n), .val (.ref b6), .val (.ref b14), .val (.ref b25), .val (.ref b110), .val (.int (0 : Int32)), .val (.ref bt151), .val (.ref bt168), .val (.ref bt188), .val (.ref bt211)] [(.int (0 : Int32)), (.int (1 : Int32)), (.ref bt151)])) _
        refine XS.aload X211.here hx rfl (hb hby at_188) rfl rfl ?_
        show Steps _ _ _ (T211.setTop (mkF m 190 #[.val (.int x0), .val (.int x1), .val (.int x2), .val (.int x3), .val (.int x4), .val (.int cap), .val (.int n), .val (.ref b6), .val (.ref b14), .val (.ref b25), .val (.ref b110), .val (.int (0 : Int32)), .val (.ref bt151), .val (.ref bt168), .val (.ref bt188), .val (.ref bt211)] [(.ref b6), (.int (0 : Int32)), (.int (1 : Int32)), (.ref bt151)])) _
        refine XS.aload X211.here hx rfl (hb hby at_190) rfl rfl ?_
        show Steps _ _ _ (T211.setTop (mkF m 192 #[.val (.int x0), .val (.int x1), .val (.int x2), .val (.int x3), .val (.int x4), .val (.int cap), .val (.int n), .val (.ref b6), .val (.ref b14), .val (.ref b25), .val (.ref b110), .val (.int (0 : Int32)), .val (.ref bt151), .val (.ref bt168), .val (.ref bt188), .val (.ref bt211)] [(.ref b14), (.ref b6), (.int (0 : Int32)), (.int (1 : Int32)), (.ref bt151)])) _
        refine XS.aload X211.here hx rfl (hb hby at_192) rfl rfl ?_
        show Steps _ _ _ (T211.setTop (mkF m 194 #[.val (.int x0), .val (.int x1), .val (.int x2), .val (.int x3), .val (.int x4), .val (.int cap), .val (.int n), .val (.ref b6), .val (.ref b14), .val (.ref b25), .val (.ref b110), .val (.int (0 : Int32)), .val (.ref bt151), .val (.ref bt168), .val (.ref bt188), .val (.ref bt211)] [(.ref b25), (.ref b14), (.ref b6), (.int (0 : Int32)), (.int (1 : Int32)), (.ref bt151)])) _
        refine XS.iloadN X211.here hx rfl (hb hby at_194) rfl ?_
        show Steps _ _ _ (T211.setTop (mkF m 195 #[.val (.int x0), .val (.int x1), .val (.int x2), .val (.int x3), .val (.int x4), .val (.int cap), .val (.int n), .val (.ref b6), .val (.ref b14), .val (.ref b25), .val (.ref b110), .val (.int (0 : Int32)), .val (.ref bt151), .val (.ref bt168), .val (.ref bt188), .val (.ref bt211)] [(.int x2), (.ref b25), (.ref b14), (.ref b6), (.int (0 : Int32)), (.int (1 : Int32)), (.ref bt151)])) _
        refine XS.iloadN X211.here hx rfl (hb hby at_195) rfl ?_
        show Steps _ _ _ (T211.setTop (mkF m 196 #[.val (.int x0), .val (.int x1), .val (.int x2), .val (.int x3), .val (.int x4), .val (.int cap), .val (.int n), .val (.ref b6), .val (.ref b14), .val (.ref b25), .val (.ref b110), .val (.int (0 : Int32)), .val (.ref bt151), .val (.ref bt168), .val (.ref bt188), .val (.ref bt211)] [(.int x3), (.int x2), (.ref b25), (.ref b14), (.ref b6), (.int (0 : Int32)), (.int (1 : Int32)), (.ref bt151)])) _
        refine XS.iload X211.here hx rfl (hb hby at_196) rfl ?_
        exact Steps.refl _)
    obtain ⟨_, _, ⟨T237, L237, k237, n237⟩, -, X237, ⟨Lc237, hQ237, l237, y237, z237⟩, sr237⟩ := Jvm.LawKit.callS X211 hx (y := (⟨"com/example/tideloop/tideloop/MessagePoolKeepPinLaw", "check", "(Lcom/example/tideloop/tideloop/Message;IILcom/example/tideloop/tideloop/Message;Lcom/example/tideloop/tideloop/Message;Lcom/example/tideloop/tideloop/Message;III)Z"⟩ : MethodName)) hown (mvT hZ (hw _ (List.mem_of_getElem? (i := 45) rfl))) (mvT hZ (hw _ (List.mem_of_getElem? (i := 46) rfl))) (mvT hZ (hw _ (List.mem_of_getElem? (i := 47) rfl))) (mvT hZ (hw _ (List.mem_of_getElem? (i := 48) rfl))) (by decide) (backOf (W := 0) (rm8 l Z a0 hw [] bt151 (1 : Int32) (0 : Int32) b6 b14 b25 x2 x3 x4 (0 : Int32) T211.heap n0 Z234 f226 f227) hZ (hw _ (List.mem_of_getElem? (i := 48) rfl)) (hw _ (List.mem_of_getElem? (i := 47) rfl)) (by decide) (by decide)) (g := (mkF m 198 #[.val (.int x0), .val (.int x1), .val (.int x2), .val (.int x3), .val (.int x4), .val (.int cap), .val (.int n), .val (.ref b6), .val (.ref b14), .val (.ref b25), .val (.ref b110), .val (.int (0 : Int32)), .val (.ref bt151), .val (.ref bt168), .val (.ref bt188), .val (.ref bt211)] [(.int x4), (.int x3), (.int x2), (.ref b25), (.ref b14), (.ref b6), (.int (0 : Int32)), (.int (1 : Int32)), (.ref bt151)])) rfl (by rw [hml]; rfl) (argsL := [(.ref bt151), (.int (1 : Int32)), (.int (0 : Int32)), (.ref b6), (.ref b14), (.ref b25), (.int x2), (.int x3), (.int x4)]) (rest := []) (lenOf pd_4 rfl) rfl (by show 2 * 0 + _ ≤ _; exact Nat.le_of_eq rfl) (hb hby at_198) (fun _ _ => ⟨rfl, rfl, (by decide : 8 + 0 ≤ _), (by decide : 136 + 0 ≤ _)⟩)
    dsimp only [Pt.U, Pt.locs, Pt.cells, Pt.slots] at X237 l237 y237 z237 sr237 hQ237
    subst l237 y237 z237
    obtain ⟨rfl, N237q, hh237⟩ := hQ237
    have N237 := Fr.app N211 N237q
    obtain ⟨LL237, X237, N237⟩ := own_hide X237 N237
    have st238 : Steps p.tables e below sE (T237.setTop (mkF m 201 #[.val (.int x0), .val (.int x1), .val (.int x2), .val (.int x3), .val (.int x4), .val (.int cap), .val (.int n), .val (.ref b6), .val (.ref b14), .val (.ref b25), .val (.ref b110), .val (.int (0 : Int32)), .val (.ref bt151), .val (.ref bt168), .val (.ref bt188), .val (.ref bt211)] [(.int (F8 bt151 (1 : Int32) (0 : Int32) b6 b14 b25 x2 x3 x4 (0 : Int32)))])) := st236.trans (sr237 _ (Steps.refl _))
    have hf239 : ¬ ((F8 bt151 (1 : Int32) (0 : Int32) b6 b14 b25 x2 x3 x4 (0 : Int32)) = (0 : Int32)) := by simp +decide [F8, (Ne.symm ne_b6_bt151), (Ne.symm ne_b14_bt151), (Ne.symm ne_b25_bt151)]
    have st240 : Steps p.tables e below sE (T237.setTop (mkF m 219 #[.val (.int x0), .val (.int x1), .val (.int x2), .val (.int x3), .val (.int x4), .val (.int cap), .val (.int n), .val (.ref b6), .val (.ref b14), .val (.ref b25), .val (.ref b110), .val (.int (0 : Int32)), .val (.ref bt151), .val (.ref bt168), .val (.ref bt188), .val (.ref bt211)] [(.int x4), (.int x3), (.int x2), (.ref b25), (.ref b14), (.ref b6), (.int (0 : Int32)), (.int (2 : Int32)), (.ref bt168)])) := st238.trans (by
        show Steps _ _ _ (T237.setTop (mkF m 201 #[.val (.int x0), .val (.int x1), .val (.int x2), .val (.int x3), .val (.int x4), .val (.int cap), .val (.int n), .val (.ref b6), .val (.ref b14), .val (.ref b25), .val (.ref b110), .val (.int (0 : Int32)), .val (.ref bt151), .val (.ref bt168), .val (.ref bt188), .val (.ref bt211)] [(.int (F8 bt151 (1 : Int32) (0 : Int32) b6 b14 b25 x2 x3 x4 (0 : Int32)))])) _
        refine XS.ifNo X237.here hx rfl (hb hby at_201) rfl ((if0 _ _).trans (feq hf239).1) ?_
        show Steps _ _ _ (T237.setTop (mkF m 204 #[.val (.int x0), .val (.int x1), .val (.int x2), .val (.int x3), .val (.int x4), .val (.int cap), .val (.int n), .val (.ref b6), .val (.ref b14), .val (.ref b25), .val (.ref b110), .val (.int (0 : Int32)), .val (.ref bt151), .val (.ref bt168), .val (.ref bt188), .val (.ref bt211)] [])) _
        refine XS.aload X237.here hx rfl (hb hby at_204) rfl rfl ?_
        show Steps _ _ _ (T237.setTop (mkF m 206 #[.val (.int x0), .val (.int x1), .val (.int x2), .val (.int x3), .val (.int x4), .val (.int cap), .val (.int n), .val (.ref b6), .val (.ref b14), .val (.ref b25), .val (.ref b110), .val (.int (0 : Int32)), .val (.ref bt151), .val (.ref bt168), .val (.ref bt188), .val (.ref bt211)] [(.ref bt168)])) _
        refine XS.iconst X237.here hx rfl (hb hby at_206) ?_
        show Steps _ _ _ (T237.setTop (mkF m 207 #[.val (.int x0), .val (.int x1), .val (.int x2), .val (.int x3), .val (.int x4), .val (.int cap), .val (.int n), .val (.ref b6), .val (.ref b14), .val (.ref b25), .val (.ref b110), .val (.int (0 : Int32)), .val (.ref bt151), .val (.ref bt168), .val (.ref bt188), .val (.ref bt211)] [(.int (2 : Int32)), (.ref bt168)])) _
        refine XS.iload X237.here hx rfl (hb hby at_207) rfl ?_
        show Steps _ _ _ (T237.setTop (mkF m 209 #[.val (.int x0), .val (.int x1), .val (.int x2), .val (.int x3), .val (.int x4), .val (.int cap), .val (.int n), .val (.ref b6), .val (.ref b14), .val (.ref b25), .val (.ref b110), .val (.int (0 : Int32)), .val (.ref bt151), .val (.ref bt168), .val (.ref bt188), .val (.ref bt211)] [(.int (0 : Int32)), (.int (2 : Int32)), (.ref bt168)])) _
        refine XS.aload X237.here hx rfl (hb hby at_209) rfl rfl ?_
        show Steps _ _ _ (T237.setTop (mkF m 211 #[.val (.int x0), .val (.int x1), .val (.int x2), .val (.int x3), .val (.int x4), .val (.int cap), .val (.int n), .val (.ref b6), .val (.ref b14), .val (.ref b25), .val (.ref b110), .val (.int (0 : Int32)), .val (.ref bt151), .val (.ref bt168), .val (.ref bt188), .val (.ref bt211)] [(.ref b6), (.int (0 : Int32)), (.int (2 : Int32)), (.ref bt168)])) _
        refine XS.aload X237.here hx rfl (hb hby at_211) rfl rfl ?_
        show Steps _ _ _ (T237.setTop (mkF m 213 #[.val (.int x0), .val (.int x1), .val (.int x2), .val (.int x3), .val (.int x4), .val (.int cap), .val (.int n), .val (.ref b6), .val (.ref b14), .val (.ref b25), .val (.ref b110), .val (.int (0 : Int32)), .val (.ref bt151), .val (.ref bt168), .val (.ref bt188), .val (.ref bt211)] [(.ref b14), (.ref b6), (.int (0 : Int32)), (.int (2 : Int32)), (.ref bt168)])) _
        refine XS.aload X237.here hx rfl (hb hby at_213) rfl rfl ?_
        show Steps _ _ _ (T237.setTop (mkF m 215 #[.val (.int x0), .val (.int x1), .val (.int x2), .val (.int x3), .val (.int x4), .val (.int cap), .val (.int n), .val (.ref b6), .val (.ref b14), .val (.ref b25), .val (.ref b110), .val (.int (0 : Int32)), .val (.ref bt151), .val (.ref bt168), .val (.ref bt188), .val (.ref bt211)] [(.ref b25), (.ref b14), (.ref b6), (.int (0 : Int32)), (.int (2 : Int32)), (.ref bt168)])) _
        refine XS.iloadN X237.here hx rfl (hb hby at_215) rfl ?_
        show Steps _ _ _ (T237.setTop (mkF m 216 #[.val (.int x0), .val (.int x1), .val (.int x2), .val (.int x3), .val (.int x4), .val (.int cap), .val (.int n), .val (.ref b6), .val (.ref b14), .val (.ref b25), .val (.ref b110), .val (.int (0 : Int32)), .val (.ref bt151), .val (.ref bt168), .val (.ref bt188), .val (.ref bt211)] [(.int x2), (.ref b25), (.ref b14), (.ref b6), (.int (0 : Int32)), (.int (2 : Int32)), (.ref bt168)])) _
        refine XS.iloadN X237.here hx rfl (hb hby at_216) rfl ?_
        show Steps _ _ _ (T237.setTop (mkF m 217 #[.val (.int x0), .val (.int x1), .val (.int x2), .val (.int x3), .val (.int x4), .val (.int cap), .val (.int n), .val (.ref b6), .val (.ref b14), .val (.ref b25), .val (.ref b110), .val (.int (0 : Int32)), .val (.ref bt151), .val (.ref bt168), .val (.ref bt188), .val (.ref bt211)] [(.int x3), (.int x2), (.ref b25), (.ref b14), (.ref b6), (.int (0 : Int32)), (.int (2 : Int32)), (.ref bt168)])) _
        refine XS.iload X237.here hx rfl (hb hby at_217) rfl ?_
        exact Steps.refl _)
    obtain ⟨_, _, ⟨T241, L241, k241, n241⟩, -, X241, ⟨Lc241, hQ241, l241, y241, z241⟩, sr241⟩ := Jvm.LawKit.callS X237 hx (y := (⟨"com/example/tideloop/tideloop/MessagePoolKeepPinLaw", "check", "(Lcom/example/tideloop/tideloop/Message;IILcom/example/tideloop/tideloop/Message;Lcom/example/tideloop/tideloop/Message;Lcom/example/tideloop/tideloop/Message;III)Z"⟩ : MethodName)) hown (mvT hZ (hw _ (List.mem_of_getElem? (i := 45) rfl))) (mvT hZ (hw _ (List.mem_of_getElem? (i := 46) rfl))) (mvT hZ (hw _ (List.mem_of_getElem? (i := 47) rfl))) (mvT hZ (hw _ (List.mem_of_getElem? (i := 48) rfl))) (by decide) (backOf (W := 0) (rm8 l Z a0 hw [] bt168 (2 : Int32) (0 : Int32) b6 b14 b25 x2 x3 x4 (0 : Int32) T211.heap n0 Z234 f229 f230) hZ (hw _ (List.mem_of_getElem? (i := 48) rfl)) (hw _ (List.mem_of_getElem? (i := 47) rfl)) (by decide) (by decide)) (g := (mkF m 219 #[.val (.int x0), .val (.int x1), .val (.int x2), .val (.int x3), .val (.int x4), .val (.int cap), .val (.int n), .val (.ref b6), .val (.ref b14), .val (.ref b25), .val (.ref b110), .val (.int (0 : Int32)), .val (.ref bt151), .val (.ref bt168), .val (.ref bt188), .val (.ref bt211)] [(.int x4), (.int x3), (.int x2), (.ref b25), (.ref b14), (.ref b6), (.int (0 : Int32)), (.int (2 : Int32)), (.ref bt168)])) rfl (by rw [hml]; rfl) (argsL := [(.ref bt168), (.int (2 : Int32)), (.int (0 : Int32)), (.ref b6), (.ref b14), (.ref b25), (.int x2), (.int x3), (.int x4)]) (rest := []) (lenOf pd_4 rfl) rfl (by show 2 * 0 + _ ≤ _; exact Nat.le_of_eq rfl) (hb hby at_219) (fun _ _ => ⟨rfl, hh237, (by decide : 8 + 0 ≤ _), (by decide : 136 + 0 ≤ _)⟩)
    dsimp only [Pt.U, Pt.locs, Pt.cells, Pt.slots] at X241 l241 y241 z241 sr241 hQ241
    subst l241 y241 z241
    obtain ⟨rfl, N241q, hh241⟩ := hQ241
    have N241 := Fr.app N237 N241q
    obtain ⟨LL241, X241, N241⟩ := own_hide X241 N241
    have st242 : Steps p.tables e below sE (T241.setTop (mkF m 222 #[.val (.int x0), .val (.int x1), .val (.int x2), .val (.int x3), .val (.int x4), .val (.int cap), .val (.int n), .val (.ref b6), .val (.ref b14), .val (.ref b25), .val (.ref b110), .val (.int (0 : Int32)), .val (.ref bt151), .val (.ref bt168), .val (.ref bt188), .val (.ref bt211)] [(.int (F8 bt168 (2 : Int32) (0 : Int32) b6 b14 b25 x2 x3 x4 (0 : Int32)))])) := st240.trans (sr241 _ (Steps.refl _))
    have hf243 : ¬ ((F8 bt168 (2 : Int32) (0 : Int32) b6 b14 b25 x2 x3 x4 (0 : Int32)) = (0 : Int32)) := by simp +decide [F8, (Ne.symm ne_b6_bt168), (Ne.symm ne_b14_bt168), (Ne.symm ne_b25_bt168)]
    have st244 : Steps p.tables e below sE (T241.setTop (mkF m 240 #[.val (.int x0), .val (.int x1), .val (.int x2), .val (.int x3), .val (.int x4), .val (.int cap), .val (.int n), .val (.ref b6), .val (.ref b14), .val (.ref b25), .val (.ref b110), .val (.int (0 : Int32)), .val (.ref bt151), .val (.ref bt168), .val (.ref bt188), .val (.ref bt211)] [(.int x4), (.int x3), (.int x2), (.ref b25), (.ref b14), (.ref b6), (.int (0 : Int32)), (.int (3 : Int32)), (.ref bt188)])) := st242.trans (by
        show Steps _ _ _ (T241.setTop (mkF m 222 #[.val (.int x0), .val (.int x1), .val (.int x2), .val (.int x3), .val (.int x4), .val (.int cap), .val (.int n), .val (.ref b6), .val (.ref b14), .val (.ref b25), .val (.ref b110), .val (.int (0 : Int32)), .val (.ref bt151), .val (.ref bt168), .val (.ref bt188), .val (.ref bt211)] [(.int (F8 bt168 (2 : Int32) (0 : Int32) b6 b14 b25 x2 x3 x4 (0 : Int32)))])) _
        refine XS.ifNo X241.here hx rfl (hb hby at_222) rfl ((if0 _ _).trans (feq hf243).1) ?_
        show Steps _ _ _ (T241.setTop (mkF m 225 #[.val (.int x0), .val (.int x1), .val (.int x2), .val (.int x3), .val (.int x4), .val (.int cap), .val (.int n), .val (.ref b6), .val (.ref b14), .val (.ref b25), .val (.ref b110), .val (.int (0 : Int32)), .val (.ref bt151), .val (.ref bt168), .val (.ref bt188), .val (.ref bt211)] [])) _
        refine XS.aload X241.here hx rfl (hb hby at_225) rfl rfl ?_
        show Steps _ _ _ (T241.setTop (mkF m 227 #[.val (.int x0), .val (.int x1), .val (.int x2), .val (.int x3), .val (.int x4), .val (.int cap), .val (.int n), .val (.ref b6), .val (.ref b14), .val (.ref b25), .val (.ref b110), .val (.int (0 : Int32)), .val (.ref bt151), .val (.ref bt168), .val (.ref bt188), .val (.ref bt211)] [(.ref bt188)])) _
        refine XS.iconst X241.here hx rfl (hb hby at_227) ?_
        show Steps _ _ _ (T241.setTop (mkF m 228 #[.val (.int x0), .val (.int x1), .val (.int x2), .val (.int x3), .val (.int x4), .val (.int cap), .val (.int n), .val (.ref b6), .val (.ref b14), .val (.ref b25), .val (.ref b110), .val (.int (0 : Int32)), .val (.ref bt151), .val (.ref bt168), .val (.ref bt188), .val (.ref bt211)] [(.int (3 : Int32)), (.ref bt188)])) _
        refine XS.iload X241.here hx rfl (hb hby at_228) rfl ?_
        show Steps _ _ _ (T241.setTop (mkF m 230 #[.val (.int x0), .val (.int x1), .val (.int x2), .val (.int x3), .val (.int x4), .val (.int cap), .val (.int n), .val (.ref b6), .val (.ref b14), .val (.ref b25), .val (.ref b110), .val (.int (0 : Int32)), .val (.ref bt151), .val (.ref bt168), .val (.ref bt188), .val (.ref bt211)] [(.int (0 : Int32)), (.int (3 : Int32)), (.ref bt188)])) _
        refine XS.aload X241.here hx rfl (hb hby at_230) rfl rfl ?_
        show Steps _ _ _ (T241.setTop (mkF m 232 #[.val (.int x0), .val (.int x1), .val (.int x2), .val (.int x3), .val (.int x4), .val (.int cap), .val (.int n), .val (.ref b6), .val (.ref b14), .val (.ref b25), .val (.ref b110), .val (.int (0 : Int32)), .val (.ref bt151), .val (.ref bt168), .val (.ref bt188), .val (.ref bt211)] [(.ref b6), (.int (0 : Int32)), (.int (3 : Int32)), (.ref bt188)])) _
        refine XS.aload X241.here hx rfl (hb hby at_232) rfl rfl ?_
        show Steps _ _ _ (T241.setTop (mkF m 234 #[.val (.int x0), .val (.int x1), .val (.int x2), .val (.int x3), .val (.int x4), .val (.int cap), .val (.int n), .val (.ref b6), .val (.ref b14), .val (.ref b25), .val (.ref b110), .val (.int (0 : Int32)), .val (.ref bt151), .val (.ref bt168), .val (.ref bt188), .val (.ref bt211)] [(.ref b14), (.ref b6), (.int (0 : Int32)), (.int (3 : Int32)), (.ref bt188)])) _
        refine XS.aload X241.here hx rfl (hb hby at_234) rfl rfl ?_
        show Steps _ _ _ (T241.setTop (mkF m 236 #[.val (.int x0), .val (.int x1), .val (.int x2), .val (.int x3), .val (.int x4), .val (.int cap), .val (.int n), .val (.ref b6), .val (.ref b14), .val (.ref b25), .val (.ref b110), .val (.int (0 : Int32)), .val (.ref bt151), .val (.ref bt168), .val (.ref bt188), .val (.ref bt211)] [(.ref b25), (.ref b14), (.ref b6), (.int (0 : Int32)), (.int (3 : Int32)), (.ref bt188)])) _
        refine XS.iloadN X241.here hx rfl (hb hby at_236) rfl ?_
        show Steps _ _ _ (T241.setTop (mkF m 237 #[.val (.int x0), .val (.int x1), .val (.int x2), .val (.int x3), .val (.int x4), .val (.int cap), .val (.int n), .val (.ref b6), .val (.ref b14), .val (.ref b25), .val (.ref b110), .val (.int (0 : Int32)), .val (.ref bt151), .val (.ref bt168), .val (.ref bt188), .val (.ref bt211)] [(.int x2), (.ref b25), (.ref b14), (.ref b6), (.int (0 : Int32)), (.int (3 : Int32)), (.ref bt188)])) _
        refine XS.iloadN X241.here hx rfl (hb hby at_237) rfl ?_
        show Steps _ _ _ (T241.setTop (mkF m 238 #[.val (.int x0), .val (.int x1), .val (.int x2), .val (.int x3), .val (.int x4), .val (.int cap), .val (.int n), .val (.ref b6), .val (.ref b14), .val (.ref b25), .val (.ref b110), .val (.int (0 : Int32)), .val (.ref bt151), .val (.ref bt168), .val (.ref bt188), .val (.ref bt211)] [(.int x3), (.int x2), (.ref b25), (.ref b14), (.ref b6), (.int (0 : Int32)), (.int (3 : Int32)), (.ref bt188)])) _
        refine XS.iload X241.here hx rfl (hb hby at_238) rfl ?_
        exact Steps.refl _)
    obtain ⟨_, _, ⟨T245, L245, k245, n245⟩, -, X245, ⟨Lc245, hQ245, l245, y245, z245⟩, sr245⟩ := Jvm.LawKit.callS X241 hx (y := (⟨"com/example/tideloop/tideloop/MessagePoolKeepPinLaw", "check", "(Lcom/example/tideloop/tideloop/Message;IILcom/example/tideloop/tideloop/Message;Lcom/example/tideloop/tideloop/Message;Lcom/example/tideloop/tideloop/Message;III)Z"⟩ : MethodName)) hown (mvT hZ (hw _ (List.mem_of_getElem? (i := 45) rfl))) (mvT hZ (hw _ (List.mem_of_getElem? (i := 46) rfl))) (mvT hZ (hw _ (List.mem_of_getElem? (i := 47) rfl))) (mvT hZ (hw _ (List.mem_of_getElem? (i := 48) rfl))) (by decide) (backOf (W := 0) (rm8 l Z a0 hw [] bt188 (3 : Int32) (0 : Int32) b6 b14 b25 x2 x3 x4 (0 : Int32) T211.heap n0 Z234 f232 f233) hZ (hw _ (List.mem_of_getElem? (i := 48) rfl)) (hw _ (List.mem_of_getElem? (i := 47) rfl)) (by decide) (by decide)) (g := (mkF m 240 #[.val (.int x0), .val (.int x1), .val (.int x2), .val (.int x3), .val (.int x4), .val (.int cap), .val (.int n), .val (.ref b6), .val (.ref b14), .val (.ref b25), .val (.ref b110), .val (.int (0 : Int32)), .val (.ref bt151), .val (.ref bt168), .val (.ref bt188), .val (.ref bt211)] [(.int x4), (.int x3), (.int x2), (.ref b25), (.ref b14), (.ref b6), (.int (0 : Int32)), (.int (3 : Int32)), (.ref bt188)])) rfl (by rw [hml]; rfl) (argsL := [(.ref bt188), (.int (3 : Int32)), (.int (0 : Int32)), (.ref b6), (.ref b14), (.ref b25), (.int x2), (.int x3), (.int x4)]) (rest := []) (lenOf pd_4 rfl) rfl (by show 2 * 0 + _ ≤ _; exact Nat.le_of_eq rfl) (hb hby at_240) (fun _ _ => ⟨rfl, hh241, (by decide : 8 + 0 ≤ _), (by decide : 136 + 0 ≤ _)⟩)
    dsimp only [Pt.U, Pt.locs, Pt.cells, Pt.slots] at X245 l245 y245 z245 sr245 hQ245
    subst l245 y245 z245
    obtain ⟨rfl, N245q, hh245⟩ := hQ245
    have N245 := Fr.app N241 N245q
    obtain ⟨LL245, X245, N245⟩ := own_hide X245 N245
    have st246 : Steps p.tables e below sE (T245.setTop (mkF m 243 #[.val (.int x0), .val (.int x1), .val (.int x2), .val (.int x3), .val (.int x4), .val (.int cap), .val (.int n), .val (.ref b6), .val (.ref b14), .val (.ref b25), .val (.ref b110), .val (.int (0 : Int32)), .val (.ref bt151), .val (.ref bt168), .val (.ref bt188), .val (.ref bt211)] [(.int (F8 bt188 (3 : Int32) (0 : Int32) b6 b14 b25 x2 x3 x4 (0 : Int32)))])) := st244.trans (sr245 _ (Steps.refl _))
    have hf247 : ¬ ((F8 bt188 (3 : Int32) (0 : Int32) b6 b14 b25 x2 x3 x4 (0 : Int32)) = (0 : Int32)) := by simp +decide [F8, (Ne.symm ne_b6_bt188), (Ne.symm ne_b14_bt188), (Ne.symm ne_b25_bt188)]
    have st248 : Steps p.tables e below sE (T245.setTop (mkF m 261 #[.val (.int x0), .val (.int x1), .val (.int x2), .val (.int x3), .val (.int x4), .val (.int cap), .val (.int n), .val (.ref b6), .val (.ref b14), .val (.ref b25), .val (.ref b110), .val (.int (0 : Int32)), .val (.ref bt151), .val (.ref bt168), .val (.ref bt188), .val (.ref bt211)] [(.int x4), (.int x3), (.int x2), (.ref b25), (.ref b14), (.ref b6), (.int (0 : Int32)), (.int (4 : Int32)), (.ref bt211)])) := st246.trans (by
        show Steps _ _ _ (T245.setTop (mkF m 243 #[.val (.int x0), .val (.int x1), .val (.int x2), .val (.int x3), .val (.int x4), .val (.int cap), .val (.int n), .val (.ref b6), .val (.ref b14), .val (.ref b25), .val (.ref b110), .val (.int (0 : Int32)), .val (.ref bt151), .val (.ref bt168), .val (.ref bt188), .val (.ref bt211)] [(.int (F8 bt188 (3 : Int32) (0 : Int32) b6 b14 b25 x2 x3 x4 (0 : Int32)))])) _
        refine XS.ifNo X245.here hx rfl (hb hby at_243) rfl ((if0 _ _).trans (feq hf247).1) ?_
        show Steps _ _ _ (T245.setTop (mkF m 246 #[.val (.int x0), .val (.int x1), .val (.int x2), .val (.int x3), .val (.int x4), .val (.int cap), .val (.int n), .val (.ref b6), .val (.ref b14), .val (.ref b25), .val (.ref b110), .val (.int (0 : Int32)), .val (.ref bt151), .val (.ref bt168), .val (.ref bt188), .val (.ref bt211)] [])) _
        refine XS.aload X245.here hx rfl (hb hby at_246) rfl rfl ?_
        show Steps _ _ _ (T245.setTop (mkF m 248 #[.val (.int x0), .val (.int x1), .val (.int x2), .val (.int x3), .val (.int x4), .val (.int cap), .val (.int n), .val (.ref b6), .val (.ref b14), .val (.ref b25), .val (.ref b110), .val (.int (0 : Int32)), .val (.ref bt151), .val (.ref bt168), .val (.ref bt188), .val (.ref bt211)] [(.ref bt211)])) _
        refine XS.iconst X245.here hx rfl (hb hby at_248) ?_
        show Steps _ _ _ (T245.setTop (mkF m 249 #[.val (.int x0), .val (.int x1), .val (.int x2), .val (.int x3), .val (.int x4), .val (.int cap), .val (.int n), .val (.ref b6), .val (.ref b14), .val (.ref b25), .val (.ref b110), .val (.int (0 : Int32)), .val (.ref bt151), .val (.ref bt168), .val (.ref bt188), .val (.ref bt211)] [(.int (4 : Int32)), (.ref bt211)])) _
        refine XS.iload X245.here hx rfl (hb hby at_249) rfl ?_
        show Steps _ _ _ (T245.setTop (mkF m 251 #[.val (.int x0), .val (.int x1), .val (.int x2), .val (.int x3), .val (.int x4), .val (.int cap), .val (.int n), .val (.ref b6), .val (.ref b14), .val (.ref b25), .val (.ref b110), .val (.int (0 : Int32)), .val (.ref bt151), .val (.ref bt168), .val (.ref bt188), .val (.ref bt211)] [(.int (0 : Int32)), (.int (4 : Int32)), (.ref bt211)])) _
        refine XS.aload X245.here hx rfl (hb hby at_251) rfl rfl ?_
        show Steps _ _ _ (T245.setTop (mkF m 253 #[.val (.int x0), .val (.int x1), .val (.int x2), .val (.int x3), .val (.int x4), .val (.int cap), .val (.int n), .val (.ref b6), .val (.ref b14), .val (.ref b25), .val (.ref b110), .val (.int (0 : Int32)), .val (.ref bt151), .val (.ref bt168), .val (.ref bt188), .val (.ref bt211)] [(.ref b6), (.int (0 : Int32)), (.int (4 : Int32)), (.ref bt211)])) _
        refine XS.aload X245.here hx rfl (hb hby at_253) rfl rfl ?_
        show Steps _ _ _ (T245.setTop (mkF m 255 #[.val (.int x0), .val (.int x1), .val (.int x2), .val (.int x3), .val (.int x4), .val (.int cap), .val (.int n), .val (.ref b6), .val (.ref b14), .val (.ref b25), .val (.ref b110), .val (.int (0 : Int32)), .val (.ref bt151), .val (.ref bt168), .val (.ref bt188), .val (.ref bt211)] [(.ref b14), (.ref b6), (.int (0 : Int32)), (.int (4 : Int32)), (.ref bt211)])) _
        refine XS.aload X245.here hx rfl (hb hby at_255) rfl rfl ?_
        show Steps _ _ _ (T245.setTop (mkF m 257 #[.val (.int x0), .val (.int x1), .val (.int x2), .val (.int x3), .val (.int x4), .val (.int cap), .val (.int n), .val (.ref b6), .val (.ref b14), .val (.ref b25), .val (.ref b110), .val (.int (0 : Int32)), .val (.ref bt151), .val (.ref bt168), .val (.ref bt188), .val (.ref bt211)] [(.ref b25), (.ref b14), (.ref b6), (.int (0 : Int32)), (.int (4 : Int32)), (.ref bt211)])) _
        refine XS.iloadN X245.here hx rfl (hb hby at_257) rfl ?_
        show Steps _ _ _ (T245.setTop (mkF m 258 #[.val (.int x0), .val (.int x1), .val (.int x2), .val (.int x3), .val (.int x4), .val (.int cap), .val (.int n), .val (.ref b6), .val (.ref b14), .val (.ref b25), .val (.ref b110), .val (.int (0 : Int32)), .val (.ref bt151), .val (.ref bt168), .val (.ref bt188), .val (.ref bt211)] [(.int x2), (.ref b25), (.ref b14), (.ref b6), (.int (0 : Int32)), (.int (4 : Int32)), (.ref bt211)])) _
        refine XS.iloadN X245.here hx rfl (hb hby at_258) rfl ?_
        show Steps _ _ _ (T245.setTop (mkF m 259 #[.val (.int x0), .val (.int x1), .val (.int x2), .val (.int x3), .val (.int x4), .val (.int cap), .val (.int n), .val (.ref b6), .val (.ref b14), .val (.ref b25), .val (.ref b110), .val (.int (0 : Int32)), .val (.ref bt151), .val (.ref bt168), .val (.ref bt188), .val (.ref bt211)] [(.int x3), (.int x2), (.ref b25), (.ref b14), (.ref b6), (.int (0 : Int32)), (.int (4 : Int32)), (.ref bt211)])) _
        refine XS.iload X245.here hx rfl (hb hby at_259) rfl ?_
        exact Steps.refl _)
    obtain ⟨_, _, ⟨T249, L249, k249, n249⟩, -, X249, ⟨Lc249, hQ249, l249, y249, z249⟩, sr249⟩ := Jvm.LawKit.callS X245 hx (y := (⟨"com/example/tideloop/tideloop/MessagePoolKeepPinLaw", "check", "(Lcom/example/tideloop/tideloop/Message;IILcom/example/tideloop/tideloop/Message;Lcom/example/tideloop/tideloop/Message;Lcom/example/tideloop/tideloop/Message;III)Z"⟩ : MethodName)) hown (mvT hZ (hw _ (List.mem_of_getElem? (i := 45) rfl))) (mvT hZ (hw _ (List.mem_of_getElem? (i := 46) rfl))) (mvT hZ (hw _ (List.mem_of_getElem? (i := 47) rfl))) (mvT hZ (hw _ (List.mem_of_getElem? (i := 48) rfl))) (by decide) (backOf (W := 0) (rm8 l Z a0 hw [] bt211 (4 : Int32) (0 : Int32) b6 b14 b25 x2 x3 x4 (0 : Int32) T211.heap n0 Z234 qn211 qw211) hZ (hw _ (List.mem_of_getElem? (i := 48) rfl)) (hw _ (List.mem_of_getElem? (i := 47) rfl)) (by decide) (by decide)) (g := (mkF m 261 #[.val (.int x0), .val (.int x1), .val (.int x2), .val (.int x3), .val (.int x4), .val (.int cap), .val (.int n), .val (.ref b6), .val (.ref b14), .val (.ref b25), .val (.ref b110), .val (.int (0 : Int32)), .val (.ref bt151), .val (.ref bt168), .val (.ref bt188), .val (.ref bt211)] [(.int x4), (.int x3), (.int x2), (.ref b25), (.ref b14), (.ref b6), (.int (0 : Int32)), (.int (4 : Int32)), (.ref bt211)])) rfl (by rw [hml]; rfl) (argsL := [(.ref bt211), (.int (4 : Int32)), (.int (0 : Int32)), (.ref b6), (.ref b14), (.ref b25), (.int x2), (.int x3), (.int x4)]) (rest := []) (lenOf pd_4 rfl) rfl (by show 2 * 0 + _ ≤ _; exact Nat.le_of_eq rfl) (hb hby at_261) (fun _ _ => ⟨rfl, hh245, (by decide : 8 + 0 ≤ _), (by decide : 136 + 0 ≤ _)⟩)
    dsimp only [Pt.U, Pt.locs, Pt.cells, Pt.slots] at X249 l249 y249 z249 sr249 hQ249
    subst l249 y249 z249
    obtain ⟨rfl, N249q, hh249⟩ := hQ249
    have N249 := Fr.app N245 N249q
    obtain ⟨LL249, X249, N249⟩ := own_hide X249 N249
    have st250 : Steps p.tables e below sE (T249.setTop (mkF m 264 #[.val (.int x0), .val (.int x1), .val (.int x2), .val (.int x3), .val (.int x4), .val (.int cap), .val (.int n), .val (.ref b6), .val (.ref b14), .val (.ref b25), .val (.ref b110), .val (.int (0 : Int32)), .val (.ref bt151), .val (.ref bt168), .val (.ref bt188), .val (.ref bt211)] [(.int (F8 bt211 (4 : Int32) (0 : Int32) b6 b14 b25 x2 x3 x4 (0 : Int32)))])) := st248.trans (sr249 _ (Steps.refl _))
    have hf251 : ¬ ((F8 bt211 (4 : Int32) (0 : Int32) b6 b14 b25 x2 x3 x4 (0 : Int32)) = (0 : Int32)) := by simp +decide [F8, (Ne.symm ne_b6_bt211), (Ne.symm ne_b14_bt211), (Ne.symm ne_b25_bt211)]
    have st252 : Steps p.tables e below sE (T249.setTop (mkF m 272 #[.val (.int x0), .val (.int x1), .val (.int x2), .val (.int x3), .val (.int x4), .val (.int cap), .val (.int n), .val (.ref b6), .val (.ref b14), .val (.ref b25), .val (.ref b110), .val (.int (0 : Int32)), .val (.ref bt151), .val (.ref bt168), .val (.ref bt188), .val (.ref bt211)] [(.int (1 : Int32))])) := st250.trans (by
        show Steps _ _ _ (T249.setTop (mkF m 264 #[.val (.int x0), .val (.int x1), .val (.int x2), .val (.int x3), .val (.int x4), .val (.int cap), .val (.int n), .val (.ref b6), .val (.ref b14), .val (.ref b25), .val (.ref b110), .val (.int (0 : Int32)), .val (.ref bt151), .val (.ref bt168), .val (.ref bt188), .val (.ref bt211)] [(.int (F8 bt211 (4 : Int32) (0 : Int32) b6 b14 b25 x2 x3 x4 (0 : Int32)))])) _
        refine XS.ifNo X249.here hx rfl (hb hby at_264) rfl ((if0 _ _).trans (feq hf251).1) ?_
        show Steps _ _ _ (T249.setTop (mkF m 267 #[.val (.int x0), .val (.int x1), .val (.int x2), .val (.int x3), .val (.int x4), .val (.int cap), .val (.int n), .val (.ref b6), .val (.ref b14), .val (.ref b25), .val (.ref b110), .val (.int (0 : Int32)), .val (.ref bt151), .val (.ref bt168), .val (.ref bt188), .val (.ref bt211)] [])) _
        refine XS.iconst X249.here hx rfl (hb hby at_267) ?_
        show Steps _ _ _ (T249.setTop (mkF m 268 #[.val (.int x0), .val (.int x1), .val (.int x2), .val (.int x3), .val (.int x4), .val (.int cap), .val (.int n), .val (.ref b6), .val (.ref b14), .val (.ref b25), .val (.ref b110), .val (.int (0 : Int32)), .val (.ref bt151), .val (.ref bt168), .val (.ref bt188), .val (.ref bt211)] [(.int (1 : Int32))])) _
        refine XS.goto X249.here hx rfl (pc0 := 268) (pc' := 272) rfl (hb hby at_268) (by decide) (by decide) ?_
        exact Steps.refl _)
    obtain ⟨fs, hr, hrun, hended, hW, hsame⟩ := X249.leave (v := some (.int (1 : Int32))) (fun h => by rw [Bd.returns] at h; cases h)
    refine ⟨_, _, (own_ent hsE st252).trans ?_, hrun, hended, _, _, rfl, ?_, ⟨_, rfl⟩, hW, hsame.mono (by decide) (by decide)⟩
    · exact retN X249 hx (t := .boolean) Bd.returns (by simp) (hb hby at_272) hr
    · show Q0 Z x0 x1 x2 x3 x4 h0 n0 _ T249.heap _
      rw [hh249]
      exact ⟨rfl, N249⟩
  · have st253 : Steps p.tables e below sE (T125.setTop (mkF m 113 #[.val (.int x0), .val (.int x1), .val (.int x2), .val (.int x3), .val (.int x4), .val (.int cap), .val (.int n), .val (.ref b6), .val (.ref b14), .val (.ref b25), .val (.ref b110), .unset, .unset, .unset, .unset, .unset] [(.ref b6), (.ref b110)])) := st138.trans (by
        show Steps _ _ _ (T125.setTop (mkF m 106 #[.val (.int x0), .val (.int x1), .val (.int x2), .val (.int x3), .val (.int x4), .val (.int cap), .val (.int n), .val (.ref b6), .val (.ref b14), .val (.ref b25), .val (.ref b110), .unset, .unset, .unset, .unset, .unset] [(.int (1 : Int32)), (.int n)])) _
        refine XS.icmpNo X125.here hx rfl (hb hby at_106) rfl (flt hc139).1 ?_
        show Steps _ _ _ (T125.setTop (mkF m 109 #[.val (.int x0), .val (.int x1), .val (.int x2), .val (.int x3), .val (.int x4), .val (.int cap), .val (.int n), .val (.ref b6), .val (.ref b14), .val (.ref b25), .val (.ref b110), .unset, .unset, .unset, .unset, .unset] [])) _
        refine XS.aload X125.here hx rfl (hb hby at_109) rfl rfl ?_
        show Steps _ _ _ (T125.setTop (mkF m 111 #[.val (.int x0), .val (.int x1), .val (.int x2), .val (.int x3), .val (.int x4), .val (.int cap), .val (.int n), .val (.ref b6), .val (.ref b14), .val (.ref b25), .val (.ref b110), .unset, .unset, .unset, .unset, .unset] [(.ref b110)])) _
        refine XS.aload X125.here hx rfl (hb hby at_111) rfl rfl ?_
        exact Steps.refl _)
    by_cases hc254 : (0 : Int32) < cap
    · 
      obtain ⟨cq255, kq255, q255a, q255b, q255c⟩ := isOf hZ rfl f125_0
      obtain ⟨_, _, ⟨T255, L255, k255, n255⟩, -, X255, ⟨Lc255, hQ255, l255, y255, z255⟩, sr255⟩ := X125.virtualBack hx (y := (⟨"com/example/tideloop/tideloop/MessagePool", "keep", "(Lcom/example/tideloop/tideloop/Message;)V"⟩ : MethodName)) (z := (⟨"com/example/tideloop/tideloop/MessagePool", "keep", "(Lcom/example/tideloop/tideloop/Message;)V"⟩ : MethodName)) hown (mvT hZ (hw _ (List.mem_of_getElem? (i := 22) rfl))) (mvT hZ (hw _ (List.mem_of_getElem? (i := 23) rfl))) (notFace_of_selects (args := #[]) (mvT hZ (hw _ (List.mem_of_getElem? (i := 25) rfl)))) (mvT hZ (hw _ (List.mem_of_getElem? (i := 25) rfl))) (mvT hZ (hw _ (List.mem_of_getElem? (i := 24) rfl))) (by decide) (backOf (W := 0) (rmky0 l Z a0 hw [] b110 b6 (0 : Int32) cap x2 b25 T125.heap n0 Z136 f125_0 f125_2 f125_1 f125_3 f126 f129 f132 g_b110 g_b6 ne_b6_b110 hc254) hZ (hw _ (List.mem_of_getElem? (i := 26) rfl)) (hw _ (List.mem_of_getElem? (i := 15) rfl)) (by decide) (by decide)) q255a q255c (g := (mkF m 113 #[.val (.int x0), .val (.int x1), .val (.int x2), .val (.int x3), .val (.int x4), .val (.int cap), .val (.int n), .val (.ref b6), .val (.ref b14), .val (.ref b25), .val (.ref b110), .unset, .unset, .unset, .unset, .unset] [(.ref b6), (.ref b110)])) rfl (by rw [hml]; rfl) (Steps.refl _) (argsL := [(.ref b6)]) (rest := []) (lenOf pd_5 rfl) rfl (by show 2 * 0 + _ ≤ _; exact Nat.le_of_eq rfl) (hb hby at_113) (fun _ _ => ⟨rfl, rfl, (by decide : 4 + 0 ≤ _), (by decide : 60 + 0 ≤ _)⟩)
      dsimp only [Pt.U, Pt.locs, Pt.cells, Pt.slots] at X255 l255 y255 z255 sr255 hQ255
      subst l255 y255 z255
      obtain ⟨rfl, N255q, K255c, f255_0, f255_1, f255_2, f255_3, f255_4, f255_5, f255_6⟩ := hQ255
      have N255 := Fr.app N125 N255q
      obtain ⟨LL255, X255, N255⟩ := own_hide X255 N255
      have f256 : Exa Z T255.heap b6 "com/example/tideloop/tideloop/Message" := f126.keep K255c
      have f257 : Exa Z T255.heap b14 "com/example/tideloop/tideloop/Message" := f127.keep K255c
      have f258 : Exa Z T255.heap b25 "com/example/tideloop/tideloop/Message" := f128.keep K255c
      have f259 : Fld Z T255.heap b14 "com/example/tideloop/tideloop/Message" "what" "I" (.int x3) := f130.keep K255c (ninS ne_b14_b110 (ninS (Ne.symm ne_b6_b14) nin0))
      have f260 : Fld Z T255.heap b25 "com/example/tideloop/tideloop/Message" "what" "I" (.int x4) := f131.keep K255c (ninS ne_b25_b110 (ninS (Ne.symm ne_b6_b25) nin0))
      have f261 : Fld Z T255.heap b14 "com/example/tideloop/tideloop/Message" "nextPooled" "Lcom/example/tideloop/tideloop/Message;" (.ref b6) := f133.keep K255c (ninS ne_b14_b110 (ninS (Ne.symm ne_b6_b14) nin0))
      have f262 : Fld Z T255.heap b25 "com/example/tideloop/tideloop/Message" "nextPooled" "Lcom/example/tideloop/tideloop/Message;" (.ref b14) := f134.keep K255c (ninS ne_b25_b110 (ninS (Ne.symm ne_b6_b25) nin0))
      have f263 : Exa Z T255.heap b110 "com/example/tideloop/tideloop/MessagePool" := f125_0.keep K255c
      have Z264 : n0 ≤ T255.heap.size := Nat.le_trans Z136 K255c.1
      have st265 : Steps p.tables e below sE (T255.setTop (mkF m 116 #[.val (.int x0), .val (.int x1), .val (.int x2), .val (.int x3), .val (.int x4), .val (.int cap), .val (.int n), .val (.ref b6), .val (.ref b14), .val (.ref b25), .val (.ref b110), .unset, .unset, .unset, .unset, .unset] [])) := st253.trans (sr255)
      have st266 : Steps p.tables e below sE (T255.setTop (mkF m 119 #[.val (.int x0), .val (.int x1), .val (.int x2), .val (.int x3), .val (.int x4), .val (.int cap), .val (.int n), .val (.ref b6), .val (.ref b14), .val (.ref b25), .val (.ref b110), .unset, .unset, .unset, .unset, .unset] [(.int (2 : Int32)), (.int n)])) := st265.trans (by
          show Steps _ _ _ (T255.setTop (mkF m 116 #[.val (.int x0), .val (.int x1), .val (.int x2), .val (.int x3), .val (.int x4), .val (.int cap), .val (.int n), .val (.ref b6), .val (.ref b14), .val (.ref b25), .val (.ref b110), .unset, .unset, .unset, .unset, .unset] [])) _
          refine XS.iload X255.here hx rfl (hb hby at_116) rfl ?_
          show Steps _ _ _ (T255.setTop (mkF m 118 #[.val (.int x0), .val (.int x1), .val (.int x2), .val (.int x3), .val (.int x4), .val (.int cap), .val (.int n), .val (.ref b6), .val (.ref b14), .val (.ref b25), .val (.ref b110), .unset, .unset, .unset, .unset, .unset] [(.int n)])) _
          refine XS.iconst X255.here hx rfl (hb hby at_118) ?_
          exact Steps.refl _)
      by_cases hc267 : n < (2 : Int32)
      · have st268 : Steps p.tables e below sE (T255.setTop (mkF m 132 #[.val (.int x0), .val (.int x1), .val (.int x2), .val (.int x3), .val (.int x4), .val (.int cap), .val (.int n), .val (.ref b6), .val (.ref b14), .val (.ref b25), .val (.ref b110), .unset, .unset, .unset, .unset, .unset] [(.int (3 : Int32)), (.int n)])) := st266.trans (by
            show Steps _ _ _ (T255.setTop (mkF m 119 #[.val (.int x0), .val (.int x1), .val (.int x2), .val (.int x3), .val (.int x4), .val (.int cap), .val (.int n), .val (.ref b6), .val (.ref b14), .val (.ref b25), .val (.ref b110), .unset, .unset, .unset, .unset, .unset] [(.int (2 : Int32)), (.int n)])) _
            refine XS.icmpYes X255.here hx rfl (pc0 := 119) (pc' := 129) rfl (hb hby at_119) rfl (tlt hc267).1 (by decide) (by decide) ?_
            show Steps _ _ _ (T255.setTop (mkF m 129 #[.val (.int x0), .val (.int x1), .val (.int x2), .val (.int x3), .val (.int x4), .val (.int cap), .val (.int n), .val (.ref b6), .val (.ref b14), .val (.ref b25), .val (.ref b110), .unset, .unset, .unset, .unset, .unset] [])) _
            refine XS.iload X255.here hx rfl (hb hby at_129) rfl ?_
            show Steps _ _ _ (T255.setTop (mkF m 131 #[.val (.int x0), .val (.int x1), .val (.int x2), .val (.int x3), .val (.int x4), .val (.int cap), .val (.int n), .val (.ref b6), .val (.ref b14), .val (.ref b25), .val (.ref b110), .unset, .unset, .unset, .unset, .unset] [(.int n)])) _
            refine XS.iconst X255.here hx rfl (hb hby at_131) ?_
            exact Steps.refl _)
        have hf269 : n < (3 : Int32) := own_lt hc267 (by decide)
        have st270 : Steps p.tables e below sE (T255.setTop (mkF m 142 #[.val (.int x0), .val (.int x1), .val (.int x2), .val (.int x3), .val (.int x4), .val (.int cap), .val (.int n), .val (.ref b6), .val (.ref b14), .val (.ref b25), .val (.ref b110), .unset, .unset, .unset, .unset, .unset] [])) := st268.trans (by
            show Steps _ _ _ (T255.setTop (mkF m 132 #[.val (.int x0), .val (.int x1), .val (.int x2), .val (.int x3), .val (.int x4), .val (.int cap), .val (.int n), .val (.ref b6), .val (.ref b14), .val (.ref b25), .val (.ref b110), .unset, .unset, .unset, .unset, .unset] [(.int (3 : Int32)), (.int n)])) _
            refine XS.icmpYes X255.here hx rfl (pc0 := 132) (pc' := 142) rfl (hb hby at_132) rfl (tlt hf269).1 (by decide) (by decide) ?_
            exact Steps.refl _)
        have st271 : Steps p.tables e below sE (T255.setTop (mkF m 147 #[.val (.int x0), .val (.int x1), .val (.int x2), .val (.int x3), .val (.int x4), .val (.int cap), .val (.int n), .val (.ref b6), .val (.ref b14), .val (.ref b25), .val (.ref b110), .unset, .unset, .unset, .unset, .unset] [(.int cap), (.int (0 : Int32)), (.int n)])) := st270.trans (by
            show Steps _ _ _ (T255.setTop (mkF m 142 #[.val (.int x0), .val (.int x1), .val (.int x2), .val (.int x3), .val (.int x4), .val (.int cap), .val (.int n), .val (.ref b6), .val (.ref b14), .val (.ref b25), .val (.ref b110), .unset, .unset, .unset, .unset, .unset] [])) _
            refine XS.iload X255.here hx rfl (hb hby at_142) rfl ?_
            show Steps _ _ _ (T255.setTop (mkF m 144 #[.val (.int x0), .val (.int x1), .val (.int x2), .val (.int x3), .val (.int x4), .val (.int cap), .val (.int n), .val (.ref b6), .val (.ref b14), .val (.ref b25), .val (.ref b110), .unset, .unset, .unset, .unset, .unset] [(.int n)])) _
            refine XS.iconst X255.here hx rfl (hb hby at_144) ?_
            show Steps _ _ _ (T255.setTop (mkF m 145 #[.val (.int x0), .val (.int x1), .val (.int x2), .val (.int x3), .val (.int x4), .val (.int cap), .val (.int n), .val (.ref b6), .val (.ref b14), .val (.ref b25), .val (.ref b110), .unset, .unset, .unset, .unset, .unset] [(.int (0 : Int32)), (.int n)])) _
            refine XS.iload X255.here hx rfl (hb hby at_145) rfl ?_
            exact Steps.refl _)
        obtain ⟨_, _, ⟨T272, L272, k272, n272⟩, -, X272, ⟨Lc272, hQ272, l272, y272, z272⟩, sr272⟩ := Jvm.LawKit.callS X255 hx (y := (⟨"java/lang/Math", "max", "(II)I"⟩ : MethodName)) hown (mvT hZ (hw _ (List.mem_of_getElem? (i := 29) rfl))) (mvT hZ (hw _ (List.mem_of_getElem? (i := 30) rfl))) (mvT hZ (hw _ (List.mem_of_getElem? (i := 31) rfl))) (mvT hZ (hw _ (List.mem_of_getElem? (i := 32) rfl))) (by decide) (backOf (W := 1) (rm5 l Z a0 hw [] (0 : Int32) cap  T255.heap n0 Z264 ) hZ (hw _ (List.mem_of_getElem? (i := 32) rfl)) (hw _ (List.mem_of_getElem? (i := 31) rfl)) (by decide) (by decide)) (g := (mkF m 147 #[.val (.int x0), .val (.int x1), .val (.int x2), .val (.int x3), .val (.int x4), .val (.int cap), .val (.int n), .val (.ref b6), .val (.ref b14), .val (.ref b25), .val (.ref b110), .unset, .unset, .unset, .unset, .unset] [(.int cap), (.int (0 : Int32)), (.int n)])) rfl (by rw [hml]; rfl) (argsL := [(.int (0 : Int32)), (.int cap)]) (rest := [(.int n)]) (lenOf pd_2 rfl) rfl (by show 2 * 0 + _ ≤ _; exact Nat.le_of_eq rfl) (hb hby at_147) (fun _ _ => ⟨rfl, rfl, (by decide : 4 + 0 ≤ _), (by decide : 60 + 0 ≤ _)⟩)
        dsimp only [Pt.U, Pt.locs, Pt.cells, Pt.slots] at X272 l272 y272 z272 sr272 hQ272
        subst l272 y272 z272
        obtain ⟨rfl, N272q, hh272⟩ := hQ272
        have N272 := Fr.app N255 N272q
        obtain ⟨LL272, X272, N272⟩ := own_hide X272 N272
        have st273 : Steps p.tables e below sE (T272.setTop (mkF m 150 #[.val (.int x0), .val (.int x1), .val (.int x2), .val (.int x3), .val (.int x4), .val (.int cap), .val (.int n), .val (.ref b6), .val (.ref b14), .val (.ref b25), .val (.ref b110), .unset, .unset, .unset, .unset, .unset] [(.int (F5 (0 : Int32) cap)), (.int n)])) := st271.trans (sr272 _ (Steps.refl _))
        obtain ⟨_, _, ⟨T274, L274, k274, n274⟩, -, X274, ⟨Lc274, hQ274, l274, y274, z274⟩, sr274⟩ := Jvm.LawKit.callS X272 hx (y := (⟨"java/lang/Math", "min", "(II)I"⟩ : MethodName)) hown (mvT hZ (hw _ (List.mem_of_getElem? (i := 33) rfl))) (mvT hZ (hw _ (List.mem_of_getElem? (i := 34) rfl))) (mvT hZ (hw _ (List.mem_of_getElem? (i := 31) rfl))) (mvT hZ (hw _ (List.mem_of_getElem? (i := 35) rfl))) (by decide) (backOf (W := 0) (rm6 l Z a0 hw [] n (F5 (0 : Int32) cap)  T255.heap n0 Z264 ) hZ (hw _ (List.mem_of_getElem? (i := 35) rfl)) (hw _ (List.mem_of_getElem? (i := 31) rfl)) (by decide) (by decide)) (g := (mkF m 150 #[.val (.int x0), .val (.int x1), .val (.int x2), .val (.int x3), .val (.int x4), .val (.int cap), .val (.int n), .val (.ref b6), .val (.ref b14), .val (.ref b25), .val (.ref b110), .unset, .unset, .unset, .unset, .unset] [(.int (F5 (0 : Int32) cap)), (.int n)])) rfl (by rw [hml]; rfl) (argsL := [(.int n), (.int (F5 (0 : Int32) cap))]) (rest := []) (lenOf pd_2 rfl) rfl (by show 2 * 0 + _ ≤ _; exact Nat.le_of_eq rfl) (hb hby at_150) (fun _ _ => ⟨rfl, hh272, (by decide : 4 + 0 ≤ _), (by decide : 60 + 0 ≤ _)⟩)
        dsimp only [Pt.U, Pt.locs, Pt.cells, Pt.slots] at X274 l274 y274 z274 sr274 hQ274
        subst l274 y274 z274
        obtain ⟨rfl, N274q, hh274⟩ := hQ274
        have N274 := Fr.app N272 N274q
        obtain ⟨LL274, X274, N274⟩ := own_hide X274 N274
        have st275 : Steps p.tables e below sE (T274.setTop (mkF m 153 #[.val (.int x0), .val (.int x1), .val (.int x2), .val (.int x3), .val (.int x4), .val (.int cap), .val (.int n), .val (.ref b6), .val (.ref b14), .val (.ref b25), .val (.ref b110), .unset, .unset, .unset, .unset, .unset] [(.int (F6 n (F5 (0 : Int32) cap)))])) := st273.trans (sr274 _ (Steps.refl _))
        have hs0 := own_lti hc254 (z := 0) (by decide)
        have hm1 := own_nltr hc139 (z := 1) (by decide)
        have hm2 := own_ltr hc267 (z := 2) (by decide)
        have hk1 : (1 : Int32).toInt = 1 := by decide
        have hkp : (F6 n (F5 (0 : Int32) cap)) = (1 : Int32) := own_kp n cap (1 : Int32) (by omega)
        rw [hkp] at st275
        have st276 : Steps p.tables e below sE (T274.setTop (mkF m 157 #[.val (.int x0), .val (.int x1), .val (.int x2), .val (.int x3), .val (.int x4), .val (.int cap), .val (.int n), .val (.ref b6), .val (.ref b14), .val (.ref b25), .val (.ref b110), .val (.int (1 : Int32)), .unset, .unset, .unset, .unset] [(.ref b110)])) := st275.trans (by
            show Steps _ _ _ (T274.setTop (mkF m 153 #[.val (.int x0), .val (.int x1), .val (.int x2), .val (.int x3), .val (.int x4), .val (.int cap), .val (.int n), .val (.ref b6), .val (.ref b14), .val (.ref b25), .val (.ref b110), .unset, .unset, .unset, .unset, .unset] [(.int (1 : Int32))])) _
            refine XS.istore X274.here hx rfl (hb hby at_153) rfl (l' := #[.val (.int x0), .val (.int x1), .val (.int x2), .val (.int x3), .val (.int x4), .val (.int cap), .val (.int n), .val (.ref b6), .val (.ref b14), .val (.ref b25), .val (.ref b110), .val (.int (1 : Int32)), .unset, .unset, .unset, .unset]) rfl ?_
            show Steps _ _ _ (T274.setTop (mkF m 155 #[.val (.int x0), .val (.int x1), .val (.int x2), .val (.int x3), .val (.int x4), .val (.int cap), .val (.int n), .val (.ref b6), .val (.ref b14), .val (.ref b25), .val (.ref b110), .val (.int (1 : Int32)), .unset, .unset, .unset, .unset] [])) _
            refine XS.aload X274.here hx rfl (hb hby at_155) rfl rfl ?_
            exact Steps.refl _)
        obtain ⟨cq277, kq277, q277a, q277b, q277c⟩ := isOf hZ hh274 f255_0
        obtain ⟨_, _, ⟨T277, L277, k277, n277⟩, -, X277, ⟨Lc277, hQ277, l277, y277, z277⟩, sr277⟩ := X274.virtualBack hx (y := (⟨"com/example/tideloop/tideloop/MessagePool", "take", "()Lcom/example/tideloop/tideloop/Message;"⟩ : MethodName)) (z := (⟨"com/example/tideloop/tideloop/MessagePool", "take", "()Lcom/example/tideloop/tideloop/Message;"⟩ : MethodName)) hown (mvT hZ (hw _ (List.mem_of_getElem? (i := 36) rfl))) (mvT hZ (hw _ (List.mem_of_getElem? (i := 37) rfl))) (notFace_of_selects (args := #[]) (mvT hZ (hw _ (List.mem_of_getElem? (i := 39) rfl)))) (mvT hZ (hw _ (List.mem_of_getElem? (i := 39) rfl))) (mvT hZ (hw _ (List.mem_of_getElem? (i := 38) rfl))) (by decide) (backOf (W := 0) (rmtk1 l Z a0 hw [] b110 ((0 : Int32) + (1 : Int32)) cap x2 b6 T255.heap n0 Z264 f255_0 f255_1 f255_2 f255_3 f255_4 f255_5 g_b110 g_b6 ne_b6_b110 f255_6) hZ (hw _ (List.mem_of_getElem? (i := 40) rfl)) (hw _ (List.mem_of_getElem? (i := 15) rfl)) (by decide) (by decide)) q277a q277c (g := (mkF m 157 #[.val (.int x0), .val (.int x1), .val (.int x2), .val (.int x3), .val (.int x4), .val (.int cap), .val (.int n), .val (.ref b6), .val (.ref b14), .val (.ref b25), .val (.ref b110), .val (.int (1 : Int32)), .unset, .unset, .unset, .unset] [(.ref b110)])) rfl (by rw [hml]; rfl) (Steps.refl _) (argsL := []) (rest := []) (lenOf pd_3 rfl) rfl (by show 2 * 0 + _ ≤ _; exact Nat.le_of_eq rfl) (hb hby at_157) (fun _ _ => ⟨rfl, hh274, (by decide : 4 + 0 ≤ _), (by decide : 60 + 0 ≤ _)⟩)
        dsimp only [Pt.U, Pt.locs, Pt.cells, Pt.slots] at X277 l277 y277 z277 sr277 hQ277
        subst l277 y277 z277
        obtain ⟨rfl, N277q, K277c, f277_0, f277_1, f277_2, f277_3, f277_4, f277_5, f277_6⟩ := hQ277
        have N277 := Fr.app N274 N277q
        obtain ⟨LL277, X277, N277⟩ := own_hide X277 N277
        have f278 : Exa Z T277.heap b6 "com/example/tideloop/tideloop/Message" := f255_4.keep K277c
        have f279 : Exa Z T277.heap b14 "com/example/tideloop/tideloop/Message" := f257.keep K277c
        have f280 : Exa Z T277.heap b25 "com/example/tideloop/tideloop/Message" := f258.keep K277c
        have f281 : Fld Z T277.heap b14 "com/example/tideloop/tideloop/Message" "what" "I" (.int x3) := f259.keep K277c (ninS ne_b14_b110 (ninS (Ne.symm ne_b6_b14) nin0))
        have f282 : Fld Z T277.heap b25 "com/example/tideloop/tideloop/Message" "what" "I" (.int x4) := f260.keep K277c (ninS ne_b25_b110 (ninS (Ne.symm ne_b6_b25) nin0))
        have f283 : Fld Z T277.heap b14 "com/example/tideloop/tideloop/Message" "nextPooled" "Lcom/example/tideloop/tideloop/Message;" (.ref b6) := f261.keep K277c (ninS ne_b14_b110 (ninS (Ne.symm ne_b6_b14) nin0))
        have f284 : Fld Z T277.heap b25 "com/example/tideloop/tideloop/Message" "nextPooled" "Lcom/example/tideloop/tideloop/Message;" (.ref b14) := f262.keep K277c (ninS ne_b25_b110 (ninS (Ne.symm ne_b6_b25) nin0))
        have f285 : Exa Z T277.heap b110 "com/example/tideloop/tideloop/MessagePool" := f255_0.keep K277c
        have Z286 : n0 ≤ T277.heap.size := Nat.le_trans Z264 K277c.1
        have st287 : Steps p.tables e below sE (T277.setTop (mkF m 160 #[.val (.int x0), .val (.int x1), .val (.int x2), .val (.int x3), .val (.int x4), .val (.int cap), .val (.int n), .val (.ref b6), .val (.ref b14), .val (.ref b25), .val (.ref b110), .val (.int (1 : Int32)), .unset, .unset, .unset, .unset] [(.ref b6)])) := st276.trans (sr277)
        have st288 : Steps p.tables e below sE (T277.setTop (mkF m 164 #[.val (.int x0), .val (.int x1), .val (.int x2), .val (.int x3), .val (.int x4), .val (.int cap), .val (.int n), .val (.ref b6), .val (.ref b14), .val (.ref b25), .val (.ref b110), .val (.int (1 : Int32)), .val (.ref b6), .unset, .unset, .unset] [(.ref b110)])) := st287.trans (by
            show Steps _ _ _ (T277.setTop (mkF m 160 #[.val (.int x0), .val (.int x1), .val (.int x2), .val (.int x3), .val (.int x4), .val (.int cap), .val (.int n), .val (.ref b6), .val (.ref b14), .val (.ref b25), .val (.ref b110), .val (.int (1 : Int32)), .unset, .unset, .unset, .unset] [(.ref b6)])) _
            refine XS.astore X277.here hx rfl (hb hby at_160) rfl rfl (l' := #[.val (.int x0), .val (.int x1), .val (.int x2), .val (.int x3), .val (.int x4), .val (.int cap), .val (.int n), .val (.ref b6), .val (.ref b14), .val (.ref b25), .val (.ref b110), .val (.int (1 : Int32)), .val (.ref b6), .unset, .unset, .unset]) rfl ?_
            show Steps _ _ _ (T277.setTop (mkF m 162 #[.val (.int x0), .val (.int x1), .val (.int x2), .val (.int x3), .val (.int x4), .val (.int cap), .val (.int n), .val (.ref b6), .val (.ref b14), .val (.ref b25), .val (.ref b110), .val (.int (1 : Int32)), .val (.ref b6), .unset, .unset, .unset] [])) _
            refine XS.aload X277.here hx rfl (hb hby at_162) rfl rfl ?_
            exact Steps.refl _)
        obtain ⟨cq289, kq289, q289a, q289b, q289c⟩ := isOf hZ rfl f277_0
        obtain ⟨_, _, ⟨T289, L289, k289, n289⟩, -, X289, ⟨Lc289, hQ289, l289, y289, z289⟩, sr289⟩ := X277.virtualBack hx (y := (⟨"com/example/tideloop/tideloop/MessagePool", "take", "()Lcom/example/tideloop/tideloop/Message;"⟩ : MethodName)) (z := (⟨"com/example/tideloop/tideloop/MessagePool", "take", "()Lcom/example/tideloop/tideloop/Message;"⟩ : MethodName)) hown (mvT hZ (hw _ (List.mem_of_getElem? (i := 36) rfl))) (mvT hZ (hw _ (List.mem_of_getElem? (i := 37) rfl))) (notFace_of_selects (args := #[]) (mvT hZ (hw _ (List.mem_of_getElem? (i := 39) rfl)))) (mvT hZ (hw _ (List.mem_of_getElem? (i := 39) rfl))) (mvT hZ (hw _ (List.mem_of_getElem? (i := 38) rfl))) (by decide) (backOf (W := 0) (rmtk0 l Z a0 hw [] b110  T277.heap n0 Z286 f277_0 f277_3) hZ (hw _ (List.mem_of_getElem? (i := 40) rfl)) (hw _ (List.mem_of_getElem? (i := 15) rfl)) (by decide) (by decide)) q289a q289c (g := (mkF m 164 #[.val (.int x0), .val (.int x1), .val (.int x2), .val (.int x3), .val (.int x4), .val (.int cap), .val (.int n), .val (.ref b6), .val (.ref b14), .val (.ref b25), .val (.ref b110), .val (.int (1 : Int32)), .val (.ref b6), .unset, .unset, .unset] [(.ref b110)])) rfl (by rw [hml]; rfl) (Steps.refl _) (argsL := []) (rest := []) (lenOf pd_3 rfl) rfl (by show 2 * 0 + _ ≤ _; exact Nat.le_of_eq rfl) (hb hby at_164) (fun _ _ => ⟨rfl, rfl, (by decide : 4 + 1 ≤ _), (by decide : 60 + 19 ≤ _)⟩)
        dsimp only [Pt.U, Pt.locs, Pt.cells, Pt.slots] at X289 l289 y289 z289 sr289 hQ289
        subst l289 y289 z289
        obtain ⟨rfl, N289q, K289c, ⟨qe289, qn289, qw289⟩⟩ := hQ289
        have N289 := Fr.app N277 N289q
        obtain ⟨LL289, X289, N289⟩ := own_hide X289 N289
        have f290 : Exa Z T289.heap b6 "com/example/tideloop/tideloop/Message" := f277_4.keep K289c
        have f291 : Exa Z T289.heap b14 "com/example/tideloop/tideloop/Message" := f279.keep K289c
        have f292 : Exa Z T289.heap b25 "com/example/tideloop/tideloop/Message" := f280.keep K289c
        have f293 : Fld Z T289.heap b14 "com/example/tideloop/tideloop/Message" "what" "I" (.int x3) := f281.keep K289c nin0
        have f294 : Fld Z T289.heap b25 "com/example/tideloop/tideloop/Message" "what" "I" (.int x4) := f282.keep K289c nin0
        have f295 : Fld Z T289.heap b14 "com/example/tideloop/tideloop/Message" "nextPooled" "Lcom/example/tideloop/tideloop/Message;" (.ref b6) := f283.keep K289c nin0
        have f296 : Fld Z T289.heap b25 "com/example/tideloop/tideloop/Message" "nextPooled" "Lcom/example/tideloop/tideloop/Message;" (.ref b14) := f284.keep K289c nin0
        have f297 : Exa Z T289.heap b110 "com/example/tideloop/tideloop/MessagePool" := f277_0.keep K289c
        have f298 : Fld Z T289.heap b110 "com/example/tideloop/tideloop/MessagePool" "size" "I" (.int (((0 : Int32) + (1 : Int32)) - (1 : Int32))) := f277_1.keep K289c nin0
        have f299 : Fld Z T289.heap b110 "com/example/tideloop/tideloop/MessagePool" "capacity" "I" (.int cap) := f277_2.keep K289c nin0
        have f300 : Fld Z T289.heap b110 "com/example/tideloop/tideloop/MessagePool" "head" "Lcom/example/tideloop/tideloop/Message;" .null := f277_3.keep K289c nin0
        have f301 : Fld Z T289.heap b6 "com/example/tideloop/tideloop/Message" "what" "I" (.int x2) := f277_5.keep K289c nin0
        have f302 : Fld Z T289.heap b6 "com/example/tideloop/tideloop/Message" "nextPooled" "Lcom/example/tideloop/tideloop/Message;" .null := f277_6.keep K289c nin0
        have Z303 : n0 ≤ T289.heap.size := Nat.le_trans Z286 K289c.1
        obtain ⟨bt289, g289⟩ : ∃ z, z = T277.heap.size := ⟨_, rfl⟩
        rw [← g289] at qe289 qn289 qw289 sr289
        have g_bt289 : n0 ≤ bt289 := Nat.le_trans Z286 (Nat.le_of_eq g289.symm)
        have ne_b6_bt289 : b6 ≠ bt289 := Nat.ne_of_lt (Nat.lt_of_lt_of_le f277_4.lt (Nat.le_of_eq g289.symm))
        have ne_b14_bt289 : b14 ≠ bt289 := Nat.ne_of_lt (Nat.lt_of_lt_of_le f279.lt (Nat.le_of_eq g289.symm))
        have ne_b25_bt289 : b25 ≠ bt289 := Nat.ne_of_lt (Nat.lt_of_lt_of_le f280.lt (Nat.le_of_eq g289.symm))
        have ne_b110_bt289 : b110 ≠ bt289 := Nat.ne_of_lt (Nat.lt_of_lt_of_le f277_0.lt (Nat.le_of_eq g289.symm))
        have st304 : Steps p.tables e below sE (T289.setTop (mkF m 167 #[.val (.int x0), .val (.int x1), .val (.int x2), .val (.int x3), .val (.int x4), .val (.int cap), .val (.int n), .val (.ref b6), .val (.ref b14), .val (.ref b25), .val (.ref b110), .val (.int (1 : Int32)), .val (.ref b6), .unset, .unset, .unset] [(.ref bt289)])) := st288.trans (sr289)
        have st305 : Steps p.tables e below sE (T289.setTop (mkF m 171 #[.val (.int x0), .val (.int x1), .val (.int x2), .val (.int x3), .val (.int x4), .val (.int cap), .val (.int n), .val (.ref b6), .val (.ref b14), .val (.ref b25), .val (.ref b110), .val (.int (1 : Int32)), .val (.ref b6), .val (.ref bt289), .unset, .unset] [(.ref b110)])) := st304.trans (by
            show Steps _ _ _ (T289.setTop (mkF m 167 #[.val (.int x0), .val (.int x1), .val (.int x2), .val (.int x3), .val (.int x4), .val (.int cap), .val (.int n), .val (.ref b6), .val (.ref b14), .val (.ref b25), .val (.ref b110), .val (.int (1 : Int32)), .val (.ref b6), .unset, .unset, .unset] [(.ref bt289)])) _
            refine XS.astore X289.here hx rfl (hb hby at_167) rfl rfl (l' := #[.val (.int x0), .val (.int x1), .val (.int x2), .val (.int x3), .val (.int x4), .val (.int cap), .val (.int n), .val (.ref b6), .val (.ref b14), .val (.ref b25), .val (.ref b110), .val (.int (1 : Int32)), .val (.ref b6), .val (.ref bt289), .unset, .unset]) rfl ?_
            show Steps _ _ _ (T289.setTop (mkF m 169 #[.val (.int x0), .val (.int x1), .val (.int x2), .val (.int x3), .val (.int x4), .val (.int cap), .val (.int n), .val (.ref b6), .val (.ref b14), .val (.ref b25), .val (.ref b110), .val (.int (1 : Int32)), .val (.ref b6), .val (.ref bt289), .unset, .unset] [])) _
            refine XS.aload X289.here hx rfl (hb hby at_169) rfl rfl ?_
            exact Steps.refl _)
        obtain ⟨cq306, kq306, q306a, q306b, q306c⟩ := isOf hZ rfl f297
        obtain ⟨_, _, ⟨T306, L306, k306, n306⟩, -, X306, ⟨Lc306, hQ306, l306, y306, z306⟩, sr306⟩ := X289.virtualBack hx (y := (⟨"com/example/tideloop/tideloop/MessagePool", "take", "()Lcom/example/tideloop/tideloop/Message;"⟩ : MethodName)) (z := (⟨"com/example/tideloop/tideloop/MessagePool", "take", "()Lcom/example/tideloop/tideloop/Message;"⟩ : MethodName)) hown (mvT hZ (hw _ (List.mem_of_getElem? (i := 36) rfl))) (mvT hZ (hw _ (List.mem_of_getElem? (i := 37) rfl))) (notFace_of_selects (args := #[]) (mvT hZ (hw _ (List.mem_of_getElem? (i := 39) rfl)))) (mvT hZ (hw _ (List.mem_of_getElem? (i := 39) rfl))) (mvT hZ (hw _ (List.mem_of_getElem? (i := 38) rfl))) (by decide) (backOf (W := 0) (rmtk0 l Z a0 hw [] b110  T289.heap n0 Z303 f297 f300) hZ (hw _ (List.mem_of_getElem? (i := 40) rfl)) (hw _ (List.mem_of_getElem? (i := 15) rfl)) (by decide) (by decide)) q306a q306c (g := (mkF m 171 #[.val (.int x0), .val (.int x1), .val (.int x2), .val (.int x3), .val (.int x4), .val (.int cap), .val (.int n), .val (.ref b6), .val (.ref b14), .val (.ref b25), .val (.ref b110), .val (.int (1 : Int32)), .val (.ref b6), .val (.ref bt289), .unset, .unset] [(.ref b110)])) rfl (by rw [hml]; rfl) (Steps.refl _) (argsL := []) (rest := []) (lenOf pd_3 rfl) rfl (by show 2 * 0 + _ ≤ _; exact Nat.le_of_eq rfl) (hb hby at_171) (fun _ _ => ⟨rfl, rfl, (by decide : 5 + 1 ≤ _), (by decide : 79 + 19 ≤ _)⟩)
        dsimp only [Pt.U, Pt.locs, Pt.cells, Pt.slots] at X306 l306 y306 z306 sr306 hQ306
        subst l306 y306 z306
        obtain ⟨rfl, N306q, K306c, ⟨qe306, qn306, qw306⟩⟩ := hQ306
        have N306 := Fr.app N289 N306q
        obtain ⟨LL306, X306, N306⟩ := own_hide X306 N306
        have f307 : Exa Z T306.heap b6 "com/example/tideloop/tideloop/Message" := f290.keep K306c
        have f308 : Exa Z T306.heap b14 "com/example/tideloop/tideloop/Message" := f291.keep K306c
        have f309 : Exa Z T306.heap b25 "com/example/tideloop/tideloop/Message" := f292.keep K306c
        have f310 : Fld Z T306.heap b14 "com/example/tideloop/tideloop/Message" "what" "I" (.int x3) := f293.keep K306c nin0
        have f311 : Fld Z T306.heap b25 "com/example/tideloop/tideloop/Message" "what" "I" (.int x4) := f294.keep K306c nin0
        have f312 : Fld Z T306.heap b14 "com/example/tideloop/tideloop/Message" "nextPooled" "Lcom/example/tideloop/tideloop/Message;" (.ref b6) := f295.keep K306c nin0
        have f313 : Fld Z T306.heap b25 "com/example/tideloop/tideloop/Message" "nextPooled" "Lcom/example/tideloop/tideloop/Message;" (.ref b14) := f296.keep K306c nin0
        have f314 : Exa Z T306.heap b110 "com/example/tideloop/tideloop/MessagePool" := f297.keep K306c
        have f315 : Fld Z T306.heap b110 "com/example/tideloop/tideloop/MessagePool" "size" "I" (.int (((0 : Int32) + (1 : Int32)) - (1 : Int32))) := f298.keep K306c nin0
        have f316 : Fld Z T306.heap b110 "com/example/tideloop/tideloop/MessagePool" "capacity" "I" (.int cap) := f299.keep K306c nin0
        have f317 : Fld Z T306.heap b110 "com/example/tideloop/tideloop/MessagePool" "head" "Lcom/example/tideloop/tideloop/Message;" .null := f300.keep K306c nin0
        have f318 : Fld Z T306.heap b6 "com/example/tideloop/tideloop/Message" "what" "I" (.int x2) := f301.keep K306c nin0
        have f319 : Fld Z T306.heap b6 "com/example/tideloop/tideloop/Message" "nextPooled" "Lcom/example/tideloop/tideloop/Message;" .null := f302.keep K306c nin0
        have f320 : Exa Z T306.heap bt289 "com/example/tideloop/tideloop/Message" := qe289.keep K306c
        have f321 : Fld Z T306.heap bt289 "com/example/tideloop/tideloop/Message" "nextPooled" "Lcom/example/tideloop/tideloop/Message;" .null := qn289.keep K306c nin0
        have f322 : Fld Z T306.heap bt289 "com/example/tideloop/tideloop/Message" "what" "I" (.int (0 : Int32)) := qw289.keep K306c nin0
        have Z323 : n0 ≤ T306.heap.size := Nat.le_trans Z303 K306c.1
        obtain ⟨bt306, g306⟩ : ∃ z, z = T289.heap.size := ⟨_, rfl⟩
        rw [← g306] at qe306 qn306 qw306 sr306
        have g_bt306 : n0 ≤ bt306 := Nat.le_trans Z303 (Nat.le_of_eq g306.symm)
        have ne_b6_bt306 : b6 ≠ bt306 := Nat.ne_of_lt (Nat.lt_of_lt_of_le f290.lt (Nat.le_of_eq g306.symm))
        have ne_b14_bt306 : b14 ≠ bt306 := Nat.ne_of_lt (Nat.lt_of_lt_of_le f291.lt (Nat.le_of_eq g306.symm))
        have ne_b25_bt306 : b25 ≠ bt306 := Nat.ne_of_lt (Nat.lt_of_lt_of_le f292.lt (Nat.le_of_eq g306.symm))
        have ne_b110_bt306 : b110 ≠ bt306 := Nat.ne_of_lt (Nat.lt_of_lt_of_le f297.lt (Nat.le_of_eq g306.symm))
        have ne_bt289_bt306 : bt289 ≠ bt306 := Nat.ne_of_lt (Nat.lt_of_lt_of_le qe289.lt (Nat.le_of_eq g306.symm))
        have st324 : Steps p.tables e below sE (T306.setTop (mkF m 174 #[.val (.int x0), .val (.int x1), .val (.int x2), .val (.int x3), .val (.int x4), .val (.int cap), .val (.int n), .val (.ref b6), .val (.ref b14), .val (.ref b25), .val (.ref b110), .val (.int (1 : Int32)), .val (.ref b6), .val (.ref bt289), .unset, .unset] [(.ref bt306)])) := st305.trans (sr306)
        have st325 : Steps p.tables e below sE (T306.setTop (mkF m 178 #[.val (.int x0), .val (.int x1), .val (.int x2), .val (.int x3), .val (.int x4), .val (.int cap), .val (.int n), .val (.ref b6), .val (.ref b14), .val (.ref b25), .val (.ref b110), .val (.int (1 : Int32)), .val (.ref b6), .val (.ref bt289), .val (.ref bt306), .unset] [(.ref b110)])) := st324.trans (by
            show Steps _ _ _ (T306.setTop (mkF m 174 #[.val (.int x0), .val (.int x1), .val (.int x2), .val (.int x3), .val (.int x4), .val (.int cap), .val (.int n), .val (.ref b6), .val (.ref b14), .val (.ref b25), .val (.ref b110), .val (.int (1 : Int32)), .val (.ref b6), .val (.ref bt289), .unset, .unset] [(.ref bt306)])) _
            refine XS.astore X306.here hx rfl (hb hby at_174) rfl rfl (l' := #[.val (.int x0), .val (.int x1), .val (.int x2), .val (.int x3), .val (.int x4), .val (.int cap), .val (.int n), .val (.ref b6), .val (.ref b14), .val (.ref b25), .val (.ref b110), .val (.int (1 : Int32)), .val (.ref b6), .val (.ref bt289), .val (.ref bt306), .unset]) rfl ?_
            show Steps _ _ _ (T306.setTop (mkF m 176 #[.val (.int x0), .val (.int x1), .val (.int x2), .val (.int x3), .val (.int x4), .val (.int cap), .val (.int n), .val (.ref b6), .val (.ref b14), .val (.ref b25), .val (.ref b110), .val (.int (1 : Int32)), .val (.ref b6), .val (.ref bt289), .val (.ref bt306), .unset] [])) _
            refine XS.aload X306.here hx rfl (hb hby at_176) rfl rfl ?_
            exact Steps.refl _)
        obtain ⟨cq326, kq326, q326a, q326b, q326c⟩ := isOf hZ rfl f314
        obtain ⟨_, _, ⟨T326, L326, k326, n326⟩, -, X326, ⟨Lc326, hQ326, l326, y326, z326⟩, sr326⟩ := X306.virtualBack hx (y := (⟨"com/example/tideloop/tideloop/MessagePool", "take", "()Lcom/example/tideloop/tideloop/Message;"⟩ : MethodName)) (z := (⟨"com/example/tideloop/tideloop/MessagePool", "take", "()Lcom/example/tideloop/tideloop/Message;"⟩ : MethodName)) hown (mvT hZ (hw _ (List.mem_of_getElem? (i := 36) rfl))) (mvT hZ (hw _ (List.mem_of_getElem? (i := 37) rfl))) (notFace_of_selects (args := #[]) (mvT hZ (hw _ (List.mem_of_getElem? (i := 39) rfl)))) (mvT hZ (hw _ (List.mem_of_getElem? (i := 39) rfl))) (mvT hZ (hw _ (List.mem_of_getElem? (i := 38) rfl))) (by decide) (backOf (W := 0) (rmtk0 l Z a0 hw [] b110  T306.heap n0 Z323 f314 f317) hZ (hw _ (List.mem_of_getElem? (i := 40) rfl)) (hw _ (List.mem_of_getElem? (i := 15) rfl)) (by decide) (by decide)) q326a q326c (g := (mkF m 178 #[.val (.int x0), .val (.int x1), .val (.int x2), .val (.int x3), .val (.int x4), .val (.int cap), .val (.int n), .val (.ref b6), .val (.ref b14), .val (.ref b25), .val (.ref b110), .val (.int (1 : Int32)), .val (.ref b6), .val (.ref bt289), .val (.ref bt306), .unset] [(.ref b110)])) rfl (by rw [hml]; rfl) (Steps.refl _) (argsL := []) (rest := []) (lenOf pd_3 rfl) rfl (by show 2 * 0 + _ ≤ _; exact Nat.le_of_eq rfl) (hb hby at_178) (fun _ _ => ⟨rfl, rfl, (by decide : 6 + 1 ≤ _), (by decide : 98 + 19 ≤ _)⟩)
        dsimp only [Pt.U, Pt.locs, Pt.cells, Pt.slots] at X326 l326 y326 z326 sr326 hQ326
        subst l326 y326 z326
        obtain ⟨rfl, N326q, K326c, ⟨qe326, qn326, qw326⟩⟩ := hQ326
        have N326 := Fr.app N306 N326q
        obtain ⟨LL326, X326, N326⟩ := own_hide X326 N326
        have f327 : Exa Z T326.heap b6 "com/example/tideloop/tideloop/Message" := f307.keep K326c
        have f328 : Exa Z T326.heap b14 "com/example/tideloop/tideloop/Message" := f308.keep K326c
        have f329 : Exa Z T326.heap b25 "com/example/tideloop/tideloop/Message" := f309.keep K326c
        have f330 : Fld Z T326.heap b14 "com/example/tideloop/tideloop/Message" "what" "I" (.int x3) := f310.keep K326c nin0
        have f331 : Fld Z T326.heap b25 "com/example/tideloop/tideloop/Message" "what" "I" (.int x4) := f311.keep K326c nin0
        have f332 : Fld Z T326.heap b14 "com/example/tideloop/tideloop/Message" "nextPooled" "Lcom/example/tideloop/tideloop/Message;" (.ref b6) := f312.keep K326c nin0
        have f333 : Fld Z T326.heap b25 "com/example/tideloop/tideloop/Message" "nextPooled" "Lcom/example/tideloop/tideloop/Message;" (.ref b14) := f313.keep K326c nin0
        have f334 : Exa Z T326.heap b110 "com/example/tideloop/tideloop/MessagePool" := f314.keep K326c
        have f335 : Fld Z T326.heap b110 "com/example/tideloop/tideloop/MessagePool" "size" "I" (.int (((0 : Int32) + (1 : Int32)) - (1 : Int32))) := f315.keep K326c nin0
        have f336 : Fld Z T326.heap b110 "com/example/tideloop/tideloop/MessagePool" "capacity" "I" (.int cap) := f316.keep K326c nin0
        have f337 : Fld Z T326.heap b110 "com/example/tideloop/tideloop/MessagePool" "head" "Lcom/example/tideloop/tideloop/Message;" .null := f317.keep K326c nin0
        have f338 : Fld Z T326.heap b6 "com/example/tideloop/tideloop/Message" "what" "I" (.int x2) := f318.keep K326c nin0
        have f339 : Fld Z T326.heap b6 "com/example/tideloop/tideloop/Message" "nextPooled" "Lcom/example/tideloop/tideloop/Message;" .null := f319.keep K326c nin0
        have f340 : Exa Z T326.heap bt289 "com/example/tideloop/tideloop/Message" := f320.keep K326c
        have f341 : Fld Z T326.heap bt289 "com/example/tideloop/tideloop/Message" "nextPooled" "Lcom/example/tideloop/tideloop/Message;" .null := f321.keep K326c nin0
        have f342 : Fld Z T326.heap bt289 "com/example/tideloop/tideloop/Message" "what" "I" (.int (0 : Int32)) := f322.keep K326c nin0
        have f343 : Exa Z T326.heap bt306 "com/example/tideloop/tideloop/Message" := qe306.keep K326c
        have f344 : Fld Z T326.heap bt306 "com/example/tideloop/tideloop/Message" "nextPooled" "Lcom/example/tideloop/tideloop/Message;" .null := qn306.keep K326c nin0
        have f345 : Fld Z T326.heap bt306 "com/example/tideloop/tideloop/Message" "what" "I" (.int (0 : Int32)) := qw306.keep K326c nin0
        have Z346 : n0 ≤ T326.heap.size := Nat.le_trans Z323 K326c.1
        obtain ⟨bt326, g326⟩ : ∃ z, z = T306.heap.size := ⟨_, rfl⟩
        rw [← g326] at qe326 qn326 qw326 sr326
        have g_bt326 : n0 ≤ bt326 := Nat.le_trans Z323 (Nat.le_of_eq g326.symm)
        have ne_b6_bt326 : b6 ≠ bt326 := Nat.ne_of_lt (Nat.lt_of_lt_of_le f307.lt (Nat.le_of_eq g326.symm))
        have ne_b14_bt326 : b14 ≠ bt326 := Nat.ne_of_lt (Nat.lt_of_lt_of_le f308.lt (Nat.le_of_eq g326.symm))
        have ne_b25_bt326 : b25 ≠ bt326 := Nat.ne_of_lt (Nat.lt_of_lt_of_le f309.lt (Nat.le_of_eq g326.symm))
        have ne_b110_bt326 : b110 ≠ bt326 := Nat.ne_of_lt (Nat.lt_of_lt_of_le f314.lt (Nat.le_of_eq g326.symm))
        have ne_bt289_bt326 : bt289 ≠ bt326 := Nat.ne_of_lt (Nat.lt_of_lt_of_le f320.lt (Nat.le_of_eq g326.symm))
        have ne_bt306_bt326 : bt306 ≠ bt326 := Nat.ne_of_lt (Nat.lt_of_lt_of_le qe306.lt (Nat.le_of_eq g326.symm))
        have st347 : Steps p.tables e below sE (T326.setTop (mkF m 181 #[.val (.int x0), .val (.int x1), .val (.int x2), .val (.int x3), .val (.int x4), .val (.int cap), .val (.int n), .val (.ref b6), .val (.ref b14), .val (.ref b25), .val (.ref b110), .val (.int (1 : Int32)), .val (.ref b6), .val (.ref bt289), .val (.ref bt306), .unset] [(.ref bt326)])) := st325.trans (sr326)
        have st348 : Steps p.tables e below sE (T326.setTop (mkF m 198 #[.val (.int x0), .val (.int x1), .val (.int x2), .val (.int x3), .val (.int x4), .val (.int cap), .val (.int n), .val (.ref b6), .val (.ref b14), .val (.ref b25), .val (.ref b110), .val (.int (1 : Int32)), .val (.ref b6), .val (.ref bt289), .val (.ref bt306), .val (.ref bt326)] [(.int x4), (.int x3), (.int x2), (.ref b25), (.ref b14), (.ref b6), (.int (1 : Int32)), (.int (1 : Int32)), (.ref b6)])) := st347.trans (by
            show Steps _ _ _ (T326.setTop (mkF m 181 #[.val (.int x0), .val (.int x1), .val (.int x2), .val (.int x3), .val (.int x4), .val (.int cap), .val (.int n), .val (.ref b6), .val (.ref b14), .val (.ref b25), .val (.ref b110), .val (.int (1 : Int32)), .val (.ref b6), .val (.ref bt289), .val (.ref bt306), .unset] [(.ref bt326)])) _
            refine XS.astore X326.here hx rfl (hb hby at_181) rfl rfl (l' := #[.val (.int x0), .val (.int x1), .val (.int x2), .val (.int x3), .val (.int x4), .val (.int cap), .val (.int n), .val (.ref b6), .val (.ref b14), .val (.ref b25), .val (.ref b110), .val (.int (1 : Int32)), .val (.ref b6), .val (.ref bt289), .val (.ref bt306), .val (.ref bt326)]) rfl ?_
            show Steps _ _ _ (T326.setTop (mkF m 183 #[.val (.int x0), .val (.int x1), .val (.int x2), .val (.int x3), .val (.int x4), .val (.int cap), .val (.int n), .val (.ref b6), .val (.ref b14), .val (.ref b25), .val (.ref b110), .val (.int (1 : Int32)), .val (.ref b6), .val (.ref bt289), .val (.ref bt306), .val (.ref bt326)] [])) _
            refine XS.aload X326.here hx rfl (hb hby at_183) rfl rfl ?_
            show Steps _ _ _ (T326.setTop (mkF m 185 #[.val (.int x0), .val (.int x1), .val (.int x2), .val (.int x3), .val (.int x4), .val (.int cap), .val (.int n), .val (.ref b6), .val (.ref b14), .val (.ref b25), .val (.ref b110), .val (.int (1 : Int32)), .val (.ref b6), .val (.ref bt289), .val (.ref bt306), .val (.ref bt326)] [(.ref b6)])) _
            refine XS.iconst X326.here hx rfl (hb hby at_185) ?_
            show Steps _ _ _ (T326.setTop (mkF m 186 #[.val (.int x0), .val (.int x1), .val (.int x2), .val (.int x3), .val (.int x4), .val (.int cap), .val (.int n), .val (.ref b6), .val (.ref b14), .val (.ref b25), .val (.ref b110), .val (.int (1 : Int32)), .val (.ref b6), .val (.ref bt289), .val (.ref bt306), .val (.ref bt326)] [(.int (1 : Int32)), (.ref b6)])) _
            refine XS.iload X326.here hx rfl (hb hby at_186) rfl ?_
            show Steps _ _ _ (T326.setTop (mkF m 188 #[.val (.int x0), .val (.int x1), .val (.int x2), .val (.int x3), .val (.int x4), .val (.int cap), .val (.int n), .val (.ref b6), .val (.ref b14), .val (.ref b25), .val (.ref b110), .val (.int (1 : Int32)), .val (.ref b6), .val (.ref bt289), .val (.ref bt306), .val (.ref bt326)] [(.int (1 : Int32)), (.int (1 : Int32)), (.ref b6)])) _
            refine XS.aload X326.here hx rfl (hb hby at_188) rfl rfl ?_
            show Steps _ _ _ (T326.setTop (mkF m 190 #[.val (.int x0), .val (.int x1), .val (.int x2), .val (.int x3), .val (.int x4), .val (.int cap), .val (.int n), .val (.ref b6), .val (.ref b14), .val (.ref b25), .val (.ref b110), .val (.int (1 : Int32)), .val (.ref b6), .val (.ref bt289), .val (.ref bt306), .val (.ref bt326)] [(.ref b6), (.int (1 : Int32)), (.int (1 : Int32)), (.ref b6)])) _
            refine XS.aload X326.here hx rfl (hb hby at_190) rfl rfl ?_
            show Steps _ _ _ (T326.setTop (mkF m 192 #[.val (.int x0), .val (.int x1), .val (.int x2), .val (.int x3), .val (.int x4), .val (.int cap), .val (.int n), .val (.ref b6), .val (.ref b14), .val (.ref b25), .val (.ref b110), .val (.int (1 : Int32)), .val (.ref b6), .val (.ref bt289), .val (.ref bt306), .val (.ref bt326)] [(.ref b14), (.ref b6), (.int (1 : Int32)), (.int (1 : Int32)), (.ref b6)])) _
            refine XS.aload X326.here hx rfl (hb hby at_192) rfl rfl ?_
            show Steps _ _ _ (T326.setTop (mkF m 194 #[.val (.int x0), .val (.int x1), .val (.int x2), .val (.int x3), .val (.int x4), .val (.int cap), .val (.int n), .val (.ref b6), .val (.ref b14), .val (.ref b25), .val (.ref b110), .val (.int (1 : Int32)), .val (.ref b6), .val (.ref bt289), .val (.ref bt306), .val (.ref bt326)] [(.ref b25), (.ref b14), (.ref b6), (.int (1 : Int32)), (.int (1 : Int32)), (.ref b6)])) _
            refine XS.iloadN X326.here hx rfl (hb hby at_194) rfl ?_
            show Steps _ _ _ (T326.setTop (mkF m 195 #[.val (.int x0), .val (.int x1), .val (.int x2), .val (.int x3), .val (.int x4), .val (.int cap), .val (.int n), .val (.ref b6), .val (.ref b14), .val (.ref b25), .val (.ref b110), .val (.int (1 : Int32)), .val (.ref b6), .val (.ref bt289), .val (.ref bt306), .val (.ref bt326)] [(.int x2), (.ref b25), (.ref b14), (.ref b6), (.int (1 : Int32)), (.int (1 : Int32)), (.ref b6)])) _
            refine XS.iloadN X326.here hx rfl (hb hby at_195) rfl ?_
            show Steps _ _ _ (T326.setTop (mkF m 196 #[.val (.int x0), .val (.int x1), .val (.int x2), .val (.int x3), .val (.int x4), .val (.int cap), .val (.int n), .val (.ref b6), .val (.ref b14), .val (.ref b25), .val (.ref b110), .val (.int (1 : Int32)), .val (.ref b6), .val (.ref bt289), .val (.ref bt306), .val (.ref bt326)] [(.int x3), (.int x2), (.ref b25), (.ref b14), (.ref b6), (.int (1 : Int32)), (.int (1 : Int32)), (.ref b6)])) _
            refine XS.iload X326.here hx rfl (hb hby at_196) rfl ?_
            exact Steps.refl _)
        obtain ⟨_, _, ⟨T349, L349, k349, n349⟩, -, X349, ⟨Lc349, hQ349, l349, y349, z349⟩, sr349⟩ := Jvm.LawKit.callS X326 hx (y := (⟨"com/example/tideloop/tideloop/MessagePoolKeepPinLaw", "check", "(Lcom/example/tideloop/tideloop/Message;IILcom/example/tideloop/tideloop/Message;Lcom/example/tideloop/tideloop/Message;Lcom/example/tideloop/tideloop/Message;III)Z"⟩ : MethodName)) hown (mvT hZ (hw _ (List.mem_of_getElem? (i := 45) rfl))) (mvT hZ (hw _ (List.mem_of_getElem? (i := 46) rfl))) (mvT hZ (hw _ (List.mem_of_getElem? (i := 47) rfl))) (mvT hZ (hw _ (List.mem_of_getElem? (i := 48) rfl))) (by decide) (backOf (W := 0) (rm8 l Z a0 hw [] b6 (1 : Int32) (1 : Int32) b6 b14 b25 x2 x3 x4 x2 T326.heap n0 Z346 f339 f338) hZ (hw _ (List.mem_of_getElem? (i := 48) rfl)) (hw _ (List.mem_of_getElem? (i := 47) rfl)) (by decide) (by decide)) (g := (mkF m 198 #[.val (.int x0), .val (.int x1), .val (.int x2), .val (.int x3), .val (.int x4), .val (.int cap), .val (.int n), .val (.ref b6), .val (.ref b14), .val (.ref b25), .val (.ref b110), .val (.int (1 : Int32)), .val (.ref b6), .val (.ref bt289), .val (.ref bt306), .val (.ref bt326)] [(.int x4), (.int x3), (.int x2), (.ref b25), (.ref b14), (.ref b6), (.int (1 : Int32)), (.int (1 : Int32)), (.ref b6)])) rfl (by rw [hml]; rfl) (argsL := [(.ref b6), (.int (1 : Int32)), (.int (1 : Int32)), (.ref b6), (.ref b14), (.ref b25), (.int x2), (.int x3), (.int x4)]) (rest := []) (lenOf pd_4 rfl) rfl (by show 2 * 0 + _ ≤ _; exact Nat.le_of_eq rfl) (hb hby at_198) (fun _ _ => ⟨rfl, rfl, (by decide : 7 + 0 ≤ _), (by decide : 117 + 0 ≤ _)⟩)
        dsimp only [Pt.U, Pt.locs, Pt.cells, Pt.slots] at X349 l349 y349 z349 sr349 hQ349
        subst l349 y349 z349
        obtain ⟨rfl, N349q, hh349⟩ := hQ349
        have N349 := Fr.app N326 N349q
        obtain ⟨LL349, X349, N349⟩ := own_hide X349 N349
        have st350 : Steps p.tables e below sE (T349.setTop (mkF m 201 #[.val (.int x0), .val (.int x1), .val (.int x2), .val (.int x3), .val (.int x4), .val (.int cap), .val (.int n), .val (.ref b6), .val (.ref b14), .val (.ref b25), .val (.ref b110), .val (.int (1 : Int32)), .val (.ref b6), .val (.ref bt289), .val (.ref bt306), .val (.ref bt326)] [(.int (F8 b6 (1 : Int32) (1 : Int32) b6 b14 b25 x2 x3 x4 x2))])) := st348.trans (sr349 _ (Steps.refl _))
        have hf351 : ¬ ((F8 b6 (1 : Int32) (1 : Int32) b6 b14 b25 x2 x3 x4 x2) = (0 : Int32)) := by simp +decide [F8]
        have st352 : Steps p.tables e below sE (T349.setTop (mkF m 219 #[.val (.int x0), .val (.int x1), .val (.int x2), .val (.int x3), .val (.int x4), .val (.int cap), .val (.int n), .val (.ref b6), .val (.ref b14), .val (.ref b25), .val (.ref b110), .val (.int (1 : Int32)), .val (.ref b6), .val (.ref bt289), .val (.ref bt306), .val (.ref bt326)] [(.int x4), (.int x3), (.int x2), (.ref b25), (.ref b14), (.ref b6), (.int (1 : Int32)), (.int (2 : Int32)), (.ref bt289)])) := st350.trans (by
            show Steps _ _ _ (T349.setTop (mkF m 201 #[.val (.int x0), .val (.int x1), .val (.int x2), .val (.int x3), .val (.int x4), .val (.int cap), .val (.int n), .val (.ref b6), .val (.ref b14), .val (.ref b25), .val (.ref b110), .val (.int (1 : Int32)), .val (.ref b6), .val (.ref bt289), .val (.ref bt306), .val (.ref bt326)] [(.int (F8 b6 (1 : Int32) (1 : Int32) b6 b14 b25 x2 x3 x4 x2))])) _
            refine XS.ifNo X349.here hx rfl (hb hby at_201) rfl ((if0 _ _).trans (feq hf351).1) ?_
            show Steps _ _ _ (T349.setTop (mkF m 204 #[.val (.int x0), .val (.int x1), .val (.int x2), .val (.int x3), .val (.int x4), .val (.int cap), .val (.int n), .val (.ref b6), .val (.ref b14), .val (.ref b25), .val (.ref b110), .val (.int (1 : Int32)), .val (.ref b6), .val (.ref bt289), .val (.ref bt306), .val (.ref bt326)] [])) _
            refine XS.aload X349.here hx rfl (hb hby at_204) rfl rfl ?_
            show Steps _ _ _ (T349.setTop (mkF m 206 #[.val (.int x0), .val (.int x1), .val (.int x2), .val (.int x3), .val (.int x4), .val (.int cap), .val (.int n), .val (.ref b6), .val (.ref b14), .val (.ref b25), .val (.ref b110), .val (.int (1 : Int32)), .val (.ref b6), .val (.ref bt289), .val (.ref bt306), .val (.ref bt326)] [(.ref bt289)])) _
            refine XS.iconst X349.here hx rfl (hb hby at_206) ?_
            show Steps _ _ _ (T349.setTop (mkF m 207 #[.val (.int x0), .val (.int x1), .val (.int x2), .val (.int x3), .val (.int x4), .val (.int cap), .val (.int n), .val (.ref b6), .val (.ref b14), .val (.ref b25), .val (.ref b110), .val (.int (1 : Int32)), .val (.ref b6), .val (.ref bt289), .val (.ref bt306), .val (.ref bt326)] [(.int (2 : Int32)), (.ref bt289)])) _
            refine XS.iload X349.here hx rfl (hb hby at_207) rfl ?_
            show Steps _ _ _ (T349.setTop (mkF m 209 #[.val (.int x0), .val (.int x1), .val (.int x2), .val (.int x3), .val (.int x4), .val (.int cap), .val (.int n), .val (.ref b6), .val (.ref b14), .val (.ref b25), .val (.ref b110), .val (.int (1 : Int32)), .val (.ref b6), .val (.ref bt289), .val (.ref bt306), .val (.ref bt326)] [(.int (1 : Int32)), (.int (2 : Int32)), (.ref bt289)])) _
            refine XS.aload X349.here hx rfl (hb hby at_209) rfl rfl ?_
            show Steps _ _ _ (T349.setTop (mkF m 211 #[.val (.int x0), .val (.int x1), .val (.int x2), .val (.int x3), .val (.int x4), .val (.int cap), .val (.int n), .val (.ref b6), .val (.ref b14), .val (.ref b25), .val (.ref b110), .val (.int (1 : Int32)), .val (.ref b6), .val (.ref bt289), .val (.ref bt306), .val (.ref bt326)] [(.ref b6), (.int (1 : Int32)), (.int (2 : Int32)), (.ref bt289)])) _
            refine XS.aload X349.here hx rfl (hb hby at_211) rfl rfl ?_
            show Steps _ _ _ (T349.setTop (mkF m 213 #[.val (.int x0), .val (.int x1), .val (.int x2), .val (.int x3), .val (.int x4), .val (.int cap), .val (.int n), .val (.ref b6), .val (.ref b14), .val (.ref b25), .val (.ref b110), .val (.int (1 : Int32)), .val (.ref b6), .val (.ref bt289), .val (.ref bt306), .val (.ref bt326)] [(.ref b14), (.ref b6), (.int (1 : Int32)), (.int (2 : Int32)), (.ref bt289)])) _
            refine XS.aload X349.here hx rfl (hb hby at_213) rfl rfl ?_
            show Steps _ _ _ (T349.setTop (mkF m 215 #[.val (.int x0), .val (.int x1), .val (.int x2), .val (.int x3), .val (.int x4), .val (.int cap), .val (.int n), .val (.ref b6), .val (.ref b14), .val (.ref b25), .val (.ref b110), .val (.int (1 : Int32)), .val (.ref b6), .val (.ref bt289), .val (.ref bt306), .val (.ref bt326)] [(.ref b25), (.ref b14), (.ref b6), (.int (1 : Int32)), (.int (2 : Int32)), (.ref bt289)])) _
            refine XS.iloadN X349.here hx rfl (hb hby at_215) rfl ?_
            show Steps _ _ _ (T349.setTop (mkF m 216 #[.val (.int x0), .val (.int x1), .val (.int x2), .val (.int x3), .val (.int x4), .val (.int cap), .val (.int n), .val (.ref b6), .val (.ref b14), .val (.ref b25), .val (.ref b110), .val (.int (1 : Int32)), .val (.ref b6), .val (.ref bt289), .val (.ref bt306), .val (.ref bt326)] [(.int x2), (.ref b25), (.ref b14), (.ref b6), (.int (1 : Int32)), (.int (2 : Int32)), (.ref bt289)])) _
            refine XS.iloadN X349.here hx rfl (hb hby at_216) rfl ?_
            show Steps _ _ _ (T349.setTop (mkF m 217 #[.val (.int x0), .val (.int x1), .val (.int x2), .val (.int x3), .val (.int x4), .val (.int cap), .val (.int n), .val (.ref b6), .val (.ref b14), .val (.ref b25), .val (.ref b110), .val (.int (1 : Int32)), .val (.ref b6), .val (.ref bt289), .val (.ref bt306), .val (.ref bt326)] [(.int x3), (.int x2), (.ref b25), (.ref b14), (.ref b6), (.int (1 : Int32)), (.int (2 : Int32)), (.ref bt289)])) _
            refine XS.iload X349.here hx rfl (hb hby at_217) rfl ?_
            exact Steps.refl _)
        obtain ⟨_, _, ⟨T353, L353, k353, n353⟩, -, X353, ⟨Lc353, hQ353, l353, y353, z353⟩, sr353⟩ := Jvm.LawKit.callS X349 hx (y := (⟨"com/example/tideloop/tideloop/MessagePoolKeepPinLaw", "check", "(Lcom/example/tideloop/tideloop/Message;IILcom/example/tideloop/tideloop/Message;Lcom/example/tideloop/tideloop/Message;Lcom/example/tideloop/tideloop/Message;III)Z"⟩ : MethodName)) hown (mvT hZ (hw _ (List.mem_of_getElem? (i := 45) rfl))) (mvT hZ (hw _ (List.mem_of_getElem? (i := 46) rfl))) (mvT hZ (hw _ (List.mem_of_getElem? (i := 47) rfl))) (mvT hZ (hw _ (List.mem_of_getElem? (i := 48) rfl))) (by decide) (backOf (W := 0) (rm8 l Z a0 hw [] bt289 (2 : Int32) (1 : Int32) b6 b14 b25 x2 x3 x4 (0 : Int32) T326.heap n0 Z346 f341 f342) hZ (hw _ (List.mem_of_getElem? (i := 48) rfl)) (hw _ (List.mem_of_getElem? (i := 47) rfl)) (by decide) (by decide)) (g := (mkF m 219 #[.val (.int x0), .val (.int x1), .val (.int x2), .val (.int x3), .val (.int x4), .val (.int cap), .val (.int n), .val (.ref b6), .val (.ref b14), .val (.ref b25), .val (.ref b110), .val (.int (1 : Int32)), .val (.ref b6), .val (.ref bt289), .val (.ref bt306), .val (.ref bt326)] [(.int x4), (.int x3), (.int x2), (.ref b25), (.ref b14), (.ref b6), (.int (1 : Int32)), (.int (2 : Int32)), (.ref bt289)])) rfl (by rw [hml]; rfl) (argsL := [(.ref bt289), (.int (2 : Int32)), (.int (1 : Int32)), (.ref b6), (.ref b14), (.ref b25), (.int x2), (.int x3), (.int x4)]) (rest := []) (lenOf pd_4 rfl) rfl (by show 2 * 0 + _ ≤ _; exact Nat.le_of_eq rfl) (hb hby at_219) (fun _ _ => ⟨rfl, hh349, (by decide : 7 + 0 ≤ _), (by decide : 117 + 0 ≤ _)⟩)
        dsimp only [Pt.U, Pt.locs, Pt.cells, Pt.slots] at X353 l353 y353 z353 sr353 hQ353
        subst l353 y353 z353
        obtain ⟨rfl, N353q, hh353⟩ := hQ353
        have N353 := Fr.app N349 N353q
        obtain ⟨LL353, X353, N353⟩ := own_hide X353 N353
        have st354 : Steps p.tables e below sE (T353.setTop (mkF m 222 #[.val (.int x0), .val (.int x1), .val (.int x2), .val (.int x3), .val (.int x4), .val (.int cap), .val (.int n), .val (.ref b6), .val (.ref b14), .val (.ref b25), .val (.ref b110), .val (.int (1 : Int32)), .val (.ref b6), .val (.ref bt289), .val (.ref bt306), .val (.ref bt326)] [(.int (F8 bt289 (2 : Int32) (1 : Int32) b6 b14 b25 x2 x3 x4 (0 : Int32)))])) := st352.trans (sr353 _ (Steps.refl _))
        have hf355 : ¬ ((F8 bt289 (2 : Int32) (1 : Int32) b6 b14 b25 x2 x3 x4 (0 : Int32)) = (0 : Int32)) := by simp +decide [F8, (Ne.symm ne_b6_bt289), (Ne.symm ne_b14_bt289), (Ne.symm ne_b25_bt289)]
        have st356 : Steps p.tables e below sE (T353.setTop (mkF m 240 #[.val (.int x0), .val (.int x1), .val (.int x2), .val (.int x3), .val (.int x4), .val (.int cap), .val (.int n), .val (.ref b6), .val (.ref b14), .val (.ref b25), .val (.ref b110), .val (.int (1 : Int32)), .val (.ref b6), .val (.ref bt289), .val (.ref bt306), .val (.ref bt326)] [(.int x4), (.int x3), (.int x2), (.ref b25), (.ref b14), (.ref b6), (.int (1 : Int32)), (.int (3 : Int32)), (.ref bt306)])) := st354.trans (by
            show Steps _ _ _ (T353.setTop (mkF m 222 #[.val (.int x0), .val (.int x1), .val (.int x2), .val (.int x3), .val (.int x4), .val (.int cap), .val (.int n), .val (.ref b6), .val (.ref b14), .val (.ref b25), .val (.ref b110), .val (.int (1 : Int32)), .val (.ref b6), .val (.ref bt289), .val (.ref bt306), .val (.ref bt326)] [(.int (F8 bt289 (2 : Int32) (1 : Int32) b6 b14 b25 x2 x3 x4 (0 : Int32)))])) _
            refine XS.ifNo X353.here hx rfl (hb hby at_222) rfl ((if0 _ _).trans (feq hf355).1) ?_
            show Steps _ _ _ (T353.setTop (mkF m 225 #[.val (.int x0), .val (.int x1), .val (.int x2), .val (.int x3), .val (.int x4), .val (.int cap), .val (.int n), .val (.ref b6), .val (.ref b14), .val (.ref b25), .val (.ref b110), .val (.int (1 : Int32)), .val (.ref b6), .val (.ref bt289), .val (.ref bt306), .val (.ref bt326)] [])) _
            refine XS.aload X353.here hx rfl (hb hby at_225) rfl rfl ?_
            show Steps _ _ _ (T353.setTop (mkF m 227 #[.val (.int x0), .val (.int x1), .val (.int x2), .val (.int x3), .val (.int x4), .val (.int cap), .val (.int n), .val (.ref b6), .val (.ref b14), .val (.ref b25), .val (.ref b110), .val (.int (1 : Int32)), .val (.ref b6), .val (.ref bt289), .val (.ref bt306), .val (.ref bt326)] [(.ref bt306)])) _
            refine XS.iconst X353.here hx rfl (hb hby at_227) ?_
            show Steps _ _ _ (T353.setTop (mkF m 228 #[.val (.int x0), .val (.int x1), .val (.int x2), .val (.int x3), .val (.int x4), .val (.int cap), .val (.int n), .val (.ref b6), .val (.ref b14), .val (.ref b25), .val (.ref b110), .val (.int (1 : Int32)), .val (.ref b6), .val (.ref bt289), .val (.ref bt306), .val (.ref bt326)] [(.int (3 : Int32)), (.ref bt306)])) _
            refine XS.iload X353.here hx rfl (hb hby at_228) rfl ?_
            show Steps _ _ _ (T353.setTop (mkF m 230 #[.val (.int x0), .val (.int x1), .val (.int x2), .val (.int x3), .val (.int x4), .val (.int cap), .val (.int n), .val (.ref b6), .val (.ref b14), .val (.ref b25), .val (.ref b110), .val (.int (1 : Int32)), .val (.ref b6), .val (.ref bt289), .val (.ref bt306), .val (.ref bt326)] [(.int (1 : Int32)), (.int (3 : Int32)), (.ref bt306)])) _
            refine XS.aload X353.here hx rfl (hb hby at_230) rfl rfl ?_
            show Steps _ _ _ (T353.setTop (mkF m 232 #[.val (.int x0), .val (.int x1), .val (.int x2), .val (.int x3), .val (.int x4), .val (.int cap), .val (.int n), .val (.ref b6), .val (.ref b14), .val (.ref b25), .val (.ref b110), .val (.int (1 : Int32)), .val (.ref b6), .val (.ref bt289), .val (.ref bt306), .val (.ref bt326)] [(.ref b6), (.int (1 : Int32)), (.int (3 : Int32)), (.ref bt306)])) _
            refine XS.aload X353.here hx rfl (hb hby at_232) rfl rfl ?_
            show Steps _ _ _ (T353.setTop (mkF m 234 #[.val (.int x0), .val (.int x1), .val (.int x2), .val (.int x3), .val (.int x4), .val (.int cap), .val (.int n), .val (.ref b6), .val (.ref b14), .val (.ref b25), .val (.ref b110), .val (.int (1 : Int32)), .val (.ref b6), .val (.ref bt289), .val (.ref bt306), .val (.ref bt326)] [(.ref b14), (.ref b6), (.int (1 : Int32)), (.int (3 : Int32)), (.ref bt306)])) _
            refine XS.aload X353.here hx rfl (hb hby at_234) rfl rfl ?_
            show Steps _ _ _ (T353.setTop (mkF m 236 #[.val (.int x0), .val (.int x1), .val (.int x2), .val (.int x3), .val (.int x4), .val (.int cap), .val (.int n), .val (.ref b6), .val (.ref b14), .val (.ref b25), .val (.ref b110), .val (.int (1 : Int32)), .val (.ref b6), .val (.ref bt289), .val (.ref bt306), .val (.ref bt326)] [(.ref b25), (.ref b14), (.ref b6), (.int (1 : Int32)), (.int (3 : Int32)), (.ref bt306)])) _
            refine XS.iloadN X353.here hx rfl (hb hby at_236) rfl ?_
            show Steps _ _ _ (T353.setTop (mkF m 237 #[.val (.int x0), .val (.int x1), .val (.int x2), .val (.int x3), .val (.int x4), .val (.int cap), .val (.int n), .val (.ref b6), .val (.ref b14), .val (.ref b25), .val (.ref b110), .val (.int (1 : Int32)), .val (.ref b6), .val (.ref bt289), .val (.ref bt306), .val (.ref bt326)] [(.int x2), (.ref b25), (.ref b14), (.ref b6), (.int (1 : Int32)), (.int (3 : Int32)), (.ref bt306)])) _
            refine XS.iloadN X353.here hx rfl (hb hby at_237) rfl ?_
            show Steps _ _ _ (T353.setTop (mkF m 238 #[.val (.int x0), .val (.int x1), .val (.int x2), .val (.int x3), .val (.int x4), .val (.int cap), .val (.int n), .val (.ref b6), .val (.ref b14), .val (.ref b25), .val (.ref b110), .val (.int (1 : Int32)), .val (.ref b6), .val (.ref bt289), .val (.ref bt306), .val (.ref bt326)] [(.int x3), (.int x2), (.ref b25), (.ref b14), (.ref b6), (.int (1 : Int32)), (.int (3 : Int32)), (.ref bt306)])) _
            refine XS.iload X353.here hx rfl (hb hby at_238) rfl ?_
            exact Steps.refl _)
        obtain ⟨_, _, ⟨T357, L357, k357, n357⟩, -, X357, ⟨Lc357, hQ357, l357, y357, z357⟩, sr357⟩ := Jvm.LawKit.callS X353 hx (y := (⟨"com/example/tideloop/tideloop/MessagePoolKeepPinLaw", "check", "(Lcom/example/tideloop/tideloop/Message;IILcom/example/tideloop/tideloop/Message;Lcom/example/tideloop/tideloop/Message;Lcom/example/tideloop/tideloop/Message;III)Z"⟩ : MethodName)) hown (mvT hZ (hw _ (List.mem_of_getElem? (i := 45) rfl))) (mvT hZ (hw _ (List.mem_of_getElem? (i := 46) rfl))) (mvT hZ (hw _ (List.mem_of_getElem? (i := 47) rfl))) (mvT hZ (hw _ (List.mem_of_getElem? (i := 48) rfl))) (by decide) (backOf (W := 0) (rm8 l Z a0 hw [] bt306 (3 : Int32) (1 : Int32) b6 b14 b25 x2 x3 x4 (0 : Int32) T326.heap n0 Z346 f344 f345) hZ (hw _ (List.mem_of_getElem? (i := 48) rfl)) (hw _ (List.mem_of_getElem? (i := 47) rfl)) (by decide) (by decide)) (g := (mkF m 240 #[.val (.int x0), .val (.int x1), .val (.int x2), .val (.int x3), .val (.int x4), .val (.int cap), .val (.int n), .val (.ref b6), .val (.ref b14), .val (.ref b25), .val (.ref b110), .val (.int (1 : Int32)), .val (.ref b6), .val (.ref bt289), .val (.ref bt306), .val (.ref bt326)] [(.int x4), (.int x3), (.int x2), (.ref b25), (.ref b14), (.ref b6), (.int (1 : Int32)), (.int (3 : Int32)), (.ref bt306)])) rfl (by rw [hml]; rfl) (argsL := [(.ref bt306), (.int (3 : Int32)), (.int (1 : Int32)), (.ref b6), (.ref b14), (.ref b25), (.int x2), (.int x3), (.int x4)]) (rest := []) (lenOf pd_4 rfl) rfl (by show 2 * 0 + _ ≤ _; exact Nat.le_of_eq rfl) (hb hby at_240) (fun _ _ => ⟨rfl, hh353, (by decide : 7 + 0 ≤ _), (by decide : 117 + 0 ≤ _)⟩)
        dsimp only [Pt.U, Pt.locs, Pt.cells, Pt.slots] at X357 l357 y357 z357 sr357 hQ357
        subst l357 y357 z357
        obtain ⟨rfl, N357q, hh357⟩ := hQ357
        have N357 := Fr.app N353 N357q
        obtain ⟨LL357, X357, N357⟩ := own_hide X357 N357
        have st358 : Steps p.tables e below sE (T357.setTop (mkF m 243 #[.val (.int x0), .val (.int x1), .val (.int x2), .val (.int x3), .val (.int x4), .val (.int cap), .val (.int n), .val (.ref b6), .val (.ref b14), .val (.ref b25), .val (.ref b110), .val (.int (1 : Int32)), .val (.ref b6), .val (.ref bt289), .val (.ref bt306), .val (.ref bt326)] [(.int (F8 bt306 (3 : Int32) (1 : Int32) b6 b14 b25 x2 x3 x4 (0 : Int32)))])) := st356.trans (sr357 _ (Steps.refl _))
        have hf359 : ¬ ((F8 bt306 (3 : Int32) (1 : Int32) b6 b14 b25 x2 x3 x4 (0 : Int32)) = (0 : Int32)) := by simp +decide [F8, (Ne.symm ne_b6_bt306), (Ne.symm ne_b14_bt306), (Ne.symm ne_b25_bt306)]
        have st360 : Steps p.tables e below sE (T357.setTop (mkF m 261 #[.val (.int x0), .val (.int x1), .val (.int x2), .val (.int x3), .val (.int x4), .val (.int cap), .val (.int n), .val (.ref b6), .val (.ref b14), .val (.ref b25), .val (.ref b110), .val (.int (1 : Int32)), .val (.ref b6), .val (.ref bt289), .val (.ref bt306), .val (.ref bt326)] [(.int x4), (.int x3), (.int x2), (.ref b25), (.ref b14), (.ref b6), (.int (1 : Int32)), (.int (4 : Int32)), (.ref bt326)])) := st358.trans (by
            show Steps _ _ _ (T357.setTop (mkF m 243 #[.val (.int x0), .val (.int x1), .val (.int x2), .val (.int x3), .val (.int x4), .val (.int cap), .val (.int n), .val (.ref b6), .val (.ref b14), .val (.ref b25), .val (.ref b110), .val (.int (1 : Int32)), .val (.ref b6), .val (.ref bt289), .val (.ref bt306), .val (.ref bt326)] [(.int (F8 bt306 (3 : Int32) (1 : Int32) b6 b14 b25 x2 x3 x4 (0 : Int32)))])) _
            refine XS.ifNo X357.here hx rfl (hb hby at_243) rfl ((if0 _ _).trans (feq hf359).1) ?_
            show Steps _ _ _ (T357.setTop (mkF m 246 #[.val (.int x0), .val (.int x1), .val (.int x2), .val (.int x3), .val (.int x4), .val (.int cap), .val (.int n), .val (.ref b6), .val (.ref b14), .val (.ref b25), .val (.ref b110), .val (.int (1 : Int32)), .val (.ref b6), .val (.ref bt289), .val (.ref bt306), .val (.ref bt326)] [])) _
            refine XS.aload X357.here hx rfl (hb hby at_246) rfl rfl ?_
            show Steps _ _ _ (T357.setTop (mkF m 248 #[.val (.int x0), .val (.int x1), .val (.int x2), .val (.int x3), .val (.int x4), .val (.int cap), .val (.int n), .val (.ref b6), .val (.ref b14), .val (.ref b25), .val (.ref b110), .val (.int (1 : Int32)), .val (.ref b6), .val (.ref bt289), .val (.ref bt306), .val (.ref bt326)] [(.ref bt326)])) _
            refine XS.iconst X357.here hx rfl (hb hby at_248) ?_
            show Steps _ _ _ (T357.setTop (mkF m 249 #[.val (.int x0), .val (.int x1), .val (.int x2), .val (.int x3), .val (.int x4), .val (.int cap), .val (.int n), .val (.ref b6), .val (.ref b14), .val (.ref b25), .val (.ref b110), .val (.int (1 : Int32)), .val (.ref b6), .val (.ref bt289), .val (.ref bt306), .val (.ref bt326)] [(.int (4 : Int32)), (.ref bt326)])) _
            refine XS.iload X357.here hx rfl (hb hby at_249) rfl ?_
            show Steps _ _ _ (T357.setTop (mkF m 251 #[.val (.int x0), .val (.int x1), .val (.int x2), .val (.int x3), .val (.int x4), .val (.int cap), .val (.int n), .val (.ref b6), .val (.ref b14), .val (.ref b25), .val (.ref b110), .val (.int (1 : Int32)), .val (.ref b6), .val (.ref bt289), .val (.ref bt306), .val (.ref bt326)] [(.int (1 : Int32)), (.int (4 : Int32)), (.ref bt326)])) _
            refine XS.aload X357.here hx rfl (hb hby at_251) rfl rfl ?_
            show Steps _ _ _ (T357.setTop (mkF m 253 #[.val (.int x0), .val (.int x1), .val (.int x2), .val (.int x3), .val (.int x4), .val (.int cap), .val (.int n), .val (.ref b6), .val (.ref b14), .val (.ref b25), .val (.ref b110), .val (.int (1 : Int32)), .val (.ref b6), .val (.ref bt289), .val (.ref bt306), .val (.ref bt326)] [(.ref b6), (.int (1 : Int32)), (.int (4 : Int32)), (.ref bt326)])) _
            refine XS.aload X357.here hx rfl (hb hby at_253) rfl rfl ?_
            show Steps _ _ _ (T357.setTop (mkF m 255 #[.val (.int x0), .val (.int x1), .val (.int x2), .val (.int x3), .val (.int x4), .val (.int cap), .val (.int n), .val (.ref b6), .val (.ref b14), .val (.ref b25), .val (.ref b110), .val (.int (1 : Int32)), .val (.ref b6), .val (.ref bt289), .val (.ref bt306), .val (.ref bt326)] [(.ref b14), (.ref b6), (.int (1 : Int32)), (.int (4 : Int32)), (.ref bt326)])) _
            refine XS.aload X357.here hx rfl (hb hby at_255) rfl rfl ?_
            show Steps _ _ _ (T357.setTop (mkF m 257 #[.val (.int x0), .val (.int x1), .val (.int x2), .val (.int x3), .val (.int x4), .val (.int cap), .val (.int n), .val (.ref b6), .val (.ref b14), .val (.ref b25), .val (.ref b110), .val (.int (1 : Int32)), .val (.ref b6), .val (.ref bt289), .val (.ref bt306), .val (.ref bt326)] [(.ref b25), (.ref b14), (.ref b6), (.int (1 : Int32)), (.int (4 : Int32)), (.ref bt326)])) _
            refine XS.iloadN X357.here hx rfl (hb hby at_257) rfl ?_
            show Steps _ _ _ (T357.setTop (mkF m 258 #[.val (.int x0), .val (.int x1), .val (.int x2), .val (.int x3), .val (.int x4), .val (.int cap), .val (.int n), .val (.ref b6), .val (.ref b14), .val (.ref b25), .val (.ref b110), .val (.int (1 : Int32)), .val (.ref b6), .val (.ref bt289), .val (.ref bt306), .val (.ref bt326)] [(.int x2), (.ref b25), (.ref b14), (.ref b6), (.int (1 : Int32)), (.int (4 : Int32)), (.ref bt326)])) _
            refine XS.iloadN X357.here hx rfl (hb hby at_258) rfl ?_
            show Steps _ _ _ (T357.setTop (mkF m 259 #[.val (.int x0), .val (.int x1), .val (.int x2), .val (.int x3), .val (.int x4), .val (.int cap), .val (.int n), .val (.ref b6), .val (.ref b14), .val (.ref b25), .val (.ref b110), .val (.int (1 : Int32)), .val (.ref b6), .val (.ref bt289), .val (.ref bt306), .val (.ref bt326)] [(.int x3), (.int x2), (.ref b25), (.ref b14), (.ref b6), (.int (1 : Int32)), (.int (4 : Int32)), (.ref bt326)])) _
            refine XS.iload X357.here hx rfl (hb hby at_259) rfl ?_
            exact Steps.refl _)
        obtain ⟨_, _, ⟨T361, L361, k361, n361⟩, -, X361, ⟨Lc361, hQ361, l361, y361, z361⟩, sr361⟩ := Jvm.LawKit.callS X357 hx (y := (⟨"com/example/tideloop/tideloop/MessagePoolKeepPinLaw", "check", "(Lcom/example/tideloop/tideloop/Message;IILcom/example/tideloop/tideloop/Message;Lcom/example/tideloop/tideloop/Message;Lcom/example/tideloop/tideloop/Message;III)Z"⟩ : MethodName)) hown (mvT hZ (hw _ (List.mem_of_getElem? (i := 45) rfl))) (mvT hZ (hw _ (List.mem_of_getElem? (i := 46) rfl))) (mvT hZ (hw _ (List.mem_of_getElem? (i := 47) rfl))) (mvT hZ (hw _ (List.mem_of_getElem? (i := 48) rfl))) (by decide) (backOf (W := 0) (rm8 l Z a0 hw [] bt326 (4 : Int32) (1 : Int32) b6 b14 b25 x2 x3 x4 (0 : Int32) T326.heap n0 Z346 qn326 qw326) hZ (hw _ (List.mem_of_getElem? (i := 48) rfl)) (hw _ (List.mem_of_getElem? (i := 47) rfl)) (by decide) (by decide)) (g := (mkF m 261 #[.val (.int x0), .val (.int x1), .val (.int x2), .val (.int x3), .val (.int x4), .val (.int cap), .val (.int n), .val (.ref b6), .val (.ref b14), .val (.ref b25), .val (.ref b110), .val (.int (1 : Int32)), .val (.ref b6), .val (.ref bt289), .val (.ref bt306), .val (.ref bt326)] [(.int x4), (.int x3), (.int x2), (.ref b25), (.ref b14), (.ref b6), (.int (1 : Int32)), (.int (4 : Int32)), (.ref bt326)])) rfl (by rw [hml]; rfl) (argsL := [(.ref bt326), (.int (4 : Int32)), (.int (1 : Int32)), (.ref b6), (.ref b14), (.ref b25), (.int x2), (.int x3), (.int x4)]) (rest := []) (lenOf pd_4 rfl) rfl (by show 2 * 0 + _ ≤ _; exact Nat.le_of_eq rfl) (hb hby at_261) (fun _ _ => ⟨rfl, hh357, (by decide : 7 + 0 ≤ _), (by decide : 117 + 0 ≤ _)⟩)
        dsimp only [Pt.U, Pt.locs, Pt.cells, Pt.slots] at X361 l361 y361 z361 sr361 hQ361
        subst l361 y361 z361
        obtain ⟨rfl, N361q, hh361⟩ := hQ361
        have N361 := Fr.app N357 N361q
        obtain ⟨LL361, X361, N361⟩ := own_hide X361 N361
        have st362 : Steps p.tables e below sE (T361.setTop (mkF m 264 #[.val (.int x0), .val (.int x1), .val (.int x2), .val (.int x3), .val (.int x4), .val (.int cap), .val (.int n), .val (.ref b6), .val (.ref b14), .val (.ref b25), .val (.ref b110), .val (.int (1 : Int32)), .val (.ref b6), .val (.ref bt289), .val (.ref bt306), .val (.ref bt326)] [(.int (F8 bt326 (4 : Int32) (1 : Int32) b6 b14 b25 x2 x3 x4 (0 : Int32)))])) := st360.trans (sr361 _ (Steps.refl _))
        have hf363 : ¬ ((F8 bt326 (4 : Int32) (1 : Int32) b6 b14 b25 x2 x3 x4 (0 : Int32)) = (0 : Int32)) := by simp +decide [F8, (Ne.symm ne_b6_bt326), (Ne.symm ne_b14_bt326), (Ne.symm ne_b25_bt326)]
        have st364 : Steps p.tables e below sE (T361.setTop (mkF m 272 #[.val (.int x0), .val (.int x1), .val (.int x2), .val (.int x3), .val (.int x4), .val (.int cap), .val (.int n), .val (.ref b6), .val (.ref b14), .val (.ref b25), .val (.ref b110), .val (.int (1 : Int32)), .val (.ref b6), .val (.ref bt289), .val (.ref bt306), .val (.ref bt326)] [(.int (1 : Int32))])) := st362.trans (by
            show Steps _ _ _ (T361.setTop (mkF m 264 #[.val (.int x0), .val (.int x1), .val (.int x2), .val (.int x3), .val (.int x4), .val (.int cap), .val (.int n), .val (.ref b6), .val (.ref b14), .val (.ref b25), .val (.ref b110), .val (.int (1 : Int32)), .val (.ref b6), .val (.ref bt289), .val (.ref bt306), .val (.ref bt326)] [(.int (F8 bt326 (4 : Int32) (1 : Int32) b6 b14 b25 x2 x3 x4 (0 : Int32)))])) _
            refine XS.ifNo X361.here hx rfl (hb hby at_264) rfl ((if0 _ _).trans (feq hf363).1) ?_
            show Steps _ _ _ (T361.setTop (mkF m 267 #[.val (.int x0), .val (.int x1), .val (.int x2), .val (.int x3), .val (.int x4), .val (.int cap), .val (.int n), .val (.ref b6), .val (.ref b14), .val (.ref b25), .val (.ref b110), .val (.int (1 : Int32)), .val (.ref b6), .val (.ref bt289), .val (.ref bt306), .val (.ref bt326)] [])) _
            refine XS.iconst X361.here hx rfl (hb hby at_267) ?_
            show Steps _ _ _ (T361.setTop (mkF m 268 #[.val (.int x0), .val (.int x1), .val (.int x2), .val (.int x3), .val (.int x4), .val (.int cap), .val (.int n), .val (.ref b6), .val (.ref b14), .val (.ref b25), .val (.ref b110), .val (.int (1 : Int32)), .val (.ref b6), .val (.ref bt289), .val (.ref bt306), .val (.ref bt326)] [(.int (1 : Int32))])) _
            refine XS.goto X361.here hx rfl (pc0 := 268) (pc' := 272) rfl (hb hby at_268) (by decide) (by decide) ?_
            exact Steps.refl _)
        obtain ⟨fs, hr, hrun, hended, hW, hsame⟩ := X361.leave (v := some (.int (1 : Int32))) (fun h => by rw [Bd.returns] at h; cases h)
        refine ⟨_, _, (own_ent hsE st364).trans ?_, hrun, hended, _, _, rfl, ?_, ⟨_, rfl⟩, hW, hsame.mono (by decide) (by decide)⟩
        · exact retN X361 hx (t := .boolean) Bd.returns (by simp) (hb hby at_272) hr
        · show Q0 Z x0 x1 x2 x3 x4 h0 n0 _ T361.heap _
          rw [hh361]
          exact ⟨rfl, N361⟩
      · have st365 : Steps p.tables e below sE (T255.setTop (mkF m 126 #[.val (.int x0), .val (.int x1), .val (.int x2), .val (.int x3), .val (.int x4), .val (.int cap), .val (.int n), .val (.ref b6), .val (.ref b14), .val (.ref b25), .val (.ref b110), .unset, .unset, .unset, .unset, .unset] [(.ref b14), (.ref b110)])) := st266.trans (by
            show Steps _ _ _ (T255.setTop (mkF m 119 #[.val (.int x0), .val (.int x1), .val (.int x2), .val (.int x3), .val (.int x4), .val (.int cap), .val (.int n), .val (.ref b6), .val (.ref b14), .val (.ref b25), .val (.ref b110), .unset, .unset, .unset, .unset, .unset] [(.int (2 : Int32)), (.int n)])) _
            refine XS.icmpNo X255.here hx rfl (hb hby at_119) rfl (flt hc267).1 ?_
            show Steps _ _ _ (T255.setTop (mkF m 122 #[.val (.int x0), .val (.int x1), .val (.int x2), .val (.int x3), .val (.int x4), .val (.int cap), .val (.int n), .val (.ref b6), .val (.ref b14), .val (.ref b25), .val (.ref b110), .unset, .unset, .unset, .unset, .unset] [])) _
            refine XS.aload X255.here hx rfl (hb hby at_122) rfl rfl ?_
            show Steps _ _ _ (T255.setTop (mkF m 124 #[.val (.int x0), .val (.int x1), .val (.int x2), .val (.int x3), .val (.int x4), .val (.int cap), .val (.int n), .val (.ref b6), .val (.ref b14), .val (.ref b25), .val (.ref b110), .unset, .unset, .unset, .unset, .unset] [(.ref b110)])) _
            refine XS.aload X255.here hx rfl (hb hby at_124) rfl rfl ?_
            exact Steps.refl _)
        by_cases hc366 : ((0 : Int32) + (1 : Int32)) < cap
        · 
          obtain ⟨cq367, kq367, q367a, q367b, q367c⟩ := isOf hZ rfl f255_0
          obtain ⟨_, _, ⟨T367, L367, k367, n367⟩, -, X367, ⟨Lc367, hQ367, l367, y367, z367⟩, sr367⟩ := X255.virtualBack hx (y := (⟨"com/example/tideloop/tideloop/MessagePool", "keep", "(Lcom/example/tideloop/tideloop/Message;)V"⟩ : MethodName)) (z := (⟨"com/example/tideloop/tideloop/MessagePool", "keep", "(Lcom/example/tideloop/tideloop/Message;)V"⟩ : MethodName)) hown (mvT hZ (hw _ (List.mem_of_getElem? (i := 22) rfl))) (mvT hZ (hw _ (List.mem_of_getElem? (i := 23) rfl))) (notFace_of_selects (args := #[]) (mvT hZ (hw _ (List.mem_of_getElem? (i := 25) rfl)))) (mvT hZ (hw _ (List.mem_of_getElem? (i := 25) rfl))) (mvT hZ (hw _ (List.mem_of_getElem? (i := 24) rfl))) (by decide) (backOf (W := 0) (rmky1 l Z a0 hw [] b110 b14 ((0 : Int32) + (1 : Int32)) cap x3 b6 b6 T255.heap n0 Z264 f255_0 f255_1 f255_2 f255_3 f257 f259 f261 g_b110 g_b14 ne_b14_b110 hc366) hZ (hw _ (List.mem_of_getElem? (i := 26) rfl)) (hw _ (List.mem_of_getElem? (i := 15) rfl)) (by decide) (by decide)) q367a q367c (g := (mkF m 126 #[.val (.int x0), .val (.int x1), .val (.int x2), .val (.int x3), .val (.int x4), .val (.int cap), .val (.int n), .val (.ref b6), .val (.ref b14), .val (.ref b25), .val (.ref b110), .unset, .unset, .unset, .unset, .unset] [(.ref b14), (.ref b110)])) rfl (by rw [hml]; rfl) (Steps.refl _) (argsL := [(.ref b14)]) (rest := []) (lenOf pd_5 rfl) rfl (by show 2 * 0 + _ ≤ _; exact Nat.le_of_eq rfl) (hb hby at_126) (fun _ _ => ⟨rfl, rfl, (by decide : 4 + 0 ≤ _), (by decide : 60 + 0 ≤ _)⟩)
          dsimp only [Pt.U, Pt.locs, Pt.cells, Pt.slots] at X367 l367 y367 z367 sr367 hQ367
          subst l367 y367 z367
          obtain ⟨rfl, N367q, K367c, f367_0, f367_1, f367_2, f367_3, f367_4, f367_5, f367_6⟩ := hQ367
          have N367 := Fr.app N255 N367q
          obtain ⟨LL367, X367, N367⟩ := own_hide X367 N367
          have f368 : Exa Z T367.heap b6 "com/example/tideloop/tideloop/Message" := f255_4.keep K367c
          have f369 : Exa Z T367.heap b14 "com/example/tideloop/tideloop/Message" := f257.keep K367c
          have f370 : Exa Z T367.heap b25 "com/example/tideloop/tideloop/Message" := f258.keep K367c
          have f371 : Fld Z T367.heap b25 "com/example/tideloop/tideloop/Message" "what" "I" (.int x4) := f260.keep K367c (ninS ne_b25_b110 (ninS (Ne.symm ne_b14_b25) nin0))
          have f372 : Fld Z T367.heap b25 "com/example/tideloop/tideloop/Message" "nextPooled" "Lcom/example/tideloop/tideloop/Message;" (.ref b14) := f262.keep K367c (ninS ne_b25_b110 (ninS (Ne.symm ne_b14_b25) nin0))
          have f373 : Exa Z T367.heap b110 "com/example/tideloop/tideloop/MessagePool" := f255_0.keep K367c
          have f374 : Fld Z T367.heap b6 "com/example/tideloop/tideloop/Message" "what" "I" (.int x2) := f255_5.keep K367c (ninS ne_b6_b110 (ninS ne_b6_b14 nin0))
          have f375 : Fld Z T367.heap b6 "com/example/tideloop/tideloop/Message" "nextPooled" "Lcom/example/tideloop/tideloop/Message;" .null := f255_6.keep K367c (ninS ne_b6_b110 (ninS ne_b6_b14 nin0))
          have Z376 : n0 ≤ T367.heap.size := Nat.le_trans Z264 K367c.1
          have st377 : Steps p.tables e below sE (T367.setTop (mkF m 129 #[.val (.int x0), .val (.int x1), .val (.int x2), .val (.int x3), .val (.int x4), .val (.int cap), .val (.int n), .val (.ref b6), .val (.ref b14), .val (.ref b25), .val (.ref b110), .unset, .unset, .unset, .unset, .unset] [])) := st365.trans (sr367)
          have st378 : Steps p.tables e below sE (T367.setTop (mkF m 132 #[.val (.int x0), .val (.int x1), .val (.int x2), .val (.int x3), .val (.int x4), .val (.int cap), .val (.int n), .val (.ref b6), .val (.ref b14), .val (.ref b25), .val (.ref b110), .unset, .unset, .unset, .unset, .unset] [(.int (3 : Int32)), (.int n)])) := st377.trans (by
              show Steps _ _ _ (T367.setTop (mkF m 129 #[.val (.int x0), .val (.int x1), .val (.int x2), .val (.int x3), .val (.int x4), .val (.int cap), .val (.int n), .val (.ref b6), .val (.ref b14), .val (.ref b25), .val (.ref b110), .unset, .unset, .unset, .unset, .unset] [])) _
              refine XS.iload X367.here hx rfl (hb hby at_129) rfl ?_
              show Steps _ _ _ (T367.setTop (mkF m 131 #[.val (.int x0), .val (.int x1), .val (.int x2), .val (.int x3), .val (.int x4), .val (.int cap), .val (.int n), .val (.ref b6), .val (.ref b14), .val (.ref b25), .val (.ref b110), .unset, .unset, .unset, .unset, .unset] [(.int n)])) _
              refine XS.iconst X367.here hx rfl (hb hby at_131) ?_
              exact Steps.refl _)
          by_cases hc379 : n < (3 : Int32)
          · have st380 : Steps p.tables e below sE (T367.setTop (mkF m 142 #[.val (.int x0), .val (.int x1), .val (.int x2), .val (.int x3), .val (.int x4), .val (.int cap), .val (.int n), .val (.ref b6), .val (.ref b14), .val (.ref b25), .val (.ref b110), .unset, .unset, .unset, .unset, .unset] [])) := st378.trans (by
                show Steps _ _ _ (T367.setTop (mkF m 132 #[.val (.int x0), .val (.int x1), .val (.int x2), .val (.int x3), .val (.int x4), .val (.int cap), .val (.int n), .val (.ref b6), .val (.ref b14), .val (.ref b25), .val (.ref b110), .unset, .unset, .unset, .unset, .unset] [(.int (3 : Int32)), (.int n)])) _
                refine XS.icmpYes X367.here hx rfl (pc0 := 132) (pc' := 142) rfl (hb hby at_132) rfl (tlt hc379).1 (by decide) (by decide) ?_
                exact Steps.refl _)
            have st381 : Steps p.tables e below sE (T367.setTop (mkF m 147 #[.val (.int x0), .val (.int x1), .val (.int x2), .val (.int x3), .val (.int x4), .val (.int cap), .val (.int n), .val (.ref b6), .val (.ref b14), .val (.ref b25), .val (.ref b110), .unset, .unset, .unset, .unset, .unset] [(.int cap), (.int (0 : Int32)), (.int n)])) := st380.trans (by
                show Steps _ _ _ (T367.setTop (mkF m 142 #[.val (.int x0), .val (.int x1), .val (.int x2), .val (.int x3), .val (.int x4), .val (.int cap), .val (.int n), .val (.ref b6), .val (.ref b14), .val (.ref b25), .val (.ref b110), .unset, .unset, .unset, .unset, .unset] [])) _
                refine XS.iload X367.here hx rfl (hb hby at_142) rfl ?_
                show Steps _ _ _ (T367.setTop (mkF m 144 #[.val (.int x0), .val (.int x1), .val (.int x2), .val (.int x3), .val (.int x4), .val (.int cap), .val (.int n), .val (.ref b6), .val (.ref b14), .val (.ref b25), .val (.ref b110), .unset, .unset, .unset, .unset, .unset] [(.int n)])) _
                refine XS.iconst X367.here hx rfl (hb hby at_144) ?_
                show Steps _ _ _ (T367.setTop (mkF m 145 #[.val (.int x0), .val (.int x1), .val (.int x2), .val (.int x3), .val (.int x4), .val (.int cap), .val (.int n), .val (.ref b6), .val (.ref b14), .val (.ref b25), .val (.ref b110), .unset, .unset, .unset, .unset, .unset] [(.int (0 : Int32)), (.int n)])) _
                refine XS.iload X367.here hx rfl (hb hby at_145) rfl ?_
                exact Steps.refl _)
            obtain ⟨_, _, ⟨T382, L382, k382, n382⟩, -, X382, ⟨Lc382, hQ382, l382, y382, z382⟩, sr382⟩ := Jvm.LawKit.callS X367 hx (y := (⟨"java/lang/Math", "max", "(II)I"⟩ : MethodName)) hown (mvT hZ (hw _ (List.mem_of_getElem? (i := 29) rfl))) (mvT hZ (hw _ (List.mem_of_getElem? (i := 30) rfl))) (mvT hZ (hw _ (List.mem_of_getElem? (i := 31) rfl))) (mvT hZ (hw _ (List.mem_of_getElem? (i := 32) rfl))) (by decide) (backOf (W := 1) (rm5 l Z a0 hw [] (0 : Int32) cap  T367.heap n0 Z376 ) hZ (hw _ (List.mem_of_getElem? (i := 32) rfl)) (hw _ (List.mem_of_getElem? (i := 31) rfl)) (by decide) (by decide)) (g := (mkF m 147 #[.val (.int x0), .val (.int x1), .val (.int x2), .val (.int x3), .val (.int x4), .val (.int cap), .val (.int n), .val (.ref b6), .val (.ref b14), .val (.ref b25), .val (.ref b110), .unset, .unset, .unset, .unset, .unset] [(.int cap), (.int (0 : Int32)), (.int n)])) rfl (by rw [hml]; rfl) (argsL := [(.int (0 : Int32)), (.int cap)]) (rest := [(.int n)]) (lenOf pd_2 rfl) rfl (by show 2 * 0 + _ ≤ _; exact Nat.le_of_eq rfl) (hb hby at_147) (fun _ _ => ⟨rfl, rfl, (by decide : 4 + 0 ≤ _), (by decide : 60 + 0 ≤ _)⟩)
            dsimp only [Pt.U, Pt.locs, Pt.cells, Pt.slots] at X382 l382 y382 z382 sr382 hQ382
            subst l382 y382 z382
            obtain ⟨rfl, N382q, hh382⟩ := hQ382
            have N382 := Fr.app N367 N382q
            obtain ⟨LL382, X382, N382⟩ := own_hide X382 N382
            have st383 : Steps p.tables e below sE (T382.setTop (mkF m 150 #[.val (.int x0), .val (.int x1), .val (.int x2), .val (.int x3), .val (.int x4), .val (.int cap), .val (.int n), .val (.ref b6), .val (.ref b14), .val (.ref b25), .val (.ref b110), .unset, .unset, .unset, .unset, .unset] [(.int (F5 (0 : Int32) cap)), (.int n)])) := st381.trans (sr382 _ (Steps.refl _))
            obtain ⟨_, _, ⟨T384, L384, k384, n384⟩, -, X384, ⟨Lc384, hQ384, l384, y384, z384⟩, sr384⟩ := Jvm.LawKit.callS X382 hx (y := (⟨"java/lang/Math", "min", "(II)I"⟩ : MethodName)) hown (mvT hZ (hw _ (List.mem_of_getElem? (i := 33) rfl))) (mvT hZ (hw _ (List.mem_of_getElem? (i := 34) rfl))) (mvT hZ (hw _ (List.mem_of_getElem? (i := 31) rfl))) (mvT hZ (hw _ (List.mem_of_getElem? (i := 35) rfl))) (by decide) (backOf (W := 0) (rm6 l Z a0 hw [] n (F5 (0 : Int32) cap)  T367.heap n0 Z376 ) hZ (hw _ (List.mem_of_getElem? (i := 35) rfl)) (hw _ (List.mem_of_getElem? (i := 31) rfl)) (by decide) (by decide)) (g := (mkF m 150 #[.val (.int x0), .val (.int x1), .val (.int x2), .val (.int x3), .val (.int x4), .val (.int cap), .val (.int n), .val (.ref b6), .val (.ref b14), .val (.ref b25), .val (.ref b110), .unset, .unset, .unset, .unset, .unset] [(.int (F5 (0 : Int32) cap)), (.int n)])) rfl (by rw [hml]; rfl) (argsL := [(.int n), (.int (F5 (0 : Int32) cap))]) (rest := []) (lenOf pd_2 rfl) rfl (by show 2 * 0 + _ ≤ _; exact Nat.le_of_eq rfl) (hb hby at_150) (fun _ _ => ⟨rfl, hh382, (by decide : 4 + 0 ≤ _), (by decide : 60 + 0 ≤ _)⟩)
            dsimp only [Pt.U, Pt.locs, Pt.cells, Pt.slots] at X384 l384 y384 z384 sr384 hQ384
            subst l384 y384 z384
            obtain ⟨rfl, N384q, hh384⟩ := hQ384
            have N384 := Fr.app N382 N384q
            obtain ⟨LL384, X384, N384⟩ := own_hide X384 N384
            have st385 : Steps p.tables e below sE (T384.setTop (mkF m 153 #[.val (.int x0), .val (.int x1), .val (.int x2), .val (.int x3), .val (.int x4), .val (.int cap), .val (.int n), .val (.ref b6), .val (.ref b14), .val (.ref b25), .val (.ref b110), .unset, .unset, .unset, .unset, .unset] [(.int (F6 n (F5 (0 : Int32) cap)))])) := st383.trans (sr384 _ (Steps.refl _))
            have hs0 := own_lti hc254 (z := 0) (by decide)
            have hs1 := own_lti hc366 (z := 1) (by decide)
            have hm1 := own_nltr hc139 (z := 1) (by decide)
            have hm2 := own_nltr hc267 (z := 2) (by decide)
            have hm3 := own_ltr hc379 (z := 3) (by decide)
            have hk2 : (2 : Int32).toInt = 2 := by decide
            have hkp : (F6 n (F5 (0 : Int32) cap)) = (2 : Int32) := own_kp n cap (2 : Int32) (by omega)
            rw [hkp] at st385
            have st386 : Steps p.tables e below sE (T384.setTop (mkF m 157 #[.val (.int x0), .val (.int x1), .val (.int x2), .val (.int x3), .val (.int x4), .val (.int cap), .val (.int n), .val (.ref b6), .val (.ref b14), .val (.ref b25), .val (.ref b110), .val (.int (2 : Int32)), .unset, .unset, .unset, .unset] [(.ref b110)])) := st385.trans (by
                show Steps _ _ _ (T384.setTop (mkF m 153 #[.val (.int x0), .val (.int x1), .val (.int x2), .val (.int x3), .val (.int x4), .val (.int cap), .val (.int n), .val (.ref b6), .val (.ref b14), .val (.ref b25), .val (.ref b110), .unset, .unset, .unset, .unset, .unset] [(.int (2 : Int32))])) _
                refine XS.istore X384.here hx rfl (hb hby at_153) rfl (l' := #[.val (.int x0), .val (.int x1), .val (.int x2), .val (.int x3), .val (.int x4), .val (.int cap), .val (.int n), .val (.ref b6), .val (.ref b14), .val (.ref b25), .val (.ref b110), .val (.int (2 : Int32)), .unset, .unset, .unset, .unset]) rfl ?_
                show Steps _ _ _ (T384.setTop (mkF m 155 #[.val (.int x0), .val (.int x1), .val (.int x2), .val (.int x3), .val (.int x4), .val (.int cap), .val (.int n), .val (.ref b6), .val (.ref b14), .val (.ref b25), .val (.ref b110), .val (.int (2 : Int32)), .unset, .unset, .unset, .unset] [])) _
                refine XS.aload X384.here hx rfl (hb hby at_155) rfl rfl ?_
                exact Steps.refl _)
            obtain ⟨cq387, kq387, q387a, q387b, q387c⟩ := isOf hZ hh384 f367_0
            obtain ⟨_, _, ⟨T387, L387, k387, n387⟩, -, X387, ⟨Lc387, hQ387, l387, y387, z387⟩, sr387⟩ := X384.virtualBack hx (y := (⟨"com/example/tideloop/tideloop/MessagePool", "take", "()Lcom/example/tideloop/tideloop/Message;"⟩ : MethodName)) (z := (⟨"com/example/tideloop/tideloop/MessagePool", "take", "()Lcom/example/tideloop/tideloop/Message;"⟩ : MethodName)) hown (mvT hZ (hw _ (List.mem_of_getElem? (i := 36) rfl))) (mvT hZ (hw _ (List.mem_of_getElem? (i := 37) rfl))) (notFace_of_selects (args := #[]) (mvT hZ (hw _ (List.mem_of_getElem? (i := 39) rfl)))) (mvT hZ (hw _ (List.mem_of_getElem? (i := 39) rfl))) (mvT hZ (hw _ (List.mem_of_getElem? (i := 38) rfl))) (by decide) (backOf (W := 0) (rmtk2 l Z a0 hw [] b110 (((0 : Int32) + (1 : Int32)) + (1 : Int32)) cap x3 b14 b6 T367.heap n0 Z376 f367_0 f367_1 f367_2 f367_3 f367_4 f367_5 g_b110 g_b14 ne_b14_b110 f367_6) hZ (hw _ (List.mem_of_getElem? (i := 40) rfl)) (hw _ (List.mem_of_getElem? (i := 15) rfl)) (by decide) (by decide)) q387a q387c (g := (mkF m 157 #[.val (.int x0), .val (.int x1), .val (.int x2), .val (.int x3), .val (.int x4), .val (.int cap), .val (.int n), .val (.ref b6), .val (.ref b14), .val (.ref b25), .val (.ref b110), .val (.int (2 : Int32)), .unset, .unset, .unset, .unset] [(.ref b110)])) rfl (by rw [hml]; rfl) (Steps.refl _) (argsL := []) (rest := []) (lenOf pd_3 rfl) rfl (by show 2 * 0 + _ ≤ _; exact Nat.le_of_eq rfl) (hb hby at_157) (fun _ _ => ⟨rfl, hh384, (by decide : 4 + 0 ≤ _), (by decide : 60 + 0 ≤ _)⟩)
            dsimp only [Pt.U, Pt.locs, Pt.cells, Pt.slots] at X387 l387 y387 z387 sr387 hQ387
            subst l387 y387 z387
            obtain ⟨rfl, N387q, K387c, f387_0, f387_1, f387_2, f387_3, f387_4, f387_5, f387_6⟩ := hQ387
            have N387 := Fr.app N384 N387q
            obtain ⟨LL387, X387, N387⟩ := own_hide X387 N387
            have f388 : Exa Z T387.heap b6 "com/example/tideloop/tideloop/Message" := f368.keep K387c
            have f389 : Exa Z T387.heap b14 "com/example/tideloop/tideloop/Message" := f367_4.keep K387c
            have f390 : Exa Z T387.heap b25 "com/example/tideloop/tideloop/Message" := f370.keep K387c
            have f391 : Fld Z T387.heap b25 "com/example/tideloop/tideloop/Message" "what" "I" (.int x4) := f371.keep K387c (ninS ne_b25_b110 (ninS (Ne.symm ne_b14_b25) nin0))
            have f392 : Fld Z T387.heap b25 "com/example/tideloop/tideloop/Message" "nextPooled" "Lcom/example/tideloop/tideloop/Message;" (.ref b14) := f372.keep K387c (ninS ne_b25_b110 (ninS (Ne.symm ne_b14_b25) nin0))
            have f393 : Exa Z T387.heap b110 "com/example/tideloop/tideloop/MessagePool" := f367_0.keep K387c
            have f394 : Fld Z T387.heap b6 "com/example/tideloop/tideloop/Message" "what" "I" (.int x2) := f374.keep K387c (ninS ne_b6_b110 (ninS ne_b6_b14 nin0))
            have f395 : Fld Z T387.heap b6 "com/example/tideloop/tideloop/Message" "nextPooled" "Lcom/example/tideloop/tideloop/Message;" .null := f375.keep K387c (ninS ne_b6_b110 (ninS ne_b6_b14 nin0))
            have Z396 : n0 ≤ T387.heap.size := Nat.le_trans Z376 K387c.1
            have st397 : Steps p.tables e below sE (T387.setTop (mkF m 160 #[.val (.int x0), .val (.int x1), .val (.int x2), .val (.int x3), .val (.int x4), .val (.int cap), .val (.int n), .val (.ref b6), .val (.ref b14), .val (.ref b25), .val (.ref b110), .val (.int (2 : Int32)), .unset, .unset, .unset, .unset] [(.ref b14)])) := st386.trans (sr387)
            have st398 : Steps p.tables e below sE (T387.setTop (mkF m 164 #[.val (.int x0), .val (.int x1), .val (.int x2), .val (.int x3), .val (.int x4), .val (.int cap), .val (.int n), .val (.ref b6), .val (.ref b14), .val (.ref b25), .val (.ref b110), .val (.int (2 : Int32)), .val (.ref b14), .unset, .unset, .unset] [(.ref b110)])) := st397.trans (by
                show Steps _ _ _ (T387.setTop (mkF m 160 #[.val (.int x0), .val (.int x1), .val (.int x2), .val (.int x3), .val (.int x4), .val (.int cap), .val (.int n), .val (.ref b6), .val (.ref b14), .val (.ref b25), .val (.ref b110), .val (.int (2 : Int32)), .unset, .unset, .unset, .unset] [(.ref b14)])) _
                refine XS.astore X387.here hx rfl (hb hby at_160) rfl rfl (l' := #[.val (.int x0), .val (.int x1), .val (.int x2), .val (.int x3), .val (.int x4), .val (.int cap), .val (.int n), .val (.ref b6), .val (.ref b14), .val (.ref b25), .val (.ref b110), .val (.int (2 : Int32)), .val (.ref b14), .unset, .unset, .unset]) rfl ?_
                show Steps _ _ _ (T387.setTop (mkF m 162 #[.val (.int x0), .val (.int x1), .val (.int x2), .val (.int x3), .val (.int x4), .val (.int cap), .val (.int n), .val (.ref b6), .val (.ref b14), .val (.ref b25), .val (.ref b110), .val (.int (2 : Int32)), .val (.ref b14), .unset, .unset, .unset] [])) _
                refine XS.aload X387.here hx rfl (hb hby at_162) rfl rfl ?_
                exact Steps.refl _)
            obtain ⟨cq399, kq399, q399a, q399b, q399c⟩ := isOf hZ rfl f387_0
            obtain ⟨_, _, ⟨T399, L399, k399, n399⟩, -, X399, ⟨Lc399, hQ399, l399, y399, z399⟩, sr399⟩ := X387.virtualBack hx (y := (⟨"com/example/tideloop/tideloop/MessagePool", "take", "()Lcom/example/tideloop/tideloop/Message;"⟩ : MethodName)) (z := (⟨"com/example/tideloop/tideloop/MessagePool", "take", "()Lcom/example/tideloop/tideloop/Message;"⟩ : MethodName)) hown (mvT hZ (hw _ (List.mem_of_getElem? (i := 36) rfl))) (mvT hZ (hw _ (List.mem_of_getElem? (i := 37) rfl))) (notFace_of_selects (args := #[]) (mvT hZ (hw _ (List.mem_of_getElem? (i := 39) rfl)))) (mvT hZ (hw _ (List.mem_of_getElem? (i := 39) rfl))) (mvT hZ (hw _ (List.mem_of_getElem? (i := 38) rfl))) (by decide) (backOf (W := 0) (rmtk1 l Z a0 hw [] b110 ((((0 : Int32) + (1 : Int32)) + (1 : Int32)) - (1 : Int32)) cap x2 b6 T387.heap n0 Z396 f387_0 f387_1 f387_2 f387_3 f388 f394 g_b110 g_b6 ne_b6_b110 f395) hZ (hw _ (List.mem_of_getElem? (i := 40) rfl)) (hw _ (List.mem_of_getElem? (i := 15) rfl)) (by decide) (by decide)) q399a q399c (g := (mkF m 164 #[.val (.int x0), .val (.int x1), .val (.int x2), .val (.int x3), .val (.int x4), .val (.int cap), .val (.int n), .val (.ref b6), .val (.ref b14), .val (.ref b25), .val (.ref b110), .val (.int (2 : Int32)), .val (.ref b14), .unset, .unset, .unset] [(.ref b110)])) rfl (by rw [hml]; rfl) (Steps.refl _) (argsL := []) (rest := []) (lenOf pd_3 rfl) rfl (by show 2 * 0 + _ ≤ _; exact Nat.le_of_eq rfl) (hb hby at_164) (fun _ _ => ⟨rfl, rfl, (by decide : 4 + 0 ≤ _), (by decide : 60 + 0 ≤ _)⟩)
            dsimp only [Pt.U, Pt.locs, Pt.cells, Pt.slots] at X399 l399 y399 z399 sr399 hQ399
            subst l399 y399 z399
            obtain ⟨rfl, N399q, K399c, f399_0, f399_1, f399_2, f399_3, f399_4, f399_5, f399_6⟩ := hQ399
            have N399 := Fr.app N387 N399q
            obtain ⟨LL399, X399, N399⟩ := own_hide X399 N399
            have f400 : Exa Z T399.heap b6 "com/example/tideloop/tideloop/Message" := f388.keep K399c
            have f401 : Exa Z T399.heap b14 "com/example/tideloop/tideloop/Message" := f387_4.keep K399c
            have f402 : Exa Z T399.heap b25 "com/example/tideloop/tideloop/Message" := f390.keep K399c
            have f403 : Fld Z T399.heap b25 "com/example/tideloop/tideloop/Message" "what" "I" (.int x4) := f391.keep K399c (ninS ne_b25_b110 (ninS (Ne.symm ne_b6_b25) nin0))
            have f404 : Fld Z T399.heap b25 "com/example/tideloop/tideloop/Message" "nextPooled" "Lcom/example/tideloop/tideloop/Message;" (.ref b14) := f392.keep K399c (ninS ne_b25_b110 (ninS (Ne.symm ne_b6_b25) nin0))
            have f405 : Exa Z T399.heap b110 "com/example/tideloop/tideloop/MessagePool" := f387_0.keep K399c
            have f406 : Fld Z T399.heap b14 "com/example/tideloop/tideloop/Message" "what" "I" (.int x3) := f387_5.keep K399c (ninS ne_b14_b110 (ninS (Ne.symm ne_b6_b14) nin0))
            have f407 : Fld Z T399.heap b14 "com/example/tideloop/tideloop/Message" "nextPooled" "Lcom/example/tideloop/tideloop/Message;" .null := f387_6.keep K399c (ninS ne_b14_b110 (ninS (Ne.symm ne_b6_b14) nin0))
            have Z408 : n0 ≤ T399.heap.size := Nat.le_trans Z396 K399c.1
            have st409 : Steps p.tables e below sE (T399.setTop (mkF m 167 #[.val (.int x0), .val (.int x1), .val (.int x2), .val (.int x3), .val (.int x4), .val (.int cap), .val (.int n), .val (.ref b6), .val (.ref b14), .val (.ref b25), .val (.ref b110), .val (.int (2 : Int32)), .val (.ref b14), .unset, .unset, .unset] [(.ref b6)])) := st398.trans (sr399)
            have st410 : Steps p.tables e below sE (T399.setTop (mkF m 171 #[.val (.int x0), .val (.int x1), .val (.int x2), .val (.int x3), .val (.int x4), .val (.int cap), .val (.int n), .val (.ref b6), .val (.ref b14), .val (.ref b25), .val (.ref b110), .val (.int (2 : Int32)), .val (.ref b14), .val (.ref b6), .unset, .unset] [(.ref b110)])) := st409.trans (by
                show Steps _ _ _ (T399.setTop (mkF m 167 #[.val (.int x0), .val (.int x1), .val (.int x2), .val (.int x3), .val (.int x4), .val (.int cap), .val (.int n), .val (.ref b6), .val (.ref b14), .val (.ref b25), .val (.ref b110), .val (.int (2 : Int32)), .val (.ref b14), .unset, .unset, .unset] [(.ref b6)])) _
                refine XS.astore X399.here hx rfl (hb hby at_167) rfl rfl (l' := #[.val (.int x0), .val (.int x1), .val (.int x2), .val (.int x3), .val (.int x4), .val (.int cap), .val (.int n), .val (.ref b6), .val (.ref b14), .val (.ref b25), .val (.ref b110), .val (.int (2 : Int32)), .val (.ref b14), .val (.ref b6), .unset, .unset]) rfl ?_
                show Steps _ _ _ (T399.setTop (mkF m 169 #[.val (.int x0), .val (.int x1), .val (.int x2), .val (.int x3), .val (.int x4), .val (.int cap), .val (.int n), .val (.ref b6), .val (.ref b14), .val (.ref b25), .val (.ref b110), .val (.int (2 : Int32)), .val (.ref b14), .val (.ref b6), .unset, .unset] [])) _
                refine XS.aload X399.here hx rfl (hb hby at_169) rfl rfl ?_
                exact Steps.refl _)
            obtain ⟨cq411, kq411, q411a, q411b, q411c⟩ := isOf hZ rfl f399_0
            obtain ⟨_, _, ⟨T411, L411, k411, n411⟩, -, X411, ⟨Lc411, hQ411, l411, y411, z411⟩, sr411⟩ := X399.virtualBack hx (y := (⟨"com/example/tideloop/tideloop/MessagePool", "take", "()Lcom/example/tideloop/tideloop/Message;"⟩ : MethodName)) (z := (⟨"com/example/tideloop/tideloop/MessagePool", "take", "()Lcom/example/tideloop/tideloop/Message;"⟩ : MethodName)) hown (mvT hZ (hw _ (List.mem_of_getElem? (i := 36) rfl))) (mvT hZ (hw _ (List.mem_of_getElem? (i := 37) rfl))) (notFace_of_selects (args := #[]) (mvT hZ (hw _ (List.mem_of_getElem? (i := 39) rfl)))) (mvT hZ (hw _ (List.mem_of_getElem? (i := 39) rfl))) (mvT hZ (hw _ (List.mem_of_getElem? (i := 38) rfl))) (by decide) (backOf (W := 0) (rmtk0 l Z a0 hw [] b110  T399.heap n0 Z408 f399_0 f399_3) hZ (hw _ (List.mem_of_getElem? (i := 40) rfl)) (hw _ (List.mem_of_getElem? (i := 15) rfl)) (by decide) (by decide)) q411a q411c (g := (mkF m 171 #[.val (.int x0), .val (.int x1), .val (.int x2), .val (.int x3), .val (.int x4), .val (.int cap), .val (.int n), .val (.ref b6), .val (.ref b14), .val (.ref b25), .val (.ref b110), .val (.int (2 : Int32)), .val (.ref b14), .val (.ref b6), .unset, .unset] [(.ref b110)])) rfl (by rw [hml]; rfl) (Steps.refl _) (argsL := []) (rest := []) (lenOf pd_3 rfl) rfl (by show 2 * 0 + _ ≤ _; exact Nat.le_of_eq rfl) (hb hby at_171) (fun _ _ => ⟨rfl, rfl, (by decide : 4 + 1 ≤ _), (by decide : 60 + 19 ≤ _)⟩)
            dsimp only [Pt.U, Pt.locs, Pt.cells, Pt.slots] at X411 l411 y411 z411 sr411 hQ411
            subst l411 y411 z411
            obtain ⟨rfl, N411q, K411c, ⟨qe411, qn411, qw411⟩⟩ := hQ411
            have N411 := Fr.app N399 N411q
            obtain ⟨LL411, X411, N411⟩ := own_hide X411 N411
            have f412 : Exa Z T411.heap b6 "com/example/tideloop/tideloop/Message" := f399_4.keep K411c
            have f413 : Exa Z T411.heap b14 "com/example/tideloop/tideloop/Message" := f401.keep K411c
            have f414 : Exa Z T411.heap b25 "com/example/tideloop/tideloop/Message" := f402.keep K411c
            have f415 : Fld Z T411.heap b25 "com/example/tideloop/tideloop/Message" "what" "I" (.int x4) := f403.keep K411c nin0
            have f416 : Fld Z T411.heap b25 "com/example/tideloop/tideloop/Message" "nextPooled" "Lcom/example/tideloop/tideloop/Message;" (.ref b14) := f404.keep K411c nin0
            have f417 : Exa Z T411.heap b110 "com/example/tideloop/tideloop/MessagePool" := f399_0.keep K411c
            have f418 : Fld Z T411.heap b14 "com/example/tideloop/tideloop/Message" "what" "I" (.int x3) := f406.keep K411c nin0
            have f419 : Fld Z T411.heap b14 "com/example/tideloop/tideloop/Message" "nextPooled" "Lcom/example/tideloop/tideloop/Message;" .null := f407.keep K411c nin0
            have f420 : Fld Z T411.heap b110 "com/example/tideloop/tideloop/MessagePool" "size" "I" (.int (((((0 : Int32) + (1 : Int32)) + (1 : Int32)) - (1 : Int32)) - (1 : Int32))) := f399_1.keep K411c nin0
            have f421 : Fld Z T411.heap b110 "com/example/tideloop/tideloop/MessagePool" "capacity" "I" (.int cap) := f399_2.keep K411c nin0
            have f422 : Fld Z T411.heap b110 "com/example/tideloop/tideloop/MessagePool" "head" "Lcom/example/tideloop/tideloop/Message;" .null := f399_3.keep K411c nin0
            have f423 : Fld Z T411.heap b6 "com/example/tideloop/tideloop/Message" "what" "I" (.int x2) := f399_5.keep K411c nin0
            have f424 : Fld Z T411.heap b6 "com/example/tideloop/tideloop/Message" "nextPooled" "Lcom/example/tideloop/tideloop/Message;" .null := f399_6.keep K411c nin0
            have Z425 : n0 ≤ T411.heap.size := Nat.le_trans Z408 K411c.1
            obtain ⟨bt411, g411⟩ : ∃ z, z = T399.heap.size := ⟨_, rfl⟩
            rw [← g411] at qe411 qn411 qw411 sr411
            have g_bt411 : n0 ≤ bt411 := Nat.le_trans Z408 (Nat.le_of_eq g411.symm)
            have ne_b6_bt411 : b6 ≠ bt411 := Nat.ne_of_lt (Nat.lt_of_lt_of_le f399_4.lt (Nat.le_of_eq g411.symm))
            have ne_b14_bt411 : b14 ≠ bt411 := Nat.ne_of_lt (Nat.lt_of_lt_of_le f401.lt (Nat.le_of_eq g411.symm))
            have ne_b25_bt411 : b25 ≠ bt411 := Nat.ne_of_lt (Nat.lt_of_lt_of_le f402.lt (Nat.le_of_eq g411.symm))
            have ne_b110_bt411 : b110 ≠ bt411 := Nat.ne_of_lt (Nat.lt_of_lt_of_le f399_0.lt (Nat.le_of_eq g411.symm))
            have st426 : Steps p.tables e below sE (T411.setTop (mkF m 174 #[.val (.int x0), .val (.int x1), .val (.int x2), .val (.int x3), .val (.int x4), .val (.int cap), .val (.int n), .val (.ref b6), .val (.ref b14), .val (.ref b25), .val (.ref b110), .val (.int (2 : Int32)), .val (.ref b14), .val (.ref b6), .unset, .unset] [(.ref bt411)])) := st410.trans (sr411)
            have st427 : Steps p.tables e below sE (T411.setTop (mkF m 178 #[.val (.int x0), .val (.int x1), .val (.int x2), .val (.int x3), .val (.int x4), .val (.int cap), .val (.int n), .val (.ref b6), .val (.ref b14), .val (.ref b25), .val (.ref b110), .val (.int (2 : Int32)), .val (.ref b14), .val (.ref b6), .val (.ref bt411), .unset] [(.ref b110)])) := st426.trans (by
                show Steps _ _ _ (T411.setTop (mkF m 174 #[.val (.int x0), .val (.int x1), .val (.int x2), .val (.int x3), .val (.int x4), .val (.int cap), .val (.int n), .val (.ref b6), .val (.ref b14), .val (.ref b25), .val (.ref b110), .val (.int (2 : Int32)), .val (.ref b14), .val (.ref b6), .unset, .unset] [(.ref bt411)])) _
                refine XS.astore X411.here hx rfl (hb hby at_174) rfl rfl (l' := #[.val (.int x0), .val (.int x1), .val (.int x2), .val (.int x3), .val (.int x4), .val (.int cap), .val (.int n), .val (.ref b6), .val (.ref b14), .val (.ref b25), .val (.ref b110), .val (.int (2 : Int32)), .val (.ref b14), .val (.ref b6), .val (.ref bt411), .unset]) rfl ?_
                show Steps _ _ _ (T411.setTop (mkF m 176 #[.val (.int x0), .val (.int x1), .val (.int x2), .val (.int x3), .val (.int x4), .val (.int cap), .val (.int n), .val (.ref b6), .val (.ref b14), .val (.ref b25), .val (.ref b110), .val (.int (2 : Int32)), .val (.ref b14), .val (.ref b6), .val (.ref bt411), .unset] [])) _
                refine XS.aload X411.here hx rfl (hb hby at_176) rfl rfl ?_
                exact Steps.refl _)
            obtain ⟨cq428, kq428, q428a, q428b, q428c⟩ := isOf hZ rfl f417
            obtain ⟨_, _, ⟨T428, L428, k428, n428⟩, -, X428, ⟨Lc428, hQ428, l428, y428, z428⟩, sr428⟩ := X411.virtualBack hx (y := (⟨"com/example/tideloop/tideloop/MessagePool", "take", "()Lcom/example/tideloop/tideloop/Message;"⟩ : MethodName)) (z := (⟨"com/example/tideloop/tideloop/MessagePool", "take", "()Lcom/example/tideloop/tideloop/Message;"⟩ : MethodName)) hown (mvT hZ (hw _ (List.mem_of_getElem? (i := 36) rfl))) (mvT hZ (hw _ (List.mem_of_getElem? (i := 37) rfl))) (notFace_of_selects (args := #[]) (mvT hZ (hw _ (List.mem_of_getElem? (i := 39) rfl)))) (mvT hZ (hw _ (List.mem_of_getElem? (i := 39) rfl))) (mvT hZ (hw _ (List.mem_of_getElem? (i := 38) rfl))) (by decide) (backOf (W := 0) (rmtk0 l Z a0 hw [] b110  T411.heap n0 Z425 f417 f422) hZ (hw _ (List.mem_of_getElem? (i := 40) rfl)) (hw _ (List.mem_of_getElem? (i := 15) rfl)) (by decide) (by decide)) q428a q428c (g := (mkF m 178 #[.val (.int x0), .val (.int x1), .val (.int x2), .val (.int x3), .val (.int x4), .val (.int cap), .val (.int n), .val (.ref b6), .val (.ref b14), .val (.ref b25), .val (.ref b110), .val (.int (2 : Int32)), .val (.ref b14), .val (.ref b6), .val (.ref bt411), .unset] [(.ref b110)])) rfl (by rw [hml]; rfl) (Steps.refl _) (argsL := []) (rest := []) (lenOf pd_3 rfl) rfl (by show 2 * 0 + _ ≤ _; exact Nat.le_of_eq rfl) (hb hby at_178) (fun _ _ => ⟨rfl, rfl, (by decide : 5 + 1 ≤ _), (by decide : 79 + 19 ≤ _)⟩)
            dsimp only [Pt.U, Pt.locs, Pt.cells, Pt.slots] at X428 l428 y428 z428 sr428 hQ428
            subst l428 y428 z428
            obtain ⟨rfl, N428q, K428c, ⟨qe428, qn428, qw428⟩⟩ := hQ428
            have N428 := Fr.app N411 N428q
            obtain ⟨LL428, X428, N428⟩ := own_hide X428 N428
            have f429 : Exa Z T428.heap b6 "com/example/tideloop/tideloop/Message" := f412.keep K428c
            have f430 : Exa Z T428.heap b14 "com/example/tideloop/tideloop/Message" := f413.keep K428c
            have f431 : Exa Z T428.heap b25 "com/example/tideloop/tideloop/Message" := f414.keep K428c
            have f432 : Fld Z T428.heap b25 "com/example/tideloop/tideloop/Message" "what" "I" (.int x4) := f415.keep K428c nin0
            have f433 : Fld Z T428.heap b25 "com/example/tideloop/tideloop/Message" "nextPooled" "Lcom/example/tideloop/tideloop/Message;" (.ref b14) := f416.keep K428c nin0
            have f434 : Exa Z T428.heap b110 "com/example/tideloop/tideloop/MessagePool" := f417.keep K428c
            have f435 : Fld Z T428.heap b14 "com/example/tideloop/tideloop/Message" "what" "I" (.int x3) := f418.keep K428c nin0
            have f436 : Fld Z T428.heap b14 "com/example/tideloop/tideloop/Message" "nextPooled" "Lcom/example/tideloop/tideloop/Message;" .null := f419.keep K428c nin0
            have f437 : Fld Z T428.heap b110 "com/example/tideloop/tideloop/MessagePool" "size" "I" (.int (((((0 : Int32) + (1 : Int32)) + (1 : Int32)) - (1 : Int32)) - (1 : Int32))) := f420.keep K428c nin0
            have f438 : Fld Z T428.heap b110 "com/example/tideloop/tideloop/MessagePool" "capacity" "I" (.int cap) := f421.keep K428c nin0
            have f439 : Fld Z T428.heap b110 "com/example/tideloop/tideloop/MessagePool" "head" "Lcom/example/tideloop/tideloop/Message;" .null := f422.keep K428c nin0
            have f440 : Fld Z T428.heap b6 "com/example/tideloop/tideloop/Message" "what" "I" (.int x2) := f423.keep K428c nin0
            have f441 : Fld Z T428.heap b6 "com/example/tideloop/tideloop/Message" "nextPooled" "Lcom/example/tideloop/tideloop/Message;" .null := f424.keep K428c nin0
            have f442 : Exa Z T428.heap bt411 "com/example/tideloop/tideloop/Message" := qe411.keep K428c
            have f443 : Fld Z T428.heap bt411 "com/example/tideloop/tideloop/Message" "nextPooled" "Lcom/example/tideloop/tideloop/Message;" .null := qn411.keep K428c nin0
            have f444 : Fld Z T428.heap bt411 "com/example/tideloop/tideloop/Message" "what" "I" (.int (0 : Int32)) := qw411.keep K428c nin0
            have Z445 : n0 ≤ T428.heap.size := Nat.le_trans Z425 K428c.1
            obtain ⟨bt428, g428⟩ : ∃ z, z = T411.heap.size := ⟨_, rfl⟩
            rw [← g428] at qe428 qn428 qw428 sr428
            have g_bt428 : n0 ≤ bt428 := Nat.le_trans Z425 (Nat.le_of_eq g428.symm)
            have ne_b6_bt428 : b6 ≠ bt428 := Nat.ne_of_lt (Nat.lt_of_lt_of_le f412.lt (Nat.le_of_eq g428.symm))
            have ne_b14_bt428 : b14 ≠ bt428 := Nat.ne_of_lt (Nat.lt_of_lt_of_le f413.lt (Nat.le_of_eq g428.symm))
            have ne_b25_bt428 : b25 ≠ bt428 := Nat.ne_of_lt (Nat.lt_of_lt_of_le f414.lt (Nat.le_of_eq g428.symm))
            have ne_b110_bt428 : b110 ≠ bt428 := Nat.ne_of_lt (Nat.lt_of_lt_of_le f417.lt (Nat.le_of_eq g428.symm))
            have ne_bt411_bt428 : bt411 ≠ bt428 := Nat.ne_of_lt (Nat.lt_of_lt_of_le qe411.lt (Nat.le_of_eq g428.symm))
            have st446 : Steps p.tables e below sE (T428.setTop (mkF m 181 #[.val (.int x0), .val (.int x1), .val (.int x2), .val (.int x3), .val (.int x4), .val (.int cap), .val (.int n), .val (.ref b6), .val (.ref b14), .val (.ref b25), .val (.ref b110), .val (.int (2 : Int32)), .val (.ref b14), .val (.ref b6), .val (.ref bt411), .unset] [(.ref bt428)])) := st427.trans (sr428)
            have st447 : Steps p.tables e below sE (T428.setTop (mkF m 198 #[.val (.int x0), .val (.int x1), .val (.int x2), .val (.int x3), .val (.int x4), .val (.int cap), .val (.int n), .val (.ref b6), .val (.ref b14), .val (.ref b25), .val (.ref b110), .val (.int (2 : Int32)), .val (.ref b14), .val (.ref b6), .val (.ref bt411), .val (.ref bt428)] [(.int x4), (.int x3), (.int x2), (.ref b25), (.ref b14), (.ref b6), (.int (2 : Int32)), (.int (1 : Int32)), (.ref b14)])) := st446.trans (by
                show Steps _ _ _ (T428.setTop (mkF m 181 #[.val (.int x0), .val (.int x1), .val (.int x2), .val (.int x3), .val (.int x4), .val (.int cap), .val (.int n), .val (.ref b6), .val (.ref b14), .val (.ref b25), .val (.ref b110), .val (.int (2 : Int32)), .val (.ref b14), .val (.ref b6), .val (.ref bt411), .unset] [(.ref bt428)])) _
                refine XS.astore X428.here hx rfl (hb hby at_181) rfl rfl (l' := #[.val (.int x0), .val (.int x1), .val (.int x2), .val (.int x3), .val (.int x4), .val (.int cap), .val (.int n), .val (.ref b6), .val (.ref b14), .val (.ref b25), .val (.ref b110), .val (.int (2 : Int32)), .val (.ref b14), .val (.ref b6), .val (.ref bt411), .val (.ref bt428)]) rfl ?_
                show Steps _ _ _ (T428.setTop (mkF m 183 #[.val (.int x0), .val (.int x1), .val (.int x2), .val (.int x3), .val (.int x4), .val (.int cap), .val (.int n), .val (.ref b6), .val (.ref b14), .val (.ref b25), .val (.ref b110), .val (.int (2 : Int32)), .val (.ref b14), .val (.ref b6), .val (.ref bt411), .val (.ref bt428)] [])) _
                refine XS.aload X428.here hx rfl (hb hby at_183) rfl rfl ?_
                show Steps _ _ _ (T428.setTop (mkF m 185 #[.val (.int x0), .val (.int x1), .val (.int x2), .val (.int x3), .val (.int x4), .val (.int cap), .val (.int n), .val (.ref b6), .val (.ref b14), .val (.ref b25), .val (.ref b110), .val (.int (2 : Int32)), .val (.ref b14), .val (.ref b6), .val (.ref bt411), .val (.ref bt428)] [(.ref b14)])) _
                refine XS.iconst X428.here hx rfl (hb hby at_185) ?_
                show Steps _ _ _ (T428.setTop (mkF m 186 #[.val (.int x0), .val (.int x1), .val (.int x2), .val (.int x3), .val (.int x4), .val (.int cap), .val (.int n), .val (.ref b6), .val (.ref b14), .val (.ref b25), .val (.ref b110), .val (.int (2 : Int32)), .val (.ref b14), .val (.ref b6), .val (.ref bt411), .val (.ref bt428)] [(.int (1 : Int32)), (.ref b14)])) _
                refine XS.iload X428.here hx rfl (hb hby at_186) rfl ?_
                show Steps _ _ _ (T428.setTop (mkF m 188 #[.val (.int x0), .val (.int x1), .val (.int x2), .val (.int x3), .val (.int x4), .val (.int cap), .val (.int n), .val (.ref b6), .val (.ref b14), .val (.ref b25), .val (.ref b110), .val (.int (2 : Int32)), .val (.ref b14), .val (.ref b6), .val (.ref bt411), .val (.ref bt428)] [(.int (2 : Int32)), (.int (1 : Int32)), (.ref b14)])) _
                refine XS.aload X428.here hx rfl (hb hby at_188) rfl rfl ?_
                show Steps _ _ _ (T428.setTop (mkF m 190 #[.val (.int x0), .val (.int x1), .val (.int x2), .val (.int x3), .val (.int x4), .val (.int cap), .val (.int n), .val (.ref b6), .val (.ref b14), .val (.ref b25), .val (.ref b110), .val (.int (2 : Int32)), .val (.ref b14), .val (.ref b6), .val (.ref bt411), .val (.ref bt428)] [(.ref b6), (.int (2 : Int32)), (.int (1 : Int32)), (.ref b14)])) _
                refine XS.aload X428.here hx rfl (hb hby at_190) rfl rfl ?_
                show Steps _ _ _ (T428.setTop (mkF m 192 #[.val (.int x0), .val (.int x1), .val (.int x2), .val (.int x3), .val (.int x4), .val (.int cap), .val (.int n), .val (.ref b6), .val (.ref b14), .val (.ref b25), .val (.ref b110), .val (.int (2 : Int32)), .val (.ref b14), .val (.ref b6), .val (.ref bt411), .val (.ref bt428)] [(.ref b14), (.ref b6), (.int (2 : Int32)), (.int (1 : Int32)), (.ref b14)])) _
                refine XS.aload X428.here hx rfl (hb hby at_192) rfl rfl ?_
                show Steps _ _ _ (T428.setTop (mkF m 194 #[.val (.int x0), .val (.int x1), .val (.int x2), .val (.int x3), .val (.int x4), .val (.int cap), .val (.int n), .val (.ref b6), .val (.ref b14), .val (.ref b25), .val (.ref b110), .val (.int (2 : Int32)), .val (.ref b14), .val (.ref b6), .val (.ref bt411), .val (.ref bt428)] [(.ref b25), (.ref b14), (.ref b6), (.int (2 : Int32)), (.int (1 : Int32)), (.ref b14)])) _
                refine XS.iloadN X428.here hx rfl (hb hby at_194) rfl ?_
                show Steps _ _ _ (T428.setTop (mkF m 195 #[.val (.int x0), .val (.int x1), .val (.int x2), .val (.int x3), .val (.int x4), .val (.int cap), .val (.int n), .val (.ref b6), .val (.ref b14), .val (.ref b25), .val (.ref b110), .val (.int (2 : Int32)), .val (.ref b14), .val (.ref b6), .val (.ref bt411), .val (.ref bt428)] [(.int x2), (.ref b25), (.ref b14), (.ref b6), (.int (2 : Int32)), (.int (1 : Int32)), (.ref b14)])) _
                refine XS.iloadN X428.here hx rfl (hb hby at_195) rfl ?_
                show Steps _ _ _ (T428.setTop (mkF m 196 #[.val (.int x0), .val (.int x1), .val (.int x2), .val (.int x3), .val (.int x4), .val (.int cap), .val (.int n), .val (.ref b6), .val (.ref b14), .val (.ref b25), .val (.ref b110), .val (.int (2 : Int32)), .val (.ref b14), .val (.ref b6), .val (.ref bt411), .val (.ref bt428)] [(.int x3), (.int x2), (.ref b25), (.ref b14), (.ref b6), (.int (2 : Int32)), (.int (1 : Int32)), (.ref b14)])) _
                refine XS.iload X428.here hx rfl (hb hby at_196) rfl ?_
                exact Steps.refl _)
            obtain ⟨_, _, ⟨T448, L448, k448, n448⟩, -, X448, ⟨Lc448, hQ448, l448, y448, z448⟩, sr448⟩ := Jvm.LawKit.callS X428 hx (y := (⟨"com/example/tideloop/tideloop/MessagePoolKeepPinLaw", "check", "(Lcom/example/tideloop/tideloop/Message;IILcom/example/tideloop/tideloop/Message;Lcom/example/tideloop/tideloop/Message;Lcom/example/tideloop/tideloop/Message;III)Z"⟩ : MethodName)) hown (mvT hZ (hw _ (List.mem_of_getElem? (i := 45) rfl))) (mvT hZ (hw _ (List.mem_of_getElem? (i := 46) rfl))) (mvT hZ (hw _ (List.mem_of_getElem? (i := 47) rfl))) (mvT hZ (hw _ (List.mem_of_getElem? (i := 48) rfl))) (by decide) (backOf (W := 0) (rm8 l Z a0 hw [] b14 (1 : Int32) (2 : Int32) b6 b14 b25 x2 x3 x4 x3 T428.heap n0 Z445 f436 f435) hZ (hw _ (List.mem_of_getElem? (i := 48) rfl)) (hw _ (List.mem_of_getElem? (i := 47) rfl)) (by decide) (by decide)) (g := (mkF m 198 #[.val (.int x0), .val (.int x1), .val (.int x2), .val (.int x3), .val (.int x4), .val (.int cap), .val (.int n), .val (.ref b6), .val (.ref b14), .val (.ref b25), .val (.ref b110), .val (.int (2 : Int32)), .val (.ref b14), .val (.ref b6), .val (.ref bt411), .val (.ref bt428)] [(.int x4), (.int x3), (.int x2), (.ref b25), (.ref b14), (.ref b6), (.int (2 : Int32)), (.int (1 : Int32)), (.ref b14)])) rfl (by rw [hml]; rfl) (argsL := [(.ref b14), (.int (1 : Int32)), (.int (2 : Int32)), (.ref b6), (.ref b14), (.ref b25), (.int x2), (.int x3), (.int x4)]) (rest := []) (lenOf pd_4 rfl) rfl (by show 2 * 0 + _ ≤ _; exact Nat.le_of_eq rfl) (hb hby at_198) (fun _ _ => ⟨rfl, rfl, (by decide : 6 + 0 ≤ _), (by decide : 98 + 0 ≤ _)⟩)
            dsimp only [Pt.U, Pt.locs, Pt.cells, Pt.slots] at X448 l448 y448 z448 sr448 hQ448
            subst l448 y448 z448
            obtain ⟨rfl, N448q, hh448⟩ := hQ448
            have N448 := Fr.app N428 N448q
            obtain ⟨LL448, X448, N448⟩ := own_hide X448 N448
            have st449 : Steps p.tables e below sE (T448.setTop (mkF m 201 #[.val (.int x0), .val (.int x1), .val (.int x2), .val (.int x3), .val (.int x4), .val (.int cap), .val (.int n), .val (.ref b6), .val (.ref b14), .val (.ref b25), .val (.ref b110), .val (.int (2 : Int32)), .val (.ref b14), .val (.ref b6), .val (.ref bt411), .val (.ref bt428)] [(.int (F8 b14 (1 : Int32) (2 : Int32) b6 b14 b25 x2 x3 x4 x3))])) := st447.trans (sr448 _ (Steps.refl _))
            have hf450 : ¬ ((F8 b14 (1 : Int32) (2 : Int32) b6 b14 b25 x2 x3 x4 x3) = (0 : Int32)) := by simp +decide [F8]
            have st451 : Steps p.tables e below sE (T448.setTop (mkF m 219 #[.val (.int x0), .val (.int x1), .val (.int x2), .val (.int x3), .val (.int x4), .val (.int cap), .val (.int n), .val (.ref b6), .val (.ref b14), .val (.ref b25), .val (.ref b110), .val (.int (2 : Int32)), .val (.ref b14), .val (.ref b6), .val (.ref bt411), .val (.ref bt428)] [(.int x4), (.int x3), (.int x2), (.ref b25), (.ref b14), (.ref b6), (.int (2 : Int32)), (.int (2 : Int32)), (.ref b6)])) := st449.trans (by
                show Steps _ _ _ (T448.setTop (mkF m 201 #[.val (.int x0), .val (.int x1), .val (.int x2), .val (.int x3), .val (.int x4), .val (.int cap), .val (.int n), .val (.ref b6), .val (.ref b14), .val (.ref b25), .val (.ref b110), .val (.int (2 : Int32)), .val (.ref b14), .val (.ref b6), .val (.ref bt411), .val (.ref bt428)] [(.int (F8 b14 (1 : Int32) (2 : Int32) b6 b14 b25 x2 x3 x4 x3))])) _
                refine XS.ifNo X448.here hx rfl (hb hby at_201) rfl ((if0 _ _).trans (feq hf450).1) ?_
                show Steps _ _ _ (T448.setTop (mkF m 204 #[.val (.int x0), .val (.int x1), .val (.int x2), .val (.int x3), .val (.int x4), .val (.int cap), .val (.int n), .val (.ref b6), .val (.ref b14), .val (.ref b25), .val (.ref b110), .val (.int (2 : Int32)), .val (.ref b14), .val (.ref b6), .val (.ref bt411), .val (.ref bt428)] [])) _
                refine XS.aload X448.here hx rfl (hb hby at_204) rfl rfl ?_
                show Steps _ _ _ (T448.setTop (mkF m 206 #[.val (.int x0), .val (.int x1), .val (.int x2), .val (.int x3), .val (.int x4), .val (.int cap), .val (.int n), .val (.ref b6), .val (.ref b14), .val (.ref b25), .val (.ref b110), .val (.int (2 : Int32)), .val (.ref b14), .val (.ref b6), .val (.ref bt411), .val (.ref bt428)] [(.ref b6)])) _
                refine XS.iconst X448.here hx rfl (hb hby at_206) ?_
                show Steps _ _ _ (T448.setTop (mkF m 207 #[.val (.int x0), .val (.int x1), .val (.int x2), .val (.int x3), .val (.int x4), .val (.int cap), .val (.int n), .val (.ref b6), .val (.ref b14), .val (.ref b25), .val (.ref b110), .val (.int (2 : Int32)), .val (.ref b14), .val (.ref b6), .val (.ref bt411), .val (.ref bt428)] [(.int (2 : Int32)), (.ref b6)])) _
                refine XS.iload X448.here hx rfl (hb hby at_207) rfl ?_
                show Steps _ _ _ (T448.setTop (mkF m 209 #[.val (.int x0), .val (.int x1), .val (.int x2), .val (.int x3), .val (.int x4), .val (.int cap), .val (.int n), .val (.ref b6), .val (.ref b14), .val (.ref b25), .val (.ref b110), .val (.int (2 : Int32)), .val (.ref b14), .val (.ref b6), .val (.ref bt411), .val (.ref bt428)] [(.int (2 : Int32)), (.int (2 : Int32)), (.ref b6)])) _
                refine XS.aload X448.here hx rfl (hb hby at_209) rfl rfl ?_
                show Steps _ _ _ (T448.setTop (mkF m 211 #[.val (.int x0), .val (.int x1), .val (.int x2), .val (.int x3), .val (.int x4), .val (.int cap), .val (.int n), .val (.ref b6), .val (.ref b14), .val (.ref b25), .val (.ref b110), .val (.int (2 : Int32)), .val (.ref b14), .val (.ref b6), .val (.ref bt411), .val (.ref bt428)] [(.ref b6), (.int (2 : Int32)), (.int (2 : Int32)), (.ref b6)])) _
                refine XS.aload X448.here hx rfl (hb hby at_211) rfl rfl ?_
                show Steps _ _ _ (T448.setTop (mkF m 213 #[.val (.int x0), .val (.int x1), .val (.int x2), .val (.int x3), .val (.int x4), .val (.int cap), .val (.int n), .val (.ref b6), .val (.ref b14), .val (.ref b25), .val (.ref b110), .val (.int (2 : Int32)), .val (.ref b14), .val (.ref b6), .val (.ref bt411), .val (.ref bt428)] [(.ref b14), (.ref b6), (.int (2 : Int32)), (.int (2 : Int32)), (.ref b6)])) _
                refine XS.aload X448.here hx rfl (hb hby at_213) rfl rfl ?_
                show Steps _ _ _ (T448.setTop (mkF m 215 #[.val (.int x0), .val (.int x1), .val (.int x2), .val (.int x3), .val (.int x4), .val (.int cap), .val (.int n), .val (.ref b6), .val (.ref b14), .val (.ref b25), .val (.ref b110), .val (.int (2 : Int32)), .val (.ref b14), .val (.ref b6), .val (.ref bt411), .val (.ref bt428)] [(.ref b25), (.ref b14), (.ref b6), (.int (2 : Int32)), (.int (2 : Int32)), (.ref b6)])) _
                refine XS.iloadN X448.here hx rfl (hb hby at_215) rfl ?_
                show Steps _ _ _ (T448.setTop (mkF m 216 #[.val (.int x0), .val (.int x1), .val (.int x2), .val (.int x3), .val (.int x4), .val (.int cap), .val (.int n), .val (.ref b6), .val (.ref b14), .val (.ref b25), .val (.ref b110), .val (.int (2 : Int32)), .val (.ref b14), .val (.ref b6), .val (.ref bt411), .val (.ref bt428)] [(.int x2), (.ref b25), (.ref b14), (.ref b6), (.int (2 : Int32)), (.int (2 : Int32)), (.ref b6)])) _
                refine XS.iloadN X448.here hx rfl (hb hby at_216) rfl ?_
                show Steps _ _ _ (T448.setTop (mkF m 217 #[.val (.int x0), .val (.int x1), .val (.int x2), .val (.int x3), .val (.int x4), .val (.int cap), .val (.int n), .val (.ref b6), .val (.ref b14), .val (.ref b25), .val (.ref b110), .val (.int (2 : Int32)), .val (.ref b14), .val (.ref b6), .val (.ref bt411), .val (.ref bt428)] [(.int x3), (.int x2), (.ref b25), (.ref b14), (.ref b6), (.int (2 : Int32)), (.int (2 : Int32)), (.ref b6)])) _
                refine XS.iload X448.here hx rfl (hb hby at_217) rfl ?_
                exact Steps.refl _)
            obtain ⟨_, _, ⟨T452, L452, k452, n452⟩, -, X452, ⟨Lc452, hQ452, l452, y452, z452⟩, sr452⟩ := Jvm.LawKit.callS X448 hx (y := (⟨"com/example/tideloop/tideloop/MessagePoolKeepPinLaw", "check", "(Lcom/example/tideloop/tideloop/Message;IILcom/example/tideloop/tideloop/Message;Lcom/example/tideloop/tideloop/Message;Lcom/example/tideloop/tideloop/Message;III)Z"⟩ : MethodName)) hown (mvT hZ (hw _ (List.mem_of_getElem? (i := 45) rfl))) (mvT hZ (hw _ (List.mem_of_getElem? (i := 46) rfl))) (mvT hZ (hw _ (List.mem_of_getElem? (i := 47) rfl))) (mvT hZ (hw _ (List.mem_of_getElem? (i := 48) rfl))) (by decide) (backOf (W := 0) (rm8 l Z a0 hw [] b6 (2 : Int32) (2 : Int32) b6 b14 b25 x2 x3 x4 x2 T428.heap n0 Z445 f441 f440) hZ (hw _ (List.mem_of_getElem? (i := 48) rfl)) (hw _ (List.mem_of_getElem? (i := 47) rfl)) (by decide) (by decide)) (g := (mkF m 219 #[.val (.int x0), .val (.int x1), .val (.int x2), .val (.int x3), .val (.int x4), .val (.int cap), .val (.int n), .val (.ref b6), .val (.ref b14), .val (.ref b25), .val (.ref b110), .val (.int (2 : Int32)), .val (.ref b14), .val (.ref b6), .val (.ref bt411), .val (.ref bt428)] [(.int x4), (.int x3), (.int x2), (.ref b25), (.ref b14), (.ref b6), (.int (2 : Int32)), (.int (2 : Int32)), (.ref b6)])) rfl (by rw [hml]; rfl) (argsL := [(.ref b6), (.int (2 : Int32)), (.int (2 : Int32)), (.ref b6), (.ref b14), (.ref b25), (.int x2), (.int x3), (.int x4)]) (rest := []) (lenOf pd_4 rfl) rfl (by show 2 * 0 + _ ≤ _; exact Nat.le_of_eq rfl) (hb hby at_219) (fun _ _ => ⟨rfl, hh448, (by decide : 6 + 0 ≤ _), (by decide : 98 + 0 ≤ _)⟩)
            dsimp only [Pt.U, Pt.locs, Pt.cells, Pt.slots] at X452 l452 y452 z452 sr452 hQ452
            subst l452 y452 z452
            obtain ⟨rfl, N452q, hh452⟩ := hQ452
            have N452 := Fr.app N448 N452q
            obtain ⟨LL452, X452, N452⟩ := own_hide X452 N452
            have st453 : Steps p.tables e below sE (T452.setTop (mkF m 222 #[.val (.int x0), .val (.int x1), .val (.int x2), .val (.int x3), .val (.int x4), .val (.int cap), .val (.int n), .val (.ref b6), .val (.ref b14), .val (.ref b25), .val (.ref b110), .val (.int (2 : Int32)), .val (.ref b14), .val (.ref b6), .val (.ref bt411), .val (.ref bt428)] [(.int (F8 b6 (2 : Int32) (2 : Int32) b6 b14 b25 x2 x3 x4 x2))])) := st451.trans (sr452 _ (Steps.refl _))
            have hf454 : ¬ ((F8 b6 (2 : Int32) (2 : Int32) b6 b14 b25 x2 x3 x4 x2) = (0 : Int32)) := by simp +decide [F8]
            have st455 : Steps p.tables e below sE (T452.setTop (mkF m 240 #[.val (.int x0), .val (.int x1), .val (.int x2), .val (.int x3), .val (.int x4), .val (.int cap), .val (.int n), .val (.ref b6), .val (.ref b14), .val (.ref b25), .val (.ref b110), .val (.int (2 : Int32)), .val (.ref b14), .val (.ref b6), .val (.ref bt411), .val (.ref bt428)] [(.int x4), (.int x3), (.int x2), (.ref b25), (.ref b14), (.ref b6), (.int (2 : Int32)), (.int (3 : Int32)), (.ref bt411)])) := st453.trans (by
                show Steps _ _ _ (T452.setTop (mkF m 222 #[.val (.int x0), .val (.int x1), .val (.int x2), .val (.int x3), .val (.int x4), .val (.int cap), .val (.int n), .val (.ref b6), .val (.ref b14), .val (.ref b25), .val (.ref b110), .val (.int (2 : Int32)), .val (.ref b14), .val (.ref b6), .val (.ref bt411), .val (.ref bt428)] [(.int (F8 b6 (2 : Int32) (2 : Int32) b6 b14 b25 x2 x3 x4 x2))])) _
                refine XS.ifNo X452.here hx rfl (hb hby at_222) rfl ((if0 _ _).trans (feq hf454).1) ?_
                show Steps _ _ _ (T452.setTop (mkF m 225 #[.val (.int x0), .val (.int x1), .val (.int x2), .val (.int x3), .val (.int x4), .val (.int cap), .val (.int n), .val (.ref b6), .val (.ref b14), .val (.ref b25), .val (.ref b110), .val (.int (2 : Int32)), .val (.ref b14), .val (.ref b6), .val (.ref bt411), .val (.ref bt428)] [])) _
                refine XS.aload X452.here hx rfl (hb hby at_225) rfl rfl ?_
                show Steps _ _ _ (T452.setTop (mkF m 227 #[.val (.int x0), .val (.int x1), .val (.int x2), .val (.int x3), .val (.int x4), .val (.int cap), .val (.int n), .val (.ref b6), .val (.ref b14), .val (.ref b25), .val (.ref b110), .val (.int (2 : Int32)), .val (.ref b14), .val (.ref b6), .val (.ref bt411), .val (.ref bt428)] [(.ref bt411)])) _
                refine XS.iconst X452.here hx rfl (hb hby at_227) ?_
                show Steps _ _ _ (T452.setTop (mkF m 228 #[.val (.int x0), .val (.int x1), .val (.int x2), .val (.int x3), .val (.int x4), .val (.int cap), .val (.int n), .val (.ref b6), .val (.ref b14), .val (.ref b25), .val (.ref b110), .val (.int (2 : Int32)), .val (.ref b14), .val (.ref b6), .val (.ref bt411), .val (.ref bt428)] [(.int (3 : Int32)), (.ref bt411)])) _
                refine XS.iload X452.here hx rfl (hb hby at_228) rfl ?_
                show Steps _ _ _ (T452.setTop (mkF m 230 #[.val (.int x0), .val (.int x1), .val (.int x2), .val (.int x3), .val (.int x4), .val (.int cap), .val (.int n), .val (.ref b6), .val (.ref b14), .val (.ref b25), .val (.ref b110), .val (.int (2 : Int32)), .val (.ref b14), .val (.ref b6), .val (.ref bt411), .val (.ref bt428)] [(.int (2 : Int32)), (.int (3 : Int32)), (.ref bt411)])) _
                refine XS.aload X452.here hx rfl (hb hby at_230) rfl rfl ?_
                show Steps _ _ _ (T452.setTop (mkF m 232 #[.val (.int x0), .val (.int x1), .val (.int x2), .val (.int x3), .val (.int x4), .val (.int cap), .val (.int n), .val (.ref b6), .val (.ref b14), .val (.ref b25), .val (.ref b110), .val (.int (2 : Int32)), .val (.ref b14), .val (.ref b6), .val (.ref bt411), .val (.ref bt428)] [(.ref b6), (.int (2 : Int32)), (.int (3 : Int32)), (.ref bt411)])) _
                refine XS.aload X452.here hx rfl (hb hby at_232) rfl rfl ?_
                show Steps _ _ _ (T452.setTop (mkF m 234 #[.val (.int x0), .val (.int x1), .val (.int x2), .val (.int x3), .val (.int x4), .val (.int cap), .val (.int n), .val (.ref b6), .val (.ref b14), .val (.ref b25), .val (.ref b110), .val (.int (2 : Int32)), .val (.ref b14), .val (.ref b6), .val (.ref bt411), .val (.ref bt428)] [(.ref b14), (.ref b6), (.int (2 : Int32)), (.int (3 : Int32)), (.ref bt411)])) _
                refine XS.aload X452.here hx rfl (hb hby at_234) rfl rfl ?_
                show Steps _ _ _ (T452.setTop (mkF m 236 #[.val (.int x0), .val (.int x1), .val (.int x2), .val (.int x3), .val (.int x4), .val (.int cap), .val (.int n), .val (.ref b6), .val (.ref b14), .val (.ref b25), .val (.ref b110), .val (.int (2 : Int32)), .val (.ref b14), .val (.ref b6), .val (.ref bt411), .val (.ref bt428)] [(.ref b25), (.ref b14), (.ref b6), (.int (2 : Int32)), (.int (3 : Int32)), (.ref bt411)])) _
                refine XS.iloadN X452.here hx rfl (hb hby at_236) rfl ?_
                show Steps _ _ _ (T452.setTop (mkF m 237 #[.val (.int x0), .val (.int x1), .val (.int x2), .val (.int x3), .val (.int x4), .val (.int cap), .val (.int n), .val (.ref b6), .val (.ref b14), .val (.ref b25), .val (.ref b110), .val (.int (2 : Int32)), .val (.ref b14), .val (.ref b6), .val (.ref bt411), .val (.ref bt428)] [(.int x2), (.ref b25), (.ref b14), (.ref b6), (.int (2 : Int32)), (.int (3 : Int32)), (.ref bt411)])) _
                refine XS.iloadN X452.here hx rfl (hb hby at_237) rfl ?_
                show Steps _ _ _ (T452.setTop (mkF m 238 #[.val (.int x0), .val (.int x1), .val (.int x2), .val (.int x3), .val (.int x4), .val (.int cap), .val (.int n), .val (.ref b6), .val (.ref b14), .val (.ref b25), .val (.ref b110), .val (.int (2 : Int32)), .val (.ref b14), .val (.ref b6), .val (.ref bt411), .val (.ref bt428)] [(.int x3), (.int x2), (.ref b25), (.ref b14), (.ref b6), (.int (2 : Int32)), (.int (3 : Int32)), (.ref bt411)])) _
                refine XS.iload X452.here hx rfl (hb hby at_238) rfl ?_
                exact Steps.refl _)
            obtain ⟨_, _, ⟨T456, L456, k456, n456⟩, -, X456, ⟨Lc456, hQ456, l456, y456, z456⟩, sr456⟩ := Jvm.LawKit.callS X452 hx (y := (⟨"com/example/tideloop/tideloop/MessagePoolKeepPinLaw", "check", "(Lcom/example/tideloop/tideloop/Message;IILcom/example/tideloop/tideloop/Message;Lcom/example/tideloop/tideloop/Message;Lcom/example/tideloop/tideloop/Message;III)Z"⟩ : MethodName)) hown (mvT hZ (hw _ (List.mem_of_getElem? (i := 45) rfl))) (mvT hZ (hw _ (List.mem_of_getElem? (i := 46) rfl))) (mvT hZ (hw _ (List.mem_of_getElem? (i := 47) rfl))) (mvT hZ (hw _ (List.mem_of_getElem? (i := 48) rfl))) (by decide) (backOf (W := 0) (rm8 l Z a0 hw [] bt411 (3 : Int32) (2 : Int32) b6 b14 b25 x2 x3 x4 (0 : Int32) T428.heap n0 Z445 f443 f444) hZ (hw _ (List.mem_of_getElem? (i := 48) rfl)) (hw _ (List.mem_of_getElem? (i := 47) rfl)) (by decide) (by decide)) (g := (mkF m 240 #[.val (.int x0), .val (.int x1), .val (.int x2), .val (.int x3), .val (.int x4), .val (.int cap), .val (.int n), .val (.ref b6), .val (.ref b14), .val (.ref b25), .val (.ref b110), .val (.int (2 : Int32)), .val (.ref b14), .val (.ref b6), .val (.ref bt411), .val (.ref bt428)] [(.int x4), (.int x3), (.int x2), (.ref b25), (.ref b14), (.ref b6), (.int (2 : Int32)), (.int (3 : Int32)), (.ref bt411)])) rfl (by rw [hml]; rfl) (argsL := [(.ref bt411), (.int (3 : Int32)), (.int (2 : Int32)), (.ref b6), (.ref b14), (.ref b25), (.int x2), (.int x3), (.int x4)]) (rest := []) (lenOf pd_4 rfl) rfl (by show 2 * 0 + _ ≤ _; exact Nat.le_of_eq rfl) (hb hby at_240) (fun _ _ => ⟨rfl, hh452, (by decide : 6 + 0 ≤ _), (by decide : 98 + 0 ≤ _)⟩)
            dsimp only [Pt.U, Pt.locs, Pt.cells, Pt.slots] at X456 l456 y456 z456 sr456 hQ456
            subst l456 y456 z456
            obtain ⟨rfl, N456q, hh456⟩ := hQ456
            have N456 := Fr.app N452 N456q
            obtain ⟨LL456, X456, N456⟩ := own_hide X456 N456
            have st457 : Steps p.tables e below sE (T456.setTop (mkF m 243 #[.val (.int x0), .val (.int x1), .val (.int x2), .val (.int x3), .val (.int x4), .val (.int cap), .val (.int n), .val (.ref b6), .val (.ref b14), .val (.ref b25), .val (.ref b110), .val (.int (2 : Int32)), .val (.ref b14), .val (.ref b6), .val (.ref bt411), .val (.ref bt428)] [(.int (F8 bt411 (3 : Int32) (2 : Int32) b6 b14 b25 x2 x3 x4 (0 : Int32)))])) := st455.trans (sr456 _ (Steps.refl _))
            have hf458 : ¬ ((F8 bt411 (3 : Int32) (2 : Int32) b6 b14 b25 x2 x3 x4 (0 : Int32)) = (0 : Int32)) := by simp +decide [F8, (Ne.symm ne_b6_bt411), (Ne.symm ne_b14_bt411), (Ne.symm ne_b25_bt411)]
            have st459 : Steps p.tables e below sE (T456.setTop (mkF m 261 #[.val (.int x0), .val (.int x1), .val (.int x2), .val (.int x3), .val (.int x4), .val (.int cap), .val (.int n), .val (.ref b6), .val (.ref b14), .val (.ref b25), .val (.ref b110), .val (.int (2 : Int32)), .val (.ref b14), .val (.ref b6), .val (.ref bt411), .val (.ref bt428)] [(.int x4), (.int x3), (.int x2), (.ref b25), (.ref b14), (.ref b6), (.int (2 : Int32)), (.int (4 : Int32)), (.ref bt428)])) := st457.trans (by
                show Steps _ _ _ (T456.setTop (mkF m 243 #[.val (.int x0), .val (.int x1), .val (.int x2), .val (.int x3), .val (.int x4), .val (.int cap), .val (.int n), .val (.ref b6), .val (.ref b14), .val (.ref b25), .val (.ref b110), .val (.int (2 : Int32)), .val (.ref b14), .val (.ref b6), .val (.ref bt411), .val (.ref bt428)] [(.int (F8 bt411 (3 : Int32) (2 : Int32) b6 b14 b25 x2 x3 x4 (0 : Int32)))])) _
                refine XS.ifNo X456.here hx rfl (hb hby at_243) rfl ((if0 _ _).trans (feq hf458).1) ?_
                show Steps _ _ _ (T456.setTop (mkF m 246 #[.val (.int x0), .val (.int x1), .val (.int x2), .val (.int x3), .val (.int x4), .val (.int cap), .val (.int n), .val (.ref b6), .val (.ref b14), .val (.ref b25), .val (.ref b110), .val (.int (2 : Int32)), .val (.ref b14), .val (.ref b6), .val (.ref bt411), .val (.ref bt428)] [])) _
                refine XS.aload X456.here hx rfl (hb hby at_246) rfl rfl ?_
                show Steps _ _ _ (T456.setTop (mkF m 248 #[.val (.int x0), .val (.int x1), .val (.int x2), .val (.int x3), .val (.int x4), .val (.int cap), .val (.int n), .val (.ref b6), .val (.ref b14), .val (.ref b25), .val (.ref b110), .val (.int (2 : Int32)), .val (.ref b14), .val (.ref b6), .val (.ref bt411), .val (.ref bt428)] [(.ref bt428)])) _
                refine XS.iconst X456.here hx rfl (hb hby at_248) ?_
                show Steps _ _ _ (T456.setTop (mkF m 249 #[.val (.int x0), .val (.int x1), .val (.int x2), .val (.int x3), .val (.int x4), .val (.int cap), .val (.int n), .val (.ref b6), .val (.ref b14), .val (.ref b25), .val (.ref b110), .val (.int (2 : Int32)), .val (.ref b14), .val (.ref b6), .val (.ref bt411), .val (.ref bt428)] [(.int (4 : Int32)), (.ref bt428)])) _
                refine XS.iload X456.here hx rfl (hb hby at_249) rfl ?_
                show Steps _ _ _ (T456.setTop (mkF m 251 #[.val (.int x0), .val (.int x1), .val (.int x2), .val (.int x3), .val (.int x4), .val (.int cap), .val (.int n), .val (.ref b6), .val (.ref b14), .val (.ref b25), .val (.ref b110), .val (.int (2 : Int32)), .val (.ref b14), .val (.ref b6), .val (.ref bt411), .val (.ref bt428)] [(.int (2 : Int32)), (.int (4 : Int32)), (.ref bt428)])) _
                refine XS.aload X456.here hx rfl (hb hby at_251) rfl rfl ?_
                show Steps _ _ _ (T456.setTop (mkF m 253 #[.val (.int x0), .val (.int x1), .val (.int x2), .val (.int x3), .val (.int x4), .val (.int cap), .val (.int n), .val (.ref b6), .val (.ref b14), .val (.ref b25), .val (.ref b110), .val (.int (2 : Int32)), .val (.ref b14), .val (.ref b6), .val (.ref bt411), .val (.ref bt428)] [(.ref b6), (.int (2 : Int32)), (.int (4 : Int32)), (.ref bt428)])) _
                refine XS.aload X456.here hx rfl (hb hby at_253) rfl rfl ?_
                show Steps _ _ _ (T456.setTop (mkF m 255 #[.val (.int x0), .val (.int x1), .val (.int x2), .val (.int x3), .val (.int x4), .val (.int cap), .val (.int n), .val (.ref b6), .val (.ref b14), .val (.ref b25), .val (.ref b110), .val (.int (2 : Int32)), .val (.ref b14), .val (.ref b6), .val (.ref bt411), .val (.ref bt428)] [(.ref b14), (.ref b6), (.int (2 : Int32)), (.int (4 : Int32)), (.ref bt428)])) _
                refine XS.aload X456.here hx rfl (hb hby at_255) rfl rfl ?_
                show Steps _ _ _ (T456.setTop (mkF m 257 #[.val (.int x0), .val (.int x1), .val (.int x2), .val (.int x3), .val (.int x4), .val (.int cap), .val (.int n), .val (.ref b6), .val (.ref b14), .val (.ref b25), .val (.ref b110), .val (.int (2 : Int32)), .val (.ref b14), .val (.ref b6), .val (.ref bt411), .val (.ref bt428)] [(.ref b25), (.ref b14), (.ref b6), (.int (2 : Int32)), (.int (4 : Int32)), (.ref bt428)])) _
                refine XS.iloadN X456.here hx rfl (hb hby at_257) rfl ?_
                show Steps _ _ _ (T456.setTop (mkF m 258 #[.val (.int x0), .val (.int x1), .val (.int x2), .val (.int x3), .val (.int x4), .val (.int cap), .val (.int n), .val (.ref b6), .val (.ref b14), .val (.ref b25), .val (.ref b110), .val (.int (2 : Int32)), .val (.ref b14), .val (.ref b6), .val (.ref bt411), .val (.ref bt428)] [(.int x2), (.ref b25), (.ref b14), (.ref b6), (.int (2 : Int32)), (.int (4 : Int32)), (.ref bt428)])) _
                refine XS.iloadN X456.here hx rfl (hb hby at_258) rfl ?_
                show Steps _ _ _ (T456.setTop (mkF m 259 #[.val (.int x0), .val (.int x1), .val (.int x2), .val (.int x3), .val (.int x4), .val (.int cap), .val (.int n), .val (.ref b6), .val (.ref b14), .val (.ref b25), .val (.ref b110), .val (.int (2 : Int32)), .val (.ref b14), .val (.ref b6), .val (.ref bt411), .val (.ref bt428)] [(.int x3), (.int x2), (.ref b25), (.ref b14), (.ref b6), (.int (2 : Int32)), (.int (4 : Int32)), (.ref bt428)])) _
                refine XS.iload X456.here hx rfl (hb hby at_259) rfl ?_
                exact Steps.refl _)
            obtain ⟨_, _, ⟨T460, L460, k460, n460⟩, -, X460, ⟨Lc460, hQ460, l460, y460, z460⟩, sr460⟩ := Jvm.LawKit.callS X456 hx (y := (⟨"com/example/tideloop/tideloop/MessagePoolKeepPinLaw", "check", "(Lcom/example/tideloop/tideloop/Message;IILcom/example/tideloop/tideloop/Message;Lcom/example/tideloop/tideloop/Message;Lcom/example/tideloop/tideloop/Message;III)Z"⟩ : MethodName)) hown (mvT hZ (hw _ (List.mem_of_getElem? (i := 45) rfl))) (mvT hZ (hw _ (List.mem_of_getElem? (i := 46) rfl))) (mvT hZ (hw _ (List.mem_of_getElem? (i := 47) rfl))) (mvT hZ (hw _ (List.mem_of_getElem? (i := 48) rfl))) (by decide) (backOf (W := 0) (rm8 l Z a0 hw [] bt428 (4 : Int32) (2 : Int32) b6 b14 b25 x2 x3 x4 (0 : Int32) T428.heap n0 Z445 qn428 qw428) hZ (hw _ (List.mem_of_getElem? (i := 48) rfl)) (hw _ (List.mem_of_getElem? (i := 47) rfl)) (by decide) (by decide)) (g := (mkF m 261 #[.val (.int x0), .val (.int x1), .val (.int x2), .val (.int x3), .val (.int x4), .val (.int cap), .val (.int n), .val (.ref b6), .val (.ref b14), .val (.ref b25), .val (.ref b110), .val (.int (2 : Int32)), .val (.ref b14), .val (.ref b6), .val (.ref bt411), .val (.ref bt428)] [(.int x4), (.int x3), (.int x2), (.ref b25), (.ref b14), (.ref b6), (.int (2 : Int32)), (.int (4 : Int32)), (.ref bt428)])) rfl (by rw [hml]; rfl) (argsL := [(.ref bt428), (.int (4 : Int32)), (.int (2 : Int32)), (.ref b6), (.ref b14), (.ref b25), (.int x2), (.int x3), (.int x4)]) (rest := []) (lenOf pd_4 rfl) rfl (by show 2 * 0 + _ ≤ _; exact Nat.le_of_eq rfl) (hb hby at_261) (fun _ _ => ⟨rfl, hh456, (by decide : 6 + 0 ≤ _), (by decide : 98 + 0 ≤ _)⟩)
            dsimp only [Pt.U, Pt.locs, Pt.cells, Pt.slots] at X460 l460 y460 z460 sr460 hQ460
            subst l460 y460 z460
            obtain ⟨rfl, N460q, hh460⟩ := hQ460
            have N460 := Fr.app N456 N460q
            obtain ⟨LL460, X460, N460⟩ := own_hide X460 N460
            have st461 : Steps p.tables e below sE (T460.setTop (mkF m 264 #[.val (.int x0), .val (.int x1), .val (.int x2), .val (.int x3), .val (.int x4), .val (.int cap), .val (.int n), .val (.ref b6), .val (.ref b14), .val (.ref b25), .val (.ref b110), .val (.int (2 : Int32)), .val (.ref b14), .val (.ref b6), .val (.ref bt411), .val (.ref bt428)] [(.int (F8 bt428 (4 : Int32) (2 : Int32) b6 b14 b25 x2 x3 x4 (0 : Int32)))])) := st459.trans (sr460 _ (Steps.refl _))
            have hf462 : ¬ ((F8 bt428 (4 : Int32) (2 : Int32) b6 b14 b25 x2 x3 x4 (0 : Int32)) = (0 : Int32)) := by simp +decide [F8, (Ne.symm ne_b6_bt428), (Ne.symm ne_b14_bt428), (Ne.symm ne_b25_bt428)]
            have st463 : Steps p.tables e below sE (T460.setTop (mkF m 272 #[.val (.int x0), .val (.int x1), .val (.int x2), .val (.int x3), .val (.int x4), .val (.int cap), .val (.int n), .val (.ref b6), .val (.ref b14), .val (.ref b25), .val (.ref b110), .val (.int (2 : Int32)), .val (.ref b14), .val (.ref b6), .val (.ref bt411), .val (.ref bt428)] [(.int (1 : Int32))])) := st461.trans (by
                show Steps _ _ _ (T460.setTop (mkF m 264 #[.val (.int x0), .val (.int x1), .val (.int x2), .val (.int x3), .val (.int x4), .val (.int cap), .val (.int n), .val (.ref b6), .val (.ref b14), .val (.ref b25), .val (.ref b110), .val (.int (2 : Int32)), .val (.ref b14), .val (.ref b6), .val (.ref bt411), .val (.ref bt428)] [(.int (F8 bt428 (4 : Int32) (2 : Int32) b6 b14 b25 x2 x3 x4 (0 : Int32)))])) _
                refine XS.ifNo X460.here hx rfl (hb hby at_264) rfl ((if0 _ _).trans (feq hf462).1) ?_
                show Steps _ _ _ (T460.setTop (mkF m 267 #[.val (.int x0), .val (.int x1), .val (.int x2), .val (.int x3), .val (.int x4), .val (.int cap), .val (.int n), .val (.ref b6), .val (.ref b14), .val (.ref b25), .val (.ref b110), .val (.int (2 : Int32)), .val (.ref b14), .val (.ref b6), .val (.ref bt411), .val (.ref bt428)] [])) _
                refine XS.iconst X460.here hx rfl (hb hby at_267) ?_
                show Steps _ _ _ (T460.setTop (mkF m 268 #[.val (.int x0), .val (.int x1), .val (.int x2), .val (.int x3), .val (.int x4), .val (.int cap), .val (.int n), .val (.ref b6), .val (.ref b14), .val (.ref b25), .val (.ref b110), .val (.int (2 : Int32)), .val (.ref b14), .val (.ref b6), .val (.ref bt411), .val (.ref bt428)] [(.int (1 : Int32))])) _
                refine XS.goto X460.here hx rfl (pc0 := 268) (pc' := 272) rfl (hb hby at_268) (by decide) (by decide) ?_
                exact Steps.refl _)
            obtain ⟨fs, hr, hrun, hended, hW, hsame⟩ := X460.leave (v := some (.int (1 : Int32))) (fun h => by rw [Bd.returns] at h; cases h)
            refine ⟨_, _, (own_ent hsE st463).trans ?_, hrun, hended, _, _, rfl, ?_, ⟨_, rfl⟩, hW, hsame.mono (by decide) (by decide)⟩
            · exact retN X460 hx (t := .boolean) Bd.returns (by simp) (hb hby at_272) hr
            · show Q0 Z x0 x1 x2 x3 x4 h0 n0 _ T460.heap _
              rw [hh460]
              exact ⟨rfl, N460⟩
          · have st464 : Steps p.tables e below sE (T367.setTop (mkF m 139 #[.val (.int x0), .val (.int x1), .val (.int x2), .val (.int x3), .val (.int x4), .val (.int cap), .val (.int n), .val (.ref b6), .val (.ref b14), .val (.ref b25), .val (.ref b110), .unset, .unset, .unset, .unset, .unset] [(.ref b25), (.ref b110)])) := st378.trans (by
                show Steps _ _ _ (T367.setTop (mkF m 132 #[.val (.int x0), .val (.int x1), .val (.int x2), .val (.int x3), .val (.int x4), .val (.int cap), .val (.int n), .val (.ref b6), .val (.ref b14), .val (.ref b25), .val (.ref b110), .unset, .unset, .unset, .unset, .unset] [(.int (3 : Int32)), (.int n)])) _
                refine XS.icmpNo X367.here hx rfl (hb hby at_132) rfl (flt hc379).1 ?_
                show Steps _ _ _ (T367.setTop (mkF m 135 #[.val (.int x0), .val (.int x1), .val (.int x2), .val (.int x3), .val (.int x4), .val (.int cap), .val (.int n), .val (.ref b6), .val (.ref b14), .val (.ref b25), .val (.ref b110), .unset, .unset, .unset, .unset, .unset] [])) _
                refine XS.aload X367.here hx rfl (hb hby at_135) rfl rfl ?_
                show Steps _ _ _ (T367.setTop (mkF m 137 #[.val (.int x0), .val (.int x1), .val (.int x2), .val (.int x3), .val (.int x4), .val (.int cap), .val (.int n), .val (.ref b6), .val (.ref b14), .val (.ref b25), .val (.ref b110), .unset, .unset, .unset, .unset, .unset] [(.ref b110)])) _
                refine XS.aload X367.here hx rfl (hb hby at_137) rfl rfl ?_
                exact Steps.refl _)
            by_cases hc465 : (((0 : Int32) + (1 : Int32)) + (1 : Int32)) < cap
            · 
              obtain ⟨cq466, kq466, q466a, q466b, q466c⟩ := isOf hZ rfl f367_0
              obtain ⟨_, _, ⟨T466, L466, k466, n466⟩, -, X466, ⟨Lc466, hQ466, l466, y466, z466⟩, sr466⟩ := X367.virtualBack hx (y := (⟨"com/example/tideloop/tideloop/MessagePool", "keep", "(Lcom/example/tideloop/tideloop/Message;)V"⟩ : MethodName)) (z := (⟨"com/example/tideloop/tideloop/MessagePool", "keep", "(Lcom/example/tideloop/tideloop/Message;)V"⟩ : MethodName)) hown (mvT hZ (hw _ (List.mem_of_getElem? (i := 22) rfl))) (mvT hZ (hw _ (List.mem_of_getElem? (i := 23) rfl))) (notFace_of_selects (args := #[]) (mvT hZ (hw _ (List.mem_of_getElem? (i := 25) rfl)))) (mvT hZ (hw _ (List.mem_of_getElem? (i := 25) rfl))) (mvT hZ (hw _ (List.mem_of_getElem? (i := 24) rfl))) (by decide) (backOf (W := 0) (rmky1 l Z a0 hw [] b110 b25 (((0 : Int32) + (1 : Int32)) + (1 : Int32)) cap x4 b14 b14 T367.heap n0 Z376 f367_0 f367_1 f367_2 f367_3 f370 f371 f372 g_b110 g_b25 ne_b25_b110 hc465) hZ (hw _ (List.mem_of_getElem? (i := 26) rfl)) (hw _ (List.mem_of_getElem? (i := 15) rfl)) (by decide) (by decide)) q466a q466c (g := (mkF m 139 #[.val (.int x0), .val (.int x1), .val (.int x2), .val (.int x3), .val (.int x4), .val (.int cap), .val (.int n), .val (.ref b6), .val (.ref b14), .val (.ref b25), .val (.ref b110), .unset, .unset, .unset, .unset, .unset] [(.ref b25), (.ref b110)])) rfl (by rw [hml]; rfl) (Steps.refl _) (argsL := [(.ref b25)]) (rest := []) (lenOf pd_5 rfl) rfl (by show 2 * 0 + _ ≤ _; exact Nat.le_of_eq rfl) (hb hby at_139) (fun _ _ => ⟨rfl, rfl, (by decide : 4 + 0 ≤ _), (by decide : 60 + 0 ≤ _)⟩)
              dsimp only [Pt.U, Pt.locs, Pt.cells, Pt.slots] at X466 l466 y466 z466 sr466 hQ466
              subst l466 y466 z466
              obtain ⟨rfl, N466q, K466c, f466_0, f466_1, f466_2, f466_3, f466_4, f466_5, f466_6⟩ := hQ466
              have N466 := Fr.app N367 N466q
              obtain ⟨LL466, X466, N466⟩ := own_hide X466 N466
              have f467 : Exa Z T466.heap b6 "com/example/tideloop/tideloop/Message" := f368.keep K466c
              have f468 : Exa Z T466.heap b14 "com/example/tideloop/tideloop/Message" := f367_4.keep K466c
              have f469 : Exa Z T466.heap b25 "com/example/tideloop/tideloop/Message" := f370.keep K466c
              have f470 : Exa Z T466.heap b110 "com/example/tideloop/tideloop/MessagePool" := f367_0.keep K466c
              have f471 : Fld Z T466.heap b6 "com/example/tideloop/tideloop/Message" "what" "I" (.int x2) := f374.keep K466c (ninS ne_b6_b110 (ninS ne_b6_b25 nin0))
              have f472 : Fld Z T466.heap b6 "com/example/tideloop/tideloop/Message" "nextPooled" "Lcom/example/tideloop/tideloop/Message;" .null := f375.keep K466c (ninS ne_b6_b110 (ninS ne_b6_b25 nin0))
              have f473 : Fld Z T466.heap b14 "com/example/tideloop/tideloop/Message" "what" "I" (.int x3) := f367_5.keep K466c (ninS ne_b14_b110 (ninS ne_b14_b25 nin0))
              have f474 : Fld Z T466.heap b14 "com/example/tideloop/tideloop/Message" "nextPooled" "Lcom/example/tideloop/tideloop/Message;" (.ref b6) := f367_6.keep K466c (ninS ne_b14_b110 (ninS ne_b14_b25 nin0))
              have Z475 : n0 ≤ T466.heap.size := Nat.le_trans Z376 K466c.1
              have st476 : Steps p.tables e below sE (T466.setTop (mkF m 142 #[.val (.int x0), .val (.int x1), .val (.int x2), .val (.int x3), .val (.int x4), .val (.int cap), .val (.int n), .val (.ref b6), .val (.ref b14), .val (.ref b25), .val (.ref b110), .unset, .unset, .unset, .unset, .unset] [])) := st464.trans (sr466)
              have st477 : Steps p.tables e below sE (T466.setTop (mkF m 147 #[.val (.int x0), .val (.int x1), .val (.int x2), .val (.int x3), .val (.int x4), .val (.int cap), .val (.int n), .val (.ref b6), .val (.ref b14), .val (.ref b25), .val (.ref b110), .unset, .unset, .unset, .unset, .unset] [(.int cap), (.int (0 : Int32)), (.int n)])) := st476.trans (by
                  show Steps _ _ _ (T466.setTop (mkF m 142 #[.val (.int x0), .val (.int x1), .val (.int x2), .val (.int x3), .val (.int x4), .val (.int cap), .val (.int n), .val (.ref b6), .val (.ref b14), .val (.ref b25), .val (.ref b110), .unset, .unset, .unset, .unset, .unset] [])) _
                  refine XS.iload X466.here hx rfl (hb hby at_142) rfl ?_
                  show Steps _ _ _ (T466.setTop (mkF m 144 #[.val (.int x0), .val (.int x1), .val (.int x2), .val (.int x3), .val (.int x4), .val (.int cap), .val (.int n), .val (.ref b6), .val (.ref b14), .val (.ref b25), .val (.ref b110), .unset, .unset, .unset, .unset, .unset] [(.int n)])) _
                  refine XS.iconst X466.here hx rfl (hb hby at_144) ?_
                  show Steps _ _ _ (T466.setTop (mkF m 145 #[.val (.int x0), .val (.int x1), .val (.int x2), .val (.int x3), .val (.int x4), .val (.int cap), .val (.int n), .val (.ref b6), .val (.ref b14), .val (.ref b25), .val (.ref b110), .unset, .unset, .unset, .unset, .unset] [(.int (0 : Int32)), (.int n)])) _
                  refine XS.iload X466.here hx rfl (hb hby at_145) rfl ?_
                  exact Steps.refl _)
              obtain ⟨_, _, ⟨T478, L478, k478, n478⟩, -, X478, ⟨Lc478, hQ478, l478, y478, z478⟩, sr478⟩ := Jvm.LawKit.callS X466 hx (y := (⟨"java/lang/Math", "max", "(II)I"⟩ : MethodName)) hown (mvT hZ (hw _ (List.mem_of_getElem? (i := 29) rfl))) (mvT hZ (hw _ (List.mem_of_getElem? (i := 30) rfl))) (mvT hZ (hw _ (List.mem_of_getElem? (i := 31) rfl))) (mvT hZ (hw _ (List.mem_of_getElem? (i := 32) rfl))) (by decide) (backOf (W := 1) (rm5 l Z a0 hw [] (0 : Int32) cap  T466.heap n0 Z475 ) hZ (hw _ (List.mem_of_getElem? (i := 32) rfl)) (hw _ (List.mem_of_getElem? (i := 31) rfl)) (by decide) (by decide)) (g := (mkF m 147 #[.val (.int x0), .val (.int x1), .val (.int x2), .val (.int x3), .val (.int x4), .val (.int cap), .val (.int n), .val (.ref b6), .val (.ref b14), .val (.ref b25), .val (.ref b110), .unset, .unset, .unset, .unset, .unset] [(.int cap), (.int (0 : Int32)), (.int n)])) rfl (by rw [hml]; rfl) (argsL := [(.int (0 : Int32)), (.int cap)]) (rest := [(.int n)]) (lenOf pd_2 rfl) rfl (by show 2 * 0 + _ ≤ _; exact Nat.le_of_eq rfl) (hb hby at_147) (fun _ _ => ⟨rfl, rfl, (by decide : 4 + 0 ≤ _), (by decide : 60 + 0 ≤ _)⟩)
              dsimp only [Pt.U, Pt.locs, Pt.cells, Pt.slots] at X478 l478 y478 z478 sr478 hQ478
              subst l478 y478 z478
              obtain ⟨rfl, N478q, hh478⟩ := hQ478
              have N478 := Fr.app N466 N478q
              obtain ⟨LL478, X478, N478⟩ := own_hide X478 N478
              have st479 : Steps p.tables e below sE (T478.setTop (mkF m 150 #[.val (.int x0), .val (.int x1), .val (.int x2), .val (.int x3), .val (.int x4), .val (.int cap), .val (.int n), .val (.ref b6), .val (.ref b14), .val (.ref b25), .val (.ref b110), .unset, .unset, .unset, .unset, .unset] [(.int (F5 (0 : Int32) cap)), (.int n)])) := st477.trans (sr478 _ (Steps.refl _))
              obtain ⟨_, _, ⟨T480, L480, k480, n480⟩, -, X480, ⟨Lc480, hQ480, l480, y480, z480⟩, sr480⟩ := Jvm.LawKit.callS X478 hx (y := (⟨"java/lang/Math", "min", "(II)I"⟩ : MethodName)) hown (mvT hZ (hw _ (List.mem_of_getElem? (i := 33) rfl))) (mvT hZ (hw _ (List.mem_of_getElem? (i := 34) rfl))) (mvT hZ (hw _ (List.mem_of_getElem? (i := 31) rfl))) (mvT hZ (hw _ (List.mem_of_getElem? (i := 35) rfl))) (by decide) (backOf (W := 0) (rm6 l Z a0 hw [] n (F5 (0 : Int32) cap)  T466.heap n0 Z475 ) hZ (hw _ (List.mem_of_getElem? (i := 35) rfl)) (hw _ (List.mem_of_getElem? (i := 31) rfl)) (by decide) (by decide)) (g := (mkF m 150 #[.val (.int x0), .val (.int x1), .val (.int x2), .val (.int x3), .val (.int x4), .val (.int cap), .val (.int n), .val (.ref b6), .val (.ref b14), .val (.ref b25), .val (.ref b110), .unset, .unset, .unset, .unset, .unset] [(.int (F5 (0 : Int32) cap)), (.int n)])) rfl (by rw [hml]; rfl) (argsL := [(.int n), (.int (F5 (0 : Int32) cap))]) (rest := []) (lenOf pd_2 rfl) rfl (by show 2 * 0 + _ ≤ _; exact Nat.le_of_eq rfl) (hb hby at_150) (fun _ _ => ⟨rfl, hh478, (by decide : 4 + 0 ≤ _), (by decide : 60 + 0 ≤ _)⟩)
              dsimp only [Pt.U, Pt.locs, Pt.cells, Pt.slots] at X480 l480 y480 z480 sr480 hQ480
              subst l480 y480 z480
              obtain ⟨rfl, N480q, hh480⟩ := hQ480
              have N480 := Fr.app N478 N480q
              obtain ⟨LL480, X480, N480⟩ := own_hide X480 N480
              have st481 : Steps p.tables e below sE (T480.setTop (mkF m 153 #[.val (.int x0), .val (.int x1), .val (.int x2), .val (.int x3), .val (.int x4), .val (.int cap), .val (.int n), .val (.ref b6), .val (.ref b14), .val (.ref b25), .val (.ref b110), .unset, .unset, .unset, .unset, .unset] [(.int (F6 n (F5 (0 : Int32) cap)))])) := st479.trans (sr480 _ (Steps.refl _))
              have hs0 := own_lti hc254 (z := 0) (by decide)
              have hs1 := own_lti hc366 (z := 1) (by decide)
              have hs2 := own_lti hc465 (z := 2) (by decide)
              have hm1 := own_nltr hc139 (z := 1) (by decide)
              have hm2 := own_nltr hc267 (z := 2) (by decide)
              have hm3 := own_nltr hc379 (z := 3) (by decide)
              have hk3 : (3 : Int32).toInt = 3 := by decide
              have hkp : (F6 n (F5 (0 : Int32) cap)) = (3 : Int32) := own_kp n cap (3 : Int32) (by omega)
              rw [hkp] at st481
              have st482 : Steps p.tables e below sE (T480.setTop (mkF m 157 #[.val (.int x0), .val (.int x1), .val (.int x2), .val (.int x3), .val (.int x4), .val (.int cap), .val (.int n), .val (.ref b6), .val (.ref b14), .val (.ref b25), .val (.ref b110), .val (.int (3 : Int32)), .unset, .unset, .unset, .unset] [(.ref b110)])) := st481.trans (by
                  show Steps _ _ _ (T480.setTop (mkF m 153 #[.val (.int x0), .val (.int x1), .val (.int x2), .val (.int x3), .val (.int x4), .val (.int cap), .val (.int n), .val (.ref b6), .val (.ref b14), .val (.ref b25), .val (.ref b110), .unset, .unset, .unset, .unset, .unset] [(.int (3 : Int32))])) _
                  refine XS.istore X480.here hx rfl (hb hby at_153) rfl (l' := #[.val (.int x0), .val (.int x1), .val (.int x2), .val (.int x3), .val (.int x4), .val (.int cap), .val (.int n), .val (.ref b6), .val (.ref b14), .val (.ref b25), .val (.ref b110), .val (.int (3 : Int32)), .unset, .unset, .unset, .unset]) rfl ?_
                  show Steps _ _ _ (T480.setTop (mkF m 155 #[.val (.int x0), .val (.int x1), .val (.int x2), .val (.int x3), .val (.int x4), .val (.int cap), .val (.int n), .val (.ref b6), .val (.ref b14), .val (.ref b25), .val (.ref b110), .val (.int (3 : Int32)), .unset, .unset, .unset, .unset] [])) _
                  refine XS.aload X480.here hx rfl (hb hby at_155) rfl rfl ?_
                  exact Steps.refl _)
              obtain ⟨cq483, kq483, q483a, q483b, q483c⟩ := isOf hZ hh480 f466_0
              obtain ⟨_, _, ⟨T483, L483, k483, n483⟩, -, X483, ⟨Lc483, hQ483, l483, y483, z483⟩, sr483⟩ := X480.virtualBack hx (y := (⟨"com/example/tideloop/tideloop/MessagePool", "take", "()Lcom/example/tideloop/tideloop/Message;"⟩ : MethodName)) (z := (⟨"com/example/tideloop/tideloop/MessagePool", "take", "()Lcom/example/tideloop/tideloop/Message;"⟩ : MethodName)) hown (mvT hZ (hw _ (List.mem_of_getElem? (i := 36) rfl))) (mvT hZ (hw _ (List.mem_of_getElem? (i := 37) rfl))) (notFace_of_selects (args := #[]) (mvT hZ (hw _ (List.mem_of_getElem? (i := 39) rfl)))) (mvT hZ (hw _ (List.mem_of_getElem? (i := 39) rfl))) (mvT hZ (hw _ (List.mem_of_getElem? (i := 38) rfl))) (by decide) (backOf (W := 0) (rmtk2 l Z a0 hw [] b110 ((((0 : Int32) + (1 : Int32)) + (1 : Int32)) + (1 : Int32)) cap x4 b25 b14 T466.heap n0 Z475 f466_0 f466_1 f466_2 f466_3 f466_4 f466_5 g_b110 g_b25 ne_b25_b110 f466_6) hZ (hw _ (List.mem_of_getElem? (i := 40) rfl)) (hw _ (List.mem_of_getElem? (i := 15) rfl)) (by decide) (by decide)) q483a q483c (g := (mkF m 157 #[.val (.int x0), .val (.int x1), .val (.int x2), .val (.int x3), .val (.int x4), .val (.int cap), .val (.int n), .val (.ref b6), .val (.ref b14), .val (.ref b25), .val (.ref b110), .val (.int (3 : Int32)), .unset, .unset, .unset, .unset] [(.ref b110)])) rfl (by rw [hml]; rfl) (Steps.refl _) (argsL := []) (rest := []) (lenOf pd_3 rfl) rfl (by show 2 * 0 + _ ≤ _; exact Nat.le_of_eq rfl) (hb hby at_157) (fun _ _ => ⟨rfl, hh480, (by decide : 4 + 0 ≤ _), (by decide : 60 + 0 ≤ _)⟩)
              dsimp only [Pt.U, Pt.locs, Pt.cells, Pt.slots] at X483 l483 y483 z483 sr483 hQ483
              subst l483 y483 z483
              obtain ⟨rfl, N483q, K483c, f483_0, f483_1, f483_2, f483_3, f483_4, f483_5, f483_6⟩ := hQ483
              have N483 := Fr.app N480 N483q
              obtain ⟨LL483, X483, N483⟩ := own_hide X483 N483
              have f484 : Exa Z T483.heap b6 "com/example/tideloop/tideloop/Message" := f467.keep K483c
              have f485 : Exa Z T483.heap b14 "com/example/tideloop/tideloop/Message" := f468.keep K483c
              have f486 : Exa Z T483.heap b25 "com/example/tideloop/tideloop/Message" := f466_4.keep K483c
              have f487 : Exa Z T483.heap b110 "com/example/tideloop/tideloop/MessagePool" := f466_0.keep K483c
              have f488 : Fld Z T483.heap b6 "com/example/tideloop/tideloop/Message" "what" "I" (.int x2) := f471.keep K483c (ninS ne_b6_b110 (ninS ne_b6_b25 nin0))
              have f489 : Fld Z T483.heap b6 "com/example/tideloop/tideloop/Message" "nextPooled" "Lcom/example/tideloop/tideloop/Message;" .null := f472.keep K483c (ninS ne_b6_b110 (ninS ne_b6_b25 nin0))
              have f490 : Fld Z T483.heap b14 "com/example/tideloop/tideloop/Message" "what" "I" (.int x3) := f473.keep K483c (ninS ne_b14_b110 (ninS ne_b14_b25 nin0))
              have f491 : Fld Z T483.heap b14 "com/example/tideloop/tideloop/Message" "nextPooled" "Lcom/example/tideloop/tideloop/Message;" (.ref b6) := f474.keep K483c (ninS ne_b14_b110 (ninS ne_b14_b25 nin0))
              have Z492 : n0 ≤ T483.heap.size := Nat.le_trans Z475 K483c.1
              have st493 : Steps p.tables e below sE (T483.setTop (mkF m 160 #[.val (.int x0), .val (.int x1), .val (.int x2), .val (.int x3), .val (.int x4), .val (.int cap), .val (.int n), .val (.ref b6), .val (.ref b14), .val (.ref b25), .val (.ref b110), .val (.int (3 : Int32)), .unset, .unset, .unset, .unset] [(.ref b25)])) := st482.trans (sr483)
              have st494 : Steps p.tables e below sE (T483.setTop (mkF m 164 #[.val (.int x0), .val (.int x1), .val (.int x2), .val (.int x3), .val (.int x4), .val (.int cap), .val (.int n), .val (.ref b6), .val (.ref b14), .val (.ref b25), .val (.ref b110), .val (.int (3 : Int32)), .val (.ref b25), .unset, .unset, .unset] [(.ref b110)])) := st493.trans (by
                  show Steps _ _ _ (T483.setTop (mkF m 160 #[.val (.int x0), .val (.int x1), .val (.int x2), .val (.int x3), .val (.int x4), .val (.int cap), .val (.int n), .val (.ref b6), .val (.ref b14), .val (.ref b25), .val (.ref b110), .val (.int (3 : Int32)), .unset, .unset, .unset, .unset] [(.ref b25)])) _
                  refine XS.astore X483.here hx rfl (hb hby at_160) rfl rfl (l' := #[.val (.int x0), .val (.int x1), .val (.int x2), .val (.int x3), .val (.int x4), .val (.int cap), .val (.int n), .val (.ref b6), .val (.ref b14), .val (.ref b25), .val (.ref b110), .val (.int (3 : Int32)), .val (.ref b25), .unset, .unset, .unset]) rfl ?_
                  show Steps _ _ _ (T483.setTop (mkF m 162 #[.val (.int x0), .val (.int x1), .val (.int x2), .val (.int x3), .val (.int x4), .val (.int cap), .val (.int n), .val (.ref b6), .val (.ref b14), .val (.ref b25), .val (.ref b110), .val (.int (3 : Int32)), .val (.ref b25), .unset, .unset, .unset] [])) _
                  refine XS.aload X483.here hx rfl (hb hby at_162) rfl rfl ?_
                  exact Steps.refl _)
              obtain ⟨cq495, kq495, q495a, q495b, q495c⟩ := isOf hZ rfl f483_0
              obtain ⟨_, _, ⟨T495, L495, k495, n495⟩, -, X495, ⟨Lc495, hQ495, l495, y495, z495⟩, sr495⟩ := X483.virtualBack hx (y := (⟨"com/example/tideloop/tideloop/MessagePool", "take", "()Lcom/example/tideloop/tideloop/Message;"⟩ : MethodName)) (z := (⟨"com/example/tideloop/tideloop/MessagePool", "take", "()Lcom/example/tideloop/tideloop/Message;"⟩ : MethodName)) hown (mvT hZ (hw _ (List.mem_of_getElem? (i := 36) rfl))) (mvT hZ (hw _ (List.mem_of_getElem? (i := 37) rfl))) (notFace_of_selects (args := #[]) (mvT hZ (hw _ (List.mem_of_getElem? (i := 39) rfl)))) (mvT hZ (hw _ (List.mem_of_getElem? (i := 39) rfl))) (mvT hZ (hw _ (List.mem_of_getElem? (i := 38) rfl))) (by decide) (backOf (W := 0) (rmtk2 l Z a0 hw [] b110 (((((0 : Int32) + (1 : Int32)) + (1 : Int32)) + (1 : Int32)) - (1 : Int32)) cap x3 b14 b6 T483.heap n0 Z492 f483_0 f483_1 f483_2 f483_3 f485 f490 g_b110 g_b14 ne_b14_b110 f491) hZ (hw _ (List.mem_of_getElem? (i := 40) rfl)) (hw _ (List.mem_of_getElem? (i := 15) rfl)) (by decide) (by decide)) q495a q495c (g := (mkF m 164 #[.val (.int x0), .val (.int x1), .val (.int x2), .val (.int x3), .val (.int x4), .val (.int cap), .val (.int n), .val (.ref b6), .val (.ref b14), .val (.ref b25), .val (.ref b110), .val (.int (3 : Int32)), .val (.ref b25), .unset, .unset, .unset] [(.ref b110)])) rfl (by rw [hml]; rfl) (Steps.refl _) (argsL := []) (rest := []) (lenOf pd_3 rfl) rfl (by show 2 * 0 + _ ≤ _; exact Nat.le_of_eq rfl) (hb hby at_164) (fun _ _ => ⟨rfl, rfl, (by decide : 4 + 0 ≤ _), (by decide : 60 + 0 ≤ _)⟩)
              dsimp only [Pt.U, Pt.locs, Pt.cells, Pt.slots] at X495 l495 y495 z495 sr495 hQ495
              subst l495 y495 z495
              obtain ⟨rfl, N495q, K495c, f495_0, f495_1, f495_2, f495_3, f495_4, f495_5, f495_6⟩ := hQ495
              have N495 := Fr.app N483 N495q
              obtain ⟨LL495, X495, N495⟩ := own_hide X495 N495
              have f496 : Exa Z T495.heap b6 "com/example/tideloop/tideloop/Message" := f484.keep K495c
              have f497 : Exa Z T495.heap b14 "com/example/tideloop/tideloop/Message" := f485.keep K495c
              have f498 : Exa Z T495.heap b25 "com/example/tideloop/tideloop/Message" := f483_4.keep K495c
              have f499 : Exa Z T495.heap b110 "com/example/tideloop/tideloop/MessagePool" := f483_0.keep K495c
              have f500 : Fld Z T495.heap b6 "com/example/tideloop/tideloop/Message" "what" "I" (.int x2) := f488.keep K495c (ninS ne_b6_b110 (ninS ne_b6_b14 nin0))
              have f501 : Fld Z T495.heap b6 "com/example/tideloop/tideloop/Message" "nextPooled" "Lcom/example/tideloop/tideloop/Message;" .null := f489.keep K495c (ninS ne_b6_b110 (ninS ne_b6_b14 nin0))
              have f502 : Fld Z T495.heap b25 "com/example/tideloop/tideloop/Message" "what" "I" (.int x4) := f483_5.keep K495c (ninS ne_b25_b110 (ninS (Ne.symm ne_b14_b25) nin0))
              have f503 : Fld Z T495.heap b25 "com/example/tideloop/tideloop/Message" "nextPooled" "Lcom/example/tideloop/tideloop/Message;" .null := f483_6.keep K495c (ninS ne_b25_b110 (ninS (Ne.symm ne_b14_b25) nin0))
              have Z504 : n0 ≤ T495.heap.size := Nat.le_trans Z492 K495c.1
              have st505 : Steps p.tables e below sE (T495.setTop (mkF m 167 #[.val (.int x0), .val (.int x1), .val (.int x2), .val (.int x3), .val (.int x4), .val (.int cap), .val (.int n), .val (.ref b6), .val (.ref b14), .val (.ref b25), .val (.ref b110), .val (.int (3 : Int32)), .val (.ref b25), .unset, .unset, .unset] [(.ref b14)])) := st494.trans (sr495)
              have st506 : Steps p.tables e below sE (T495.setTop (mkF m 171 #[.val (.int x0), .val (.int x1), .val (.int x2), .val (.int x3), .val (.int x4), .val (.int cap), .val (.int n), .val (.ref b6), .val (.ref b14), .val (.ref b25), .val (.ref b110), .val (.int (3 : Int32)), .val (.ref b25), .val (.ref b14), .unset, .unset] [(.ref b110)])) := st505.trans (by
                  show Steps _ _ _ (T495.setTop (mkF m 167 #[.val (.int x0), .val (.int x1), .val (.int x2), .val (.int x3), .val (.int x4), .val (.int cap), .val (.int n), .val (.ref b6), .val (.ref b14), .val (.ref b25), .val (.ref b110), .val (.int (3 : Int32)), .val (.ref b25), .unset, .unset, .unset] [(.ref b14)])) _
                  refine XS.astore X495.here hx rfl (hb hby at_167) rfl rfl (l' := #[.val (.int x0), .val (.int x1), .val (.int x2), .val (.int x3), .val (.int x4), .val (.int cap), .val (.int n), .val (.ref b6), .val (.ref b14), .val (.ref b25), .val (.ref b110), .val (.int (3 : Int32)), .val (.ref b25), .val (.ref b14), .unset, .unset]) rfl ?_
                  show Steps _ _ _ (T495.setTop (mkF m 169 #[.val (.int x0), .val (.int x1), .val (.int x2), .val (.int x3), .val (.int x4), .val (.int cap), .val (.int n), .val (.ref b6), .val (.ref b14), .val (.ref b25), .val (.ref b110), .val (.int (3 : Int32)), .val (.ref b25), .val (.ref b14), .unset, .unset] [])) _
                  refine XS.aload X495.here hx rfl (hb hby at_169) rfl rfl ?_
                  exact Steps.refl _)
              obtain ⟨cq507, kq507, q507a, q507b, q507c⟩ := isOf hZ rfl f495_0
              obtain ⟨_, _, ⟨T507, L507, k507, n507⟩, -, X507, ⟨Lc507, hQ507, l507, y507, z507⟩, sr507⟩ := X495.virtualBack hx (y := (⟨"com/example/tideloop/tideloop/MessagePool", "take", "()Lcom/example/tideloop/tideloop/Message;"⟩ : MethodName)) (z := (⟨"com/example/tideloop/tideloop/MessagePool", "take", "()Lcom/example/tideloop/tideloop/Message;"⟩ : MethodName)) hown (mvT hZ (hw _ (List.mem_of_getElem? (i := 36) rfl))) (mvT hZ (hw _ (List.mem_of_getElem? (i := 37) rfl))) (notFace_of_selects (args := #[]) (mvT hZ (hw _ (List.mem_of_getElem? (i := 39) rfl)))) (mvT hZ (hw _ (List.mem_of_getElem? (i := 39) rfl))) (mvT hZ (hw _ (List.mem_of_getElem? (i := 38) rfl))) (by decide) (backOf (W := 0) (rmtk1 l Z a0 hw [] b110 ((((((0 : Int32) + (1 : Int32)) + (1 : Int32)) + (1 : Int32)) - (1 : Int32)) - (1 : Int32)) cap x2 b6 T495.heap n0 Z504 f495_0 f495_1 f495_2 f495_3 f496 f500 g_b110 g_b6 ne_b6_b110 f501) hZ (hw _ (List.mem_of_getElem? (i := 40) rfl)) (hw _ (List.mem_of_getElem? (i := 15) rfl)) (by decide) (by decide)) q507a q507c (g := (mkF m 171 #[.val (.int x0), .val (.int x1), .val (.int x2), .val (.int x3), .val (.int x4), .val (.int cap), .val (.int n), .val (.ref b6), .val (.ref b14), .val (.ref b25), .val (.ref b110), .val (.int (3 : Int32)), .val (.ref b25), .val (.ref b14), .unset, .unset] [(.ref b110)])) rfl (by rw [hml]; rfl) (Steps.refl _) (argsL := []) (rest := []) (lenOf pd_3 rfl) rfl (by show 2 * 0 + _ ≤ _; exact Nat.le_of_eq rfl) (hb hby at_171) (fun _ _ => ⟨rfl, rfl, (by decide : 4 + 0 ≤ _), (by decide : 60 + 0 ≤ _)⟩)
              dsimp only [Pt.U, Pt.locs, Pt.cells, Pt.slots] at X507 l507 y507 z507 sr507 hQ507
              subst l507 y507 z507
              obtain ⟨rfl, N507q, K507c, f507_0, f507_1, f507_2, f507_3, f507_4, f507_5, f507_6⟩ := hQ507
              have N507 := Fr.app N495 N507q
              obtain ⟨LL507, X507, N507⟩ := own_hide X507 N507
              have f508 : Exa Z T507.heap b6 "com/example/tideloop/tideloop/Message" := f496.keep K507c
              have f509 : Exa Z T507.heap b14 "com/example/tideloop/tideloop/Message" := f495_4.keep K507c
              have f510 : Exa Z T507.heap b25 "com/example/tideloop/tideloop/Message" := f498.keep K507c
              have f511 : Exa Z T507.heap b110 "com/example/tideloop/tideloop/MessagePool" := f495_0.keep K507c
              have f512 : Fld Z T507.heap b25 "com/example/tideloop/tideloop/Message" "what" "I" (.int x4) := f502.keep K507c (ninS ne_b25_b110 (ninS (Ne.symm ne_b6_b25) nin0))
              have f513 : Fld Z T507.heap b25 "com/example/tideloop/tideloop/Message" "nextPooled" "Lcom/example/tideloop/tideloop/Message;" .null := f503.keep K507c (ninS ne_b25_b110 (ninS (Ne.symm ne_b6_b25) nin0))
              have f514 : Fld Z T507.heap b14 "com/example/tideloop/tideloop/Message" "what" "I" (.int x3) := f495_5.keep K507c (ninS ne_b14_b110 (ninS (Ne.symm ne_b6_b14) nin0))
              have f515 : Fld Z T507.heap b14 "com/example/tideloop/tideloop/Message" "nextPooled" "Lcom/example/tideloop/tideloop/Message;" .null := f495_6.keep K507c (ninS ne_b14_b110 (ninS (Ne.symm ne_b6_b14) nin0))
              have Z516 : n0 ≤ T507.heap.size := Nat.le_trans Z504 K507c.1
              have st517 : Steps p.tables e below sE (T507.setTop (mkF m 174 #[.val (.int x0), .val (.int x1), .val (.int x2), .val (.int x3), .val (.int x4), .val (.int cap), .val (.int n), .val (.ref b6), .val (.ref b14), .val (.ref b25), .val (.ref b110), .val (.int (3 : Int32)), .val (.ref b25), .val (.ref b14), .unset, .unset] [(.ref b6)])) := st506.trans (sr507)
              have st518 : Steps p.tables e below sE (T507.setTop (mkF m 178 #[.val (.int x0), .val (.int x1), .val (.int x2), .val (.int x3), .val (.int x4), .val (.int cap), .val (.int n), .val (.ref b6), .val (.ref b14), .val (.ref b25), .val (.ref b110), .val (.int (3 : Int32)), .val (.ref b25), .val (.ref b14), .val (.ref b6), .unset] [(.ref b110)])) := st517.trans (by
                  show Steps _ _ _ (T507.setTop (mkF m 174 #[.val (.int x0), .val (.int x1), .val (.int x2), .val (.int x3), .val (.int x4), .val (.int cap), .val (.int n), .val (.ref b6), .val (.ref b14), .val (.ref b25), .val (.ref b110), .val (.int (3 : Int32)), .val (.ref b25), .val (.ref b14), .unset, .unset] [(.ref b6)])) _
                  refine XS.astore X507.here hx rfl (hb hby at_174) rfl rfl (l' := #[.val (.int x0), .val (.int x1), .val (.int x2), .val (.int x3), .val (.int x4), .val (.int cap), .val (.int n), .val (.ref b6), .val (.ref b14), .val (.ref b25), .val (.ref b110), .val (.int (3 : Int32)), .val (.ref b25), .val (.ref b14), .val (.ref b6), .unset]) rfl ?_
                  show Steps _ _ _ (T507.setTop (mkF m 176 #[.val (.int x0), .val (.int x1), .val (.int x2), .val (.int x3), .val (.int x4), .val (.int cap), .val (.int n), .val (.ref b6), .val (.ref b14), .val (.ref b25), .val (.ref b110), .val (.int (3 : Int32)), .val (.ref b25), .val (.ref b14), .val (.ref b6), .unset] [])) _
                  refine XS.aload X507.here hx rfl (hb hby at_176) rfl rfl ?_
                  exact Steps.refl _)
              obtain ⟨cq519, kq519, q519a, q519b, q519c⟩ := isOf hZ rfl f507_0
              obtain ⟨_, _, ⟨T519, L519, k519, n519⟩, -, X519, ⟨Lc519, hQ519, l519, y519, z519⟩, sr519⟩ := X507.virtualBack hx (y := (⟨"com/example/tideloop/tideloop/MessagePool", "take", "()Lcom/example/tideloop/tideloop/Message;"⟩ : MethodName)) (z := (⟨"com/example/tideloop/tideloop/MessagePool", "take", "()Lcom/example/tideloop/tideloop/Message;"⟩ : MethodName)) hown (mvT hZ (hw _ (List.mem_of_getElem? (i := 36) rfl))) (mvT hZ (hw _ (List.mem_of_getElem? (i := 37) rfl))) (notFace_of_selects (args := #[]) (mvT hZ (hw _ (List.mem_of_getElem? (i := 39) rfl)))) (mvT hZ (hw _ (List.mem_of_getElem? (i := 39) rfl))) (mvT hZ (hw _ (List.mem_of_getElem? (i := 38) rfl))) (by decide) (backOf (W := 0) (rmtk0 l Z a0 hw [] b110  T507.heap n0 Z516 f507_0 f507_3) hZ (hw _ (List.mem_of_getElem? (i := 40) rfl)) (hw _ (List.mem_of_getElem? (i := 15) rfl)) (by decide) (by decide)) q519a q519c (g := (mkF m 178 #[.val (.int x0), .val (.int x1), .val (.int x2), .val (.int x3), .val (.int x4), .val (.int cap), .val (.int n), .val (.ref b6), .val (.ref b14), .val (.ref b25), .val (.ref b110), .val (.int (3 : Int32)), .val (.ref b25), .val (.ref b14), .val (.ref b6), .unset] [(.ref b110)])) rfl (by rw [hml]; rfl) (Steps.refl _) (argsL := []) (rest := []) (lenOf pd_3 rfl) rfl (by show 2 * 0 + _ ≤ _; exact Nat.le_of_eq rfl) (hb hby at_178) (fun _ _ => ⟨rfl, rfl, (by decide : 4 + 1 ≤ _), (by decide : 60 + 19 ≤ _)⟩)
              dsimp only [Pt.U, Pt.locs, Pt.cells, Pt.slots] at X519 l519 y519 z519 sr519 hQ519
              subst l519 y519 z519
              obtain ⟨rfl, N519q, K519c, ⟨qe519, qn519, qw519⟩⟩ := hQ519
              have N519 := Fr.app N507 N519q
              obtain ⟨LL519, X519, N519⟩ := own_hide X519 N519
              have f520 : Exa Z T519.heap b6 "com/example/tideloop/tideloop/Message" := f507_4.keep K519c
              have f521 : Exa Z T519.heap b14 "com/example/tideloop/tideloop/Message" := f509.keep K519c
              have f522 : Exa Z T519.heap b25 "com/example/tideloop/tideloop/Message" := f510.keep K519c
              have f523 : Exa Z T519.heap b110 "com/example/tideloop/tideloop/MessagePool" := f507_0.keep K519c
              have f524 : Fld Z T519.heap b25 "com/example/tideloop/tideloop/Message" "what" "I" (.int x4) := f512.keep K519c nin0
              have f525 : Fld Z T519.heap b25 "com/example/tideloop/tideloop/Message" "nextPooled" "Lcom/example/tideloop/tideloop/Message;" .null := f513.keep K519c nin0
              have f526 : Fld Z T519.heap b14 "com/example/tideloop/tideloop/Message" "what" "I" (.int x3) := f514.keep K519c nin0
              have f527 : Fld Z T519.heap b14 "com/example/tideloop/tideloop/Message" "nextPooled" "Lcom/example/tideloop/tideloop/Message;" .null := f515.keep K519c nin0
              have f528 : Fld Z T519.heap b110 "com/example/tideloop/tideloop/MessagePool" "size" "I" (.int (((((((0 : Int32) + (1 : Int32)) + (1 : Int32)) + (1 : Int32)) - (1 : Int32)) - (1 : Int32)) - (1 : Int32))) := f507_1.keep K519c nin0
              have f529 : Fld Z T519.heap b110 "com/example/tideloop/tideloop/MessagePool" "capacity" "I" (.int cap) := f507_2.keep K519c nin0
              have f530 : Fld Z T519.heap b110 "com/example/tideloop/tideloop/MessagePool" "head" "Lcom/example/tideloop/tideloop/Message;" .null := f507_3.keep K519c nin0
              have f531 : Fld Z T519.heap b6 "com/example/tideloop/tideloop/Message" "what" "I" (.int x2) := f507_5.keep K519c nin0
              have f532 : Fld Z T519.heap b6 "com/example/tideloop/tideloop/Message" "nextPooled" "Lcom/example/tideloop/tideloop/Message;" .null := f507_6.keep K519c nin0
              have Z533 : n0 ≤ T519.heap.size := Nat.le_trans Z516 K519c.1
              obtain ⟨bt519, g519⟩ : ∃ z, z = T507.heap.size := ⟨_, rfl⟩
              rw [← g519] at qe519 qn519 qw519 sr519
              have g_bt519 : n0 ≤ bt519 := Nat.le_trans Z516 (Nat.le_of_eq g519.symm)
              have ne_b6_bt519 : b6 ≠ bt519 := Nat.ne_of_lt (Nat.lt_of_lt_of_le f507_4.lt (Nat.le_of_eq g519.symm))
              have ne_b14_bt519 : b14 ≠ bt519 := Nat.ne_of_lt (Nat.lt_of_lt_of_le f509.lt (Nat.le_of_eq g519.symm))
              have ne_b25_bt519 : b25 ≠ bt519 := Nat.ne_of_lt (Nat.lt_of_lt_of_le f510.lt (Nat.le_of_eq g519.symm))
              have ne_b110_bt519 : b110 ≠ bt519 := Nat.ne_of_lt (Nat.lt_of_lt_of_le f507_0.lt (Nat.le_of_eq g519.symm))
              have st534 : Steps p.tables e below sE (T519.setTop (mkF m 181 #[.val (.int x0), .val (.int x1), .val (.int x2), .val (.int x3), .val (.int x4), .val (.int cap), .val (.int n), .val (.ref b6), .val (.ref b14), .val (.ref b25), .val (.ref b110), .val (.int (3 : Int32)), .val (.ref b25), .val (.ref b14), .val (.ref b6), .unset] [(.ref bt519)])) := st518.trans (sr519)
              have st535 : Steps p.tables e below sE (T519.setTop (mkF m 198 #[.val (.int x0), .val (.int x1), .val (.int x2), .val (.int x3), .val (.int x4), .val (.int cap), .val (.int n), .val (.ref b6), .val (.ref b14), .val (.ref b25), .val (.ref b110), .val (.int (3 : Int32)), .val (.ref b25), .val (.ref b14), .val (.ref b6), .val (.ref bt519)] [(.int x4), (.int x3), (.int x2), (.ref b25), (.ref b14), (.ref b6), (.int (3 : Int32)), (.int (1 : Int32)), (.ref b25)])) := st534.trans (by
                  show Steps _ _ _ (T519.setTop (mkF m 181 #[.val (.int x0), .val (.int x1), .val (.int x2), .val (.int x3), .val (.int x4), .val (.int cap), .val (.int n), .val (.ref b6), .val (.ref b14), .val (.ref b25), .val (.ref b110), .val (.int (3 : Int32)), .val (.ref b25), .val (.ref b14), .val (.ref b6), .unset] [(.ref bt519)])) _
                  refine XS.astore X519.here hx rfl (hb hby at_181) rfl rfl (l' := #[.val (.int x0), .val (.int x1), .val (.int x2), .val (.int x3), .val (.int x4), .val (.int cap), .val (.int n), .val (.ref b6), .val (.ref b14), .val (.ref b25), .val (.ref b110), .val (.int (3 : Int32)), .val (.ref b25), .val (.ref b14), .val (.ref b6), .val (.ref bt519)]) rfl ?_
                  show Steps _ _ _ (T519.setTop (mkF m 183 #[.val (.int x0), .val (.int x1), .val (.int x2), .val (.int x3), .val (.int x4), .val (.int cap), .val (.int n), .val (.ref b6), .val (.ref b14), .val (.ref b25), .val (.ref b110), .val (.int (3 : Int32)), .val (.ref b25), .val (.ref b14), .val (.ref b6), .val (.ref bt519)] [])) _
                  refine XS.aload X519.here hx rfl (hb hby at_183) rfl rfl ?_
                  show Steps _ _ _ (T519.setTop (mkF m 185 #[.val (.int x0), .val (.int x1), .val (.int x2), .val (.int x3), .val (.int x4), .val (.int cap), .val (.int n), .val (.ref b6), .val (.ref b14), .val (.ref b25), .val (.ref b110), .val (.int (3 : Int32)), .val (.ref b25), .val (.ref b14), .val (.ref b6), .val (.ref bt519)] [(.ref b25)])) _
                  refine XS.iconst X519.here hx rfl (hb hby at_185) ?_
                  show Steps _ _ _ (T519.setTop (mkF m 186 #[.val (.int x0), .val (.int x1), .val (.int x2), .val (.int x3), .val (.int x4), .val (.int cap), .val (.int n), .val (.ref b6), .val (.ref b14), .val (.ref b25), .val (.ref b110), .val (.int (3 : Int32)), .val (.ref b25), .val (.ref b14), .val (.ref b6), .val (.ref bt519)] [(.int (1 : Int32)), (.ref b25)])) _
                  refine XS.iload X519.here hx rfl (hb hby at_186) rfl ?_
                  show Steps _ _ _ (T519.setTop (mkF m 188 #[.val (.int x0), .val (.int x1), .val (.int x2), .val (.int x3), .val (.int x4), .val (.int cap), .val (.int n), .val (.ref b6), .val (.ref b14), .val (.ref b25), .val (.ref b110), .val (.int (3 : Int32)), .val (.ref b25), .val (.ref b14), .val (.ref b6), .val (.ref bt519)] [(.int (3 : Int32)), (.int (1 : Int32)), (.ref b25)])) _
                  refine XS.aload X519.here hx rfl (hb hby at_188) rfl rfl ?_
                  show Steps _ _ _ (T519.setTop (mkF m 190 #[.val (.int x0), .val (.int x1), .val (.int x2), .val (.int x3), .val (.int x4), .val (.int cap), .val (.int n), .val (.ref b6), .val (.ref b14), .val (.ref b25), .val (.ref b110), .val (.int (3 : Int32)), .val (.ref b25), .val (.ref b14), .val (.ref b6), .val (.ref bt519)] [(.ref b6), (.int (3 : Int32)), (.int (1 : Int32)), (.ref b25)])) _
                  refine XS.aload X519.here hx rfl (hb hby at_190) rfl rfl ?_
                  show Steps _ _ _ (T519.setTop (mkF m 192 #[.val (.int x0), .val (.int x1), .val (.int x2), .val (.int x3), .val (.int x4), .val (.int cap), .val (.int n), .val (.ref b6), .val (.ref b14), .val (.ref b25), .val (.ref b110), .val (.int (3 : Int32)), .val (.ref b25), .val (.ref b14), .val (.ref b6), .val (.ref bt519)] [(.ref b14), (.ref b6), (.int (3 : Int32)), (.int (1 : Int32)), (.ref b25)])) _
                  refine XS.aload X519.here hx rfl (hb hby at_192) rfl rfl ?_
                  show Steps _ _ _ (T519.setTop (mkF m 194 #[.val (.int x0), .val (.int x1), .val (.int x2), .val (.int x3), .val (.int x4), .val (.int cap), .val (.int n), .val (.ref b6), .val (.ref b14), .val (.ref b25), .val (.ref b110), .val (.int (3 : Int32)), .val (.ref b25), .val (.ref b14), .val (.ref b6), .val (.ref bt519)] [(.ref b25), (.ref b14), (.ref b6), (.int (3 : Int32)), (.int (1 : Int32)), (.ref b25)])) _
                  refine XS.iloadN X519.here hx rfl (hb hby at_194) rfl ?_
                  show Steps _ _ _ (T519.setTop (mkF m 195 #[.val (.int x0), .val (.int x1), .val (.int x2), .val (.int x3), .val (.int x4), .val (.int cap), .val (.int n), .val (.ref b6), .val (.ref b14), .val (.ref b25), .val (.ref b110), .val (.int (3 : Int32)), .val (.ref b25), .val (.ref b14), .val (.ref b6), .val (.ref bt519)] [(.int x2), (.ref b25), (.ref b14), (.ref b6), (.int (3 : Int32)), (.int (1 : Int32)), (.ref b25)])) _
                  refine XS.iloadN X519.here hx rfl (hb hby at_195) rfl ?_
                  show Steps _ _ _ (T519.setTop (mkF m 196 #[.val (.int x0), .val (.int x1), .val (.int x2), .val (.int x3), .val (.int x4), .val (.int cap), .val (.int n), .val (.ref b6), .val (.ref b14), .val (.ref b25), .val (.ref b110), .val (.int (3 : Int32)), .val (.ref b25), .val (.ref b14), .val (.ref b6), .val (.ref bt519)] [(.int x3), (.int x2), (.ref b25), (.ref b14), (.ref b6), (.int (3 : Int32)), (.int (1 : Int32)), (.ref b25)])) _
                  refine XS.iload X519.here hx rfl (hb hby at_196) rfl ?_
                  exact Steps.refl _)
              obtain ⟨_, _, ⟨T536, L536, k536, n536⟩, -, X536, ⟨Lc536, hQ536, l536, y536, z536⟩, sr536⟩ := Jvm.LawKit.callS X519 hx (y := (⟨"com/example/tideloop/tideloop/MessagePoolKeepPinLaw", "check", "(Lcom/example/tideloop/tideloop/Message;IILcom/example/tideloop/tideloop/Message;Lcom/example/tideloop/tideloop/Message;Lcom/example/tideloop/tideloop/Message;III)Z"⟩ : MethodName)) hown (mvT hZ (hw _ (List.mem_of_getElem? (i := 45) rfl))) (mvT hZ (hw _ (List.mem_of_getElem? (i := 46) rfl))) (mvT hZ (hw _ (List.mem_of_getElem? (i := 47) rfl))) (mvT hZ (hw _ (List.mem_of_getElem? (i := 48) rfl))) (by decide) (backOf (W := 0) (rm8 l Z a0 hw [] b25 (1 : Int32) (3 : Int32) b6 b14 b25 x2 x3 x4 x4 T519.heap n0 Z533 f525 f524) hZ (hw _ (List.mem_of_getElem? (i := 48) rfl)) (hw _ (List.mem_of_getElem? (i := 47) rfl)) (by decide) (by decide)) (g := (mkF m 198 #[.val (.int x0), .val (.int x1), .val (.int x2), .val (.int x3), .val (.int x4), .val (.int cap), .val (.int n), .val (.ref b6), .val (.ref b14), .val (.ref b25), .val (.ref b110), .val (.int (3 : Int32)), .val (.ref b25), .val (.ref b14), .val (.ref b6), .val (.ref bt519)] [(.int x4), (.int x3), (.int x2), (.ref b25), (.ref b14), (.ref b6), (.int (3 : Int32)), (.int (1 : Int32)), (.ref b25)])) rfl (by rw [hml]; rfl) (argsL := [(.ref b25), (.int (1 : Int32)), (.int (3 : Int32)), (.ref b6), (.ref b14), (.ref b25), (.int x2), (.int x3), (.int x4)]) (rest := []) (lenOf pd_4 rfl) rfl (by show 2 * 0 + _ ≤ _; exact Nat.le_of_eq rfl) (hb hby at_198) (fun _ _ => ⟨rfl, rfl, (by decide : 5 + 0 ≤ _), (by decide : 79 + 0 ≤ _)⟩)
              dsimp only [Pt.U, Pt.locs, Pt.cells, Pt.slots] at X536 l536 y536 z536 sr536 hQ536
              subst l536 y536 z536
              obtain ⟨rfl, N536q, hh536⟩ := hQ536
              have N536 := Fr.app N519 N536q
              obtain ⟨LL536, X536, N536⟩ := own_hide X536 N536
              have st537 : Steps p.tables e below sE (T536.setTop (mkF m 201 #[.val (.int x0), .val (.int x1), .val (.int x2), .val (.int x3), .val (.int x4), .val (.int cap), .val (.int n), .val (.ref b6), .val (.ref b14), .val (.ref b25), .val (.ref b110), .val (.int (3 : Int32)), .val (.ref b25), .val (.ref b14), .val (.ref b6), .val (.ref bt519)] [(.int (F8 b25 (1 : Int32) (3 : Int32) b6 b14 b25 x2 x3 x4 x4))])) := st535.trans (sr536 _ (Steps.refl _))
              have hf538 : ¬ ((F8 b25 (1 : Int32) (3 : Int32) b6 b14 b25 x2 x3 x4 x4) = (0 : Int32)) := by simp +decide [F8]
              have st539 : Steps p.tables e below sE (T536.setTop (mkF m 219 #[.val (.int x0), .val (.int x1), .val (.int x2), .val (.int x3), .val (.int x4), .val (.int cap), .val (.int n), .val (.ref b6), .val (.ref b14), .val (.ref b25), .val (.ref b110), .val (.int (3 : Int32)), .val (.ref b25), .val (.ref b14), .val (.ref b6), .val (.ref bt519)] [(.int x4), (.int x3), (.int x2), (.ref b25), (.ref b14), (.ref b6), (.int (3 : Int32)), (.int (2 : Int32)), (.ref b14)])) := st537.trans (by
                  show Steps _ _ _ (T536.setTop (mkF m 201 #[.val (.int x0), .val (.int x1), .val (.int x2), .val (.int x3), .val (.int x4), .val (.int cap), .val (.int n), .val (.ref b6), .val (.ref b14), .val (.ref b25), .val (.ref b110), .val (.int (3 : Int32)), .val (.ref b25), .val (.ref b14), .val (.ref b6), .val (.ref bt519)] [(.int (F8 b25 (1 : Int32) (3 : Int32) b6 b14 b25 x2 x3 x4 x4))])) _
                  refine XS.ifNo X536.here hx rfl (hb hby at_201) rfl ((if0 _ _).trans (feq hf538).1) ?_
                  show Steps _ _ _ (T536.setTop (mkF m 204 #[.val (.int x0), .val (.int x1), .val (.int x2), .val (.int x3), .val (.int x4), .val (.int cap), .val (.int n), .val (.ref b6), .val (.ref b14), .val (.ref b25), .val (.ref b110), .val (.int (3 : Int32)), .val (.ref b25), .val (.ref b14), .val (.ref b6), .val (.ref bt519)] [])) _
                  refine XS.aload X536.here hx rfl (hb hby at_204) rfl rfl ?_
                  show Steps _ _ _ (T536.setTop (mkF m 206 #[.val (.int x0), .val (.int x1), .val (.int x2), .val (.int x3), .val (.int x4), .val (.int cap), .val (.int n), .val (.ref b6), .val (.ref b14), .val (.ref b25), .val (.ref b110), .val (.int (3 : Int32)), .val (.ref b25), .val (.ref b14), .val (.ref b6), .val (.ref bt519)] [(.ref b14)])) _
                  refine XS.iconst X536.here hx rfl (hb hby at_206) ?_
                  show Steps _ _ _ (T536.setTop (mkF m 207 #[.val (.int x0), .val (.int x1), .val (.int x2), .val (.int x3), .val (.int x4), .val (.int cap), .val (.int n), .val (.ref b6), .val (.ref b14), .val (.ref b25), .val (.ref b110), .val (.int (3 : Int32)), .val (.ref b25), .val (.ref b14), .val (.ref b6), .val (.ref bt519)] [(.int (2 : Int32)), (.ref b14)])) _
                  refine XS.iload X536.here hx rfl (hb hby at_207) rfl ?_
                  show Steps _ _ _ (T536.setTop (mkF m 209 #[.val (.int x0), .val (.int x1), .val (.int x2), .val (.int x3), .val (.int x4), .val (.int cap), .val (.int n), .val (.ref b6), .val (.ref b14), .val (.ref b25), .val (.ref b110), .val (.int (3 : Int32)), .val (.ref b25), .val (.ref b14), .val (.ref b6), .val (.ref bt519)] [(.int (3 : Int32)), (.int (2 : Int32)), (.ref b14)])) _
                  refine XS.aload X536.here hx rfl (hb hby at_209) rfl rfl ?_
                  show Steps _ _ _ (T536.setTop (mkF m 211 #[.val (.int x0), .val (.int x1), .val (.int x2), .val (.int x3), .val (.int x4), .val (.int cap), .val (.int n), .val (.ref b6), .val (.ref b14), .val (.ref b25), .val (.ref b110), .val (.int (3 : Int32)), .val (.ref b25), .val (.ref b14), .val (.ref b6), .val (.ref bt519)] [(.ref b6), (.int (3 : Int32)), (.int (2 : Int32)), (.ref b14)])) _
                  refine XS.aload X536.here hx rfl (hb hby at_211) rfl rfl ?_
                  show Steps _ _ _ (T536.setTop (mkF m 213 #[.val (.int x0), .val (.int x1), .val (.int x2), .val (.int x3), .val (.int x4), .val (.int cap), .val (.int n), .val (.ref b6), .val (.ref b14), .val (.ref b25), .val (.ref b110), .val (.int (3 : Int32)), .val (.ref b25), .val (.ref b14), .val (.ref b6), .val (.ref bt519)] [(.ref b14), (.ref b6), (.int (3 : Int32)), (.int (2 : Int32)), (.ref b14)])) _
                  refine XS.aload X536.here hx rfl (hb hby at_213) rfl rfl ?_
                  show Steps _ _ _ (T536.setTop (mkF m 215 #[.val (.int x0), .val (.int x1), .val (.int x2), .val (.int x3), .val (.int x4), .val (.int cap), .val (.int n), .val (.ref b6), .val (.ref b14), .val (.ref b25), .val (.ref b110), .val (.int (3 : Int32)), .val (.ref b25), .val (.ref b14), .val (.ref b6), .val (.ref bt519)] [(.ref b25), (.ref b14), (.ref b6), (.int (3 : Int32)), (.int (2 : Int32)), (.ref b14)])) _
                  refine XS.iloadN X536.here hx rfl (hb hby at_215) rfl ?_
                  show Steps _ _ _ (T536.setTop (mkF m 216 #[.val (.int x0), .val (.int x1), .val (.int x2), .val (.int x3), .val (.int x4), .val (.int cap), .val (.int n), .val (.ref b6), .val (.ref b14), .val (.ref b25), .val (.ref b110), .val (.int (3 : Int32)), .val (.ref b25), .val (.ref b14), .val (.ref b6), .val (.ref bt519)] [(.int x2), (.ref b25), (.ref b14), (.ref b6), (.int (3 : Int32)), (.int (2 : Int32)), (.ref b14)])) _
                  refine XS.iloadN X536.here hx rfl (hb hby at_216) rfl ?_
                  show Steps _ _ _ (T536.setTop (mkF m 217 #[.val (.int x0), .val (.int x1), .val (.int x2), .val (.int x3), .val (.int x4), .val (.int cap), .val (.int n), .val (.ref b6), .val (.ref b14), .val (.ref b25), .val (.ref b110), .val (.int (3 : Int32)), .val (.ref b25), .val (.ref b14), .val (.ref b6), .val (.ref bt519)] [(.int x3), (.int x2), (.ref b25), (.ref b14), (.ref b6), (.int (3 : Int32)), (.int (2 : Int32)), (.ref b14)])) _
                  refine XS.iload X536.here hx rfl (hb hby at_217) rfl ?_
                  exact Steps.refl _)
              obtain ⟨_, _, ⟨T540, L540, k540, n540⟩, -, X540, ⟨Lc540, hQ540, l540, y540, z540⟩, sr540⟩ := Jvm.LawKit.callS X536 hx (y := (⟨"com/example/tideloop/tideloop/MessagePoolKeepPinLaw", "check", "(Lcom/example/tideloop/tideloop/Message;IILcom/example/tideloop/tideloop/Message;Lcom/example/tideloop/tideloop/Message;Lcom/example/tideloop/tideloop/Message;III)Z"⟩ : MethodName)) hown (mvT hZ (hw _ (List.mem_of_getElem? (i := 45) rfl))) (mvT hZ (hw _ (List.mem_of_getElem? (i := 46) rfl))) (mvT hZ (hw _ (List.mem_of_getElem? (i := 47) rfl))) (mvT hZ (hw _ (List.mem_of_getElem? (i := 48) rfl))) (by decide) (backOf (W := 0) (rm8 l Z a0 hw [] b14 (2 : Int32) (3 : Int32) b6 b14 b25 x2 x3 x4 x3 T519.heap n0 Z533 f527 f526) hZ (hw _ (List.mem_of_getElem? (i := 48) rfl)) (hw _ (List.mem_of_getElem? (i := 47) rfl)) (by decide) (by decide)) (g := (mkF m 219 #[.val (.int x0), .val (.int x1), .val (.int x2), .val (.int x3), .val (.int x4), .val (.int cap), .val (.int n), .val (.ref b6), .val (.ref b14), .val (.ref b25), .val (.ref b110), .val (.int (3 : Int32)), .val (.ref b25), .val (.ref b14), .val (.ref b6), .val (.ref bt519)] [(.int x4), (.int x3), (.int x2), (.ref b25), (.ref b14), (.ref b6), (.int (3 : Int32)), (.int (2 : Int32)), (.ref b14)])) rfl (by rw [hml]; rfl) (argsL := [(.ref b14), (.int (2 : Int32)), (.int (3 : Int32)), (.ref b6), (.ref b14), (.ref b25), (.int x2), (.int x3), (.int x4)]) (rest := []) (lenOf pd_4 rfl) rfl (by show 2 * 0 + _ ≤ _; exact Nat.le_of_eq rfl) (hb hby at_219) (fun _ _ => ⟨rfl, hh536, (by decide : 5 + 0 ≤ _), (by decide : 79 + 0 ≤ _)⟩)
              dsimp only [Pt.U, Pt.locs, Pt.cells, Pt.slots] at X540 l540 y540 z540 sr540 hQ540
              subst l540 y540 z540
              obtain ⟨rfl, N540q, hh540⟩ := hQ540
              have N540 := Fr.app N536 N540q
              obtain ⟨LL540, X540, N540⟩ := own_hide X540 N540
              have st541 : Steps p.tables e below sE (T540.setTop (mkF m 222 #[.val (.int x0), .val (.int x1), .val (.int x2), .val (.int x3), .val (.int x4), .val (.int cap), .val (.int n), .val (.ref b6), .val (.ref b14), .val (.ref b25), .val (.ref b110), .val (.int (3 : Int32)), .val (.ref b25), .val (.ref b14), .val (.ref b6), .val (.ref bt519)] [(.int (F8 b14 (2 : Int32) (3 : Int32) b6 b14 b25 x2 x3 x4 x3))])) := st539.trans (sr540 _ (Steps.refl _))
              have hf542 : ¬ ((F8 b14 (2 : Int32) (3 : Int32) b6 b14 b25 x2 x3 x4 x3) = (0 : Int32)) := by simp +decide [F8]
              have st543 : Steps p.tables e below sE (T540.setTop (mkF m 240 #[.val (.int x0), .val (.int x1), .val (.int x2), .val (.int x3), .val (.int x4), .val (.int cap), .val (.int n), .val (.ref b6), .val (.ref b14), .val (.ref b25), .val (.ref b110), .val (.int (3 : Int32)), .val (.ref b25), .val (.ref b14), .val (.ref b6), .val (.ref bt519)] [(.int x4), (.int x3), (.int x2), (.ref b25), (.ref b14), (.ref b6), (.int (3 : Int32)), (.int (3 : Int32)), (.ref b6)])) := st541.trans (by
                  show Steps _ _ _ (T540.setTop (mkF m 222 #[.val (.int x0), .val (.int x1), .val (.int x2), .val (.int x3), .val (.int x4), .val (.int cap), .val (.int n), .val (.ref b6), .val (.ref b14), .val (.ref b25), .val (.ref b110), .val (.int (3 : Int32)), .val (.ref b25), .val (.ref b14), .val (.ref b6), .val (.ref bt519)] [(.int (F8 b14 (2 : Int32) (3 : Int32) b6 b14 b25 x2 x3 x4 x3))])) _
                  refine XS.ifNo X540.here hx rfl (hb hby at_222) rfl ((if0 _ _).trans (feq hf542).1) ?_
                  show Steps _ _ _ (T540.setTop (mkF m 225 #[.val (.int x0), .val (.int x1), .val (.int x2), .val (.int x3), .val (.int x4), .val (.int cap), .val (.int n), .val (.ref b6), .val (.ref b14), .val (.ref b25), .val (.ref b110), .val (.int (3 : Int32)), .val (.ref b25), .val (.ref b14), .val (.ref b6), .val (.ref bt519)] [])) _
                  refine XS.aload X540.here hx rfl (hb hby at_225) rfl rfl ?_
                  show Steps _ _ _ (T540.setTop (mkF m 227 #[.val (.int x0), .val (.int x1), .val (.int x2), .val (.int x3), .val (.int x4), .val (.int cap), .val (.int n), .val (.ref b6), .val (.ref b14), .val (.ref b25), .val (.ref b110), .val (.int (3 : Int32)), .val (.ref b25), .val (.ref b14), .val (.ref b6), .val (.ref bt519)] [(.ref b6)])) _
                  refine XS.iconst X540.here hx rfl (hb hby at_227) ?_
                  show Steps _ _ _ (T540.setTop (mkF m 228 #[.val (.int x0), .val (.int x1), .val (.int x2), .val (.int x3), .val (.int x4), .val (.int cap), .val (.int n), .val (.ref b6), .val (.ref b14), .val (.ref b25), .val (.ref b110), .val (.int (3 : Int32)), .val (.ref b25), .val (.ref b14), .val (.ref b6), .val (.ref bt519)] [(.int (3 : Int32)), (.ref b6)])) _
                  refine XS.iload X540.here hx rfl (hb hby at_228) rfl ?_
                  show Steps _ _ _ (T540.setTop (mkF m 230 #[.val (.int x0), .val (.int x1), .val (.int x2), .val (.int x3), .val (.int x4), .val (.int cap), .val (.int n), .val (.ref b6), .val (.ref b14), .val (.ref b25), .val (.ref b110), .val (.int (3 : Int32)), .val (.ref b25), .val (.ref b14), .val (.ref b6), .val (.ref bt519)] [(.int (3 : Int32)), (.int (3 : Int32)), (.ref b6)])) _
                  refine XS.aload X540.here hx rfl (hb hby at_230) rfl rfl ?_
                  show Steps _ _ _ (T540.setTop (mkF m 232 #[.val (.int x0), .val (.int x1), .val (.int x2), .val (.int x3), .val (.int x4), .val (.int cap), .val (.int n), .val (.ref b6), .val (.ref b14), .val (.ref b25), .val (.ref b110), .val (.int (3 : Int32)), .val (.ref b25), .val (.ref b14), .val (.ref b6), .val (.ref bt519)] [(.ref b6), (.int (3 : Int32)), (.int (3 : Int32)), (.ref b6)])) _
                  refine XS.aload X540.here hx rfl (hb hby at_232) rfl rfl ?_
                  show Steps _ _ _ (T540.setTop (mkF m 234 #[.val (.int x0), .val (.int x1), .val (.int x2), .val (.int x3), .val (.int x4), .val (.int cap), .val (.int n), .val (.ref b6), .val (.ref b14), .val (.ref b25), .val (.ref b110), .val (.int (3 : Int32)), .val (.ref b25), .val (.ref b14), .val (.ref b6), .val (.ref bt519)] [(.ref b14), (.ref b6), (.int (3 : Int32)), (.int (3 : Int32)), (.ref b6)])) _
                  refine XS.aload X540.here hx rfl (hb hby at_234) rfl rfl ?_
                  show Steps _ _ _ (T540.setTop (mkF m 236 #[.val (.int x0), .val (.int x1), .val (.int x2), .val (.int x3), .val (.int x4), .val (.int cap), .val (.int n), .val (.ref b6), .val (.ref b14), .val (.ref b25), .val (.ref b110), .val (.int (3 : Int32)), .val (.ref b25), .val (.ref b14), .val (.ref b6), .val (.ref bt519)] [(.ref b25), (.ref b14), (.ref b6), (.int (3 : Int32)), (.int (3 : Int32)), (.ref b6)])) _
                  refine XS.iloadN X540.here hx rfl (hb hby at_236) rfl ?_
                  show Steps _ _ _ (T540.setTop (mkF m 237 #[.val (.int x0), .val (.int x1), .val (.int x2), .val (.int x3), .val (.int x4), .val (.int cap), .val (.int n), .val (.ref b6), .val (.ref b14), .val (.ref b25), .val (.ref b110), .val (.int (3 : Int32)), .val (.ref b25), .val (.ref b14), .val (.ref b6), .val (.ref bt519)] [(.int x2), (.ref b25), (.ref b14), (.ref b6), (.int (3 : Int32)), (.int (3 : Int32)), (.ref b6)])) _
                  refine XS.iloadN X540.here hx rfl (hb hby at_237) rfl ?_
                  show Steps _ _ _ (T540.setTop (mkF m 238 #[.val (.int x0), .val (.int x1), .val (.int x2), .val (.int x3), .val (.int x4), .val (.int cap), .val (.int n), .val (.ref b6), .val (.ref b14), .val (.ref b25), .val (.ref b110), .val (.int (3 : Int32)), .val (.ref b25), .val (.ref b14), .val (.ref b6), .val (.ref bt519)] [(.int x3), (.int x2), (.ref b25), (.ref b14), (.ref b6), (.int (3 : Int32)), (.int (3 : Int32)), (.ref b6)])) _
                  refine XS.iload X540.here hx rfl (hb hby at_238) rfl ?_
                  exact Steps.refl _)
              obtain ⟨_, _, ⟨T544, L544, k544, n544⟩, -, X544, ⟨Lc544, hQ544, l544, y544, z544⟩, sr544⟩ := Jvm.LawKit.callS X540 hx (y := (⟨"com/example/tideloop/tideloop/MessagePoolKeepPinLaw", "check", "(Lcom/example/tideloop/tideloop/Message;IILcom/example/tideloop/tideloop/Message;Lcom/example/tideloop/tideloop/Message;Lcom/example/tideloop/tideloop/Message;III)Z"⟩ : MethodName)) hown (mvT hZ (hw _ (List.mem_of_getElem? (i := 45) rfl))) (mvT hZ (hw _ (List.mem_of_getElem? (i := 46) rfl))) (mvT hZ (hw _ (List.mem_of_getElem? (i := 47) rfl))) (mvT hZ (hw _ (List.mem_of_getElem? (i := 48) rfl))) (by decide) (backOf (W := 0) (rm8 l Z a0 hw [] b6 (3 : Int32) (3 : Int32) b6 b14 b25 x2 x3 x4 x2 T519.heap n0 Z533 f532 f531) hZ (hw _ (List.mem_of_getElem? (i := 48) rfl)) (hw _ (List.mem_of_getElem? (i := 47) rfl)) (by decide) (by decide)) (g := (mkF m 240 #[.val (.int x0), .val (.int x1), .val (.int x2), .val (.int x3), .val (.int x4), .val (.int cap), .val (.int n), .val (.ref b6), .val (.ref b14), .val (.ref b25), .val (.ref b110), .val (.int (3 : Int32)), .val (.ref b25), .val (.ref b14), .val (.ref b6), .val (.ref bt519)] [(.int x4), (.int x3), (.int x2), (.ref b25), (.ref b14), (.ref b6), (.int (3 : Int32)), (.int (3 : Int32)), (.ref b6)])) rfl (by rw [hml]; rfl) (argsL := [(.ref b6), (.int (3 : Int32)), (.int (3 : Int32)), (.ref b6), (.ref b14), (.ref b25), (.int x2), (.int x3), (.int x4)]) (rest := []) (lenOf pd_4 rfl) rfl (by show 2 * 0 + _ ≤ _; exact Nat.le_of_eq rfl) (hb hby at_240) (fun _ _ => ⟨rfl, hh540, (by decide : 5 + 0 ≤ _), (by decide : 79 + 0 ≤ _)⟩)
              dsimp only [Pt.U, Pt.locs, Pt.cells, Pt.slots] at X544 l544 y544 z544 sr544 hQ544
              subst l544 y544 z544
              obtain ⟨rfl, N544q, hh544⟩ := hQ544
              have N544 := Fr.app N540 N544q
              obtain ⟨LL544, X544, N544⟩ := own_hide X544 N544
              have st545 : Steps p.tables e below sE (T544.setTop (mkF m 243 #[.val (.int x0), .val (.int x1), .val (.int x2), .val (.int x3), .val (.int x4), .val (.int cap), .val (.int n), .val (.ref b6), .val (.ref b14), .val (.ref b25), .val (.ref b110), .val (.int (3 : Int32)), .val (.ref b25), .val (.ref b14), .val (.ref b6), .val (.ref bt519)] [(.int (F8 b6 (3 : Int32) (3 : Int32) b6 b14 b25 x2 x3 x4 x2))])) := st543.trans (sr544 _ (Steps.refl _))
              have hf546 : ¬ ((F8 b6 (3 : Int32) (3 : Int32) b6 b14 b25 x2 x3 x4 x2) = (0 : Int32)) := by simp +decide [F8]
              have st547 : Steps p.tables e below sE (T544.setTop (mkF m 261 #[.val (.int x0), .val (.int x1), .val (.int x2), .val (.int x3), .val (.int x4), .val (.int cap), .val (.int n), .val (.ref b6), .val (.ref b14), .val (.ref b25), .val (.ref b110), .val (.int (3 : Int32)), .val (.ref b25), .val (.ref b14), .val (.ref b6), .val (.ref bt519)] [(.int x4), (.int x3), (.int x2), (.ref b25), (.ref b14), (.ref b6), (.int (3 : Int32)), (.int (4 : Int32)), (.ref bt519)])) := st545.trans (by
                  show Steps _ _ _ (T544.setTop (mkF m 243 #[.val (.int x0), .val (.int x1), .val (.int x2), .val (.int x3), .val (.int x4), .val (.int cap), .val (.int n), .val (.ref b6), .val (.ref b14), .val (.ref b25), .val (.ref b110), .val (.int (3 : Int32)), .val (.ref b25), .val (.ref b14), .val (.ref b6), .val (.ref bt519)] [(.int (F8 b6 (3 : Int32) (3 : Int32) b6 b14 b25 x2 x3 x4 x2))])) _
                  refine XS.ifNo X544.here hx rfl (hb hby at_243) rfl ((if0 _ _).trans (feq hf546).1) ?_
                  show Steps _ _ _ (T544.setTop (mkF m 246 #[.val (.int x0), .val (.int x1), .val (.int x2), .val (.int x3), .val (.int x4), .val (.int cap), .val (.int n), .val (.ref b6), .val (.ref b14), .val (.ref b25), .val (.ref b110), .val (.int (3 : Int32)), .val (.ref b25), .val (.ref b14), .val (.ref b6), .val (.ref bt519)] [])) _
                  refine XS.aload X544.here hx rfl (hb hby at_246) rfl rfl ?_
                  show Steps _ _ _ (T544.setTop (mkF m 248 #[.val (.int x0), .val (.int x1), .val (.int x2), .val (.int x3), .val (.int x4), .val (.int cap), .val (.int n), .val (.ref b6), .val (.ref b14), .val (.ref b25), .val (.ref b110), .val (.int (3 : Int32)), .val (.ref b25), .val (.ref b14), .val (.ref b6), .val (.ref bt519)] [(.ref bt519)])) _
                  refine XS.iconst X544.here hx rfl (hb hby at_248) ?_
                  show Steps _ _ _ (T544.setTop (mkF m 249 #[.val (.int x0), .val (.int x1), .val (.int x2), .val (.int x3), .val (.int x4), .val (.int cap), .val (.int n), .val (.ref b6), .val (.ref b14), .val (.ref b25), .val (.ref b110), .val (.int (3 : Int32)), .val (.ref b25), .val (.ref b14), .val (.ref b6), .val (.ref bt519)] [(.int (4 : Int32)), (.ref bt519)])) _
                  refine XS.iload X544.here hx rfl (hb hby at_249) rfl ?_
                  show Steps _ _ _ (T544.setTop (mkF m 251 #[.val (.int x0), .val (.int x1), .val (.int x2), .val (.int x3), .val (.int x4), .val (.int cap), .val (.int n), .val (.ref b6), .val (.ref b14), .val (.ref b25), .val (.ref b110), .val (.int (3 : Int32)), .val (.ref b25), .val (.ref b14), .val (.ref b6), .val (.ref bt519)] [(.int (3 : Int32)), (.int (4 : Int32)), (.ref bt519)])) _
                  refine XS.aload X544.here hx rfl (hb hby at_251) rfl rfl ?_
                  show Steps _ _ _ (T544.setTop (mkF m 253 #[.val (.int x0), .val (.int x1), .val (.int x2), .val (.int x3), .val (.int x4), .val (.int cap), .val (.int n), .val (.ref b6), .val (.ref b14), .val (.ref b25), .val (.ref b110), .val (.int (3 : Int32)), .val (.ref b25), .val (.ref b14), .val (.ref b6), .val (.ref bt519)] [(.ref b6), (.int (3 : Int32)), (.int (4 : Int32)), (.ref bt519)])) _
                  refine XS.aload X544.here hx rfl (hb hby at_253) rfl rfl ?_
                  show Steps _ _ _ (T544.setTop (mkF m 255 #[.val (.int x0), .val (.int x1), .val (.int x2), .val (.int x3), .val (.int x4), .val (.int cap), .val (.int n), .val (.ref b6), .val (.ref b14), .val (.ref b25), .val (.ref b110), .val (.int (3 : Int32)), .val (.ref b25), .val (.ref b14), .val (.ref b6), .val (.ref bt519)] [(.ref b14), (.ref b6), (.int (3 : Int32)), (.int (4 : Int32)), (.ref bt519)])) _
                  refine XS.aload X544.here hx rfl (hb hby at_255) rfl rfl ?_
                  show Steps _ _ _ (T544.setTop (mkF m 257 #[.val (.int x0), .val (.int x1), .val (.int x2), .val (.int x3), .val (.int x4), .val (.int cap), .val (.int n), .val (.ref b6), .val (.ref b14), .val (.ref b25), .val (.ref b110), .val (.int (3 : Int32)), .val (.ref b25), .val (.ref b14), .val (.ref b6), .val (.ref bt519)] [(.ref b25), (.ref b14), (.ref b6), (.int (3 : Int32)), (.int (4 : Int32)), (.ref bt519)])) _
                  refine XS.iloadN X544.here hx rfl (hb hby at_257) rfl ?_
                  show Steps _ _ _ (T544.setTop (mkF m 258 #[.val (.int x0), .val (.int x1), .val (.int x2), .val (.int x3), .val (.int x4), .val (.int cap), .val (.int n), .val (.ref b6), .val (.ref b14), .val (.ref b25), .val (.ref b110), .val (.int (3 : Int32)), .val (.ref b25), .val (.ref b14), .val (.ref b6), .val (.ref bt519)] [(.int x2), (.ref b25), (.ref b14), (.ref b6), (.int (3 : Int32)), (.int (4 : Int32)), (.ref bt519)])) _
                  refine XS.iloadN X544.here hx rfl (hb hby at_258) rfl ?_
                  show Steps _ _ _ (T544.setTop (mkF m 259 #[.val (.int x0), .val (.int x1), .val (.int x2), .val (.int x3), .val (.int x4), .val (.int cap), .val (.int n), .val (.ref b6), .val (.ref b14), .val (.ref b25), .val (.ref b110), .val (.int (3 : Int32)), .val (.ref b25), .val (.ref b14), .val (.ref b6), .val (.ref bt519)] [(.int x3), (.int x2), (.ref b25), (.ref b14), (.ref b6), (.int (3 : Int32)), (.int (4 : Int32)), (.ref bt519)])) _
                  refine XS.iload X544.here hx rfl (hb hby at_259) rfl ?_
                  exact Steps.refl _)
              obtain ⟨_, _, ⟨T548, L548, k548, n548⟩, -, X548, ⟨Lc548, hQ548, l548, y548, z548⟩, sr548⟩ := Jvm.LawKit.callS X544 hx (y := (⟨"com/example/tideloop/tideloop/MessagePoolKeepPinLaw", "check", "(Lcom/example/tideloop/tideloop/Message;IILcom/example/tideloop/tideloop/Message;Lcom/example/tideloop/tideloop/Message;Lcom/example/tideloop/tideloop/Message;III)Z"⟩ : MethodName)) hown (mvT hZ (hw _ (List.mem_of_getElem? (i := 45) rfl))) (mvT hZ (hw _ (List.mem_of_getElem? (i := 46) rfl))) (mvT hZ (hw _ (List.mem_of_getElem? (i := 47) rfl))) (mvT hZ (hw _ (List.mem_of_getElem? (i := 48) rfl))) (by decide) (backOf (W := 0) (rm8 l Z a0 hw [] bt519 (4 : Int32) (3 : Int32) b6 b14 b25 x2 x3 x4 (0 : Int32) T519.heap n0 Z533 qn519 qw519) hZ (hw _ (List.mem_of_getElem? (i := 48) rfl)) (hw _ (List.mem_of_getElem? (i := 47) rfl)) (by decide) (by decide)) (g := (mkF m 261 #[.val (.int x0), .val (.int x1), .val (.int x2), .val (.int x3), .val (.int x4), .val (.int cap), .val (.int n), .val (.ref b6), .val (.ref b14), .val (.ref b25), .val (.ref b110), .val (.int (3 : Int32)), .val (.ref b25), .val (.ref b14), .val (.ref b6), .val (.ref bt519)] [(.int x4), (.int x3), (.int x2), (.ref b25), (.ref b14), (.ref b6), (.int (3 : Int32)), (.int (4 : Int32)), (.ref bt519)])) rfl (by rw [hml]; rfl) (argsL := [(.ref bt519), (.int (4 : Int32)), (.int (3 : Int32)), (.ref b6), (.ref b14), (.ref b25), (.int x2), (.int x3), (.int x4)]) (rest := []) (lenOf pd_4 rfl) rfl (by show 2 * 0 + _ ≤ _; exact Nat.le_of_eq rfl) (hb hby at_261) (fun _ _ => ⟨rfl, hh544, (by decide : 5 + 0 ≤ _), (by decide : 79 + 0 ≤ _)⟩)
              dsimp only [Pt.U, Pt.locs, Pt.cells, Pt.slots] at X548 l548 y548 z548 sr548 hQ548
              subst l548 y548 z548
              obtain ⟨rfl, N548q, hh548⟩ := hQ548
              have N548 := Fr.app N544 N548q
              obtain ⟨LL548, X548, N548⟩ := own_hide X548 N548
              have st549 : Steps p.tables e below sE (T548.setTop (mkF m 264 #[.val (.int x0), .val (.int x1), .val (.int x2), .val (.int x3), .val (.int x4), .val (.int cap), .val (.int n), .val (.ref b6), .val (.ref b14), .val (.ref b25), .val (.ref b110), .val (.int (3 : Int32)), .val (.ref b25), .val (.ref b14), .val (.ref b6), .val (.ref bt519)] [(.int (F8 bt519 (4 : Int32) (3 : Int32) b6 b14 b25 x2 x3 x4 (0 : Int32)))])) := st547.trans (sr548 _ (Steps.refl _))
              have hf550 : ¬ ((F8 bt519 (4 : Int32) (3 : Int32) b6 b14 b25 x2 x3 x4 (0 : Int32)) = (0 : Int32)) := by simp +decide [F8, (Ne.symm ne_b6_bt519), (Ne.symm ne_b14_bt519), (Ne.symm ne_b25_bt519)]
              have st551 : Steps p.tables e below sE (T548.setTop (mkF m 272 #[.val (.int x0), .val (.int x1), .val (.int x2), .val (.int x3), .val (.int x4), .val (.int cap), .val (.int n), .val (.ref b6), .val (.ref b14), .val (.ref b25), .val (.ref b110), .val (.int (3 : Int32)), .val (.ref b25), .val (.ref b14), .val (.ref b6), .val (.ref bt519)] [(.int (1 : Int32))])) := st549.trans (by
                  show Steps _ _ _ (T548.setTop (mkF m 264 #[.val (.int x0), .val (.int x1), .val (.int x2), .val (.int x3), .val (.int x4), .val (.int cap), .val (.int n), .val (.ref b6), .val (.ref b14), .val (.ref b25), .val (.ref b110), .val (.int (3 : Int32)), .val (.ref b25), .val (.ref b14), .val (.ref b6), .val (.ref bt519)] [(.int (F8 bt519 (4 : Int32) (3 : Int32) b6 b14 b25 x2 x3 x4 (0 : Int32)))])) _
                  refine XS.ifNo X548.here hx rfl (hb hby at_264) rfl ((if0 _ _).trans (feq hf550).1) ?_
                  show Steps _ _ _ (T548.setTop (mkF m 267 #[.val (.int x0), .val (.int x1), .val (.int x2), .val (.int x3), .val (.int x4), .val (.int cap), .val (.int n), .val (.ref b6), .val (.ref b14), .val (.ref b25), .val (.ref b110), .val (.int (3 : Int32)), .val (.ref b25), .val (.ref b14), .val (.ref b6), .val (.ref bt519)] [])) _
                  refine XS.iconst X548.here hx rfl (hb hby at_267) ?_
                  show Steps _ _ _ (T548.setTop (mkF m 268 #[.val (.int x0), .val (.int x1), .val (.int x2), .val (.int x3), .val (.int x4), .val (.int cap), .val (.int n), .val (.ref b6), .val (.ref b14), .val (.ref b25), .val (.ref b110), .val (.int (3 : Int32)), .val (.ref b25), .val (.ref b14), .val (.ref b6), .val (.ref bt519)] [(.int (1 : Int32))])) _
                  refine XS.goto X548.here hx rfl (pc0 := 268) (pc' := 272) rfl (hb hby at_268) (by decide) (by decide) ?_
                  exact Steps.refl _)
              obtain ⟨fs, hr, hrun, hended, hW, hsame⟩ := X548.leave (v := some (.int (1 : Int32))) (fun h => by rw [Bd.returns] at h; cases h)
              refine ⟨_, _, (own_ent hsE st551).trans ?_, hrun, hended, _, _, rfl, ?_, ⟨_, rfl⟩, hW, hsame.mono (by decide) (by decide)⟩
              · exact retN X548 hx (t := .boolean) Bd.returns (by simp) (hb hby at_272) hr
              · show Q0 Z x0 x1 x2 x3 x4 h0 n0 _ T548.heap _
                rw [hh548]
                exact ⟨rfl, N548⟩
            · 
              obtain ⟨cq552, kq552, q552a, q552b, q552c⟩ := isOf hZ rfl f367_0
              obtain ⟨_, _, ⟨T552, L552, k552, n552⟩, -, X552, ⟨Lc552, hQ552, l552, y552, z552⟩, sr552⟩ := X367.virtualBack hx (y := (⟨"com/example/tideloop/tideloop/MessagePool", "keep", "(Lcom/example/tideloop/tideloop/Message;)V"⟩ : MethodName)) (z := (⟨"com/example/tideloop/tideloop/MessagePool", "keep", "(Lcom/example/tideloop/tideloop/Message;)V"⟩ : MethodName)) hown (mvT hZ (hw _ (List.mem_of_getElem? (i := 22) rfl))) (mvT hZ (hw _ (List.mem_of_getElem? (i := 23) rfl))) (notFace_of_selects (args := #[]) (mvT hZ (hw _ (List.mem_of_getElem? (i := 25) rfl)))) (mvT hZ (hw _ (List.mem_of_getElem? (i := 25) rfl))) (mvT hZ (hw _ (List.mem_of_getElem? (i := 24) rfl))) (by decide) (backOf (W := 0) (rmkn l Z a0 hw [] b110 b25 (((0 : Int32) + (1 : Int32)) + (1 : Int32)) cap T367.heap n0 Z376 f367_0 f367_1 f367_2 hc465) hZ (hw _ (List.mem_of_getElem? (i := 26) rfl)) (hw _ (List.mem_of_getElem? (i := 15) rfl)) (by decide) (by decide)) q552a q552c (g := (mkF m 139 #[.val (.int x0), .val (.int x1), .val (.int x2), .val (.int x3), .val (.int x4), .val (.int cap), .val (.int n), .val (.ref b6), .val (.ref b14), .val (.ref b25), .val (.ref b110), .unset, .unset, .unset, .unset, .unset] [(.ref b25), (.ref b110)])) rfl (by rw [hml]; rfl) (Steps.refl _) (argsL := [(.ref b25)]) (rest := []) (lenOf pd_5 rfl) rfl (by show 2 * 0 + _ ≤ _; exact Nat.le_of_eq rfl) (hb hby at_139) (fun _ _ => ⟨rfl, rfl, (by decide : 4 + 0 ≤ _), (by decide : 60 + 0 ≤ _)⟩)
              dsimp only [Pt.U, Pt.locs, Pt.cells, Pt.slots] at X552 l552 y552 z552 sr552 hQ552
              subst l552 y552 z552
              obtain ⟨rfl, N552q, hh552⟩ := hQ552
              have N552 := Fr.app N367 N552q
              obtain ⟨LL552, X552, N552⟩ := own_hide X552 N552
              have st553 : Steps p.tables e below sE (T552.setTop (mkF m 142 #[.val (.int x0), .val (.int x1), .val (.int x2), .val (.int x3), .val (.int x4), .val (.int cap), .val (.int n), .val (.ref b6), .val (.ref b14), .val (.ref b25), .val (.ref b110), .unset, .unset, .unset, .unset, .unset] [])) := st464.trans (sr552)
              have st554 : Steps p.tables e below sE (T552.setTop (mkF m 147 #[.val (.int x0), .val (.int x1), .val (.int x2), .val (.int x3), .val (.int x4), .val (.int cap), .val (.int n), .val (.ref b6), .val (.ref b14), .val (.ref b25), .val (.ref b110), .unset, .unset, .unset, .unset, .unset] [(.int cap), (.int (0 : Int32)), (.int n)])) := st553.trans (by
                  show Steps _ _ _ (T552.setTop (mkF m 142 #[.val (.int x0), .val (.int x1), .val (.int x2), .val (.int x3), .val (.int x4), .val (.int cap), .val (.int n), .val (.ref b6), .val (.ref b14), .val (.ref b25), .val (.ref b110), .unset, .unset, .unset, .unset, .unset] [])) _
                  refine XS.iload X552.here hx rfl (hb hby at_142) rfl ?_
                  show Steps _ _ _ (T552.setTop (mkF m 144 #[.val (.int x0), .val (.int x1), .val (.int x2), .val (.int x3), .val (.int x4), .val (.int cap), .val (.int n), .val (.ref b6), .val (.ref b14), .val (.ref b25), .val (.ref b110), .unset, .unset, .unset, .unset, .unset] [(.int n)])) _
                  refine XS.iconst X552.here hx rfl (hb hby at_144) ?_
                  show Steps _ _ _ (T552.setTop (mkF m 145 #[.val (.int x0), .val (.int x1), .val (.int x2), .val (.int x3), .val (.int x4), .val (.int cap), .val (.int n), .val (.ref b6), .val (.ref b14), .val (.ref b25), .val (.ref b110), .unset, .unset, .unset, .unset, .unset] [(.int (0 : Int32)), (.int n)])) _
                  refine XS.iload X552.here hx rfl (hb hby at_145) rfl ?_
                  exact Steps.refl _)
              obtain ⟨_, _, ⟨T555, L555, k555, n555⟩, -, X555, ⟨Lc555, hQ555, l555, y555, z555⟩, sr555⟩ := Jvm.LawKit.callS X552 hx (y := (⟨"java/lang/Math", "max", "(II)I"⟩ : MethodName)) hown (mvT hZ (hw _ (List.mem_of_getElem? (i := 29) rfl))) (mvT hZ (hw _ (List.mem_of_getElem? (i := 30) rfl))) (mvT hZ (hw _ (List.mem_of_getElem? (i := 31) rfl))) (mvT hZ (hw _ (List.mem_of_getElem? (i := 32) rfl))) (by decide) (backOf (W := 1) (rm5 l Z a0 hw [] (0 : Int32) cap  T367.heap n0 Z376 ) hZ (hw _ (List.mem_of_getElem? (i := 32) rfl)) (hw _ (List.mem_of_getElem? (i := 31) rfl)) (by decide) (by decide)) (g := (mkF m 147 #[.val (.int x0), .val (.int x1), .val (.int x2), .val (.int x3), .val (.int x4), .val (.int cap), .val (.int n), .val (.ref b6), .val (.ref b14), .val (.ref b25), .val (.ref b110), .unset, .unset, .unset, .unset, .unset] [(.int cap), (.int (0 : Int32)), (.int n)])) rfl (by rw [hml]; rfl) (argsL := [(.int (0 : Int32)), (.int cap)]) (rest := [(.int n)]) (lenOf pd_2 rfl) rfl (by show 2 * 0 + _ ≤ _; exact Nat.le_of_eq rfl) (hb hby at_147) (fun _ _ => ⟨rfl, hh552, (by decide : 4 + 0 ≤ _), (by decide : 60 + 0 ≤ _)⟩)
              dsimp only [Pt.U, Pt.locs, Pt.cells, Pt.slots] at X555 l555 y555 z555 sr555 hQ555
              subst l555 y555 z555
              obtain ⟨rfl, N555q, hh555⟩ := hQ555
              have N555 := Fr.app N552 N555q
              obtain ⟨LL555, X555, N555⟩ := own_hide X555 N555
              have st556 : Steps p.tables e below sE (T555.setTop (mkF m 150 #[.val (.int x0), .val (.int x1), .val (.int x2), .val (.int x3), .val (.int x4), .val (.int cap), .val (.int n), .val (.ref b6), .val (.ref b14), .val (.ref b25), .val (.ref b110), .unset, .unset, .unset, .unset, .unset] [(.int (F5 (0 : Int32) cap)), (.int n)])) := st554.trans (sr555 _ (Steps.refl _))
              obtain ⟨_, _, ⟨T557, L557, k557, n557⟩, -, X557, ⟨Lc557, hQ557, l557, y557, z557⟩, sr557⟩ := Jvm.LawKit.callS X555 hx (y := (⟨"java/lang/Math", "min", "(II)I"⟩ : MethodName)) hown (mvT hZ (hw _ (List.mem_of_getElem? (i := 33) rfl))) (mvT hZ (hw _ (List.mem_of_getElem? (i := 34) rfl))) (mvT hZ (hw _ (List.mem_of_getElem? (i := 31) rfl))) (mvT hZ (hw _ (List.mem_of_getElem? (i := 35) rfl))) (by decide) (backOf (W := 0) (rm6 l Z a0 hw [] n (F5 (0 : Int32) cap)  T367.heap n0 Z376 ) hZ (hw _ (List.mem_of_getElem? (i := 35) rfl)) (hw _ (List.mem_of_getElem? (i := 31) rfl)) (by decide) (by decide)) (g := (mkF m 150 #[.val (.int x0), .val (.int x1), .val (.int x2), .val (.int x3), .val (.int x4), .val (.int cap), .val (.int n), .val (.ref b6), .val (.ref b14), .val (.ref b25), .val (.ref b110), .unset, .unset, .unset, .unset, .unset] [(.int (F5 (0 : Int32) cap)), (.int n)])) rfl (by rw [hml]; rfl) (argsL := [(.int n), (.int (F5 (0 : Int32) cap))]) (rest := []) (lenOf pd_2 rfl) rfl (by show 2 * 0 + _ ≤ _; exact Nat.le_of_eq rfl) (hb hby at_150) (fun _ _ => ⟨rfl, hh555, (by decide : 4 + 0 ≤ _), (by decide : 60 + 0 ≤ _)⟩)
              dsimp only [Pt.U, Pt.locs, Pt.cells, Pt.slots] at X557 l557 y557 z557 sr557 hQ557
              subst l557 y557 z557
              obtain ⟨rfl, N557q, hh557⟩ := hQ557
              have N557 := Fr.app N555 N557q
              obtain ⟨LL557, X557, N557⟩ := own_hide X557 N557
              have st558 : Steps p.tables e below sE (T557.setTop (mkF m 153 #[.val (.int x0), .val (.int x1), .val (.int x2), .val (.int x3), .val (.int x4), .val (.int cap), .val (.int n), .val (.ref b6), .val (.ref b14), .val (.ref b25), .val (.ref b110), .unset, .unset, .unset, .unset, .unset] [(.int (F6 n (F5 (0 : Int32) cap)))])) := st556.trans (sr557 _ (Steps.refl _))
              have hs0 := own_lti hc254 (z := 0) (by decide)
              have hs1 := own_lti hc366 (z := 1) (by decide)
              have hs2 := own_nlti hc465 (z := 2) (by decide)
              have hm1 := own_nltr hc139 (z := 1) (by decide)
              have hm2 := own_nltr hc267 (z := 2) (by decide)
              have hm3 := own_nltr hc379 (z := 3) (by decide)
              have hk2 : (2 : Int32).toInt = 2 := by decide
              have hkp : (F6 n (F5 (0 : Int32) cap)) = (2 : Int32) := own_kp n cap (2 : Int32) (by omega)
              rw [hkp] at st558
              have st559 : Steps p.tables e below sE (T557.setTop (mkF m 157 #[.val (.int x0), .val (.int x1), .val (.int x2), .val (.int x3), .val (.int x4), .val (.int cap), .val (.int n), .val (.ref b6), .val (.ref b14), .val (.ref b25), .val (.ref b110), .val (.int (2 : Int32)), .unset, .unset, .unset, .unset] [(.ref b110)])) := st558.trans (by
                  show Steps _ _ _ (T557.setTop (mkF m 153 #[.val (.int x0), .val (.int x1), .val (.int x2), .val (.int x3), .val (.int x4), .val (.int cap), .val (.int n), .val (.ref b6), .val (.ref b14), .val (.ref b25), .val (.ref b110), .unset, .unset, .unset, .unset, .unset] [(.int (2 : Int32))])) _
                  refine XS.istore X557.here hx rfl (hb hby at_153) rfl (l' := #[.val (.int x0), .val (.int x1), .val (.int x2), .val (.int x3), .val (.int x4), .val (.int cap), .val (.int n), .val (.ref b6), .val (.ref b14), .val (.ref b25), .val (.ref b110), .val (.int (2 : Int32)), .unset, .unset, .unset, .unset]) rfl ?_
                  show Steps _ _ _ (T557.setTop (mkF m 155 #[.val (.int x0), .val (.int x1), .val (.int x2), .val (.int x3), .val (.int x4), .val (.int cap), .val (.int n), .val (.ref b6), .val (.ref b14), .val (.ref b25), .val (.ref b110), .val (.int (2 : Int32)), .unset, .unset, .unset, .unset] [])) _
                  refine XS.aload X557.here hx rfl (hb hby at_155) rfl rfl ?_
                  exact Steps.refl _)
              obtain ⟨cq560, kq560, q560a, q560b, q560c⟩ := isOf hZ hh557 f367_0
              obtain ⟨_, _, ⟨T560, L560, k560, n560⟩, -, X560, ⟨Lc560, hQ560, l560, y560, z560⟩, sr560⟩ := X557.virtualBack hx (y := (⟨"com/example/tideloop/tideloop/MessagePool", "take", "()Lcom/example/tideloop/tideloop/Message;"⟩ : MethodName)) (z := (⟨"com/example/tideloop/tideloop/MessagePool", "take", "()Lcom/example/tideloop/tideloop/Message;"⟩ : MethodName)) hown (mvT hZ (hw _ (List.mem_of_getElem? (i := 36) rfl))) (mvT hZ (hw _ (List.mem_of_getElem? (i := 37) rfl))) (notFace_of_selects (args := #[]) (mvT hZ (hw _ (List.mem_of_getElem? (i := 39) rfl)))) (mvT hZ (hw _ (List.mem_of_getElem? (i := 39) rfl))) (mvT hZ (hw _ (List.mem_of_getElem? (i := 38) rfl))) (by decide) (backOf (W := 0) (rmtk2 l Z a0 hw [] b110 (((0 : Int32) + (1 : Int32)) + (1 : Int32)) cap x3 b14 b6 T367.heap n0 Z376 f367_0 f367_1 f367_2 f367_3 f367_4 f367_5 g_b110 g_b14 ne_b14_b110 f367_6) hZ (hw _ (List.mem_of_getElem? (i := 40) rfl)) (hw _ (List.mem_of_getElem? (i := 15) rfl)) (by decide) (by decide)) q560a q560c (g := (mkF m 157 #[.val (.int x0), .val (.int x1), .val (.int x2), .val (.int x3), .val (.int x4), .val (.int cap), .val (.int n), .val (.ref b6), .val (.ref b14), .val (.ref b25), .val (.ref b110), .val (.int (2 : Int32)), .unset, .unset, .unset, .unset] [(.ref b110)])) rfl (by rw [hml]; rfl) (Steps.refl _) (argsL := []) (rest := []) (lenOf pd_3 rfl) rfl (by show 2 * 0 + _ ≤ _; exact Nat.le_of_eq rfl) (hb hby at_157) (fun _ _ => ⟨rfl, hh557, (by decide : 4 + 0 ≤ _), (by decide : 60 + 0 ≤ _)⟩)
              dsimp only [Pt.U, Pt.locs, Pt.cells, Pt.slots] at X560 l560 y560 z560 sr560 hQ560
              subst l560 y560 z560
              obtain ⟨rfl, N560q, K560c, f560_0, f560_1, f560_2, f560_3, f560_4, f560_5, f560_6⟩ := hQ560
              have N560 := Fr.app N557 N560q
              obtain ⟨LL560, X560, N560⟩ := own_hide X560 N560
              have f561 : Exa Z T560.heap b6 "com/example/tideloop/tideloop/Message" := f368.keep K560c
              have f562 : Exa Z T560.heap b14 "com/example/tideloop/tideloop/Message" := f367_4.keep K560c
              have f563 : Exa Z T560.heap b25 "com/example/tideloop/tideloop/Message" := f370.keep K560c
              have f564 : Fld Z T560.heap b25 "com/example/tideloop/tideloop/Message" "what" "I" (.int x4) := f371.keep K560c (ninS ne_b25_b110 (ninS (Ne.symm ne_b14_b25) nin0))
              have f565 : Fld Z T560.heap b25 "com/example/tideloop/tideloop/Message" "nextPooled" "Lcom/example/tideloop/tideloop/Message;" (.ref b14) := f372.keep K560c (ninS ne_b25_b110 (ninS (Ne.symm ne_b14_b25) nin0))
              have f566 : Exa Z T560.heap b110 "com/example/tideloop/tideloop/MessagePool" := f367_0.keep K560c
              have f567 : Fld Z T560.heap b6 "com/example/tideloop/tideloop/Message" "what" "I" (.int x2) := f374.keep K560c (ninS ne_b6_b110 (ninS ne_b6_b14 nin0))
              have f568 : Fld Z T560.heap b6 "com/example/tideloop/tideloop/Message" "nextPooled" "Lcom/example/tideloop/tideloop/Message;" .null := f375.keep K560c (ninS ne_b6_b110 (ninS ne_b6_b14 nin0))
              have Z569 : n0 ≤ T560.heap.size := Nat.le_trans Z376 K560c.1
              have st570 : Steps p.tables e below sE (T560.setTop (mkF m 160 #[.val (.int x0), .val (.int x1), .val (.int x2), .val (.int x3), .val (.int x4), .val (.int cap), .val (.int n), .val (.ref b6), .val (.ref b14), .val (.ref b25), .val (.ref b110), .val (.int (2 : Int32)), .unset, .unset, .unset, .unset] [(.ref b14)])) := st559.trans (sr560)
              have st571 : Steps p.tables e below sE (T560.setTop (mkF m 164 #[.val (.int x0), .val (.int x1), .val (.int x2), .val (.int x3), .val (.int x4), .val (.int cap), .val (.int n), .val (.ref b6), .val (.ref b14), .val (.ref b25), .val (.ref b110), .val (.int (2 : Int32)), .val (.ref b14), .unset, .unset, .unset] [(.ref b110)])) := st570.trans (by
                  show Steps _ _ _ (T560.setTop (mkF m 160 #[.val (.int x0), .val (.int x1), .val (.int x2), .val (.int x3), .val (.int x4), .val (.int cap), .val (.int n), .val (.ref b6), .val (.ref b14), .val (.ref b25), .val (.ref b110), .val (.int (2 : Int32)), .unset, .unset, .unset, .unset] [(.ref b14)])) _
                  refine XS.astore X560.here hx rfl (hb hby at_160) rfl rfl (l' := #[.val (.int x0), .val (.int x1), .val (.int x2), .val (.int x3), .val (.int x4), .val (.int cap), .val (.int n), .val (.ref b6), .val (.ref b14), .val (.ref b25), .val (.ref b110), .val (.int (2 : Int32)), .val (.ref b14), .unset, .unset, .unset]) rfl ?_
                  show Steps _ _ _ (T560.setTop (mkF m 162 #[.val (.int x0), .val (.int x1), .val (.int x2), .val (.int x3), .val (.int x4), .val (.int cap), .val (.int n), .val (.ref b6), .val (.ref b14), .val (.ref b25), .val (.ref b110), .val (.int (2 : Int32)), .val (.ref b14), .unset, .unset, .unset] [])) _
                  refine XS.aload X560.here hx rfl (hb hby at_162) rfl rfl ?_
                  exact Steps.refl _)
              obtain ⟨cq572, kq572, q572a, q572b, q572c⟩ := isOf hZ rfl f560_0
              obtain ⟨_, _, ⟨T572, L572, k572, n572⟩, -, X572, ⟨Lc572, hQ572, l572, y572, z572⟩, sr572⟩ := X560.virtualBack hx (y := (⟨"com/example/tideloop/tideloop/MessagePool", "take", "()Lcom/example/tideloop/tideloop/Message;"⟩ : MethodName)) (z := (⟨"com/example/tideloop/tideloop/MessagePool", "take", "()Lcom/example/tideloop/tideloop/Message;"⟩ : MethodName)) hown (mvT hZ (hw _ (List.mem_of_getElem? (i := 36) rfl))) (mvT hZ (hw _ (List.mem_of_getElem? (i := 37) rfl))) (notFace_of_selects (args := #[]) (mvT hZ (hw _ (List.mem_of_getElem? (i := 39) rfl)))) (mvT hZ (hw _ (List.mem_of_getElem? (i := 39) rfl))) (mvT hZ (hw _ (List.mem_of_getElem? (i := 38) rfl))) (by decide) (backOf (W := 0) (rmtk1 l Z a0 hw [] b110 ((((0 : Int32) + (1 : Int32)) + (1 : Int32)) - (1 : Int32)) cap x2 b6 T560.heap n0 Z569 f560_0 f560_1 f560_2 f560_3 f561 f567 g_b110 g_b6 ne_b6_b110 f568) hZ (hw _ (List.mem_of_getElem? (i := 40) rfl)) (hw _ (List.mem_of_getElem? (i := 15) rfl)) (by decide) (by decide)) q572a q572c (g := (mkF m 164 #[.val (.int x0), .val (.int x1), .val (.int x2), .val (.int x3), .val (.int x4), .val (.int cap), .val (.int n), .val (.ref b6), .val (.ref b14), .val (.ref b25), .val (.ref b110), .val (.int (2 : Int32)), .val (.ref b14), .unset, .unset, .unset] [(.ref b110)])) rfl (by rw [hml]; rfl) (Steps.refl _) (argsL := []) (rest := []) (lenOf pd_3 rfl) rfl (by show 2 * 0 + _ ≤ _; exact Nat.le_of_eq rfl) (hb hby at_164) (fun _ _ => ⟨rfl, rfl, (by decide : 4 + 0 ≤ _), (by decide : 60 + 0 ≤ _)⟩)
              dsimp only [Pt.U, Pt.locs, Pt.cells, Pt.slots] at X572 l572 y572 z572 sr572 hQ572
              subst l572 y572 z572
              obtain ⟨rfl, N572q, K572c, f572_0, f572_1, f572_2, f572_3, f572_4, f572_5, f572_6⟩ := hQ572
              have N572 := Fr.app N560 N572q
              obtain ⟨LL572, X572, N572⟩ := own_hide X572 N572
              have f573 : Exa Z T572.heap b6 "com/example/tideloop/tideloop/Message" := f561.keep K572c
              have f574 : Exa Z T572.heap b14 "com/example/tideloop/tideloop/Message" := f560_4.keep K572c
              have f575 : Exa Z T572.heap b25 "com/example/tideloop/tideloop/Message" := f563.keep K572c
              have f576 : Fld Z T572.heap b25 "com/example/tideloop/tideloop/Message" "what" "I" (.int x4) := f564.keep K572c (ninS ne_b25_b110 (ninS (Ne.symm ne_b6_b25) nin0))
              have f577 : Fld Z T572.heap b25 "com/example/tideloop/tideloop/Message" "nextPooled" "Lcom/example/tideloop/tideloop/Message;" (.ref b14) := f565.keep K572c (ninS ne_b25_b110 (ninS (Ne.symm ne_b6_b25) nin0))
              have f578 : Exa Z T572.heap b110 "com/example/tideloop/tideloop/MessagePool" := f560_0.keep K572c
              have f579 : Fld Z T572.heap b14 "com/example/tideloop/tideloop/Message" "what" "I" (.int x3) := f560_5.keep K572c (ninS ne_b14_b110 (ninS (Ne.symm ne_b6_b14) nin0))
              have f580 : Fld Z T572.heap b14 "com/example/tideloop/tideloop/Message" "nextPooled" "Lcom/example/tideloop/tideloop/Message;" .null := f560_6.keep K572c (ninS ne_b14_b110 (ninS (Ne.symm ne_b6_b14) nin0))
              have Z581 : n0 ≤ T572.heap.size := Nat.le_trans Z569 K572c.1
              have st582 : Steps p.tables e below sE (T572.setTop (mkF m 167 #[.val (.int x0), .val (.int x1), .val (.int x2), .val (.int x3), .val (.int x4), .val (.int cap), .val (.int n), .val (.ref b6), .val (.ref b14), .val (.ref b25), .val (.ref b110), .val (.int (2 : Int32)), .val (.ref b14), .unset, .unset, .unset] [(.ref b6)])) := st571.trans (sr572)
              have st583 : Steps p.tables e below sE (T572.setTop (mkF m 171 #[.val (.int x0), .val (.int x1), .val (.int x2), .val (.int x3), .val (.int x4), .val (.int cap), .val (.int n), .val (.ref b6), .val (.ref b14), .val (.ref b25), .val (.ref b110), .val (.int (2 : Int32)), .val (.ref b14), .val (.ref b6), .unset, .unset] [(.ref b110)])) := st582.trans (by
                  show Steps _ _ _ (T572.setTop (mkF m 167 #[.val (.int x0), .val (.int x1), .val (.int x2), .val (.int x3), .val (.int x4), .val (.int cap), .val (.int n), .val (.ref b6), .val (.ref b14), .val (.ref b25), .val (.ref b110), .val (.int (2 : Int32)), .val (.ref b14), .unset, .unset, .unset] [(.ref b6)])) _
                  refine XS.astore X572.here hx rfl (hb hby at_167) rfl rfl (l' := #[.val (.int x0), .val (.int x1), .val (.int x2), .val (.int x3), .val (.int x4), .val (.int cap), .val (.int n), .val (.ref b6), .val (.ref b14), .val (.ref b25), .val (.ref b110), .val (.int (2 : Int32)), .val (.ref b14), .val (.ref b6), .unset, .unset]) rfl ?_
                  show Steps _ _ _ (T572.setTop (mkF m 169 #[.val (.int x0), .val (.int x1), .val (.int x2), .val (.int x3), .val (.int x4), .val (.int cap), .val (.int n), .val (.ref b6), .val (.ref b14), .val (.ref b25), .val (.ref b110), .val (.int (2 : Int32)), .val (.ref b14), .val (.ref b6), .unset, .unset] [])) _
                  refine XS.aload X572.here hx rfl (hb hby at_169) rfl rfl ?_
                  exact Steps.refl _)
              obtain ⟨cq584, kq584, q584a, q584b, q584c⟩ := isOf hZ rfl f572_0
              obtain ⟨_, _, ⟨T584, L584, k584, n584⟩, -, X584, ⟨Lc584, hQ584, l584, y584, z584⟩, sr584⟩ := X572.virtualBack hx (y := (⟨"com/example/tideloop/tideloop/MessagePool", "take", "()Lcom/example/tideloop/tideloop/Message;"⟩ : MethodName)) (z := (⟨"com/example/tideloop/tideloop/MessagePool", "take", "()Lcom/example/tideloop/tideloop/Message;"⟩ : MethodName)) hown (mvT hZ (hw _ (List.mem_of_getElem? (i := 36) rfl))) (mvT hZ (hw _ (List.mem_of_getElem? (i := 37) rfl))) (notFace_of_selects (args := #[]) (mvT hZ (hw _ (List.mem_of_getElem? (i := 39) rfl)))) (mvT hZ (hw _ (List.mem_of_getElem? (i := 39) rfl))) (mvT hZ (hw _ (List.mem_of_getElem? (i := 38) rfl))) (by decide) (backOf (W := 0) (rmtk0 l Z a0 hw [] b110  T572.heap n0 Z581 f572_0 f572_3) hZ (hw _ (List.mem_of_getElem? (i := 40) rfl)) (hw _ (List.mem_of_getElem? (i := 15) rfl)) (by decide) (by decide)) q584a q584c (g := (mkF m 171 #[.val (.int x0), .val (.int x1), .val (.int x2), .val (.int x3), .val (.int x4), .val (.int cap), .val (.int n), .val (.ref b6), .val (.ref b14), .val (.ref b25), .val (.ref b110), .val (.int (2 : Int32)), .val (.ref b14), .val (.ref b6), .unset, .unset] [(.ref b110)])) rfl (by rw [hml]; rfl) (Steps.refl _) (argsL := []) (rest := []) (lenOf pd_3 rfl) rfl (by show 2 * 0 + _ ≤ _; exact Nat.le_of_eq rfl) (hb hby at_171) (fun _ _ => ⟨rfl, rfl, (by decide : 4 + 1 ≤ _), (by decide : 60 + 19 ≤ _)⟩)
              dsimp only [Pt.U, Pt.locs, Pt.cells, Pt.slots] at X584 l584 y584 z584 sr584 hQ584
              subst l584 y584 z584
              obtain ⟨rfl, N584q, K584c, ⟨qe584, qn584, qw584⟩⟩ := hQ584
              have N584 := Fr.app N572 N584q
              obtain ⟨LL584, X584, N584⟩ := own_hide X584 N584
              have f585 : Exa Z T584.heap b6 "com/example/tideloop/tideloop/Message" := f572_4.keep K584c
              have f586 : Exa Z T584.heap b14 "com/example/tideloop/tideloop/Message" := f574.keep K584c
              have f587 : Exa Z T584.heap b25 "com/example/tideloop/tideloop/Message" := f575.keep K584c
              have f588 : Fld Z T584.heap b25 "com/example/tideloop/tideloop/Message" "what" "I" (.int x4) := f576.keep K584c nin0
              have f589 : Fld Z T584.heap b25 "com/example/tideloop/tideloop/Message" "nextPooled" "Lcom/example/tideloop/tideloop/Message;" (.ref b14) := f577.keep K584c nin0
              have f590 : Exa Z T584.heap b110 "com/example/tideloop/tideloop/MessagePool" := f572_0.keep K584c
              have f591 : Fld Z T584.heap b14 "com/example/tideloop/tideloop/Message" "what" "I" (.int x3) := f579.keep K584c nin0
              have f592 : Fld Z T584.heap b14 "com/example/tideloop/tideloop/Message" "nextPooled" "Lcom/example/tideloop/tideloop/Message;" .null := f580.keep K584c nin0
              have f593 : Fld Z T584.heap b110 "com/example/tideloop/tideloop/MessagePool" "size" "I" (.int (((((0 : Int32) + (1 : Int32)) + (1 : Int32)) - (1 : Int32)) - (1 : Int32))) := f572_1.keep K584c nin0
              have f594 : Fld Z T584.heap b110 "com/example/tideloop/tideloop/MessagePool" "capacity" "I" (.int cap) := f572_2.keep K584c nin0
              have f595 : Fld Z T584.heap b110 "com/example/tideloop/tideloop/MessagePool" "head" "Lcom/example/tideloop/tideloop/Message;" .null := f572_3.keep K584c nin0
              have f596 : Fld Z T584.heap b6 "com/example/tideloop/tideloop/Message" "what" "I" (.int x2) := f572_5.keep K584c nin0
              have f597 : Fld Z T584.heap b6 "com/example/tideloop/tideloop/Message" "nextPooled" "Lcom/example/tideloop/tideloop/Message;" .null := f572_6.keep K584c nin0
              have Z598 : n0 ≤ T584.heap.size := Nat.le_trans Z581 K584c.1
              obtain ⟨bt584, g584⟩ : ∃ z, z = T572.heap.size := ⟨_, rfl⟩
              rw [← g584] at qe584 qn584 qw584 sr584
              have g_bt584 : n0 ≤ bt584 := Nat.le_trans Z581 (Nat.le_of_eq g584.symm)
              have ne_b6_bt584 : b6 ≠ bt584 := Nat.ne_of_lt (Nat.lt_of_lt_of_le f572_4.lt (Nat.le_of_eq g584.symm))
              have ne_b14_bt584 : b14 ≠ bt584 := Nat.ne_of_lt (Nat.lt_of_lt_of_le f574.lt (Nat.le_of_eq g584.symm))
              have ne_b25_bt584 : b25 ≠ bt584 := Nat.ne_of_lt (Nat.lt_of_lt_of_le f575.lt (Nat.le_of_eq g584.symm))
              have ne_b110_bt584 : b110 ≠ bt584 := Nat.ne_of_lt (Nat.lt_of_lt_of_le f572_0.lt (Nat.le_of_eq g584.symm))
              have st599 : Steps p.tables e below sE (T584.setTop (mkF m 174 #[.val (.int x0), .val (.int x1), .val (.int x2), .val (.int x3), .val (.int x4), .val (.int cap), .val (.int n), .val (.ref b6), .val (.ref b14), .val (.ref b25), .val (.ref b110), .val (.int (2 : Int32)), .val (.ref b14), .val (.ref b6), .unset, .unset] [(.ref bt584)])) := st583.trans (sr584)
              have st600 : Steps p.tables e below sE (T584.setTop (mkF m 178 #[.val (.int x0), .val (.int x1), .val (.int x2), .val (.int x3), .val (.int x4), .val (.int cap), .val (.int n), .val (.ref b6), .val (.ref b14), .val (.ref b25), .val (.ref b110), .val (.int (2 : Int32)), .val (.ref b14), .val (.ref b6), .val (.ref bt584), .unset] [(.ref b110)])) := st599.trans (by
                  show Steps _ _ _ (T584.setTop (mkF m 174 #[.val (.int x0), .val (.int x1), .val (.int x2), .val (.int x3), .val (.int x4), .val (.int cap), .val (.int n), .val (.ref b6), .val (.ref b14), .val (.ref b25), .val (.ref b110), .val (.int (2 : Int32)), .val (.ref b14), .val (.ref b6), .unset, .unset] [(.ref bt584)])) _
                  refine XS.astore X584.here hx rfl (hb hby at_174) rfl rfl (l' := #[.val (.int x0), .val (.int x1), .val (.int x2), .val (.int x3), .val (.int x4), .val (.int cap), .val (.int n), .val (.ref b6), .val (.ref b14), .val (.ref b25), .val (.ref b110), .val (.int (2 : Int32)), .val (.ref b14), .val (.ref b6), .val (.ref bt584), .unset]) rfl ?_
                  show Steps _ _ _ (T584.setTop (mkF m 176 #[.val (.int x0), .val (.int x1), .val (.int x2), .val (.int x3), .val (.int x4), .val (.int cap), .val (.int n), .val (.ref b6), .val (.ref b14), .val (.ref b25), .val (.ref b110), .val (.int (2 : Int32)), .val (.ref b14), .val (.ref b6), .val (.ref bt584), .unset] [])) _
                  refine XS.aload X584.here hx rfl (hb hby at_176) rfl rfl ?_
                  exact Steps.refl _)
              obtain ⟨cq601, kq601, q601a, q601b, q601c⟩ := isOf hZ rfl f590
              obtain ⟨_, _, ⟨T601, L601, k601, n601⟩, -, X601, ⟨Lc601, hQ601, l601, y601, z601⟩, sr601⟩ := X584.virtualBack hx (y := (⟨"com/example/tideloop/tideloop/MessagePool", "take", "()Lcom/example/tideloop/tideloop/Message;"⟩ : MethodName)) (z := (⟨"com/example/tideloop/tideloop/MessagePool", "take", "()Lcom/example/tideloop/tideloop/Message;"⟩ : MethodName)) hown (mvT hZ (hw _ (List.mem_of_getElem? (i := 36) rfl))) (mvT hZ (hw _ (List.mem_of_getElem? (i := 37) rfl))) (notFace_of_selects (args := #[]) (mvT hZ (hw _ (List.mem_of_getElem? (i := 39) rfl)))) (mvT hZ (hw _ (List.mem_of_getElem? (i := 39) rfl))) (mvT hZ (hw _ (List.mem_of_getElem? (i := 38) rfl))) (by decide) (backOf (W := 0) (rmtk0 l Z a0 hw [] b110  T584.heap n0 Z598 f590 f595) hZ (hw _ (List.mem_of_getElem? (i := 40) rfl)) (hw _ (List.mem_of_getElem? (i := 15) rfl)) (by decide) (by decide)) q601a q601c (g := (mkF m 178 #[.val (.int x0), .val (.int x1), .val (.int x2), .val (.int x3), .val (.int x4), .val (.int cap), .val (.int n), .val (.ref b6), .val (.ref b14), .val (.ref b25), .val (.ref b110), .val (.int (2 : Int32)), .val (.ref b14), .val (.ref b6), .val (.ref bt584), .unset] [(.ref b110)])) rfl (by rw [hml]; rfl) (Steps.refl _) (argsL := []) (rest := []) (lenOf pd_3 rfl) rfl (by show 2 * 0 + _ ≤ _; exact Nat.le_of_eq rfl) (hb hby at_178) (fun _ _ => ⟨rfl, rfl, (by decide : 5 + 1 ≤ _), (by decide : 79 + 19 ≤ _)⟩)
              dsimp only [Pt.U, Pt.locs, Pt.cells, Pt.slots] at X601 l601 y601 z601 sr601 hQ601
              subst l601 y601 z601
              obtain ⟨rfl, N601q, K601c, ⟨qe601, qn601, qw601⟩⟩ := hQ601
              have N601 := Fr.app N584 N601q
              obtain ⟨LL601, X601, N601⟩ := own_hide X601 N601
              have f602 : Exa Z T601.heap b6 "com/example/tideloop/tideloop/Message" := f585.keep K601c
              have f603 : Exa Z T601.heap b14 "com/example/tideloop/tideloop/Message" := f586.keep K601c
              have f604 : Exa Z T601.heap b25 "com/example/tideloop/tideloop/Message" := f587.keep K601c
              have f605 : Fld Z T601.heap b25 "com/example/tideloop/tideloop/Message" "what" "I" (.int x4) := f588.keep K601c nin0
              have f606 : Fld Z T601.heap b25 "com/example/tideloop/tideloop/Message" "nextPooled" "Lcom/example/tideloop/tideloop/Message;" (.ref b14) := f589.keep K601c nin0
              have f607 : Exa Z T601.heap b110 "com/example/tideloop/tideloop/MessagePool" := f590.keep K601c
              have f608 : Fld Z T601.heap b14 "com/example/tideloop/tideloop/Message" "what" "I" (.int x3) := f591.keep K601c nin0
              have f609 : Fld Z T601.heap b14 "com/example/tideloop/tideloop/Message" "nextPooled" "Lcom/example/tideloop/tideloop/Message;" .null := f592.keep K601c nin0
              have f610 : Fld Z T601.heap b110 "com/example/tideloop/tideloop/MessagePool" "size" "I" (.int (((((0 : Int32) + (1 : Int32)) + (1 : Int32)) - (1 : Int32)) - (1 : Int32))) := f593.keep K601c nin0
              have f611 : Fld Z T601.heap b110 "com/example/tideloop/tideloop/MessagePool" "capacity" "I" (.int cap) := f594.keep K601c nin0
              have f612 : Fld Z T601.heap b110 "com/example/tideloop/tideloop/MessagePool" "head" "Lcom/example/tideloop/tideloop/Message;" .null := f595.keep K601c nin0
              have f613 : Fld Z T601.heap b6 "com/example/tideloop/tideloop/Message" "what" "I" (.int x2) := f596.keep K601c nin0
              have f614 : Fld Z T601.heap b6 "com/example/tideloop/tideloop/Message" "nextPooled" "Lcom/example/tideloop/tideloop/Message;" .null := f597.keep K601c nin0
              have f615 : Exa Z T601.heap bt584 "com/example/tideloop/tideloop/Message" := qe584.keep K601c
              have f616 : Fld Z T601.heap bt584 "com/example/tideloop/tideloop/Message" "nextPooled" "Lcom/example/tideloop/tideloop/Message;" .null := qn584.keep K601c nin0
              have f617 : Fld Z T601.heap bt584 "com/example/tideloop/tideloop/Message" "what" "I" (.int (0 : Int32)) := qw584.keep K601c nin0
              have Z618 : n0 ≤ T601.heap.size := Nat.le_trans Z598 K601c.1
              obtain ⟨bt601, g601⟩ : ∃ z, z = T584.heap.size := ⟨_, rfl⟩
              rw [← g601] at qe601 qn601 qw601 sr601
              have g_bt601 : n0 ≤ bt601 := Nat.le_trans Z598 (Nat.le_of_eq g601.symm)
              have ne_b6_bt601 : b6 ≠ bt601 := Nat.ne_of_lt (Nat.lt_of_lt_of_le f585.lt (Nat.le_of_eq g601.symm))
              have ne_b14_bt601 : b14 ≠ bt601 := Nat.ne_of_lt (Nat.lt_of_lt_of_le f586.lt (Nat.le_of_eq g601.symm))
              have ne_b25_bt601 : b25 ≠ bt601 := Nat.ne_of_lt (Nat.lt_of_lt_of_le f587.lt (Nat.le_of_eq g601.symm))
              have ne_b110_bt601 : b110 ≠ bt601 := Nat.ne_of_lt (Nat.lt_of_lt_of_le f590.lt (Nat.le_of_eq g601.symm))
              have ne_bt584_bt601 : bt584 ≠ bt601 := Nat.ne_of_lt (Nat.lt_of_lt_of_le qe584.lt (Nat.le_of_eq g601.symm))
              have st619 : Steps p.tables e below sE (T601.setTop (mkF m 181 #[.val (.int x0), .val (.int x1), .val (.int x2), .val (.int x3), .val (.int x4), .val (.int cap), .val (.int n), .val (.ref b6), .val (.ref b14), .val (.ref b25), .val (.ref b110), .val (.int (2 : Int32)), .val (.ref b14), .val (.ref b6), .val (.ref bt584), .unset] [(.ref bt601)])) := st600.trans (sr601)
              have st620 : Steps p.tables e below sE (T601.setTop (mkF m 198 #[.val (.int x0), .val (.int x1), .val (.int x2), .val (.int x3), .val (.int x4), .val (.int cap), .val (.int n), .val (.ref b6), .val (.ref b14), .val (.ref b25), .val (.ref b110), .val (.int (2 : Int32)), .val (.ref b14), .val (.ref b6), .val (.ref bt584), .val (.ref bt601)] [(.int x4), (.int x3), (.int x2), (.ref b25), (.ref b14), (.ref b6), (.int (2 : Int32)), (.int (1 : Int32)), (.ref b14)])) := st619.trans (by
                  show Steps _ _ _ (T601.setTop (mkF m 181 #[.val (.int x0), .val (.int x1), .val (.int x2), .val (.int x3), .val (.int x4), .val (.int cap), .val (.int n), .val (.ref b6), .val (.ref b14), .val (.ref b25), .val (.ref b110), .val (.int (2 : Int32)), .val (.ref b14), .val (.ref b6), .val (.ref bt584), .unset] [(.ref bt601)])) _
                  refine XS.astore X601.here hx rfl (hb hby at_181) rfl rfl (l' := #[.val (.int x0), .val (.int x1), .val (.int x2), .val (.int x3), .val (.int x4), .val (.int cap), .val (.int n), .val (.ref b6), .val (.ref b14), .val (.ref b25), .val (.ref b110), .val (.int (2 : Int32)), .val (.ref b14), .val (.ref b6), .val (.ref bt584), .val (.ref bt601)]) rfl ?_
                  show Steps _ _ _ (T601.setTop (mkF m 183 #[.val (.int x0), .val (.int x1), .val (.int x2), .val (.int x3), .val (.int x4), .val (.int cap), .val (.int n), .val (.ref b6), .val (.ref b14), .val (.ref b25), .val (.ref b110), .val (.int (2 : Int32)), .val (.ref b14), .val (.ref b6), .val (.ref bt584), .val (.ref bt601)] [])) _
                  refine XS.aload X601.here hx rfl (hb hby at_183) rfl rfl ?_
                  show Steps _ _ _ (T601.setTop (mkF m 185 #[.val (.int x0), .val (.int x1), .val (.int x2), .val (.int x3), .val (.int x4), .val (.int cap), .val (.int n), .val (.ref b6), .val (.ref b14), .val (.ref b25), .val (.ref b110), .val (.int (2 : Int32)), .val (.ref b14), .val (.ref b6), .val (.ref bt584), .val (.ref bt601)] [(.ref b14)])) _
                  refine XS.iconst X601.here hx rfl (hb hby at_185) ?_
                  show Steps _ _ _ (T601.setTop (mkF m 186 #[.val (.int x0), .val (.int x1), .val (.int x2), .val (.int x3), .val (.int x4), .val (.int cap), .val (.int n), .val (.ref b6), .val (.ref b14), .val (.ref b25), .val (.ref b110), .val (.int (2 : Int32)), .val (.ref b14), .val (.ref b6), .val (.ref bt584), .val (.ref bt601)] [(.int (1 : Int32)), (.ref b14)])) _
                  refine XS.iload X601.here hx rfl (hb hby at_186) rfl ?_
                  show Steps _ _ _ (T601.setTop (mkF m 188 #[.val (.int x0), .val (.int x1), .val (.int x2), .val (.int x3), .val (.int x4), .val (.int cap), .val (.int n), .val (.ref b6), .val (.ref b14), .val (.ref b25), .val (.ref b110), .val (.int (2 : Int32)), .val (.ref b14), .val (.ref b6), .val (.ref bt584), .val (.ref bt601)] [(.int (2 : Int32)), (.int (1 : Int32)), (.ref b14)])) _
                  refine XS.aload X601.here hx rfl (hb hby at_188) rfl rfl ?_
                  show Steps _ _ _ (T601.setTop (mkF m 190 #[.val (.int x0), .val (.int x1), .val (.int x2), .val (.int x3), .val (.int x4), .val (.int cap), .val (.int n), .val (.ref b6), .val (.ref b14), .val (.ref b25), .val (.ref b110), .val (.int (2 : Int32)), .val (.ref b14), .val (.ref b6), .val (.ref bt584), .val (.ref bt601)] [(.ref b6), (.int (2 : Int32)), (.int (1 : Int32)), (.ref b14)])) _
                  refine XS.aload X601.here hx rfl (hb hby at_190) rfl rfl ?_
                  show Steps _ _ _ (T601.setTop (mkF m 192 #[.val (.int x0), .val (.int x1), .val (.int x2), .val (.int x3), .val (.int x4), .val (.int cap), .val (.int n), .val (.ref b6), .val (.ref b14), .val (.ref b25), .val (.ref b110), .val (.int (2 : Int32)), .val (.ref b14), .val (.ref b6), .val (.ref bt584), .val (.ref bt601)] [(.ref b14), (.ref b6), (.int (2 : Int32)), (.int (1 : Int32)), (.ref b14)])) _
                  refine XS.aload X601.here hx rfl (hb hby at_192) rfl rfl ?_
                  show Steps _ _ _ (T601.setTop (mkF m 194 #[.val (.int x0), .val (.int x1), .val (.int x2), .val (.int x3), .val (.int x4), .val (.int cap), .val (.int n), .val (.ref b6), .val (.ref b14), .val (.ref b25), .val (.ref b110), .val (.int (2 : Int32)), .val (.ref b14), .val (.ref b6), .val (.ref bt584), .val (.ref bt601)] [(.ref b25), (.ref b14), (.ref b6), (.int (2 : Int32)), (.int (1 : Int32)), (.ref b14)])) _
                  refine XS.iloadN X601.here hx rfl (hb hby at_194) rfl ?_
                  show Steps _ _ _ (T601.setTop (mkF m 195 #[.val (.int x0), .val (.int x1), .val (.int x2), .val (.int x3), .val (.int x4), .val (.int cap), .val (.int n), .val (.ref b6), .val (.ref b14), .val (.ref b25), .val (.ref b110), .val (.int (2 : Int32)), .val (.ref b14), .val (.ref b6), .val (.ref bt584), .val (.ref bt601)] [(.int x2), (.ref b25), (.ref b14), (.ref b6), (.int (2 : Int32)), (.int (1 : Int32)), (.ref b14)])) _
                  refine XS.iloadN X601.here hx rfl (hb hby at_195) rfl ?_
                  show Steps _ _ _ (T601.setTop (mkF m 196 #[.val (.int x0), .val (.int x1), .val (.int x2), .val (.int x3), .val (.int x4), .val (.int cap), .val (.int n), .val (.ref b6), .val (.ref b14), .val (.ref b25), .val (.ref b110), .val (.int (2 : Int32)), .val (.ref b14), .val (.ref b6), .val (.ref bt584), .val (.ref bt601)] [(.int x3), (.int x2), (.ref b25), (.ref b14), (.ref b6), (.int (2 : Int32)), (.int (1 : Int32)), (.ref b14)])) _
                  refine XS.iload X601.here hx rfl (hb hby at_196) rfl ?_
                  exact Steps.refl _)
              obtain ⟨_, _, ⟨T621, L621, k621, n621⟩, -, X621, ⟨Lc621, hQ621, l621, y621, z621⟩, sr621⟩ := Jvm.LawKit.callS X601 hx (y := (⟨"com/example/tideloop/tideloop/MessagePoolKeepPinLaw", "check", "(Lcom/example/tideloop/tideloop/Message;IILcom/example/tideloop/tideloop/Message;Lcom/example/tideloop/tideloop/Message;Lcom/example/tideloop/tideloop/Message;III)Z"⟩ : MethodName)) hown (mvT hZ (hw _ (List.mem_of_getElem? (i := 45) rfl))) (mvT hZ (hw _ (List.mem_of_getElem? (i := 46) rfl))) (mvT hZ (hw _ (List.mem_of_getElem? (i := 47) rfl))) (mvT hZ (hw _ (List.mem_of_getElem? (i := 48) rfl))) (by decide) (backOf (W := 0) (rm8 l Z a0 hw [] b14 (1 : Int32) (2 : Int32) b6 b14 b25 x2 x3 x4 x3 T601.heap n0 Z618 f609 f608) hZ (hw _ (List.mem_of_getElem? (i := 48) rfl)) (hw _ (List.mem_of_getElem? (i := 47) rfl)) (by decide) (by decide)) (g := (mkF m 198 #[.val (.int x0), .val (.int x1), .val (.int x2), .val (.int x3), .val (.int x4), .val (.int cap), .val (.int n), .val (.ref b6), .val (.ref b14), .val (.ref b25), .val (.ref b110), .val (.int (2 : Int32)), .val (.ref b14), .val (.ref b6), .val (.ref bt584), .val (.ref bt601)] [(.int x4), (.int x3), (.int x2), (.ref b25), (.ref b14), (.ref b6), (.int (2 : Int32)), (.int (1 : Int32)), (.ref b14)])) rfl (by rw [hml]; rfl) (argsL := [(.ref b14), (.int (1 : Int32)), (.int (2 : Int32)), (.ref b6), (.ref b14), (.ref b25), (.int x2), (.int x3), (.int x4)]) (rest := []) (lenOf pd_4 rfl) rfl (by show 2 * 0 + _ ≤ _; exact Nat.le_of_eq rfl) (hb hby at_198) (fun _ _ => ⟨rfl, rfl, (by decide : 6 + 0 ≤ _), (by decide : 98 + 0 ≤ _)⟩)
              dsimp only [Pt.U, Pt.locs, Pt.cells, Pt.slots] at X621 l621 y621 z621 sr621 hQ621
              subst l621 y621 z621
              obtain ⟨rfl, N621q, hh621⟩ := hQ621
              have N621 := Fr.app N601 N621q
              obtain ⟨LL621, X621, N621⟩ := own_hide X621 N621
              have st622 : Steps p.tables e below sE (T621.setTop (mkF m 201 #[.val (.int x0), .val (.int x1), .val (.int x2), .val (.int x3), .val (.int x4), .val (.int cap), .val (.int n), .val (.ref b6), .val (.ref b14), .val (.ref b25), .val (.ref b110), .val (.int (2 : Int32)), .val (.ref b14), .val (.ref b6), .val (.ref bt584), .val (.ref bt601)] [(.int (F8 b14 (1 : Int32) (2 : Int32) b6 b14 b25 x2 x3 x4 x3))])) := st620.trans (sr621 _ (Steps.refl _))
              have hf623 : ¬ ((F8 b14 (1 : Int32) (2 : Int32) b6 b14 b25 x2 x3 x4 x3) = (0 : Int32)) := by simp +decide [F8]
              have st624 : Steps p.tables e below sE (T621.setTop (mkF m 219 #[.val (.int x0), .val (.int x1), .val (.int x2), .val (.int x3), .val (.int x4), .val (.int cap), .val (.int n), .val (.ref b6), .val (.ref b14), .val (.ref b25), .val (.ref b110), .val (.int (2 : Int32)), .val (.ref b14), .val (.ref b6), .val (.ref bt584), .val (.ref bt601)] [(.int x4), (.int x3), (.int x2), (.ref b25), (.ref b14), (.ref b6), (.int (2 : Int32)), (.int (2 : Int32)), (.ref b6)])) := st622.trans (by
                  show Steps _ _ _ (T621.setTop (mkF m 201 #[.val (.int x0), .val (.int x1), .val (.int x2), .val (.int x3), .val (.int x4), .val (.int cap), .val (.int n), .val (.ref b6), .val (.ref b14), .val (.ref b25), .val (.ref b110), .val (.int (2 : Int32)), .val (.ref b14), .val (.ref b6), .val (.ref bt584), .val (.ref bt601)] [(.int (F8 b14 (1 : Int32) (2 : Int32) b6 b14 b25 x2 x3 x4 x3))])) _
                  refine XS.ifNo X621.here hx rfl (hb hby at_201) rfl ((if0 _ _).trans (feq hf623).1) ?_
                  show Steps _ _ _ (T621.setTop (mkF m 204 #[.val (.int x0), .val (.int x1), .val (.int x2), .val (.int x3), .val (.int x4), .val (.int cap), .val (.int n), .val (.ref b6), .val (.ref b14), .val (.ref b25), .val (.ref b110), .val (.int (2 : Int32)), .val (.ref b14), .val (.ref b6), .val (.ref bt584), .val (.ref bt601)] [])) _
                  refine XS.aload X621.here hx rfl (hb hby at_204) rfl rfl ?_
                  show Steps _ _ _ (T621.setTop (mkF m 206 #[.val (.int x0), .val (.int x1), .val (.int x2), .val (.int x3), .val (.int x4), .val (.int cap), .val (.int n), .val (.ref b6), .val (.ref b14), .val (.ref b25), .val (.ref b110), .val (.int (2 : Int32)), .val (.ref b14), .val (.ref b6), .val (.ref bt584), .val (.ref bt601)] [(.ref b6)])) _
                  refine XS.iconst X621.here hx rfl (hb hby at_206) ?_
                  show Steps _ _ _ (T621.setTop (mkF m 207 #[.val (.int x0), .val (.int x1), .val (.int x2), .val (.int x3), .val (.int x4), .val (.int cap), .val (.int n), .val (.ref b6), .val (.ref b14), .val (.ref b25), .val (.ref b110), .val (.int (2 : Int32)), .val (.ref b14), .val (.ref b6), .val (.ref bt584), .val (.ref bt601)] [(.int (2 : Int32)), (.ref b6)])) _
                  refine XS.iload X621.here hx rfl (hb hby at_207) rfl ?_
                  show Steps _ _ _ (T621.setTop (mkF m 209 #[.val (.int x0), .val (.int x1), .val (.int x2), .val (.int x3), .val (.int x4), .val (.int cap), .val (.int n), .val (.ref b6), .val (.ref b14), .val (.ref b25), .val (.ref b110), .val (.int (2 : Int32)), .val (.ref b14), .val (.ref b6), .val (.ref bt584), .val (.ref bt601)] [(.int (2 : Int32)), (.int (2 : Int32)), (.ref b6)])) _
                  refine XS.aload X621.here hx rfl (hb hby at_209) rfl rfl ?_
                  show Steps _ _ _ (T621.setTop (mkF m 211 #[.val (.int x0), .val (.int x1), .val (.int x2), .val (.int x3), .val (.int x4), .val (.int cap), .val (.int n), .val (.ref b6), .val (.ref b14), .val (.ref b25), .val (.ref b110), .val (.int (2 : Int32)), .val (.ref b14), .val (.ref b6), .val (.ref bt584), .val (.ref bt601)] [(.ref b6), (.int (2 : Int32)), (.int (2 : Int32)), (.ref b6)])) _
                  refine XS.aload X621.here hx rfl (hb hby at_211) rfl rfl ?_
                  show Steps _ _ _ (T621.setTop (mkF m 213 #[.val (.int x0), .val (.int x1), .val (.int x2), .val (.int x3), .val (.int x4), .val (.int cap), .val (.int n), .val (.ref b6), .val (.ref b14), .val (.ref b25), .val (.ref b110), .val (.int (2 : Int32)), .val (.ref b14), .val (.ref b6), .val (.ref bt584), .val (.ref bt601)] [(.ref b14), (.ref b6), (.int (2 : Int32)), (.int (2 : Int32)), (.ref b6)])) _
                  refine XS.aload X621.here hx rfl (hb hby at_213) rfl rfl ?_
                  show Steps _ _ _ (T621.setTop (mkF m 215 #[.val (.int x0), .val (.int x1), .val (.int x2), .val (.int x3), .val (.int x4), .val (.int cap), .val (.int n), .val (.ref b6), .val (.ref b14), .val (.ref b25), .val (.ref b110), .val (.int (2 : Int32)), .val (.ref b14), .val (.ref b6), .val (.ref bt584), .val (.ref bt601)] [(.ref b25), (.ref b14), (.ref b6), (.int (2 : Int32)), (.int (2 : Int32)), (.ref b6)])) _
                  refine XS.iloadN X621.here hx rfl (hb hby at_215) rfl ?_
                  show Steps _ _ _ (T621.setTop (mkF m 216 #[.val (.int x0), .val (.int x1), .val (.int x2), .val (.int x3), .val (.int x4), .val (.int cap), .val (.int n), .val (.ref b6), .val (.ref b14), .val (.ref b25), .val (.ref b110), .val (.int (2 : Int32)), .val (.ref b14), .val (.ref b6), .val (.ref bt584), .val (.ref bt601)] [(.int x2), (.ref b25), (.ref b14), (.ref b6), (.int (2 : Int32)), (.int (2 : Int32)), (.ref b6)])) _
                  refine XS.iloadN X621.here hx rfl (hb hby at_216) rfl ?_
                  show Steps _ _ _ (T621.setTop (mkF m 217 #[.val (.int x0), .val (.int x1), .val (.int x2), .val (.int x3), .val (.int x4), .val (.int cap), .val (.int n), .val (.ref b6), .val (.ref b14), .val (.ref b25), .val (.ref b110), .val (.int (2 : Int32)), .val (.ref b14), .val (.ref b6), .val (.ref bt584), .val (.ref bt601)] [(.int x3), (.int x2), (.ref b25), (.ref b14), (.ref b6), (.int (2 : Int32)), (.int (2 : Int32)), (.ref b6)])) _
                  refine XS.iload X621.here hx rfl (hb hby at_217) rfl ?_
                  exact Steps.refl _)
              obtain ⟨_, _, ⟨T625, L625, k625, n625⟩, -, X625, ⟨Lc625, hQ625, l625, y625, z625⟩, sr625⟩ := Jvm.LawKit.callS X621 hx (y := (⟨"com/example/tideloop/tideloop/MessagePoolKeepPinLaw", "check", "(Lcom/example/tideloop/tideloop/Message;IILcom/example/tideloop/tideloop/Message;Lcom/example/tideloop/tideloop/Message;Lcom/example/tideloop/tideloop/Message;III)Z"⟩ : MethodName)) hown (mvT hZ (hw _ (List.mem_of_getElem? (i := 45) rfl))) (mvT hZ (hw _ (List.mem_of_getElem? (i := 46) rfl))) (mvT hZ (hw _ (List.mem_of_getElem? (i := 47) rfl))) (mvT hZ (hw _ (List.mem_of_getElem? (i := 48) rfl))) (by decide) (backOf (W := 0) (rm8 l Z a0 hw [] b6 (2 : Int32) (2 : Int32) b6 b14 b25 x2 x3 x4 x2 T601.heap n0 Z618 f614 f613) hZ (hw _ (List.mem_of_getElem? (i := 48) rfl)) (hw _ (List.mem_of_getElem? (i := 47) rfl)) (by decide) (by decide)) (g := (mkF m 219 #[.val (.int x0), .val (.int x1), .val (.int x2), .val (.int x3), .val (.int x4), .val (.int cap), .val (.int n), .val (.ref b6), .val (.ref b14), .val (.ref b25), .val (.ref b110), .val (.int (2 : Int32)), .val (.ref b14), .val (.ref b6), .val (.ref bt584), .val (.ref bt601)] [(.int x4), (.int x3), (.int x2), (.ref b25), (.ref b14), (.ref b6), (.int (2 : Int32)), (.int (2 : Int32)), (.ref b6)])) rfl (by rw [hml]; rfl) (argsL := [(.ref b6), (.int (2 : Int32)), (.int (2 : Int32)), (.ref b6), (.ref b14), (.ref b25), (.int x2), (.int x3), (.int x4)]) (rest := []) (lenOf pd_4 rfl) rfl (by show 2 * 0 + _ ≤ _; exact Nat.le_of_eq rfl) (hb hby at_219) (fun _ _ => ⟨rfl, hh621, (by decide : 6 + 0 ≤ _), (by decide : 98 + 0 ≤ _)⟩)
              dsimp only [Pt.U, Pt.locs, Pt.cells, Pt.slots] at X625 l625 y625 z625 sr625 hQ625
              subst l625 y625 z625
              obtain ⟨rfl, N625q, hh625⟩ := hQ625
              have N625 := Fr.app N621 N625q
              obtain ⟨LL625, X625, N625⟩ := own_hide X625 N625
              have st626 : Steps p.tables e below sE (T625.setTop (mkF m 222 #[.val (.int x0), .val (.int x1), .val (.int x2), .val (.int x3), .val (.int x4), .val (.int cap), .val (.int n), .val (.ref b6), .val (.ref b14), .val (.ref b25), .val (.ref b110), .val (.int (2 : Int32)), .val (.ref b14), .val (.ref b6), .val (.ref bt584), .val (.ref bt601)] [(.int (F8 b6 (2 : Int32) (2 : Int32) b6 b14 b25 x2 x3 x4 x2))])) := st624.trans (sr625 _ (Steps.refl _))
              have hf627 : ¬ ((F8 b6 (2 : Int32) (2 : Int32) b6 b14 b25 x2 x3 x4 x2) = (0 : Int32)) := by simp +decide [F8]
              have st628 : Steps p.tables e below sE (T625.setTop (mkF m 240 #[.val (.int x0), .val (.int x1), .val (.int x2), .val (.int x3), .val (.int x4), .val (.int cap), .val (.int n), .val (.ref b6), .val (.ref b14), .val (.ref b25), .val (.ref b110), .val (.int (2 : Int32)), .val (.ref b14), .val (.ref b6), .val (.ref bt584), .val (.ref bt601)] [(.int x4), (.int x3), (.int x2), (.ref b25), (.ref b14), (.ref b6), (.int (2 : Int32)), (.int (3 : Int32)), (.ref bt584)])) := st626.trans (by
                  show Steps _ _ _ (T625.setTop (mkF m 222 #[.val (.int x0), .val (.int x1), .val (.int x2), .val (.int x3), .val (.int x4), .val (.int cap), .val (.int n), .val (.ref b6), .val (.ref b14), .val (.ref b25), .val (.ref b110), .val (.int (2 : Int32)), .val (.ref b14), .val (.ref b6), .val (.ref bt584), .val (.ref bt601)] [(.int (F8 b6 (2 : Int32) (2 : Int32) b6 b14 b25 x2 x3 x4 x2))])) _
                  refine XS.ifNo X625.here hx rfl (hb hby at_222) rfl ((if0 _ _).trans (feq hf627).1) ?_
                  show Steps _ _ _ (T625.setTop (mkF m 225 #[.val (.int x0), .val (.int x1), .val (.int x2), .val (.int x3), .val (.int x4), .val (.int cap), .val (.int n), .val (.ref b6), .val (.ref b14), .val (.ref b25), .val (.ref b110), .val (.int (2 : Int32)), .val (.ref b14), .val (.ref b6), .val (.ref bt584), .val (.ref bt601)] [])) _
                  refine XS.aload X625.here hx rfl (hb hby at_225) rfl rfl ?_
                  show Steps _ _ _ (T625.setTop (mkF m 227 #[.val (.int x0), .val (.int x1), .val (.int x2), .val (.int x3), .val (.int x4), .val (.int cap), .val (.int n), .val (.ref b6), .val (.ref b14), .val (.ref b25), .val (.ref b110), .val (.int (2 : Int32)), .val (.ref b14), .val (.ref b6), .val (.ref bt584), .val (.ref bt601)] [(.ref bt584)])) _
                  refine XS.iconst X625.here hx rfl (hb hby at_227) ?_
                  show Steps _ _ _ (T625.setTop (mkF m 228 #[.val (.int x0), .val (.int x1), .val (.int x2), .val (.int x3), .val (.int x4), .val (.int cap), .val (.int n), .val (.ref b6), .val (.ref b14), .val (.ref b25), .val (.ref b110), .val (.int (2 : Int32)), .val (.ref b14), .val (.ref b6), .val (.ref bt584), .val (.ref bt601)] [(.int (3 : Int32)), (.ref bt584)])) _
                  refine XS.iload X625.here hx rfl (hb hby at_228) rfl ?_
                  show Steps _ _ _ (T625.setTop (mkF m 230 #[.val (.int x0), .val (.int x1), .val (.int x2), .val (.int x3), .val (.int x4), .val (.int cap), .val (.int n), .val (.ref b6), .val (.ref b14), .val (.ref b25), .val (.ref b110), .val (.int (2 : Int32)), .val (.ref b14), .val (.ref b6), .val (.ref bt584), .val (.ref bt601)] [(.int (2 : Int32)), (.int (3 : Int32)), (.ref bt584)])) _
                  refine XS.aload X625.here hx rfl (hb hby at_230) rfl rfl ?_
                  show Steps _ _ _ (T625.setTop (mkF m 232 #[.val (.int x0), .val (.int x1), .val (.int x2), .val (.int x3), .val (.int x4), .val (.int cap), .val (.int n), .val (.ref b6), .val (.ref b14), .val (.ref b25), .val (.ref b110), .val (.int (2 : Int32)), .val (.ref b14), .val (.ref b6), .val (.ref bt584), .val (.ref bt601)] [(.ref b6), (.int (2 : Int32)), (.int (3 : Int32)), (.ref bt584)])) _
                  refine XS.aload X625.here hx rfl (hb hby at_232) rfl rfl ?_
                  show Steps _ _ _ (T625.setTop (mkF m 234 #[.val (.int x0), .val (.int x1), .val (.int x2), .val (.int x3), .val (.int x4), .val (.int cap), .val (.int n), .val (.ref b6), .val (.ref b14), .val (.ref b25), .val (.ref b110), .val (.int (2 : Int32)), .val (.ref b14), .val (.ref b6), .val (.ref bt584), .val (.ref bt601)] [(.ref b14), (.ref b6), (.int (2 : Int32)), (.int (3 : Int32)), (.ref bt584)])) _
                  refine XS.aload X625.here hx rfl (hb hby at_234) rfl rfl ?_
                  show Steps _ _ _ (T625.setTop (mkF m 236 #[.val (.int x0), .val (.int x1), .val (.int x2), .val (.int x3), .val (.int x4), .val (.int cap), .val (.int n), .val (.ref b6), .val (.ref b14), .val (.ref b25), .val (.ref b110), .val (.int (2 : Int32)), .val (.ref b14), .val (.ref b6), .val (.ref bt584), .val (.ref bt601)] [(.ref b25), (.ref b14), (.ref b6), (.int (2 : Int32)), (.int (3 : Int32)), (.ref bt584)])) _
                  refine XS.iloadN X625.here hx rfl (hb hby at_236) rfl ?_
                  show Steps _ _ _ (T625.setTop (mkF m 237 #[.val (.int x0), .val (.int x1), .val (.int x2), .val (.int x3), .val (.int x4), .val (.int cap), .val (.int n), .val (.ref b6), .val (.ref b14), .val (.ref b25), .val (.ref b110), .val (.int (2 : Int32)), .val (.ref b14), .val (.ref b6), .val (.ref bt584), .val (.ref bt601)] [(.int x2), (.ref b25), (.ref b14), (.ref b6), (.int (2 : Int32)), (.int (3 : Int32)), (.ref bt584)])) _
                  refine XS.iloadN X625.here hx rfl (hb hby at_237) rfl ?_
                  show Steps _ _ _ (T625.setTop (mkF m 238 #[.val (.int x0), .val (.int x1), .val (.int x2), .val (.int x3), .val (.int x4), .val (.int cap), .val (.int n), .val (.ref b6), .val (.ref b14), .val (.ref b25), .val (.ref b110), .val (.int (2 : Int32)), .val (.ref b14), .val (.ref b6), .val (.ref bt584), .val (.ref bt601)] [(.int x3), (.int x2), (.ref b25), (.ref b14), (.ref b6), (.int (2 : Int32)), (.int (3 : Int32)), (.ref bt584)])) _
                  refine XS.iload X625.here hx rfl (hb hby at_238) rfl ?_
                  exact Steps.refl _)
              obtain ⟨_, _, ⟨T629, L629, k629, n629⟩, -, X629, ⟨Lc629, hQ629, l629, y629, z629⟩, sr629⟩ := Jvm.LawKit.callS X625 hx (y := (⟨"com/example/tideloop/tideloop/MessagePoolKeepPinLaw", "check", "(Lcom/example/tideloop/tideloop/Message;IILcom/example/tideloop/tideloop/Message;Lcom/example/tideloop/tideloop/Message;Lcom/example/tideloop/tideloop/Message;III)Z"⟩ : MethodName)) hown (mvT hZ (hw _ (List.mem_of_getElem? (i := 45) rfl))) (mvT hZ (hw _ (List.mem_of_getElem? (i := 46) rfl))) (mvT hZ (hw _ (List.mem_of_getElem? (i := 47) rfl))) (mvT hZ (hw _ (List.mem_of_getElem? (i := 48) rfl))) (by decide) (backOf (W := 0) (rm8 l Z a0 hw [] bt584 (3 : Int32) (2 : Int32) b6 b14 b25 x2 x3 x4 (0 : Int32) T601.heap n0 Z618 f616 f617) hZ (hw _ (List.mem_of_getElem? (i := 48) rfl)) (hw _ (List.mem_of_getElem? (i := 47) rfl)) (by decide) (by decide)) (g := (mkF m 240 #[.val (.int x0), .val (.int x1), .val (.int x2), .val (.int x3), .val (.int x4), .val (.int cap), .val (.int n), .val (.ref b6), .val (.ref b14), .val (.ref b25), .val (.ref b110), .val (.int (2 : Int32)), .val (.ref b14), .val (.ref b6), .val (.ref bt584), .val (.ref bt601)] [(.int x4), (.int x3), (.int x2), (.ref b25), (.ref b14), (.ref b6), (.int (2 : Int32)), (.int (3 : Int32)), (.ref bt584)])) rfl (by rw [hml]; rfl) (argsL := [(.ref bt584), (.int (3 : Int32)), (.int (2 : Int32)), (.ref b6), (.ref b14), (.ref b25), (.int x2), (.int x3), (.int x4)]) (rest := []) (lenOf pd_4 rfl) rfl (by show 2 * 0 + _ ≤ _; exact Nat.le_of_eq rfl) (hb hby at_240) (fun _ _ => ⟨rfl, hh625, (by decide : 6 + 0 ≤ _), (by decide : 98 + 0 ≤ _)⟩)
              dsimp only [Pt.U, Pt.locs, Pt.cells, Pt.slots] at X629 l629 y629 z629 sr629 hQ629
              subst l629 y629 z629
              obtain ⟨rfl, N629q, hh629⟩ := hQ629
              have N629 := Fr.app N625 N629q
              obtain ⟨LL629, X629, N629⟩ := own_hide X629 N629
              have st630 : Steps p.tables e below sE (T629.setTop (mkF m 243 #[.val (.int x0), .val (.int x1), .val (.int x2), .val (.int x3), .val (.int x4), .val (.int cap), .val (.int n), .val (.ref b6), .val (.ref b14), .val (.ref b25), .val (.ref b110), .val (.int (2 : Int32)), .val (.ref b14), .val (.ref b6), .val (.ref bt584), .val (.ref bt601)] [(.int (F8 bt584 (3 : Int32) (2 : Int32) b6 b14 b25 x2 x3 x4 (0 : Int32)))])) := st628.trans (sr629 _ (Steps.refl _))
              have hf631 : ¬ ((F8 bt584 (3 : Int32) (2 : Int32) b6 b14 b25 x2 x3 x4 (0 : Int32)) = (0 : Int32)) := by simp +decide [F8, (Ne.symm ne_b6_bt584), (Ne.symm ne_b14_bt584), (Ne.symm ne_b25_bt584)]
              have st632 : Steps p.tables e below sE (T629.setTop (mkF m 261 #[.val (.int x0), .val (.int x1), .val (.int x2), .val (.int x3), .val (.int x4), .val (.int cap), .val (.int n), .val (.ref b6), .val (.ref b14), .val (.ref b25), .val (.ref b110), .val (.int (2 : Int32)), .val (.ref b14), .val (.ref b6), .val (.ref bt584), .val (.ref bt601)] [(.int x4), (.int x3), (.int x2), (.ref b25), (.ref b14), (.ref b6), (.int (2 : Int32)), (.int (4 : Int32)), (.ref bt601)])) := st630.trans (by
                  show Steps _ _ _ (T629.setTop (mkF m 243 #[.val (.int x0), .val (.int x1), .val (.int x2), .val (.int x3), .val (.int x4), .val (.int cap), .val (.int n), .val (.ref b6), .val (.ref b14), .val (.ref b25), .val (.ref b110), .val (.int (2 : Int32)), .val (.ref b14), .val (.ref b6), .val (.ref bt584), .val (.ref bt601)] [(.int (F8 bt584 (3 : Int32) (2 : Int32) b6 b14 b25 x2 x3 x4 (0 : Int32)))])) _
                  refine XS.ifNo X629.here hx rfl (hb hby at_243) rfl ((if0 _ _).trans (feq hf631).1) ?_
                  show Steps _ _ _ (T629.setTop (mkF m 246 #[.val (.int x0), .val (.int x1), .val (.int x2), .val (.int x3), .val (.int x4), .val (.int cap), .val (.int n), .val (.ref b6), .val (.ref b14), .val (.ref b25), .val (.ref b110), .val (.int (2 : Int32)), .val (.ref b14), .val (.ref b6), .val (.ref bt584), .val (.ref bt601)] [])) _
                  refine XS.aload X629.here hx rfl (hb hby at_246) rfl rfl ?_
                  show Steps _ _ _ (T629.setTop (mkF m 248 #[.val (.int x0), .val (.int x1), .val (.int x2), .val (.int x3), .val (.int x4), .val (.int cap), .val (.int n), .val (.ref b6), .val (.ref b14), .val (.ref b25), .val (.ref b110), .val (.int (2 : Int32)), .val (.ref b14), .val (.ref b6), .val (.ref bt584), .val (.ref bt601)] [(.ref bt601)])) _
                  refine XS.iconst X629.here hx rfl (hb hby at_248) ?_
                  show Steps _ _ _ (T629.setTop (mkF m 249 #[.val (.int x0), .val (.int x1), .val (.int x2), .val (.int x3), .val (.int x4), .val (.int cap), .val (.int n), .val (.ref b6), .val (.ref b14), .val (.ref b25), .val (.ref b110), .val (.int (2 : Int32)), .val (.ref b14), .val (.ref b6), .val (.ref bt584), .val (.ref bt601)] [(.int (4 : Int32)), (.ref bt601)])) _
                  refine XS.iload X629.here hx rfl (hb hby at_249) rfl ?_
                  show Steps _ _ _ (T629.setTop (mkF m 251 #[.val (.int x0), .val (.int x1), .val (.int x2), .val (.int x3), .val (.int x4), .val (.int cap), .val (.int n), .val (.ref b6), .val (.ref b14), .val (.ref b25), .val (.ref b110), .val (.int (2 : Int32)), .val (.ref b14), .val (.ref b6), .val (.ref bt584), .val (.ref bt601)] [(.int (2 : Int32)), (.int (4 : Int32)), (.ref bt601)])) _
                  refine XS.aload X629.here hx rfl (hb hby at_251) rfl rfl ?_
                  show Steps _ _ _ (T629.setTop (mkF m 253 #[.val (.int x0), .val (.int x1), .val (.int x2), .val (.int x3), .val (.int x4), .val (.int cap), .val (.int n), .val (.ref b6), .val (.ref b14), .val (.ref b25), .val (.ref b110), .val (.int (2 : Int32)), .val (.ref b14), .val (.ref b6), .val (.ref bt584), .val (.ref bt601)] [(.ref b6), (.int (2 : Int32)), (.int (4 : Int32)), (.ref bt601)])) _
                  refine XS.aload X629.here hx rfl (hb hby at_253) rfl rfl ?_
                  show Steps _ _ _ (T629.setTop (mkF m 255 #[.val (.int x0), .val (.int x1), .val (.int x2), .val (.int x3), .val (.int x4), .val (.int cap), .val (.int n), .val (.ref b6), .val (.ref b14), .val (.ref b25), .val (.ref b110), .val (.int (2 : Int32)), .val (.ref b14), .val (.ref b6), .val (.ref bt584), .val (.ref bt601)] [(.ref b14), (.ref b6), (.int (2 : Int32)), (.int (4 : Int32)), (.ref bt601)])) _
                  refine XS.aload X629.here hx rfl (hb hby at_255) rfl rfl ?_
                  show Steps _ _ _ (T629.setTop (mkF m 257 #[.val (.int x0), .val (.int x1), .val (.int x2), .val (.int x3), .val (.int x4), .val (.int cap), .val (.int n), .val (.ref b6), .val (.ref b14), .val (.ref b25), .val (.ref b110), .val (.int (2 : Int32)), .val (.ref b14), .val (.ref b6), .val (.ref bt584), .val (.ref bt601)] [(.ref b25), (.ref b14), (.ref b6), (.int (2 : Int32)), (.int (4 : Int32)), (.ref bt601)])) _
                  refine XS.iloadN X629.here hx rfl (hb hby at_257) rfl ?_
                  show Steps _ _ _ (T629.setTop (mkF m 258 #[.val (.int x0), .val (.int x1), .val (.int x2), .val (.int x3), .val (.int x4), .val (.int cap), .val (.int n), .val (.ref b6), .val (.ref b14), .val (.ref b25), .val (.ref b110), .val (.int (2 : Int32)), .val (.ref b14), .val (.ref b6), .val (.ref bt584), .val (.ref bt601)] [(.int x2), (.ref b25), (.ref b14), (.ref b6), (.int (2 : Int32)), (.int (4 : Int32)), (.ref bt601)])) _
                  refine XS.iloadN X629.here hx rfl (hb hby at_258) rfl ?_
                  show Steps _ _ _ (T629.setTop (mkF m 259 #[.val (.int x0), .val (.int x1), .val (.int x2), .val (.int x3), .val (.int x4), .val (.int cap), .val (.int n), .val (.ref b6), .val (.ref b14), .val (.ref b25), .val (.ref b110), .val (.int (2 : Int32)), .val (.ref b14), .val (.ref b6), .val (.ref bt584), .val (.ref bt601)] [(.int x3), (.int x2), (.ref b25), (.ref b14), (.ref b6), (.int (2 : Int32)), (.int (4 : Int32)), (.ref bt601)])) _
                  refine XS.iload X629.here hx rfl (hb hby at_259) rfl ?_
                  exact Steps.refl _)
              obtain ⟨_, _, ⟨T633, L633, k633, n633⟩, -, X633, ⟨Lc633, hQ633, l633, y633, z633⟩, sr633⟩ := Jvm.LawKit.callS X629 hx (y := (⟨"com/example/tideloop/tideloop/MessagePoolKeepPinLaw", "check", "(Lcom/example/tideloop/tideloop/Message;IILcom/example/tideloop/tideloop/Message;Lcom/example/tideloop/tideloop/Message;Lcom/example/tideloop/tideloop/Message;III)Z"⟩ : MethodName)) hown (mvT hZ (hw _ (List.mem_of_getElem? (i := 45) rfl))) (mvT hZ (hw _ (List.mem_of_getElem? (i := 46) rfl))) (mvT hZ (hw _ (List.mem_of_getElem? (i := 47) rfl))) (mvT hZ (hw _ (List.mem_of_getElem? (i := 48) rfl))) (by decide) (backOf (W := 0) (rm8 l Z a0 hw [] bt601 (4 : Int32) (2 : Int32) b6 b14 b25 x2 x3 x4 (0 : Int32) T601.heap n0 Z618 qn601 qw601) hZ (hw _ (List.mem_of_getElem? (i := 48) rfl)) (hw _ (List.mem_of_getElem? (i := 47) rfl)) (by decide) (by decide)) (g := (mkF m 261 #[.val (.int x0), .val (.int x1), .val (.int x2), .val (.int x3), .val (.int x4), .val (.int cap), .val (.int n), .val (.ref b6), .val (.ref b14), .val (.ref b25), .val (.ref b110), .val (.int (2 : Int32)), .val (.ref b14), .val (.ref b6), .val (.ref bt584), .val (.ref bt601)] [(.int x4), (.int x3), (.int x2), (.ref b25), (.ref b14), (.ref b6), (.int (2 : Int32)), (.int (4 : Int32)), (.ref bt601)])) rfl (by rw [hml]; rfl) (argsL := [(.ref bt601), (.int (4 : Int32)), (.int (2 : Int32)), (.ref b6), (.ref b14), (.ref b25), (.int x2), (.int x3), (.int x4)]) (rest := []) (lenOf pd_4 rfl) rfl (by show 2 * 0 + _ ≤ _; exact Nat.le_of_eq rfl) (hb hby at_261) (fun _ _ => ⟨rfl, hh629, (by decide : 6 + 0 ≤ _), (by decide : 98 + 0 ≤ _)⟩)
              dsimp only [Pt.U, Pt.locs, Pt.cells, Pt.slots] at X633 l633 y633 z633 sr633 hQ633
              subst l633 y633 z633
              obtain ⟨rfl, N633q, hh633⟩ := hQ633
              have N633 := Fr.app N629 N633q
              obtain ⟨LL633, X633, N633⟩ := own_hide X633 N633
              have st634 : Steps p.tables e below sE (T633.setTop (mkF m 264 #[.val (.int x0), .val (.int x1), .val (.int x2), .val (.int x3), .val (.int x4), .val (.int cap), .val (.int n), .val (.ref b6), .val (.ref b14), .val (.ref b25), .val (.ref b110), .val (.int (2 : Int32)), .val (.ref b14), .val (.ref b6), .val (.ref bt584), .val (.ref bt601)] [(.int (F8 bt601 (4 : Int32) (2 : Int32) b6 b14 b25 x2 x3 x4 (0 : Int32)))])) := st632.trans (sr633 _ (Steps.refl _))
              have hf635 : ¬ ((F8 bt601 (4 : Int32) (2 : Int32) b6 b14 b25 x2 x3 x4 (0 : Int32)) = (0 : Int32)) := by simp +decide [F8, (Ne.symm ne_b6_bt601), (Ne.symm ne_b14_bt601), (Ne.symm ne_b25_bt601)]
              have st636 : Steps p.tables e below sE (T633.setTop (mkF m 272 #[.val (.int x0), .val (.int x1), .val (.int x2), .val (.int x3), .val (.int x4), .val (.int cap), .val (.int n), .val (.ref b6), .val (.ref b14), .val (.ref b25), .val (.ref b110), .val (.int (2 : Int32)), .val (.ref b14), .val (.ref b6), .val (.ref bt584), .val (.ref bt601)] [(.int (1 : Int32))])) := st634.trans (by
                  show Steps _ _ _ (T633.setTop (mkF m 264 #[.val (.int x0), .val (.int x1), .val (.int x2), .val (.int x3), .val (.int x4), .val (.int cap), .val (.int n), .val (.ref b6), .val (.ref b14), .val (.ref b25), .val (.ref b110), .val (.int (2 : Int32)), .val (.ref b14), .val (.ref b6), .val (.ref bt584), .val (.ref bt601)] [(.int (F8 bt601 (4 : Int32) (2 : Int32) b6 b14 b25 x2 x3 x4 (0 : Int32)))])) _
                  refine XS.ifNo X633.here hx rfl (hb hby at_264) rfl ((if0 _ _).trans (feq hf635).1) ?_
                  show Steps _ _ _ (T633.setTop (mkF m 267 #[.val (.int x0), .val (.int x1), .val (.int x2), .val (.int x3), .val (.int x4), .val (.int cap), .val (.int n), .val (.ref b6), .val (.ref b14), .val (.ref b25), .val (.ref b110), .val (.int (2 : Int32)), .val (.ref b14), .val (.ref b6), .val (.ref bt584), .val (.ref bt601)] [])) _
                  refine XS.iconst X633.here hx rfl (hb hby at_267) ?_
                  show Steps _ _ _ (T633.setTop (mkF m 268 #[.val (.int x0), .val (.int x1), .val (.int x2), .val (.int x3), .val (.int x4), .val (.int cap), .val (.int n), .val (.ref b6), .val (.ref b14), .val (.ref b25), .val (.ref b110), .val (.int (2 : Int32)), .val (.ref b14), .val (.ref b6), .val (.ref bt584), .val (.ref bt601)] [(.int (1 : Int32))])) _
                  refine XS.goto X633.here hx rfl (pc0 := 268) (pc' := 272) rfl (hb hby at_268) (by decide) (by decide) ?_
                  exact Steps.refl _)
              obtain ⟨fs, hr, hrun, hended, hW, hsame⟩ := X633.leave (v := some (.int (1 : Int32))) (fun h => by rw [Bd.returns] at h; cases h)
              refine ⟨_, _, (own_ent hsE st636).trans ?_, hrun, hended, _, _, rfl, ?_, ⟨_, rfl⟩, hW, hsame.mono (by decide) (by decide)⟩
              · exact retN X633 hx (t := .boolean) Bd.returns (by simp) (hb hby at_272) hr
              · show Q0 Z x0 x1 x2 x3 x4 h0 n0 _ T633.heap _
                rw [hh633]
                exact ⟨rfl, N633⟩
        · 
          obtain ⟨cq637, kq637, q637a, q637b, q637c⟩ := isOf hZ rfl f255_0
          obtain ⟨_, _, ⟨T637, L637, k637, n637⟩, -, X637, ⟨Lc637, hQ637, l637, y637, z637⟩, sr637⟩ := X255.virtualBack hx (y := (⟨"com/example/tideloop/tideloop/MessagePool", "keep", "(Lcom/example/tideloop/tideloop/Message;)V"⟩ : MethodName)) (z := (⟨"com/example/tideloop/tideloop/MessagePool", "keep", "(Lcom/example/tideloop/tideloop/Message;)V"⟩ : MethodName)) hown (mvT hZ (hw _ (List.mem_of_getElem? (i := 22) rfl))) (mvT hZ (hw _ (List.mem_of_getElem? (i := 23) rfl))) (notFace_of_selects (args := #[]) (mvT hZ (hw _ (List.mem_of_getElem? (i := 25) rfl)))) (mvT hZ (hw _ (List.mem_of_getElem? (i := 25) rfl))) (mvT hZ (hw _ (List.mem_of_getElem? (i := 24) rfl))) (by decide) (backOf (W := 0) (rmkn l Z a0 hw [] b110 b14 ((0 : Int32) + (1 : Int32)) cap T255.heap n0 Z264 f255_0 f255_1 f255_2 hc366) hZ (hw _ (List.mem_of_getElem? (i := 26) rfl)) (hw _ (List.mem_of_getElem? (i := 15) rfl)) (by decide) (by decide)) q637a q637c (g := (mkF m 126 #[.val (.int x0), .val (.int x1), .val (.int x2), .val (.int x3), .val (.int x4), .val (.int cap), .val (.int n), .val (.ref b6), .val (.ref b14), .val (.ref b25), .val (.ref b110), .unset, .unset, .unset, .unset, .unset] [(.ref b14), (.ref b110)])) rfl (by rw [hml]; rfl) (Steps.refl _) (argsL := [(.ref b14)]) (rest := []) (lenOf pd_5 rfl) rfl (by show 2 * 0 + _ ≤ _; exact Nat.le_of_eq rfl) (hb hby at_126) (fun _ _ => ⟨rfl, rfl, (by decide : 4 + 0 ≤ _), (by decide : 60 + 0 ≤ _)⟩)
          dsimp only [Pt.U, Pt.locs, Pt.cells, Pt.slots] at X637 l637 y637 z637 sr637 hQ637
          subst l637 y637 z637
          obtain ⟨rfl, N637q, hh637⟩ := hQ637
          have N637 := Fr.app N255 N637q
          obtain ⟨LL637, X637, N637⟩ := own_hide X637 N637
          have st638 : Steps p.tables e below sE (T637.setTop (mkF m 129 #[.val (.int x0), .val (.int x1), .val (.int x2), .val (.int x3), .val (.int x4), .val (.int cap), .val (.int n), .val (.ref b6), .val (.ref b14), .val (.ref b25), .val (.ref b110), .unset, .unset, .unset, .unset, .unset] [])) := st365.trans (sr637)
          have st639 : Steps p.tables e below sE (T637.setTop (mkF m 132 #[.val (.int x0), .val (.int x1), .val (.int x2), .val (.int x3), .val (.int x4), .val (.int cap), .val (.int n), .val (.ref b6), .val (.ref b14), .val (.ref b25), .val (.ref b110), .unset, .unset, .unset, .unset, .unset] [(.int (3 : Int32)), (.int n)])) := st638.trans (by
              show Steps _ _ _ (T637.setTop (mkF m 129 #[.val (.int x0), .val (.int x1), .val (.int x2), .val (.int x3), .val (.int x4), .val (.int cap), .val (.int n), .val (.ref b6), .val (.ref b14), .val (.ref b25), .val (.ref b110), .unset, .unset, .unset, .unset, .unset] [])) _
              refine XS.iload X637.here hx rfl (hb hby at_129) rfl ?_
              show Steps _ _ _ (T637.setTop (mkF m 131 #[.val (.int x0), .val (.int x1), .val (.int x2), .val (.int x3), .val (.int x4), .val (.int cap), .val (.int n), .val (.ref b6), .val (.ref b14), .val (.ref b25), .val (.ref b110), .unset, .unset, .unset, .unset, .unset] [(.int n)])) _
              refine XS.iconst X637.here hx rfl (hb hby at_131) ?_
              exact Steps.refl _)
          by_cases hc640 : n < (3 : Int32)
          · have st641 : Steps p.tables e below sE (T637.setTop (mkF m 142 #[.val (.int x0), .val (.int x1), .val (.int x2), .val (.int x3), .val (.int x4), .val (.int cap), .val (.int n), .val (.ref b6), .val (.ref b14), .val (.ref b25), .val (.ref b110), .unset, .unset, .unset, .unset, .unset] [])) := st639.trans (by
                show Steps _ _ _ (T637.setTop (mkF m 132 #[.val (.int x0), .val (.int x1), .val (.int x2), .val (.int x3), .val (.int x4), .val (.int cap), .val (.int n), .val (.ref b6), .val (.ref b14), .val (.ref b25), .val (.ref b110), .unset, .unset, .unset, .unset, .unset] [(.int (3 : Int32)), (.int n)])) _
                refine XS.icmpYes X637.here hx rfl (pc0 := 132) (pc' := 142) rfl (hb hby at_132) rfl (tlt hc640).1 (by decide) (by decide) ?_
                exact Steps.refl _)
            have st642 : Steps p.tables e below sE (T637.setTop (mkF m 147 #[.val (.int x0), .val (.int x1), .val (.int x2), .val (.int x3), .val (.int x4), .val (.int cap), .val (.int n), .val (.ref b6), .val (.ref b14), .val (.ref b25), .val (.ref b110), .unset, .unset, .unset, .unset, .unset] [(.int cap), (.int (0 : Int32)), (.int n)])) := st641.trans (by
                show Steps _ _ _ (T637.setTop (mkF m 142 #[.val (.int x0), .val (.int x1), .val (.int x2), .val (.int x3), .val (.int x4), .val (.int cap), .val (.int n), .val (.ref b6), .val (.ref b14), .val (.ref b25), .val (.ref b110), .unset, .unset, .unset, .unset, .unset] [])) _
                refine XS.iload X637.here hx rfl (hb hby at_142) rfl ?_
                show Steps _ _ _ (T637.setTop (mkF m 144 #[.val (.int x0), .val (.int x1), .val (.int x2), .val (.int x3), .val (.int x4), .val (.int cap), .val (.int n), .val (.ref b6), .val (.ref b14), .val (.ref b25), .val (.ref b110), .unset, .unset, .unset, .unset, .unset] [(.int n)])) _
                refine XS.iconst X637.here hx rfl (hb hby at_144) ?_
                show Steps _ _ _ (T637.setTop (mkF m 145 #[.val (.int x0), .val (.int x1), .val (.int x2), .val (.int x3), .val (.int x4), .val (.int cap), .val (.int n), .val (.ref b6), .val (.ref b14), .val (.ref b25), .val (.ref b110), .unset, .unset, .unset, .unset, .unset] [(.int (0 : Int32)), (.int n)])) _
                refine XS.iload X637.here hx rfl (hb hby at_145) rfl ?_
                exact Steps.refl _)
            obtain ⟨_, _, ⟨T643, L643, k643, n643⟩, -, X643, ⟨Lc643, hQ643, l643, y643, z643⟩, sr643⟩ := Jvm.LawKit.callS X637 hx (y := (⟨"java/lang/Math", "max", "(II)I"⟩ : MethodName)) hown (mvT hZ (hw _ (List.mem_of_getElem? (i := 29) rfl))) (mvT hZ (hw _ (List.mem_of_getElem? (i := 30) rfl))) (mvT hZ (hw _ (List.mem_of_getElem? (i := 31) rfl))) (mvT hZ (hw _ (List.mem_of_getElem? (i := 32) rfl))) (by decide) (backOf (W := 1) (rm5 l Z a0 hw [] (0 : Int32) cap  T255.heap n0 Z264 ) hZ (hw _ (List.mem_of_getElem? (i := 32) rfl)) (hw _ (List.mem_of_getElem? (i := 31) rfl)) (by decide) (by decide)) (g := (mkF m 147 #[.val (.int x0), .val (.int x1), .val (.int x2), .val (.int x3), .val (.int x4), .val (.int cap), .val (.int n), .val (.ref b6), .val (.ref b14), .val (.ref b25), .val (.ref b110), .unset, .unset, .unset, .unset, .unset] [(.int cap), (.int (0 : Int32)), (.int n)])) rfl (by rw [hml]; rfl) (argsL := [(.int (0 : Int32)), (.int cap)]) (rest := [(.int n)]) (lenOf pd_2 rfl) rfl (by show 2 * 0 + _ ≤ _; exact Nat.le_of_eq rfl) (hb hby at_147) (fun _ _ => ⟨rfl, hh637, (by decide : 4 + 0 ≤ _), (by decide : 60 + 0 ≤ _)⟩)
            dsimp only [Pt.U, Pt.locs, Pt.cells, Pt.slots] at X643 l643 y643 z643 sr643 hQ643
            subst l643 y643 z643
            obtain ⟨rfl, N643q, hh643⟩ := hQ643
            have N643 := Fr.app N637 N643q
            obtain ⟨LL643, X643, N643⟩ := own_hide X643 N643
            have st644 : Steps p.tables e below sE (T643.setTop (mkF m 150 #[.val (.int x0), .val (.int x1), .val (.int x2), .val (.int x3), .val (.int x4), .val (.int cap), .val (.int n), .val (.ref b6), .val (.ref b14), .val (.ref b25), .val (.ref b110), .unset, .unset, .unset, .unset, .unset] [(.int (F5 (0 : Int32) cap)), (.int n)])) := st642.trans (sr643 _ (Steps.refl _))
            obtain ⟨_, _, ⟨T645, L645, k645, n645⟩, -, X645, ⟨Lc645, hQ645, l645, y645, z645⟩, sr645⟩ := Jvm.LawKit.callS X643 hx (y := (⟨"java/lang/Math", "min", "(II)I"⟩ : MethodName)) hown (mvT hZ (hw _ (List.mem_of_getElem? (i := 33) rfl))) (mvT hZ (hw _ (List.mem_of_getElem? (i := 34) rfl))) (mvT hZ (hw _ (List.mem_of_getElem? (i := 31) rfl))) (mvT hZ (hw _ (List.mem_of_getElem? (i := 35) rfl))) (by decide) (backOf (W := 0) (rm6 l Z a0 hw [] n (F5 (0 : Int32) cap)  T255.heap n0 Z264 ) hZ (hw _ (List.mem_of_getElem? (i := 35) rfl)) (hw _ (List.mem_of_getElem? (i := 31) rfl)) (by decide) (by decide)) (g := (mkF m 150 #[.val (.int x0), .val (.int x1), .val (.int x2), .val (.int x3), .val (.int x4), .val (.int cap), .val (.int n), .val (.ref b6), .val (.ref b14), .val (.ref b25), .val (.ref b110), .unset, .unset, .unset, .unset, .unset] [(.int (F5 (0 : Int32) cap)), (.int n)])) rfl (by rw [hml]; rfl) (argsL := [(.int n), (.int (F5 (0 : Int32) cap))]) (rest := []) (lenOf pd_2 rfl) rfl (by show 2 * 0 + _ ≤ _; exact Nat.le_of_eq rfl) (hb hby at_150) (fun _ _ => ⟨rfl, hh643, (by decide : 4 + 0 ≤ _), (by decide : 60 + 0 ≤ _)⟩)
            dsimp only [Pt.U, Pt.locs, Pt.cells, Pt.slots] at X645 l645 y645 z645 sr645 hQ645
            subst l645 y645 z645
            obtain ⟨rfl, N645q, hh645⟩ := hQ645
            have N645 := Fr.app N643 N645q
            obtain ⟨LL645, X645, N645⟩ := own_hide X645 N645
            have st646 : Steps p.tables e below sE (T645.setTop (mkF m 153 #[.val (.int x0), .val (.int x1), .val (.int x2), .val (.int x3), .val (.int x4), .val (.int cap), .val (.int n), .val (.ref b6), .val (.ref b14), .val (.ref b25), .val (.ref b110), .unset, .unset, .unset, .unset, .unset] [(.int (F6 n (F5 (0 : Int32) cap)))])) := st644.trans (sr645 _ (Steps.refl _))
            have hs0 := own_lti hc254 (z := 0) (by decide)
            have hs1 := own_nlti hc366 (z := 1) (by decide)
            have hm1 := own_nltr hc139 (z := 1) (by decide)
            have hm2 := own_nltr hc267 (z := 2) (by decide)
            have hm3 := own_ltr hc640 (z := 3) (by decide)
            have hk1 : (1 : Int32).toInt = 1 := by decide
            have hkp : (F6 n (F5 (0 : Int32) cap)) = (1 : Int32) := own_kp n cap (1 : Int32) (by omega)
            rw [hkp] at st646
            have st647 : Steps p.tables e below sE (T645.setTop (mkF m 157 #[.val (.int x0), .val (.int x1), .val (.int x2), .val (.int x3), .val (.int x4), .val (.int cap), .val (.int n), .val (.ref b6), .val (.ref b14), .val (.ref b25), .val (.ref b110), .val (.int (1 : Int32)), .unset, .unset, .unset, .unset] [(.ref b110)])) := st646.trans (by
                show Steps _ _ _ (T645.setTop (mkF m 153 #[.val (.int x0), .val (.int x1), .val (.int x2), .val (.int x3), .val (.int x4), .val (.int cap), .val (.int n), .val (.ref b6), .val (.ref b14), .val (.ref b25), .val (.ref b110), .unset, .unset, .unset, .unset, .unset] [(.int (1 : Int32))])) _
                refine XS.istore X645.here hx rfl (hb hby at_153) rfl (l' := #[.val (.int x0), .val (.int x1), .val (.int x2), .val (.int x3), .val (.int x4), .val (.int cap), .val (.int n), .val (.ref b6), .val (.ref b14), .val (.ref b25), .val (.ref b110), .val (.int (1 : Int32)), .unset, .unset, .unset, .unset]) rfl ?_
                show Steps _ _ _ (T645.setTop (mkF m 155 #[.val (.int x0), .val (.int x1), .val (.int x2), .val (.int x3), .val (.int x4), .val (.int cap), .val (.int n), .val (.ref b6), .val (.ref b14), .val (.ref b25), .val (.ref b110), .val (.int (1 : Int32)), .unset, .unset, .unset, .unset] [])) _
                refine XS.aload X645.here hx rfl (hb hby at_155) rfl rfl ?_
                exact Steps.refl _)
            obtain ⟨cq648, kq648, q648a, q648b, q648c⟩ := isOf hZ hh645 f255_0
            obtain ⟨_, _, ⟨T648, L648, k648, n648⟩, -, X648, ⟨Lc648, hQ648, l648, y648, z648⟩, sr648⟩ := X645.virtualBack hx (y := (⟨"com/example/tideloop/tideloop/MessagePool", "take", "()Lcom/example/tideloop/tideloop/Message;"⟩ : MethodName)) (z := (⟨"com/example/tideloop/tideloop/MessagePool", "take", "()Lcom/example/tideloop/tideloop/Message;"⟩ : MethodName)) hown (mvT hZ (hw _ (List.mem_of_getElem? (i := 36) rfl))) (mvT hZ (hw _ (List.mem_of_getElem? (i := 37) rfl))) (notFace_of_selects (args := #[]) (mvT hZ (hw _ (List.mem_of_getElem? (i := 39) rfl)))) (mvT hZ (hw _ (List.mem_of_getElem? (i := 39) rfl))) (mvT hZ (hw _ (List.mem_of_getElem? (i := 38) rfl))) (by decide) (backOf (W := 0) (rmtk1 l Z a0 hw [] b110 ((0 : Int32) + (1 : Int32)) cap x2 b6 T255.heap n0 Z264 f255_0 f255_1 f255_2 f255_3 f255_4 f255_5 g_b110 g_b6 ne_b6_b110 f255_6) hZ (hw _ (List.mem_of_getElem? (i := 40) rfl)) (hw _ (List.mem_of_getElem? (i := 15) rfl)) (by decide) (by decide)) q648a q648c (g := (mkF m 157 #[.val (.int x0), .val (.int x1), .val (.int x2), .val (.int x3), .val (.int x4), .val (.int cap), .val (.int n), .val (.ref b6), .val (.ref b14), .val (.ref b25), .val (.ref b110), .val (.int (1 : Int32)), .unset, .unset, .unset, .unset] [(.ref b110)])) rfl (by rw [hml]; rfl) (Steps.refl _) (argsL := []) (rest := []) (lenOf pd_3 rfl) rfl (by show 2 * 0 + _ ≤ _; exact Nat.le_of_eq rfl) (hb hby at_157) (fun _ _ => ⟨rfl, hh645, (by decide : 4 + 0 ≤ _), (by decide : 60 + 0 ≤ _)⟩)
            dsimp only [Pt.U, Pt.locs, Pt.cells, Pt.slots] at X648 l648 y648 z648 sr648 hQ648
            subst l648 y648 z648
            obtain ⟨rfl, N648q, K648c, f648_0, f648_1, f648_2, f648_3, f648_4, f648_5, f648_6⟩ := hQ648
            have N648 := Fr.app N645 N648q
            obtain ⟨LL648, X648, N648⟩ := own_hide X648 N648
            have f649 : Exa Z T648.heap b6 "com/example/tideloop/tideloop/Message" := f255_4.keep K648c
            have f650 : Exa Z T648.heap b14 "com/example/tideloop/tideloop/Message" := f257.keep K648c
            have f651 : Exa Z T648.heap b25 "com/example/tideloop/tideloop/Message" := f258.keep K648c
            have f652 : Fld Z T648.heap b14 "com/example/tideloop/tideloop/Message" "what" "I" (.int x3) := f259.keep K648c (ninS ne_b14_b110 (ninS (Ne.symm ne_b6_b14) nin0))
            have f653 : Fld Z T648.heap b25 "com/example/tideloop/tideloop/Message" "what" "I" (.int x4) := f260.keep K648c (ninS ne_b25_b110 (ninS (Ne.symm ne_b6_b25) nin0))
            have f654 : Fld Z T648.heap b14 "com/example/tideloop/tideloop/Message" "nextPooled" "Lcom/example/tideloop/tideloop/Message;" (.ref b6) := f261.keep K648c (ninS ne_b14_b110 (ninS (Ne.symm ne_b6_b14) nin0))
            have f655 : Fld Z T648.heap b25 "com/example/tideloop/tideloop/Message" "nextPooled" "Lcom/example/tideloop/tideloop/Message;" (.ref b14) := f262.keep K648c (ninS ne_b25_b110 (ninS (Ne.symm ne_b6_b25) nin0))
            have f656 : Exa Z T648.heap b110 "com/example/tideloop/tideloop/MessagePool" := f255_0.keep K648c
            have Z657 : n0 ≤ T648.heap.size := Nat.le_trans Z264 K648c.1
            have st658 : Steps p.tables e below sE (T648.setTop (mkF m 160 #[.val (.int x0), .val (.int x1), .val (.int x2), .val (.int x3), .val (.int x4), .val (.int cap), .val (.int n), .val (.ref b6), .val (.ref b14), .val (.ref b25), .val (.ref b110), .val (.int (1 : Int32)), .unset, .unset, .unset, .unset] [(.ref b6)])) := st647.trans (sr648)
            have st659 : Steps p.tables e below sE (T648.setTop (mkF m 164 #[.val (.int x0), .val (.int x1), .val (.int x2), .val (.int x3), .val (.int x4), .val (.int cap), .val (.int n), .val (.ref b6), .val (.ref b14), .val (.ref b25), .val (.ref b110), .val (.int (1 : Int32)), .val (.ref b6), .unset, .unset, .unset] [(.ref b110)])) := st658.trans (by
                show Steps _ _ _ (T648.setTop (mkF m 160 #[.val (.int x0), .val (.int x1), .val (.int x2), .val (.int x3), .val (.int x4), .val (.int cap), .val (.int n), .val (.ref b6), .val (.ref b14), .val (.ref b25), .val (.ref b110), .val (.int (1 : Int32)), .unset, .unset, .unset, .unset] [(.ref b6)])) _
                refine XS.astore X648.here hx rfl (hb hby at_160) rfl rfl (l' := #[.val (.int x0), .val (.int x1), .val (.int x2), .val (.int x3), .val (.int x4), .val (.int cap), .val (.int n), .val (.ref b6), .val (.ref b14), .val (.ref b25), .val (.ref b110), .val (.int (1 : Int32)), .val (.ref b6), .unset, .unset, .unset]) rfl ?_
                show Steps _ _ _ (T648.setTop (mkF m 162 #[.val (.int x0), .val (.int x1), .val (.int x2), .val (.int x3), .val (.int x4), .val (.int cap), .val (.int n), .val (.ref b6), .val (.ref b14), .val (.ref b25), .val (.ref b110), .val (.int (1 : Int32)), .val (.ref b6), .unset, .unset, .unset] [])) _
                refine XS.aload X648.here hx rfl (hb hby at_162) rfl rfl ?_
                exact Steps.refl _)
            obtain ⟨cq660, kq660, q660a, q660b, q660c⟩ := isOf hZ rfl f648_0
            obtain ⟨_, _, ⟨T660, L660, k660, n660⟩, -, X660, ⟨Lc660, hQ660, l660, y660, z660⟩, sr660⟩ := X648.virtualBack hx (y := (⟨"com/example/tideloop/tideloop/MessagePool", "take", "()Lcom/example/tideloop/tideloop/Message;"⟩ : MethodName)) (z := (⟨"com/example/tideloop/tideloop/MessagePool", "take", "()Lcom/example/tideloop/tideloop/Message;"⟩ : MethodName)) hown (mvT hZ (hw _ (List.mem_of_getElem? (i := 36) rfl))) (mvT hZ (hw _ (List.mem_of_getElem? (i := 37) rfl))) (notFace_of_selects (args := #[]) (mvT hZ (hw _ (List.mem_of_getElem? (i := 39) rfl)))) (mvT hZ (hw _ (List.mem_of_getElem? (i := 39) rfl))) (mvT hZ (hw _ (List.mem_of_getElem? (i := 38) rfl))) (by decide) (backOf (W := 0) (rmtk0 l Z a0 hw [] b110  T648.heap n0 Z657 f648_0 f648_3) hZ (hw _ (List.mem_of_getElem? (i := 40) rfl)) (hw _ (List.mem_of_getElem? (i := 15) rfl)) (by decide) (by decide)) q660a q660c (g := (mkF m 164 #[.val (.int x0), .val (.int x1), .val (.int x2), .val (.int x3), .val (.int x4), .val (.int cap), .val (.int n), .val (.ref b6), .val (.ref b14), .val (.ref b25), .val (.ref b110), .val (.int (1 : Int32)), .val (.ref b6), .unset, .unset, .unset] [(.ref b110)])) rfl (by rw [hml]; rfl) (Steps.refl _) (argsL := []) (rest := []) (lenOf pd_3 rfl) rfl (by show 2 * 0 + _ ≤ _; exact Nat.le_of_eq rfl) (hb hby at_164) (fun _ _ => ⟨rfl, rfl, (by decide : 4 + 1 ≤ _), (by decide : 60 + 19 ≤ _)⟩)
            dsimp only [Pt.U, Pt.locs, Pt.cells, Pt.slots] at X660 l660 y660 z660 sr660 hQ660
            subst l660 y660 z660
            obtain ⟨rfl, N660q, K660c, ⟨qe660, qn660, qw660⟩⟩ := hQ660
            have N660 := Fr.app N648 N660q
            obtain ⟨LL660, X660, N660⟩ := own_hide X660 N660
            have f661 : Exa Z T660.heap b6 "com/example/tideloop/tideloop/Message" := f648_4.keep K660c
            have f662 : Exa Z T660.heap b14 "com/example/tideloop/tideloop/Message" := f650.keep K660c
            have f663 : Exa Z T660.heap b25 "com/example/tideloop/tideloop/Message" := f651.keep K660c
            have f664 : Fld Z T660.heap b14 "com/example/tideloop/tideloop/Message" "what" "I" (.int x3) := f652.keep K660c nin0
            have f665 : Fld Z T660.heap b25 "com/example/tideloop/tideloop/Message" "what" "I" (.int x4) := f653.keep K660c nin0
            have f666 : Fld Z T660.heap b14 "com/example/tideloop/tideloop/Message" "nextPooled" "Lcom/example/tideloop/tideloop/Message;" (.ref b6) := f654.keep K660c nin0
            have f667 : Fld Z T660.heap b25 "com/example/tideloop/tideloop/Message" "nextPooled" "Lcom/example/tideloop/tideloop/Message;" (.ref b14) := f655.keep K660c nin0
            have f668 : Exa Z T660.heap b110 "com/example/tideloop/tideloop/MessagePool" := f648_0.keep K660c
            have f669 : Fld Z T660.heap b110 "com/example/tideloop/tideloop/MessagePool" "size" "I" (.int (((0 : Int32) + (1 : Int32)) - (1 : Int32))) := f648_1.keep K660c nin0
            have f670 : Fld Z T660.heap b110 "com/example/tideloop/tideloop/MessagePool" "capacity" "I" (.int cap) := f648_2.keep K660c nin0
            have f671 : Fld Z T660.heap b110 "com/example/tideloop/tideloop/MessagePool" "head" "Lcom/example/tideloop/tideloop/Message;" .null := f648_3.keep K660c nin0
            have f672 : Fld Z T660.heap b6 "com/example/tideloop/tideloop/Message" "what" "I" (.int x2) := f648_5.keep K660c nin0
            have f673 : Fld Z T660.heap b6 "com/example/tideloop/tideloop/Message" "nextPooled" "Lcom/example/tideloop/tideloop/Message;" .null := f648_6.keep K660c nin0
            have Z674 : n0 ≤ T660.heap.size := Nat.le_trans Z657 K660c.1
            obtain ⟨bt660, g660⟩ : ∃ z, z = T648.heap.size := ⟨_, rfl⟩
            rw [← g660] at qe660 qn660 qw660 sr660
            have g_bt660 : n0 ≤ bt660 := Nat.le_trans Z657 (Nat.le_of_eq g660.symm)
            have ne_b6_bt660 : b6 ≠ bt660 := Nat.ne_of_lt (Nat.lt_of_lt_of_le f648_4.lt (Nat.le_of_eq g660.symm))
            have ne_b14_bt660 : b14 ≠ bt660 := Nat.ne_of_lt (Nat.lt_of_lt_of_le f650.lt (Nat.le_of_eq g660.symm))
            have ne_b25_bt660 : b25 ≠ bt660 := Nat.ne_of_lt (Nat.lt_of_lt_of_le f651.lt (Nat.le_of_eq g660.symm))
            have ne_b110_bt660 : b110 ≠ bt660 := Nat.ne_of_lt (Nat.lt_of_lt_of_le f648_0.lt (Nat.le_of_eq g660.symm))
            have st675 : Steps p.tables e below sE (T660.setTop (mkF m 167 #[.val (.int x0), .val (.int x1), .val (.int x2), .val (.int x3), .val (.int x4), .val (.int cap), .val (.int n), .val (.ref b6), .val (.ref b14), .val (.ref b25), .val (.ref b110), .val (.int (1 : Int32)), .val (.ref b6), .unset, .unset, .unset] [(.ref bt660)])) := st659.trans (sr660)
            have st676 : Steps p.tables e below sE (T660.setTop (mkF m 171 #[.val (.int x0), .val (.int x1), .val (.int x2), .val (.int x3), .val (.int x4), .val (.int cap), .val (.int n), .val (.ref b6), .val (.ref b14), .val (.ref b25), .val (.ref b110), .val (.int (1 : Int32)), .val (.ref b6), .val (.ref bt660), .unset, .unset] [(.ref b110)])) := st675.trans (by
                show Steps _ _ _ (T660.setTop (mkF m 167 #[.val (.int x0), .val (.int x1), .val (.int x2), .val (.int x3), .val (.int x4), .val (.int cap), .val (.int n), .val (.ref b6), .val (.ref b14), .val (.ref b25), .val (.ref b110), .val (.int (1 : Int32)), .val (.ref b6), .unset, .unset, .unset] [(.ref bt660)])) _
                refine XS.astore X660.here hx rfl (hb hby at_167) rfl rfl (l' := #[.val (.int x0), .val (.int x1), .val (.int x2), .val (.int x3), .val (.int x4), .val (.int cap), .val (.int n), .val (.ref b6), .val (.ref b14), .val (.ref b25), .val (.ref b110), .val (.int (1 : Int32)), .val (.ref b6), .val (.ref bt660), .unset, .unset]) rfl ?_
                show Steps _ _ _ (T660.setTop (mkF m 169 #[.val (.int x0), .val (.int x1), .val (.int x2), .val (.int x3), .val (.int x4), .val (.int cap), .val (.int n), .val (.ref b6), .val (.ref b14), .val (.ref b25), .val (.ref b110), .val (.int (1 : Int32)), .val (.ref b6), .val (.ref bt660), .unset, .unset] [])) _
                refine XS.aload X660.here hx rfl (hb hby at_169) rfl rfl ?_
                exact Steps.refl _)
            obtain ⟨cq677, kq677, q677a, q677b, q677c⟩ := isOf hZ rfl f668
            obtain ⟨_, _, ⟨T677, L677, k677, n677⟩, -, X677, ⟨Lc677, hQ677, l677, y677, z677⟩, sr677⟩ := X660.virtualBack hx (y := (⟨"com/example/tideloop/tideloop/MessagePool", "take", "()Lcom/example/tideloop/tideloop/Message;"⟩ : MethodName)) (z := (⟨"com/example/tideloop/tideloop/MessagePool", "take", "()Lcom/example/tideloop/tideloop/Message;"⟩ : MethodName)) hown (mvT hZ (hw _ (List.mem_of_getElem? (i := 36) rfl))) (mvT hZ (hw _ (List.mem_of_getElem? (i := 37) rfl))) (notFace_of_selects (args := #[]) (mvT hZ (hw _ (List.mem_of_getElem? (i := 39) rfl)))) (mvT hZ (hw _ (List.mem_of_getElem? (i := 39) rfl))) (mvT hZ (hw _ (List.mem_of_getElem? (i := 38) rfl))) (by decide) (backOf (W := 0) (rmtk0 l Z a0 hw [] b110  T660.heap n0 Z674 f668 f671) hZ (hw _ (List.mem_of_getElem? (i := 40) rfl)) (hw _ (List.mem_of_getElem? (i := 15) rfl)) (by decide) (by decide)) q677a q677c (g := (mkF m 171 #[.val (.int x0), .val (.int x1), .val (.int x2), .val (.int x3), .val (.int x4), .val (.int cap), .val (.int n), .val (.ref b6), .val (.ref b14), .val (.ref b25), .val (.ref b110), .val (.int (1 : Int32)), .val (.ref b6), .val (.ref bt660), .unset, .unset] [(.ref b110)])) rfl (by rw [hml]; rfl) (Steps.refl _) (argsL := []) (rest := []) (lenOf pd_3 rfl) rfl (by show 2 * 0 + _ ≤ _; exact Nat.le_of_eq rfl) (hb hby at_171) (fun _ _ => ⟨rfl, rfl, (by decide : 5 + 1 ≤ _), (by decide : 79 + 19 ≤ _)⟩)
            dsimp only [Pt.U, Pt.locs, Pt.cells, Pt.slots] at X677 l677 y677 z677 sr677 hQ677
            subst l677 y677 z677
            obtain ⟨rfl, N677q, K677c, ⟨qe677, qn677, qw677⟩⟩ := hQ677
            have N677 := Fr.app N660 N677q
            obtain ⟨LL677, X677, N677⟩ := own_hide X677 N677
            have f678 : Exa Z T677.heap b6 "com/example/tideloop/tideloop/Message" := f661.keep K677c
            have f679 : Exa Z T677.heap b14 "com/example/tideloop/tideloop/Message" := f662.keep K677c
            have f680 : Exa Z T677.heap b25 "com/example/tideloop/tideloop/Message" := f663.keep K677c
            have f681 : Fld Z T677.heap b14 "com/example/tideloop/tideloop/Message" "what" "I" (.int x3) := f664.keep K677c nin0
            have f682 : Fld Z T677.heap b25 "com/example/tideloop/tideloop/Message" "what" "I" (.int x4) := f665.keep K677c nin0
            have f683 : Fld Z T677.heap b14 "com/example/tideloop/tideloop/Message" "nextPooled" "Lcom/example/tideloop/tideloop/Message;" (.ref b6) := f666.keep K677c nin0
            have f684 : Fld Z T677.heap b25 "com/example/tideloop/tideloop/Message" "nextPooled" "Lcom/example/tideloop/tideloop/Message;" (.ref b14) := f667.keep K677c nin0
            have f685 : Exa Z T677.heap b110 "com/example/tideloop/tideloop/MessagePool" := f668.keep K677c
            have f686 : Fld Z T677.heap b110 "com/example/tideloop/tideloop/MessagePool" "size" "I" (.int (((0 : Int32) + (1 : Int32)) - (1 : Int32))) := f669.keep K677c nin0
            have f687 : Fld Z T677.heap b110 "com/example/tideloop/tideloop/MessagePool" "capacity" "I" (.int cap) := f670.keep K677c nin0
            have f688 : Fld Z T677.heap b110 "com/example/tideloop/tideloop/MessagePool" "head" "Lcom/example/tideloop/tideloop/Message;" .null := f671.keep K677c nin0
            have f689 : Fld Z T677.heap b6 "com/example/tideloop/tideloop/Message" "what" "I" (.int x2) := f672.keep K677c nin0
            have f690 : Fld Z T677.heap b6 "com/example/tideloop/tideloop/Message" "nextPooled" "Lcom/example/tideloop/tideloop/Message;" .null := f673.keep K677c nin0
            have f691 : Exa Z T677.heap bt660 "com/example/tideloop/tideloop/Message" := qe660.keep K677c
            have f692 : Fld Z T677.heap bt660 "com/example/tideloop/tideloop/Message" "nextPooled" "Lcom/example/tideloop/tideloop/Message;" .null := qn660.keep K677c nin0
            have f693 : Fld Z T677.heap bt660 "com/example/tideloop/tideloop/Message" "what" "I" (.int (0 : Int32)) := qw660.keep K677c nin0
            have Z694 : n0 ≤ T677.heap.size := Nat.le_trans Z674 K677c.1
            obtain ⟨bt677, g677⟩ : ∃ z, z = T660.heap.size := ⟨_, rfl⟩
            rw [← g677] at qe677 qn677 qw677 sr677
            have g_bt677 : n0 ≤ bt677 := Nat.le_trans Z674 (Nat.le_of_eq g677.symm)
            have ne_b6_bt677 : b6 ≠ bt677 := Nat.ne_of_lt (Nat.lt_of_lt_of_le f661.lt (Nat.le_of_eq g677.symm))
            have ne_b14_bt677 : b14 ≠ bt677 := Nat.ne_of_lt (Nat.lt_of_lt_of_le f662.lt (Nat.le_of_eq g677.symm))
            have ne_b25_bt677 : b25 ≠ bt677 := Nat.ne_of_lt (Nat.lt_of_lt_of_le f663.lt (Nat.le_of_eq g677.symm))
            have ne_b110_bt677 : b110 ≠ bt677 := Nat.ne_of_lt (Nat.lt_of_lt_of_le f668.lt (Nat.le_of_eq g677.symm))
            have ne_bt660_bt677 : bt660 ≠ bt677 := Nat.ne_of_lt (Nat.lt_of_lt_of_le qe660.lt (Nat.le_of_eq g677.symm))
            have st695 : Steps p.tables e below sE (T677.setTop (mkF m 174 #[.val (.int x0), .val (.int x1), .val (.int x2), .val (.int x3), .val (.int x4), .val (.int cap), .val (.int n), .val (.ref b6), .val (.ref b14), .val (.ref b25), .val (.ref b110), .val (.int (1 : Int32)), .val (.ref b6), .val (.ref bt660), .unset, .unset] [(.ref bt677)])) := st676.trans (sr677)
            have st696 : Steps p.tables e below sE (T677.setTop (mkF m 178 #[.val (.int x0), .val (.int x1), .val (.int x2), .val (.int x3), .val (.int x4), .val (.int cap), .val (.int n), .val (.ref b6), .val (.ref b14), .val (.ref b25), .val (.ref b110), .val (.int (1 : Int32)), .val (.ref b6), .val (.ref bt660), .val (.ref bt677), .unset] [(.ref b110)])) := st695.trans (by
                show Steps _ _ _ (T677.setTop (mkF m 174 #[.val (.int x0), .val (.int x1), .val (.int x2), .val (.int x3), .val (.int x4), .val (.int cap), .val (.int n), .val (.ref b6), .val (.ref b14), .val (.ref b25), .val (.ref b110), .val (.int (1 : Int32)), .val (.ref b6), .val (.ref bt660), .unset, .unset] [(.ref bt677)])) _
                refine XS.astore X677.here hx rfl (hb hby at_174) rfl rfl (l' := #[.val (.int x0), .val (.int x1), .val (.int x2), .val (.int x3), .val (.int x4), .val (.int cap), .val (.int n), .val (.ref b6), .val (.ref b14), .val (.ref b25), .val (.ref b110), .val (.int (1 : Int32)), .val (.ref b6), .val (.ref bt660), .val (.ref bt677), .unset]) rfl ?_
                show Steps _ _ _ (T677.setTop (mkF m 176 #[.val (.int x0), .val (.int x1), .val (.int x2), .val (.int x3), .val (.int x4), .val (.int cap), .val (.int n), .val (.ref b6), .val (.ref b14), .val (.ref b25), .val (.ref b110), .val (.int (1 : Int32)), .val (.ref b6), .val (.ref bt660), .val (.ref bt677), .unset] [])) _
                refine XS.aload X677.here hx rfl (hb hby at_176) rfl rfl ?_
                exact Steps.refl _)
            obtain ⟨cq697, kq697, q697a, q697b, q697c⟩ := isOf hZ rfl f685
            obtain ⟨_, _, ⟨T697, L697, k697, n697⟩, -, X697, ⟨Lc697, hQ697, l697, y697, z697⟩, sr697⟩ := X677.virtualBack hx (y := (⟨"com/example/tideloop/tideloop/MessagePool", "take", "()Lcom/example/tideloop/tideloop/Message;"⟩ : MethodName)) (z := (⟨"com/example/tideloop/tideloop/MessagePool", "take", "()Lcom/example/tideloop/tideloop/Message;"⟩ : MethodName)) hown (mvT hZ (hw _ (List.mem_of_getElem? (i := 36) rfl))) (mvT hZ (hw _ (List.mem_of_getElem? (i := 37) rfl))) (notFace_of_selects (args := #[]) (mvT hZ (hw _ (List.mem_of_getElem? (i := 39) rfl)))) (mvT hZ (hw _ (List.mem_of_getElem? (i := 39) rfl))) (mvT hZ (hw _ (List.mem_of_getElem? (i := 38) rfl))) (by decide) (backOf (W := 0) (rmtk0 l Z a0 hw [] b110  T677.heap n0 Z694 f685 f688) hZ (hw _ (List.mem_of_getElem? (i := 40) rfl)) (hw _ (List.mem_of_getElem? (i := 15) rfl)) (by decide) (by decide)) q697a q697c (g := (mkF m 178 #[.val (.int x0), .val (.int x1), .val (.int x2), .val (.int x3), .val (.int x4), .val (.int cap), .val (.int n), .val (.ref b6), .val (.ref b14), .val (.ref b25), .val (.ref b110), .val (.int (1 : Int32)), .val (.ref b6), .val (.ref bt660), .val (.ref bt677), .unset] [(.ref b110)])) rfl (by rw [hml]; rfl) (Steps.refl _) (argsL := []) (rest := []) (lenOf pd_3 rfl) rfl (by show 2 * 0 + _ ≤ _; exact Nat.le_of_eq rfl) (hb hby at_178) (fun _ _ => ⟨rfl, rfl, (by decide : 6 + 1 ≤ _), (by decide : 98 + 19 ≤ _)⟩)
            dsimp only [Pt.U, Pt.locs, Pt.cells, Pt.slots] at X697 l697 y697 z697 sr697 hQ697
            subst l697 y697 z697
            obtain ⟨rfl, N697q, K697c, ⟨qe697, qn697, qw697⟩⟩ := hQ697
            have N697 := Fr.app N677 N697q
            obtain ⟨LL697, X697, N697⟩ := own_hide X697 N697
            have f698 : Exa Z T697.heap b6 "com/example/tideloop/tideloop/Message" := f678.keep K697c
            have f699 : Exa Z T697.heap b14 "com/example/tideloop/tideloop/Message" := f679.keep K697c
            have f700 : Exa Z T697.heap b25 "com/example/tideloop/tideloop/Message" := f680.keep K697c
            have f701 : Fld Z T697.heap b14 "com/example/tideloop/tideloop/Message" "what" "I" (.int x3) := f681.keep K697c nin0
            have f702 : Fld Z T697.heap b25 "com/example/tideloop/tideloop/Message" "what" "I" (.int x4) := f682.keep K697c nin0
            have f703 : Fld Z T697.heap b14 "com/example/tideloop/tideloop/Message" "nextPooled" "Lcom/example/tideloop/tideloop/Message;" (.ref b6) := f683.keep K697c nin0
            have f704 : Fld Z T697.heap b25 "com/example/tideloop/tideloop/Message" "nextPooled" "Lcom/example/tideloop/tideloop/Message;" (.ref b14) := f684.keep K697c nin0
            have f705 : Exa Z T697.heap b110 "com/example/tideloop/tideloop/MessagePool" := f685.keep K697c
            have f706 : Fld Z T697.heap b110 "com/example/tideloop/tideloop/MessagePool" "size" "I" (.int (((0 : Int32) + (1 : Int32)) - (1 : Int32))) := f686.keep K697c nin0
            have f707 : Fld Z T697.heap b110 "com/example/tideloop/tideloop/MessagePool" "capacity" "I" (.int cap) := f687.keep K697c nin0
            have f708 : Fld Z T697.heap b110 "com/example/tideloop/tideloop/MessagePool" "head" "Lcom/example/tideloop/tideloop/Message;" .null := f688.keep K697c nin0
            have f709 : Fld Z T697.heap b6 "com/example/tideloop/tideloop/Message" "what" "I" (.int x2) := f689.keep K697c nin0
            have f710 : Fld Z T697.heap b6 "com/example/tideloop/tideloop/Message" "nextPooled" "Lcom/example/tideloop/tideloop/Message;" .null := f690.keep K697c nin0
            have f711 : Exa Z T697.heap bt660 "com/example/tideloop/tideloop/Message" := f691.keep K697c
            have f712 : Fld Z T697.heap bt660 "com/example/tideloop/tideloop/Message" "nextPooled" "Lcom/example/tideloop/tideloop/Message;" .null := f692.keep K697c nin0
            have f713 : Fld Z T697.heap bt660 "com/example/tideloop/tideloop/Message" "what" "I" (.int (0 : Int32)) := f693.keep K697c nin0
            have f714 : Exa Z T697.heap bt677 "com/example/tideloop/tideloop/Message" := qe677.keep K697c
            have f715 : Fld Z T697.heap bt677 "com/example/tideloop/tideloop/Message" "nextPooled" "Lcom/example/tideloop/tideloop/Message;" .null := qn677.keep K697c nin0
            have f716 : Fld Z T697.heap bt677 "com/example/tideloop/tideloop/Message" "what" "I" (.int (0 : Int32)) := qw677.keep K697c nin0
            have Z717 : n0 ≤ T697.heap.size := Nat.le_trans Z694 K697c.1
            obtain ⟨bt697, g697⟩ : ∃ z, z = T677.heap.size := ⟨_, rfl⟩
            rw [← g697] at qe697 qn697 qw697 sr697
            have g_bt697 : n0 ≤ bt697 := Nat.le_trans Z694 (Nat.le_of_eq g697.symm)
            have ne_b6_bt697 : b6 ≠ bt697 := Nat.ne_of_lt (Nat.lt_of_lt_of_le f678.lt (Nat.le_of_eq g697.symm))
            have ne_b14_bt697 : b14 ≠ bt697 := Nat.ne_of_lt (Nat.lt_of_lt_of_le f679.lt (Nat.le_of_eq g697.symm))
            have ne_b25_bt697 : b25 ≠ bt697 := Nat.ne_of_lt (Nat.lt_of_lt_of_le f680.lt (Nat.le_of_eq g697.symm))
            have ne_b110_bt697 : b110 ≠ bt697 := Nat.ne_of_lt (Nat.lt_of_lt_of_le f685.lt (Nat.le_of_eq g697.symm))
            have ne_bt660_bt697 : bt660 ≠ bt697 := Nat.ne_of_lt (Nat.lt_of_lt_of_le f691.lt (Nat.le_of_eq g697.symm))
            have ne_bt677_bt697 : bt677 ≠ bt697 := Nat.ne_of_lt (Nat.lt_of_lt_of_le qe677.lt (Nat.le_of_eq g697.symm))
            have st718 : Steps p.tables e below sE (T697.setTop (mkF m 181 #[.val (.int x0), .val (.int x1), .val (.int x2), .val (.int x3), .val (.int x4), .val (.int cap), .val (.int n), .val (.ref b6), .val (.ref b14), .val (.ref b25), .val (.ref b110), .val (.int (1 : Int32)), .val (.ref b6), .val (.ref bt660), .val (.ref bt677), .unset] [(.ref bt697)])) := st696.trans (sr697)
            have st719 : Steps p.tables e below sE (T697.setTop (mkF m 198 #[.val (.int x0), .val (.int x1), .val (.int x2), .val (.int x3), .val (.int x4), .val (.int cap), .val (.int n), .val (.ref b6), .val (.ref b14), .val (.ref b25), .val (.ref b110), .val (.int (1 : Int32)), .val (.ref b6), .val (.ref bt660), .val (.ref bt677), .val (.ref bt697)] [(.int x4), (.int x3), (.int x2), (.ref b25), (.ref b14), (.ref b6), (.int (1 : Int32)), (.int (1 : Int32)), (.ref b6)])) := st718.trans (by
                show Steps _ _ _ (T697.setTop (mkF m 181 #[.val (.int x0), .val (.int x1), .val (.int x2), .val (.int x3), .val (.int x4), .val (.int cap), .val (.int n), .val (.ref b6), .val (.ref b14), .val (.ref b25), .val (.ref b110), .val (.int (1 : Int32)), .val (.ref b6), .val (.ref bt660), .val (.ref bt677), .unset] [(.ref bt697)])) _
                refine XS.astore X697.here hx rfl (hb hby at_181) rfl rfl (l' := #[.val (.int x0), .val (.int x1), .val (.int x2), .val (.int x3), .val (.int x4), .val (.int cap), .val (.int n), .val (.ref b6), .val (.ref b14), .val (.ref b25), .val (.ref b110), .val (.int (1 : Int32)), .val (.ref b6), .val (.ref bt660), .val (.ref bt677), .val (.ref bt697)]) rfl ?_
                show Steps _ _ _ (T697.setTop (mkF m 183 #[.val (.int x0), .val (.int x1), .val (.int x2), .val (.int x3), .val (.int x4), .val (.int cap), .val (.int n), .val (.ref b6), .val (.ref b14), .val (.ref b25), .val (.ref b110), .val (.int (1 : Int32)), .val (.ref b6), .val (.ref bt660), .val (.ref bt677), .val (.ref bt697)] [])) _
                refine XS.aload X697.here hx rfl (hb hby at_183) rfl rfl ?_
                show Steps _ _ _ (T697.setTop (mkF m 185 #[.val (.int x0), .val (.int x1), .val (.int x2), .val (.int x3), .val (.int x4), .val (.int cap), .val (.int n), .val (.ref b6), .val (.ref b14), .val (.ref b25), .val (.ref b110), .val (.int (1 : Int32)), .val (.ref b6), .val (.ref bt660), .val (.ref bt677), .val (.ref bt697)] [(.ref b6)])) _
                refine XS.iconst X697.here hx rfl (hb hby at_185) ?_
                show Steps _ _ _ (T697.setTop (mkF m 186 #[.val (.int x0), .val (.int x1), .val (.int x2), .val (.int x3), .val (.int x4), .val (.int cap), .val (.int n), .val (.ref b6), .val (.ref b14), .val (.ref b25), .val (.ref b110), .val (.int (1 : Int32)), .val (.ref b6), .val (.ref bt660), .val (.ref bt677), .val (.ref bt697)] [(.int (1 : Int32)), (.ref b6)])) _
                refine XS.iload X697.here hx rfl (hb hby at_186) rfl ?_
                show Steps _ _ _ (T697.setTop (mkF m 188 #[.val (.int x0), .val (.int x1), .val (.int x2), .val (.int x3), .val (.int x4), .val (.int cap), .val (.int n), .val (.ref b6), .val (.ref b14), .val (.ref b25), .val (.ref b110), .val (.int (1 : Int32)), .val (.ref b6), .val (.ref bt660), .val (.ref bt677), .val (.ref bt697)] [(.int (1 : Int32)), (.int (1 : Int32)), (.ref b6)])) _
                refine XS.aload X697.here hx rfl (hb hby at_188) rfl rfl ?_
                show Steps _ _ _ (T697.setTop (mkF m 190 #[.val (.int x0), .val (.int x1), .val (.int x2), .val (.int x3), .val (.int x4), .val (.int cap), .val (.int n), .val (.ref b6), .val (.ref b14), .val (.ref b25), .val (.ref b110), .val (.int (1 : Int32)), .val (.ref b6), .val (.ref bt660), .val (.ref bt677), .val (.ref bt697)] [(.ref b6), (.int (1 : Int32)), (.int (1 : Int32)), (.ref b6)])) _
                refine XS.aload X697.here hx rfl (hb hby at_190) rfl rfl ?_
                show Steps _ _ _ (T697.setTop (mkF m 192 #[.val (.int x0), .val (.int x1), .val (.int x2), .val (.int x3), .val (.int x4), .val (.int cap), .val (.int n), .val (.ref b6), .val (.ref b14), .val (.ref b25), .val (.ref b110), .val (.int (1 : Int32)), .val (.ref b6), .val (.ref bt660), .val (.ref bt677), .val (.ref bt697)] [(.ref b14), (.ref b6), (.int (1 : Int32)), (.int (1 : Int32)), (.ref b6)])) _
                refine XS.aload X697.here hx rfl (hb hby at_192) rfl rfl ?_
                show Steps _ _ _ (T697.setTop (mkF m 194 #[.val (.int x0), .val (.int x1), .val (.int x2), .val (.int x3), .val (.int x4), .val (.int cap), .val (.int n), .val (.ref b6), .val (.ref b14), .val (.ref b25), .val (.ref b110), .val (.int (1 : Int32)), .val (.ref b6), .val (.ref bt660), .val (.ref bt677), .val (.ref bt697)] [(.ref b25), (.ref b14), (.ref b6), (.int (1 : Int32)), (.int (1 : Int32)), (.ref b6)])) _
                refine XS.iloadN X697.here hx rfl (hb hby at_194) rfl ?_
                show Steps _ _ _ (T697.setTop (mkF m 195 #[.val (.int x0), .val (.int x1), .val (.int x2), .val (.int x3), .val (.int x4), .val (.int cap), .val (.int n), .val (.ref b6), .val (.ref b14), .val (.ref b25), .val (.ref b110), .val (.int (1 : Int32)), .val (.ref b6), .val (.ref bt660), .val (.ref bt677), .val (.ref bt697)] [(.int x2), (.ref b25), (.ref b14), (.ref b6), (.int (1 : Int32)), (.int (1 : Int32)), (.ref b6)])) _
                refine XS.iloadN X697.here hx rfl (hb hby at_195) rfl ?_
                show Steps _ _ _ (T697.setTop (mkF m 196 #[.val (.int x0), .val (.int x1), .val (.int x2), .val (.int x3), .val (.int x4), .val (.int cap), .val (.int n), .val (.ref b6), .val (.ref b14), .val (.ref b25), .val (.ref b110), .val (.int (1 : Int32)), .val (.ref b6), .val (.ref bt660), .val (.ref bt677), .val (.ref bt697)] [(.int x3), (.int x2), (.ref b25), (.ref b14), (.ref b6), (.int (1 : Int32)), (.int (1 : Int32)), (.ref b6)])) _
                refine XS.iload X697.here hx rfl (hb hby at_196) rfl ?_
                exact Steps.refl _)
            obtain ⟨_, _, ⟨T720, L720, k720, n720⟩, -, X720, ⟨Lc720, hQ720, l720, y720, z720⟩, sr720⟩ := Jvm.LawKit.callS X697 hx (y := (⟨"com/example/tideloop/tideloop/MessagePoolKeepPinLaw", "check", "(Lcom/example/tideloop/tideloop/Message;IILcom/example/tideloop/tideloop/Message;Lcom/example/tideloop/tideloop/Message;Lcom/example/tideloop/tideloop/Message;III)Z"⟩ : MethodName)) hown (mvT hZ (hw _ (List.mem_of_getElem? (i := 45) rfl))) (mvT hZ (hw _ (List.mem_of_getElem? (i := 46) rfl))) (mvT hZ (hw _ (List.mem_of_getElem? (i := 47) rfl))) (mvT hZ (hw _ (List.mem_of_getElem? (i := 48) rfl))) (by decide) (backOf (W := 0) (rm8 l Z a0 hw [] b6 (1 : Int32) (1 : Int32) b6 b14 b25 x2 x3 x4 x2 T697.heap n0 Z717 f710 f709) hZ (hw _ (List.mem_of_getElem? (i := 48) rfl)) (hw _ (List.mem_of_getElem? (i := 47) rfl)) (by decide) (by decide)) (g := (mkF m 198 #[.val (.int x0), .val (.int x1), .val (.int x2), .val (.int x3), .val (.int x4), .val (.int cap), .val (.int n), .val (.ref b6), .val (.ref b14), .val (.ref b25), .val (.ref b110), .val (.int (1 : Int32)), .val (.ref b6), .val (.ref bt660), .val (.ref bt677), .val (.ref bt697)] [(.int x4), (.int x3), (.int x2), (.ref b25), (.ref b14), (.ref b6), (.int (1 : Int32)), (.int (1 : Int32)), (.ref b6)])) rfl (by rw [hml]; rfl) (argsL := [(.ref b6), (.int (1 : Int32)), (.int (1 : Int32)), (.ref b6), (.ref b14), (.ref b25), (.int x2), (.int x3), (.int x4)]) (rest := []) (lenOf pd_4 rfl) rfl (by show 2 * 0 + _ ≤ _; exact Nat.le_of_eq rfl) (hb hby at_198) (fun _ _ => ⟨rfl, rfl, (by decide : 7 + 0 ≤ _), (by decide : 117 + 0 ≤ _)⟩)
            dsimp only [Pt.U, Pt.locs, Pt.cells, Pt.slots] at X720 l720 y720 z720 sr720 hQ720
            subst l720 y720 z720
            obtain ⟨rfl, N720q, hh720⟩ := hQ720
            have N720 := Fr.app N697 N720q
            obtain ⟨LL720, X720, N720⟩ := own_hide X720 N720
            have st721 : Steps p.tables e below sE (T720.setTop (mkF m 201 #[.val (.int x0), .val (.int x1), .val (.int x2), .val (.int x3), .val (.int x4), .val (.int cap), .val (.int n), .val (.ref b6), .val (.ref b14), .val (.ref b25), .val (.ref b110), .val (.int (1 : Int32)), .val (.ref b6), .val (.ref bt660), .val (.ref bt677), .val (.ref bt697)] [(.int (F8 b6 (1 : Int32) (1 : Int32) b6 b14 b25 x2 x3 x4 x2))])) := st719.trans (sr720 _ (Steps.refl _))
            have hf722 : ¬ ((F8 b6 (1 : Int32) (1 : Int32) b6 b14 b25 x2 x3 x4 x2) = (0 : Int32)) := by simp +decide [F8]
            have st723 : Steps p.tables e below sE (T720.setTop (mkF m 219 #[.val (.int x0), .val (.int x1), .val (.int x2), .val (.int x3), .val (.int x4), .val (.int cap), .val (.int n), .val (.ref b6), .val (.ref b14), .val (.ref b25), .val (.ref b110), .val (.int (1 : Int32)), .val (.ref b6), .val (.ref bt660), .val (.ref bt677), .val (.ref bt697)] [(.int x4), (.int x3), (.int x2), (.ref b25), (.ref b14), (.ref b6), (.int (1 : Int32)), (.int (2 : Int32)), (.ref bt660)])) := st721.trans (by
                show Steps _ _ _ (T720.setTop (mkF m 201 #[.val (.int x0), .val (.int x1), .val (.int x2), .val (.int x3), .val (.int x4), .val (.int cap), .val (.int n), .val (.ref b6), .val (.ref b14), .val (.ref b25), .val (.ref b110), .val (.int (1 : Int32)), .val (.ref b6), .val (.ref bt660), .val (.ref bt677), .val (.ref bt697)] [(.int (F8 b6 (1 : Int32) (1 : Int32) b6 b14 b25 x2 x3 x4 x2))])) _
                refine XS.ifNo X720.here hx rfl (hb hby at_201) rfl ((if0 _ _).trans (feq hf722).1) ?_
                show Steps _ _ _ (T720.setTop (mkF m 204 #[.val (.int x0), .val (.int x1), .val (.int x2), .val (.int x3), .val (.int x4), .val (.int cap), .val (.int n), .val (.ref b6), .val (.ref b14), .val (.ref b25), .val (.ref b110), .val (.int (1 : Int32)), .val (.ref b6), .val (.ref bt660), .val (.ref bt677), .val (.ref bt697)] [])) _
                refine XS.aload X720.here hx rfl (hb hby at_204) rfl rfl ?_
                show Steps _ _ _ (T720.setTop (mkF m 206 #[.val (.int x0), .val (.int x1), .val (.int x2), .val (.int x3), .val (.int x4), .val (.int cap), .val (.int n), .val (.ref b6), .val (.ref b14), .val (.ref b25), .val (.ref b110), .val (.int (1 : Int32)), .val (.ref b6), .val (.ref bt660), .val (.ref bt677), .val (.ref bt697)] [(.ref bt660)])) _
                refine XS.iconst X720.here hx rfl (hb hby at_206) ?_
                show Steps _ _ _ (T720.setTop (mkF m 207 #[.val (.int x0), .val (.int x1), .val (.int x2), .val (.int x3), .val (.int x4), .val (.int cap), .val (.int n), .val (.ref b6), .val (.ref b14), .val (.ref b25), .val (.ref b110), .val (.int (1 : Int32)), .val (.ref b6), .val (.ref bt660), .val (.ref bt677), .val (.ref bt697)] [(.int (2 : Int32)), (.ref bt660)])) _
                refine XS.iload X720.here hx rfl (hb hby at_207) rfl ?_
                show Steps _ _ _ (T720.setTop (mkF m 209 #[.val (.int x0), .val (.int x1), .val (.int x2), .val (.int x3), .val (.int x4), .val (.int cap), .val (.int n), .val (.ref b6), .val (.ref b14), .val (.ref b25), .val (.ref b110), .val (.int (1 : Int32)), .val (.ref b6), .val (.ref bt660), .val (.ref bt677), .val (.ref bt697)] [(.int (1 : Int32)), (.int (2 : Int32)), (.ref bt660)])) _
                refine XS.aload X720.here hx rfl (hb hby at_209) rfl rfl ?_
                show Steps _ _ _ (T720.setTop (mkF m 211 #[.val (.int x0), .val (.int x1), .val (.int x2), .val (.int x3), .val (.int x4), .val (.int cap), .val (.int n), .val (.ref b6), .val (.ref b14), .val (.ref b25), .val (.ref b110), .val (.int (1 : Int32)), .val (.ref b6), .val (.ref bt660), .val (.ref bt677), .val (.ref bt697)] [(.ref b6), (.int (1 : Int32)), (.int (2 : Int32)), (.ref bt660)])) _
                refine XS.aload X720.here hx rfl (hb hby at_211) rfl rfl ?_
                show Steps _ _ _ (T720.setTop (mkF m 213 #[.val (.int x0), .val (.int x1), .val (.int x2), .val (.int x3), .val (.int x4), .val (.int cap), .val (.int n), .val (.ref b6), .val (.ref b14), .val (.ref b25), .val (.ref b110), .val (.int (1 : Int32)), .val (.ref b6), .val (.ref bt660), .val (.ref bt677), .val (.ref bt697)] [(.ref b14), (.ref b6), (.int (1 : Int32)), (.int (2 : Int32)), (.ref bt660)])) _
                refine XS.aload X720.here hx rfl (hb hby at_213) rfl rfl ?_
                show Steps _ _ _ (T720.setTop (mkF m 215 #[.val (.int x0), .val (.int x1), .val (.int x2), .val (.int x3), .val (.int x4), .val (.int cap), .val (.int n), .val (.ref b6), .val (.ref b14), .val (.ref b25), .val (.ref b110), .val (.int (1 : Int32)), .val (.ref b6), .val (.ref bt660), .val (.ref bt677), .val (.ref bt697)] [(.ref b25), (.ref b14), (.ref b6), (.int (1 : Int32)), (.int (2 : Int32)), (.ref bt660)])) _
                refine XS.iloadN X720.here hx rfl (hb hby at_215) rfl ?_
                show Steps _ _ _ (T720.setTop (mkF m 216 #[.val (.int x0), .val (.int x1), .val (.int x2), .val (.int x3), .val (.int x4), .val (.int cap), .val (.int n), .val (.ref b6), .val (.ref b14), .val (.ref b25), .val (.ref b110), .val (.int (1 : Int32)), .val (.ref b6), .val (.ref bt660), .val (.ref bt677), .val (.ref bt697)] [(.int x2), (.ref b25), (.ref b14), (.ref b6), (.int (1 : Int32)), (.int (2 : Int32)), (.ref bt660)])) _
                refine XS.iloadN X720.here hx rfl (hb hby at_216) rfl ?_
                show Steps _ _ _ (T720.setTop (mkF m 217 #[.val (.int x0), .val (.int x1), .val (.int x2), .val (.int x3), .val (.int x4), .val (.int cap), .val (.int n), .val (.ref b6), .val (.ref b14), .val (.ref b25), .val (.ref b110), .val (.int (1 : Int32)), .val (.ref b6), .val (.ref bt660), .val (.ref bt677), .val (.ref bt697)] [(.int x3), (.int x2), (.ref b25), (.ref b14), (.ref b6), (.int (1 : Int32)), (.int (2 : Int32)), (.ref bt660)])) _
                refine XS.iload X720.here hx rfl (hb hby at_217) rfl ?_
                exact Steps.refl _)
            obtain ⟨_, _, ⟨T724, L724, k724, n724⟩, -, X724, ⟨Lc724, hQ724, l724, y724, z724⟩, sr724⟩ := Jvm.LawKit.callS X720 hx (y := (⟨"com/example/tideloop/tideloop/MessagePoolKeepPinLaw", "check", "(Lcom/example/tideloop/tideloop/Message;IILcom/example/tideloop/tideloop/Message;Lcom/example/tideloop/tideloop/Message;Lcom/example/tideloop/tideloop/Message;III)Z"⟩ : MethodName)) hown (mvT hZ (hw _ (List.mem_of_getElem? (i := 45) rfl))) (mvT hZ (hw _ (List.mem_of_getElem? (i := 46) rfl))) (mvT hZ (hw _ (List.mem_of_getElem? (i := 47) rfl))) (mvT hZ (hw _ (List.mem_of_getElem? (i := 48) rfl))) (by decide) (backOf (W := 0) (rm8 l Z a0 hw [] bt660 (2 : Int32) (1 : Int32) b6 b14 b25 x2 x3 x4 (0 : Int32) T697.heap n0 Z717 f712 f713) hZ (hw _ (List.mem_of_getElem? (i := 48) rfl)) (hw _ (List.mem_of_getElem? (i := 47) rfl)) (by decide) (by decide)) (g := (mkF m 219 #[.val (.int x0), .val (.int x1), .val (.int x2), .val (.int x3), .val (.int x4), .val (.int cap), .val (.int n), .val (.ref b6), .val (.ref b14), .val (.ref b25), .val (.ref b110), .val (.int (1 : Int32)), .val (.ref b6), .val (.ref bt660), .val (.ref bt677), .val (.ref bt697)] [(.int x4), (.int x3), (.int x2), (.ref b25), (.ref b14), (.ref b6), (.int (1 : Int32)), (.int (2 : Int32)), (.ref bt660)])) rfl (by rw [hml]; rfl) (argsL := [(.ref bt660), (.int (2 : Int32)), (.int (1 : Int32)), (.ref b6), (.ref b14), (.ref b25), (.int x2), (.int x3), (.int x4)]) (rest := []) (lenOf pd_4 rfl) rfl (by show 2 * 0 + _ ≤ _; exact Nat.le_of_eq rfl) (hb hby at_219) (fun _ _ => ⟨rfl, hh720, (by decide : 7 + 0 ≤ _), (by decide : 117 + 0 ≤ _)⟩)
            dsimp only [Pt.U, Pt.locs, Pt.cells, Pt.slots] at X724 l724 y724 z724 sr724 hQ724
            subst l724 y724 z724
            obtain ⟨rfl, N724q, hh724⟩ := hQ724
            have N724 := Fr.app N720 N724q
            obtain ⟨LL724, X724, N724⟩ := own_hide X724 N724
            have st725 : Steps p.tables e below sE (T724.setTop (mkF m 222 #[.val (.int x0), .val (.int x1), .val (.int x2), .val (.int x3), .val (.int x4), .val (.int cap), .val (.int n), .val (.ref b6), .val (.ref b14), .val (.ref b25), .val (.ref b110), .val (.int (1 : Int32)), .val (.ref b6), .val (.ref bt660), .val (.ref bt677), .val (.ref bt697)] [(.int (F8 bt660 (2 : Int32) (1 : Int32) b6 b14 b25 x2 x3 x4 (0 : Int32)))])) := st723.trans (sr724 _ (Steps.refl _))
            have hf726 : ¬ ((F8 bt660 (2 : Int32) (1 : Int32) b6 b14 b25 x2 x3 x4 (0 : Int32)) = (0 : Int32)) := by simp +decide [F8, (Ne.symm ne_b6_bt660), (Ne.symm ne_b14_bt660), (Ne.symm ne_b25_bt660)]
            have st727 : Steps p.tables e below sE (T724.setTop (mkF m 240 #[.val (.int x0), .val (.int x1), .val (.int x2), .val (.int x3), .val (.int x4), .val (.int cap), .val (.int n), .val (.ref b6), .val (.ref b14), .val (.ref b25), .val (.ref b110), .val (.int (1 : Int32)), .val (.ref b6), .val (.ref bt660), .val (.ref bt677), .val (.ref bt697)] [(.int x4), (.int x3), (.int x2), (.ref b25), (.ref b14), (.ref b6), (.int (1 : Int32)), (.int (3 : Int32)), (.ref bt677)])) := st725.trans (by
                show Steps _ _ _ (T724.setTop (mkF m 222 #[.val (.int x0), .val (.int x1), .val (.int x2), .val (.int x3), .val (.int x4), .val (.int cap), .val (.int n), .val (.ref b6), .val (.ref b14), .val (.ref b25), .val (.ref b110), .val (.int (1 : Int32)), .val (.ref b6), .val (.ref bt660), .val (.ref bt677), .val (.ref bt697)] [(.int (F8 bt660 (2 : Int32) (1 : Int32) b6 b14 b25 x2 x3 x4 (0 : Int32)))])) _
                refine XS.ifNo X724.here hx rfl (hb hby at_222) rfl ((if0 _ _).trans (feq hf726).1) ?_
                show Steps _ _ _ (T724.setTop (mkF m 225 #[.val (.int x0), .val (.int x1), .val (.int x2), .val (.int x3), .val (.int x4), .val (.int cap), .val (.int n), .val (.ref b6), .val (.ref b14), .val (.ref b25), .val (.ref b110), .val (.int (1 : Int32)), .val (.ref b6), .val (.ref bt660), .val (.ref bt677), .val (.ref bt697)] [])) _
                refine XS.aload X724.here hx rfl (hb hby at_225) rfl rfl ?_
                show Steps _ _ _ (T724.setTop (mkF m 227 #[.val (.int x0), .val (.int x1), .val (.int x2), .val (.int x3), .val (.int x4), .val (.int cap), .val (.int n), .val (.ref b6), .val (.ref b14), .val (.ref b25), .val (.ref b110), .val (.int (1 : Int32)), .val (.ref b6), .val (.ref bt660), .val (.ref bt677), .val (.ref bt697)] [(.ref bt677)])) _
                refine XS.iconst X724.here hx rfl (hb hby at_227) ?_
                show Steps _ _ _ (T724.setTop (mkF m 228 #[.val (.int x0), .val (.int x1), .val (.int x2), .val (.int x3), .val (.int x4), .val (.int cap), .val (.int n), .val (.ref b6), .val (.ref b14), .val (.ref b25), .val (.ref b110), .val (.int (1 : Int32)), .val (.ref b6), .val (.ref bt660), .val (.ref bt677), .val (.ref bt697)] [(.int (3 : Int32)), (.ref bt677)])) _
                refine XS.iload X724.here hx rfl (hb hby at_228) rfl ?_
                show Steps _ _ _ (T724.setTop (mkF m 230 #[.val (.int x0), .val (.int x1), .val (.int x2), .val (.int x3), .val (.int x4), .val (.int cap), .val (.int n), .val (.ref b6), .val (.ref b14), .val (.ref b25), .val (.ref b110), .val (.int (1 : Int32)), .val (.ref b6), .val (.ref bt660), .val (.ref bt677), .val (.ref bt697)] [(.int (1 : Int32)), (.int (3 : Int32)), (.ref bt677)])) _
                refine XS.aload X724.here hx rfl (hb hby at_230) rfl rfl ?_
                show Steps _ _ _ (T724.setTop (mkF m 232 #[.val (.int x0), .val (.int x1), .val (.int x2), .val (.int x3), .val (.int x4), .val (.int cap), .val (.int n), .val (.ref b6), .val (.ref b14), .val (.ref b25), .val (.ref b110), .val (.int (1 : Int32)), .val (.ref b6), .val (.ref bt660), .val (.ref bt677), .val (.ref bt697)] [(.ref b6), (.int (1 : Int32)), (.int (3 : Int32)), (.ref bt677)])) _
                refine XS.aload X724.here hx rfl (hb hby at_232) rfl rfl ?_
                show Steps _ _ _ (T724.setTop (mkF m 234 #[.val (.int x0), .val (.int x1), .val (.int x2), .val (.int x3), .val (.int x4), .val (.int cap), .val (.int n), .val (.ref b6), .val (.ref b14), .val (.ref b25), .val (.ref b110), .val (.int (1 : Int32)), .val (.ref b6), .val (.ref bt660), .val (.ref bt677), .val (.ref bt697)] [(.ref b14), (.ref b6), (.int (1 : Int32)), (.int (3 : Int32)), (.ref bt677)])) _
                refine XS.aload X724.here hx rfl (hb hby at_234) rfl rfl ?_
                show Steps _ _ _ (T724.setTop (mkF m 236 #[.val (.int x0), .val (.int x1), .val (.int x2), .val (.int x3), .val (.int x4), .val (.int cap), .val (.int n), .val (.ref b6), .val (.ref b14), .val (.ref b25), .val (.ref b110), .val (.int (1 : Int32)), .val (.ref b6), .val (.ref bt660), .val (.ref bt677), .val (.ref bt697)] [(.ref b25), (.ref b14), (.ref b6), (.int (1 : Int32)), (.int (3 : Int32)), (.ref bt677)])) _
                refine XS.iloadN X724.here hx rfl (hb hby at_236) rfl ?_
                show Steps _ _ _ (T724.setTop (mkF m 237 #[.val (.int x0), .val (.int x1), .val (.int x2), .val (.int x3), .val (.int x4), .val (.int cap), .val (.int n), .val (.ref b6), .val (.ref b14), .val (.ref b25), .val (.ref b110), .val (.int (1 : Int32)), .val (.ref b6), .val (.ref bt660), .val (.ref bt677), .val (.ref bt697)] [(.int x2), (.ref b25), (.ref b14), (.ref b6), (.int (1 : Int32)), (.int (3 : Int32)), (.ref bt677)])) _
                refine XS.iloadN X724.here hx rfl (hb hby at_237) rfl ?_
                show Steps _ _ _ (T724.setTop (mkF m 238 #[.val (.int x0), .val (.int x1), .val (.int x2), .val (.int x3), .val (.int x4), .val (.int cap), .val (.int n), .val (.ref b6), .val (.ref b14), .val (.ref b25), .val (.ref b110), .val (.int (1 : Int32)), .val (.ref b6), .val (.ref bt660), .val (.ref bt677), .val (.ref bt697)] [(.int x3), (.int x2), (.ref b25), (.ref b14), (.ref b6), (.int (1 : Int32)), (.int (3 : Int32)), (.ref bt677)])) _
                refine XS.iload X724.here hx rfl (hb hby at_238) rfl ?_
                exact Steps.refl _)
            obtain ⟨_, _, ⟨T728, L728, k728, n728⟩, -, X728, ⟨Lc728, hQ728, l728, y728, z728⟩, sr728⟩ := Jvm.LawKit.callS X724 hx (y := (⟨"com/example/tideloop/tideloop/MessagePoolKeepPinLaw", "check", "(Lcom/example/tideloop/tideloop/Message;IILcom/example/tideloop/tideloop/Message;Lcom/example/tideloop/tideloop/Message;Lcom/example/tideloop/tideloop/Message;III)Z"⟩ : MethodName)) hown (mvT hZ (hw _ (List.mem_of_getElem? (i := 45) rfl))) (mvT hZ (hw _ (List.mem_of_getElem? (i := 46) rfl))) (mvT hZ (hw _ (List.mem_of_getElem? (i := 47) rfl))) (mvT hZ (hw _ (List.mem_of_getElem? (i := 48) rfl))) (by decide) (backOf (W := 0) (rm8 l Z a0 hw [] bt677 (3 : Int32) (1 : Int32) b6 b14 b25 x2 x3 x4 (0 : Int32) T697.heap n0 Z717 f715 f716) hZ (hw _ (List.mem_of_getElem? (i := 48) rfl)) (hw _ (List.mem_of_getElem? (i := 47) rfl)) (by decide) (by decide)) (g := (mkF m 240 #[.val (.int x0), .val (.int x1), .val (.int x2), .val (.int x3), .val (.int x4), .val (.int cap), .val (.int n), .val (.ref b6), .val (.ref b14), .val (.ref b25), .val (.ref b110), .val (.int (1 : Int32)), .val (.ref b6), .val (.ref bt660), .val (.ref bt677), .val (.ref bt697)] [(.int x4), (.int x3), (.int x2), (.ref b25), (.ref b14), (.ref b6), (.int (1 : Int32)), (.int (3 : Int32)), (.ref bt677)])) rfl (by rw [hml]; rfl) (argsL := [(.ref bt677), (.int (3 : Int32)), (.int (1 : Int32)), (.ref b6), (.ref b14), (.ref b25), (.int x2), (.int x3), (.int x4)]) (rest := []) (lenOf pd_4 rfl) rfl (by show 2 * 0 + _ ≤ _; exact Nat.le_of_eq rfl) (hb hby at_240) (fun _ _ => ⟨rfl, hh724, (by decide : 7 + 0 ≤ _), (by decide : 117 + 0 ≤ _)⟩)
            dsimp only [Pt.U, Pt.locs, Pt.cells, Pt.slots] at X728 l728 y728 z728 sr728 hQ728
            subst l728 y728 z728
            obtain ⟨rfl, N728q, hh728⟩ := hQ728
            have N728 := Fr.app N724 N728q
            obtain ⟨LL728, X728, N728⟩ := own_hide X728 N728
            have st729 : Steps p.tables e below sE (T728.setTop (mkF m 243 #[.val (.int x0), .val (.int x1), .val (.int x2), .val (.int x3), .val (.int x4), .val (.int cap), .val (.int n), .val (.ref b6), .val (.ref b14), .val (.ref b25), .val (.ref b110), .val (.int (1 : Int32)), .val (.ref b6), .val (.ref bt660), .val (.ref bt677), .val (.ref bt697)] [(.int (F8 bt677 (3 : Int32) (1 : Int32) b6 b14 b25 x2 x3 x4 (0 : Int32)))])) := st727.trans (sr728 _ (Steps.refl _))
            have hf730 : ¬ ((F8 bt677 (3 : Int32) (1 : Int32) b6 b14 b25 x2 x3 x4 (0 : Int32)) = (0 : Int32)) := by simp +decide [F8, (Ne.symm ne_b6_bt677), (Ne.symm ne_b14_bt677), (Ne.symm ne_b25_bt677)]
            have st731 : Steps p.tables e below sE (T728.setTop (mkF m 261 #[.val (.int x0), .val (.int x1), .val (.int x2), .val (.int x3), .val (.int x4), .val (.int cap), .val (.int n), .val (.ref b6), .val (.ref b14), .val (.ref b25), .val (.ref b110), .val (.int (1 : Int32)), .val (.ref b6), .val (.ref bt660), .val (.ref bt677), .val (.ref bt697)] [(.int x4), (.int x3), (.int x2), (.ref b25), (.ref b14), (.ref b6), (.int (1 : Int32)), (.int (4 : Int32)), (.ref bt697)])) := st729.trans (by
                show Steps _ _ _ (T728.setTop (mkF m 243 #[.val (.int x0), .val (.int x1), .val (.int x2), .val (.int x3), .val (.int x4), .val (.int cap), .val (.int n), .val (.ref b6), .val (.ref b14), .val (.ref b25), .val (.ref b110), .val (.int (1 : Int32)), .val (.ref b6), .val (.ref bt660), .val (.ref bt677), .val (.ref bt697)] [(.int (F8 bt677 (3 : Int32) (1 : Int32) b6 b14 b25 x2 x3 x4 (0 : Int32)))])) _
                refine XS.ifNo X728.here hx rfl (hb hby at_243) rfl ((if0 _ _).trans (feq hf730).1) ?_
                show Steps _ _ _ (T728.setTop (mkF m 246 #[.val (.int x0), .val (.int x1), .val (.int x2), .val (.int x3), .val (.int x4), .val (.int cap), .val (.int n), .val (.ref b6), .val (.ref b14), .val (.ref b25), .val (.ref b110), .val (.int (1 : Int32)), .val (.ref b6), .val (.ref bt660), .val (.ref bt677), .val (.ref bt697)] [])) _
                refine XS.aload X728.here hx rfl (hb hby at_246) rfl rfl ?_
                show Steps _ _ _ (T728.setTop (mkF m 248 #[.val (.int x0), .val (.int x1), .val (.int x2), .val (.int x3), .val (.int x4), .val (.int cap), .val (.int n), .val (.ref b6), .val (.ref b14), .val (.ref b25), .val (.ref b110), .val (.int (1 : Int32)), .val (.ref b6), .val (.ref bt660), .val (.ref bt677), .val (.ref bt697)] [(.ref bt697)])) _
                refine XS.iconst X728.here hx rfl (hb hby at_248) ?_
                show Steps _ _ _ (T728.setTop (mkF m 249 #[.val (.int x0), .val (.int x1), .val (.int x2), .val (.int x3), .val (.int x4), .val (.int cap), .val (.int n), .val (.ref b6), .val (.ref b14), .val (.ref b25), .val (.ref b110), .val (.int (1 : Int32)), .val (.ref b6), .val (.ref bt660), .val (.ref bt677), .val (.ref bt697)] [(.int (4 : Int32)), (.ref bt697)])) _
                refine XS.iload X728.here hx rfl (hb hby at_249) rfl ?_
                show Steps _ _ _ (T728.setTop (mkF m 251 #[.val (.int x0), .val (.int x1), .val (.int x2), .val (.int x3), .val (.int x4), .val (.int cap), .val (.int n), .val (.ref b6), .val (.ref b14), .val (.ref b25), .val (.ref b110), .val (.int (1 : Int32)), .val (.ref b6), .val (.ref bt660), .val (.ref bt677), .val (.ref bt697)] [(.int (1 : Int32)), (.int (4 : Int32)), (.ref bt697)])) _
                refine XS.aload X728.here hx rfl (hb hby at_251) rfl rfl ?_
                show Steps _ _ _ (T728.setTop (mkF m 253 #[.val (.int x0), .val (.int x1), .val (.int x2), .val (.int x3), .val (.int x4), .val (.int cap), .val (.int n), .val (.ref b6), .val (.ref b14), .val (.ref b25), .val (.ref b110), .val (.int (1 : Int32)), .val (.ref b6), .val (.ref bt660), .val (.ref bt677), .val (.ref bt697)] [(.ref b6), (.int (1 : Int32)), (.int (4 : Int32)), (.ref bt697)])) _
                refine XS.aload X728.here hx rfl (hb hby at_253) rfl rfl ?_
                show Steps _ _ _ (T728.setTop (mkF m 255 #[.val (.int x0), .val (.int x1), .val (.int x2), .val (.int x3), .val (.int x4), .val (.int cap), .val (.int n), .val (.ref b6), .val (.ref b14), .val (.ref b25), .val (.ref b110), .val (.int (1 : Int32)), .val (.ref b6), .val (.ref bt660), .val (.ref bt677), .val (.ref bt697)] [(.ref b14), (.ref b6), (.int (1 : Int32)), (.int (4 : Int32)), (.ref bt697)])) _
                refine XS.aload X728.here hx rfl (hb hby at_255) rfl rfl ?_
                show Steps _ _ _ (T728.setTop (mkF m 257 #[.val (.int x0), .val (.int x1), .val (.int x2), .val (.int x3), .val (.int x4), .val (.int cap), .val (.int n), .val (.ref b6), .val (.ref b14), .val (.ref b25), .val (.ref b110), .val (.int (1 : Int32)), .val (.ref b6), .val (.ref bt660), .val (.ref bt677), .val (.ref bt697)] [(.ref b25), (.ref b14), (.ref b6), (.int (1 : Int32)), (.int (4 : Int32)), (.ref bt697)])) _
                refine XS.iloadN X728.here hx rfl (hb hby at_257) rfl ?_
                show Steps _ _ _ (T728.setTop (mkF m 258 #[.val (.int x0), .val (.int x1), .val (.int x2), .val (.int x3), .val (.int x4), .val (.int cap), .val (.int n), .val (.ref b6), .val (.ref b14), .val (.ref b25), .val (.ref b110), .val (.int (1 : Int32)), .val (.ref b6), .val (.ref bt660), .val (.ref bt677), .val (.ref bt697)] [(.int x2), (.ref b25), (.ref b14), (.ref b6), (.int (1 : Int32)), (.int (4 : Int32)), (.ref bt697)])) _
                refine XS.iloadN X728.here hx rfl (hb hby at_258) rfl ?_
                show Steps _ _ _ (T728.setTop (mkF m 259 #[.val (.int x0), .val (.int x1), .val (.int x2), .val (.int x3), .val (.int x4), .val (.int cap), .val (.int n), .val (.ref b6), .val (.ref b14), .val (.ref b25), .val (.ref b110), .val (.int (1 : Int32)), .val (.ref b6), .val (.ref bt660), .val (.ref bt677), .val (.ref bt697)] [(.int x3), (.int x2), (.ref b25), (.ref b14), (.ref b6), (.int (1 : Int32)), (.int (4 : Int32)), (.ref bt697)])) _
                refine XS.iload X728.here hx rfl (hb hby at_259) rfl ?_
                exact Steps.refl _)
            obtain ⟨_, _, ⟨T732, L732, k732, n732⟩, -, X732, ⟨Lc732, hQ732, l732, y732, z732⟩, sr732⟩ := Jvm.LawKit.callS X728 hx (y := (⟨"com/example/tideloop/tideloop/MessagePoolKeepPinLaw", "check", "(Lcom/example/tideloop/tideloop/Message;IILcom/example/tideloop/tideloop/Message;Lcom/example/tideloop/tideloop/Message;Lcom/example/tideloop/tideloop/Message;III)Z"⟩ : MethodName)) hown (mvT hZ (hw _ (List.mem_of_getElem? (i := 45) rfl))) (mvT hZ (hw _ (List.mem_of_getElem? (i := 46) rfl))) (mvT hZ (hw _ (List.mem_of_getElem? (i := 47) rfl))) (mvT hZ (hw _ (List.mem_of_getElem? (i := 48) rfl))) (by decide) (backOf (W := 0) (rm8 l Z a0 hw [] bt697 (4 : Int32) (1 : Int32) b6 b14 b25 x2 x3 x4 (0 : Int32) T697.heap n0 Z717 qn697 qw697) hZ (hw _ (List.mem_of_getElem? (i := 48) rfl)) (hw _ (List.mem_of_getElem? (i := 47) rfl)) (by decide) (by decide)) (g := (mkF m 261 #[.val (.int x0), .val (.int x1), .val (.int x2), .val (.int x3), .val (.int x4), .val (.int cap), .val (.int n), .val (.ref b6), .val (.ref b14), .val (.ref b25), .val (.ref b110), .val (.int (1 : Int32)), .val (.ref b6), .val (.ref bt660), .val (.ref bt677), .val (.ref bt697)] [(.int x4), (.int x3), (.int x2), (.ref b25), (.ref b14), (.ref b6), (.int (1 : Int32)), (.int (4 : Int32)), (.ref bt697)])) rfl (by rw [hml]; rfl) (argsL := [(.ref bt697), (.int (4 : Int32)), (.int (1 : Int32)), (.ref b6), (.ref b14), (.ref b25), (.int x2), (.int x3), (.int x4)]) (rest := []) (lenOf pd_4 rfl) rfl (by show 2 * 0 + _ ≤ _; exact Nat.le_of_eq rfl) (hb hby at_261) (fun _ _ => ⟨rfl, hh728, (by decide : 7 + 0 ≤ _), (by decide : 117 + 0 ≤ _)⟩)
            dsimp only [Pt.U, Pt.locs, Pt.cells, Pt.slots] at X732 l732 y732 z732 sr732 hQ732
            subst l732 y732 z732
            obtain ⟨rfl, N732q, hh732⟩ := hQ732
            have N732 := Fr.app N728 N732q
            obtain ⟨LL732, X732, N732⟩ := own_hide X732 N732
            have st733 : Steps p.tables e below sE (T732.setTop (mkF m 264 #[.val (.int x0), .val (.int x1), .val (.int x2), .val (.int x3), .val (.int x4), .val (.int cap), .val (.int n), .val (.ref b6), .val (.ref b14), .val (.ref b25), .val (.ref b110), .val (.int (1 : Int32)), .val (.ref b6), .val (.ref bt660), .val (.ref bt677), .val (.ref bt697)] [(.int (F8 bt697 (4 : Int32) (1 : Int32) b6 b14 b25 x2 x3 x4 (0 : Int32)))])) := st731.trans (sr732 _ (Steps.refl _))
            have hf734 : ¬ ((F8 bt697 (4 : Int32) (1 : Int32) b6 b14 b25 x2 x3 x4 (0 : Int32)) = (0 : Int32)) := by simp +decide [F8, (Ne.symm ne_b6_bt697), (Ne.symm ne_b14_bt697), (Ne.symm ne_b25_bt697)]
            have st735 : Steps p.tables e below sE (T732.setTop (mkF m 272 #[.val (.int x0), .val (.int x1), .val (.int x2), .val (.int x3), .val (.int x4), .val (.int cap), .val (.int n), .val (.ref b6), .val (.ref b14), .val (.ref b25), .val (.ref b110), .val (.int (1 : Int32)), .val (.ref b6), .val (.ref bt660), .val (.ref bt677), .val (.ref bt697)] [(.int (1 : Int32))])) := st733.trans (by
                show Steps _ _ _ (T732.setTop (mkF m 264 #[.val (.int x0), .val (.int x1), .val (.int x2), .val (.int x3), .val (.int x4), .val (.int cap), .val (.int n), .val (.ref b6), .val (.ref b14), .val (.ref b25), .val (.ref b110), .val (.int (1 : Int32)), .val (.ref b6), .val (.ref bt660), .val (.ref bt677), .val (.ref bt697)] [(.int (F8 bt697 (4 : Int32) (1 : Int32) b6 b14 b25 x2 x3 x4 (0 : Int32)))])) _
                refine XS.ifNo X732.here hx rfl (hb hby at_264) rfl ((if0 _ _).trans (feq hf734).1) ?_
                show Steps _ _ _ (T732.setTop (mkF m 267 #[.val (.int x0), .val (.int x1), .val (.int x2), .val (.int x3), .val (.int x4), .val (.int cap), .val (.int n), .val (.ref b6), .val (.ref b14), .val (.ref b25), .val (.ref b110), .val (.int (1 : Int32)), .val (.ref b6), .val (.ref bt660), .val (.ref bt677), .val (.ref bt697)] [])) _
                refine XS.iconst X732.here hx rfl (hb hby at_267) ?_
                show Steps _ _ _ (T732.setTop (mkF m 268 #[.val (.int x0), .val (.int x1), .val (.int x2), .val (.int x3), .val (.int x4), .val (.int cap), .val (.int n), .val (.ref b6), .val (.ref b14), .val (.ref b25), .val (.ref b110), .val (.int (1 : Int32)), .val (.ref b6), .val (.ref bt660), .val (.ref bt677), .val (.ref bt697)] [(.int (1 : Int32))])) _
                refine XS.goto X732.here hx rfl (pc0 := 268) (pc' := 272) rfl (hb hby at_268) (by decide) (by decide) ?_
                exact Steps.refl _)
            obtain ⟨fs, hr, hrun, hended, hW, hsame⟩ := X732.leave (v := some (.int (1 : Int32))) (fun h => by rw [Bd.returns] at h; cases h)
            refine ⟨_, _, (own_ent hsE st735).trans ?_, hrun, hended, _, _, rfl, ?_, ⟨_, rfl⟩, hW, hsame.mono (by decide) (by decide)⟩
            · exact retN X732 hx (t := .boolean) Bd.returns (by simp) (hb hby at_272) hr
            · show Q0 Z x0 x1 x2 x3 x4 h0 n0 _ T732.heap _
              rw [hh732]
              exact ⟨rfl, N732⟩
          · have st736 : Steps p.tables e below sE (T637.setTop (mkF m 139 #[.val (.int x0), .val (.int x1), .val (.int x2), .val (.int x3), .val (.int x4), .val (.int cap), .val (.int n), .val (.ref b6), .val (.ref b14), .val (.ref b25), .val (.ref b110), .unset, .unset, .unset, .unset, .unset] [(.ref b25), (.ref b110)])) := st639.trans (by
                show Steps _ _ _ (T637.setTop (mkF m 132 #[.val (.int x0), .val (.int x1), .val (.int x2), .val (.int x3), .val (.int x4), .val (.int cap), .val (.int n), .val (.ref b6), .val (.ref b14), .val (.ref b25), .val (.ref b110), .unset, .unset, .unset, .unset, .unset] [(.int (3 : Int32)), (.int n)])) _
                refine XS.icmpNo X637.here hx rfl (hb hby at_132) rfl (flt hc640).1 ?_
                show Steps _ _ _ (T637.setTop (mkF m 135 #[.val (.int x0), .val (.int x1), .val (.int x2), .val (.int x3), .val (.int x4), .val (.int cap), .val (.int n), .val (.ref b6), .val (.ref b14), .val (.ref b25), .val (.ref b110), .unset, .unset, .unset, .unset, .unset] [])) _
                refine XS.aload X637.here hx rfl (hb hby at_135) rfl rfl ?_
                show Steps _ _ _ (T637.setTop (mkF m 137 #[.val (.int x0), .val (.int x1), .val (.int x2), .val (.int x3), .val (.int x4), .val (.int cap), .val (.int n), .val (.ref b6), .val (.ref b14), .val (.ref b25), .val (.ref b110), .unset, .unset, .unset, .unset, .unset] [(.ref b110)])) _
                refine XS.aload X637.here hx rfl (hb hby at_137) rfl rfl ?_
                exact Steps.refl _)
            obtain ⟨cq737, kq737, q737a, q737b, q737c⟩ := isOf hZ hh637 f255_0
            obtain ⟨_, _, ⟨T737, L737, k737, n737⟩, -, X737, ⟨Lc737, hQ737, l737, y737, z737⟩, sr737⟩ := X637.virtualBack hx (y := (⟨"com/example/tideloop/tideloop/MessagePool", "keep", "(Lcom/example/tideloop/tideloop/Message;)V"⟩ : MethodName)) (z := (⟨"com/example/tideloop/tideloop/MessagePool", "keep", "(Lcom/example/tideloop/tideloop/Message;)V"⟩ : MethodName)) hown (mvT hZ (hw _ (List.mem_of_getElem? (i := 22) rfl))) (mvT hZ (hw _ (List.mem_of_getElem? (i := 23) rfl))) (notFace_of_selects (args := #[]) (mvT hZ (hw _ (List.mem_of_getElem? (i := 25) rfl)))) (mvT hZ (hw _ (List.mem_of_getElem? (i := 25) rfl))) (mvT hZ (hw _ (List.mem_of_getElem? (i := 24) rfl))) (by decide) (backOf (W := 0) (rmkn l Z a0 hw [] b110 b25 ((0 : Int32) + (1 : Int32)) cap T255.heap n0 Z264 f255_0 f255_1 f255_2 hc366) hZ (hw _ (List.mem_of_getElem? (i := 26) rfl)) (hw _ (List.mem_of_getElem? (i := 15) rfl)) (by decide) (by decide)) q737a q737c (g := (mkF m 139 #[.val (.int x0), .val (.int x1), .val (.int x2), .val (.int x3), .val (.int x4), .val (.int cap), .val (.int n), .val (.ref b6), .val (.ref b14), .val (.ref b25), .val (.ref b110), .unset, .unset, .unset, .unset, .unset] [(.ref b25), (.ref b110)])) rfl (by rw [hml]; rfl) (Steps.refl _) (argsL := [(.ref b25)]) (rest := []) (lenOf pd_5 rfl) rfl (by show 2 * 0 + _ ≤ _; exact Nat.le_of_eq rfl) (hb hby at_139) (fun _ _ => ⟨rfl, hh637, (by decide : 4 + 0 ≤ _), (by decide : 60 + 0 ≤ _)⟩)
            dsimp only [Pt.U, Pt.locs, Pt.cells, Pt.slots] at X737 l737 y737 z737 sr737 hQ737
            subst l737 y737 z737
            obtain ⟨rfl, N737q, hh737⟩ := hQ737
            have N737 := Fr.app N637 N737q
            obtain ⟨LL737, X737, N737⟩ := own_hide X737 N737
            have st738 : Steps p.tables e below sE (T737.setTop (mkF m 142 #[.val (.int x0), .val (.int x1), .val (.int x2), .val (.int x3), .val (.int x4), .val (.int cap), .val (.int n), .val (.ref b6), .val (.ref b14), .val (.ref b25), .val (.ref b110), .unset, .unset, .unset, .unset, .unset] [])) := st736.trans (sr737)
            have st739 : Steps p.tables e below sE (T737.setTop (mkF m 147 #[.val (.int x0), .val (.int x1), .val (.int x2), .val (.int x3), .val (.int x4), .val (.int cap), .val (.int n), .val (.ref b6), .val (.ref b14), .val (.ref b25), .val (.ref b110), .unset, .unset, .unset, .unset, .unset] [(.int cap), (.int (0 : Int32)), (.int n)])) := st738.trans (by
                show Steps _ _ _ (T737.setTop (mkF m 142 #[.val (.int x0), .val (.int x1), .val (.int x2), .val (.int x3), .val (.int x4), .val (.int cap), .val (.int n), .val (.ref b6), .val (.ref b14), .val (.ref b25), .val (.ref b110), .unset, .unset, .unset, .unset, .unset] [])) _
                refine XS.iload X737.here hx rfl (hb hby at_142) rfl ?_
                show Steps _ _ _ (T737.setTop (mkF m 144 #[.val (.int x0), .val (.int x1), .val (.int x2), .val (.int x3), .val (.int x4), .val (.int cap), .val (.int n), .val (.ref b6), .val (.ref b14), .val (.ref b25), .val (.ref b110), .unset, .unset, .unset, .unset, .unset] [(.int n)])) _
                refine XS.iconst X737.here hx rfl (hb hby at_144) ?_
                show Steps _ _ _ (T737.setTop (mkF m 145 #[.val (.int x0), .val (.int x1), .val (.int x2), .val (.int x3), .val (.int x4), .val (.int cap), .val (.int n), .val (.ref b6), .val (.ref b14), .val (.ref b25), .val (.ref b110), .unset, .unset, .unset, .unset, .unset] [(.int (0 : Int32)), (.int n)])) _
                refine XS.iload X737.here hx rfl (hb hby at_145) rfl ?_
                exact Steps.refl _)
            obtain ⟨_, _, ⟨T740, L740, k740, n740⟩, -, X740, ⟨Lc740, hQ740, l740, y740, z740⟩, sr740⟩ := Jvm.LawKit.callS X737 hx (y := (⟨"java/lang/Math", "max", "(II)I"⟩ : MethodName)) hown (mvT hZ (hw _ (List.mem_of_getElem? (i := 29) rfl))) (mvT hZ (hw _ (List.mem_of_getElem? (i := 30) rfl))) (mvT hZ (hw _ (List.mem_of_getElem? (i := 31) rfl))) (mvT hZ (hw _ (List.mem_of_getElem? (i := 32) rfl))) (by decide) (backOf (W := 1) (rm5 l Z a0 hw [] (0 : Int32) cap  T255.heap n0 Z264 ) hZ (hw _ (List.mem_of_getElem? (i := 32) rfl)) (hw _ (List.mem_of_getElem? (i := 31) rfl)) (by decide) (by decide)) (g := (mkF m 147 #[.val (.int x0), .val (.int x1), .val (.int x2), .val (.int x3), .val (.int x4), .val (.int cap), .val (.int n), .val (.ref b6), .val (.ref b14), .val (.ref b25), .val (.ref b110), .unset, .unset, .unset, .unset, .unset] [(.int cap), (.int (0 : Int32)), (.int n)])) rfl (by rw [hml]; rfl) (argsL := [(.int (0 : Int32)), (.int cap)]) (rest := [(.int n)]) (lenOf pd_2 rfl) rfl (by show 2 * 0 + _ ≤ _; exact Nat.le_of_eq rfl) (hb hby at_147) (fun _ _ => ⟨rfl, hh737, (by decide : 4 + 0 ≤ _), (by decide : 60 + 0 ≤ _)⟩)
            dsimp only [Pt.U, Pt.locs, Pt.cells, Pt.slots] at X740 l740 y740 z740 sr740 hQ740
            subst l740 y740 z740
            obtain ⟨rfl, N740q, hh740⟩ := hQ740
            have N740 := Fr.app N737 N740q
            obtain ⟨LL740, X740, N740⟩ := own_hide X740 N740
            have st741 : Steps p.tables e below sE (T740.setTop (mkF m 150 #[.val (.int x0), .val (.int x1), .val (.int x2), .val (.int x3), .val (.int x4), .val (.int cap), .val (.int n), .val (.ref b6), .val (.ref b14), .val (.ref b25), .val (.ref b110), .unset, .unset, .unset, .unset, .unset] [(.int (F5 (0 : Int32) cap)), (.int n)])) := st739.trans (sr740 _ (Steps.refl _))
            obtain ⟨_, _, ⟨T742, L742, k742, n742⟩, -, X742, ⟨Lc742, hQ742, l742, y742, z742⟩, sr742⟩ := Jvm.LawKit.callS X740 hx (y := (⟨"java/lang/Math", "min", "(II)I"⟩ : MethodName)) hown (mvT hZ (hw _ (List.mem_of_getElem? (i := 33) rfl))) (mvT hZ (hw _ (List.mem_of_getElem? (i := 34) rfl))) (mvT hZ (hw _ (List.mem_of_getElem? (i := 31) rfl))) (mvT hZ (hw _ (List.mem_of_getElem? (i := 35) rfl))) (by decide) (backOf (W := 0) (rm6 l Z a0 hw [] n (F5 (0 : Int32) cap)  T255.heap n0 Z264 ) hZ (hw _ (List.mem_of_getElem? (i := 35) rfl)) (hw _ (List.mem_of_getElem? (i := 31) rfl)) (by decide) (by decide)) (g := (mkF m 150 #[.val (.int x0), .val (.int x1), .val (.int x2), .val (.int x3), .val (.int x4), .val (.int cap), .val (.int n), .val (.ref b6), .val (.ref b14), .val (.ref b25), .val (.ref b110), .unset, .unset, .unset, .unset, .unset] [(.int (F5 (0 : Int32) cap)), (.int n)])) rfl (by rw [hml]; rfl) (argsL := [(.int n), (.int (F5 (0 : Int32) cap))]) (rest := []) (lenOf pd_2 rfl) rfl (by show 2 * 0 + _ ≤ _; exact Nat.le_of_eq rfl) (hb hby at_150) (fun _ _ => ⟨rfl, hh740, (by decide : 4 + 0 ≤ _), (by decide : 60 + 0 ≤ _)⟩)
            dsimp only [Pt.U, Pt.locs, Pt.cells, Pt.slots] at X742 l742 y742 z742 sr742 hQ742
            subst l742 y742 z742
            obtain ⟨rfl, N742q, hh742⟩ := hQ742
            have N742 := Fr.app N740 N742q
            obtain ⟨LL742, X742, N742⟩ := own_hide X742 N742
            have st743 : Steps p.tables e below sE (T742.setTop (mkF m 153 #[.val (.int x0), .val (.int x1), .val (.int x2), .val (.int x3), .val (.int x4), .val (.int cap), .val (.int n), .val (.ref b6), .val (.ref b14), .val (.ref b25), .val (.ref b110), .unset, .unset, .unset, .unset, .unset] [(.int (F6 n (F5 (0 : Int32) cap)))])) := st741.trans (sr742 _ (Steps.refl _))
            have hs0 := own_lti hc254 (z := 0) (by decide)
            have hs1 := own_nlti hc366 (z := 1) (by decide)
            have hm1 := own_nltr hc139 (z := 1) (by decide)
            have hm2 := own_nltr hc267 (z := 2) (by decide)
            have hm3 := own_nltr hc640 (z := 3) (by decide)
            have hk1 : (1 : Int32).toInt = 1 := by decide
            have hkp : (F6 n (F5 (0 : Int32) cap)) = (1 : Int32) := own_kp n cap (1 : Int32) (by omega)
            rw [hkp] at st743
            have st744 : Steps p.tables e below sE (T742.setTop (mkF m 157 #[.val (.int x0), .val (.int x1), .val (.int x2), .val (.int x3), .val (.int x4), .val (.int cap), .val (.int n), .val (.ref b6), .val (.ref b14), .val (.ref b25), .val (.ref b110), .val (.int (1 : Int32)), .unset, .unset, .unset, .unset] [(.ref b110)])) := st743.trans (by
                show Steps _ _ _ (T742.setTop (mkF m 153 #[.val (.int x0), .val (.int x1), .val (.int x2), .val (.int x3), .val (.int x4), .val (.int cap), .val (.int n), .val (.ref b6), .val (.ref b14), .val (.ref b25), .val (.ref b110), .unset, .unset, .unset, .unset, .unset] [(.int (1 : Int32))])) _
                refine XS.istore X742.here hx rfl (hb hby at_153) rfl (l' := #[.val (.int x0), .val (.int x1), .val (.int x2), .val (.int x3), .val (.int x4), .val (.int cap), .val (.int n), .val (.ref b6), .val (.ref b14), .val (.ref b25), .val (.ref b110), .val (.int (1 : Int32)), .unset, .unset, .unset, .unset]) rfl ?_
                show Steps _ _ _ (T742.setTop (mkF m 155 #[.val (.int x0), .val (.int x1), .val (.int x2), .val (.int x3), .val (.int x4), .val (.int cap), .val (.int n), .val (.ref b6), .val (.ref b14), .val (.ref b25), .val (.ref b110), .val (.int (1 : Int32)), .unset, .unset, .unset, .unset] [])) _
                refine XS.aload X742.here hx rfl (hb hby at_155) rfl rfl ?_
                exact Steps.refl _)
            obtain ⟨cq745, kq745, q745a, q745b, q745c⟩ := isOf hZ hh742 f255_0
            obtain ⟨_, _, ⟨T745, L745, k745, n745⟩, -, X745, ⟨Lc745, hQ745, l745, y745, z745⟩, sr745⟩ := X742.virtualBack hx (y := (⟨"com/example/tideloop/tideloop/MessagePool", "take", "()Lcom/example/tideloop/tideloop/Message;"⟩ : MethodName)) (z := (⟨"com/example/tideloop/tideloop/MessagePool", "take", "()Lcom/example/tideloop/tideloop/Message;"⟩ : MethodName)) hown (mvT hZ (hw _ (List.mem_of_getElem? (i := 36) rfl))) (mvT hZ (hw _ (List.mem_of_getElem? (i := 37) rfl))) (notFace_of_selects (args := #[]) (mvT hZ (hw _ (List.mem_of_getElem? (i := 39) rfl)))) (mvT hZ (hw _ (List.mem_of_getElem? (i := 39) rfl))) (mvT hZ (hw _ (List.mem_of_getElem? (i := 38) rfl))) (by decide) (backOf (W := 0) (rmtk1 l Z a0 hw [] b110 ((0 : Int32) + (1 : Int32)) cap x2 b6 T255.heap n0 Z264 f255_0 f255_1 f255_2 f255_3 f255_4 f255_5 g_b110 g_b6 ne_b6_b110 f255_6) hZ (hw _ (List.mem_of_getElem? (i := 40) rfl)) (hw _ (List.mem_of_getElem? (i := 15) rfl)) (by decide) (by decide)) q745a q745c (g := (mkF m 157 #[.val (.int x0), .val (.int x1), .val (.int x2), .val (.int x3), .val (.int x4), .val (.int cap), .val (.int n), .val (.ref b6), .val (.ref b14), .val (.ref b25), .val (.ref b110), .val (.int (1 : Int32)), .unset, .unset, .unset, .unset] [(.ref b110)])) rfl (by rw [hml]; rfl) (Steps.refl _) (argsL := []) (rest := []) (lenOf pd_3 rfl) rfl (by show 2 * 0 + _ ≤ _; exact Nat.le_of_eq rfl) (hb hby at_157) (fun _ _ => ⟨rfl, hh742, (by decide : 4 + 0 ≤ _), (by decide : 60 + 0 ≤ _)⟩)
            dsimp only [Pt.U, Pt.locs, Pt.cells, Pt.slots] at X745 l745 y745 z745 sr745 hQ745
            subst l745 y745 z745
            obtain ⟨rfl, N745q, K745c, f745_0, f745_1, f745_2, f745_3, f745_4, f745_5, f745_6⟩ := hQ745
            have N745 := Fr.app N742 N745q
            obtain ⟨LL745, X745, N745⟩ := own_hide X745 N745
            have f746 : Exa Z T745.heap b6 "com/example/tideloop/tideloop/Message" := f255_4.keep K745c
            have f747 : Exa Z T745.heap b14 "com/example/tideloop/tideloop/Message" := f257.keep K745c
            have f748 : Exa Z T745.heap b25 "com/example/tideloop/tideloop/Message" := f258.keep K745c
            have f749 : Fld Z T745.heap b14 "com/example/tideloop/tideloop/Message" "what" "I" (.int x3) := f259.keep K745c (ninS ne_b14_b110 (ninS (Ne.symm ne_b6_b14) nin0))
            have f750 : Fld Z T745.heap b25 "com/example/tideloop/tideloop/Message" "what" "I" (.int x4) := f260.keep K745c (ninS ne_b25_b110 (ninS (Ne.symm ne_b6_b25) nin0))
            have f751 : Fld Z T745.heap b14 "com/example/tideloop/tideloop/Message" "nextPooled" "Lcom/example/tideloop/tideloop/Message;" (.ref b6) := f261.keep K745c (ninS ne_b14_b110 (ninS (Ne.symm ne_b6_b14) nin0))
            have f752 : Fld Z T745.heap b25 "com/example/tideloop/tideloop/Message" "nextPooled" "Lcom/example/tideloop/tideloop/Message;" (.ref b14) := f262.keep K745c (ninS ne_b25_b110 (ninS (Ne.symm ne_b6_b25) nin0))
            have f753 : Exa Z T745.heap b110 "com/example/tideloop/tideloop/MessagePool" := f255_0.keep K745c
            have Z754 : n0 ≤ T745.heap.size := Nat.le_trans Z264 K745c.1
            have st755 : Steps p.tables e below sE (T745.setTop (mkF m 160 #[.val (.int x0), .val (.int x1), .val (.int x2), .val (.int x3), .val (.int x4), .val (.int cap), .val (.int n), .val (.ref b6), .val (.ref b14), .val (.ref b25), .val (.ref b110), .val (.int (1 : Int32)), .unset, .unset, .unset, .unset] [(.ref b6)])) := st744.trans (sr745)
            have st756 : Steps p.tables e below sE (T745.setTop (mkF m 164 #[.val (.int x0), .val (.int x1), .val (.int x2), .val (.int x3), .val (.int x4), .val (.int cap), .val (.int n), .val (.ref b6), .val (.ref b14), .val (.ref b25), .val (.ref b110), .val (.int (1 : Int32)), .val (.ref b6), .unset, .unset, .unset] [(.ref b110)])) := st755.trans (by
                show Steps _ _ _ (T745.setTop (mkF m 160 #[.val (.int x0), .val (.int x1), .val (.int x2), .val (.int x3), .val (.int x4), .val (.int cap), .val (.int n), .val (.ref b6), .val (.ref b14), .val (.ref b25), .val (.ref b110), .val (.int (1 : Int32)), .unset, .unset, .unset, .unset] [(.ref b6)])) _
                refine XS.astore X745.here hx rfl (hb hby at_160) rfl rfl (l' := #[.val (.int x0), .val (.int x1), .val (.int x2), .val (.int x3), .val (.int x4), .val (.int cap), .val (.int n), .val (.ref b6), .val (.ref b14), .val (.ref b25), .val (.ref b110), .val (.int (1 : Int32)), .val (.ref b6), .unset, .unset, .unset]) rfl ?_
                show Steps _ _ _ (T745.setTop (mkF m 162 #[.val (.int x0), .val (.int x1), .val (.int x2), .val (.int x3), .val (.int x4), .val (.int cap), .val (.int n), .val (.ref b6), .val (.ref b14), .val (.ref b25), .val (.ref b110), .val (.int (1 : Int32)), .val (.ref b6), .unset, .unset, .unset] [])) _
                refine XS.aload X745.here hx rfl (hb hby at_162) rfl rfl ?_
                exact Steps.refl _)
            obtain ⟨cq757, kq757, q757a, q757b, q757c⟩ := isOf hZ rfl f745_0
            obtain ⟨_, _, ⟨T757, L757, k757, n757⟩, -, X757, ⟨Lc757, hQ757, l757, y757, z757⟩, sr757⟩ := X745.virtualBack hx (y := (⟨"com/example/tideloop/tideloop/MessagePool", "take", "()Lcom/example/tideloop/tideloop/Message;"⟩ : MethodName)) (z := (⟨"com/example/tideloop/tideloop/MessagePool", "take", "()Lcom/example/tideloop/tideloop/Message;"⟩ : MethodName)) hown (mvT hZ (hw _ (List.mem_of_getElem? (i := 36) rfl))) (mvT hZ (hw _ (List.mem_of_getElem? (i := 37) rfl))) (notFace_of_selects (args := #[]) (mvT hZ (hw _ (List.mem_of_getElem? (i := 39) rfl)))) (mvT hZ (hw _ (List.mem_of_getElem? (i := 39) rfl))) (mvT hZ (hw _ (List.mem_of_getElem? (i := 38) rfl))) (by decide) (backOf (W := 0) (rmtk0 l Z a0 hw [] b110  T745.heap n0 Z754 f745_0 f745_3) hZ (hw _ (List.mem_of_getElem? (i := 40) rfl)) (hw _ (List.mem_of_getElem? (i := 15) rfl)) (by decide) (by decide)) q757a q757c (g := (mkF m 164 #[.val (.int x0), .val (.int x1), .val (.int x2), .val (.int x3), .val (.int x4), .val (.int cap), .val (.int n), .val (.ref b6), .val (.ref b14), .val (.ref b25), .val (.ref b110), .val (.int (1 : Int32)), .val (.ref b6), .unset, .unset, .unset] [(.ref b110)])) rfl (by rw [hml]; rfl) (Steps.refl _) (argsL := []) (rest := []) (lenOf pd_3 rfl) rfl (by show 2 * 0 + _ ≤ _; exact Nat.le_of_eq rfl) (hb hby at_164) (fun _ _ => ⟨rfl, rfl, (by decide : 4 + 1 ≤ _), (by decide : 60 + 19 ≤ _)⟩)
            dsimp only [Pt.U, Pt.locs, Pt.cells, Pt.slots] at X757 l757 y757 z757 sr757 hQ757
            subst l757 y757 z757
            obtain ⟨rfl, N757q, K757c, ⟨qe757, qn757, qw757⟩⟩ := hQ757
            have N757 := Fr.app N745 N757q
            obtain ⟨LL757, X757, N757⟩ := own_hide X757 N757
            have f758 : Exa Z T757.heap b6 "com/example/tideloop/tideloop/Message" := f745_4.keep K757c
            have f759 : Exa Z T757.heap b14 "com/example/tideloop/tideloop/Message" := f747.keep K757c
            have f760 : Exa Z T757.heap b25 "com/example/tideloop/tideloop/Message" := f748.keep K757c
            have f761 : Fld Z T757.heap b14 "com/example/tideloop/tideloop/Message" "what" "I" (.int x3) := f749.keep K757c nin0
            have f762 : Fld Z T757.heap b25 "com/example/tideloop/tideloop/Message" "what" "I" (.int x4) := f750.keep K757c nin0
            have f763 : Fld Z T757.heap b14 "com/example/tideloop/tideloop/Message" "nextPooled" "Lcom/example/tideloop/tideloop/Message;" (.ref b6) := f751.keep K757c nin0
            have f764 : Fld Z T757.heap b25 "com/example/tideloop/tideloop/Message" "nextPooled" "Lcom/example/tideloop/tideloop/Message;" (.ref b14) := f752.keep K757c nin0
            have f765 : Exa Z T757.heap b110 "com/example/tideloop/tideloop/MessagePool" := f745_0.keep K757c
            have f766 : Fld Z T757.heap b110 "com/example/tideloop/tideloop/MessagePool" "size" "I" (.int (((0 : Int32) + (1 : Int32)) - (1 : Int32))) := f745_1.keep K757c nin0
            have f767 : Fld Z T757.heap b110 "com/example/tideloop/tideloop/MessagePool" "capacity" "I" (.int cap) := f745_2.keep K757c nin0
            have f768 : Fld Z T757.heap b110 "com/example/tideloop/tideloop/MessagePool" "head" "Lcom/example/tideloop/tideloop/Message;" .null := f745_3.keep K757c nin0
            have f769 : Fld Z T757.heap b6 "com/example/tideloop/tideloop/Message" "what" "I" (.int x2) := f745_5.keep K757c nin0
            have f770 : Fld Z T757.heap b6 "com/example/tideloop/tideloop/Message" "nextPooled" "Lcom/example/tideloop/tideloop/Message;" .null := f745_6.keep K757c nin0
            have Z771 : n0 ≤ T757.heap.size := Nat.le_trans Z754 K757c.1
            obtain ⟨bt757, g757⟩ : ∃ z, z = T745.heap.size := ⟨_, rfl⟩
            rw [← g757] at qe757 qn757 qw757 sr757
            have g_bt757 : n0 ≤ bt757 := Nat.le_trans Z754 (Nat.le_of_eq g757.symm)
            have ne_b6_bt757 : b6 ≠ bt757 := Nat.ne_of_lt (Nat.lt_of_lt_of_le f745_4.lt (Nat.le_of_eq g757.symm))
            have ne_b14_bt757 : b14 ≠ bt757 := Nat.ne_of_lt (Nat.lt_of_lt_of_le f747.lt (Nat.le_of_eq g757.symm))
            have ne_b25_bt757 : b25 ≠ bt757 := Nat.ne_of_lt (Nat.lt_of_lt_of_le f748.lt (Nat.le_of_eq g757.symm))
            have ne_b110_bt757 : b110 ≠ bt757 := Nat.ne_of_lt (Nat.lt_of_lt_of_le f745_0.lt (Nat.le_of_eq g757.symm))
            have st772 : Steps p.tables e below sE (T757.setTop (mkF m 167 #[.val (.int x0), .val (.int x1), .val (.int x2), .val (.int x3), .val (.int x4), .val (.int cap), .val (.int n), .val (.ref b6), .val (.ref b14), .val (.ref b25), .val (.ref b110), .val (.int (1 : Int32)), .val (.ref b6), .unset, .unset, .unset] [(.ref bt757)])) := st756.trans (sr757)
            have st773 : Steps p.tables e below sE (T757.setTop (mkF m 171 #[.val (.int x0), .val (.int x1), .val (.int x2), .val (.int x3), .val (.int x4), .val (.int cap), .val (.int n), .val (.ref b6), .val (.ref b14), .val (.ref b25), .val (.ref b110), .val (.int (1 : Int32)), .val (.ref b6), .val (.ref bt757), .unset, .unset] [(.ref b110)])) := st772.trans (by
                show Steps _ _ _ (T757.setTop (mkF m 167 #[.val (.int x0), .val (.int x1), .val (.int x2), .val (.int x3), .val (.int x4), .val (.int cap), .val (.int n), .val (.ref b6), .val (.ref b14), .val (.ref b25), .val (.ref b110), .val (.int (1 : Int32)), .val (.ref b6), .unset, .unset, .unset] [(.ref bt757)])) _
                refine XS.astore X757.here hx rfl (hb hby at_167) rfl rfl (l' := #[.val (.int x0), .val (.int x1), .val (.int x2), .val (.int x3), .val (.int x4), .val (.int cap), .val (.int n), .val (.ref b6), .val (.ref b14), .val (.ref b25), .val (.ref b110), .val (.int (1 : Int32)), .val (.ref b6), .val (.ref bt757), .unset, .unset]) rfl ?_
                show Steps _ _ _ (T757.setTop (mkF m 169 #[.val (.int x0), .val (.int x1), .val (.int x2), .val (.int x3), .val (.int x4), .val (.int cap), .val (.int n), .val (.ref b6), .val (.ref b14), .val (.ref b25), .val (.ref b110), .val (.int (1 : Int32)), .val (.ref b6), .val (.ref bt757), .unset, .unset] [])) _
                refine XS.aload X757.here hx rfl (hb hby at_169) rfl rfl ?_
                exact Steps.refl _)
            obtain ⟨cq774, kq774, q774a, q774b, q774c⟩ := isOf hZ rfl f765
            obtain ⟨_, _, ⟨T774, L774, k774, n774⟩, -, X774, ⟨Lc774, hQ774, l774, y774, z774⟩, sr774⟩ := X757.virtualBack hx (y := (⟨"com/example/tideloop/tideloop/MessagePool", "take", "()Lcom/example/tideloop/tideloop/Message;"⟩ : MethodName)) (z := (⟨"com/example/tideloop/tideloop/MessagePool", "take", "()Lcom/example/tideloop/tideloop/Message;"⟩ : MethodName)) hown (mvT hZ (hw _ (List.mem_of_getElem? (i := 36) rfl))) (mvT hZ (hw _ (List.mem_of_getElem? (i := 37) rfl))) (notFace_of_selects (args := #[]) (mvT hZ (hw _ (List.mem_of_getElem? (i := 39) rfl)))) (mvT hZ (hw _ (List.mem_of_getElem? (i := 39) rfl))) (mvT hZ (hw _ (List.mem_of_getElem? (i := 38) rfl))) (by decide) (backOf (W := 0) (rmtk0 l Z a0 hw [] b110  T757.heap n0 Z771 f765 f768) hZ (hw _ (List.mem_of_getElem? (i := 40) rfl)) (hw _ (List.mem_of_getElem? (i := 15) rfl)) (by decide) (by decide)) q774a q774c (g := (mkF m 171 #[.val (.int x0), .val (.int x1), .val (.int x2), .val (.int x3), .val (.int x4), .val (.int cap), .val (.int n), .val (.ref b6), .val (.ref b14), .val (.ref b25), .val (.ref b110), .val (.int (1 : Int32)), .val (.ref b6), .val (.ref bt757), .unset, .unset] [(.ref b110)])) rfl (by rw [hml]; rfl) (Steps.refl _) (argsL := []) (rest := []) (lenOf pd_3 rfl) rfl (by show 2 * 0 + _ ≤ _; exact Nat.le_of_eq rfl) (hb hby at_171) (fun _ _ => ⟨rfl, rfl, (by decide : 5 + 1 ≤ _), (by decide : 79 + 19 ≤ _)⟩)
            dsimp only [Pt.U, Pt.locs, Pt.cells, Pt.slots] at X774 l774 y774 z774 sr774 hQ774
            subst l774 y774 z774
            obtain ⟨rfl, N774q, K774c, ⟨qe774, qn774, qw774⟩⟩ := hQ774
            have N774 := Fr.app N757 N774q
            obtain ⟨LL774, X774, N774⟩ := own_hide X774 N774
            have f775 : Exa Z T774.heap b6 "com/example/tideloop/tideloop/Message" := f758.keep K774c
            have f776 : Exa Z T774.heap b14 "com/example/tideloop/tideloop/Message" := f759.keep K774c
            have f777 : Exa Z T774.heap b25 "com/example/tideloop/tideloop/Message" := f760.keep K774c
            have f778 : Fld Z T774.heap b14 "com/example/tideloop/tideloop/Message" "what" "I" (.int x3) := f761.keep K774c nin0
            have f779 : Fld Z T774.heap b25 "com/example/tideloop/tideloop/Message" "what" "I" (.int x4) := f762.keep K774c nin0
            have f780 : Fld Z T774.heap b14 "com/example/tideloop/tideloop/Message" "nextPooled" "Lcom/example/tideloop/tideloop/Message;" (.ref b6) := f763.keep K774c nin0
            have f781 : Fld Z T774.heap b25 "com/example/tideloop/tideloop/Message" "nextPooled" "Lcom/example/tideloop/tideloop/Message;" (.ref b14) := f764.keep K774c nin0
            have f782 : Exa Z T774.heap b110 "com/example/tideloop/tideloop/MessagePool" := f765.keep K774c
            have f783 : Fld Z T774.heap b110 "com/example/tideloop/tideloop/MessagePool" "size" "I" (.int (((0 : Int32) + (1 : Int32)) - (1 : Int32))) := f766.keep K774c nin0
            have f784 : Fld Z T774.heap b110 "com/example/tideloop/tideloop/MessagePool" "capacity" "I" (.int cap) := f767.keep K774c nin0
            have f785 : Fld Z T774.heap b110 "com/example/tideloop/tideloop/MessagePool" "head" "Lcom/example/tideloop/tideloop/Message;" .null := f768.keep K774c nin0
            have f786 : Fld Z T774.heap b6 "com/example/tideloop/tideloop/Message" "what" "I" (.int x2) := f769.keep K774c nin0
            have f787 : Fld Z T774.heap b6 "com/example/tideloop/tideloop/Message" "nextPooled" "Lcom/example/tideloop/tideloop/Message;" .null := f770.keep K774c nin0
            have f788 : Exa Z T774.heap bt757 "com/example/tideloop/tideloop/Message" := qe757.keep K774c
            have f789 : Fld Z T774.heap bt757 "com/example/tideloop/tideloop/Message" "nextPooled" "Lcom/example/tideloop/tideloop/Message;" .null := qn757.keep K774c nin0
            have f790 : Fld Z T774.heap bt757 "com/example/tideloop/tideloop/Message" "what" "I" (.int (0 : Int32)) := qw757.keep K774c nin0
            have Z791 : n0 ≤ T774.heap.size := Nat.le_trans Z771 K774c.1
            obtain ⟨bt774, g774⟩ : ∃ z, z = T757.heap.size := ⟨_, rfl⟩
            rw [← g774] at qe774 qn774 qw774 sr774
            have g_bt774 : n0 ≤ bt774 := Nat.le_trans Z771 (Nat.le_of_eq g774.symm)
            have ne_b6_bt774 : b6 ≠ bt774 := Nat.ne_of_lt (Nat.lt_of_lt_of_le f758.lt (Nat.le_of_eq g774.symm))
            have ne_b14_bt774 : b14 ≠ bt774 := Nat.ne_of_lt (Nat.lt_of_lt_of_le f759.lt (Nat.le_of_eq g774.symm))
            have ne_b25_bt774 : b25 ≠ bt774 := Nat.ne_of_lt (Nat.lt_of_lt_of_le f760.lt (Nat.le_of_eq g774.symm))
            have ne_b110_bt774 : b110 ≠ bt774 := Nat.ne_of_lt (Nat.lt_of_lt_of_le f765.lt (Nat.le_of_eq g774.symm))
            have ne_bt757_bt774 : bt757 ≠ bt774 := Nat.ne_of_lt (Nat.lt_of_lt_of_le qe757.lt (Nat.le_of_eq g774.symm))
            have st792 : Steps p.tables e below sE (T774.setTop (mkF m 174 #[.val (.int x0), .val (.int x1), .val (.int x2), .val (.int x3), .val (.int x4), .val (.int cap), .val (.int n), .val (.ref b6), .val (.ref b14), .val (.ref b25), .val (.ref b110), .val (.int (1 : Int32)), .val (.ref b6), .val (.ref bt757), .unset, .unset] [(.ref bt774)])) := st773.trans (sr774)
            have st793 : Steps p.tables e below sE (T774.setTop (mkF m 178 #[.val (.int x0), .val (.int x1), .val (.int x2), .val (.int x3), .val (.int x4), .val (.int cap), .val (.int n), .val (.ref b6), .val (.ref b14), .val (.ref b25), .val (.ref b110), .val (.int (1 : Int32)), .val (.ref b6), .val (.ref bt757), .val (.ref bt774), .unset] [(.ref b110)])) := st792.trans (by
                show Steps _ _ _ (T774.setTop (mkF m 174 #[.val (.int x0), .val (.int x1), .val (.int x2), .val (.int x3), .val (.int x4), .val (.int cap), .val (.int n), .val (.ref b6), .val (.ref b14), .val (.ref b25), .val (.ref b110), .val (.int (1 : Int32)), .val (.ref b6), .val (.ref bt757), .unset, .unset] [(.ref bt774)])) _
                refine XS.astore X774.here hx rfl (hb hby at_174) rfl rfl (l' := #[.val (.int x0), .val (.int x1), .val (.int x2), .val (.int x3), .val (.int x4), .val (.int cap), .val (.int n), .val (.ref b6), .val (.ref b14), .val (.ref b25), .val (.ref b110), .val (.int (1 : Int32)), .val (.ref b6), .val (.ref bt757), .val (.ref bt774), .unset]) rfl ?_
                show Steps _ _ _ (T774.setTop (mkF m 176 #[.val (.int x0), .val (.int x1), .val (.int x2), .val (.int x3), .val (.int x4), .val (.int cap), .val (.int n), .val (.ref b6), .val (.ref b14), .val (.ref b25), .val (.ref b110), .val (.int (1 : Int32)), .val (.ref b6), .val (.ref bt757), .val (.ref bt774), .unset] [])) _
                refine XS.aload X774.here hx rfl (hb hby at_176) rfl rfl ?_
                exact Steps.refl _)
            obtain ⟨cq794, kq794, q794a, q794b, q794c⟩ := isOf hZ rfl f782
            obtain ⟨_, _, ⟨T794, L794, k794, n794⟩, -, X794, ⟨Lc794, hQ794, l794, y794, z794⟩, sr794⟩ := X774.virtualBack hx (y := (⟨"com/example/tideloop/tideloop/MessagePool", "take", "()Lcom/example/tideloop/tideloop/Message;"⟩ : MethodName)) (z := (⟨"com/example/tideloop/tideloop/MessagePool", "take", "()Lcom/example/tideloop/tideloop/Message;"⟩ : MethodName)) hown (mvT hZ (hw _ (List.mem_of_getElem? (i := 36) rfl))) (mvT hZ (hw _ (List.mem_of_getElem? (i := 37) rfl))) (notFace_of_selects (args := #[]) (mvT hZ (hw _ (List.mem_of_getElem? (i := 39) rfl)))) (mvT hZ (hw _ (List.mem_of_getElem? (i := 39) rfl))) (mvT hZ (hw _ (List.mem_of_getElem? (i := 38) rfl))) (by decide) (backOf (W := 0) (rmtk0 l Z a0 hw [] b110  T774.heap n0 Z791 f782 f785) hZ (hw _ (List.mem_of_getElem? (i := 40) rfl)) (hw _ (List.mem_of_getElem? (i := 15) rfl)) (by decide) (by decide)) q794a q794c (g := (mkF m 178 #[.val (.int x0), .val (.int x1), .val (.int x2), .val (.int x3), .val (.int x4), .val (.int cap), .val (.int n), .val (.ref b6), .val (.ref b14), .val (.ref b25), .val (.ref b110), .val (.int (1 : Int32)), .val (.ref b6), .val (.ref bt757), .val (.ref bt774), .unset] [(.ref b110)])) rfl (by rw [hml]; rfl) (Steps.refl _) (argsL := []) (rest := []) (lenOf pd_3 rfl) rfl (by show 2 * 0 + _ ≤ _; exact Nat.le_of_eq rfl) (hb hby at_178) (fun _ _ => ⟨rfl, rfl, (by decide : 6 + 1 ≤ _), (by decide : 98 + 19 ≤ _)⟩)
            dsimp only [Pt.U, Pt.locs, Pt.cells, Pt.slots] at X794 l794 y794 z794 sr794 hQ794
            subst l794 y794 z794
            obtain ⟨rfl, N794q, K794c, ⟨qe794, qn794, qw794⟩⟩ := hQ794
            have N794 := Fr.app N774 N794q
            obtain ⟨LL794, X794, N794⟩ := own_hide X794 N794
            have f795 : Exa Z T794.heap b6 "com/example/tideloop/tideloop/Message" := f775.keep K794c
            have f796 : Exa Z T794.heap b14 "com/example/tideloop/tideloop/Message" := f776.keep K794c
            have f797 : Exa Z T794.heap b25 "com/example/tideloop/tideloop/Message" := f777.keep K794c
            have f798 : Fld Z T794.heap b14 "com/example/tideloop/tideloop/Message" "what" "I" (.int x3) := f778.keep K794c nin0
            have f799 : Fld Z T794.heap b25 "com/example/tideloop/tideloop/Message" "what" "I" (.int x4) := f779.keep K794c nin0
            have f800 : Fld Z T794.heap b14 "com/example/tideloop/tideloop/Message" "nextPooled" "Lcom/example/tideloop/tideloop/Message;" (.ref b6) := f780.keep K794c nin0
            have f801 : Fld Z T794.heap b25 "com/example/tideloop/tideloop/Message" "nextPooled" "Lcom/example/tideloop/tideloop/Message;" (.ref b14) := f781.keep K794c nin0
            have f802 : Exa Z T794.heap b110 "com/example/tideloop/tideloop/MessagePool" := f782.keep K794c
            have f803 : Fld Z T794.heap b110 "com/example/tideloop/tideloop/MessagePool" "size" "I" (.int (((0 : Int32) + (1 : Int32)) - (1 : Int32))) := f783.keep K794c nin0
            have f804 : Fld Z T794.heap b110 "com/example/tideloop/tideloop/MessagePool" "capacity" "I" (.int cap) := f784.keep K794c nin0
            have f805 : Fld Z T794.heap b110 "com/example/tideloop/tideloop/MessagePool" "head" "Lcom/example/tideloop/tideloop/Message;" .null := f785.keep K794c nin0
            have f806 : Fld Z T794.heap b6 "com/example/tideloop/tideloop/Message" "what" "I" (.int x2) := f786.keep K794c nin0
            have f807 : Fld Z T794.heap b6 "com/example/tideloop/tideloop/Message" "nextPooled" "Lcom/example/tideloop/tideloop/Message;" .null := f787.keep K794c nin0
            have f808 : Exa Z T794.heap bt757 "com/example/tideloop/tideloop/Message" := f788.keep K794c
            have f809 : Fld Z T794.heap bt757 "com/example/tideloop/tideloop/Message" "nextPooled" "Lcom/example/tideloop/tideloop/Message;" .null := f789.keep K794c nin0
            have f810 : Fld Z T794.heap bt757 "com/example/tideloop/tideloop/Message" "what" "I" (.int (0 : Int32)) := f790.keep K794c nin0
            have f811 : Exa Z T794.heap bt774 "com/example/tideloop/tideloop/Message" := qe774.keep K794c
            have f812 : Fld Z T794.heap bt774 "com/example/tideloop/tideloop/Message" "nextPooled" "Lcom/example/tideloop/tideloop/Message;" .null := qn774.keep K794c nin0
            have f813 : Fld Z T794.heap bt774 "com/example/tideloop/tideloop/Message" "what" "I" (.int (0 : Int32)) := qw774.keep K794c nin0
            have Z814 : n0 ≤ T794.heap.size := Nat.le_trans Z791 K794c.1
            obtain ⟨bt794, g794⟩ : ∃ z, z = T774.heap.size := ⟨_, rfl⟩
            rw [← g794] at qe794 qn794 qw794 sr794
            have g_bt794 : n0 ≤ bt794 := Nat.le_trans Z791 (Nat.le_of_eq g794.symm)
            have ne_b6_bt794 : b6 ≠ bt794 := Nat.ne_of_lt (Nat.lt_of_lt_of_le f775.lt (Nat.le_of_eq g794.symm))
            have ne_b14_bt794 : b14 ≠ bt794 := Nat.ne_of_lt (Nat.lt_of_lt_of_le f776.lt (Nat.le_of_eq g794.symm))
            have ne_b25_bt794 : b25 ≠ bt794 := Nat.ne_of_lt (Nat.lt_of_lt_of_le f777.lt (Nat.le_of_eq g794.symm))
            have ne_b110_bt794 : b110 ≠ bt794 := Nat.ne_of_lt (Nat.lt_of_lt_of_le f782.lt (Nat.le_of_eq g794.symm))
            have ne_bt757_bt794 : bt757 ≠ bt794 := Nat.ne_of_lt (Nat.lt_of_lt_of_le f788.lt (Nat.le_of_eq g794.symm))
            have ne_bt774_bt794 : bt774 ≠ bt794 := Nat.ne_of_lt (Nat.lt_of_lt_of_le qe774.lt (Nat.le_of_eq g794.symm))
            have st815 : Steps p.tables e below sE (T794.setTop (mkF m 181 #[.val (.int x0), .val (.int x1), .val (.int x2), .val (.int x3), .val (.int x4), .val (.int cap), .val (.int n), .val (.ref b6), .val (.ref b14), .val (.ref b25), .val (.ref b110), .val (.int (1 : Int32)), .val (.ref b6), .val (.ref bt757), .val (.ref bt774), .unset] [(.ref bt794)])) := st793.trans (sr794)
            have st816 : Steps p.tables e below sE (T794.setTop (mkF m 198 #[.val (.int x0), .val (.int x1), .val (.int x2), .val (.int x3), .val (.int x4), .val (.int cap), .val (.int n), .val (.ref b6), .val (.ref b14), .val (.ref b25), .val (.ref b110), .val (.int (1 : Int32)), .val (.ref b6), .val (.ref bt757), .val (.ref bt774), .val (.ref bt794)] [(.int x4), (.int x3), (.int x2), (.ref b25), (.ref b14), (.ref b6), (.int (1 : Int32)), (.int (1 : Int32)), (.ref b6)])) := st815.trans (by
                show Steps _ _ _ (T794.setTop (mkF m 181 #[.val (.int x0), .val (.int x1), .val (.int x2), .val (.int x3), .val (.int x4), .val (.int cap), .val (.int n), .val (.ref b6), .val (.ref b14), .val (.ref b25), .val (.ref b110), .val (.int (1 : Int32)), .val (.ref b6), .val (.ref bt757), .val (.ref bt774), .unset] [(.ref bt794)])) _
                refine XS.astore X794.here hx rfl (hb hby at_181) rfl rfl (l' := #[.val (.int x0), .val (.int x1), .val (.int x2), .val (.int x3), .val (.int x4), .val (.int cap), .val (.int n), .val (.ref b6), .val (.ref b14), .val (.ref b25), .val (.ref b110), .val (.int (1 : Int32)), .val (.ref b6), .val (.ref bt757), .val (.ref bt774), .val (.ref bt794)]) rfl ?_
                show Steps _ _ _ (T794.setTop (mkF m 183 #[.val (.int x0), .val (.int x1), .val (.int x2), .val (.int x3), .val (.int x4), .val (.int cap), .val (.int n), .val (.ref b6), .val (.ref b14), .val (.ref b25), .val (.ref b110), .val (.int (1 : Int32)), .val (.ref b6), .val (.ref bt757), .val (.ref bt774), .val (.ref bt794)] [])) _
                refine XS.aload X794.here hx rfl (hb hby at_183) rfl rfl ?_
                show Steps _ _ _ (T794.setTop (mkF m 185 #[.val (.int x0), .val (.int x1), .val (.int x2), .val (.int x3), .val (.int x4), .val (.int cap), .val (.int n), .val (.ref b6), .val (.ref b14), .val (.ref b25), .val (.ref b110), .val (.int (1 : Int32)), .val (.ref b6), .val (.ref bt757), .val (.ref bt774), .val (.ref bt794)] [(.ref b6)])) _
                refine XS.iconst X794.here hx rfl (hb hby at_185) ?_
                show Steps _ _ _ (T794.setTop (mkF m 186 #[.val (.int x0), .val (.int x1), .val (.int x2), .val (.int x3), .val (.int x4), .val (.int cap), .val (.int n), .val (.ref b6), .val (.ref b14), .val (.ref b25), .val (.ref b110), .val (.int (1 : Int32)), .val (.ref b6), .val (.ref bt757), .val (.ref bt774), .val (.ref bt794)] [(.int (1 : Int32)), (.ref b6)])) _
                refine XS.iload X794.here hx rfl (hb hby at_186) rfl ?_
                show Steps _ _ _ (T794.setTop (mkF m 188 #[.val (.int x0), .val (.int x1), .val (.int x2), .val (.int x3), .val (.int x4), .val (.int cap), .val (.int n), .val (.ref b6), .val (.ref b14), .val (.ref b25), .val (.ref b110), .val (.int (1 : Int32)), .val (.ref b6), .val (.ref bt757), .val (.ref bt774), .val (.ref bt794)] [(.int (1 : Int32)), (.int (1 : Int32)), (.ref b6)])) _
                refine XS.aload X794.here hx rfl (hb hby at_188) rfl rfl ?_
                show Steps _ _ _ (T794.setTop (mkF m 190 #[.val (.int x0), .val (.int x1), .val (.int x2), .val (.int x3), .val (.int x4), .val (.int cap), .val (.int n), .val (.ref b6), .val (.ref b14), .val (.ref b25), .val (.ref b110), .val (.int (1 : Int32)), .val (.ref b6), .val (.ref bt757), .val (.ref bt774), .val (.ref bt794)] [(.ref b6), (.int (1 : Int32)), (.int (1 : Int32)), (.ref b6)])) _
                refine XS.aload X794.here hx rfl (hb hby at_190) rfl rfl ?_
                show Steps _ _ _ (T794.setTop (mkF m 192 #[.val (.int x0), .val (.int x1), .val (.int x2), .val (.int x3), .val (.int x4), .val (.int cap), .val (.int n), .val (.ref b6), .val (.ref b14), .val (.ref b25), .val (.ref b110), .val (.int (1 : Int32)), .val (.ref b6), .val (.ref bt757), .val (.ref bt774), .val (.ref bt794)] [(.ref b14), (.ref b6), (.int (1 : Int32)), (.int (1 : Int32)), (.ref b6)])) _
                refine XS.aload X794.here hx rfl (hb hby at_192) rfl rfl ?_
                show Steps _ _ _ (T794.setTop (mkF m 194 #[.val (.int x0), .val (.int x1), .val (.int x2), .val (.int x3), .val (.int x4), .val (.int cap), .val (.int n), .val (.ref b6), .val (.ref b14), .val (.ref b25), .val (.ref b110), .val (.int (1 : Int32)), .val (.ref b6), .val (.ref bt757), .val (.ref bt774), .val (.ref bt794)] [(.ref b25), (.ref b14), (.ref b6), (.int (1 : Int32)), (.int (1 : Int32)), (.ref b6)])) _
                refine XS.iloadN X794.here hx rfl (hb hby at_194) rfl ?_
                show Steps _ _ _ (T794.setTop (mkF m 195 #[.val (.int x0), .val (.int x1), .val (.int x2), .val (.int x3), .val (.int x4), .val (.int cap), .val (.int n), .val (.ref b6), .val (.ref b14), .val (.ref b25), .val (.ref b110), .val (.int (1 : Int32)), .val (.ref b6), .val (.ref bt757), .val (.ref bt774), .val (.ref bt794)] [(.int x2), (.ref b25), (.ref b14), (.ref b6), (.int (1 : Int32)), (.int (1 : Int32)), (.ref b6)])) _
                refine XS.iloadN X794.here hx rfl (hb hby at_195) rfl ?_
                show Steps _ _ _ (T794.setTop (mkF m 196 #[.val (.int x0), .val (.int x1), .val (.int x2), .val (.int x3), .val (.int x4), .val (.int cap), .val (.int n), .val (.ref b6), .val (.ref b14), .val (.ref b25), .val (.ref b110), .val (.int (1 : Int32)), .val (.ref b6), .val (.ref bt757), .val (.ref bt774), .val (.ref bt794)] [(.int x3), (.int x2), (.ref b25), (.ref b14), (.ref b6), (.int (1 : Int32)), (.int (1 : Int32)), (.ref b6)])) _
                refine XS.iload X794.here hx rfl (hb hby at_196) rfl ?_
                exact Steps.refl _)
            obtain ⟨_, _, ⟨T817, L817, k817, n817⟩, -, X817, ⟨Lc817, hQ817, l817, y817, z817⟩, sr817⟩ := Jvm.LawKit.callS X794 hx (y := (⟨"com/example/tideloop/tideloop/MessagePoolKeepPinLaw", "check", "(Lcom/example/tideloop/tideloop/Message;IILcom/example/tideloop/tideloop/Message;Lcom/example/tideloop/tideloop/Message;Lcom/example/tideloop/tideloop/Message;III)Z"⟩ : MethodName)) hown (mvT hZ (hw _ (List.mem_of_getElem? (i := 45) rfl))) (mvT hZ (hw _ (List.mem_of_getElem? (i := 46) rfl))) (mvT hZ (hw _ (List.mem_of_getElem? (i := 47) rfl))) (mvT hZ (hw _ (List.mem_of_getElem? (i := 48) rfl))) (by decide) (backOf (W := 0) (rm8 l Z a0 hw [] b6 (1 : Int32) (1 : Int32) b6 b14 b25 x2 x3 x4 x2 T794.heap n0 Z814 f807 f806) hZ (hw _ (List.mem_of_getElem? (i := 48) rfl)) (hw _ (List.mem_of_getElem? (i := 47) rfl)) (by decide) (by decide)) (g := (mkF m 198 #[.val (.int x0), .val (.int x1), .val (.int x2), .val (.int x3), .val (.int x4), .val (.int cap), .val (.int n), .val (.ref b6), .val (.ref b14), .val (.ref b25), .val (.ref b110), .val (.int (1 : Int32)), .val (.ref b6), .val (.ref bt757), .val (.ref bt774), .val (.ref bt794)] [(.int x4), (.int x3), (.int x2), (.ref b25), (.ref b14), (.ref b6), (.int (1 : Int32)), (.int (1 : Int32)), (.ref b6)])) rfl (by rw [hml]; rfl) (argsL := [(.ref b6), (.int (1 : Int32)), (.int (1 : Int32)), (.ref b6), (.ref b14), (.ref b25), (.int x2), (.int x3), (.int x4)]) (rest := []) (lenOf pd_4 rfl) rfl (by show 2 * 0 + _ ≤ _; exact Nat.le_of_eq rfl) (hb hby at_198) (fun _ _ => ⟨rfl, rfl, (by decide : 7 + 0 ≤ _), (by decide : 117 + 0 ≤ _)⟩)
            dsimp only [Pt.U, Pt.locs, Pt.cells, Pt.slots] at X817 l817 y817 z817 sr817 hQ817
            subst l817 y817 z817
            obtain ⟨rfl, N817q, hh817⟩ := hQ817
            have N817 := Fr.app N794 N817q
            obtain ⟨LL817, X817, N817⟩ := own_hide X817 N817
            have st818 : Steps p.tables e below sE (T817.setTop (mkF m 201 #[.val (.int x0), .val (.int x1), .val (.int x2), .val (.int x3), .val (.int x4), .val (.int cap), .val (.int n), .val (.ref b6), .val (.ref b14), .val (.ref b25), .val (.ref b110), .val (.int (1 : Int32)), .val (.ref b6), .val (.ref bt757), .val (.ref bt774), .val (.ref bt794)] [(.int (F8 b6 (1 : Int32) (1 : Int32) b6 b14 b25 x2 x3 x4 x2))])) := st816.trans (sr817 _ (Steps.refl _))
            have hf819 : ¬ ((F8 b6 (1 : Int32) (1 : Int32) b6 b14 b25 x2 x3 x4 x2) = (0 : Int32)) := by simp +decide [F8]
            have st820 : Steps p.tables e below sE (T817.setTop (mkF m 219 #[.val (.int x0), .val (.int x1), .val (.int x2), .val (.int x3), .val (.int x4), .val (.int cap), .val (.int n), .val (.ref b6), .val (.ref b14), .val (.ref b25), .val (.ref b110), .val (.int (1 : Int32)), .val (.ref b6), .val (.ref bt757), .val (.ref bt774), .val (.ref bt794)] [(.int x4), (.int x3), (.int x2), (.ref b25), (.ref b14), (.ref b6), (.int (1 : Int32)), (.int (2 : Int32)), (.ref bt757)])) := st818.trans (by
                show Steps _ _ _ (T817.setTop (mkF m 201 #[.val (.int x0), .val (.int x1), .val (.int x2), .val (.int x3), .val (.int x4), .val (.int cap), .val (.int n), .val (.ref b6), .val (.ref b14), .val (.ref b25), .val (.ref b110), .val (.int (1 : Int32)), .val (.ref b6), .val (.ref bt757), .val (.ref bt774), .val (.ref bt794)] [(.int (F8 b6 (1 : Int32) (1 : Int32) b6 b14 b25 x2 x3 x4 x2))])) _
                refine XS.ifNo X817.here hx rfl (hb hby at_201) rfl ((if0 _ _).trans (feq hf819).1) ?_
                show Steps _ _ _ (T817.setTop (mkF m 204 #[.val (.int x0), .val (.int x1), .val (.int x2), .val (.int x3), .val (.int x4), .val (.int cap), .val (.int n), .val (.ref b6), .val (.ref b14), .val (.ref b25), .val (.ref b110), .val (.int (1 : Int32)), .val (.ref b6), .val (.ref bt757), .val (.ref bt774), .val (.ref bt794)] [])) _
                refine XS.aload X817.here hx rfl (hb hby at_204) rfl rfl ?_
                show Steps _ _ _ (T817.setTop (mkF m 206 #[.val (.int x0), .val (.int x1), .val (.int x2), .val (.int x3), .val (.int x4), .val (.int cap), .val (.int n), .val (.ref b6), .val (.ref b14), .val (.ref b25), .val (.ref b110), .val (.int (1 : Int32)), .val (.ref b6), .val (.ref bt757), .val (.ref bt774), .val (.ref bt794)] [(.ref bt757)])) _
                refine XS.iconst X817.here hx rfl (hb hby at_206) ?_
                show Steps _ _ _ (T817.setTop (mkF m 207 #[.val (.int x0), .val (.int x1), .val (.int x2), .val (.int x3), .val (.int x4), .val (.int cap), .val (.int n), .val (.ref b6), .val (.ref b14), .val (.ref b25), .val (.ref b110), .val (.int (1 : Int32)), .val (.ref b6), .val (.ref bt757), .val (.ref bt774), .val (.ref bt794)] [(.int (2 : Int32)), (.ref bt757)])) _
                refine XS.iload X817.here hx rfl (hb hby at_207) rfl ?_
                show Steps _ _ _ (T817.setTop (mkF m 209 #[.val (.int x0), .val (.int x1), .val (.int x2), .val (.int x3), .val (.int x4), .val (.int cap), .val (.int n), .val (.ref b6), .val (.ref b14), .val (.ref b25), .val (.ref b110), .val (.int (1 : Int32)), .val (.ref b6), .val (.ref bt757), .val (.ref bt774), .val (.ref bt794)] [(.int (1 : Int32)), (.int (2 : Int32)), (.ref bt757)])) _
                refine XS.aload X817.here hx rfl (hb hby at_209) rfl rfl ?_
                show Steps _ _ _ (T817.setTop (mkF m 211 #[.val (.int x0), .val (.int x1), .val (.int x2), .val (.int x3), .val (.int x4), .val (.int cap), .val (.int n), .val (.ref b6), .val (.ref b14), .val (.ref b25), .val (.ref b110), .val (.int (1 : Int32)), .val (.ref b6), .val (.ref bt757), .val (.ref bt774), .val (.ref bt794)] [(.ref b6), (.int (1 : Int32)), (.int (2 : Int32)), (.ref bt757)])) _
                refine XS.aload X817.here hx rfl (hb hby at_211) rfl rfl ?_
                show Steps _ _ _ (T817.setTop (mkF m 213 #[.val (.int x0), .val (.int x1), .val (.int x2), .val (.int x3), .val (.int x4), .val (.int cap), .val (.int n), .val (.ref b6), .val (.ref b14), .val (.ref b25), .val (.ref b110), .val (.int (1 : Int32)), .val (.ref b6), .val (.ref bt757), .val (.ref bt774), .val (.ref bt794)] [(.ref b14), (.ref b6), (.int (1 : Int32)), (.int (2 : Int32)), (.ref bt757)])) _
                refine XS.aload X817.here hx rfl (hb hby at_213) rfl rfl ?_
                show Steps _ _ _ (T817.setTop (mkF m 215 #[.val (.int x0), .val (.int x1), .val (.int x2), .val (.int x3), .val (.int x4), .val (.int cap), .val (.int n), .val (.ref b6), .val (.ref b14), .val (.ref b25), .val (.ref b110), .val (.int (1 : Int32)), .val (.ref b6), .val (.ref bt757), .val (.ref bt774), .val (.ref bt794)] [(.ref b25), (.ref b14), (.ref b6), (.int (1 : Int32)), (.int (2 : Int32)), (.ref bt757)])) _
                refine XS.iloadN X817.here hx rfl (hb hby at_215) rfl ?_
                show Steps _ _ _ (T817.setTop (mkF m 216 #[.val (.int x0), .val (.int x1), .val (.int x2), .val (.int x3), .val (.int x4), .val (.int cap), .val (.int n), .val (.ref b6), .val (.ref b14), .val (.ref b25), .val (.ref b110), .val (.int (1 : Int32)), .val (.ref b6), .val (.ref bt757), .val (.ref bt774), .val (.ref bt794)] [(.int x2), (.ref b25), (.ref b14), (.ref b6), (.int (1 : Int32)), (.int (2 : Int32)), (.ref bt757)])) _
                refine XS.iloadN X817.here hx rfl (hb hby at_216) rfl ?_
                show Steps _ _ _ (T817.setTop (mkF m 217 #[.val (.int x0), .val (.int x1), .val (.int x2), .val (.int x3), .val (.int x4), .val (.int cap), .val (.int n), .val (.ref b6), .val (.ref b14), .val (.ref b25), .val (.ref b110), .val (.int (1 : Int32)), .val (.ref b6), .val (.ref bt757), .val (.ref bt774), .val (.ref bt794)] [(.int x3), (.int x2), (.ref b25), (.ref b14), (.ref b6), (.int (1 : Int32)), (.int (2 : Int32)), (.ref bt757)])) _
                refine XS.iload X817.here hx rfl (hb hby at_217) rfl ?_
                exact Steps.refl _)
            obtain ⟨_, _, ⟨T821, L821, k821, n821⟩, -, X821, ⟨Lc821, hQ821, l821, y821, z821⟩, sr821⟩ := Jvm.LawKit.callS X817 hx (y := (⟨"com/example/tideloop/tideloop/MessagePoolKeepPinLaw", "check", "(Lcom/example/tideloop/tideloop/Message;IILcom/example/tideloop/tideloop/Message;Lcom/example/tideloop/tideloop/Message;Lcom/example/tideloop/tideloop/Message;III)Z"⟩ : MethodName)) hown (mvT hZ (hw _ (List.mem_of_getElem? (i := 45) rfl))) (mvT hZ (hw _ (List.mem_of_getElem? (i := 46) rfl))) (mvT hZ (hw _ (List.mem_of_getElem? (i := 47) rfl))) (mvT hZ (hw _ (List.mem_of_getElem? (i := 48) rfl))) (by decide) (backOf (W := 0) (rm8 l Z a0 hw [] bt757 (2 : Int32) (1 : Int32) b6 b14 b25 x2 x3 x4 (0 : Int32) T794.heap n0 Z814 f809 f810) hZ (hw _ (List.mem_of_getElem? (i := 48) rfl)) (hw _ (List.mem_of_getElem? (i := 47) rfl)) (by decide) (by decide)) (g := (mkF m 219 #[.val (.int x0), .val (.int x1), .val (.int x2), .val (.int x3), .val (.int x4), .val (.int cap), .val (.int n), .val (.ref b6), .val (.ref b14), .val (.ref b25), .val (.ref b110), .val (.int (1 : Int32)), .val (.ref b6), .val (.ref bt757), .val (.ref bt774), .val (.ref bt794)] [(.int x4), (.int x3), (.int x2), (.ref b25), (.ref b14), (.ref b6), (.int (1 : Int32)), (.int (2 : Int32)), (.ref bt757)])) rfl (by rw [hml]; rfl) (argsL := [(.ref bt757), (.int (2 : Int32)), (.int (1 : Int32)), (.ref b6), (.ref b14), (.ref b25), (.int x2), (.int x3), (.int x4)]) (rest := []) (lenOf pd_4 rfl) rfl (by show 2 * 0 + _ ≤ _; exact Nat.le_of_eq rfl) (hb hby at_219) (fun _ _ => ⟨rfl, hh817, (by decide : 7 + 0 ≤ _), (by decide : 117 + 0 ≤ _)⟩)
            dsimp only [Pt.U, Pt.locs, Pt.cells, Pt.slots] at X821 l821 y821 z821 sr821 hQ821
            subst l821 y821 z821
            obtain ⟨rfl, N821q, hh821⟩ := hQ821
            have N821 := Fr.app N817 N821q
            obtain ⟨LL821, X821, N821⟩ := own_hide X821 N821
            have st822 : Steps p.tables e below sE (T821.setTop (mkF m 222 #[.val (.int x0), .val (.int x1), .val (.int x2), .val (.int x3), .val (.int x4), .val (.int cap), .val (.int n), .val (.ref b6), .val (.ref b14), .val (.ref b25), .val (.ref b110), .val (.int (1 : Int32)), .val (.ref b6), .val (.ref bt757), .val (.ref bt774), .val (.ref bt794)] [(.int (F8 bt757 (2 : Int32) (1 : Int32) b6 b14 b25 x2 x3 x4 (0 : Int32)))])) := st820.trans (sr821 _ (Steps.refl _))
            have hf823 : ¬ ((F8 bt757 (2 : Int32) (1 : Int32) b6 b14 b25 x2 x3 x4 (0 : Int32)) = (0 : Int32)) := by simp +decide [F8, (Ne.symm ne_b6_bt757), (Ne.symm ne_b14_bt757), (Ne.symm ne_b25_bt757)]
            have st824 : Steps p.tables e below sE (T821.setTop (mkF m 240 #[.val (.int x0), .val (.int x1), .val (.int x2), .val (.int x3), .val (.int x4), .val (.int cap), .val (.int n), .val (.ref b6), .val (.ref b14), .val (.ref b25), .val (.ref b110), .val (.int (1 : Int32)), .val (.ref b6), .val (.ref bt757), .val (.ref bt774), .val (.ref bt794)] [(.int x4), (.int x3), (.int x2), (.ref b25), (.ref b14), (.ref b6), (.int (1 : Int32)), (.int (3 : Int32)), (.ref bt774)])) := st822.trans (by
                show Steps _ _ _ (T821.setTop (mkF m 222 #[.val (.int x0), .val (.int x1), .val (.int x2), .val (.int x3), .val (.int x4), .val (.int cap), .val (.int n), .val (.ref b6), .val (.ref b14), .val (.ref b25), .val (.ref b110), .val (.int (1 : Int32)), .val (.ref b6), .val (.ref bt757), .val (.ref bt774), .val (.ref bt794)] [(.int (F8 bt757 (2 : Int32) (1 : Int32) b6 b14 b25 x2 x3 x4 (0 : Int32)))])) _
                refine XS.ifNo X821.here hx rfl (hb hby at_222) rfl ((if0 _ _).trans (feq hf823).1) ?_
                show Steps _ _ _ (T821.setTop (mkF m 225 #[.val (.int x0), .val (.int x1), .val (.int x2), .val (.int x3), .val (.int x4), .val (.int cap), .val (.int n), .val (.ref b6), .val (.ref b14), .val (.ref b25), .val (.ref b110), .val (.int (1 : Int32)), .val (.ref b6), .val (.ref bt757), .val (.ref bt774), .val (.ref bt794)] [])) _
                refine XS.aload X821.here hx rfl (hb hby at_225) rfl rfl ?_
                show Steps _ _ _ (T821.setTop (mkF m 227 #[.val (.int x0), .val (.int x1), .val (.int x2), .val (.int x3), .val (.int x4), .val (.int cap), .val (.int n), .val (.ref b6), .val (.ref b14), .val (.ref b25), .val (.ref b110), .val (.int (1 : Int32)), .val (.ref b6), .val (.ref bt757), .val (.ref bt774), .val (.ref bt794)] [(.ref bt774)])) _
                refine XS.iconst X821.here hx rfl (hb hby at_227) ?_
                show Steps _ _ _ (T821.setTop (mkF m 228 #[.val (.int x0), .val (.int x1), .val (.int x2), .val (.int x3), .val (.int x4), .val (.int cap), .val (.int n), .val (.ref b6), .val (.ref b14), .val (.ref b25), .val (.ref b110), .val (.int (1 : Int32)), .val (.ref b6), .val (.ref bt757), .val (.ref bt774), .val (.ref bt794)] [(.int (3 : Int32)), (.ref bt774)])) _
                refine XS.iload X821.here hx rfl (hb hby at_228) rfl ?_
                show Steps _ _ _ (T821.setTop (mkF m 230 #[.val (.int x0), .val (.int x1), .val (.int x2), .val (.int x3), .val (.int x4), .val (.int cap), .val (.int n), .val (.ref b6), .val (.ref b14), .val (.ref b25), .val (.ref b110), .val (.int (1 : Int32)), .val (.ref b6), .val (.ref bt757), .val (.ref bt774), .val (.ref bt794)] [(.int (1 : Int32)), (.int (3 : Int32)), (.ref bt774)])) _
                refine XS.aload X821.here hx rfl (hb hby at_230) rfl rfl ?_
                show Steps _ _ _ (T821.setTop (mkF m 232 #[.val (.int x0), .val (.int x1), .val (.int x2), .val (.int x3), .val (.int x4), .val (.int cap), .val (.int n), .val (.ref b6), .val (.ref b14), .val (.ref b25), .val (.ref b110), .val (.int (1 : Int32)), .val (.ref b6), .val (.ref bt757), .val (.ref bt774), .val (.ref bt794)] [(.ref b6), (.int (1 : Int32)), (.int (3 : Int32)), (.ref bt774)])) _
                refine XS.aload X821.here hx rfl (hb hby at_232) rfl rfl ?_
                show Steps _ _ _ (T821.setTop (mkF m 234 #[.val (.int x0), .val (.int x1), .val (.int x2), .val (.int x3), .val (.int x4), .val (.int cap), .val (.int n), .val (.ref b6), .val (.ref b14), .val (.ref b25), .val (.ref b110), .val (.int (1 : Int32)), .val (.ref b6), .val (.ref bt757), .val (.ref bt774), .val (.ref bt794)] [(.ref b14), (.ref b6), (.int (1 : Int32)), (.int (3 : Int32)), (.ref bt774)])) _
                refine XS.aload X821.here hx rfl (hb hby at_234) rfl rfl ?_
                show Steps _ _ _ (T821.setTop (mkF m 236 #[.val (.int x0), .val (.int x1), .val (.int x2), .val (.int x3), .val (.int x4), .val (.int cap), .val (.int n), .val (.ref b6), .val (.ref b14), .val (.ref b25), .val (.ref b110), .val (.int (1 : Int32)), .val (.ref b6), .val (.ref bt757), .val (.ref bt774), .val (.ref bt794)] [(.ref b25), (.ref b14), (.ref b6), (.int (1 : Int32)), (.int (3 : Int32)), (.ref bt774)])) _
                refine XS.iloadN X821.here hx rfl (hb hby at_236) rfl ?_
                show Steps _ _ _ (T821.setTop (mkF m 237 #[.val (.int x0), .val (.int x1), .val (.int x2), .val (.int x3), .val (.int x4), .val (.int cap), .val (.int n), .val (.ref b6), .val (.ref b14), .val (.ref b25), .val (.ref b110), .val (.int (1 : Int32)), .val (.ref b6), .val (.ref bt757), .val (.ref bt774), .val (.ref bt794)] [(.int x2), (.ref b25), (.ref b14), (.ref b6), (.int (1 : Int32)), (.int (3 : Int32)), (.ref bt774)])) _
                refine XS.iloadN X821.here hx rfl (hb hby at_237) rfl ?_
                show Steps _ _ _ (T821.setTop (mkF m 238 #[.val (.int x0), .val (.int x1), .val (.int x2), .val (.int x3), .val (.int x4), .val (.int cap), .val (.int n), .val (.ref b6), .val (.ref b14), .val (.ref b25), .val (.ref b110), .val (.int (1 : Int32)), .val (.ref b6), .val (.ref bt757), .val (.ref bt774), .val (.ref bt794)] [(.int x3), (.int x2), (.ref b25), (.ref b14), (.ref b6), (.int (1 : Int32)), (.int (3 : Int32)), (.ref bt774)])) _
                refine XS.iload X821.here hx rfl (hb hby at_238) rfl ?_
                exact Steps.refl _)
            obtain ⟨_, _, ⟨T825, L825, k825, n825⟩, -, X825, ⟨Lc825, hQ825, l825, y825, z825⟩, sr825⟩ := Jvm.LawKit.callS X821 hx (y := (⟨"com/example/tideloop/tideloop/MessagePoolKeepPinLaw", "check", "(Lcom/example/tideloop/tideloop/Message;IILcom/example/tideloop/tideloop/Message;Lcom/example/tideloop/tideloop/Message;Lcom/example/tideloop/tideloop/Message;III)Z"⟩ : MethodName)) hown (mvT hZ (hw _ (List.mem_of_getElem? (i := 45) rfl))) (mvT hZ (hw _ (List.mem_of_getElem? (i := 46) rfl))) (mvT hZ (hw _ (List.mem_of_getElem? (i := 47) rfl))) (mvT hZ (hw _ (List.mem_of_getElem? (i := 48) rfl))) (by decide) (backOf (W := 0) (rm8 l Z a0 hw [] bt774 (3 : Int32) (1 : Int32) b6 b14 b25 x2 x3 x4 (0 : Int32) T794.heap n0 Z814 f812 f813) hZ (hw _ (List.mem_of_getElem? (i := 48) rfl)) (hw _ (List.mem_of_getElem? (i := 47) rfl)) (by decide) (by decide)) (g := (mkF m 240 #[.val (.int x0), .val (.int x1), .val (.int x2), .val (.int x3), .val (.int x4), .val (.int cap), .val (.int n), .val (.ref b6), .val (.ref b14), .val (.ref b25), .val (.ref b110), .val (.int (1 : Int32)), .val (.ref b6), .val (.ref bt757), .val (.ref bt774), .val (.ref bt794)] [(.int x4), (.int x3), (.int x2), (.ref b25), (.ref b14), (.ref b6), (.int (1 : Int32)), (.int (3 : Int32)), (.ref bt774)])) rfl (by rw [hml]; rfl) (argsL := [(.ref bt774), (.int (3 : Int32)), (.int (1 : Int32)), (.ref b6), (.ref b14), (.ref b25), (.int x2), (.int x3), (.int x4)]) (rest := []) (lenOf pd_4 rfl) rfl (by show 2 * 0 + _ ≤ _; exact Nat.le_of_eq rfl) (hb hby at_240) (fun _ _ => ⟨rfl, hh821, (by decide : 7 + 0 ≤ _), (by decide : 117 + 0 ≤ _)⟩)
            dsimp only [Pt.U, Pt.locs, Pt.cells, Pt.slots] at X825 l825 y825 z825 sr825 hQ825
            subst l825 y825 z825
            obtain ⟨rfl, N825q, hh825⟩ := hQ825
            have N825 := Fr.app N821 N825q
            obtain ⟨LL825, X825, N825⟩ := own_hide X825 N825
            have st826 : Steps p.tables e below sE (T825.setTop (mkF m 243 #[.val (.int x0), .val (.int x1), .val (.int x2), .val (.int x3), .val (.int x4), .val (.int cap), .val (.int n), .val (.ref b6), .val (.ref b14), .val (.ref b25), .val (.ref b110), .val (.int (1 : Int32)), .val (.ref b6), .val (.ref bt757), .val (.ref bt774), .val (.ref bt794)] [(.int (F8 bt774 (3 : Int32) (1 : Int32) b6 b14 b25 x2 x3 x4 (0 : Int32)))])) := st824.trans (sr825 _ (Steps.refl _))
            have hf827 : ¬ ((F8 bt774 (3 : Int32) (1 : Int32) b6 b14 b25 x2 x3 x4 (0 : Int32)) = (0 : Int32)) := by simp +decide [F8, (Ne.symm ne_b6_bt774), (Ne.symm ne_b14_bt774), (Ne.symm ne_b25_bt774)]
            have st828 : Steps p.tables e below sE (T825.setTop (mkF m 261 #[.val (.int x0), .val (.int x1), .val (.int x2), .val (.int x3), .val (.int x4), .val (.int cap), .val (.int n), .val (.ref b6), .val (.ref b14), .val (.ref b25), .val (.ref b110), .val (.int (1 : Int32)), .val (.ref b6), .val (.ref bt757), .val (.ref bt774), .val (.ref bt794)] [(.int x4), (.int x3), (.int x2), (.ref b25), (.ref b14), (.ref b6), (.int (1 : Int32)), (.int (4 : Int32)), (.ref bt794)])) := st826.trans (by
                show Steps _ _ _ (T825.setTop (mkF m 243 #[.val (.int x0), .val (.int x1), .val (.int x2), .val (.int x3), .val (.int x4), .val (.int cap), .val (.int n), .val (.ref b6), .val (.ref b14), .val (.ref b25), .val (.ref b110), .val (.int (1 : Int32)), .val (.ref b6), .val (.ref bt757), .val (.ref bt774), .val (.ref bt794)] [(.int (F8 bt774 (3 : Int32) (1 : Int32) b6 b14 b25 x2 x3 x4 (0 : Int32)))])) _
                refine XS.ifNo X825.here hx rfl (hb hby at_243) rfl ((if0 _ _).trans (feq hf827).1) ?_
                show Steps _ _ _ (T825.setTop (mkF m 246 #[.val (.int x0), .val (.int x1), .val (.int x2), .val (.int x3), .val (.int x4), .val (.int cap), .val (.int n), .val (.ref b6), .val (.ref b14), .val (.ref b25), .val (.ref b110), .val (.int (1 : Int32)), .val (.ref b6), .val (.ref bt757), .val (.ref bt774), .val (.ref bt794)] [])) _
                refine XS.aload X825.here hx rfl (hb hby at_246) rfl rfl ?_
                show Steps _ _ _ (T825.setTop (mkF m 248 #[.val (.int x0), .val (.int x1), .val (.int x2), .val (.int x3), .val (.int x4), .val (.int cap), .val (.int n), .val (.ref b6), .val (.ref b14), .val (.ref b25), .val (.ref b110), .val (.int (1 : Int32)), .val (.ref b6), .val (.ref bt757), .val (.ref bt774), .val (.ref bt794)] [(.ref bt794)])) _
                refine XS.iconst X825.here hx rfl (hb hby at_248) ?_
                show Steps _ _ _ (T825.setTop (mkF m 249 #[.val (.int x0), .val (.int x1), .val (.int x2), .val (.int x3), .val (.int x4), .val (.int cap), .val (.int n), .val (.ref b6), .val (.ref b14), .val (.ref b25), .val (.ref b110), .val (.int (1 : Int32)), .val (.ref b6), .val (.ref bt757), .val (.ref bt774), .val (.ref bt794)] [(.int (4 : Int32)), (.ref bt794)])) _
                refine XS.iload X825.here hx rfl (hb hby at_249) rfl ?_
                show Steps _ _ _ (T825.setTop (mkF m 251 #[.val (.int x0), .val (.int x1), .val (.int x2), .val (.int x3), .val (.int x4), .val (.int cap), .val (.int n), .val (.ref b6), .val (.ref b14), .val (.ref b25), .val (.ref b110), .val (.int (1 : Int32)), .val (.ref b6), .val (.ref bt757), .val (.ref bt774), .val (.ref bt794)] [(.int (1 : Int32)), (.int (4 : Int32)), (.ref bt794)])) _
                refine XS.aload X825.here hx rfl (hb hby at_251) rfl rfl ?_
                show Steps _ _ _ (T825.setTop (mkF m 253 #[.val (.int x0), .val (.int x1), .val (.int x2), .val (.int x3), .val (.int x4), .val (.int cap), .val (.int n), .val (.ref b6), .val (.ref b14), .val (.ref b25), .val (.ref b110), .val (.int (1 : Int32)), .val (.ref b6), .val (.ref bt757), .val (.ref bt774), .val (.ref bt794)] [(.ref b6), (.int (1 : Int32)), (.int (4 : Int32)), (.ref bt794)])) _
                refine XS.aload X825.here hx rfl (hb hby at_253) rfl rfl ?_
                show Steps _ _ _ (T825.setTop (mkF m 255 #[.val (.int x0), .val (.int x1), .val (.int x2), .val (.int x3), .val (.int x4), .val (.int cap), .val (.int n), .val (.ref b6), .val (.ref b14), .val (.ref b25), .val (.ref b110), .val (.int (1 : Int32)), .val (.ref b6), .val (.ref bt757), .val (.ref bt774), .val (.ref bt794)] [(.ref b14), (.ref b6), (.int (1 : Int32)), (.int (4 : Int32)), (.ref bt794)])) _
                refine XS.aload X825.here hx rfl (hb hby at_255) rfl rfl ?_
                show Steps _ _ _ (T825.setTop (mkF m 257 #[.val (.int x0), .val (.int x1), .val (.int x2), .val (.int x3), .val (.int x4), .val (.int cap), .val (.int n), .val (.ref b6), .val (.ref b14), .val (.ref b25), .val (.ref b110), .val (.int (1 : Int32)), .val (.ref b6), .val (.ref bt757), .val (.ref bt774), .val (.ref bt794)] [(.ref b25), (.ref b14), (.ref b6), (.int (1 : Int32)), (.int (4 : Int32)), (.ref bt794)])) _
                refine XS.iloadN X825.here hx rfl (hb hby at_257) rfl ?_
                show Steps _ _ _ (T825.setTop (mkF m 258 #[.val (.int x0), .val (.int x1), .val (.int x2), .val (.int x3), .val (.int x4), .val (.int cap), .val (.int n), .val (.ref b6), .val (.ref b14), .val (.ref b25), .val (.ref b110), .val (.int (1 : Int32)), .val (.ref b6), .val (.ref bt757), .val (.ref bt774), .val (.ref bt794)] [(.int x2), (.ref b25), (.ref b14), (.ref b6), (.int (1 : Int32)), (.int (4 : Int32)), (.ref bt794)])) _
                refine XS.iloadN X825.here hx rfl (hb hby at_258) rfl ?_
                show Steps _ _ _ (T825.setTop (mkF m 259 #[.val (.int x0), .val (.int x1), .val (.int x2), .val (.int x3), .val (.int x4), .val (.int cap), .val (.int n), .val (.ref b6), .val (.ref b14), .val (.ref b25), .val (.ref b110), .val (.int (1 : Int32)), .val (.ref b6), .val (.ref bt757), .val (.ref bt774), .val (.ref bt794)] [(.int x3), (.int x2), (.ref b25), (.ref b14), (.ref b6), (.int (1 : Int32)), (.int (4 : Int32)), (.ref bt794)])) _
                refine XS.iload X825.here hx rfl (hb hby at_259) rfl ?_
                exact Steps.refl _)
            obtain ⟨_, _, ⟨T829, L829, k829, n829⟩, -, X829, ⟨Lc829, hQ829, l829, y829, z829⟩, sr829⟩ := Jvm.LawKit.callS X825 hx (y := (⟨"com/example/tideloop/tideloop/MessagePoolKeepPinLaw", "check", "(Lcom/example/tideloop/tideloop/Message;IILcom/example/tideloop/tideloop/Message;Lcom/example/tideloop/tideloop/Message;Lcom/example/tideloop/tideloop/Message;III)Z"⟩ : MethodName)) hown (mvT hZ (hw _ (List.mem_of_getElem? (i := 45) rfl))) (mvT hZ (hw _ (List.mem_of_getElem? (i := 46) rfl))) (mvT hZ (hw _ (List.mem_of_getElem? (i := 47) rfl))) (mvT hZ (hw _ (List.mem_of_getElem? (i := 48) rfl))) (by decide) (backOf (W := 0) (rm8 l Z a0 hw [] bt794 (4 : Int32) (1 : Int32) b6 b14 b25 x2 x3 x4 (0 : Int32) T794.heap n0 Z814 qn794 qw794) hZ (hw _ (List.mem_of_getElem? (i := 48) rfl)) (hw _ (List.mem_of_getElem? (i := 47) rfl)) (by decide) (by decide)) (g := (mkF m 261 #[.val (.int x0), .val (.int x1), .val (.int x2), .val (.int x3), .val (.int x4), .val (.int cap), .val (.int n), .val (.ref b6), .val (.ref b14), .val (.ref b25), .val (.ref b110), .val (.int (1 : Int32)), .val (.ref b6), .val (.ref bt757), .val (.ref bt774), .val (.ref bt794)] [(.int x4), (.int x3), (.int x2), (.ref b25), (.ref b14), (.ref b6), (.int (1 : Int32)), (.int (4 : Int32)), (.ref bt794)])) rfl (by rw [hml]; rfl) (argsL := [(.ref bt794), (.int (4 : Int32)), (.int (1 : Int32)), (.ref b6), (.ref b14), (.ref b25), (.int x2), (.int x3), (.int x4)]) (rest := []) (lenOf pd_4 rfl) rfl (by show 2 * 0 + _ ≤ _; exact Nat.le_of_eq rfl) (hb hby at_261) (fun _ _ => ⟨rfl, hh825, (by decide : 7 + 0 ≤ _), (by decide : 117 + 0 ≤ _)⟩)
            dsimp only [Pt.U, Pt.locs, Pt.cells, Pt.slots] at X829 l829 y829 z829 sr829 hQ829
            subst l829 y829 z829
            obtain ⟨rfl, N829q, hh829⟩ := hQ829
            have N829 := Fr.app N825 N829q
            obtain ⟨LL829, X829, N829⟩ := own_hide X829 N829
            have st830 : Steps p.tables e below sE (T829.setTop (mkF m 264 #[.val (.int x0), .val (.int x1), .val (.int x2), .val (.int x3), .val (.int x4), .val (.int cap), .val (.int n), .val (.ref b6), .val (.ref b14), .val (.ref b25), .val (.ref b110), .val (.int (1 : Int32)), .val (.ref b6), .val (.ref bt757), .val (.ref bt774), .val (.ref bt794)] [(.int (F8 bt794 (4 : Int32) (1 : Int32) b6 b14 b25 x2 x3 x4 (0 : Int32)))])) := st828.trans (sr829 _ (Steps.refl _))
            have hf831 : ¬ ((F8 bt794 (4 : Int32) (1 : Int32) b6 b14 b25 x2 x3 x4 (0 : Int32)) = (0 : Int32)) := by simp +decide [F8, (Ne.symm ne_b6_bt794), (Ne.symm ne_b14_bt794), (Ne.symm ne_b25_bt794)]
            have st832 : Steps p.tables e below sE (T829.setTop (mkF m 272 #[.val (.int x0), .val (.int x1), .val (.int x2), .val (.int x3), .val (.int x4), .val (.int cap), .val (.int n), .val (.ref b6), .val (.ref b14), .val (.ref b25), .val (.ref b110), .val (.int (1 : Int32)), .val (.ref b6), .val (.ref bt757), .val (.ref bt774), .val (.ref bt794)] [(.int (1 : Int32))])) := st830.trans (by
                show Steps _ _ _ (T829.setTop (mkF m 264 #[.val (.int x0), .val (.int x1), .val (.int x2), .val (.int x3), .val (.int x4), .val (.int cap), .val (.int n), .val (.ref b6), .val (.ref b14), .val (.ref b25), .val (.ref b110), .val (.int (1 : Int32)), .val (.ref b6), .val (.ref bt757), .val (.ref bt774), .val (.ref bt794)] [(.int (F8 bt794 (4 : Int32) (1 : Int32) b6 b14 b25 x2 x3 x4 (0 : Int32)))])) _
                refine XS.ifNo X829.here hx rfl (hb hby at_264) rfl ((if0 _ _).trans (feq hf831).1) ?_
                show Steps _ _ _ (T829.setTop (mkF m 267 #[.val (.int x0), .val (.int x1), .val (.int x2), .val (.int x3), .val (.int x4), .val (.int cap), .val (.int n), .val (.ref b6), .val (.ref b14), .val (.ref b25), .val (.ref b110), .val (.int (1 : Int32)), .val (.ref b6), .val (.ref bt757), .val (.ref bt774), .val (.ref bt794)] [])) _
                refine XS.iconst X829.here hx rfl (hb hby at_267) ?_
                show Steps _ _ _ (T829.setTop (mkF m 268 #[.val (.int x0), .val (.int x1), .val (.int x2), .val (.int x3), .val (.int x4), .val (.int cap), .val (.int n), .val (.ref b6), .val (.ref b14), .val (.ref b25), .val (.ref b110), .val (.int (1 : Int32)), .val (.ref b6), .val (.ref bt757), .val (.ref bt774), .val (.ref bt794)] [(.int (1 : Int32))])) _
                refine XS.goto X829.here hx rfl (pc0 := 268) (pc' := 272) rfl (hb hby at_268) (by decide) (by decide) ?_
                exact Steps.refl _)
            obtain ⟨fs, hr, hrun, hended, hW, hsame⟩ := X829.leave (v := some (.int (1 : Int32))) (fun h => by rw [Bd.returns] at h; cases h)
            refine ⟨_, _, (own_ent hsE st832).trans ?_, hrun, hended, _, _, rfl, ?_, ⟨_, rfl⟩, hW, hsame.mono (by decide) (by decide)⟩
            · exact retN X829 hx (t := .boolean) Bd.returns (by simp) (hb hby at_272) hr
            · show Q0 Z x0 x1 x2 x3 x4 h0 n0 _ T829.heap _
              rw [hh829]
              exact ⟨rfl, N829⟩
    · 
      obtain ⟨cq833, kq833, q833a, q833b, q833c⟩ := isOf hZ rfl f125_0
      obtain ⟨_, _, ⟨T833, L833, k833, n833⟩, -, X833, ⟨Lc833, hQ833, l833, y833, z833⟩, sr833⟩ := X125.virtualBack hx (y := (⟨"com/example/tideloop/tideloop/MessagePool", "keep", "(Lcom/example/tideloop/tideloop/Message;)V"⟩ : MethodName)) (z := (⟨"com/example/tideloop/tideloop/MessagePool", "keep", "(Lcom/example/tideloop/tideloop/Message;)V"⟩ : MethodName)) hown (mvT hZ (hw _ (List.mem_of_getElem? (i := 22) rfl))) (mvT hZ (hw _ (List.mem_of_getElem? (i := 23) rfl))) (notFace_of_selects (args := #[]) (mvT hZ (hw _ (List.mem_of_getElem? (i := 25) rfl)))) (mvT hZ (hw _ (List.mem_of_getElem? (i := 25) rfl))) (mvT hZ (hw _ (List.mem_of_getElem? (i := 24) rfl))) (by decide) (backOf (W := 0) (rmkn l Z a0 hw [] b110 b6 (0 : Int32) cap T125.heap n0 Z136 f125_0 f125_2 f125_1 hc254) hZ (hw _ (List.mem_of_getElem? (i := 26) rfl)) (hw _ (List.mem_of_getElem? (i := 15) rfl)) (by decide) (by decide)) q833a q833c (g := (mkF m 113 #[.val (.int x0), .val (.int x1), .val (.int x2), .val (.int x3), .val (.int x4), .val (.int cap), .val (.int n), .val (.ref b6), .val (.ref b14), .val (.ref b25), .val (.ref b110), .unset, .unset, .unset, .unset, .unset] [(.ref b6), (.ref b110)])) rfl (by rw [hml]; rfl) (Steps.refl _) (argsL := [(.ref b6)]) (rest := []) (lenOf pd_5 rfl) rfl (by show 2 * 0 + _ ≤ _; exact Nat.le_of_eq rfl) (hb hby at_113) (fun _ _ => ⟨rfl, rfl, (by decide : 4 + 0 ≤ _), (by decide : 60 + 0 ≤ _)⟩)
      dsimp only [Pt.U, Pt.locs, Pt.cells, Pt.slots] at X833 l833 y833 z833 sr833 hQ833
      subst l833 y833 z833
      obtain ⟨rfl, N833q, hh833⟩ := hQ833
      have N833 := Fr.app N125 N833q
      obtain ⟨LL833, X833, N833⟩ := own_hide X833 N833
      have st834 : Steps p.tables e below sE (T833.setTop (mkF m 116 #[.val (.int x0), .val (.int x1), .val (.int x2), .val (.int x3), .val (.int x4), .val (.int cap), .val (.int n), .val (.ref b6), .val (.ref b14), .val (.ref b25), .val (.ref b110), .unset, .unset, .unset, .unset, .unset] [])) := st253.trans (sr833)
      have st835 : Steps p.tables e below sE (T833.setTop (mkF m 119 #[.val (.int x0), .val (.int x1), .val (.int x2), .val (.int x3), .val (.int x4), .val (.int cap), .val (.int n), .val (.ref b6), .val (.ref b14), .val (.ref b25), .val (.ref b110), .unset, .unset, .unset, .unset, .unset] [(.int (2 : Int32)), (.int n)])) := st834.trans (by
          show Steps _ _ _ (T833.setTop (mkF m 116 #[.val (.int x0), .val (.int x1), .val (.int x2), .val (.int x3), .val (.int x4), .val (.int cap), .val (.int n), .val (.ref b6), .val (.ref b14), .val (.ref b25), .val (.ref b110), .unset, .unset, .unset, .unset, .unset] [])) _
          refine XS.iload X833.here hx rfl (hb hby at_116) rfl ?_
          show Steps _ _ _ (T833.setTop (mkF m 118 #[.val (.int x0), .val (.int x1), .val (.int x2), .val (.int x3), .val (.int x4), .val (.int cap), .val (.int n), .val (.ref b6), .val (.ref b14), .val (.ref b25), .val (.ref b110), .unset, .unset, .unset, .unset, .unset] [(.int n)])) _
          refine XS.iconst X833.here hx rfl (hb hby at_118) ?_
          exact Steps.refl _)
      by_cases hc836 : n < (2 : Int32)
      · have st837 : Steps p.tables e below sE (T833.setTop (mkF m 132 #[.val (.int x0), .val (.int x1), .val (.int x2), .val (.int x3), .val (.int x4), .val (.int cap), .val (.int n), .val (.ref b6), .val (.ref b14), .val (.ref b25), .val (.ref b110), .unset, .unset, .unset, .unset, .unset] [(.int (3 : Int32)), (.int n)])) := st835.trans (by
            show Steps _ _ _ (T833.setTop (mkF m 119 #[.val (.int x0), .val (.int x1), .val (.int x2), .val (.int x3), .val (.int x4), .val (.int cap), .val (.int n), .val (.ref b6), .val (.ref b14), .val (.ref b25), .val (.ref b110), .unset, .unset, .unset, .unset, .unset] [(.int (2 : Int32)), (.int n)])) _
            refine XS.icmpYes X833.here hx rfl (pc0 := 119) (pc' := 129) rfl (hb hby at_119) rfl (tlt hc836).1 (by decide) (by decide) ?_
            show Steps _ _ _ (T833.setTop (mkF m 129 #[.val (.int x0), .val (.int x1), .val (.int x2), .val (.int x3), .val (.int x4), .val (.int cap), .val (.int n), .val (.ref b6), .val (.ref b14), .val (.ref b25), .val (.ref b110), .unset, .unset, .unset, .unset, .unset] [])) _
            refine XS.iload X833.here hx rfl (hb hby at_129) rfl ?_
            show Steps _ _ _ (T833.setTop (mkF m 131 #[.val (.int x0), .val (.int x1), .val (.int x2), .val (.int x3), .val (.int x4), .val (.int cap), .val (.int n), .val (.ref b6), .val (.ref b14), .val (.ref b25), .val (.ref b110), .unset, .unset, .unset, .unset, .unset] [(.int n)])) _
            refine XS.iconst X833.here hx rfl (hb hby at_131) ?_
            exact Steps.refl _)
        have hf838 : n < (3 : Int32) := own_lt hc836 (by decide)
        have st839 : Steps p.tables e below sE (T833.setTop (mkF m 142 #[.val (.int x0), .val (.int x1), .val (.int x2), .val (.int x3), .val (.int x4), .val (.int cap), .val (.int n), .val (.ref b6), .val (.ref b14), .val (.ref b25), .val (.ref b110), .unset, .unset, .unset, .unset, .unset] [])) := st837.trans (by
            show Steps _ _ _ (T833.setTop (mkF m 132 #[.val (.int x0), .val (.int x1), .val (.int x2), .val (.int x3), .val (.int x4), .val (.int cap), .val (.int n), .val (.ref b6), .val (.ref b14), .val (.ref b25), .val (.ref b110), .unset, .unset, .unset, .unset, .unset] [(.int (3 : Int32)), (.int n)])) _
            refine XS.icmpYes X833.here hx rfl (pc0 := 132) (pc' := 142) rfl (hb hby at_132) rfl (tlt hf838).1 (by decide) (by decide) ?_
            exact Steps.refl _)
        have st840 : Steps p.tables e below sE (T833.setTop (mkF m 147 #[.val (.int x0), .val (.int x1), .val (.int x2), .val (.int x3), .val (.int x4), .val (.int cap), .val (.int n), .val (.ref b6), .val (.ref b14), .val (.ref b25), .val (.ref b110), .unset, .unset, .unset, .unset, .unset] [(.int cap), (.int (0 : Int32)), (.int n)])) := st839.trans (by
            show Steps _ _ _ (T833.setTop (mkF m 142 #[.val (.int x0), .val (.int x1), .val (.int x2), .val (.int x3), .val (.int x4), .val (.int cap), .val (.int n), .val (.ref b6), .val (.ref b14), .val (.ref b25), .val (.ref b110), .unset, .unset, .unset, .unset, .unset] [])) _
            refine XS.iload X833.here hx rfl (hb hby at_142) rfl ?_
            show Steps _ _ _ (T833.setTop (mkF m 144 #[.val (.int x0), .val (.int x1), .val (.int x2), .val (.int x3), .val (.int x4), .val (.int cap), .val (.int n), .val (.ref b6), .val (.ref b14), .val (.ref b25), .val (.ref b110), .unset, .unset, .unset, .unset, .unset] [(.int n)])) _
            refine XS.iconst X833.here hx rfl (hb hby at_144) ?_
            show Steps _ _ _ (T833.setTop (mkF m 145 #[.val (.int x0), .val (.int x1), .val (.int x2), .val (.int x3), .val (.int x4), .val (.int cap), .val (.int n), .val (.ref b6), .val (.ref b14), .val (.ref b25), .val (.ref b110), .unset, .unset, .unset, .unset, .unset] [(.int (0 : Int32)), (.int n)])) _
            refine XS.iload X833.here hx rfl (hb hby at_145) rfl ?_
            exact Steps.refl _)
        obtain ⟨_, _, ⟨T841, L841, k841, n841⟩, -, X841, ⟨Lc841, hQ841, l841, y841, z841⟩, sr841⟩ := Jvm.LawKit.callS X833 hx (y := (⟨"java/lang/Math", "max", "(II)I"⟩ : MethodName)) hown (mvT hZ (hw _ (List.mem_of_getElem? (i := 29) rfl))) (mvT hZ (hw _ (List.mem_of_getElem? (i := 30) rfl))) (mvT hZ (hw _ (List.mem_of_getElem? (i := 31) rfl))) (mvT hZ (hw _ (List.mem_of_getElem? (i := 32) rfl))) (by decide) (backOf (W := 1) (rm5 l Z a0 hw [] (0 : Int32) cap  T125.heap n0 Z136 ) hZ (hw _ (List.mem_of_getElem? (i := 32) rfl)) (hw _ (List.mem_of_getElem? (i := 31) rfl)) (by decide) (by decide)) (g := (mkF m 147 #[.val (.int x0), .val (.int x1), .val (.int x2), .val (.int x3), .val (.int x4), .val (.int cap), .val (.int n), .val (.ref b6), .val (.ref b14), .val (.ref b25), .val (.ref b110), .unset, .unset, .unset, .unset, .unset] [(.int cap), (.int (0 : Int32)), (.int n)])) rfl (by rw [hml]; rfl) (argsL := [(.int (0 : Int32)), (.int cap)]) (rest := [(.int n)]) (lenOf pd_2 rfl) rfl (by show 2 * 0 + _ ≤ _; exact Nat.le_of_eq rfl) (hb hby at_147) (fun _ _ => ⟨rfl, hh833, (by decide : 4 + 0 ≤ _), (by decide : 60 + 0 ≤ _)⟩)
        dsimp only [Pt.U, Pt.locs, Pt.cells, Pt.slots] at X841 l841 y841 z841 sr841 hQ841
        subst l841 y841 z841
        obtain ⟨rfl, N841q, hh841⟩ := hQ841
        have N841 := Fr.app N833 N841q
        obtain ⟨LL841, X841, N841⟩ := own_hide X841 N841
        have st842 : Steps p.tables e below sE (T841.setTop (mkF m 150 #[.val (.int x0), .val (.int x1), .val (.int x2), .val (.int x3), .val (.int x4), .val (.int cap), .val (.int n), .val (.ref b6), .val (.ref b14), .val (.ref b25), .val (.ref b110), .unset, .unset, .unset, .unset, .unset] [(.int (F5 (0 : Int32) cap)), (.int n)])) := st840.trans (sr841 _ (Steps.refl _))
        obtain ⟨_, _, ⟨T843, L843, k843, n843⟩, -, X843, ⟨Lc843, hQ843, l843, y843, z843⟩, sr843⟩ := Jvm.LawKit.callS X841 hx (y := (⟨"java/lang/Math", "min", "(II)I"⟩ : MethodName)) hown (mvT hZ (hw _ (List.mem_of_getElem? (i := 33) rfl))) (mvT hZ (hw _ (List.mem_of_getElem? (i := 34) rfl))) (mvT hZ (hw _ (List.mem_of_getElem? (i := 31) rfl))) (mvT hZ (hw _ (List.mem_of_getElem? (i := 35) rfl))) (by decide) (backOf (W := 0) (rm6 l Z a0 hw [] n (F5 (0 : Int32) cap)  T125.heap n0 Z136 ) hZ (hw _ (List.mem_of_getElem? (i := 35) rfl)) (hw _ (List.mem_of_getElem? (i := 31) rfl)) (by decide) (by decide)) (g := (mkF m 150 #[.val (.int x0), .val (.int x1), .val (.int x2), .val (.int x3), .val (.int x4), .val (.int cap), .val (.int n), .val (.ref b6), .val (.ref b14), .val (.ref b25), .val (.ref b110), .unset, .unset, .unset, .unset, .unset] [(.int (F5 (0 : Int32) cap)), (.int n)])) rfl (by rw [hml]; rfl) (argsL := [(.int n), (.int (F5 (0 : Int32) cap))]) (rest := []) (lenOf pd_2 rfl) rfl (by show 2 * 0 + _ ≤ _; exact Nat.le_of_eq rfl) (hb hby at_150) (fun _ _ => ⟨rfl, hh841, (by decide : 4 + 0 ≤ _), (by decide : 60 + 0 ≤ _)⟩)
        dsimp only [Pt.U, Pt.locs, Pt.cells, Pt.slots] at X843 l843 y843 z843 sr843 hQ843
        subst l843 y843 z843
        obtain ⟨rfl, N843q, hh843⟩ := hQ843
        have N843 := Fr.app N841 N843q
        obtain ⟨LL843, X843, N843⟩ := own_hide X843 N843
        have st844 : Steps p.tables e below sE (T843.setTop (mkF m 153 #[.val (.int x0), .val (.int x1), .val (.int x2), .val (.int x3), .val (.int x4), .val (.int cap), .val (.int n), .val (.ref b6), .val (.ref b14), .val (.ref b25), .val (.ref b110), .unset, .unset, .unset, .unset, .unset] [(.int (F6 n (F5 (0 : Int32) cap)))])) := st842.trans (sr843 _ (Steps.refl _))
        have hs0 := own_nlti hc254 (z := 0) (by decide)
        have hm1 := own_nltr hc139 (z := 1) (by decide)
        have hm2 := own_ltr hc836 (z := 2) (by decide)
        have hk0 : (0 : Int32).toInt = 0 := by decide
        have hkp : (F6 n (F5 (0 : Int32) cap)) = (0 : Int32) := own_kp n cap (0 : Int32) (by omega)
        rw [hkp] at st844
        have st845 : Steps p.tables e below sE (T843.setTop (mkF m 157 #[.val (.int x0), .val (.int x1), .val (.int x2), .val (.int x3), .val (.int x4), .val (.int cap), .val (.int n), .val (.ref b6), .val (.ref b14), .val (.ref b25), .val (.ref b110), .val (.int (0 : Int32)), .unset, .unset, .unset, .unset] [(.ref b110)])) := st844.trans (by
            show Steps _ _ _ (T843.setTop (mkF m 153 #[.val (.int x0), .val (.int x1), .val (.int x2), .val (.int x3), .val (.int x4), .val (.int cap), .val (.int n), .val (.ref b6), .val (.ref b14), .val (.ref b25), .val (.ref b110), .unset, .unset, .unset, .unset, .unset] [(.int (0 : Int32))])) _
            refine XS.istore X843.here hx rfl (hb hby at_153) rfl (l' := #[.val (.int x0), .val (.int x1), .val (.int x2), .val (.int x3), .val (.int x4), .val (.int cap), .val (.int n), .val (.ref b6), .val (.ref b14), .val (.ref b25), .val (.ref b110), .val (.int (0 : Int32)), .unset, .unset, .unset, .unset]) rfl ?_
            show Steps _ _ _ (T843.setTop (mkF m 155 #[.val (.int x0), .val (.int x1), .val (.int x2), .val (.int x3), .val (.int x4), .val (.int cap), .val (.int n), .val (.ref b6), .val (.ref b14), .val (.ref b25), .val (.ref b110), .val (.int (0 : Int32)), .unset, .unset, .unset, .unset] [])) _
            refine XS.aload X843.here hx rfl (hb hby at_155) rfl rfl ?_
            exact Steps.refl _)
        obtain ⟨cq846, kq846, q846a, q846b, q846c⟩ := isOf hZ hh843 f125_0
        obtain ⟨_, _, ⟨T846, L846, k846, n846⟩, -, X846, ⟨Lc846, hQ846, l846, y846, z846⟩, sr846⟩ := X843.virtualBack hx (y := (⟨"com/example/tideloop/tideloop/MessagePool", "take", "()Lcom/example/tideloop/tideloop/Message;"⟩ : MethodName)) (z := (⟨"com/example/tideloop/tideloop/MessagePool", "take", "()Lcom/example/tideloop/tideloop/Message;"⟩ : MethodName)) hown (mvT hZ (hw _ (List.mem_of_getElem? (i := 36) rfl))) (mvT hZ (hw _ (List.mem_of_getElem? (i := 37) rfl))) (notFace_of_selects (args := #[]) (mvT hZ (hw _ (List.mem_of_getElem? (i := 39) rfl)))) (mvT hZ (hw _ (List.mem_of_getElem? (i := 39) rfl))) (mvT hZ (hw _ (List.mem_of_getElem? (i := 38) rfl))) (by decide) (backOf (W := 0) (rmtk0 l Z a0 hw [] b110  T125.heap n0 Z136 f125_0 f125_3) hZ (hw _ (List.mem_of_getElem? (i := 40) rfl)) (hw _ (List.mem_of_getElem? (i := 15) rfl)) (by decide) (by decide)) q846a q846c (g := (mkF m 157 #[.val (.int x0), .val (.int x1), .val (.int x2), .val (.int x3), .val (.int x4), .val (.int cap), .val (.int n), .val (.ref b6), .val (.ref b14), .val (.ref b25), .val (.ref b110), .val (.int (0 : Int32)), .unset, .unset, .unset, .unset] [(.ref b110)])) rfl (by rw [hml]; rfl) (Steps.refl _) (argsL := []) (rest := []) (lenOf pd_3 rfl) rfl (by show 2 * 0 + _ ≤ _; exact Nat.le_of_eq rfl) (hb hby at_157) (fun _ _ => ⟨rfl, hh843, (by decide : 4 + 1 ≤ _), (by decide : 60 + 19 ≤ _)⟩)
        dsimp only [Pt.U, Pt.locs, Pt.cells, Pt.slots] at X846 l846 y846 z846 sr846 hQ846
        subst l846 y846 z846
        obtain ⟨rfl, N846q, K846c, ⟨qe846, qn846, qw846⟩⟩ := hQ846
        have N846 := Fr.app N843 N846q
        obtain ⟨LL846, X846, N846⟩ := own_hide X846 N846
        have f847 : Exa Z T846.heap b6 "com/example/tideloop/tideloop/Message" := f126.keep K846c
        have f848 : Exa Z T846.heap b14 "com/example/tideloop/tideloop/Message" := f127.keep K846c
        have f849 : Exa Z T846.heap b25 "com/example/tideloop/tideloop/Message" := f128.keep K846c
        have f850 : Fld Z T846.heap b6 "com/example/tideloop/tideloop/Message" "what" "I" (.int x2) := f129.keep K846c nin0
        have f851 : Fld Z T846.heap b14 "com/example/tideloop/tideloop/Message" "what" "I" (.int x3) := f130.keep K846c nin0
        have f852 : Fld Z T846.heap b25 "com/example/tideloop/tideloop/Message" "what" "I" (.int x4) := f131.keep K846c nin0
        have f853 : Fld Z T846.heap b6 "com/example/tideloop/tideloop/Message" "nextPooled" "Lcom/example/tideloop/tideloop/Message;" (.ref b25) := f132.keep K846c nin0
        have f854 : Fld Z T846.heap b14 "com/example/tideloop/tideloop/Message" "nextPooled" "Lcom/example/tideloop/tideloop/Message;" (.ref b6) := f133.keep K846c nin0
        have f855 : Fld Z T846.heap b25 "com/example/tideloop/tideloop/Message" "nextPooled" "Lcom/example/tideloop/tideloop/Message;" (.ref b14) := f134.keep K846c nin0
        have f856 : Exa Z T846.heap b110 "com/example/tideloop/tideloop/MessagePool" := f125_0.keep K846c
        have f857 : Fld Z T846.heap b110 "com/example/tideloop/tideloop/MessagePool" "capacity" "I" (.int cap) := f125_1.keep K846c nin0
        have f858 : Fld Z T846.heap b110 "com/example/tideloop/tideloop/MessagePool" "size" "I" (.int (0 : Int32)) := f125_2.keep K846c nin0
        have f859 : Fld Z T846.heap b110 "com/example/tideloop/tideloop/MessagePool" "head" "Lcom/example/tideloop/tideloop/Message;" .null := f125_3.keep K846c nin0
        have Z860 : n0 ≤ T846.heap.size := Nat.le_trans Z136 K846c.1
        obtain ⟨bt846, g846⟩ : ∃ z, z = T125.heap.size := ⟨_, rfl⟩
        rw [← g846] at qe846 qn846 qw846 sr846
        have g_bt846 : n0 ≤ bt846 := Nat.le_trans Z136 (Nat.le_of_eq g846.symm)
        have ne_b6_bt846 : b6 ≠ bt846 := Nat.ne_of_lt (Nat.lt_of_lt_of_le f126.lt (Nat.le_of_eq g846.symm))
        have ne_b14_bt846 : b14 ≠ bt846 := Nat.ne_of_lt (Nat.lt_of_lt_of_le f127.lt (Nat.le_of_eq g846.symm))
        have ne_b25_bt846 : b25 ≠ bt846 := Nat.ne_of_lt (Nat.lt_of_lt_of_le f128.lt (Nat.le_of_eq g846.symm))
        have ne_b110_bt846 : b110 ≠ bt846 := Nat.ne_of_lt (Nat.lt_of_lt_of_le f125_0.lt (Nat.le_of_eq g846.symm))
        have st861 : Steps p.tables e below sE (T846.setTop (mkF m 160 #[.val (.int x0), .val (.int x1), .val (.int x2), .val (.int x3), .val (.int x4), .val (.int cap), .val (.int n), .val (.ref b6), .val (.ref b14), .val (.ref b25), .val (.ref b110), .val (.int (0 : Int32)), .unset, .unset, .unset, .unset] [(.ref bt846)])) := st845.trans (sr846)
        have st862 : Steps p.tables e below sE (T846.setTop (mkF m 164 #[.val (.int x0), .val (.int x1), .val (.int x2), .val (.int x3), .val (.int x4), .val (.int cap), .val (.int n), .val (.ref b6), .val (.ref b14), .val (.ref b25), .val (.ref b110), .val (.int (0 : Int32)), .val (.ref bt846), .unset, .unset, .unset] [(.ref b110)])) := st861.trans (by
            show Steps _ _ _ (T846.setTop (mkF m 160 #[.val (.int x0), .val (.int x1), .val (.int x2), .val (.int x3), .val (.int x4), .val (.int cap), .val (.int n), .val (.ref b6), .val (.ref b14), .val (.ref b25), .val (.ref b110), .val (.int (0 : Int32)), .unset, .unset, .unset, .unset] [(.ref bt846)])) _
            refine XS.astore X846.here hx rfl (hb hby at_160) rfl rfl (l' := #[.val (.int x0), .val (.int x1), .val (.int x2), .val (.int x3), .val (.int x4), .val (.int cap), .val (.int n), .val (.ref b6), .val (.ref b14), .val (.ref b25), .val (.ref b110), .val (.int (0 : Int32)), .val (.ref bt846), .unset, .unset, .unset]) rfl ?_
            show Steps _ _ _ (T846.setTop (mkF m 162 #[.val (.int x0), .val (.int x1), .val (.int x2), .val (.int x3), .val (.int x4), .val (.int cap), .val (.int n), .val (.ref b6), .val (.ref b14), .val (.ref b25), .val (.ref b110), .val (.int (0 : Int32)), .val (.ref bt846), .unset, .unset, .unset] [])) _
            refine XS.aload X846.here hx rfl (hb hby at_162) rfl rfl ?_
            exact Steps.refl _)
        obtain ⟨cq863, kq863, q863a, q863b, q863c⟩ := isOf hZ rfl f856
        obtain ⟨_, _, ⟨T863, L863, k863, n863⟩, -, X863, ⟨Lc863, hQ863, l863, y863, z863⟩, sr863⟩ := X846.virtualBack hx (y := (⟨"com/example/tideloop/tideloop/MessagePool", "take", "()Lcom/example/tideloop/tideloop/Message;"⟩ : MethodName)) (z := (⟨"com/example/tideloop/tideloop/MessagePool", "take", "()Lcom/example/tideloop/tideloop/Message;"⟩ : MethodName)) hown (mvT hZ (hw _ (List.mem_of_getElem? (i := 36) rfl))) (mvT hZ (hw _ (List.mem_of_getElem? (i := 37) rfl))) (notFace_of_selects (args := #[]) (mvT hZ (hw _ (List.mem_of_getElem? (i := 39) rfl)))) (mvT hZ (hw _ (List.mem_of_getElem? (i := 39) rfl))) (mvT hZ (hw _ (List.mem_of_getElem? (i := 38) rfl))) (by decide) (backOf (W := 0) (rmtk0 l Z a0 hw [] b110  T846.heap n0 Z860 f856 f859) hZ (hw _ (List.mem_of_getElem? (i := 40) rfl)) (hw _ (List.mem_of_getElem? (i := 15) rfl)) (by decide) (by decide)) q863a q863c (g := (mkF m 164 #[.val (.int x0), .val (.int x1), .val (.int x2), .val (.int x3), .val (.int x4), .val (.int cap), .val (.int n), .val (.ref b6), .val (.ref b14), .val (.ref b25), .val (.ref b110), .val (.int (0 : Int32)), .val (.ref bt846), .unset, .unset, .unset] [(.ref b110)])) rfl (by rw [hml]; rfl) (Steps.refl _) (argsL := []) (rest := []) (lenOf pd_3 rfl) rfl (by show 2 * 0 + _ ≤ _; exact Nat.le_of_eq rfl) (hb hby at_164) (fun _ _ => ⟨rfl, rfl, (by decide : 5 + 1 ≤ _), (by decide : 79 + 19 ≤ _)⟩)
        dsimp only [Pt.U, Pt.locs, Pt.cells, Pt.slots] at X863 l863 y863 z863 sr863 hQ863
        subst l863 y863 z863
        obtain ⟨rfl, N863q, K863c, ⟨qe863, qn863, qw863⟩⟩ := hQ863
        have N863 := Fr.app N846 N863q
        obtain ⟨LL863, X863, N863⟩ := own_hide X863 N863
        have f864 : Exa Z T863.heap b6 "com/example/tideloop/tideloop/Message" := f847.keep K863c
        have f865 : Exa Z T863.heap b14 "com/example/tideloop/tideloop/Message" := f848.keep K863c
        have f866 : Exa Z T863.heap b25 "com/example/tideloop/tideloop/Message" := f849.keep K863c
        have f867 : Fld Z T863.heap b6 "com/example/tideloop/tideloop/Message" "what" "I" (.int x2) := f850.keep K863c nin0
        have f868 : Fld Z T863.heap b14 "com/example/tideloop/tideloop/Message" "what" "I" (.int x3) := f851.keep K863c nin0
        have f869 : Fld Z T863.heap b25 "com/example/tideloop/tideloop/Message" "what" "I" (.int x4) := f852.keep K863c nin0
        have f870 : Fld Z T863.heap b6 "com/example/tideloop/tideloop/Message" "nextPooled" "Lcom/example/tideloop/tideloop/Message;" (.ref b25) := f853.keep K863c nin0
        have f871 : Fld Z T863.heap b14 "com/example/tideloop/tideloop/Message" "nextPooled" "Lcom/example/tideloop/tideloop/Message;" (.ref b6) := f854.keep K863c nin0
        have f872 : Fld Z T863.heap b25 "com/example/tideloop/tideloop/Message" "nextPooled" "Lcom/example/tideloop/tideloop/Message;" (.ref b14) := f855.keep K863c nin0
        have f873 : Exa Z T863.heap b110 "com/example/tideloop/tideloop/MessagePool" := f856.keep K863c
        have f874 : Fld Z T863.heap b110 "com/example/tideloop/tideloop/MessagePool" "capacity" "I" (.int cap) := f857.keep K863c nin0
        have f875 : Fld Z T863.heap b110 "com/example/tideloop/tideloop/MessagePool" "size" "I" (.int (0 : Int32)) := f858.keep K863c nin0
        have f876 : Fld Z T863.heap b110 "com/example/tideloop/tideloop/MessagePool" "head" "Lcom/example/tideloop/tideloop/Message;" .null := f859.keep K863c nin0
        have f877 : Exa Z T863.heap bt846 "com/example/tideloop/tideloop/Message" := qe846.keep K863c
        have f878 : Fld Z T863.heap bt846 "com/example/tideloop/tideloop/Message" "nextPooled" "Lcom/example/tideloop/tideloop/Message;" .null := qn846.keep K863c nin0
        have f879 : Fld Z T863.heap bt846 "com/example/tideloop/tideloop/Message" "what" "I" (.int (0 : Int32)) := qw846.keep K863c nin0
        have Z880 : n0 ≤ T863.heap.size := Nat.le_trans Z860 K863c.1
        obtain ⟨bt863, g863⟩ : ∃ z, z = T846.heap.size := ⟨_, rfl⟩
        rw [← g863] at qe863 qn863 qw863 sr863
        have g_bt863 : n0 ≤ bt863 := Nat.le_trans Z860 (Nat.le_of_eq g863.symm)
        have ne_b6_bt863 : b6 ≠ bt863 := Nat.ne_of_lt (Nat.lt_of_lt_of_le f847.lt (Nat.le_of_eq g863.symm))
        have ne_b14_bt863 : b14 ≠ bt863 := Nat.ne_of_lt (Nat.lt_of_lt_of_le f848.lt (Nat.le_of_eq g863.symm))
        have ne_b25_bt863 : b25 ≠ bt863 := Nat.ne_of_lt (Nat.lt_of_lt_of_le f849.lt (Nat.le_of_eq g863.symm))
        have ne_b110_bt863 : b110 ≠ bt863 := Nat.ne_of_lt (Nat.lt_of_lt_of_le f856.lt (Nat.le_of_eq g863.symm))
        have ne_bt846_bt863 : bt846 ≠ bt863 := Nat.ne_of_lt (Nat.lt_of_lt_of_le qe846.lt (Nat.le_of_eq g863.symm))
        have st881 : Steps p.tables e below sE (T863.setTop (mkF m 167 #[.val (.int x0), .val (.int x1), .val (.int x2), .val (.int x3), .val (.int x4), .val (.int cap), .val (.int n), .val (.ref b6), .val (.ref b14), .val (.ref b25), .val (.ref b110), .val (.int (0 : Int32)), .val (.ref bt846), .unset, .unset, .unset] [(.ref bt863)])) := st862.trans (sr863)
        have st882 : Steps p.tables e below sE (T863.setTop (mkF m 171 #[.val (.int x0), .val (.int x1), .val (.int x2), .val (.int x3), .val (.int x4), .val (.int cap), .val (.int n), .val (.ref b6), .val (.ref b14), .val (.ref b25), .val (.ref b110), .val (.int (0 : Int32)), .val (.ref bt846), .val (.ref bt863), .unset, .unset] [(.ref b110)])) := st881.trans (by
            show Steps _ _ _ (T863.setTop (mkF m 167 #[.val (.int x0), .val (.int x1), .val (.int x2), .val (.int x3), .val (.int x4), .val (.int cap), .val (.int n), .val (.ref b6), .val (.ref b14), .val (.ref b25), .val (.ref b110), .val (.int (0 : Int32)), .val (.ref bt846), .unset, .unset, .unset] [(.ref bt863)])) _
            refine XS.astore X863.here hx rfl (hb hby at_167) rfl rfl (l' := #[.val (.int x0), .val (.int x1), .val (.int x2), .val (.int x3), .val (.int x4), .val (.int cap), .val (.int n), .val (.ref b6), .val (.ref b14), .val (.ref b25), .val (.ref b110), .val (.int (0 : Int32)), .val (.ref bt846), .val (.ref bt863), .unset, .unset]) rfl ?_
            show Steps _ _ _ (T863.setTop (mkF m 169 #[.val (.int x0), .val (.int x1), .val (.int x2), .val (.int x3), .val (.int x4), .val (.int cap), .val (.int n), .val (.ref b6), .val (.ref b14), .val (.ref b25), .val (.ref b110), .val (.int (0 : Int32)), .val (.ref bt846), .val (.ref bt863), .unset, .unset] [])) _
            refine XS.aload X863.here hx rfl (hb hby at_169) rfl rfl ?_
            exact Steps.refl _)
        obtain ⟨cq883, kq883, q883a, q883b, q883c⟩ := isOf hZ rfl f873
        obtain ⟨_, _, ⟨T883, L883, k883, n883⟩, -, X883, ⟨Lc883, hQ883, l883, y883, z883⟩, sr883⟩ := X863.virtualBack hx (y := (⟨"com/example/tideloop/tideloop/MessagePool", "take", "()Lcom/example/tideloop/tideloop/Message;"⟩ : MethodName)) (z := (⟨"com/example/tideloop/tideloop/MessagePool", "take", "()Lcom/example/tideloop/tideloop/Message;"⟩ : MethodName)) hown (mvT hZ (hw _ (List.mem_of_getElem? (i := 36) rfl))) (mvT hZ (hw _ (List.mem_of_getElem? (i := 37) rfl))) (notFace_of_selects (args := #[]) (mvT hZ (hw _ (List.mem_of_getElem? (i := 39) rfl)))) (mvT hZ (hw _ (List.mem_of_getElem? (i := 39) rfl))) (mvT hZ (hw _ (List.mem_of_getElem? (i := 38) rfl))) (by decide) (backOf (W := 0) (rmtk0 l Z a0 hw [] b110  T863.heap n0 Z880 f873 f876) hZ (hw _ (List.mem_of_getElem? (i := 40) rfl)) (hw _ (List.mem_of_getElem? (i := 15) rfl)) (by decide) (by decide)) q883a q883c (g := (mkF m 171 #[.val (.int x0), .val (.int x1), .val (.int x2), .val (.int x3), .val (.int x4), .val (.int cap), .val (.int n), .val (.ref b6), .val (.ref b14), .val (.ref b25), .val (.ref b110), .val (.int (0 : Int32)), .val (.ref bt846), .val (.ref bt863), .unset, .unset] [(.ref b110)])) rfl (by rw [hml]; rfl) (Steps.refl _) (argsL := []) (rest := []) (lenOf pd_3 rfl) rfl (by show 2 * 0 + _ ≤ _; exact Nat.le_of_eq rfl) (hb hby at_171) (fun _ _ => ⟨rfl, rfl, (by decide : 6 + 1 ≤ _), (by decide : 98 + 19 ≤ _)⟩)
        dsimp only [Pt.U, Pt.locs, Pt.cells, Pt.slots] at X883 l883 y883 z883 sr883 hQ883
        subst l883 y883 z883
        obtain ⟨rfl, N883q, K883c, ⟨qe883, qn883, qw883⟩⟩ := hQ883
        have N883 := Fr.app N863 N883q
        obtain ⟨LL883, X883, N883⟩ := own_hide X883 N883
        have f884 : Exa Z T883.heap b6 "com/example/tideloop/tideloop/Message" := f864.keep K883c
        have f885 : Exa Z T883.heap b14 "com/example/tideloop/tideloop/Message" := f865.keep K883c
        have f886 : Exa Z T883.heap b25 "com/example/tideloop/tideloop/Message" := f866.keep K883c
        have f887 : Fld Z T883.heap b6 "com/example/tideloop/tideloop/Message" "what" "I" (.int x2) := f867.keep K883c nin0
        have f888 : Fld Z T883.heap b14 "com/example/tideloop/tideloop/Message" "what" "I" (.int x3) := f868.keep K883c nin0
        have f889 : Fld Z T883.heap b25 "com/example/tideloop/tideloop/Message" "what" "I" (.int x4) := f869.keep K883c nin0
        have f890 : Fld Z T883.heap b6 "com/example/tideloop/tideloop/Message" "nextPooled" "Lcom/example/tideloop/tideloop/Message;" (.ref b25) := f870.keep K883c nin0
        have f891 : Fld Z T883.heap b14 "com/example/tideloop/tideloop/Message" "nextPooled" "Lcom/example/tideloop/tideloop/Message;" (.ref b6) := f871.keep K883c nin0
        have f892 : Fld Z T883.heap b25 "com/example/tideloop/tideloop/Message" "nextPooled" "Lcom/example/tideloop/tideloop/Message;" (.ref b14) := f872.keep K883c nin0
        have f893 : Exa Z T883.heap b110 "com/example/tideloop/tideloop/MessagePool" := f873.keep K883c
        have f894 : Fld Z T883.heap b110 "com/example/tideloop/tideloop/MessagePool" "capacity" "I" (.int cap) := f874.keep K883c nin0
        have f895 : Fld Z T883.heap b110 "com/example/tideloop/tideloop/MessagePool" "size" "I" (.int (0 : Int32)) := f875.keep K883c nin0
        have f896 : Fld Z T883.heap b110 "com/example/tideloop/tideloop/MessagePool" "head" "Lcom/example/tideloop/tideloop/Message;" .null := f876.keep K883c nin0
        have f897 : Exa Z T883.heap bt846 "com/example/tideloop/tideloop/Message" := f877.keep K883c
        have f898 : Fld Z T883.heap bt846 "com/example/tideloop/tideloop/Message" "nextPooled" "Lcom/example/tideloop/tideloop/Message;" .null := f878.keep K883c nin0
        have f899 : Fld Z T883.heap bt846 "com/example/tideloop/tideloop/Message" "what" "I" (.int (0 : Int32)) := f879.keep K883c nin0
        have f900 : Exa Z T883.heap bt863 "com/example/tideloop/tideloop/Message" := qe863.keep K883c
        have f901 : Fld Z T883.heap bt863 "com/example/tideloop/tideloop/Message" "nextPooled" "Lcom/example/tideloop/tideloop/Message;" .null := qn863.keep K883c nin0
        have f902 : Fld Z T883.heap bt863 "com/example/tideloop/tideloop/Message" "what" "I" (.int (0 : Int32)) := qw863.keep K883c nin0
        have Z903 : n0 ≤ T883.heap.size := Nat.le_trans Z880 K883c.1
        obtain ⟨bt883, g883⟩ : ∃ z, z = T863.heap.size := ⟨_, rfl⟩
        rw [← g883] at qe883 qn883 qw883 sr883
        have g_bt883 : n0 ≤ bt883 := Nat.le_trans Z880 (Nat.le_of_eq g883.symm)
        have ne_b6_bt883 : b6 ≠ bt883 := Nat.ne_of_lt (Nat.lt_of_lt_of_le f864.lt (Nat.le_of_eq g883.symm))
        have ne_b14_bt883 : b14 ≠ bt883 := Nat.ne_of_lt (Nat.lt_of_lt_of_le f865.lt (Nat.le_of_eq g883.symm))
        have ne_b25_bt883 : b25 ≠ bt883 := Nat.ne_of_lt (Nat.lt_of_lt_of_le f866.lt (Nat.le_of_eq g883.symm))
        have ne_b110_bt883 : b110 ≠ bt883 := Nat.ne_of_lt (Nat.lt_of_lt_of_le f873.lt (Nat.le_of_eq g883.symm))
        have ne_bt846_bt883 : bt846 ≠ bt883 := Nat.ne_of_lt (Nat.lt_of_lt_of_le f877.lt (Nat.le_of_eq g883.symm))
        have ne_bt863_bt883 : bt863 ≠ bt883 := Nat.ne_of_lt (Nat.lt_of_lt_of_le qe863.lt (Nat.le_of_eq g883.symm))
        have st904 : Steps p.tables e below sE (T883.setTop (mkF m 174 #[.val (.int x0), .val (.int x1), .val (.int x2), .val (.int x3), .val (.int x4), .val (.int cap), .val (.int n), .val (.ref b6), .val (.ref b14), .val (.ref b25), .val (.ref b110), .val (.int (0 : Int32)), .val (.ref bt846), .val (.ref bt863), .unset, .unset] [(.ref bt883)])) := st882.trans (sr883)
        have st905 : Steps p.tables e below sE (T883.setTop (mkF m 178 #[.val (.int x0), .val (.int x1), .val (.int x2), .val (.int x3), .val (.int x4), .val (.int cap), .val (.int n), .val (.ref b6), .val (.ref b14), .val (.ref b25), .val (.ref b110), .val (.int (0 : Int32)), .val (.ref bt846), .val (.ref bt863), .val (.ref bt883), .unset] [(.ref b110)])) := st904.trans (by
            show Steps _ _ _ (T883.setTop (mkF m 174 #[.val (.int x0), .val (.int x1), .val (.int x2), .val (.int x3), .val (.int x4), .val (.int cap), .val (.int n), .val (.ref b6), .val (.ref b14), .val (.ref b25), .val (.ref b110), .val (.int (0 : Int32)), .val (.ref bt846), .val (.ref bt863), .unset, .unset] [(.ref bt883)])) _
            refine XS.astore X883.here hx rfl (hb hby at_174) rfl rfl (l' := #[.val (.int x0), .val (.int x1), .val (.int x2), .val (.int x3), .val (.int x4), .val (.int cap), .val (.int n), .val (.ref b6), .val (.ref b14), .val (.ref b25), .val (.ref b110), .val (.int (0 : Int32)), .val (.ref bt846), .val (.ref bt863), .val (.ref bt883), .unset]) rfl ?_
            show Steps _ _ _ (T883.setTop (mkF m 176 #[.val (.int x0), .val (.int x1), .val (.int x2), .val (.int x3), .val (.int x4), .val (.int cap), .val (.int n), .val (.ref b6), .val (.ref b14), .val (.ref b25), .val (.ref b110), .val (.int (0 : Int32)), .val (.ref bt846), .val (.ref bt863), .val (.ref bt883), .unset] [])) _
            refine XS.aload X883.here hx rfl (hb hby at_176) rfl rfl ?_
            exact Steps.refl _)
        obtain ⟨cq906, kq906, q906a, q906b, q906c⟩ := isOf hZ rfl f893
        obtain ⟨_, _, ⟨T906, L906, k906, n906⟩, -, X906, ⟨Lc906, hQ906, l906, y906, z906⟩, sr906⟩ := X883.virtualBack hx (y := (⟨"com/example/tideloop/tideloop/MessagePool", "take", "()Lcom/example/tideloop/tideloop/Message;"⟩ : MethodName)) (z := (⟨"com/example/tideloop/tideloop/MessagePool", "take", "()Lcom/example/tideloop/tideloop/Message;"⟩ : MethodName)) hown (mvT hZ (hw _ (List.mem_of_getElem? (i := 36) rfl))) (mvT hZ (hw _ (List.mem_of_getElem? (i := 37) rfl))) (notFace_of_selects (args := #[]) (mvT hZ (hw _ (List.mem_of_getElem? (i := 39) rfl)))) (mvT hZ (hw _ (List.mem_of_getElem? (i := 39) rfl))) (mvT hZ (hw _ (List.mem_of_getElem? (i := 38) rfl))) (by decide) (backOf (W := 0) (rmtk0 l Z a0 hw [] b110  T883.heap n0 Z903 f893 f896) hZ (hw _ (List.mem_of_getElem? (i := 40) rfl)) (hw _ (List.mem_of_getElem? (i := 15) rfl)) (by decide) (by decide)) q906a q906c (g := (mkF m 178 #[.val (.int x0), .val (.int x1), .val (.int x2), .val (.int x3), .val (.int x4), .val (.int cap), .val (.int n), .val (.ref b6), .val (.ref b14), .val (.ref b25), .val (.ref b110), .val (.int (0 : Int32)), .val (.ref bt846), .val (.ref bt863), .val (.ref bt883), .unset] [(.ref b110)])) rfl (by rw [hml]; rfl) (Steps.refl _) (argsL := []) (rest := []) (lenOf pd_3 rfl) rfl (by show 2 * 0 + _ ≤ _; exact Nat.le_of_eq rfl) (hb hby at_178) (fun _ _ => ⟨rfl, rfl, (by decide : 7 + 1 ≤ _), (by decide : 117 + 19 ≤ _)⟩)
        dsimp only [Pt.U, Pt.locs, Pt.cells, Pt.slots] at X906 l906 y906 z906 sr906 hQ906
        subst l906 y906 z906
        obtain ⟨rfl, N906q, K906c, ⟨qe906, qn906, qw906⟩⟩ := hQ906
        have N906 := Fr.app N883 N906q
        obtain ⟨LL906, X906, N906⟩ := own_hide X906 N906
        have f907 : Exa Z T906.heap b6 "com/example/tideloop/tideloop/Message" := f884.keep K906c
        have f908 : Exa Z T906.heap b14 "com/example/tideloop/tideloop/Message" := f885.keep K906c
        have f909 : Exa Z T906.heap b25 "com/example/tideloop/tideloop/Message" := f886.keep K906c
        have f910 : Fld Z T906.heap b6 "com/example/tideloop/tideloop/Message" "what" "I" (.int x2) := f887.keep K906c nin0
        have f911 : Fld Z T906.heap b14 "com/example/tideloop/tideloop/Message" "what" "I" (.int x3) := f888.keep K906c nin0
        have f912 : Fld Z T906.heap b25 "com/example/tideloop/tideloop/Message" "what" "I" (.int x4) := f889.keep K906c nin0
        have f913 : Fld Z T906.heap b6 "com/example/tideloop/tideloop/Message" "nextPooled" "Lcom/example/tideloop/tideloop/Message;" (.ref b25) := f890.keep K906c nin0
        have f914 : Fld Z T906.heap b14 "com/example/tideloop/tideloop/Message" "nextPooled" "Lcom/example/tideloop/tideloop/Message;" (.ref b6) := f891.keep K906c nin0
        have f915 : Fld Z T906.heap b25 "com/example/tideloop/tideloop/Message" "nextPooled" "Lcom/example/tideloop/tideloop/Message;" (.ref b14) := f892.keep K906c nin0
        have f916 : Exa Z T906.heap b110 "com/example/tideloop/tideloop/MessagePool" := f893.keep K906c
        have f917 : Fld Z T906.heap b110 "com/example/tideloop/tideloop/MessagePool" "capacity" "I" (.int cap) := f894.keep K906c nin0
        have f918 : Fld Z T906.heap b110 "com/example/tideloop/tideloop/MessagePool" "size" "I" (.int (0 : Int32)) := f895.keep K906c nin0
        have f919 : Fld Z T906.heap b110 "com/example/tideloop/tideloop/MessagePool" "head" "Lcom/example/tideloop/tideloop/Message;" .null := f896.keep K906c nin0
        have f920 : Exa Z T906.heap bt846 "com/example/tideloop/tideloop/Message" := f897.keep K906c
        have f921 : Fld Z T906.heap bt846 "com/example/tideloop/tideloop/Message" "nextPooled" "Lcom/example/tideloop/tideloop/Message;" .null := f898.keep K906c nin0
        have f922 : Fld Z T906.heap bt846 "com/example/tideloop/tideloop/Message" "what" "I" (.int (0 : Int32)) := f899.keep K906c nin0
        have f923 : Exa Z T906.heap bt863 "com/example/tideloop/tideloop/Message" := f900.keep K906c
        have f924 : Fld Z T906.heap bt863 "com/example/tideloop/tideloop/Message" "nextPooled" "Lcom/example/tideloop/tideloop/Message;" .null := f901.keep K906c nin0
        have f925 : Fld Z T906.heap bt863 "com/example/tideloop/tideloop/Message" "what" "I" (.int (0 : Int32)) := f902.keep K906c nin0
        have f926 : Exa Z T906.heap bt883 "com/example/tideloop/tideloop/Message" := qe883.keep K906c
        have f927 : Fld Z T906.heap bt883 "com/example/tideloop/tideloop/Message" "nextPooled" "Lcom/example/tideloop/tideloop/Message;" .null := qn883.keep K906c nin0
        have f928 : Fld Z T906.heap bt883 "com/example/tideloop/tideloop/Message" "what" "I" (.int (0 : Int32)) := qw883.keep K906c nin0
        have Z929 : n0 ≤ T906.heap.size := Nat.le_trans Z903 K906c.1
        obtain ⟨bt906, g906⟩ : ∃ z, z = T883.heap.size := ⟨_, rfl⟩
        rw [← g906] at qe906 qn906 qw906 sr906
        have g_bt906 : n0 ≤ bt906 := Nat.le_trans Z903 (Nat.le_of_eq g906.symm)
        have ne_b6_bt906 : b6 ≠ bt906 := Nat.ne_of_lt (Nat.lt_of_lt_of_le f884.lt (Nat.le_of_eq g906.symm))
        have ne_b14_bt906 : b14 ≠ bt906 := Nat.ne_of_lt (Nat.lt_of_lt_of_le f885.lt (Nat.le_of_eq g906.symm))
        have ne_b25_bt906 : b25 ≠ bt906 := Nat.ne_of_lt (Nat.lt_of_lt_of_le f886.lt (Nat.le_of_eq g906.symm))
        have ne_b110_bt906 : b110 ≠ bt906 := Nat.ne_of_lt (Nat.lt_of_lt_of_le f893.lt (Nat.le_of_eq g906.symm))
        have ne_bt846_bt906 : bt846 ≠ bt906 := Nat.ne_of_lt (Nat.lt_of_lt_of_le f897.lt (Nat.le_of_eq g906.symm))
        have ne_bt863_bt906 : bt863 ≠ bt906 := Nat.ne_of_lt (Nat.lt_of_lt_of_le f900.lt (Nat.le_of_eq g906.symm))
        have ne_bt883_bt906 : bt883 ≠ bt906 := Nat.ne_of_lt (Nat.lt_of_lt_of_le qe883.lt (Nat.le_of_eq g906.symm))
        have st930 : Steps p.tables e below sE (T906.setTop (mkF m 181 #[.val (.int x0), .val (.int x1), .val (.int x2), .val (.int x3), .val (.int x4), .val (.int cap), .val (.int n), .val (.ref b6), .val (.ref b14), .val (.ref b25), .val (.ref b110), .val (.int (0 : Int32)), .val (.ref bt846), .val (.ref bt863), .val (.ref bt883), .unset] [(.ref bt906)])) := st905.trans (sr906)
        have st931 : Steps p.tables e below sE (T906.setTop (mkF m 198 #[.val (.int x0), .val (.int x1), .val (.int x2), .val (.int x3), .val (.int x4), .val (.int cap), .val (.int n), .val (.ref b6), .val (.ref b14), .val (.ref b25), .val (.ref b110), .val (.int (0 : Int32)), .val (.ref bt846), .val (.ref bt863), .val (.ref bt883), .val (.ref bt906)] [(.int x4), (.int x3), (.int x2), (.ref b25), (.ref b14), (.ref b6), (.int (0 : Int32)), (.int (1 : Int32)), (.ref bt846)])) := st930.trans (by
            show Steps _ _ _ (T906.setTop (mkF m 181 #[.val (.int x0), .val (.int x1), .val (.int x2), .val (.int x3), .val (.int x4), .val (.int cap), .val (.int n), .val (.ref b6), .val (.ref b14), .val (.ref b25), .val (.ref b110), .val (.int (0 : Int32)), .val (.ref bt846), .val (.ref bt863), .val (.ref bt883), .unset] [(.ref bt906)])) _
            refine XS.astore X906.here hx rfl (hb hby at_181) rfl rfl (l' := #[.val (.int x0), .val (.int x1), .val (.int x2), .val (.int x3), .val (.int x4), .val (.int cap), .val (.int n), .val (.ref b6), .val (.ref b14), .val (.ref b25), .val (.ref b110), .val (.int (0 : Int32)), .val (.ref bt846), .val (.ref bt863), .val (.ref bt883), .val (.ref bt906)]) rfl ?_
            show Steps _ _ _ (T906.setTop (mkF m 183 #[.val (.int x0), .val (.int x1), .val (.int x2), .val (.int x3), .val (.int x4), .val (.int cap), .val (.int n), .val (.ref b6), .val (.ref b14), .val (.ref b25), .val (.ref b110), .val (.int (0 : Int32)), .val (.ref bt846), .val (.ref bt863), .val (.ref bt883), .val (.ref bt906)] [])) _
            refine XS.aload X906.here hx rfl (hb hby at_183) rfl rfl ?_
            show Steps _ _ _ (T906.setTop (mkF m 185 #[.val (.int x0), .val (.int x1), .val (.int x2), .val (.int x3), .val (.int x4), .val (.int cap), .val (.int n), .val (.ref b6), .val (.ref b14), .val (.ref b25), .val (.ref b110), .val (.int (0 : Int32)), .val (.ref bt846), .val (.ref bt863), .val (.ref bt883), .val (.ref bt906)] [(.ref bt846)])) _
            refine XS.iconst X906.here hx rfl (hb hby at_185) ?_
            show Steps _ _ _ (T906.setTop (mkF m 186 #[.val (.int x0), .val (.int x1), .val (.int x2), .val (.int x3), .val (.int x4), .val (.int cap), .val (.int n), .val (.ref b6), .val (.ref b14), .val (.ref b25), .val (.ref b110), .val (.int (0 : Int32)), .val (.ref bt846), .val (.ref bt863), .val (.ref bt883), .val (.ref bt906)] [(.int (1 : Int32)), (.ref bt846)])) _
            refine XS.iload X906.here hx rfl (hb hby at_186) rfl ?_
            show Steps _ _ _ (T906.setTop (mkF m 188 #[.val (.int x0), .val (.int x1), .val (.int x2), .val (.int x3), .val (.int x4), .val (.int cap), .val (.int n), .val (.ref b6), .val (.ref b14), .val (.ref b25), .val (.ref b110), .val (.int (0 : Int32)), .val (.ref bt846), .val (.ref bt863), .val (.ref bt883), .val (.ref bt906)] [(.int (0 : Int32)), (.int (1 : Int32)), (.ref bt846)])) _
            refine XS.aload X906.here hx rfl (hb hby at_188) rfl rfl ?_
            show Steps _ _ _ (T906.setTop (mkF m 190 #[.val (.int x0), .val (.int x1), .val (.int x2), .val (.int x3), .val (.int x4), .val (.int cap), .val (.int n), .val (.ref b6), .val (.ref b14), .val (.ref b25), .val (.ref b110), .val (.int (0 : Int32)), .val (.ref bt846), .val (.ref bt863), .val (.ref bt883), .val (.ref bt906)] [(.ref b6), (.int (0 : Int32)), (.int (1 : Int32)), (.ref bt846)])) _
            refine XS.aload X906.here hx rfl (hb hby at_190) rfl rfl ?_
            show Steps _ _ _ (T906.setTop (mkF m 192 #[.val (.int x0), .val (.int x1), .val (.int x2), .val (.int x3), .val (.int x4), .val (.int cap), .val (.int n), .val (.ref b6), .val (.ref b14), .val (.ref b25), .val (.ref b110), .val (.int (0 : Int32)), .val (.ref bt846), .val (.ref bt863), .val (.ref bt883), .val (.ref bt906)] [(.ref b14), (.ref b6), (.int (0 : Int32)), (.int (1 : Int32)), (.ref bt846)])) _
            refine XS.aload X906.here hx rfl (hb hby at_192) rfl rfl ?_
            show Steps _ _ _ (T906.setTop (mkF m 194 #[.val (.int x0), .val (.int x1), .val (.int x2), .val (.int x3), .val (.int x4), .val (.int cap), .val (.int n), .val (.ref b6), .val (.ref b14), .val (.ref b25), .val (.ref b110), .val (.int (0 : Int32)), .val (.ref bt846), .val (.ref bt863), .val (.ref bt883), .val (.ref bt906)] [(.ref b25), (.ref b14), (.ref b6), (.int (0 : Int32)), (.int (1 : Int32)), (.ref bt846)])) _
            refine XS.iloadN X906.here hx rfl (hb hby at_194) rfl ?_
            show Steps _ _ _ (T906.setTop (mkF m 195 #[.val (.int x0), .val (.int x1), .val (.int x2), .val (.int x3), .val (.int x4), .val (.int cap), .val (.int n), .val (.ref b6), .val (.ref b14), .val (.ref b25), .val (.ref b110), .val (.int (0 : Int32)), .val (.ref bt846), .val (.ref bt863), .val (.ref bt883), .val (.ref bt906)] [(.int x2), (.ref b25), (.ref b14), (.ref b6), (.int (0 : Int32)), (.int (1 : Int32)), (.ref bt846)])) _
            refine XS.iloadN X906.here hx rfl (hb hby at_195) rfl ?_
            show Steps _ _ _ (T906.setTop (mkF m 196 #[.val (.int x0), .val (.int x1), .val (.int x2), .val (.int x3), .val (.int x4), .val (.int cap), .val (.int n), .val (.ref b6), .val (.ref b14), .val (.ref b25), .val (.ref b110), .val (.int (0 : Int32)), .val (.ref bt846), .val (.ref bt863), .val (.ref bt883), .val (.ref bt906)] [(.int x3), (.int x2), (.ref b25), (.ref b14), (.ref b6), (.int (0 : Int32)), (.int (1 : Int32)), (.ref bt846)])) _
            refine XS.iload X906.here hx rfl (hb hby at_196) rfl ?_
            exact Steps.refl _)
        obtain ⟨_, _, ⟨T932, L932, k932, n932⟩, -, X932, ⟨Lc932, hQ932, l932, y932, z932⟩, sr932⟩ := Jvm.LawKit.callS X906 hx (y := (⟨"com/example/tideloop/tideloop/MessagePoolKeepPinLaw", "check", "(Lcom/example/tideloop/tideloop/Message;IILcom/example/tideloop/tideloop/Message;Lcom/example/tideloop/tideloop/Message;Lcom/example/tideloop/tideloop/Message;III)Z"⟩ : MethodName)) hown (mvT hZ (hw _ (List.mem_of_getElem? (i := 45) rfl))) (mvT hZ (hw _ (List.mem_of_getElem? (i := 46) rfl))) (mvT hZ (hw _ (List.mem_of_getElem? (i := 47) rfl))) (mvT hZ (hw _ (List.mem_of_getElem? (i := 48) rfl))) (by decide) (backOf (W := 0) (rm8 l Z a0 hw [] bt846 (1 : Int32) (0 : Int32) b6 b14 b25 x2 x3 x4 (0 : Int32) T906.heap n0 Z929 f921 f922) hZ (hw _ (List.mem_of_getElem? (i := 48) rfl)) (hw _ (List.mem_of_getElem? (i := 47) rfl)) (by decide) (by decide)) (g := (mkF m 198 #[.val (.int x0), .val (.int x1), .val (.int x2), .val (.int x3), .val (.int x4), .val (.int cap), .val (.int n), .val (.ref b6), .val (.ref b14), .val (.ref b25), .val (.ref b110), .val (.int (0 : Int32)), .val (.ref bt846), .val (.ref bt863), .val (.ref bt883), .val (.ref bt906)] [(.int x4), (.int x3), (.int x2), (.ref b25), (.ref b14), (.ref b6), (.int (0 : Int32)), (.int (1 : Int32)), (.ref bt846)])) rfl (by rw [hml]; rfl) (argsL := [(.ref bt846), (.int (1 : Int32)), (.int (0 : Int32)), (.ref b6), (.ref b14), (.ref b25), (.int x2), (.int x3), (.int x4)]) (rest := []) (lenOf pd_4 rfl) rfl (by show 2 * 0 + _ ≤ _; exact Nat.le_of_eq rfl) (hb hby at_198) (fun _ _ => ⟨rfl, rfl, (by decide : 8 + 0 ≤ _), (by decide : 136 + 0 ≤ _)⟩)
        dsimp only [Pt.U, Pt.locs, Pt.cells, Pt.slots] at X932 l932 y932 z932 sr932 hQ932
        subst l932 y932 z932
        obtain ⟨rfl, N932q, hh932⟩ := hQ932
        have N932 := Fr.app N906 N932q
        obtain ⟨LL932, X932, N932⟩ := own_hide X932 N932
        have st933 : Steps p.tables e below sE (T932.setTop (mkF m 201 #[.val (.int x0), .val (.int x1), .val (.int x2), .val (.int x3), .val (.int x4), .val (.int cap), .val (.int n), .val (.ref b6), .val (.ref b14), .val (.ref b25), .val (.ref b110), .val (.int (0 : Int32)), .val (.ref bt846), .val (.ref bt863), .val (.ref bt883), .val (.ref bt906)] [(.int (F8 bt846 (1 : Int32) (0 : Int32) b6 b14 b25 x2 x3 x4 (0 : Int32)))])) := st931.trans (sr932 _ (Steps.refl _))
        have hf934 : ¬ ((F8 bt846 (1 : Int32) (0 : Int32) b6 b14 b25 x2 x3 x4 (0 : Int32)) = (0 : Int32)) := by simp +decide [F8, (Ne.symm ne_b6_bt846), (Ne.symm ne_b14_bt846), (Ne.symm ne_b25_bt846)]
        have st935 : Steps p.tables e below sE (T932.setTop (mkF m 219 #[.val (.int x0), .val (.int x1), .val (.int x2), .val (.int x3), .val (.int x4), .val (.int cap), .val (.int n), .val (.ref b6), .val (.ref b14), .val (.ref b25), .val (.ref b110), .val (.int (0 : Int32)), .val (.ref bt846), .val (.ref bt863), .val (.ref bt883), .val (.ref bt906)] [(.int x4), (.int x3), (.int x2), (.ref b25), (.ref b14), (.ref b6), (.int (0 : Int32)), (.int (2 : Int32)), (.ref bt863)])) := st933.trans (by
            show Steps _ _ _ (T932.setTop (mkF m 201 #[.val (.int x0), .val (.int x1), .val (.int x2), .val (.int x3), .val (.int x4), .val (.int cap), .val (.int n), .val (.ref b6), .val (.ref b14), .val (.ref b25), .val (.ref b110), .val (.int (0 : Int32)), .val (.ref bt846), .val (.ref bt863), .val (.ref bt883), .val (.ref bt906)] [(.int (F8 bt846 (1 : Int32) (0 : Int32) b6 b14 b25 x2 x3 x4 (0 : Int32)))])) _
            refine XS.ifNo X932.here hx rfl (hb hby at_201) rfl ((if0 _ _).trans (feq hf934).1) ?_
            show Steps _ _ _ (T932.setTop (mkF m 204 #[.val (.int x0), .val (.int x1), .val (.int x2), .val (.int x3), .val (.int x4), .val (.int cap), .val (.int n), .val (.ref b6), .val (.ref b14), .val (.ref b25), .val (.ref b110), .val (.int (0 : Int32)), .val (.ref bt846), .val (.ref bt863), .val (.ref bt883), .val (.ref bt906)] [])) _
            refine XS.aload X932.here hx rfl (hb hby at_204) rfl rfl ?_
            show Steps _ _ _ (T932.setTop (mkF m 206 #[.val (.int x0), .val (.int x1), .val (.int x2), .val (.int x3), .val (.int x4), .val (.int cap), .val (.int n), .val (.ref b6), .val (.ref b14), .val (.ref b25), .val (.ref b110), .val (.int (0 : Int32)), .val (.ref bt846), .val (.ref bt863), .val (.ref bt883), .val (.ref bt906)] [(.ref bt863)])) _
            refine XS.iconst X932.here hx rfl (hb hby at_206) ?_
            show Steps _ _ _ (T932.setTop (mkF m 207 #[.val (.int x0), .val (.int x1), .val (.int x2), .val (.int x3), .val (.int x4), .val (.int cap), .val (.int n), .val (.ref b6), .val (.ref b14), .val (.ref b25), .val (.ref b110), .val (.int (0 : Int32)), .val (.ref bt846), .val (.ref bt863), .val (.ref bt883), .val (.ref bt906)] [(.int (2 : Int32)), (.ref bt863)])) _
            refine XS.iload X932.here hx rfl (hb hby at_207) rfl ?_
            show Steps _ _ _ (T932.setTop (mkF m 209 #[.val (.int x0), .val (.int x1), .val (.int x2), .val (.int x3), .val (.int x4), .val (.int cap), .val (.int n), .val (.ref b6), .val (.ref b14), .val (.ref b25), .val (.ref b110), .val (.int (0 : Int32)), .val (.ref bt846), .val (.ref bt863), .val (.ref bt883), .val (.ref bt906)] [(.int (0 : Int32)), (.int (2 : Int32)), (.ref bt863)])) _
            refine XS.aload X932.here hx rfl (hb hby at_209) rfl rfl ?_
            show Steps _ _ _ (T932.setTop (mkF m 211 #[.val (.int x0), .val (.int x1), .val (.int x2), .val (.int x3), .val (.int x4), .val (.int cap), .val (.int n), .val (.ref b6), .val (.ref b14), .val (.ref b25), .val (.ref b110), .val (.int (0 : Int32)), .val (.ref bt846), .val (.ref bt863), .val (.ref bt883), .val (.ref bt906)] [(.ref b6), (.int (0 : Int32)), (.int (2 : Int32)), (.ref bt863)])) _
            refine XS.aload X932.here hx rfl (hb hby at_211) rfl rfl ?_
            show Steps _ _ _ (T932.setTop (mkF m 213 #[.val (.int x0), .val (.int x1), .val (.int x2), .val (.int x3), .val (.int x4), .val (.int cap), .val (.int n), .val (.ref b6), .val (.ref b14), .val (.ref b25), .val (.ref b110), .val (.int (0 : Int32)), .val (.ref bt846), .val (.ref bt863), .val (.ref bt883), .val (.ref bt906)] [(.ref b14), (.ref b6), (.int (0 : Int32)), (.int (2 : Int32)), (.ref bt863)])) _
            refine XS.aload X932.here hx rfl (hb hby at_213) rfl rfl ?_
            show Steps _ _ _ (T932.setTop (mkF m 215 #[.val (.int x0), .val (.int x1), .val (.int x2), .val (.int x3), .val (.int x4), .val (.int cap), .val (.int n), .val (.ref b6), .val (.ref b14), .val (.ref b25), .val (.ref b110), .val (.int (0 : Int32)), .val (.ref bt846), .val (.ref bt863), .val (.ref bt883), .val (.ref bt906)] [(.ref b25), (.ref b14), (.ref b6), (.int (0 : Int32)), (.int (2 : Int32)), (.ref bt863)])) _
            refine XS.iloadN X932.here hx rfl (hb hby at_215) rfl ?_
            show Steps _ _ _ (T932.setTop (mkF m 216 #[.val (.int x0), .val (.int x1), .val (.int x2), .val (.int x3), .val (.int x4), .val (.int cap), .val (.int n), .val (.ref b6), .val (.ref b14), .val (.ref b25), .val (.ref b110), .val (.int (0 : Int32)), .val (.ref bt846), .val (.ref bt863), .val (.ref bt883), .val (.ref bt906)] [(.int x2), (.ref b25), (.ref b14), (.ref b6), (.int (0 : Int32)), (.int (2 : Int32)), (.ref bt863)])) _
            refine XS.iloadN X932.here hx rfl (hb hby at_216) rfl ?_
            show Steps _ _ _ (T932.setTop (mkF m 217 #[.val (.int x0), .val (.int x1), .val (.int x2), .val (.int x3), .val (.int x4), .val (.int cap), .val (.int n), .val (.ref b6), .val (.ref b14), .val (.ref b25), .val (.ref b110), .val (.int (0 : Int32)), .val (.ref bt846), .val (.ref bt863), .val (.ref bt883), .val (.ref bt906)] [(.int x3), (.int x2), (.ref b25), (.ref b14), (.ref b6), (.int (0 : Int32)), (.int (2 : Int32)), (.ref bt863)])) _
            refine XS.iload X932.here hx rfl (hb hby at_217) rfl ?_
            exact Steps.refl _)
        obtain ⟨_, _, ⟨T936, L936, k936, n936⟩, -, X936, ⟨Lc936, hQ936, l936, y936, z936⟩, sr936⟩ := Jvm.LawKit.callS X932 hx (y := (⟨"com/example/tideloop/tideloop/MessagePoolKeepPinLaw", "check", "(Lcom/example/tideloop/tideloop/Message;IILcom/example/tideloop/tideloop/Message;Lcom/example/tideloop/tideloop/Message;Lcom/example/tideloop/tideloop/Message;III)Z"⟩ : MethodName)) hown (mvT hZ (hw _ (List.mem_of_getElem? (i := 45) rfl))) (mvT hZ (hw _ (List.mem_of_getElem? (i := 46) rfl))) (mvT hZ (hw _ (List.mem_of_getElem? (i := 47) rfl))) (mvT hZ (hw _ (List.mem_of_getElem? (i := 48) rfl))) (by decide) (backOf (W := 0) (rm8 l Z a0 hw [] bt863 (2 : Int32) (0 : Int32) b6 b14 b25 x2 x3 x4 (0 : Int32) T906.heap n0 Z929 f924 f925) hZ (hw _ (List.mem_of_getElem? (i := 48) rfl)) (hw _ (List.mem_of_getElem? (i := 47) rfl)) (by decide) (by decide)) (g := (mkF m 219 #[.val (.int x0), .val (.int x1), .val (.int x2), .val (.int x3), .val (.int x4), .val (.int cap), .val (.int n), .val (.ref b6), .val (.ref b14), .val (.ref b25), .val (.ref b110), .val (.int (0 : Int32)), .val (.ref bt846), .val (.ref bt863), .val (.ref bt883), .val (.ref bt906)] [(.int x4), (.int x3), (.int x2), (.ref b25), (.ref b14), (.ref b6), (.int (0 : Int32)), (.int (2 : Int32)), (.ref bt863)])) rfl (by rw [hml]; rfl) (argsL := [(.ref bt863), (.int (2 : Int32)), (.int (0 : Int32)), (.ref b6), (.ref b14), (.ref b25), (.int x2), (.int x3), (.int x4)]) (rest := []) (lenOf pd_4 rfl) rfl (by show 2 * 0 + _ ≤ _; exact Nat.le_of_eq rfl) (hb hby at_219) (fun _ _ => ⟨rfl, hh932, (by decide : 8 + 0 ≤ _), (by decide : 136 + 0 ≤ _)⟩)
        dsimp only [Pt.U, Pt.locs, Pt.cells, Pt.slots] at X936 l936 y936 z936 sr936 hQ936
        subst l936 y936 z936
        obtain ⟨rfl, N936q, hh936⟩ := hQ936
        have N936 := Fr.app N932 N936q
        obtain ⟨LL936, X936, N936⟩ := own_hide X936 N936
        have st937 : Steps p.tables e below sE (T936.setTop (mkF m 222 #[.val (.int x0), .val (.int x1), .val (.int x2), .val (.int x3), .val (.int x4), .val (.int cap), .val (.int n), .val (.ref b6), .val (.ref b14), .val (.ref b25), .val (.ref b110), .val (.int (0 : Int32)), .val (.ref bt846), .val (.ref bt863), .val (.ref bt883), .val (.ref bt906)] [(.int (F8 bt863 (2 : Int32) (0 : Int32) b6 b14 b25 x2 x3 x4 (0 : Int32)))])) := st935.trans (sr936 _ (Steps.refl _))
        have hf938 : ¬ ((F8 bt863 (2 : Int32) (0 : Int32) b6 b14 b25 x2 x3 x4 (0 : Int32)) = (0 : Int32)) := by simp +decide [F8, (Ne.symm ne_b6_bt863), (Ne.symm ne_b14_bt863), (Ne.symm ne_b25_bt863)]
        have st939 : Steps p.tables e below sE (T936.setTop (mkF m 240 #[.val (.int x0), .val (.int x1), .val (.int x2), .val (.int x3), .val (.int x4), .val (.int cap), .val (.int n), .val (.ref b6), .val (.ref b14), .val (.ref b25), .val (.ref b110), .val (.int (0 : Int32)), .val (.ref bt846), .val (.ref bt863), .val (.ref bt883), .val (.ref bt906)] [(.int x4), (.int x3), (.int x2), (.ref b25), (.ref b14), (.ref b6), (.int (0 : Int32)), (.int (3 : Int32)), (.ref bt883)])) := st937.trans (by
            show Steps _ _ _ (T936.setTop (mkF m 222 #[.val (.int x0), .val (.int x1), .val (.int x2), .val (.int x3), .val (.int x4), .val (.int cap), .val (.int n), .val (.ref b6), .val (.ref b14), .val (.ref b25), .val (.ref b110), .val (.int (0 : Int32)), .val (.ref bt846), .val (.ref bt863), .val (.ref bt883), .val (.ref bt906)] [(.int (F8 bt863 (2 : Int32) (0 : Int32) b6 b14 b25 x2 x3 x4 (0 : Int32)))])) _
            refine XS.ifNo X936.here hx rfl (hb hby at_222) rfl ((if0 _ _).trans (feq hf938).1) ?_
            show Steps _ _ _ (T936.setTop (mkF m 225 #[.val (.int x0), .val (.int x1), .val (.int x2), .val (.int x3), .val (.int x4), .val (.int cap), .val (.int n), .val (.ref b6), .val (.ref b14), .val (.ref b25), .val (.ref b110), .val (.int (0 : Int32)), .val (.ref bt846), .val (.ref bt863), .val (.ref bt883), .val (.ref bt906)] [])) _
            refine XS.aload X936.here hx rfl (hb hby at_225) rfl rfl ?_
            show Steps _ _ _ (T936.setTop (mkF m 227 #[.val (.int x0), .val (.int x1), .val (.int x2), .val (.int x3), .val (.int x4), .val (.int cap), .val (.int n), .val (.ref b6), .val (.ref b14), .val (.ref b25), .val (.ref b110), .val (.int (0 : Int32)), .val (.ref bt846), .val (.ref bt863), .val (.ref bt883), .val (.ref bt906)] [(.ref bt883)])) _
            refine XS.iconst X936.here hx rfl (hb hby at_227) ?_
            show Steps _ _ _ (T936.setTop (mkF m 228 #[.val (.int x0), .val (.int x1), .val (.int x2), .val (.int x3), .val (.int x4), .val (.int cap), .val (.int n), .val (.ref b6), .val (.ref b14), .val (.ref b25), .val (.ref b110), .val (.int (0 : Int32)), .val (.ref bt846), .val (.ref bt863), .val (.ref bt883), .val (.ref bt906)] [(.int (3 : Int32)), (.ref bt883)])) _
            refine XS.iload X936.here hx rfl (hb hby at_228) rfl ?_
            show Steps _ _ _ (T936.setTop (mkF m 230 #[.val (.int x0), .val (.int x1), .val (.int x2), .val (.int x3), .val (.int x4), .val (.int cap), .val (.int n), .val (.ref b6), .val (.ref b14), .val (.ref b25), .val (.ref b110), .val (.int (0 : Int32)), .val (.ref bt846), .val (.ref bt863), .val (.ref bt883), .val (.ref bt906)] [(.int (0 : Int32)), (.int (3 : Int32)), (.ref bt883)])) _
            refine XS.aload X936.here hx rfl (hb hby at_230) rfl rfl ?_
            show Steps _ _ _ (T936.setTop (mkF m 232 #[.val (.int x0), .val (.int x1), .val (.int x2), .val (.int x3), .val (.int x4), .val (.int cap), .val (.int n), .val (.ref b6), .val (.ref b14), .val (.ref b25), .val (.ref b110), .val (.int (0 : Int32)), .val (.ref bt846), .val (.ref bt863), .val (.ref bt883), .val (.ref bt906)] [(.ref b6), (.int (0 : Int32)), (.int (3 : Int32)), (.ref bt883)])) _
            refine XS.aload X936.here hx rfl (hb hby at_232) rfl rfl ?_
            show Steps _ _ _ (T936.setTop (mkF m 234 #[.val (.int x0), .val (.int x1), .val (.int x2), .val (.int x3), .val (.int x4), .val (.int cap), .val (.int n), .val (.ref b6), .val (.ref b14), .val (.ref b25), .val (.ref b110), .val (.int (0 : Int32)), .val (.ref bt846), .val (.ref bt863), .val (.ref bt883), .val (.ref bt906)] [(.ref b14), (.ref b6), (.int (0 : Int32)), (.int (3 : Int32)), (.ref bt883)])) _
            refine XS.aload X936.here hx rfl (hb hby at_234) rfl rfl ?_
            show Steps _ _ _ (T936.setTop (mkF m 236 #[.val (.int x0), .val (.int x1), .val (.int x2), .val (.int x3), .val (.int x4), .val (.int cap), .val (.int n), .val (.ref b6), .val (.ref b14), .val (.ref b25), .val (.ref b110), .val (.int (0 : Int32)), .val (.ref bt846), .val (.ref bt863), .val (.ref bt883), .val (.ref bt906)] [(.ref b25), (.ref b14), (.ref b6), (.int (0 : Int32)), (.int (3 : Int32)), (.ref bt883)])) _
            refine XS.iloadN X936.here hx rfl (hb hby at_236) rfl ?_
            show Steps _ _ _ (T936.setTop (mkF m 237 #[.val (.int x0), .val (.int x1), .val (.int x2), .val (.int x3), .val (.int x4), .val (.int cap), .val (.int n), .val (.ref b6), .val (.ref b14), .val (.ref b25), .val (.ref b110), .val (.int (0 : Int32)), .val (.ref bt846), .val (.ref bt863), .val (.ref bt883), .val (.ref bt906)] [(.int x2), (.ref b25), (.ref b14), (.ref b6), (.int (0 : Int32)), (.int (3 : Int32)), (.ref bt883)])) _
            refine XS.iloadN X936.here hx rfl (hb hby at_237) rfl ?_
            show Steps _ _ _ (T936.setTop (mkF m 238 #[.val (.int x0), .val (.int x1), .val (.int x2), .val (.int x3), .val (.int x4), .val (.int cap), .val (.int n), .val (.ref b6), .val (.ref b14), .val (.ref b25), .val (.ref b110), .val (.int (0 : Int32)), .val (.ref bt846), .val (.ref bt863), .val (.ref bt883), .val (.ref bt906)] [(.int x3), (.int x2), (.ref b25), (.ref b14), (.ref b6), (.int (0 : Int32)), (.int (3 : Int32)), (.ref bt883)])) _
            refine XS.iload X936.here hx rfl (hb hby at_238) rfl ?_
            exact Steps.refl _)
        obtain ⟨_, _, ⟨T940, L940, k940, n940⟩, -, X940, ⟨Lc940, hQ940, l940, y940, z940⟩, sr940⟩ := Jvm.LawKit.callS X936 hx (y := (⟨"com/example/tideloop/tideloop/MessagePoolKeepPinLaw", "check", "(Lcom/example/tideloop/tideloop/Message;IILcom/example/tideloop/tideloop/Message;Lcom/example/tideloop/tideloop/Message;Lcom/example/tideloop/tideloop/Message;III)Z"⟩ : MethodName)) hown (mvT hZ (hw _ (List.mem_of_getElem? (i := 45) rfl))) (mvT hZ (hw _ (List.mem_of_getElem? (i := 46) rfl))) (mvT hZ (hw _ (List.mem_of_getElem? (i := 47) rfl))) (mvT hZ (hw _ (List.mem_of_getElem? (i := 48) rfl))) (by decide) (backOf (W := 0) (rm8 l Z a0 hw [] bt883 (3 : Int32) (0 : Int32) b6 b14 b25 x2 x3 x4 (0 : Int32) T906.heap n0 Z929 f927 f928) hZ (hw _ (List.mem_of_getElem? (i := 48) rfl)) (hw _ (List.mem_of_getElem? (i := 47) rfl)) (by decide) (by decide)) (g := (mkF m 240 #[.val (.int x0), .val (.int x1), .val (.int x2), .val (.int x3), .val (.int x4), .val (.int cap), .val (.int n), .val (.ref b6), .val (.ref b14), .val (.ref b25), .val (.ref b110), .val (.int (0 : Int32)), .val (.ref bt846), .val (.ref bt863), .val (.ref bt883), .val (.ref bt906)] [(.int x4), (.int x3), (.int x2), (.ref b25), (.ref b14), (.ref b6), (.int (0 : Int32)), (.int (3 : Int32)), (.ref bt883)])) rfl (by rw [hml]; rfl) (argsL := [(.ref bt883), (.int (3 : Int32)), (.int (0 : Int32)), (.ref b6), (.ref b14), (.ref b25), (.int x2), (.int x3), (.int x4)]) (rest := []) (lenOf pd_4 rfl) rfl (by show 2 * 0 + _ ≤ _; exact Nat.le_of_eq rfl) (hb hby at_240) (fun _ _ => ⟨rfl, hh936, (by decide : 8 + 0 ≤ _), (by decide : 136 + 0 ≤ _)⟩)
        dsimp only [Pt.U, Pt.locs, Pt.cells, Pt.slots] at X940 l940 y940 z940 sr940 hQ940
        subst l940 y940 z940
        obtain ⟨rfl, N940q, hh940⟩ := hQ940
        have N940 := Fr.app N936 N940q
        obtain ⟨LL940, X940, N940⟩ := own_hide X940 N940
        have st941 : Steps p.tables e below sE (T940.setTop (mkF m 243 #[.val (.int x0), .val (.int x1), .val (.int x2), .val (.int x3), .val (.int x4), .val (.int cap), .val (.int n), .val (.ref b6), .val (.ref b14), .val (.ref b25), .val (.ref b110), .val (.int (0 : Int32)), .val (.ref bt846), .val (.ref bt863), .val (.ref bt883), .val (.ref bt906)] [(.int (F8 bt883 (3 : Int32) (0 : Int32) b6 b14 b25 x2 x3 x4 (0 : Int32)))])) := st939.trans (sr940 _ (Steps.refl _))
        have hf942 : ¬ ((F8 bt883 (3 : Int32) (0 : Int32) b6 b14 b25 x2 x3 x4 (0 : Int32)) = (0 : Int32)) := by simp +decide [F8, (Ne.symm ne_b6_bt883), (Ne.symm ne_b14_bt883), (Ne.symm ne_b25_bt883)]
        have st943 : Steps p.tables e below sE (T940.setTop (mkF m 261 #[.val (.int x0), .val (.int x1), .val (.int x2), .val (.int x3), .val (.int x4), .val (.int cap), .val (.int n), .val (.ref b6), .val (.ref b14), .val (.ref b25), .val (.ref b110), .val (.int (0 : Int32)), .val (.ref bt846), .val (.ref bt863), .val (.ref bt883), .val (.ref bt906)] [(.int x4), (.int x3), (.int x2), (.ref b25), (.ref b14), (.ref b6), (.int (0 : Int32)), (.int (4 : Int32)), (.ref bt906)])) := st941.trans (by
            show Steps _ _ _ (T940.setTop (mkF m 243 #[.val (.int x0), .val (.int x1), .val (.int x2), .val (.int x3), .val (.int x4), .val (.int cap), .val (.int n), .val (.ref b6), .val (.ref b14), .val (.ref b25), .val (.ref b110), .val (.int (0 : Int32)), .val (.ref bt846), .val (.ref bt863), .val (.ref bt883), .val (.ref bt906)] [(.int (F8 bt883 (3 : Int32) (0 : Int32) b6 b14 b25 x2 x3 x4 (0 : Int32)))])) _
            refine XS.ifNo X940.here hx rfl (hb hby at_243) rfl ((if0 _ _).trans (feq hf942).1) ?_
            show Steps _ _ _ (T940.setTop (mkF m 246 #[.val (.int x0), .val (.int x1), .val (.int x2), .val (.int x3), .val (.int x4), .val (.int cap), .val (.int n), .val (.ref b6), .val (.ref b14), .val (.ref b25), .val (.ref b110), .val (.int (0 : Int32)), .val (.ref bt846), .val (.ref bt863), .val (.ref bt883), .val (.ref bt906)] [])) _
            refine XS.aload X940.here hx rfl (hb hby at_246) rfl rfl ?_
            show Steps _ _ _ (T940.setTop (mkF m 248 #[.val (.int x0), .val (.int x1), .val (.int x2), .val (.int x3), .val (.int x4), .val (.int cap), .val (.int n), .val (.ref b6), .val (.ref b14), .val (.ref b25), .val (.ref b110), .val (.int (0 : Int32)), .val (.ref bt846), .val (.ref bt863), .val (.ref bt883), .val (.ref bt906)] [(.ref bt906)])) _
            refine XS.iconst X940.here hx rfl (hb hby at_248) ?_
            show Steps _ _ _ (T940.setTop (mkF m 249 #[.val (.int x0), .val (.int x1), .val (.int x2), .val (.int x3), .val (.int x4), .val (.int cap), .val (.int n), .val (.ref b6), .val (.ref b14), .val (.ref b25), .val (.ref b110), .val (.int (0 : Int32)), .val (.ref bt846), .val (.ref bt863), .val (.ref bt883), .val (.ref bt906)] [(.int (4 : Int32)), (.ref bt906)])) _
            refine XS.iload X940.here hx rfl (hb hby at_249) rfl ?_
            show Steps _ _ _ (T940.setTop (mkF m 251 #[.val (.int x0), .val (.int x1), .val (.int x2), .val (.int x3), .val (.int x4), .val (.int cap), .val (.int n), .val (.ref b6), .val (.ref b14), .val (.ref b25), .val (.ref b110), .val (.int (0 : Int32)), .val (.ref bt846), .val (.ref bt863), .val (.ref bt883), .val (.ref bt906)] [(.int (0 : Int32)), (.int (4 : Int32)), (.ref bt906)])) _
            refine XS.aload X940.here hx rfl (hb hby at_251) rfl rfl ?_
            show Steps _ _ _ (T940.setTop (mkF m 253 #[.val (.int x0), .val (.int x1), .val (.int x2), .val (.int x3), .val (.int x4), .val (.int cap), .val (.int n), .val (.ref b6), .val (.ref b14), .val (.ref b25), .val (.ref b110), .val (.int (0 : Int32)), .val (.ref bt846), .val (.ref bt863), .val (.ref bt883), .val (.ref bt906)] [(.ref b6), (.int (0 : Int32)), (.int (4 : Int32)), (.ref bt906)])) _
            refine XS.aload X940.here hx rfl (hb hby at_253) rfl rfl ?_
            show Steps _ _ _ (T940.setTop (mkF m 255 #[.val (.int x0), .val (.int x1), .val (.int x2), .val (.int x3), .val (.int x4), .val (.int cap), .val (.int n), .val (.ref b6), .val (.ref b14), .val (.ref b25), .val (.ref b110), .val (.int (0 : Int32)), .val (.ref bt846), .val (.ref bt863), .val (.ref bt883), .val (.ref bt906)] [(.ref b14), (.ref b6), (.int (0 : Int32)), (.int (4 : Int32)), (.ref bt906)])) _
            refine XS.aload X940.here hx rfl (hb hby at_255) rfl rfl ?_
            show Steps _ _ _ (T940.setTop (mkF m 257 #[.val (.int x0), .val (.int x1), .val (.int x2), .val (.int x3), .val (.int x4), .val (.int cap), .val (.int n), .val (.ref b6), .val (.ref b14), .val (.ref b25), .val (.ref b110), .val (.int (0 : Int32)), .val (.ref bt846), .val (.ref bt863), .val (.ref bt883), .val (.ref bt906)] [(.ref b25), (.ref b14), (.ref b6), (.int (0 : Int32)), (.int (4 : Int32)), (.ref bt906)])) _
            refine XS.iloadN X940.here hx rfl (hb hby at_257) rfl ?_
            show Steps _ _ _ (T940.setTop (mkF m 258 #[.val (.int x0), .val (.int x1), .val (.int x2), .val (.int x3), .val (.int x4), .val (.int cap), .val (.int n), .val (.ref b6), .val (.ref b14), .val (.ref b25), .val (.ref b110), .val (.int (0 : Int32)), .val (.ref bt846), .val (.ref bt863), .val (.ref bt883), .val (.ref bt906)] [(.int x2), (.ref b25), (.ref b14), (.ref b6), (.int (0 : Int32)), (.int (4 : Int32)), (.ref bt906)])) _
            refine XS.iloadN X940.here hx rfl (hb hby at_258) rfl ?_
            show Steps _ _ _ (T940.setTop (mkF m 259 #[.val (.int x0), .val (.int x1), .val (.int x2), .val (.int x3), .val (.int x4), .val (.int cap), .val (.int n), .val (.ref b6), .val (.ref b14), .val (.ref b25), .val (.ref b110), .val (.int (0 : Int32)), .val (.ref bt846), .val (.ref bt863), .val (.ref bt883), .val (.ref bt906)] [(.int x3), (.int x2), (.ref b25), (.ref b14), (.ref b6), (.int (0 : Int32)), (.int (4 : Int32)), (.ref bt906)])) _
            refine XS.iload X940.here hx rfl (hb hby at_259) rfl ?_
            exact Steps.refl _)
        obtain ⟨_, _, ⟨T944, L944, k944, n944⟩, -, X944, ⟨Lc944, hQ944, l944, y944, z944⟩, sr944⟩ := Jvm.LawKit.callS X940 hx (y := (⟨"com/example/tideloop/tideloop/MessagePoolKeepPinLaw", "check", "(Lcom/example/tideloop/tideloop/Message;IILcom/example/tideloop/tideloop/Message;Lcom/example/tideloop/tideloop/Message;Lcom/example/tideloop/tideloop/Message;III)Z"⟩ : MethodName)) hown (mvT hZ (hw _ (List.mem_of_getElem? (i := 45) rfl))) (mvT hZ (hw _ (List.mem_of_getElem? (i := 46) rfl))) (mvT hZ (hw _ (List.mem_of_getElem? (i := 47) rfl))) (mvT hZ (hw _ (List.mem_of_getElem? (i := 48) rfl))) (by decide) (backOf (W := 0) (rm8 l Z a0 hw [] bt906 (4 : Int32) (0 : Int32) b6 b14 b25 x2 x3 x4 (0 : Int32) T906.heap n0 Z929 qn906 qw906) hZ (hw _ (List.mem_of_getElem? (i := 48) rfl)) (hw _ (List.mem_of_getElem? (i := 47) rfl)) (by decide) (by decide)) (g := (mkF m 261 #[.val (.int x0), .val (.int x1), .val (.int x2), .val (.int x3), .val (.int x4), .val (.int cap), .val (.int n), .val (.ref b6), .val (.ref b14), .val (.ref b25), .val (.ref b110), .val (.int (0 : Int32)), .val (.ref bt846), .val (.ref bt863), .val (.ref bt883), .val (.ref bt906)] [(.int x4), (.int x3), (.int x2), (.ref b25), (.ref b14), (.ref b6), (.int (0 : Int32)), (.int (4 : Int32)), (.ref bt906)])) rfl (by rw [hml]; rfl) (argsL := [(.ref bt906), (.int (4 : Int32)), (.int (0 : Int32)), (.ref b6), (.ref b14), (.ref b25), (.int x2), (.int x3), (.int x4)]) (rest := []) (lenOf pd_4 rfl) rfl (by show 2 * 0 + _ ≤ _; exact Nat.le_of_eq rfl) (hb hby at_261) (fun _ _ => ⟨rfl, hh940, (by decide : 8 + 0 ≤ _), (by decide : 136 + 0 ≤ _)⟩)
        dsimp only [Pt.U, Pt.locs, Pt.cells, Pt.slots] at X944 l944 y944 z944 sr944 hQ944
        subst l944 y944 z944
        obtain ⟨rfl, N944q, hh944⟩ := hQ944
        have N944 := Fr.app N940 N944q
        obtain ⟨LL944, X944, N944⟩ := own_hide X944 N944
        have st945 : Steps p.tables e below sE (T944.setTop (mkF m 264 #[.val (.int x0), .val (.int x1), .val (.int x2), .val (.int x3), .val (.int x4), .val (.int cap), .val (.int n), .val (.ref b6), .val (.ref b14), .val (.ref b25), .val (.ref b110), .val (.int (0 : Int32)), .val (.ref bt846), .val (.ref bt863), .val (.ref bt883), .val (.ref bt906)] [(.int (F8 bt906 (4 : Int32) (0 : Int32) b6 b14 b25 x2 x3 x4 (0 : Int32)))])) := st943.trans (sr944 _ (Steps.refl _))
        have hf946 : ¬ ((F8 bt906 (4 : Int32) (0 : Int32) b6 b14 b25 x2 x3 x4 (0 : Int32)) = (0 : Int32)) := by simp +decide [F8, (Ne.symm ne_b6_bt906), (Ne.symm ne_b14_bt906), (Ne.symm ne_b25_bt906)]
        have st947 : Steps p.tables e below sE (T944.setTop (mkF m 272 #[.val (.int x0), .val (.int x1), .val (.int x2), .val (.int x3), .val (.int x4), .val (.int cap), .val (.int n), .val (.ref b6), .val (.ref b14), .val (.ref b25), .val (.ref b110), .val (.int (0 : Int32)), .val (.ref bt846), .val (.ref bt863), .val (.ref bt883), .val (.ref bt906)] [(.int (1 : Int32))])) := st945.trans (by
            show Steps _ _ _ (T944.setTop (mkF m 264 #[.val (.int x0), .val (.int x1), .val (.int x2), .val (.int x3), .val (.int x4), .val (.int cap), .val (.int n), .val (.ref b6), .val (.ref b14), .val (.ref b25), .val (.ref b110), .val (.int (0 : Int32)), .val (.ref bt846), .val (.ref bt863), .val (.ref bt883), .val (.ref bt906)] [(.int (F8 bt906 (4 : Int32) (0 : Int32) b6 b14 b25 x2 x3 x4 (0 : Int32)))])) _
            refine XS.ifNo X944.here hx rfl (hb hby at_264) rfl ((if0 _ _).trans (feq hf946).1) ?_
            show Steps _ _ _ (T944.setTop (mkF m 267 #[.val (.int x0), .val (.int x1), .val (.int x2), .val (.int x3), .val (.int x4), .val (.int cap), .val (.int n), .val (.ref b6), .val (.ref b14), .val (.ref b25), .val (.ref b110), .val (.int (0 : Int32)), .val (.ref bt846), .val (.ref bt863), .val (.ref bt883), .val (.ref bt906)] [])) _
            refine XS.iconst X944.here hx rfl (hb hby at_267) ?_
            show Steps _ _ _ (T944.setTop (mkF m 268 #[.val (.int x0), .val (.int x1), .val (.int x2), .val (.int x3), .val (.int x4), .val (.int cap), .val (.int n), .val (.ref b6), .val (.ref b14), .val (.ref b25), .val (.ref b110), .val (.int (0 : Int32)), .val (.ref bt846), .val (.ref bt863), .val (.ref bt883), .val (.ref bt906)] [(.int (1 : Int32))])) _
            refine XS.goto X944.here hx rfl (pc0 := 268) (pc' := 272) rfl (hb hby at_268) (by decide) (by decide) ?_
            exact Steps.refl _)
        obtain ⟨fs, hr, hrun, hended, hW, hsame⟩ := X944.leave (v := some (.int (1 : Int32))) (fun h => by rw [Bd.returns] at h; cases h)
        refine ⟨_, _, (own_ent hsE st947).trans ?_, hrun, hended, _, _, rfl, ?_, ⟨_, rfl⟩, hW, hsame.mono (by decide) (by decide)⟩
        · exact retN X944 hx (t := .boolean) Bd.returns (by simp) (hb hby at_272) hr
        · show Q0 Z x0 x1 x2 x3 x4 h0 n0 _ T944.heap _
          rw [hh944]
          exact ⟨rfl, N944⟩
      · have st948 : Steps p.tables e below sE (T833.setTop (mkF m 126 #[.val (.int x0), .val (.int x1), .val (.int x2), .val (.int x3), .val (.int x4), .val (.int cap), .val (.int n), .val (.ref b6), .val (.ref b14), .val (.ref b25), .val (.ref b110), .unset, .unset, .unset, .unset, .unset] [(.ref b14), (.ref b110)])) := st835.trans (by
            show Steps _ _ _ (T833.setTop (mkF m 119 #[.val (.int x0), .val (.int x1), .val (.int x2), .val (.int x3), .val (.int x4), .val (.int cap), .val (.int n), .val (.ref b6), .val (.ref b14), .val (.ref b25), .val (.ref b110), .unset, .unset, .unset, .unset, .unset] [(.int (2 : Int32)), (.int n)])) _
            refine XS.icmpNo X833.here hx rfl (hb hby at_119) rfl (flt hc836).1 ?_
            show Steps _ _ _ (T833.setTop (mkF m 122 #[.val (.int x0), .val (.int x1), .val (.int x2), .val (.int x3), .val (.int x4), .val (.int cap), .val (.int n), .val (.ref b6), .val (.ref b14), .val (.ref b25), .val (.ref b110), .unset, .unset, .unset, .unset, .unset] [])) _
            refine XS.aload X833.here hx rfl (hb hby at_122) rfl rfl ?_
            show Steps _ _ _ (T833.setTop (mkF m 124 #[.val (.int x0), .val (.int x1), .val (.int x2), .val (.int x3), .val (.int x4), .val (.int cap), .val (.int n), .val (.ref b6), .val (.ref b14), .val (.ref b25), .val (.ref b110), .unset, .unset, .unset, .unset, .unset] [(.ref b110)])) _
            refine XS.aload X833.here hx rfl (hb hby at_124) rfl rfl ?_
            exact Steps.refl _)
        obtain ⟨cq949, kq949, q949a, q949b, q949c⟩ := isOf hZ hh833 f125_0
        obtain ⟨_, _, ⟨T949, L949, k949, n949⟩, -, X949, ⟨Lc949, hQ949, l949, y949, z949⟩, sr949⟩ := X833.virtualBack hx (y := (⟨"com/example/tideloop/tideloop/MessagePool", "keep", "(Lcom/example/tideloop/tideloop/Message;)V"⟩ : MethodName)) (z := (⟨"com/example/tideloop/tideloop/MessagePool", "keep", "(Lcom/example/tideloop/tideloop/Message;)V"⟩ : MethodName)) hown (mvT hZ (hw _ (List.mem_of_getElem? (i := 22) rfl))) (mvT hZ (hw _ (List.mem_of_getElem? (i := 23) rfl))) (notFace_of_selects (args := #[]) (mvT hZ (hw _ (List.mem_of_getElem? (i := 25) rfl)))) (mvT hZ (hw _ (List.mem_of_getElem? (i := 25) rfl))) (mvT hZ (hw _ (List.mem_of_getElem? (i := 24) rfl))) (by decide) (backOf (W := 0) (rmkn l Z a0 hw [] b110 b14 (0 : Int32) cap T125.heap n0 Z136 f125_0 f125_2 f125_1 hc254) hZ (hw _ (List.mem_of_getElem? (i := 26) rfl)) (hw _ (List.mem_of_getElem? (i := 15) rfl)) (by decide) (by decide)) q949a q949c (g := (mkF m 126 #[.val (.int x0), .val (.int x1), .val (.int x2), .val (.int x3), .val (.int x4), .val (.int cap), .val (.int n), .val (.ref b6), .val (.ref b14), .val (.ref b25), .val (.ref b110), .unset, .unset, .unset, .unset, .unset] [(.ref b14), (.ref b110)])) rfl (by rw [hml]; rfl) (Steps.refl _) (argsL := [(.ref b14)]) (rest := []) (lenOf pd_5 rfl) rfl (by show 2 * 0 + _ ≤ _; exact Nat.le_of_eq rfl) (hb hby at_126) (fun _ _ => ⟨rfl, hh833, (by decide : 4 + 0 ≤ _), (by decide : 60 + 0 ≤ _)⟩)
        dsimp only [Pt.U, Pt.locs, Pt.cells, Pt.slots] at X949 l949 y949 z949 sr949 hQ949
        subst l949 y949 z949
        obtain ⟨rfl, N949q, hh949⟩ := hQ949
        have N949 := Fr.app N833 N949q
        obtain ⟨LL949, X949, N949⟩ := own_hide X949 N949
        have st950 : Steps p.tables e below sE (T949.setTop (mkF m 129 #[.val (.int x0), .val (.int x1), .val (.int x2), .val (.int x3), .val (.int x4), .val (.int cap), .val (.int n), .val (.ref b6), .val (.ref b14), .val (.ref b25), .val (.ref b110), .unset, .unset, .unset, .unset, .unset] [])) := st948.trans (sr949)
        have st951 : Steps p.tables e below sE (T949.setTop (mkF m 132 #[.val (.int x0), .val (.int x1), .val (.int x2), .val (.int x3), .val (.int x4), .val (.int cap), .val (.int n), .val (.ref b6), .val (.ref b14), .val (.ref b25), .val (.ref b110), .unset, .unset, .unset, .unset, .unset] [(.int (3 : Int32)), (.int n)])) := st950.trans (by
            show Steps _ _ _ (T949.setTop (mkF m 129 #[.val (.int x0), .val (.int x1), .val (.int x2), .val (.int x3), .val (.int x4), .val (.int cap), .val (.int n), .val (.ref b6), .val (.ref b14), .val (.ref b25), .val (.ref b110), .unset, .unset, .unset, .unset, .unset] [])) _
            refine XS.iload X949.here hx rfl (hb hby at_129) rfl ?_
            show Steps _ _ _ (T949.setTop (mkF m 131 #[.val (.int x0), .val (.int x1), .val (.int x2), .val (.int x3), .val (.int x4), .val (.int cap), .val (.int n), .val (.ref b6), .val (.ref b14), .val (.ref b25), .val (.ref b110), .unset, .unset, .unset, .unset, .unset] [(.int n)])) _
            refine XS.iconst X949.here hx rfl (hb hby at_131) ?_
            exact Steps.refl _)
        by_cases hc952 : n < (3 : Int32)
        · have st953 : Steps p.tables e below sE (T949.setTop (mkF m 142 #[.val (.int x0), .val (.int x1), .val (.int x2), .val (.int x3), .val (.int x4), .val (.int cap), .val (.int n), .val (.ref b6), .val (.ref b14), .val (.ref b25), .val (.ref b110), .unset, .unset, .unset, .unset, .unset] [])) := st951.trans (by
              show Steps _ _ _ (T949.setTop (mkF m 132 #[.val (.int x0), .val (.int x1), .val (.int x2), .val (.int x3), .val (.int x4), .val (.int cap), .val (.int n), .val (.ref b6), .val (.ref b14), .val (.ref b25), .val (.ref b110), .unset, .unset, .unset, .unset, .unset] [(.int (3 : Int32)), (.int n)])) _
              refine XS.icmpYes X949.here hx rfl (pc0 := 132) (pc' := 142) rfl (hb hby at_132) rfl (tlt hc952).1 (by decide) (by decide) ?_
              exact Steps.refl _)
          have st954 : Steps p.tables e below sE (T949.setTop (mkF m 147 #[.val (.int x0), .val (.int x1), .val (.int x2), .val (.int x3), .val (.int x4), .val (.int cap), .val (.int n), .val (.ref b6), .val (.ref b14), .val (.ref b25), .val (.ref b110), .unset, .unset, .unset, .unset, .unset] [(.int cap), (.int (0 : Int32)), (.int n)])) := st953.trans (by
              show Steps _ _ _ (T949.setTop (mkF m 142 #[.val (.int x0), .val (.int x1), .val (.int x2), .val (.int x3), .val (.int x4), .val (.int cap), .val (.int n), .val (.ref b6), .val (.ref b14), .val (.ref b25), .val (.ref b110), .unset, .unset, .unset, .unset, .unset] [])) _
              refine XS.iload X949.here hx rfl (hb hby at_142) rfl ?_
              show Steps _ _ _ (T949.setTop (mkF m 144 #[.val (.int x0), .val (.int x1), .val (.int x2), .val (.int x3), .val (.int x4), .val (.int cap), .val (.int n), .val (.ref b6), .val (.ref b14), .val (.ref b25), .val (.ref b110), .unset, .unset, .unset, .unset, .unset] [(.int n)])) _
              refine XS.iconst X949.here hx rfl (hb hby at_144) ?_
              show Steps _ _ _ (T949.setTop (mkF m 145 #[.val (.int x0), .val (.int x1), .val (.int x2), .val (.int x3), .val (.int x4), .val (.int cap), .val (.int n), .val (.ref b6), .val (.ref b14), .val (.ref b25), .val (.ref b110), .unset, .unset, .unset, .unset, .unset] [(.int (0 : Int32)), (.int n)])) _
              refine XS.iload X949.here hx rfl (hb hby at_145) rfl ?_
              exact Steps.refl _)
          obtain ⟨_, _, ⟨T955, L955, k955, n955⟩, -, X955, ⟨Lc955, hQ955, l955, y955, z955⟩, sr955⟩ := Jvm.LawKit.callS X949 hx (y := (⟨"java/lang/Math", "max", "(II)I"⟩ : MethodName)) hown (mvT hZ (hw _ (List.mem_of_getElem? (i := 29) rfl))) (mvT hZ (hw _ (List.mem_of_getElem? (i := 30) rfl))) (mvT hZ (hw _ (List.mem_of_getElem? (i := 31) rfl))) (mvT hZ (hw _ (List.mem_of_getElem? (i := 32) rfl))) (by decide) (backOf (W := 1) (rm5 l Z a0 hw [] (0 : Int32) cap  T125.heap n0 Z136 ) hZ (hw _ (List.mem_of_getElem? (i := 32) rfl)) (hw _ (List.mem_of_getElem? (i := 31) rfl)) (by decide) (by decide)) (g := (mkF m 147 #[.val (.int x0), .val (.int x1), .val (.int x2), .val (.int x3), .val (.int x4), .val (.int cap), .val (.int n), .val (.ref b6), .val (.ref b14), .val (.ref b25), .val (.ref b110), .unset, .unset, .unset, .unset, .unset] [(.int cap), (.int (0 : Int32)), (.int n)])) rfl (by rw [hml]; rfl) (argsL := [(.int (0 : Int32)), (.int cap)]) (rest := [(.int n)]) (lenOf pd_2 rfl) rfl (by show 2 * 0 + _ ≤ _; exact Nat.le_of_eq rfl) (hb hby at_147) (fun _ _ => ⟨rfl, hh949, (by decide : 4 + 0 ≤ _), (by decide : 60 + 0 ≤ _)⟩)
          dsimp only [Pt.U, Pt.locs, Pt.cells, Pt.slots] at X955 l955 y955 z955 sr955 hQ955
          subst l955 y955 z955
          obtain ⟨rfl, N955q, hh955⟩ := hQ955
          have N955 := Fr.app N949 N955q
          obtain ⟨LL955, X955, N955⟩ := own_hide X955 N955
          have st956 : Steps p.tables e below sE (T955.setTop (mkF m 150 #[.val (.int x0), .val (.int x1), .val (.int x2), .val (.int x3), .val (.int x4), .val (.int cap), .val (.int n), .val (.ref b6), .val (.ref b14), .val (.ref b25), .val (.ref b110), .unset, .unset, .unset, .unset, .unset] [(.int (F5 (0 : Int32) cap)), (.int n)])) := st954.trans (sr955 _ (Steps.refl _))
          obtain ⟨_, _, ⟨T957, L957, k957, n957⟩, -, X957, ⟨Lc957, hQ957, l957, y957, z957⟩, sr957⟩ := Jvm.LawKit.callS X955 hx (y := (⟨"java/lang/Math", "min", "(II)I"⟩ : MethodName)) hown (mvT hZ (hw _ (List.mem_of_getElem? (i := 33) rfl))) (mvT hZ (hw _ (List.mem_of_getElem? (i := 34) rfl))) (mvT hZ (hw _ (List.mem_of_getElem? (i := 31) rfl))) (mvT hZ (hw _ (List.mem_of_getElem? (i := 35) rfl))) (by decide) (backOf (W := 0) (rm6 l Z a0 hw [] n (F5 (0 : Int32) cap)  T125.heap n0 Z136 ) hZ (hw _ (List.mem_of_getElem? (i := 35) rfl)) (hw _ (List.mem_of_getElem? (i := 31) rfl)) (by decide) (by decide)) (g := (mkF m 150 #[.val (.int x0), .val (.int x1), .val (.int x2), .val (.int x3), .val (.int x4), .val (.int cap), .val (.int n), .val (.ref b6), .val (.ref b14), .val (.ref b25), .val (.ref b110), .unset, .unset, .unset, .unset, .unset] [(.int (F5 (0 : Int32) cap)), (.int n)])) rfl (by rw [hml]; rfl) (argsL := [(.int n), (.int (F5 (0 : Int32) cap))]) (rest := []) (lenOf pd_2 rfl) rfl (by show 2 * 0 + _ ≤ _; exact Nat.le_of_eq rfl) (hb hby at_150) (fun _ _ => ⟨rfl, hh955, (by decide : 4 + 0 ≤ _), (by decide : 60 + 0 ≤ _)⟩)
          dsimp only [Pt.U, Pt.locs, Pt.cells, Pt.slots] at X957 l957 y957 z957 sr957 hQ957
          subst l957 y957 z957
          obtain ⟨rfl, N957q, hh957⟩ := hQ957
          have N957 := Fr.app N955 N957q
          obtain ⟨LL957, X957, N957⟩ := own_hide X957 N957
          have st958 : Steps p.tables e below sE (T957.setTop (mkF m 153 #[.val (.int x0), .val (.int x1), .val (.int x2), .val (.int x3), .val (.int x4), .val (.int cap), .val (.int n), .val (.ref b6), .val (.ref b14), .val (.ref b25), .val (.ref b110), .unset, .unset, .unset, .unset, .unset] [(.int (F6 n (F5 (0 : Int32) cap)))])) := st956.trans (sr957 _ (Steps.refl _))
          have hs0 := own_nlti hc254 (z := 0) (by decide)
          have hm1 := own_nltr hc139 (z := 1) (by decide)
          have hm2 := own_nltr hc836 (z := 2) (by decide)
          have hm3 := own_ltr hc952 (z := 3) (by decide)
          have hk0 : (0 : Int32).toInt = 0 := by decide
          have hkp : (F6 n (F5 (0 : Int32) cap)) = (0 : Int32) := own_kp n cap (0 : Int32) (by omega)
          rw [hkp] at st958
          have st959 : Steps p.tables e below sE (T957.setTop (mkF m 157 #[.val (.int x0), .val (.int x1), .val (.int x2), .val (.int x3), .val (.int x4), .val (.int cap), .val (.int n), .val (.ref b6), .val (.ref b14), .val (.ref b25), .val (.ref b110), .val (.int (0 : Int32)), .unset, .unset, .unset, .unset] [(.ref b110)])) := st958.trans (by
              show Steps _ _ _ (T957.setTop (mkF m 153 #[.val (.int x0), .val (.int x1), .val (.int x2), .val (.int x3), .val (.int x4), .val (.int cap), .val (.int n), .val (.ref b6), .val (.ref b14), .val (.ref b25), .val (.ref b110), .unset, .unset, .unset, .unset, .unset] [(.int (0 : Int32))])) _
              refine XS.istore X957.here hx rfl (hb hby at_153) rfl (l' := #[.val (.int x0), .val (.int x1), .val (.int x2), .val (.int x3), .val (.int x4), .val (.int cap), .val (.int n), .val (.ref b6), .val (.ref b14), .val (.ref b25), .val (.ref b110), .val (.int (0 : Int32)), .unset, .unset, .unset, .unset]) rfl ?_
              show Steps _ _ _ (T957.setTop (mkF m 155 #[.val (.int x0), .val (.int x1), .val (.int x2), .val (.int x3), .val (.int x4), .val (.int cap), .val (.int n), .val (.ref b6), .val (.ref b14), .val (.ref b25), .val (.ref b110), .val (.int (0 : Int32)), .unset, .unset, .unset, .unset] [])) _
              refine XS.aload X957.here hx rfl (hb hby at_155) rfl rfl ?_
              exact Steps.refl _)
          obtain ⟨cq960, kq960, q960a, q960b, q960c⟩ := isOf hZ hh957 f125_0
          obtain ⟨_, _, ⟨T960, L960, k960, n960⟩, -, X960, ⟨Lc960, hQ960, l960, y960, z960⟩, sr960⟩ := X957.virtualBack hx (y := (⟨"com/example/tideloop/tideloop/MessagePool", "take", "()Lcom/example/tideloop/tideloop/Message;"⟩ : MethodName)) (z := (⟨"com/example/tideloop/tideloop/MessagePool", "take", "()Lcom/example/tideloop/tideloop/Message;"⟩ : MethodName)) hown (mvT hZ (hw _ (List.mem_of_getElem? (i := 36) rfl))) (mvT hZ (hw _ (List.mem_of_getElem? (i := 37) rfl))) (notFace_of_selects (args := #[]) (mvT hZ (hw _ (List.mem_of_getElem? (i := 39) rfl)))) (mvT hZ (hw _ (List.mem_of_getElem? (i := 39) rfl))) (mvT hZ (hw _ (List.mem_of_getElem? (i := 38) rfl))) (by decide) (backOf (W := 0) (rmtk0 l Z a0 hw [] b110  T125.heap n0 Z136 f125_0 f125_3) hZ (hw _ (List.mem_of_getElem? (i := 40) rfl)) (hw _ (List.mem_of_getElem? (i := 15) rfl)) (by decide) (by decide)) q960a q960c (g := (mkF m 157 #[.val (.int x0), .val (.int x1), .val (.int x2), .val (.int x3), .val (.int x4), .val (.int cap), .val (.int n), .val (.ref b6), .val (.ref b14), .val (.ref b25), .val (.ref b110), .val (.int (0 : Int32)), .unset, .unset, .unset, .unset] [(.ref b110)])) rfl (by rw [hml]; rfl) (Steps.refl _) (argsL := []) (rest := []) (lenOf pd_3 rfl) rfl (by show 2 * 0 + _ ≤ _; exact Nat.le_of_eq rfl) (hb hby at_157) (fun _ _ => ⟨rfl, hh957, (by decide : 4 + 1 ≤ _), (by decide : 60 + 19 ≤ _)⟩)
          dsimp only [Pt.U, Pt.locs, Pt.cells, Pt.slots] at X960 l960 y960 z960 sr960 hQ960
          subst l960 y960 z960
          obtain ⟨rfl, N960q, K960c, ⟨qe960, qn960, qw960⟩⟩ := hQ960
          have N960 := Fr.app N957 N960q
          obtain ⟨LL960, X960, N960⟩ := own_hide X960 N960
          have f961 : Exa Z T960.heap b6 "com/example/tideloop/tideloop/Message" := f126.keep K960c
          have f962 : Exa Z T960.heap b14 "com/example/tideloop/tideloop/Message" := f127.keep K960c
          have f963 : Exa Z T960.heap b25 "com/example/tideloop/tideloop/Message" := f128.keep K960c
          have f964 : Fld Z T960.heap b6 "com/example/tideloop/tideloop/Message" "what" "I" (.int x2) := f129.keep K960c nin0
          have f965 : Fld Z T960.heap b14 "com/example/tideloop/tideloop/Message" "what" "I" (.int x3) := f130.keep K960c nin0
          have f966 : Fld Z T960.heap b25 "com/example/tideloop/tideloop/Message" "what" "I" (.int x4) := f131.keep K960c nin0
          have f967 : Fld Z T960.heap b6 "com/example/tideloop/tideloop/Message" "nextPooled" "Lcom/example/tideloop/tideloop/Message;" (.ref b25) := f132.keep K960c nin0
          have f968 : Fld Z T960.heap b14 "com/example/tideloop/tideloop/Message" "nextPooled" "Lcom/example/tideloop/tideloop/Message;" (.ref b6) := f133.keep K960c nin0
          have f969 : Fld Z T960.heap b25 "com/example/tideloop/tideloop/Message" "nextPooled" "Lcom/example/tideloop/tideloop/Message;" (.ref b14) := f134.keep K960c nin0
          have f970 : Exa Z T960.heap b110 "com/example/tideloop/tideloop/MessagePool" := f125_0.keep K960c
          have f971 : Fld Z T960.heap b110 "com/example/tideloop/tideloop/MessagePool" "capacity" "I" (.int cap) := f125_1.keep K960c nin0
          have f972 : Fld Z T960.heap b110 "com/example/tideloop/tideloop/MessagePool" "size" "I" (.int (0 : Int32)) := f125_2.keep K960c nin0
          have f973 : Fld Z T960.heap b110 "com/example/tideloop/tideloop/MessagePool" "head" "Lcom/example/tideloop/tideloop/Message;" .null := f125_3.keep K960c nin0
          have Z974 : n0 ≤ T960.heap.size := Nat.le_trans Z136 K960c.1
          obtain ⟨bt960, g960⟩ : ∃ z, z = T125.heap.size := ⟨_, rfl⟩
          rw [← g960] at qe960 qn960 qw960 sr960
          have g_bt960 : n0 ≤ bt960 := Nat.le_trans Z136 (Nat.le_of_eq g960.symm)
          have ne_b6_bt960 : b6 ≠ bt960 := Nat.ne_of_lt (Nat.lt_of_lt_of_le f126.lt (Nat.le_of_eq g960.symm))
          have ne_b14_bt960 : b14 ≠ bt960 := Nat.ne_of_lt (Nat.lt_of_lt_of_le f127.lt (Nat.le_of_eq g960.symm))
          have ne_b25_bt960 : b25 ≠ bt960 := Nat.ne_of_lt (Nat.lt_of_lt_of_le f128.lt (Nat.le_of_eq g960.symm))
          have ne_b110_bt960 : b110 ≠ bt960 := Nat.ne_of_lt (Nat.lt_of_lt_of_le f125_0.lt (Nat.le_of_eq g960.symm))
          have st975 : Steps p.tables e below sE (T960.setTop (mkF m 160 #[.val (.int x0), .val (.int x1), .val (.int x2), .val (.int x3), .val (.int x4), .val (.int cap), .val (.int n), .val (.ref b6), .val (.ref b14), .val (.ref b25), .val (.ref b110), .val (.int (0 : Int32)), .unset, .unset, .unset, .unset] [(.ref bt960)])) := st959.trans (sr960)
          have st976 : Steps p.tables e below sE (T960.setTop (mkF m 164 #[.val (.int x0), .val (.int x1), .val (.int x2), .val (.int x3), .val (.int x4), .val (.int cap), .val (.int n), .val (.ref b6), .val (.ref b14), .val (.ref b25), .val (.ref b110), .val (.int (0 : Int32)), .val (.ref bt960), .unset, .unset, .unset] [(.ref b110)])) := st975.trans (by
              show Steps _ _ _ (T960.setTop (mkF m 160 #[.val (.int x0), .val (.int x1), .val (.int x2), .val (.int x3), .val (.int x4), .val (.int cap), .val (.int n), .val (.ref b6), .val (.ref b14), .val (.ref b25), .val (.ref b110), .val (.int (0 : Int32)), .unset, .unset, .unset, .unset] [(.ref bt960)])) _
              refine XS.astore X960.here hx rfl (hb hby at_160) rfl rfl (l' := #[.val (.int x0), .val (.int x1), .val (.int x2), .val (.int x3), .val (.int x4), .val (.int cap), .val (.int n), .val (.ref b6), .val (.ref b14), .val (.ref b25), .val (.ref b110), .val (.int (0 : Int32)), .val (.ref bt960), .unset, .unset, .unset]) rfl ?_
              show Steps _ _ _ (T960.setTop (mkF m 162 #[.val (.int x0), .val (.int x1), .val (.int x2), .val (.int x3), .val (.int x4), .val (.int cap), .val (.int n), .val (.ref b6), .val (.ref b14), .val (.ref b25), .val (.ref b110), .val (.int (0 : Int32)), .val (.ref bt960), .unset, .unset, .unset] [])) _
              refine XS.aload X960.here hx rfl (hb hby at_162) rfl rfl ?_
              exact Steps.refl _)
          obtain ⟨cq977, kq977, q977a, q977b, q977c⟩ := isOf hZ rfl f970
          obtain ⟨_, _, ⟨T977, L977, k977, n977⟩, -, X977, ⟨Lc977, hQ977, l977, y977, z977⟩, sr977⟩ := X960.virtualBack hx (y := (⟨"com/example/tideloop/tideloop/MessagePool", "take", "()Lcom/example/tideloop/tideloop/Message;"⟩ : MethodName)) (z := (⟨"com/example/tideloop/tideloop/MessagePool", "take", "()Lcom/example/tideloop/tideloop/Message;"⟩ : MethodName)) hown (mvT hZ (hw _ (List.mem_of_getElem? (i := 36) rfl))) (mvT hZ (hw _ (List.mem_of_getElem? (i := 37) rfl))) (notFace_of_selects (args := #[]) (mvT hZ (hw _ (List.mem_of_getElem? (i := 39) rfl)))) (mvT hZ (hw _ (List.mem_of_getElem? (i := 39) rfl))) (mvT hZ (hw _ (List.mem_of_getElem? (i := 38) rfl))) (by decide) (backOf (W := 0) (rmtk0 l Z a0 hw [] b110  T960.heap n0 Z974 f970 f973) hZ (hw _ (List.mem_of_getElem? (i := 40) rfl)) (hw _ (List.mem_of_getElem? (i := 15) rfl)) (by decide) (by decide)) q977a q977c (g := (mkF m 164 #[.val (.int x0), .val (.int x1), .val (.int x2), .val (.int x3), .val (.int x4), .val (.int cap), .val (.int n), .val (.ref b6), .val (.ref b14), .val (.ref b25), .val (.ref b110), .val (.int (0 : Int32)), .val (.ref bt960), .unset, .unset, .unset] [(.ref b110)])) rfl (by rw [hml]; rfl) (Steps.refl _) (argsL := []) (rest := []) (lenOf pd_3 rfl) rfl (by show 2 * 0 + _ ≤ _; exact Nat.le_of_eq rfl) (hb hby at_164) (fun _ _ => ⟨rfl, rfl, (by decide : 5 + 1 ≤ _), (by decide : 79 + 19 ≤ _)⟩)
          dsimp only [Pt.U, Pt.locs, Pt.cells, Pt.slots] at X977 l977 y977 z977 sr977 hQ977
          subst l977 y977 z977
          obtain ⟨rfl, N977q, K977c, ⟨qe977, qn977, qw977⟩⟩ := hQ977
          have N977 := Fr.app N960 N977q
          obtain ⟨LL977, X977, N977⟩ := own_hide X977 N977
          have f978 : Exa Z T977.heap b6 "com/example/tideloop/tideloop/Message" := f961.keep K977c
          have f979 : Exa Z T977.heap b14 "com/example/tideloop/tideloop/Message" := f962.keep K977c
          have f980 : Exa Z T977.heap b25 "com/example/tideloop/tideloop/Message" := f963.keep K977c
          have f981 : Fld Z T977.heap b6 "com/example/tideloop/tideloop/Message" "what" "I" (.int x2) := f964.keep K977c nin0
          have f982 : Fld Z T977.heap b14 "com/example/tideloop/tideloop/Message" "what" "I" (.int x3) := f965.keep K977c nin0
          have f983 : Fld Z T977.heap b25 "com/example/tideloop/tideloop/Message" "what" "I" (.int x4) := f966.keep K977c nin0
          have f984 : Fld Z T977.heap b6 "com/example/tideloop/tideloop/Message" "nextPooled" "Lcom/example/tideloop/tideloop/Message;" (.ref b25) := f967.keep K977c nin0
          have f985 : Fld Z T977.heap b14 "com/example/tideloop/tideloop/Message" "nextPooled" "Lcom/example/tideloop/tideloop/Message;" (.ref b6) := f968.keep K977c nin0
          have f986 : Fld Z T977.heap b25 "com/example/tideloop/tideloop/Message" "nextPooled" "Lcom/example/tideloop/tideloop/Message;" (.ref b14) := f969.keep K977c nin0
          have f987 : Exa Z T977.heap b110 "com/example/tideloop/tideloop/MessagePool" := f970.keep K977c
          have f988 : Fld Z T977.heap b110 "com/example/tideloop/tideloop/MessagePool" "capacity" "I" (.int cap) := f971.keep K977c nin0
          have f989 : Fld Z T977.heap b110 "com/example/tideloop/tideloop/MessagePool" "size" "I" (.int (0 : Int32)) := f972.keep K977c nin0
          have f990 : Fld Z T977.heap b110 "com/example/tideloop/tideloop/MessagePool" "head" "Lcom/example/tideloop/tideloop/Message;" .null := f973.keep K977c nin0
          have f991 : Exa Z T977.heap bt960 "com/example/tideloop/tideloop/Message" := qe960.keep K977c
          have f992 : Fld Z T977.heap bt960 "com/example/tideloop/tideloop/Message" "nextPooled" "Lcom/example/tideloop/tideloop/Message;" .null := qn960.keep K977c nin0
          have f993 : Fld Z T977.heap bt960 "com/example/tideloop/tideloop/Message" "what" "I" (.int (0 : Int32)) := qw960.keep K977c nin0
          have Z994 : n0 ≤ T977.heap.size := Nat.le_trans Z974 K977c.1
          obtain ⟨bt977, g977⟩ : ∃ z, z = T960.heap.size := ⟨_, rfl⟩
          rw [← g977] at qe977 qn977 qw977 sr977
          have g_bt977 : n0 ≤ bt977 := Nat.le_trans Z974 (Nat.le_of_eq g977.symm)
          have ne_b6_bt977 : b6 ≠ bt977 := Nat.ne_of_lt (Nat.lt_of_lt_of_le f961.lt (Nat.le_of_eq g977.symm))
          have ne_b14_bt977 : b14 ≠ bt977 := Nat.ne_of_lt (Nat.lt_of_lt_of_le f962.lt (Nat.le_of_eq g977.symm))
          have ne_b25_bt977 : b25 ≠ bt977 := Nat.ne_of_lt (Nat.lt_of_lt_of_le f963.lt (Nat.le_of_eq g977.symm))
          have ne_b110_bt977 : b110 ≠ bt977 := Nat.ne_of_lt (Nat.lt_of_lt_of_le f970.lt (Nat.le_of_eq g977.symm))
          have ne_bt960_bt977 : bt960 ≠ bt977 := Nat.ne_of_lt (Nat.lt_of_lt_of_le qe960.lt (Nat.le_of_eq g977.symm))
          have st995 : Steps p.tables e below sE (T977.setTop (mkF m 167 #[.val (.int x0), .val (.int x1), .val (.int x2), .val (.int x3), .val (.int x4), .val (.int cap), .val (.int n), .val (.ref b6), .val (.ref b14), .val (.ref b25), .val (.ref b110), .val (.int (0 : Int32)), .val (.ref bt960), .unset, .unset, .unset] [(.ref bt977)])) := st976.trans (sr977)
          have st996 : Steps p.tables e below sE (T977.setTop (mkF m 171 #[.val (.int x0), .val (.int x1), .val (.int x2), .val (.int x3), .val (.int x4), .val (.int cap), .val (.int n), .val (.ref b6), .val (.ref b14), .val (.ref b25), .val (.ref b110), .val (.int (0 : Int32)), .val (.ref bt960), .val (.ref bt977), .unset, .unset] [(.ref b110)])) := st995.trans (by
              show Steps _ _ _ (T977.setTop (mkF m 167 #[.val (.int x0), .val (.int x1), .val (.int x2), .val (.int x3), .val (.int x4), .val (.int cap), .val (.int n), .val (.ref b6), .val (.ref b14), .val (.ref b25), .val (.ref b110), .val (.int (0 : Int32)), .val (.ref bt960), .unset, .unset, .unset] [(.ref bt977)])) _
              refine XS.astore X977.here hx rfl (hb hby at_167) rfl rfl (l' := #[.val (.int x0), .val (.int x1), .val (.int x2), .val (.int x3), .val (.int x4), .val (.int cap), .val (.int n), .val (.ref b6), .val (.ref b14), .val (.ref b25), .val (.ref b110), .val (.int (0 : Int32)), .val (.ref bt960), .val (.ref bt977), .unset, .unset]) rfl ?_
              show Steps _ _ _ (T977.setTop (mkF m 169 #[.val (.int x0), .val (.int x1), .val (.int x2), .val (.int x3), .val (.int x4), .val (.int cap), .val (.int n), .val (.ref b6), .val (.ref b14), .val (.ref b25), .val (.ref b110), .val (.int (0 : Int32)), .val (.ref bt960), .val (.ref bt977), .unset, .unset] [])) _
              refine XS.aload X977.here hx rfl (hb hby at_169) rfl rfl ?_
              exact Steps.refl _)
          obtain ⟨cq997, kq997, q997a, q997b, q997c⟩ := isOf hZ rfl f987
          obtain ⟨_, _, ⟨T997, L997, k997, n997⟩, -, X997, ⟨Lc997, hQ997, l997, y997, z997⟩, sr997⟩ := X977.virtualBack hx (y := (⟨"com/example/tideloop/tideloop/MessagePool", "take", "()Lcom/example/tideloop/tideloop/Message;"⟩ : MethodName)) (z := (⟨"com/example/tideloop/tideloop/MessagePool", "take", "()Lcom/example/tideloop/tideloop/Message;"⟩ : MethodName)) hown (mvT hZ (hw _ (List.mem_of_getElem? (i := 36) rfl))) (mvT hZ (hw _ (List.mem_of_getElem? (i := 37) rfl))) (notFace_of_selects (args := #[]) (mvT hZ (hw _ (List.mem_of_getElem? (i := 39) rfl)))) (mvT hZ (hw _ (List.mem_of_getElem? (i := 39) rfl))) (mvT hZ (hw _ (List.mem_of_getElem? (i := 38) rfl))) (by decide) (backOf (W := 0) (rmtk0 l Z a0 hw [] b110  T977.heap n0 Z994 f987 f990) hZ (hw _ (List.mem_of_getElem? (i := 40) rfl)) (hw _ (List.mem_of_getElem? (i := 15) rfl)) (by decide) (by decide)) q997a q997c (g := (mkF m 171 #[.val (.int x0), .val (.int x1), .val (.int x2), .val (.int x3), .val (.int x4), .val (.int cap), .val (.int n), .val (.ref b6), .val (.ref b14), .val (.ref b25), .val (.ref b110), .val (.int (0 : Int32)), .val (.ref bt960), .val (.ref bt977), .unset, .unset] [(.ref b110)])) rfl (by rw [hml]; rfl) (Steps.refl _) (argsL := []) (rest := []) (lenOf pd_3 rfl) rfl (by show 2 * 0 + _ ≤ _; exact Nat.le_of_eq rfl) (hb hby at_171) (fun _ _ => ⟨rfl, rfl, (by decide : 6 + 1 ≤ _), (by decide : 98 + 19 ≤ _)⟩)
          dsimp only [Pt.U, Pt.locs, Pt.cells, Pt.slots] at X997 l997 y997 z997 sr997 hQ997
          subst l997 y997 z997
          obtain ⟨rfl, N997q, K997c, ⟨qe997, qn997, qw997⟩⟩ := hQ997
          have N997 := Fr.app N977 N997q
          obtain ⟨LL997, X997, N997⟩ := own_hide X997 N997
          have f998 : Exa Z T997.heap b6 "com/example/tideloop/tideloop/Message" := f978.keep K997c
          have f999 : Exa Z T997.heap b14 "com/example/tideloop/tideloop/Message" := f979.keep K997c
          have f1000 : Exa Z T997.heap b25 "com/example/tideloop/tideloop/Message" := f980.keep K997c
          have f1001 : Fld Z T997.heap b6 "com/example/tideloop/tideloop/Message" "what" "I" (.int x2) := f981.keep K997c nin0
          have f1002 : Fld Z T997.heap b14 "com/example/tideloop/tideloop/Message" "what" "I" (.int x3) := f982.keep K997c nin0
          have f1003 : Fld Z T997.heap b25 "com/example/tideloop/tideloop/Message" "what" "I" (.int x4) := f983.keep K997c nin0
          have f1004 : Fld Z T997.heap b6 "com/example/tideloop/tideloop/Message" "nextPooled" "Lcom/example/tideloop/tideloop/Message;" (.ref b25) := f984.keep K997c nin0
          have f1005 : Fld Z T997.heap b14 "com/example/tideloop/tideloop/Message" "nextPooled" "Lcom/example/tideloop/tideloop/Message;" (.ref b6) := f985.keep K997c nin0
          have f1006 : Fld Z T997.heap b25 "com/example/tideloop/tideloop/Message" "nextPooled" "Lcom/example/tideloop/tideloop/Message;" (.ref b14) := f986.keep K997c nin0
          have f1007 : Exa Z T997.heap b110 "com/example/tideloop/tideloop/MessagePool" := f987.keep K997c
          have f1008 : Fld Z T997.heap b110 "com/example/tideloop/tideloop/MessagePool" "capacity" "I" (.int cap) := f988.keep K997c nin0
          have f1009 : Fld Z T997.heap b110 "com/example/tideloop/tideloop/MessagePool" "size" "I" (.int (0 : Int32)) := f989.keep K997c nin0
          have f1010 : Fld Z T997.heap b110 "com/example/tideloop/tideloop/MessagePool" "head" "Lcom/example/tideloop/tideloop/Message;" .null := f990.keep K997c nin0
          have f1011 : Exa Z T997.heap bt960 "com/example/tideloop/tideloop/Message" := f991.keep K997c
          have f1012 : Fld Z T997.heap bt960 "com/example/tideloop/tideloop/Message" "nextPooled" "Lcom/example/tideloop/tideloop/Message;" .null := f992.keep K997c nin0
          have f1013 : Fld Z T997.heap bt960 "com/example/tideloop/tideloop/Message" "what" "I" (.int (0 : Int32)) := f993.keep K997c nin0
          have f1014 : Exa Z T997.heap bt977 "com/example/tideloop/tideloop/Message" := qe977.keep K997c
          have f1015 : Fld Z T997.heap bt977 "com/example/tideloop/tideloop/Message" "nextPooled" "Lcom/example/tideloop/tideloop/Message;" .null := qn977.keep K997c nin0
          have f1016 : Fld Z T997.heap bt977 "com/example/tideloop/tideloop/Message" "what" "I" (.int (0 : Int32)) := qw977.keep K997c nin0
          have Z1017 : n0 ≤ T997.heap.size := Nat.le_trans Z994 K997c.1
          obtain ⟨bt997, g997⟩ : ∃ z, z = T977.heap.size := ⟨_, rfl⟩
          rw [← g997] at qe997 qn997 qw997 sr997
          have g_bt997 : n0 ≤ bt997 := Nat.le_trans Z994 (Nat.le_of_eq g997.symm)
          have ne_b6_bt997 : b6 ≠ bt997 := Nat.ne_of_lt (Nat.lt_of_lt_of_le f978.lt (Nat.le_of_eq g997.symm))
          have ne_b14_bt997 : b14 ≠ bt997 := Nat.ne_of_lt (Nat.lt_of_lt_of_le f979.lt (Nat.le_of_eq g997.symm))
          have ne_b25_bt997 : b25 ≠ bt997 := Nat.ne_of_lt (Nat.lt_of_lt_of_le f980.lt (Nat.le_of_eq g997.symm))
          have ne_b110_bt997 : b110 ≠ bt997 := Nat.ne_of_lt (Nat.lt_of_lt_of_le f987.lt (Nat.le_of_eq g997.symm))
          have ne_bt960_bt997 : bt960 ≠ bt997 := Nat.ne_of_lt (Nat.lt_of_lt_of_le f991.lt (Nat.le_of_eq g997.symm))
          have ne_bt977_bt997 : bt977 ≠ bt997 := Nat.ne_of_lt (Nat.lt_of_lt_of_le qe977.lt (Nat.le_of_eq g997.symm))
          have st1018 : Steps p.tables e below sE (T997.setTop (mkF m 174 #[.val (.int x0), .val (.int x1), .val (.int x2), .val (.int x3), .val (.int x4), .val (.int cap), .val (.int n), .val (.ref b6), .val (.ref b14), .val (.ref b25), .val (.ref b110), .val (.int (0 : Int32)), .val (.ref bt960), .val (.ref bt977), .unset, .unset] [(.ref bt997)])) := st996.trans (sr997)
          have st1019 : Steps p.tables e below sE (T997.setTop (mkF m 178 #[.val (.int x0), .val (.int x1), .val (.int x2), .val (.int x3), .val (.int x4), .val (.int cap), .val (.int n), .val (.ref b6), .val (.ref b14), .val (.ref b25), .val (.ref b110), .val (.int (0 : Int32)), .val (.ref bt960), .val (.ref bt977), .val (.ref bt997), .unset] [(.ref b110)])) := st1018.trans (by
              show Steps _ _ _ (T997.setTop (mkF m 174 #[.val (.int x0), .val (.int x1), .val (.int x2), .val (.int x3), .val (.int x4), .val (.int cap), .val (.int n), .val (.ref b6), .val (.ref b14), .val (.ref b25), .val (.ref b110), .val (.int (0 : Int32)), .val (.ref bt960), .val (.ref bt977), .unset, .unset] [(.ref bt997)])) _
              refine XS.astore X997.here hx rfl (hb hby at_174) rfl rfl (l' := #[.val (.int x0), .val (.int x1), .val (.int x2), .val (.int x3), .val (.int x4), .val (.int cap), .val (.int n), .val (.ref b6), .val (.ref b14), .val (.ref b25), .val (.ref b110), .val (.int (0 : Int32)), .val (.ref bt960), .val (.ref bt977), .val (.ref bt997), .unset]) rfl ?_
              show Steps _ _ _ (T997.setTop (mkF m 176 #[.val (.int x0), .val (.int x1), .val (.int x2), .val (.int x3), .val (.int x4), .val (.int cap), .val (.int n), .val (.ref b6), .val (.ref b14), .val (.ref b25), .val (.ref b110), .val (.int (0 : Int32)), .val (.ref bt960), .val (.ref bt977), .val (.ref bt997), .unset] [])) _
              refine XS.aload X997.here hx rfl (hb hby at_176) rfl rfl ?_
              exact Steps.refl _)
          obtain ⟨cq1020, kq1020, q1020a, q1020b, q1020c⟩ := isOf hZ rfl f1007
          obtain ⟨_, _, ⟨T1020, L1020, k1020, n1020⟩, -, X1020, ⟨Lc1020, hQ1020, l1020, y1020, z1020⟩, sr1020⟩ := X997.virtualBack hx (y := (⟨"com/example/tideloop/tideloop/MessagePool", "take", "()Lcom/example/tideloop/tideloop/Message;"⟩ : MethodName)) (z := (⟨"com/example/tideloop/tideloop/MessagePool", "take", "()Lcom/example/tideloop/tideloop/Message;"⟩ : MethodName)) hown (mvT hZ (hw _ (List.mem_of_getElem? (i := 36) rfl))) (mvT hZ (hw _ (List.mem_of_getElem? (i := 37) rfl))) (notFace_of_selects (args := #[]) (mvT hZ (hw _ (List.mem_of_getElem? (i := 39) rfl)))) (mvT hZ (hw _ (List.mem_of_getElem? (i := 39) rfl))) (mvT hZ (hw _ (List.mem_of_getElem? (i := 38) rfl))) (by decide) (backOf (W := 0) (rmtk0 l Z a0 hw [] b110  T997.heap n0 Z1017 f1007 f1010) hZ (hw _ (List.mem_of_getElem? (i := 40) rfl)) (hw _ (List.mem_of_getElem? (i := 15) rfl)) (by decide) (by decide)) q1020a q1020c (g := (mkF m 178 #[.val (.int x0), .val (.int x1), .val (.int x2), .val (.int x3), .val (.int x4), .val (.int cap), .val (.int n), .val (.ref b6), .val (.ref b14), .val (.ref b25), .val (.ref b110), .val (.int (0 : Int32)), .val (.ref bt960), .val (.ref bt977), .val (.ref bt997), .unset] [(.ref b110)])) rfl (by rw [hml]; rfl) (Steps.refl _) (argsL := []) (rest := []) (lenOf pd_3 rfl) rfl (by show 2 * 0 + _ ≤ _; exact Nat.le_of_eq rfl) (hb hby at_178) (fun _ _ => ⟨rfl, rfl, (by decide : 7 + 1 ≤ _), (by decide : 117 + 19 ≤ _)⟩)
          dsimp only [Pt.U, Pt.locs, Pt.cells, Pt.slots] at X1020 l1020 y1020 z1020 sr1020 hQ1020
          subst l1020 y1020 z1020
          obtain ⟨rfl, N1020q, K1020c, ⟨qe1020, qn1020, qw1020⟩⟩ := hQ1020
          have N1020 := Fr.app N997 N1020q
          obtain ⟨LL1020, X1020, N1020⟩ := own_hide X1020 N1020
          have f1021 : Exa Z T1020.heap b6 "com/example/tideloop/tideloop/Message" := f998.keep K1020c
          have f1022 : Exa Z T1020.heap b14 "com/example/tideloop/tideloop/Message" := f999.keep K1020c
          have f1023 : Exa Z T1020.heap b25 "com/example/tideloop/tideloop/Message" := f1000.keep K1020c
          have f1024 : Fld Z T1020.heap b6 "com/example/tideloop/tideloop/Message" "what" "I" (.int x2) := f1001.keep K1020c nin0
          have f1025 : Fld Z T1020.heap b14 "com/example/tideloop/tideloop/Message" "what" "I" (.int x3) := f1002.keep K1020c nin0
          have f1026 : Fld Z T1020.heap b25 "com/example/tideloop/tideloop/Message" "what" "I" (.int x4) := f1003.keep K1020c nin0
          have f1027 : Fld Z T1020.heap b6 "com/example/tideloop/tideloop/Message" "nextPooled" "Lcom/example/tideloop/tideloop/Message;" (.ref b25) := f1004.keep K1020c nin0
          have f1028 : Fld Z T1020.heap b14 "com/example/tideloop/tideloop/Message" "nextPooled" "Lcom/example/tideloop/tideloop/Message;" (.ref b6) := f1005.keep K1020c nin0
          have f1029 : Fld Z T1020.heap b25 "com/example/tideloop/tideloop/Message" "nextPooled" "Lcom/example/tideloop/tideloop/Message;" (.ref b14) := f1006.keep K1020c nin0
          have f1030 : Exa Z T1020.heap b110 "com/example/tideloop/tideloop/MessagePool" := f1007.keep K1020c
          have f1031 : Fld Z T1020.heap b110 "com/example/tideloop/tideloop/MessagePool" "capacity" "I" (.int cap) := f1008.keep K1020c nin0
          have f1032 : Fld Z T1020.heap b110 "com/example/tideloop/tideloop/MessagePool" "size" "I" (.int (0 : Int32)) := f1009.keep K1020c nin0
          have f1033 : Fld Z T1020.heap b110 "com/example/tideloop/tideloop/MessagePool" "head" "Lcom/example/tideloop/tideloop/Message;" .null := f1010.keep K1020c nin0
          have f1034 : Exa Z T1020.heap bt960 "com/example/tideloop/tideloop/Message" := f1011.keep K1020c
          have f1035 : Fld Z T1020.heap bt960 "com/example/tideloop/tideloop/Message" "nextPooled" "Lcom/example/tideloop/tideloop/Message;" .null := f1012.keep K1020c nin0
          have f1036 : Fld Z T1020.heap bt960 "com/example/tideloop/tideloop/Message" "what" "I" (.int (0 : Int32)) := f1013.keep K1020c nin0
          have f1037 : Exa Z T1020.heap bt977 "com/example/tideloop/tideloop/Message" := f1014.keep K1020c
          have f1038 : Fld Z T1020.heap bt977 "com/example/tideloop/tideloop/Message" "nextPooled" "Lcom/example/tideloop/tideloop/Message;" .null := f1015.keep K1020c nin0
          have f1039 : Fld Z T1020.heap bt977 "com/example/tideloop/tideloop/Message" "what" "I" (.int (0 : Int32)) := f1016.keep K1020c nin0
          have f1040 : Exa Z T1020.heap bt997 "com/example/tideloop/tideloop/Message" := qe997.keep K1020c
          have f1041 : Fld Z T1020.heap bt997 "com/example/tideloop/tideloop/Message" "nextPooled" "Lcom/example/tideloop/tideloop/Message;" .null := qn997.keep K1020c nin0
          have f1042 : Fld Z T1020.heap bt997 "com/example/tideloop/tideloop/Message" "what" "I" (.int (0 : Int32)) := qw997.keep K1020c nin0
          have Z1043 : n0 ≤ T1020.heap.size := Nat.le_trans Z1017 K1020c.1
          obtain ⟨bt1020, g1020⟩ : ∃ z, z = T997.heap.size := ⟨_, rfl⟩
          rw [← g1020] at qe1020 qn1020 qw1020 sr1020
          have g_bt1020 : n0 ≤ bt1020 := Nat.le_trans Z1017 (Nat.le_of_eq g1020.symm)
          have ne_b6_bt1020 : b6 ≠ bt1020 := Nat.ne_of_lt (Nat.lt_of_lt_of_le f998.lt (Nat.le_of_eq g1020.symm))
          have ne_b14_bt1020 : b14 ≠ bt1020 := Nat.ne_of_lt (Nat.lt_of_lt_of_le f999.lt (Nat.le_of_eq g1020.symm))
          have ne_b25_bt1020 : b25 ≠ bt1020 := Nat.ne_of_lt (Nat.lt_of_lt_of_le f1000.lt (Nat.le_of_eq g1020.symm))
          have ne_b110_bt1020 : b110 ≠ bt1020 := Nat.ne_of_lt (Nat.lt_of_lt_of_le f1007.lt (Nat.le_of_eq g1020.symm))
          have ne_bt960_bt1020 : bt960 ≠ bt1020 := Nat.ne_of_lt (Nat.lt_of_lt_of_le f1011.lt (Nat.le_of_eq g1020.symm))
          have ne_bt977_bt1020 : bt977 ≠ bt1020 := Nat.ne_of_lt (Nat.lt_of_lt_of_le f1014.lt (Nat.le_of_eq g1020.symm))
          have ne_bt997_bt1020 : bt997 ≠ bt1020 := Nat.ne_of_lt (Nat.lt_of_lt_of_le qe997.lt (Nat.le_of_eq g1020.symm))
          have st1044 : Steps p.tables e below sE (T1020.setTop (mkF m 181 #[.val (.int x0), .val (.int x1), .val (.int x2), .val (.int x3), .val (.int x4), .val (.int cap), .val (.int n), .val (.ref b6), .val (.ref b14), .val (.ref b25), .val (.ref b110), .val (.int (0 : Int32)), .val (.ref bt960), .val (.ref bt977), .val (.ref bt997), .unset] [(.ref bt1020)])) := st1019.trans (sr1020)
          have st1045 : Steps p.tables e below sE (T1020.setTop (mkF m 198 #[.val (.int x0), .val (.int x1), .val (.int x2), .val (.int x3), .val (.int x4), .val (.int cap), .val (.int n), .val (.ref b6), .val (.ref b14), .val (.ref b25), .val (.ref b110), .val (.int (0 : Int32)), .val (.ref bt960), .val (.ref bt977), .val (.ref bt997), .val (.ref bt1020)] [(.int x4), (.int x3), (.int x2), (.ref b25), (.ref b14), (.ref b6), (.int (0 : Int32)), (.int (1 : Int32)), (.ref bt960)])) := st1044.trans (by
              show Steps _ _ _ (T1020.setTop (mkF m 181 #[.val (.int x0), .val (.int x1), .val (.int x2), .val (.int x3), .val (.int x4), .val (.int cap), .val (.int n), .val (.ref b6), .val (.ref b14), .val (.ref b25), .val (.ref b110), .val (.int (0 : Int32)), .val (.ref bt960), .val (.ref bt977), .val (.ref bt997), .unset] [(.ref bt1020)])) _
              refine XS.astore X1020.here hx rfl (hb hby at_181) rfl rfl (l' := #[.val (.int x0), .val (.int x1), .val (.int x2), .val (.int x3), .val (.int x4), .val (.int cap), .val (.int n), .val (.ref b6), .val (.ref b14), .val (.ref b25), .val (.ref b110), .val (.int (0 : Int32)), .val (.ref bt960), .val (.ref bt977), .val (.ref bt997), .val (.ref bt1020)]) rfl ?_
              show Steps _ _ _ (T1020.setTop (mkF m 183 #[.val (.int x0), .val (.int x1), .val (.int x2), .val (.int x3), .val (.int x4), .val (.int cap), .val (.int n), .val (.ref b6), .val (.ref b14), .val (.ref b25), .val (.ref b110), .val (.int (0 : Int32)), .val (.ref bt960), .val (.ref bt977), .val (.ref bt997), .val (.ref bt1020)] [])) _
              refine XS.aload X1020.here hx rfl (hb hby at_183) rfl rfl ?_
              show Steps _ _ _ (T1020.setTop (mkF m 185 #[.val (.int x0), .val (.int x1), .val (.int x2), .val (.int x3), .val (.int x4), .val (.int cap), .val (.int n), .val (.ref b6), .val (.ref b14), .val (.ref b25), .val (.ref b110), .val (.int (0 : Int32)), .val (.ref bt960), .val (.ref bt977), .val (.ref bt997), .val (.ref bt1020)] [(.ref bt960)])) _
              refine XS.iconst X1020.here hx rfl (hb hby at_185) ?_
              show Steps _ _ _ (T1020.setTop (mkF m 186 #[.val (.int x0), .val (.int x1), .val (.int x2), .val (.int x3), .val (.int x4), .val (.int cap), .val (.int n), .val (.ref b6), .val (.ref b14), .val (.ref b25), .val (.ref b110), .val (.int (0 : Int32)), .val (.ref bt960), .val (.ref bt977), .val (.ref bt997), .val (.ref bt1020)] [(.int (1 : Int32)), (.ref bt960)])) _
              refine XS.iload X1020.here hx rfl (hb hby at_186) rfl ?_
              show Steps _ _ _ (T1020.setTop (mkF m 188 #[.val (.int x0), .val (.int x1), .val (.int x2), .val (.int x3), .val (.int x4), .val (.int cap), .val (.int n), .val (.ref b6), .val (.ref b14), .val (.ref b25), .val (.ref b110), .val (.int (0 : Int32)), .val (.ref bt960), .val (.ref bt977), .val (.ref bt997), .val (.ref bt1020)] [(.int (0 : Int32)), (.int (1 : Int32)), (.ref bt960)])) _
              refine XS.aload X1020.here hx rfl (hb hby at_188) rfl rfl ?_
              show Steps _ _ _ (T1020.setTop (mkF m 190 #[.val (.int x0), .val (.int x1), .val (.int x2), .val (.int x3), .val (.int x4), .val (.int cap), .val (.int n), .val (.ref b6), .val (.ref b14), .val (.ref b25), .val (.ref b110), .val (.int (0 : Int32)), .val (.ref bt960), .val (.ref bt977), .val (.ref bt997), .val (.ref bt1020)] [(.ref b6), (.int (0 : Int32)), (.int (1 : Int32)), (.ref bt960)])) _
              refine XS.aload X1020.here hx rfl (hb hby at_190) rfl rfl ?_
              show Steps _ _ _ (T1020.setTop (mkF m 192 #[.val (.int x0), .val (.int x1), .val (.int x2), .val (.int x3), .val (.int x4), .val (.int cap), .val (.int n), .val (.ref b6), .val (.ref b14), .val (.ref b25), .val (.ref b110), .val (.int (0 : Int32)), .val (.ref bt960), .val (.ref bt977), .val (.ref bt997), .val (.ref bt1020)] [(.ref b14), (.ref b6), (.int (0 : Int32)), (.int (1 : Int32)), (.ref bt960)])) _
              refine XS.aload X1020.here hx rfl (hb hby at_192) rfl rfl ?_
              show Steps _ _ _ (T1020.setTop (mkF m 194 #[.val (.int x0), .val (.int x1), .val (.int x2), .val (.int x3), .val (.int x4), .val (.int cap), .val (.int n), .val (.ref b6), .val (.ref b14), .val (.ref b25), .val (.ref b110), .val (.int (0 : Int32)), .val (.ref bt960), .val (.ref bt977), .val (.ref bt997), .val (.ref bt1020)] [(.ref b25), (.ref b14), (.ref b6), (.int (0 : Int32)), (.int (1 : Int32)), (.ref bt960)])) _
              refine XS.iloadN X1020.here hx rfl (hb hby at_194) rfl ?_
              show Steps _ _ _ (T1020.setTop (mkF m 195 #[.val (.int x0), .val (.int x1), .val (.int x2), .val (.int x3), .val (.int x4), .val (.int cap), .val (.int n), .val (.ref b6), .val (.ref b14), .val (.ref b25), .val (.ref b110), .val (.int (0 : Int32)), .val (.ref bt960), .val (.ref bt977), .val (.ref bt997), .val (.ref bt1020)] [(.int x2), (.ref b25), (.ref b14), (.ref b6), (.int (0 : Int32)), (.int (1 : Int32)), (.ref bt960)])) _
              refine XS.iloadN X1020.here hx rfl (hb hby at_195) rfl ?_
              show Steps _ _ _ (T1020.setTop (mkF m 196 #[.val (.int x0), .val (.int x1), .val (.int x2), .val (.int x3), .val (.int x4), .val (.int cap), .val (.int n), .val (.ref b6), .val (.ref b14), .val (.ref b25), .val (.ref b110), .val (.int (0 : Int32)), .val (.ref bt960), .val (.ref bt977), .val (.ref bt997), .val (.ref bt1020)] [(.int x3), (.int x2), (.ref b25), (.ref b14), (.ref b6), (.int (0 : Int32)), (.int (1 : Int32)), (.ref bt960)])) _
              refine XS.iload X1020.here hx rfl (hb hby at_196) rfl ?_
              exact Steps.refl _)
          obtain ⟨_, _, ⟨T1046, L1046, k1046, n1046⟩, -, X1046, ⟨Lc1046, hQ1046, l1046, y1046, z1046⟩, sr1046⟩ := Jvm.LawKit.callS X1020 hx (y := (⟨"com/example/tideloop/tideloop/MessagePoolKeepPinLaw", "check", "(Lcom/example/tideloop/tideloop/Message;IILcom/example/tideloop/tideloop/Message;Lcom/example/tideloop/tideloop/Message;Lcom/example/tideloop/tideloop/Message;III)Z"⟩ : MethodName)) hown (mvT hZ (hw _ (List.mem_of_getElem? (i := 45) rfl))) (mvT hZ (hw _ (List.mem_of_getElem? (i := 46) rfl))) (mvT hZ (hw _ (List.mem_of_getElem? (i := 47) rfl))) (mvT hZ (hw _ (List.mem_of_getElem? (i := 48) rfl))) (by decide) (backOf (W := 0) (rm8 l Z a0 hw [] bt960 (1 : Int32) (0 : Int32) b6 b14 b25 x2 x3 x4 (0 : Int32) T1020.heap n0 Z1043 f1035 f1036) hZ (hw _ (List.mem_of_getElem? (i := 48) rfl)) (hw _ (List.mem_of_getElem? (i := 47) rfl)) (by decide) (by decide)) (g := (mkF m 198 #[.val (.int x0), .val (.int x1), .val (.int x2), .val (.int x3), .val (.int x4), .val (.int cap), .val (.int n), .val (.ref b6), .val (.ref b14), .val (.ref b25), .val (.ref b110), .val (.int (0 : Int32)), .val (.ref bt960), .val (.ref bt977), .val (.ref bt997), .val (.ref bt1020)] [(.int x4), (.int x3), (.int x2), (.ref b25), (.ref b14), (.ref b6), (.int (0 : Int32)), (.int (1 : Int32)), (.ref bt960)])) rfl (by rw [hml]; rfl) (argsL := [(.ref bt960), (.int (1 : Int32)), (.int (0 : Int32)), (.ref b6), (.ref b14), (.ref b25), (.int x2), (.int x3), (.int x4)]) (rest := []) (lenOf pd_4 rfl) rfl (by show 2 * 0 + _ ≤ _; exact Nat.le_of_eq rfl) (hb hby at_198) (fun _ _ => ⟨rfl, rfl, (by decide : 8 + 0 ≤ _), (by decide : 136 + 0 ≤ _)⟩)
          dsimp only [Pt.U, Pt.locs, Pt.cells, Pt.slots] at X1046 l1046 y1046 z1046 sr1046 hQ1046
          subst l1046 y1046 z1046
          obtain ⟨rfl, N1046q, hh1046⟩ := hQ1046
          have N1046 := Fr.app N1020 N1046q
          obtain ⟨LL1046, X1046, N1046⟩ := own_hide X1046 N1046
          have st1047 : Steps p.tables e below sE (T1046.setTop (mkF m 201 #[.val (.int x0), .val (.int x1), .val (.int x2), .val (.int x3), .val (.int x4), .val (.int cap), .val (.int n), .val (.ref b6), .val (.ref b14), .val (.ref b25), .val (.ref b110), .val (.int (0 : Int32)), .val (.ref bt960), .val (.ref bt977), .val (.ref bt997), .val (.ref bt1020)] [(.int (F8 bt960 (1 : Int32) (0 : Int32) b6 b14 b25 x2 x3 x4 (0 : Int32)))])) := st1045.trans (sr1046 _ (Steps.refl _))
          have hf1048 : ¬ ((F8 bt960 (1 : Int32) (0 : Int32) b6 b14 b25 x2 x3 x4 (0 : Int32)) = (0 : Int32)) := by simp +decide [F8, (Ne.symm ne_b6_bt960), (Ne.symm ne_b14_bt960), (Ne.symm ne_b25_bt960)]
          have st1049 : Steps p.tables e below sE (T1046.setTop (mkF m 219 #[.val (.int x0), .val (.int x1), .val (.int x2), .val (.int x3), .val (.int x4), .val (.int cap), .val (.int n), .val (.ref b6), .val (.ref b14), .val (.ref b25), .val (.ref b110), .val (.int (0 : Int32)), .val (.ref bt960), .val (.ref bt977), .val (.ref bt997), .val (.ref bt1020)] [(.int x4), (.int x3), (.int x2), (.ref b25), (.ref b14), (.ref b6), (.int (0 : Int32)), (.int (2 : Int32)), (.ref bt977)])) := st1047.trans (by
              show Steps _ _ _ (T1046.setTop (mkF m 201 #[.val (.int x0), .val (.int x1), .val (.int x2), .val (.int x3), .val (.int x4), .val (.int cap), .val (.int n), .val (.ref b6), .val (.ref b14), .val (.ref b25), .val (.ref b110), .val (.int (0 : Int32)), .val (.ref bt960), .val (.ref bt977), .val (.ref bt997), .val (.ref bt1020)] [(.int (F8 bt960 (1 : Int32) (0 : Int32) b6 b14 b25 x2 x3 x4 (0 : Int32)))])) _
              refine XS.ifNo X1046.here hx rfl (hb hby at_201) rfl ((if0 _ _).trans (feq hf1048).1) ?_
              show Steps _ _ _ (T1046.setTop (mkF m 204 #[.val (.int x0), .val (.int x1), .val (.int x2), .val (.int x3), .val (.int x4), .val (.int cap), .val (.int n), .val (.ref b6), .val (.ref b14), .val (.ref b25), .val (.ref b110), .val (.int (0 : Int32)), .val (.ref bt960), .val (.ref bt977), .val (.ref bt997), .val (.ref bt1020)] [])) _
              refine XS.aload X1046.here hx rfl (hb hby at_204) rfl rfl ?_
              show Steps _ _ _ (T1046.setTop (mkF m 206 #[.val (.int x0), .val (.int x1), .val (.int x2), .val (.int x3), .val (.int x4), .val (.int cap), .val (.int n), .val (.ref b6), .val (.ref b14), .val (.ref b25), .val (.ref b110), .val (.int (0 : Int32)), .val (.ref bt960), .val (.ref bt977), .val (.ref bt997), .val (.ref bt1020)] [(.ref bt977)])) _
              refine XS.iconst X1046.here hx rfl (hb hby at_206) ?_
              show Steps _ _ _ (T1046.setTop (mkF m 207 #[.val (.int x0), .val (.int x1), .val (.int x2), .val (.int x3), .val (.int x4), .val (.int cap), .val (.int n), .val (.ref b6), .val (.ref b14), .val (.ref b25), .val (.ref b110), .val (.int (0 : Int32)), .val (.ref bt960), .val (.ref bt977), .val (.ref bt997), .val (.ref bt1020)] [(.int (2 : Int32)), (.ref bt977)])) _
              refine XS.iload X1046.here hx rfl (hb hby at_207) rfl ?_
              show Steps _ _ _ (T1046.setTop (mkF m 209 #[.val (.int x0), .val (.int x1), .val (.int x2), .val (.int x3), .val (.int x4), .val (.int cap), .val (.int n), .val (.ref b6), .val (.ref b14), .val (.ref b25), .val (.ref b110), .val (.int (0 : Int32)), .val (.ref bt960), .val (.ref bt977), .val (.ref bt997), .val (.ref bt1020)] [(.int (0 : Int32)), (.int (2 : Int32)), (.ref bt977)])) _
              refine XS.aload X1046.here hx rfl (hb hby at_209) rfl rfl ?_
              show Steps _ _ _ (T1046.setTop (mkF m 211 #[.val (.int x0), .val (.int x1), .val (.int x2), .val (.int x3), .val (.int x4), .val (.int cap), .val (.int n), .val (.ref b6), .val (.ref b14), .val (.ref b25), .val (.ref b110), .val (.int (0 : Int32)), .val (.ref bt960), .val (.ref bt977), .val (.ref bt997), .val (.ref bt1020)] [(.ref b6), (.int (0 : Int32)), (.int (2 : Int32)), (.ref bt977)])) _
              refine XS.aload X1046.here hx rfl (hb hby at_211) rfl rfl ?_
              show Steps _ _ _ (T1046.setTop (mkF m 213 #[.val (.int x0), .val (.int x1), .val (.int x2), .val (.int x3), .val (.int x4), .val (.int cap), .val (.int n), .val (.ref b6), .val (.ref b14), .val (.ref b25), .val (.ref b110), .val (.int (0 : Int32)), .val (.ref bt960), .val (.ref bt977), .val (.ref bt997), .val (.ref bt1020)] [(.ref b14), (.ref b6), (.int (0 : Int32)), (.int (2 : Int32)), (.ref bt977)])) _
              refine XS.aload X1046.here hx rfl (hb hby at_213) rfl rfl ?_
              show Steps _ _ _ (T1046.setTop (mkF m 215 #[.val (.int x0), .val (.int x1), .val (.int x2), .val (.int x3), .val (.int x4), .val (.int cap), .val (.int n), .val (.ref b6), .val (.ref b14), .val (.ref b25), .val (.ref b110), .val (.int (0 : Int32)), .val (.ref bt960), .val (.ref bt977), .val (.ref bt997), .val (.ref bt1020)] [(.ref b25), (.ref b14), (.ref b6), (.int (0 : Int32)), (.int (2 : Int32)), (.ref bt977)])) _
              refine XS.iloadN X1046.here hx rfl (hb hby at_215) rfl ?_
              show Steps _ _ _ (T1046.setTop (mkF m 216 #[.val (.int x0), .val (.int x1), .val (.int x2), .val (.int x3), .val (.int x4), .val (.int cap), .val (.int n), .val (.ref b6), .val (.ref b14), .val (.ref b25), .val (.ref b110), .val (.int (0 : Int32)), .val (.ref bt960), .val (.ref bt977), .val (.ref bt997), .val (.ref bt1020)] [(.int x2), (.ref b25), (.ref b14), (.ref b6), (.int (0 : Int32)), (.int (2 : Int32)), (.ref bt977)])) _
              refine XS.iloadN X1046.here hx rfl (hb hby at_216) rfl ?_
              show Steps _ _ _ (T1046.setTop (mkF m 217 #[.val (.int x0), .val (.int x1), .val (.int x2), .val (.int x3), .val (.int x4), .val (.int cap), .val (.int n), .val (.ref b6), .val (.ref b14), .val (.ref b25), .val (.ref b110), .val (.int (0 : Int32)), .val (.ref bt960), .val (.ref bt977), .val (.ref bt997), .val (.ref bt1020)] [(.int x3), (.int x2), (.ref b25), (.ref b14), (.ref b6), (.int (0 : Int32)), (.int (2 : Int32)), (.ref bt977)])) _
              refine XS.iload X1046.here hx rfl (hb hby at_217) rfl ?_
              exact Steps.refl _)
          obtain ⟨_, _, ⟨T1050, L1050, k1050, n1050⟩, -, X1050, ⟨Lc1050, hQ1050, l1050, y1050, z1050⟩, sr1050⟩ := Jvm.LawKit.callS X1046 hx (y := (⟨"com/example/tideloop/tideloop/MessagePoolKeepPinLaw", "check", "(Lcom/example/tideloop/tideloop/Message;IILcom/example/tideloop/tideloop/Message;Lcom/example/tideloop/tideloop/Message;Lcom/example/tideloop/tideloop/Message;III)Z"⟩ : MethodName)) hown (mvT hZ (hw _ (List.mem_of_getElem? (i := 45) rfl))) (mvT hZ (hw _ (List.mem_of_getElem? (i := 46) rfl))) (mvT hZ (hw _ (List.mem_of_getElem? (i := 47) rfl))) (mvT hZ (hw _ (List.mem_of_getElem? (i := 48) rfl))) (by decide) (backOf (W := 0) (rm8 l Z a0 hw [] bt977 (2 : Int32) (0 : Int32) b6 b14 b25 x2 x3 x4 (0 : Int32) T1020.heap n0 Z1043 f1038 f1039) hZ (hw _ (List.mem_of_getElem? (i := 48) rfl)) (hw _ (List.mem_of_getElem? (i := 47) rfl)) (by decide) (by decide)) (g := (mkF m 219 #[.val (.int x0), .val (.int x1), .val (.int x2), .val (.int x3), .val (.int x4), .val (.int cap), .val (.int n), .val (.ref b6), .val (.ref b14), .val (.ref b25), .val (.ref b110), .val (.int (0 : Int32)), .val (.ref bt960), .val (.ref bt977), .val (.ref bt997), .val (.ref bt1020)] [(.int x4), (.int x3), (.int x2), (.ref b25), (.ref b14), (.ref b6), (.int (0 : Int32)), (.int (2 : Int32)), (.ref bt977)])) rfl (by rw [hml]; rfl) (argsL := [(.ref bt977), (.int (2 : Int32)), (.int (0 : Int32)), (.ref b6), (.ref b14), (.ref b25), (.int x2), (.int x3), (.int x4)]) (rest := []) (lenOf pd_4 rfl) rfl (by show 2 * 0 + _ ≤ _; exact Nat.le_of_eq rfl) (hb hby at_219) (fun _ _ => ⟨rfl, hh1046, (by decide : 8 + 0 ≤ _), (by decide : 136 + 0 ≤ _)⟩)
          dsimp only [Pt.U, Pt.locs, Pt.cells, Pt.slots] at X1050 l1050 y1050 z1050 sr1050 hQ1050
          subst l1050 y1050 z1050
          obtain ⟨rfl, N1050q, hh1050⟩ := hQ1050
          have N1050 := Fr.app N1046 N1050q
          obtain ⟨LL1050, X1050, N1050⟩ := own_hide X1050 N1050
          have st1051 : Steps p.tables e below sE (T1050.setTop (mkF m 222 #[.val (.int x0), .val (.int x1), .val (.int x2), .val (.int x3), .val (.int x4), .val (.int cap), .val (.int n), .val (.ref b6), .val (.ref b14), .val (.ref b25), .val (.ref b110), .val (.int (0 : Int32)), .val (.ref bt960), .val (.ref bt977), .val (.ref bt997), .val (.ref bt1020)] [(.int (F8 bt977 (2 : Int32) (0 : Int32) b6 b14 b25 x2 x3 x4 (0 : Int32)))])) := st1049.trans (sr1050 _ (Steps.refl _))
          have hf1052 : ¬ ((F8 bt977 (2 : Int32) (0 : Int32) b6 b14 b25 x2 x3 x4 (0 : Int32)) = (0 : Int32)) := by simp +decide [F8, (Ne.symm ne_b6_bt977), (Ne.symm ne_b14_bt977), (Ne.symm ne_b25_bt977)]
          have st1053 : Steps p.tables e below sE (T1050.setTop (mkF m 240 #[.val (.int x0), .val (.int x1), .val (.int x2), .val (.int x3), .val (.int x4), .val (.int cap), .val (.int n), .val (.ref b6), .val (.ref b14), .val (.ref b25), .val (.ref b110), .val (.int (0 : Int32)), .val (.ref bt960), .val (.ref bt977), .val (.ref bt997), .val (.ref bt1020)] [(.int x4), (.int x3), (.int x2), (.ref b25), (.ref b14), (.ref b6), (.int (0 : Int32)), (.int (3 : Int32)), (.ref bt997)])) := st1051.trans (by
              show Steps _ _ _ (T1050.setTop (mkF m 222 #[.val (.int x0), .val (.int x1), .val (.int x2), .val (.int x3), .val (.int x4), .val (.int cap), .val (.int n), .val (.ref b6), .val (.ref b14), .val (.ref b25), .val (.ref b110), .val (.int (0 : Int32)), .val (.ref bt960), .val (.ref bt977), .val (.ref bt997), .val (.ref bt1020)] [(.int (F8 bt977 (2 : Int32) (0 : Int32) b6 b14 b25 x2 x3 x4 (0 : Int32)))])) _
              refine XS.ifNo X1050.here hx rfl (hb hby at_222) rfl ((if0 _ _).trans (feq hf1052).1) ?_
              show Steps _ _ _ (T1050.setTop (mkF m 225 #[.val (.int x0), .val (.int x1), .val (.int x2), .val (.int x3), .val (.int x4), .val (.int cap), .val (.int n), .val (.ref b6), .val (.ref b14), .val (.ref b25), .val (.ref b110), .val (.int (0 : Int32)), .val (.ref bt960), .val (.ref bt977), .val (.ref bt997), .val (.ref bt1020)] [])) _
              refine XS.aload X1050.here hx rfl (hb hby at_225) rfl rfl ?_
              show Steps _ _ _ (T1050.setTop (mkF m 227 #[.val (.int x0), .val (.int x1), .val (.int x2), .val (.int x3), .val (.int x4), .val (.int cap), .val (.int n), .val (.ref b6), .val (.ref b14), .val (.ref b25), .val (.ref b110), .val (.int (0 : Int32)), .val (.ref bt960), .val (.ref bt977), .val (.ref bt997), .val (.ref bt1020)] [(.ref bt997)])) _
              refine XS.iconst X1050.here hx rfl (hb hby at_227) ?_
              show Steps _ _ _ (T1050.setTop (mkF m 228 #[.val (.int x0), .val (.int x1), .val (.int x2), .val (.int x3), .val (.int x4), .val (.int cap), .val (.int n), .val (.ref b6), .val (.ref b14), .val (.ref b25), .val (.ref b110), .val (.int (0 : Int32)), .val (.ref bt960), .val (.ref bt977), .val (.ref bt997), .val (.ref bt1020)] [(.int (3 : Int32)), (.ref bt997)])) _
              refine XS.iload X1050.here hx rfl (hb hby at_228) rfl ?_
              show Steps _ _ _ (T1050.setTop (mkF m 230 #[.val (.int x0), .val (.int x1), .val (.int x2), .val (.int x3), .val (.int x4), .val (.int cap), .val (.int n), .val (.ref b6), .val (.ref b14), .val (.ref b25), .val (.ref b110), .val (.int (0 : Int32)), .val (.ref bt960), .val (.ref bt977), .val (.ref bt997), .val (.ref bt1020)] [(.int (0 : Int32)), (.int (3 : Int32)), (.ref bt997)])) _
              refine XS.aload X1050.here hx rfl (hb hby at_230) rfl rfl ?_
              show Steps _ _ _ (T1050.setTop (mkF m 232 #[.val (.int x0), .val (.int x1), .val (.int x2), .val (.int x3), .val (.int x4), .val (.int cap), .val (.int n), .val (.ref b6), .val (.ref b14), .val (.ref b25), .val (.ref b110), .val (.int (0 : Int32)), .val (.ref bt960), .val (.ref bt977), .val (.ref bt997), .val (.ref bt1020)] [(.ref b6), (.int (0 : Int32)), (.int (3 : Int32)), (.ref bt997)])) _
              refine XS.aload X1050.here hx rfl (hb hby at_232) rfl rfl ?_
              show Steps _ _ _ (T1050.setTop (mkF m 234 #[.val (.int x0), .val (.int x1), .val (.int x2), .val (.int x3), .val (.int x4), .val (.int cap), .val (.int n), .val (.ref b6), .val (.ref b14), .val (.ref b25), .val (.ref b110), .val (.int (0 : Int32)), .val (.ref bt960), .val (.ref bt977), .val (.ref bt997), .val (.ref bt1020)] [(.ref b14), (.ref b6), (.int (0 : Int32)), (.int (3 : Int32)), (.ref bt997)])) _
              refine XS.aload X1050.here hx rfl (hb hby at_234) rfl rfl ?_
              show Steps _ _ _ (T1050.setTop (mkF m 236 #[.val (.int x0), .val (.int x1), .val (.int x2), .val (.int x3), .val (.int x4), .val (.int cap), .val (.int n), .val (.ref b6), .val (.ref b14), .val (.ref b25), .val (.ref b110), .val (.int (0 : Int32)), .val (.ref bt960), .val (.ref bt977), .val (.ref bt997), .val (.ref bt1020)] [(.ref b25), (.ref b14), (.ref b6), (.int (0 : Int32)), (.int (3 : Int32)), (.ref bt997)])) _
              refine XS.iloadN X1050.here hx rfl (hb hby at_236) rfl ?_
              show Steps _ _ _ (T1050.setTop (mkF m 237 #[.val (.int x0), .val (.int x1), .val (.int x2), .val (.int x3), .val (.int x4), .val (.int cap), .val (.int n), .val (.ref b6), .val (.ref b14), .val (.ref b25), .val (.ref b110), .val (.int (0 : Int32)), .val (.ref bt960), .val (.ref bt977), .val (.ref bt997), .val (.ref bt1020)] [(.int x2), (.ref b25), (.ref b14), (.ref b6), (.int (0 : Int32)), (.int (3 : Int32)), (.ref bt997)])) _
              refine XS.iloadN X1050.here hx rfl (hb hby at_237) rfl ?_
              show Steps _ _ _ (T1050.setTop (mkF m 238 #[.val (.int x0), .val (.int x1), .val (.int x2), .val (.int x3), .val (.int x4), .val (.int cap), .val (.int n), .val (.ref b6), .val (.ref b14), .val (.ref b25), .val (.ref b110), .val (.int (0 : Int32)), .val (.ref bt960), .val (.ref bt977), .val (.ref bt997), .val (.ref bt1020)] [(.int x3), (.int x2), (.ref b25), (.ref b14), (.ref b6), (.int (0 : Int32)), (.int (3 : Int32)), (.ref bt997)])) _
              refine XS.iload X1050.here hx rfl (hb hby at_238) rfl ?_
              exact Steps.refl _)
          obtain ⟨_, _, ⟨T1054, L1054, k1054, n1054⟩, -, X1054, ⟨Lc1054, hQ1054, l1054, y1054, z1054⟩, sr1054⟩ := Jvm.LawKit.callS X1050 hx (y := (⟨"com/example/tideloop/tideloop/MessagePoolKeepPinLaw", "check", "(Lcom/example/tideloop/tideloop/Message;IILcom/example/tideloop/tideloop/Message;Lcom/example/tideloop/tideloop/Message;Lcom/example/tideloop/tideloop/Message;III)Z"⟩ : MethodName)) hown (mvT hZ (hw _ (List.mem_of_getElem? (i := 45) rfl))) (mvT hZ (hw _ (List.mem_of_getElem? (i := 46) rfl))) (mvT hZ (hw _ (List.mem_of_getElem? (i := 47) rfl))) (mvT hZ (hw _ (List.mem_of_getElem? (i := 48) rfl))) (by decide) (backOf (W := 0) (rm8 l Z a0 hw [] bt997 (3 : Int32) (0 : Int32) b6 b14 b25 x2 x3 x4 (0 : Int32) T1020.heap n0 Z1043 f1041 f1042) hZ (hw _ (List.mem_of_getElem? (i := 48) rfl)) (hw _ (List.mem_of_getElem? (i := 47) rfl)) (by decide) (by decide)) (g := (mkF m 240 #[.val (.int x0), .val (.int x1), .val (.int x2), .val (.int x3), .val (.int x4), .val (.int cap), .val (.int n), .val (.ref b6), .val (.ref b14), .val (.ref b25), .val (.ref b110), .val (.int (0 : Int32)), .val (.ref bt960), .val (.ref bt977), .val (.ref bt997), .val (.ref bt1020)] [(.int x4), (.int x3), (.int x2), (.ref b25), (.ref b14), (.ref b6), (.int (0 : Int32)), (.int (3 : Int32)), (.ref bt997)])) rfl (by rw [hml]; rfl) (argsL := [(.ref bt997), (.int (3 : Int32)), (.int (0 : Int32)), (.ref b6), (.ref b14), (.ref b25), (.int x2), (.int x3), (.int x4)]) (rest := []) (lenOf pd_4 rfl) rfl (by show 2 * 0 + _ ≤ _; exact Nat.le_of_eq rfl) (hb hby at_240) (fun _ _ => ⟨rfl, hh1050, (by decide : 8 + 0 ≤ _), (by decide : 136 + 0 ≤ _)⟩)
          dsimp only [Pt.U, Pt.locs, Pt.cells, Pt.slots] at X1054 l1054 y1054 z1054 sr1054 hQ1054
          subst l1054 y1054 z1054
          obtain ⟨rfl, N1054q, hh1054⟩ := hQ1054
          have N1054 := Fr.app N1050 N1054q
          obtain ⟨LL1054, X1054, N1054⟩ := own_hide X1054 N1054
          have st1055 : Steps p.tables e below sE (T1054.setTop (mkF m 243 #[.val (.int x0), .val (.int x1), .val (.int x2), .val (.int x3), .val (.int x4), .val (.int cap), .val (.int n), .val (.ref b6), .val (.ref b14), .val (.ref b25), .val (.ref b110), .val (.int (0 : Int32)), .val (.ref bt960), .val (.ref bt977), .val (.ref bt997), .val (.ref bt1020)] [(.int (F8 bt997 (3 : Int32) (0 : Int32) b6 b14 b25 x2 x3 x4 (0 : Int32)))])) := st1053.trans (sr1054 _ (Steps.refl _))
          have hf1056 : ¬ ((F8 bt997 (3 : Int32) (0 : Int32) b6 b14 b25 x2 x3 x4 (0 : Int32)) = (0 : Int32)) := by simp +decide [F8, (Ne.symm ne_b6_bt997), (Ne.symm ne_b14_bt997), (Ne.symm ne_b25_bt997)]
          have st1057 : Steps p.tables e below sE (T1054.setTop (mkF m 261 #[.val (.int x0), .val (.int x1), .val (.int x2), .val (.int x3), .val (.int x4), .val (.int cap), .val (.int n), .val (.ref b6), .val (.ref b14), .val (.ref b25), .val (.ref b110), .val (.int (0 : Int32)), .val (.ref bt960), .val (.ref bt977), .val (.ref bt997), .val (.ref bt1020)] [(.int x4), (.int x3), (.int x2), (.ref b25), (.ref b14), (.ref b6), (.int (0 : Int32)), (.int (4 : Int32)), (.ref bt1020)])) := st1055.trans (by
              show Steps _ _ _ (T1054.setTop (mkF m 243 #[.val (.int x0), .val (.int x1), .val (.int x2), .val (.int x3), .val (.int x4), .val (.int cap), .val (.int n), .val (.ref b6), .val (.ref b14), .val (.ref b25), .val (.ref b110), .val (.int (0 : Int32)), .val (.ref bt960), .val (.ref bt977), .val (.ref bt997), .val (.ref bt1020)] [(.int (F8 bt997 (3 : Int32) (0 : Int32) b6 b14 b25 x2 x3 x4 (0 : Int32)))])) _
              refine XS.ifNo X1054.here hx rfl (hb hby at_243) rfl ((if0 _ _).trans (feq hf1056).1) ?_
              show Steps _ _ _ (T1054.setTop (mkF m 246 #[.val (.int x0), .val (.int x1), .val (.int x2), .val (.int x3), .val (.int x4), .val (.int cap), .val (.int n), .val (.ref b6), .val (.ref b14), .val (.ref b25), .val (.ref b110), .val (.int (0 : Int32)), .val (.ref bt960), .val (.ref bt977), .val (.ref bt997), .val (.ref bt1020)] [])) _
              refine XS.aload X1054.here hx rfl (hb hby at_246) rfl rfl ?_
              show Steps _ _ _ (T1054.setTop (mkF m 248 #[.val (.int x0), .val (.int x1), .val (.int x2), .val (.int x3), .val (.int x4), .val (.int cap), .val (.int n), .val (.ref b6), .val (.ref b14), .val (.ref b25), .val (.ref b110), .val (.int (0 : Int32)), .val (.ref bt960), .val (.ref bt977), .val (.ref bt997), .val (.ref bt1020)] [(.ref bt1020)])) _
              refine XS.iconst X1054.here hx rfl (hb hby at_248) ?_
              show Steps _ _ _ (T1054.setTop (mkF m 249 #[.val (.int x0), .val (.int x1), .val (.int x2), .val (.int x3), .val (.int x4), .val (.int cap), .val (.int n), .val (.ref b6), .val (.ref b14), .val (.ref b25), .val (.ref b110), .val (.int (0 : Int32)), .val (.ref bt960), .val (.ref bt977), .val (.ref bt997), .val (.ref bt1020)] [(.int (4 : Int32)), (.ref bt1020)])) _
              refine XS.iload X1054.here hx rfl (hb hby at_249) rfl ?_
              show Steps _ _ _ (T1054.setTop (mkF m 251 #[.val (.int x0), .val (.int x1), .val (.int x2), .val (.int x3), .val (.int x4), .val (.int cap), .val (.int n), .val (.ref b6), .val (.ref b14), .val (.ref b25), .val (.ref b110), .val (.int (0 : Int32)), .val (.ref bt960), .val (.ref bt977), .val (.ref bt997), .val (.ref bt1020)] [(.int (0 : Int32)), (.int (4 : Int32)), (.ref bt1020)])) _
              refine XS.aload X1054.here hx rfl (hb hby at_251) rfl rfl ?_
              show Steps _ _ _ (T1054.setTop (mkF m 253 #[.val (.int x0), .val (.int x1), .val (.int x2), .val (.int x3), .val (.int x4), .val (.int cap), .val (.int n), .val (.ref b6), .val (.ref b14), .val (.ref b25), .val (.ref b110), .val (.int (0 : Int32)), .val (.ref bt960), .val (.ref bt977), .val (.ref bt997), .val (.ref bt1020)] [(.ref b6), (.int (0 : Int32)), (.int (4 : Int32)), (.ref bt1020)])) _
              refine XS.aload X1054.here hx rfl (hb hby at_253) rfl rfl ?_
              show Steps _ _ _ (T1054.setTop (mkF m 255 #[.val (.int x0), .val (.int x1), .val (.int x2), .val (.int x3), .val (.int x4), .val (.int cap), .val (.int n), .val (.ref b6), .val (.ref b14), .val (.ref b25), .val (.ref b110), .val (.int (0 : Int32)), .val (.ref bt960), .val (.ref bt977), .val (.ref bt997), .val (.ref bt1020)] [(.ref b14), (.ref b6), (.int (0 : Int32)), (.int (4 : Int32)), (.ref bt1020)])) _
              refine XS.aload X1054.here hx rfl (hb hby at_255) rfl rfl ?_
              show Steps _ _ _ (T1054.setTop (mkF m 257 #[.val (.int x0), .val (.int x1), .val (.int x2), .val (.int x3), .val (.int x4), .val (.int cap), .val (.int n), .val (.ref b6), .val (.ref b14), .val (.ref b25), .val (.ref b110), .val (.int (0 : Int32)), .val (.ref bt960), .val (.ref bt977), .val (.ref bt997), .val (.ref bt1020)] [(.ref b25), (.ref b14), (.ref b6), (.int (0 : Int32)), (.int (4 : Int32)), (.ref bt1020)])) _
              refine XS.iloadN X1054.here hx rfl (hb hby at_257) rfl ?_
              show Steps _ _ _ (T1054.setTop (mkF m 258 #[.val (.int x0), .val (.int x1), .val (.int x2), .val (.int x3), .val (.int x4), .val (.int cap), .val (.int n), .val (.ref b6), .val (.ref b14), .val (.ref b25), .val (.ref b110), .val (.int (0 : Int32)), .val (.ref bt960), .val (.ref bt977), .val (.ref bt997), .val (.ref bt1020)] [(.int x2), (.ref b25), (.ref b14), (.ref b6), (.int (0 : Int32)), (.int (4 : Int32)), (.ref bt1020)])) _
              refine XS.iloadN X1054.here hx rfl (hb hby at_258) rfl ?_
              show Steps _ _ _ (T1054.setTop (mkF m 259 #[.val (.int x0), .val (.int x1), .val (.int x2), .val (.int x3), .val (.int x4), .val (.int cap), .val (.int n), .val (.ref b6), .val (.ref b14), .val (.ref b25), .val (.ref b110), .val (.int (0 : Int32)), .val (.ref bt960), .val (.ref bt977), .val (.ref bt997), .val (.ref bt1020)] [(.int x3), (.int x2), (.ref b25), (.ref b14), (.ref b6), (.int (0 : Int32)), (.int (4 : Int32)), (.ref bt1020)])) _
              refine XS.iload X1054.here hx rfl (hb hby at_259) rfl ?_
              exact Steps.refl _)
          obtain ⟨_, _, ⟨T1058, L1058, k1058, n1058⟩, -, X1058, ⟨Lc1058, hQ1058, l1058, y1058, z1058⟩, sr1058⟩ := Jvm.LawKit.callS X1054 hx (y := (⟨"com/example/tideloop/tideloop/MessagePoolKeepPinLaw", "check", "(Lcom/example/tideloop/tideloop/Message;IILcom/example/tideloop/tideloop/Message;Lcom/example/tideloop/tideloop/Message;Lcom/example/tideloop/tideloop/Message;III)Z"⟩ : MethodName)) hown (mvT hZ (hw _ (List.mem_of_getElem? (i := 45) rfl))) (mvT hZ (hw _ (List.mem_of_getElem? (i := 46) rfl))) (mvT hZ (hw _ (List.mem_of_getElem? (i := 47) rfl))) (mvT hZ (hw _ (List.mem_of_getElem? (i := 48) rfl))) (by decide) (backOf (W := 0) (rm8 l Z a0 hw [] bt1020 (4 : Int32) (0 : Int32) b6 b14 b25 x2 x3 x4 (0 : Int32) T1020.heap n0 Z1043 qn1020 qw1020) hZ (hw _ (List.mem_of_getElem? (i := 48) rfl)) (hw _ (List.mem_of_getElem? (i := 47) rfl)) (by decide) (by decide)) (g := (mkF m 261 #[.val (.int x0), .val (.int x1), .val (.int x2), .val (.int x3), .val (.int x4), .val (.int cap), .val (.int n), .val (.ref b6), .val (.ref b14), .val (.ref b25), .val (.ref b110), .val (.int (0 : Int32)), .val (.ref bt960), .val (.ref bt977), .val (.ref bt997), .val (.ref bt1020)] [(.int x4), (.int x3), (.int x2), (.ref b25), (.ref b14), (.ref b6), (.int (0 : Int32)), (.int (4 : Int32)), (.ref bt1020)])) rfl (by rw [hml]; rfl) (argsL := [(.ref bt1020), (.int (4 : Int32)), (.int (0 : Int32)), (.ref b6), (.ref b14), (.ref b25), (.int x2), (.int x3), (.int x4)]) (rest := []) (lenOf pd_4 rfl) rfl (by show 2 * 0 + _ ≤ _; exact Nat.le_of_eq rfl) (hb hby at_261) (fun _ _ => ⟨rfl, hh1054, (by decide : 8 + 0 ≤ _), (by decide : 136 + 0 ≤ _)⟩)
          dsimp only [Pt.U, Pt.locs, Pt.cells, Pt.slots] at X1058 l1058 y1058 z1058 sr1058 hQ1058
          subst l1058 y1058 z1058
          obtain ⟨rfl, N1058q, hh1058⟩ := hQ1058
          have N1058 := Fr.app N1054 N1058q
          obtain ⟨LL1058, X1058, N1058⟩ := own_hide X1058 N1058
          have st1059 : Steps p.tables e below sE (T1058.setTop (mkF m 264 #[.val (.int x0), .val (.int x1), .val (.int x2), .val (.int x3), .val (.int x4), .val (.int cap), .val (.int n), .val (.ref b6), .val (.ref b14), .val (.ref b25), .val (.ref b110), .val (.int (0 : Int32)), .val (.ref bt960), .val (.ref bt977), .val (.ref bt997), .val (.ref bt1020)] [(.int (F8 bt1020 (4 : Int32) (0 : Int32) b6 b14 b25 x2 x3 x4 (0 : Int32)))])) := st1057.trans (sr1058 _ (Steps.refl _))
          have hf1060 : ¬ ((F8 bt1020 (4 : Int32) (0 : Int32) b6 b14 b25 x2 x3 x4 (0 : Int32)) = (0 : Int32)) := by simp +decide [F8, (Ne.symm ne_b6_bt1020), (Ne.symm ne_b14_bt1020), (Ne.symm ne_b25_bt1020)]
          have st1061 : Steps p.tables e below sE (T1058.setTop (mkF m 272 #[.val (.int x0), .val (.int x1), .val (.int x2), .val (.int x3), .val (.int x4), .val (.int cap), .val (.int n), .val (.ref b6), .val (.ref b14), .val (.ref b25), .val (.ref b110), .val (.int (0 : Int32)), .val (.ref bt960), .val (.ref bt977), .val (.ref bt997), .val (.ref bt1020)] [(.int (1 : Int32))])) := st1059.trans (by
              show Steps _ _ _ (T1058.setTop (mkF m 264 #[.val (.int x0), .val (.int x1), .val (.int x2), .val (.int x3), .val (.int x4), .val (.int cap), .val (.int n), .val (.ref b6), .val (.ref b14), .val (.ref b25), .val (.ref b110), .val (.int (0 : Int32)), .val (.ref bt960), .val (.ref bt977), .val (.ref bt997), .val (.ref bt1020)] [(.int (F8 bt1020 (4 : Int32) (0 : Int32) b6 b14 b25 x2 x3 x4 (0 : Int32)))])) _
              refine XS.ifNo X1058.here hx rfl (hb hby at_264) rfl ((if0 _ _).trans (feq hf1060).1) ?_
              show Steps _ _ _ (T1058.setTop (mkF m 267 #[.val (.int x0), .val (.int x1), .val (.int x2), .val (.int x3), .val (.int x4), .val (.int cap), .val (.int n), .val (.ref b6), .val (.ref b14), .val (.ref b25), .val (.ref b110), .val (.int (0 : Int32)), .val (.ref bt960), .val (.ref bt977), .val (.ref bt997), .val (.ref bt1020)] [])) _
              refine XS.iconst X1058.here hx rfl (hb hby at_267) ?_
              show Steps _ _ _ (T1058.setTop (mkF m 268 #[.val (.int x0), .val (.int x1), .val (.int x2), .val (.int x3), .val (.int x4), .val (.int cap), .val (.int n), .val (.ref b6), .val (.ref b14), .val (.ref b25), .val (.ref b110), .val (.int (0 : Int32)), .val (.ref bt960), .val (.ref bt977), .val (.ref bt997), .val (.ref bt1020)] [(.int (1 : Int32))])) _
              refine XS.goto X1058.here hx rfl (pc0 := 268) (pc' := 272) rfl (hb hby at_268) (by decide) (by decide) ?_
              exact Steps.refl _)
          obtain ⟨fs, hr, hrun, hended, hW, hsame⟩ := X1058.leave (v := some (.int (1 : Int32))) (fun h => by rw [Bd.returns] at h; cases h)
          refine ⟨_, _, (own_ent hsE st1061).trans ?_, hrun, hended, _, _, rfl, ?_, ⟨_, rfl⟩, hW, hsame.mono (by decide) (by decide)⟩
          · exact retN X1058 hx (t := .boolean) Bd.returns (by simp) (hb hby at_272) hr
          · show Q0 Z x0 x1 x2 x3 x4 h0 n0 _ T1058.heap _
            rw [hh1058]
            exact ⟨rfl, N1058⟩
        · have st1062 : Steps p.tables e below sE (T949.setTop (mkF m 139 #[.val (.int x0), .val (.int x1), .val (.int x2), .val (.int x3), .val (.int x4), .val (.int cap), .val (.int n), .val (.ref b6), .val (.ref b14), .val (.ref b25), .val (.ref b110), .unset, .unset, .unset, .unset, .unset] [(.ref b25), (.ref b110)])) := st951.trans (by
              show Steps _ _ _ (T949.setTop (mkF m 132 #[.val (.int x0), .val (.int x1), .val (.int x2), .val (.int x3), .val (.int x4), .val (.int cap), .val (.int n), .val (.ref b6), .val (.ref b14), .val (.ref b25), .val (.ref b110), .unset, .unset, .unset, .unset, .unset] [(.int (3 : Int32)), (.int n)])) _
              refine XS.icmpNo X949.here hx rfl (hb hby at_132) rfl (flt hc952).1 ?_
              show Steps _ _ _ (T949.setTop (mkF m 135 #[.val (.int x0), .val (.int x1), .val (.int x2), .val (.int x3), .val (.int x4), .val (.int cap), .val (.int n), .val (.ref b6), .val (.ref b14), .val (.ref b25), .val (.ref b110), .unset, .unset, .unset, .unset, .unset] [])) _
              refine XS.aload X949.here hx rfl (hb hby at_135) rfl rfl ?_
              show Steps _ _ _ (T949.setTop (mkF m 137 #[.val (.int x0), .val (.int x1), .val (.int x2), .val (.int x3), .val (.int x4), .val (.int cap), .val (.int n), .val (.ref b6), .val (.ref b14), .val (.ref b25), .val (.ref b110), .unset, .unset, .unset, .unset, .unset] [(.ref b110)])) _
              refine XS.aload X949.here hx rfl (hb hby at_137) rfl rfl ?_
              exact Steps.refl _)
          obtain ⟨cq1063, kq1063, q1063a, q1063b, q1063c⟩ := isOf hZ hh949 f125_0
          obtain ⟨_, _, ⟨T1063, L1063, k1063, n1063⟩, -, X1063, ⟨Lc1063, hQ1063, l1063, y1063, z1063⟩, sr1063⟩ := X949.virtualBack hx (y := (⟨"com/example/tideloop/tideloop/MessagePool", "keep", "(Lcom/example/tideloop/tideloop/Message;)V"⟩ : MethodName)) (z := (⟨"com/example/tideloop/tideloop/MessagePool", "keep", "(Lcom/example/tideloop/tideloop/Message;)V"⟩ : MethodName)) hown (mvT hZ (hw _ (List.mem_of_getElem? (i := 22) rfl))) (mvT hZ (hw _ (List.mem_of_getElem? (i := 23) rfl))) (notFace_of_selects (args := #[]) (mvT hZ (hw _ (List.mem_of_getElem? (i := 25) rfl)))) (mvT hZ (hw _ (List.mem_of_getElem? (i := 25) rfl))) (mvT hZ (hw _ (List.mem_of_getElem? (i := 24) rfl))) (by decide) (backOf (W := 0) (rmkn l Z a0 hw [] b110 b25 (0 : Int32) cap T125.heap n0 Z136 f125_0 f125_2 f125_1 hc254) hZ (hw _ (List.mem_of_getElem? (i := 26) rfl)) (hw _ (List.mem_of_getElem? (i := 15) rfl)) (by decide) (by decide)) q1063a q1063c (g := (mkF m 139 #[.val (.int x0), .val (.int x1), .val (.int x2), .val (.int x3), .val (.int x4), .val (.int cap), .val (.int n), .val (.ref b6), .val (.ref b14), .val (.ref b25), .val (.ref b110), .unset, .unset, .unset, .unset, .unset] [(.ref b25), (.ref b110)])) rfl (by rw [hml]; rfl) (Steps.refl _) (argsL := [(.ref b25)]) (rest := []) (lenOf pd_5 rfl) rfl (by show 2 * 0 + _ ≤ _; exact Nat.le_of_eq rfl) (hb hby at_139) (fun _ _ => ⟨rfl, hh949, (by decide : 4 + 0 ≤ _), (by decide : 60 + 0 ≤ _)⟩)
          dsimp only [Pt.U, Pt.locs, Pt.cells, Pt.slots] at X1063 l1063 y1063 z1063 sr1063 hQ1063
          subst l1063 y1063 z1063
          obtain ⟨rfl, N1063q, hh1063⟩ := hQ1063
          have N1063 := Fr.app N949 N1063q
          obtain ⟨LL1063, X1063, N1063⟩ := own_hide X1063 N1063
          have st1064 : Steps p.tables e below sE (T1063.setTop (mkF m 142 #[.val (.int x0), .val (.int x1), .val (.int x2), .val (.int x3), .val (.int x4), .val (.int cap), .val (.int n), .val (.ref b6), .val (.ref b14), .val (.ref b25), .val (.ref b110), .unset, .unset, .unset, .unset, .unset] [])) := st1062.trans (sr1063)
          have st1065 : Steps p.tables e below sE (T1063.setTop (mkF m 147 #[.val (.int x0), .val (.int x1), .val (.int x2), .val (.int x3), .val (.int x4), .val (.int cap), .val (.int n), .val (.ref b6), .val (.ref b14), .val (.ref b25), .val (.ref b110), .unset, .unset, .unset, .unset, .unset] [(.int cap), (.int (0 : Int32)), (.int n)])) := st1064.trans (by
              show Steps _ _ _ (T1063.setTop (mkF m 142 #[.val (.int x0), .val (.int x1), .val (.int x2), .val (.int x3), .val (.int x4), .val (.int cap), .val (.int n), .val (.ref b6), .val (.ref b14), .val (.ref b25), .val (.ref b110), .unset, .unset, .unset, .unset, .unset] [])) _
              refine XS.iload X1063.here hx rfl (hb hby at_142) rfl ?_
              show Steps _ _ _ (T1063.setTop (mkF m 144 #[.val (.int x0), .val (.int x1), .val (.int x2), .val (.int x3), .val (.int x4), .val (.int cap), .val (.int n), .val (.ref b6), .val (.ref b14), .val (.ref b25), .val (.ref b110), .unset, .unset, .unset, .unset, .unset] [(.int n)])) _
              refine XS.iconst X1063.here hx rfl (hb hby at_144) ?_
              show Steps _ _ _ (T1063.setTop (mkF m 145 #[.val (.int x0), .val (.int x1), .val (.int x2), .val (.int x3), .val (.int x4), .val (.int cap), .val (.int n), .val (.ref b6), .val (.ref b14), .val (.ref b25), .val (.ref b110), .unset, .unset, .unset, .unset, .unset] [(.int (0 : Int32)), (.int n)])) _
              refine XS.iload X1063.here hx rfl (hb hby at_145) rfl ?_
              exact Steps.refl _)
          obtain ⟨_, _, ⟨T1066, L1066, k1066, n1066⟩, -, X1066, ⟨Lc1066, hQ1066, l1066, y1066, z1066⟩, sr1066⟩ := Jvm.LawKit.callS X1063 hx (y := (⟨"java/lang/Math", "max", "(II)I"⟩ : MethodName)) hown (mvT hZ (hw _ (List.mem_of_getElem? (i := 29) rfl))) (mvT hZ (hw _ (List.mem_of_getElem? (i := 30) rfl))) (mvT hZ (hw _ (List.mem_of_getElem? (i := 31) rfl))) (mvT hZ (hw _ (List.mem_of_getElem? (i := 32) rfl))) (by decide) (backOf (W := 1) (rm5 l Z a0 hw [] (0 : Int32) cap  T125.heap n0 Z136 ) hZ (hw _ (List.mem_of_getElem? (i := 32) rfl)) (hw _ (List.mem_of_getElem? (i := 31) rfl)) (by decide) (by decide)) (g := (mkF m 147 #[.val (.int x0), .val (.int x1), .val (.int x2), .val (.int x3), .val (.int x4), .val (.int cap), .val (.int n), .val (.ref b6), .val (.ref b14), .val (.ref b25), .val (.ref b110), .unset, .unset, .unset, .unset, .unset] [(.int cap), (.int (0 : Int32)), (.int n)])) rfl (by rw [hml]; rfl) (argsL := [(.int (0 : Int32)), (.int cap)]) (rest := [(.int n)]) (lenOf pd_2 rfl) rfl (by show 2 * 0 + _ ≤ _; exact Nat.le_of_eq rfl) (hb hby at_147) (fun _ _ => ⟨rfl, hh1063, (by decide : 4 + 0 ≤ _), (by decide : 60 + 0 ≤ _)⟩)
          dsimp only [Pt.U, Pt.locs, Pt.cells, Pt.slots] at X1066 l1066 y1066 z1066 sr1066 hQ1066
          subst l1066 y1066 z1066
          obtain ⟨rfl, N1066q, hh1066⟩ := hQ1066
          have N1066 := Fr.app N1063 N1066q
          obtain ⟨LL1066, X1066, N1066⟩ := own_hide X1066 N1066
          have st1067 : Steps p.tables e below sE (T1066.setTop (mkF m 150 #[.val (.int x0), .val (.int x1), .val (.int x2), .val (.int x3), .val (.int x4), .val (.int cap), .val (.int n), .val (.ref b6), .val (.ref b14), .val (.ref b25), .val (.ref b110), .unset, .unset, .unset, .unset, .unset] [(.int (F5 (0 : Int32) cap)), (.int n)])) := st1065.trans (sr1066 _ (Steps.refl _))
          obtain ⟨_, _, ⟨T1068, L1068, k1068, n1068⟩, -, X1068, ⟨Lc1068, hQ1068, l1068, y1068, z1068⟩, sr1068⟩ := Jvm.LawKit.callS X1066 hx (y := (⟨"java/lang/Math", "min", "(II)I"⟩ : MethodName)) hown (mvT hZ (hw _ (List.mem_of_getElem? (i := 33) rfl))) (mvT hZ (hw _ (List.mem_of_getElem? (i := 34) rfl))) (mvT hZ (hw _ (List.mem_of_getElem? (i := 31) rfl))) (mvT hZ (hw _ (List.mem_of_getElem? (i := 35) rfl))) (by decide) (backOf (W := 0) (rm6 l Z a0 hw [] n (F5 (0 : Int32) cap)  T125.heap n0 Z136 ) hZ (hw _ (List.mem_of_getElem? (i := 35) rfl)) (hw _ (List.mem_of_getElem? (i := 31) rfl)) (by decide) (by decide)) (g := (mkF m 150 #[.val (.int x0), .val (.int x1), .val (.int x2), .val (.int x3), .val (.int x4), .val (.int cap), .val (.int n), .val (.ref b6), .val (.ref b14), .val (.ref b25), .val (.ref b110), .unset, .unset, .unset, .unset, .unset] [(.int (F5 (0 : Int32) cap)), (.int n)])) rfl (by rw [hml]; rfl) (argsL := [(.int n), (.int (F5 (0 : Int32) cap))]) (rest := []) (lenOf pd_2 rfl) rfl (by show 2 * 0 + _ ≤ _; exact Nat.le_of_eq rfl) (hb hby at_150) (fun _ _ => ⟨rfl, hh1066, (by decide : 4 + 0 ≤ _), (by decide : 60 + 0 ≤ _)⟩)
          dsimp only [Pt.U, Pt.locs, Pt.cells, Pt.slots] at X1068 l1068 y1068 z1068 sr1068 hQ1068
          subst l1068 y1068 z1068
          obtain ⟨rfl, N1068q, hh1068⟩ := hQ1068
          have N1068 := Fr.app N1066 N1068q
          obtain ⟨LL1068, X1068, N1068⟩ := own_hide X1068 N1068
          have st1069 : Steps p.tables e below sE (T1068.setTop (mkF m 153 #[.val (.int x0), .val (.int x1), .val (.int x2), .val (.int x3), .val (.int x4), .val (.int cap), .val (.int n), .val (.ref b6), .val (.ref b14), .val (.ref b25), .val (.ref b110), .unset, .unset, .unset, .unset, .unset] [(.int (F6 n (F5 (0 : Int32) cap)))])) := st1067.trans (sr1068 _ (Steps.refl _))
          have hs0 := own_nlti hc254 (z := 0) (by decide)
          have hm1 := own_nltr hc139 (z := 1) (by decide)
          have hm2 := own_nltr hc836 (z := 2) (by decide)
          have hm3 := own_nltr hc952 (z := 3) (by decide)
          have hk0 : (0 : Int32).toInt = 0 := by decide
          have hkp : (F6 n (F5 (0 : Int32) cap)) = (0 : Int32) := own_kp n cap (0 : Int32) (by omega)
          rw [hkp] at st1069
          have st1070 : Steps p.tables e below sE (T1068.setTop (mkF m 157 #[.val (.int x0), .val (.int x1), .val (.int x2), .val (.int x3), .val (.int x4), .val (.int cap), .val (.int n), .val (.ref b6), .val (.ref b14), .val (.ref b25), .val (.ref b110), .val (.int (0 : Int32)), .unset, .unset, .unset, .unset] [(.ref b110)])) := st1069.trans (by
              show Steps _ _ _ (T1068.setTop (mkF m 153 #[.val (.int x0), .val (.int x1), .val (.int x2), .val (.int x3), .val (.int x4), .val (.int cap), .val (.int n), .val (.ref b6), .val (.ref b14), .val (.ref b25), .val (.ref b110), .unset, .unset, .unset, .unset, .unset] [(.int (0 : Int32))])) _
              refine XS.istore X1068.here hx rfl (hb hby at_153) rfl (l' := #[.val (.int x0), .val (.int x1), .val (.int x2), .val (.int x3), .val (.int x4), .val (.int cap), .val (.int n), .val (.ref b6), .val (.ref b14), .val (.ref b25), .val (.ref b110), .val (.int (0 : Int32)), .unset, .unset, .unset, .unset]) rfl ?_
              show Steps _ _ _ (T1068.setTop (mkF m 155 #[.val (.int x0), .val (.int x1), .val (.int x2), .val (.int x3), .val (.int x4), .val (.int cap), .val (.int n), .val (.ref b6), .val (.ref b14), .val (.ref b25), .val (.ref b110), .val (.int (0 : Int32)), .unset, .unset, .unset, .unset] [])) _
              refine XS.aload X1068.here hx rfl (hb hby at_155) rfl rfl ?_
              exact Steps.refl _)
          obtain ⟨cq1071, kq1071, q1071a, q1071b, q1071c⟩ := isOf hZ hh1068 f125_0
          obtain ⟨_, _, ⟨T1071, L1071, k1071, n1071⟩, -, X1071, ⟨Lc1071, hQ1071, l1071, y1071, z1071⟩, sr1071⟩ := X1068.virtualBack hx (y := (⟨"com/example/tideloop/tideloop/MessagePool", "take", "()Lcom/example/tideloop/tideloop/Message;"⟩ : MethodName)) (z := (⟨"com/example/tideloop/tideloop/MessagePool", "take", "()Lcom/example/tideloop/tideloop/Message;"⟩ : MethodName)) hown (mvT hZ (hw _ (List.mem_of_getElem? (i := 36) rfl))) (mvT hZ (hw _ (List.mem_of_getElem? (i := 37) rfl))) (notFace_of_selects (args := #[]) (mvT hZ (hw _ (List.mem_of_getElem? (i := 39) rfl)))) (mvT hZ (hw _ (List.mem_of_getElem? (i := 39) rfl))) (mvT hZ (hw _ (List.mem_of_getElem? (i := 38) rfl))) (by decide) (backOf (W := 0) (rmtk0 l Z a0 hw [] b110  T125.heap n0 Z136 f125_0 f125_3) hZ (hw _ (List.mem_of_getElem? (i := 40) rfl)) (hw _ (List.mem_of_getElem? (i := 15) rfl)) (by decide) (by decide)) q1071a q1071c (g := (mkF m 157 #[.val (.int x0), .val (.int x1), .val (.int x2), .val (.int x3), .val (.int x4), .val (.int cap), .val (.int n), .val (.ref b6), .val (.ref b14), .val (.ref b25), .val (.ref b110), .val (.int (0 : Int32)), .unset, .unset, .unset, .unset] [(.ref b110)])) rfl (by rw [hml]; rfl) (Steps.refl _) (argsL := []) (rest := []) (lenOf pd_3 rfl) rfl (by show 2 * 0 + _ ≤ _; exact Nat.le_of_eq rfl) (hb hby at_157) (fun _ _ => ⟨rfl, hh1068, (by decide : 4 + 1 ≤ _), (by decide : 60 + 19 ≤ _)⟩)
          dsimp only [Pt.U, Pt.locs, Pt.cells, Pt.slots] at X1071 l1071 y1071 z1071 sr1071 hQ1071
          subst l1071 y1071 z1071
          obtain ⟨rfl, N1071q, K1071c, ⟨qe1071, qn1071, qw1071⟩⟩ := hQ1071
          have N1071 := Fr.app N1068 N1071q
          obtain ⟨LL1071, X1071, N1071⟩ := own_hide X1071 N1071
          have f1072 : Exa Z T1071.heap b6 "com/example/tideloop/tideloop/Message" := f126.keep K1071c
          have f1073 : Exa Z T1071.heap b14 "com/example/tideloop/tideloop/Message" := f127.keep K1071c
          have f1074 : Exa Z T1071.heap b25 "com/example/tideloop/tideloop/Message" := f128.keep K1071c
          have f1075 : Fld Z T1071.heap b6 "com/example/tideloop/tideloop/Message" "what" "I" (.int x2) := f129.keep K1071c nin0
          have f1076 : Fld Z T1071.heap b14 "com/example/tideloop/tideloop/Message" "what" "I" (.int x3) := f130.keep K1071c nin0
          have f1077 : Fld Z T1071.heap b25 "com/example/tideloop/tideloop/Message" "what" "I" (.int x4) := f131.keep K1071c nin0
          have f1078 : Fld Z T1071.heap b6 "com/example/tideloop/tideloop/Message" "nextPooled" "Lcom/example/tideloop/tideloop/Message;" (.ref b25) := f132.keep K1071c nin0
          have f1079 : Fld Z T1071.heap b14 "com/example/tideloop/tideloop/Message" "nextPooled" "Lcom/example/tideloop/tideloop/Message;" (.ref b6) := f133.keep K1071c nin0
          have f1080 : Fld Z T1071.heap b25 "com/example/tideloop/tideloop/Message" "nextPooled" "Lcom/example/tideloop/tideloop/Message;" (.ref b14) := f134.keep K1071c nin0
          have f1081 : Exa Z T1071.heap b110 "com/example/tideloop/tideloop/MessagePool" := f125_0.keep K1071c
          have f1082 : Fld Z T1071.heap b110 "com/example/tideloop/tideloop/MessagePool" "capacity" "I" (.int cap) := f125_1.keep K1071c nin0
          have f1083 : Fld Z T1071.heap b110 "com/example/tideloop/tideloop/MessagePool" "size" "I" (.int (0 : Int32)) := f125_2.keep K1071c nin0
          have f1084 : Fld Z T1071.heap b110 "com/example/tideloop/tideloop/MessagePool" "head" "Lcom/example/tideloop/tideloop/Message;" .null := f125_3.keep K1071c nin0
          have Z1085 : n0 ≤ T1071.heap.size := Nat.le_trans Z136 K1071c.1
          obtain ⟨bt1071, g1071⟩ : ∃ z, z = T125.heap.size := ⟨_, rfl⟩
          rw [← g1071] at qe1071 qn1071 qw1071 sr1071
          have g_bt1071 : n0 ≤ bt1071 := Nat.le_trans Z136 (Nat.le_of_eq g1071.symm)
          have ne_b6_bt1071 : b6 ≠ bt1071 := Nat.ne_of_lt (Nat.lt_of_lt_of_le f126.lt (Nat.le_of_eq g1071.symm))
          have ne_b14_bt1071 : b14 ≠ bt1071 := Nat.ne_of_lt (Nat.lt_of_lt_of_le f127.lt (Nat.le_of_eq g1071.symm))
          have ne_b25_bt1071 : b25 ≠ bt1071 := Nat.ne_of_lt (Nat.lt_of_lt_of_le f128.lt (Nat.le_of_eq g1071.symm))
          have ne_b110_bt1071 : b110 ≠ bt1071 := Nat.ne_of_lt (Nat.lt_of_lt_of_le f125_0.lt (Nat.le_of_eq g1071.symm))
          have st1086 : Steps p.tables e below sE (T1071.setTop (mkF m 160 #[.val (.int x0), .val (.int x1), .val (.int x2), .val (.int x3), .val (.int x4), .val (.int cap), .val (.int n), .val (.ref b6), .val (.ref b14), .val (.ref b25), .val (.ref b110), .val (.int (0 : Int32)), .unset, .unset, .unset, .unset] [(.ref bt1071)])) := st1070.trans (sr1071)
          have st1087 : Steps p.tables e below sE (T1071.setTop (mkF m 164 #[.val (.int x0), .val (.int x1), .val (.int x2), .val (.int x3), .val (.int x4), .val (.int cap), .val (.int n), .val (.ref b6), .val (.ref b14), .val (.ref b25), .val (.ref b110), .val (.int (0 : Int32)), .val (.ref bt1071), .unset, .unset, .unset] [(.ref b110)])) := st1086.trans (by
              show Steps _ _ _ (T1071.setTop (mkF m 160 #[.val (.int x0), .val (.int x1), .val (.int x2), .val (.int x3), .val (.int x4), .val (.int cap), .val (.int n), .val (.ref b6), .val (.ref b14), .val (.ref b25), .val (.ref b110), .val (.int (0 : Int32)), .unset, .unset, .unset, .unset] [(.ref bt1071)])) _
              refine XS.astore X1071.here hx rfl (hb hby at_160) rfl rfl (l' := #[.val (.int x0), .val (.int x1), .val (.int x2), .val (.int x3), .val (.int x4), .val (.int cap), .val (.int n), .val (.ref b6), .val (.ref b14), .val (.ref b25), .val (.ref b110), .val (.int (0 : Int32)), .val (.ref bt1071), .unset, .unset, .unset]) rfl ?_
              show Steps _ _ _ (T1071.setTop (mkF m 162 #[.val (.int x0), .val (.int x1), .val (.int x2), .val (.int x3), .val (.int x4), .val (.int cap), .val (.int n), .val (.ref b6), .val (.ref b14), .val (.ref b25), .val (.ref b110), .val (.int (0 : Int32)), .val (.ref bt1071), .unset, .unset, .unset] [])) _
              refine XS.aload X1071.here hx rfl (hb hby at_162) rfl rfl ?_
              exact Steps.refl _)
          obtain ⟨cq1088, kq1088, q1088a, q1088b, q1088c⟩ := isOf hZ rfl f1081
          obtain ⟨_, _, ⟨T1088, L1088, k1088, n1088⟩, -, X1088, ⟨Lc1088, hQ1088, l1088, y1088, z1088⟩, sr1088⟩ := X1071.virtualBack hx (y := (⟨"com/example/tideloop/tideloop/MessagePool", "take", "()Lcom/example/tideloop/tideloop/Message;"⟩ : MethodName)) (z := (⟨"com/example/tideloop/tideloop/MessagePool", "take", "()Lcom/example/tideloop/tideloop/Message;"⟩ : MethodName)) hown (mvT hZ (hw _ (List.mem_of_getElem? (i := 36) rfl))) (mvT hZ (hw _ (List.mem_of_getElem? (i := 37) rfl))) (notFace_of_selects (args := #[]) (mvT hZ (hw _ (List.mem_of_getElem? (i := 39) rfl)))) (mvT hZ (hw _ (List.mem_of_getElem? (i := 39) rfl))) (mvT hZ (hw _ (List.mem_of_getElem? (i := 38) rfl))) (by decide) (backOf (W := 0) (rmtk0 l Z a0 hw [] b110  T1071.heap n0 Z1085 f1081 f1084) hZ (hw _ (List.mem_of_getElem? (i := 40) rfl)) (hw _ (List.mem_of_getElem? (i := 15) rfl)) (by decide) (by decide)) q1088a q1088c (g := (mkF m 164 #[.val (.int x0), .val (.int x1), .val (.int x2), .val (.int x3), .val (.int x4), .val (.int cap), .val (.int n), .val (.ref b6), .val (.ref b14), .val (.ref b25), .val (.ref b110), .val (.int (0 : Int32)), .val (.ref bt1071), .unset, .unset, .unset] [(.ref b110)])) rfl (by rw [hml]; rfl) (Steps.refl _) (argsL := []) (rest := []) (lenOf pd_3 rfl) rfl (by show 2 * 0 + _ ≤ _; exact Nat.le_of_eq rfl) (hb hby at_164) (fun _ _ => ⟨rfl, rfl, (by decide : 5 + 1 ≤ _), (by decide : 79 + 19 ≤ _)⟩)
          dsimp only [Pt.U, Pt.locs, Pt.cells, Pt.slots] at X1088 l1088 y1088 z1088 sr1088 hQ1088
          subst l1088 y1088 z1088
          obtain ⟨rfl, N1088q, K1088c, ⟨qe1088, qn1088, qw1088⟩⟩ := hQ1088
          have N1088 := Fr.app N1071 N1088q
          obtain ⟨LL1088, X1088, N1088⟩ := own_hide X1088 N1088
          have f1089 : Exa Z T1088.heap b6 "com/example/tideloop/tideloop/Message" := f1072.keep K1088c
          have f1090 : Exa Z T1088.heap b14 "com/example/tideloop/tideloop/Message" := f1073.keep K1088c
          have f1091 : Exa Z T1088.heap b25 "com/example/tideloop/tideloop/Message" := f1074.keep K1088c
          have f1092 : Fld Z T1088.heap b6 "com/example/tideloop/tideloop/Message" "what" "I" (.int x2) := f1075.keep K1088c nin0
          have f1093 : Fld Z T1088.heap b14 "com/example/tideloop/tideloop/Message" "what" "I" (.int x3) := f1076.keep K1088c nin0
          have f1094 : Fld Z T1088.heap b25 "com/example/tideloop/tideloop/Message" "what" "I" (.int x4) := f1077.keep K1088c nin0
          have f1095 : Fld Z T1088.heap b6 "com/example/tideloop/tideloop/Message" "nextPooled" "Lcom/example/tideloop/tideloop/Message;" (.ref b25) := f1078.keep K1088c nin0
          have f1096 : Fld Z T1088.heap b14 "com/example/tideloop/tideloop/Message" "nextPooled" "Lcom/example/tideloop/tideloop/Message;" (.ref b6) := f1079.keep K1088c nin0
          have f1097 : Fld Z T1088.heap b25 "com/example/tideloop/tideloop/Message" "nextPooled" "Lcom/example/tideloop/tideloop/Message;" (.ref b14) := f1080.keep K1088c nin0
          have f1098 : Exa Z T1088.heap b110 "com/example/tideloop/tideloop/MessagePool" := f1081.keep K1088c
          have f1099 : Fld Z T1088.heap b110 "com/example/tideloop/tideloop/MessagePool" "capacity" "I" (.int cap) := f1082.keep K1088c nin0
          have f1100 : Fld Z T1088.heap b110 "com/example/tideloop/tideloop/MessagePool" "size" "I" (.int (0 : Int32)) := f1083.keep K1088c nin0
          have f1101 : Fld Z T1088.heap b110 "com/example/tideloop/tideloop/MessagePool" "head" "Lcom/example/tideloop/tideloop/Message;" .null := f1084.keep K1088c nin0
          have f1102 : Exa Z T1088.heap bt1071 "com/example/tideloop/tideloop/Message" := qe1071.keep K1088c
          have f1103 : Fld Z T1088.heap bt1071 "com/example/tideloop/tideloop/Message" "nextPooled" "Lcom/example/tideloop/tideloop/Message;" .null := qn1071.keep K1088c nin0
          have f1104 : Fld Z T1088.heap bt1071 "com/example/tideloop/tideloop/Message" "what" "I" (.int (0 : Int32)) := qw1071.keep K1088c nin0
          have Z1105 : n0 ≤ T1088.heap.size := Nat.le_trans Z1085 K1088c.1
          obtain ⟨bt1088, g1088⟩ : ∃ z, z = T1071.heap.size := ⟨_, rfl⟩
          rw [← g1088] at qe1088 qn1088 qw1088 sr1088
          have g_bt1088 : n0 ≤ bt1088 := Nat.le_trans Z1085 (Nat.le_of_eq g1088.symm)
          have ne_b6_bt1088 : b6 ≠ bt1088 := Nat.ne_of_lt (Nat.lt_of_lt_of_le f1072.lt (Nat.le_of_eq g1088.symm))
          have ne_b14_bt1088 : b14 ≠ bt1088 := Nat.ne_of_lt (Nat.lt_of_lt_of_le f1073.lt (Nat.le_of_eq g1088.symm))
          have ne_b25_bt1088 : b25 ≠ bt1088 := Nat.ne_of_lt (Nat.lt_of_lt_of_le f1074.lt (Nat.le_of_eq g1088.symm))
          have ne_b110_bt1088 : b110 ≠ bt1088 := Nat.ne_of_lt (Nat.lt_of_lt_of_le f1081.lt (Nat.le_of_eq g1088.symm))
          have ne_bt1071_bt1088 : bt1071 ≠ bt1088 := Nat.ne_of_lt (Nat.lt_of_lt_of_le qe1071.lt (Nat.le_of_eq g1088.symm))
          have st1106 : Steps p.tables e below sE (T1088.setTop (mkF m 167 #[.val (.int x0), .val (.int x1), .val (.int x2), .val (.int x3), .val (.int x4), .val (.int cap), .val (.int n), .val (.ref b6), .val (.ref b14), .val (.ref b25), .val (.ref b110), .val (.int (0 : Int32)), .val (.ref bt1071), .unset, .unset, .unset] [(.ref bt1088)])) := st1087.trans (sr1088)
          have st1107 : Steps p.tables e below sE (T1088.setTop (mkF m 171 #[.val (.int x0), .val (.int x1), .val (.int x2), .val (.int x3), .val (.int x4), .val (.int cap), .val (.int n), .val (.ref b6), .val (.ref b14), .val (.ref b25), .val (.ref b110), .val (.int (0 : Int32)), .val (.ref bt1071), .val (.ref bt1088), .unset, .unset] [(.ref b110)])) := st1106.trans (by
              show Steps _ _ _ (T1088.setTop (mkF m 167 #[.val (.int x0), .val (.int x1), .val (.int x2), .val (.int x3), .val (.int x4), .val (.int cap), .val (.int n), .val (.ref b6), .val (.ref b14), .val (.ref b25), .val (.ref b110), .val (.int (0 : Int32)), .val (.ref bt1071), .unset, .unset, .unset] [(.ref bt1088)])) _
              refine XS.astore X1088.here hx rfl (hb hby at_167) rfl rfl (l' := #[.val (.int x0), .val (.int x1), .val (.int x2), .val (.int x3), .val (.int x4), .val (.int cap), .val (.int n), .val (.ref b6), .val (.ref b14), .val (.ref b25), .val (.ref b110), .val (.int (0 : Int32)), .val (.ref bt1071), .val (.ref bt1088), .unset, .unset]) rfl ?_
              show Steps _ _ _ (T1088.setTop (mkF m 169 #[.val (.int x0), .val (.int x1), .val (.int x2), .val (.int x3), .val (.int x4), .val (.int cap), .val (.int n), .val (.ref b6), .val (.ref b14), .val (.ref b25), .val (.ref b110), .val (.int (0 : Int32)), .val (.ref bt1071), .val (.ref bt1088), .unset, .unset] [])) _
              refine XS.aload X1088.here hx rfl (hb hby at_169) rfl rfl ?_
              exact Steps.refl _)
          obtain ⟨cq1108, kq1108, q1108a, q1108b, q1108c⟩ := isOf hZ rfl f1098
          obtain ⟨_, _, ⟨T1108, L1108, k1108, n1108⟩, -, X1108, ⟨Lc1108, hQ1108, l1108, y1108, z1108⟩, sr1108⟩ := X1088.virtualBack hx (y := (⟨"com/example/tideloop/tideloop/MessagePool", "take", "()Lcom/example/tideloop/tideloop/Message;"⟩ : MethodName)) (z := (⟨"com/example/tideloop/tideloop/MessagePool", "take", "()Lcom/example/tideloop/tideloop/Message;"⟩ : MethodName)) hown (mvT hZ (hw _ (List.mem_of_getElem? (i := 36) rfl))) (mvT hZ (hw _ (List.mem_of_getElem? (i := 37) rfl))) (notFace_of_selects (args := #[]) (mvT hZ (hw _ (List.mem_of_getElem? (i := 39) rfl)))) (mvT hZ (hw _ (List.mem_of_getElem? (i := 39) rfl))) (mvT hZ (hw _ (List.mem_of_getElem? (i := 38) rfl))) (by decide) (backOf (W := 0) (rmtk0 l Z a0 hw [] b110  T1088.heap n0 Z1105 f1098 f1101) hZ (hw _ (List.mem_of_getElem? (i := 40) rfl)) (hw _ (List.mem_of_getElem? (i := 15) rfl)) (by decide) (by decide)) q1108a q1108c (g := (mkF m 171 #[.val (.int x0), .val (.int x1), .val (.int x2), .val (.int x3), .val (.int x4), .val (.int cap), .val (.int n), .val (.ref b6), .val (.ref b14), .val (.ref b25), .val (.ref b110), .val (.int (0 : Int32)), .val (.ref bt1071), .val (.ref bt1088), .unset, .unset] [(.ref b110)])) rfl (by rw [hml]; rfl) (Steps.refl _) (argsL := []) (rest := []) (lenOf pd_3 rfl) rfl (by show 2 * 0 + _ ≤ _; exact Nat.le_of_eq rfl) (hb hby at_171) (fun _ _ => ⟨rfl, rfl, (by decide : 6 + 1 ≤ _), (by decide : 98 + 19 ≤ _)⟩)
          dsimp only [Pt.U, Pt.locs, Pt.cells, Pt.slots] at X1108 l1108 y1108 z1108 sr1108 hQ1108
          subst l1108 y1108 z1108
          obtain ⟨rfl, N1108q, K1108c, ⟨qe1108, qn1108, qw1108⟩⟩ := hQ1108
          have N1108 := Fr.app N1088 N1108q
          obtain ⟨LL1108, X1108, N1108⟩ := own_hide X1108 N1108
          have f1109 : Exa Z T1108.heap b6 "com/example/tideloop/tideloop/Message" := f1089.keep K1108c
          have f1110 : Exa Z T1108.heap b14 "com/example/tideloop/tideloop/Message" := f1090.keep K1108c
          have f1111 : Exa Z T1108.heap b25 "com/example/tideloop/tideloop/Message" := f1091.keep K1108c
          have f1112 : Fld Z T1108.heap b6 "com/example/tideloop/tideloop/Message" "what" "I" (.int x2) := f1092.keep K1108c nin0
          have f1113 : Fld Z T1108.heap b14 "com/example/tideloop/tideloop/Message" "what" "I" (.int x3) := f1093.keep K1108c nin0
          have f1114 : Fld Z T1108.heap b25 "com/example/tideloop/tideloop/Message" "what" "I" (.int x4) := f1094.keep K1108c nin0
          have f1115 : Fld Z T1108.heap b6 "com/example/tideloop/tideloop/Message" "nextPooled" "Lcom/example/tideloop/tideloop/Message;" (.ref b25) := f1095.keep K1108c nin0
          have f1116 : Fld Z T1108.heap b14 "com/example/tideloop/tideloop/Message" "nextPooled" "Lcom/example/tideloop/tideloop/Message;" (.ref b6) := f1096.keep K1108c nin0
          have f1117 : Fld Z T1108.heap b25 "com/example/tideloop/tideloop/Message" "nextPooled" "Lcom/example/tideloop/tideloop/Message;" (.ref b14) := f1097.keep K1108c nin0
          have f1118 : Exa Z T1108.heap b110 "com/example/tideloop/tideloop/MessagePool" := f1098.keep K1108c
          have f1119 : Fld Z T1108.heap b110 "com/example/tideloop/tideloop/MessagePool" "capacity" "I" (.int cap) := f1099.keep K1108c nin0
          have f1120 : Fld Z T1108.heap b110 "com/example/tideloop/tideloop/MessagePool" "size" "I" (.int (0 : Int32)) := f1100.keep K1108c nin0
          have f1121 : Fld Z T1108.heap b110 "com/example/tideloop/tideloop/MessagePool" "head" "Lcom/example/tideloop/tideloop/Message;" .null := f1101.keep K1108c nin0
          have f1122 : Exa Z T1108.heap bt1071 "com/example/tideloop/tideloop/Message" := f1102.keep K1108c
          have f1123 : Fld Z T1108.heap bt1071 "com/example/tideloop/tideloop/Message" "nextPooled" "Lcom/example/tideloop/tideloop/Message;" .null := f1103.keep K1108c nin0
          have f1124 : Fld Z T1108.heap bt1071 "com/example/tideloop/tideloop/Message" "what" "I" (.int (0 : Int32)) := f1104.keep K1108c nin0
          have f1125 : Exa Z T1108.heap bt1088 "com/example/tideloop/tideloop/Message" := qe1088.keep K1108c
          have f1126 : Fld Z T1108.heap bt1088 "com/example/tideloop/tideloop/Message" "nextPooled" "Lcom/example/tideloop/tideloop/Message;" .null := qn1088.keep K1108c nin0
          have f1127 : Fld Z T1108.heap bt1088 "com/example/tideloop/tideloop/Message" "what" "I" (.int (0 : Int32)) := qw1088.keep K1108c nin0
          have Z1128 : n0 ≤ T1108.heap.size := Nat.le_trans Z1105 K1108c.1
          obtain ⟨bt1108, g1108⟩ : ∃ z, z = T1088.heap.size := ⟨_, rfl⟩
          rw [← g1108] at qe1108 qn1108 qw1108 sr1108
          have g_bt1108 : n0 ≤ bt1108 := Nat.le_trans Z1105 (Nat.le_of_eq g1108.symm)
          have ne_b6_bt1108 : b6 ≠ bt1108 := Nat.ne_of_lt (Nat.lt_of_lt_of_le f1089.lt (Nat.le_of_eq g1108.symm))
          have ne_b14_bt1108 : b14 ≠ bt1108 := Nat.ne_of_lt (Nat.lt_of_lt_of_le f1090.lt (Nat.le_of_eq g1108.symm))
          have ne_b25_bt1108 : b25 ≠ bt1108 := Nat.ne_of_lt (Nat.lt_of_lt_of_le f1091.lt (Nat.le_of_eq g1108.symm))
          have ne_b110_bt1108 : b110 ≠ bt1108 := Nat.ne_of_lt (Nat.lt_of_lt_of_le f1098.lt (Nat.le_of_eq g1108.symm))
          have ne_bt1071_bt1108 : bt1071 ≠ bt1108 := Nat.ne_of_lt (Nat.lt_of_lt_of_le f1102.lt (Nat.le_of_eq g1108.symm))
          have ne_bt1088_bt1108 : bt1088 ≠ bt1108 := Nat.ne_of_lt (Nat.lt_of_lt_of_le qe1088.lt (Nat.le_of_eq g1108.symm))
          have st1129 : Steps p.tables e below sE (T1108.setTop (mkF m 174 #[.val (.int x0), .val (.int x1), .val (.int x2), .val (.int x3), .val (.int x4), .val (.int cap), .val (.int n), .val (.ref b6), .val (.ref b14), .val (.ref b25), .val (.ref b110), .val (.int (0 : Int32)), .val (.ref bt1071), .val (.ref bt1088), .unset, .unset] [(.ref bt1108)])) := st1107.trans (sr1108)
          have st1130 : Steps p.tables e below sE (T1108.setTop (mkF m 178 #[.val (.int x0), .val (.int x1), .val (.int x2), .val (.int x3), .val (.int x4), .val (.int cap), .val (.int n), .val (.ref b6), .val (.ref b14), .val (.ref b25), .val (.ref b110), .val (.int (0 : Int32)), .val (.ref bt1071), .val (.ref bt1088), .val (.ref bt1108), .unset] [(.ref b110)])) := st1129.trans (by
              show Steps _ _ _ (T1108.setTop (mkF m 174 #[.val (.int x0), .val (.int x1), .val (.int x2), .val (.int x3), .val (.int x4), .val (.int cap), .val (.int n), .val (.ref b6), .val (.ref b14), .val (.ref b25), .val (.ref b110), .val (.int (0 : Int32)), .val (.ref bt1071), .val (.ref bt1088), .unset, .unset] [(.ref bt1108)])) _
              refine XS.astore X1108.here hx rfl (hb hby at_174) rfl rfl (l' := #[.val (.int x0), .val (.int x1), .val (.int x2), .val (.int x3), .val (.int x4), .val (.int cap), .val (.int n), .val (.ref b6), .val (.ref b14), .val (.ref b25), .val (.ref b110), .val (.int (0 : Int32)), .val (.ref bt1071), .val (.ref bt1088), .val (.ref bt1108), .unset]) rfl ?_
              show Steps _ _ _ (T1108.setTop (mkF m 176 #[.val (.int x0), .val (.int x1), .val (.int x2), .val (.int x3), .val (.int x4), .val (.int cap), .val (.int n), .val (.ref b6), .val (.ref b14), .val (.ref b25), .val (.ref b110), .val (.int (0 : Int32)), .val (.ref bt1071), .val (.ref bt1088), .val (.ref bt1108), .unset] [])) _
              refine XS.aload X1108.here hx rfl (hb hby at_176) rfl rfl ?_
              exact Steps.refl _)
          obtain ⟨cq1131, kq1131, q1131a, q1131b, q1131c⟩ := isOf hZ rfl f1118
          obtain ⟨_, _, ⟨T1131, L1131, k1131, n1131⟩, -, X1131, ⟨Lc1131, hQ1131, l1131, y1131, z1131⟩, sr1131⟩ := X1108.virtualBack hx (y := (⟨"com/example/tideloop/tideloop/MessagePool", "take", "()Lcom/example/tideloop/tideloop/Message;"⟩ : MethodName)) (z := (⟨"com/example/tideloop/tideloop/MessagePool", "take", "()Lcom/example/tideloop/tideloop/Message;"⟩ : MethodName)) hown (mvT hZ (hw _ (List.mem_of_getElem? (i := 36) rfl))) (mvT hZ (hw _ (List.mem_of_getElem? (i := 37) rfl))) (notFace_of_selects (args := #[]) (mvT hZ (hw _ (List.mem_of_getElem? (i := 39) rfl)))) (mvT hZ (hw _ (List.mem_of_getElem? (i := 39) rfl))) (mvT hZ (hw _ (List.mem_of_getElem? (i := 38) rfl))) (by decide) (backOf (W := 0) (rmtk0 l Z a0 hw [] b110  T1108.heap n0 Z1128 f1118 f1121) hZ (hw _ (List.mem_of_getElem? (i := 40) rfl)) (hw _ (List.mem_of_getElem? (i := 15) rfl)) (by decide) (by decide)) q1131a q1131c (g := (mkF m 178 #[.val (.int x0), .val (.int x1), .val (.int x2), .val (.int x3), .val (.int x4), .val (.int cap), .val (.int n), .val (.ref b6), .val (.ref b14), .val (.ref b25), .val (.ref b110), .val (.int (0 : Int32)), .val (.ref bt1071), .val (.ref bt1088), .val (.ref bt1108), .unset] [(.ref b110)])) rfl (by rw [hml]; rfl) (Steps.refl _) (argsL := []) (rest := []) (lenOf pd_3 rfl) rfl (by show 2 * 0 + _ ≤ _; exact Nat.le_of_eq rfl) (hb hby at_178) (fun _ _ => ⟨rfl, rfl, (by decide : 7 + 1 ≤ _), (by decide : 117 + 19 ≤ _)⟩)
          dsimp only [Pt.U, Pt.locs, Pt.cells, Pt.slots] at X1131 l1131 y1131 z1131 sr1131 hQ1131
          subst l1131 y1131 z1131
          obtain ⟨rfl, N1131q, K1131c, ⟨qe1131, qn1131, qw1131⟩⟩ := hQ1131
          have N1131 := Fr.app N1108 N1131q
          obtain ⟨LL1131, X1131, N1131⟩ := own_hide X1131 N1131
          have f1132 : Exa Z T1131.heap b6 "com/example/tideloop/tideloop/Message" := f1109.keep K1131c
          have f1133 : Exa Z T1131.heap b14 "com/example/tideloop/tideloop/Message" := f1110.keep K1131c
          have f1134 : Exa Z T1131.heap b25 "com/example/tideloop/tideloop/Message" := f1111.keep K1131c
          have f1135 : Fld Z T1131.heap b6 "com/example/tideloop/tideloop/Message" "what" "I" (.int x2) := f1112.keep K1131c nin0
          have f1136 : Fld Z T1131.heap b14 "com/example/tideloop/tideloop/Message" "what" "I" (.int x3) := f1113.keep K1131c nin0
          have f1137 : Fld Z T1131.heap b25 "com/example/tideloop/tideloop/Message" "what" "I" (.int x4) := f1114.keep K1131c nin0
          have f1138 : Fld Z T1131.heap b6 "com/example/tideloop/tideloop/Message" "nextPooled" "Lcom/example/tideloop/tideloop/Message;" (.ref b25) := f1115.keep K1131c nin0
          have f1139 : Fld Z T1131.heap b14 "com/example/tideloop/tideloop/Message" "nextPooled" "Lcom/example/tideloop/tideloop/Message;" (.ref b6) := f1116.keep K1131c nin0
          have f1140 : Fld Z T1131.heap b25 "com/example/tideloop/tideloop/Message" "nextPooled" "Lcom/example/tideloop/tideloop/Message;" (.ref b14) := f1117.keep K1131c nin0
          have f1141 : Exa Z T1131.heap b110 "com/example/tideloop/tideloop/MessagePool" := f1118.keep K1131c
          have f1142 : Fld Z T1131.heap b110 "com/example/tideloop/tideloop/MessagePool" "capacity" "I" (.int cap) := f1119.keep K1131c nin0
          have f1143 : Fld Z T1131.heap b110 "com/example/tideloop/tideloop/MessagePool" "size" "I" (.int (0 : Int32)) := f1120.keep K1131c nin0
          have f1144 : Fld Z T1131.heap b110 "com/example/tideloop/tideloop/MessagePool" "head" "Lcom/example/tideloop/tideloop/Message;" .null := f1121.keep K1131c nin0
          have f1145 : Exa Z T1131.heap bt1071 "com/example/tideloop/tideloop/Message" := f1122.keep K1131c
          have f1146 : Fld Z T1131.heap bt1071 "com/example/tideloop/tideloop/Message" "nextPooled" "Lcom/example/tideloop/tideloop/Message;" .null := f1123.keep K1131c nin0
          have f1147 : Fld Z T1131.heap bt1071 "com/example/tideloop/tideloop/Message" "what" "I" (.int (0 : Int32)) := f1124.keep K1131c nin0
          have f1148 : Exa Z T1131.heap bt1088 "com/example/tideloop/tideloop/Message" := f1125.keep K1131c
          have f1149 : Fld Z T1131.heap bt1088 "com/example/tideloop/tideloop/Message" "nextPooled" "Lcom/example/tideloop/tideloop/Message;" .null := f1126.keep K1131c nin0
          have f1150 : Fld Z T1131.heap bt1088 "com/example/tideloop/tideloop/Message" "what" "I" (.int (0 : Int32)) := f1127.keep K1131c nin0
          have f1151 : Exa Z T1131.heap bt1108 "com/example/tideloop/tideloop/Message" := qe1108.keep K1131c
          have f1152 : Fld Z T1131.heap bt1108 "com/example/tideloop/tideloop/Message" "nextPooled" "Lcom/example/tideloop/tideloop/Message;" .null := qn1108.keep K1131c nin0
          have f1153 : Fld Z T1131.heap bt1108 "com/example/tideloop/tideloop/Message" "what" "I" (.int (0 : Int32)) := qw1108.keep K1131c nin0
          have Z1154 : n0 ≤ T1131.heap.size := Nat.le_trans Z1128 K1131c.1
          obtain ⟨bt1131, g1131⟩ : ∃ z, z = T1108.heap.size := ⟨_, rfl⟩
          rw [← g1131] at qe1131 qn1131 qw1131 sr1131
          have g_bt1131 : n0 ≤ bt1131 := Nat.le_trans Z1128 (Nat.le_of_eq g1131.symm)
          have ne_b6_bt1131 : b6 ≠ bt1131 := Nat.ne_of_lt (Nat.lt_of_lt_of_le f1109.lt (Nat.le_of_eq g1131.symm))
          have ne_b14_bt1131 : b14 ≠ bt1131 := Nat.ne_of_lt (Nat.lt_of_lt_of_le f1110.lt (Nat.le_of_eq g1131.symm))
          have ne_b25_bt1131 : b25 ≠ bt1131 := Nat.ne_of_lt (Nat.lt_of_lt_of_le f1111.lt (Nat.le_of_eq g1131.symm))
          have ne_b110_bt1131 : b110 ≠ bt1131 := Nat.ne_of_lt (Nat.lt_of_lt_of_le f1118.lt (Nat.le_of_eq g1131.symm))
          have ne_bt1071_bt1131 : bt1071 ≠ bt1131 := Nat.ne_of_lt (Nat.lt_of_lt_of_le f1122.lt (Nat.le_of_eq g1131.symm))
          have ne_bt1088_bt1131 : bt1088 ≠ bt1131 := Nat.ne_of_lt (Nat.lt_of_lt_of_le f1125.lt (Nat.le_of_eq g1131.symm))
          have ne_bt1108_bt1131 : bt1108 ≠ bt1131 := Nat.ne_of_lt (Nat.lt_of_lt_of_le qe1108.lt (Nat.le_of_eq g1131.symm))
          have st1155 : Steps p.tables e below sE (T1131.setTop (mkF m 181 #[.val (.int x0), .val (.int x1), .val (.int x2), .val (.int x3), .val (.int x4), .val (.int cap), .val (.int n), .val (.ref b6), .val (.ref b14), .val (.ref b25), .val (.ref b110), .val (.int (0 : Int32)), .val (.ref bt1071), .val (.ref bt1088), .val (.ref bt1108), .unset] [(.ref bt1131)])) := st1130.trans (sr1131)
          have st1156 : Steps p.tables e below sE (T1131.setTop (mkF m 198 #[.val (.int x0), .val (.int x1), .val (.int x2), .val (.int x3), .val (.int x4), .val (.int cap), .val (.int n), .val (.ref b6), .val (.ref b14), .val (.ref b25), .val (.ref b110), .val (.int (0 : Int32)), .val (.ref bt1071), .val (.ref bt1088), .val (.ref bt1108), .val (.ref bt1131)] [(.int x4), (.int x3), (.int x2), (.ref b25), (.ref b14), (.ref b6), (.int (0 : Int32)), (.int (1 : Int32)), (.ref bt1071)])) := st1155.trans (by
              show Steps _ _ _ (T1131.setTop (mkF m 181 #[.val (.int x0), .val (.int x1), .val (.int x2), .val (.int x3), .val (.int x4), .val (.int cap), .val (.int n), .val (.ref b6), .val (.ref b14), .val (.ref b25), .val (.ref b110), .val (.int (0 : Int32)), .val (.ref bt1071), .val (.ref bt1088), .val (.ref bt1108), .unset] [(.ref bt1131)])) _
              refine XS.astore X1131.here hx rfl (hb hby at_181) rfl rfl (l' := #[.val (.int x0), .val (.int x1), .val (.int x2), .val (.int x3), .val (.int x4), .val (.int cap), .val (.int n), .val (.ref b6), .val (.ref b14), .val (.ref b25), .val (.ref b110), .val (.int (0 : Int32)), .val (.ref bt1071), .val (.ref bt1088), .val (.ref bt1108), .val (.ref bt1131)]) rfl ?_
              show Steps _ _ _ (T1131.setTop (mkF m 183 #[.val (.int x0), .val (.int x1), .val (.int x2), .val (.int x3), .val (.int x4), .val (.int cap), .val (.int n), .val (.ref b6), .val (.ref b14), .val (.ref b25), .val (.ref b110), .val (.int (0 : Int32)), .val (.ref bt1071), .val (.ref bt1088), .val (.ref bt1108), .val (.ref bt1131)] [])) _
              refine XS.aload X1131.here hx rfl (hb hby at_183) rfl rfl ?_
              show Steps _ _ _ (T1131.setTop (mkF m 185 #[.val (.int x0), .val (.int x1), .val (.int x2), .val (.int x3), .val (.int x4), .val (.int cap), .val (.int n), .val (.ref b6), .val (.ref b14), .val (.ref b25), .val (.ref b110), .val (.int (0 : Int32)), .val (.ref bt1071), .val (.ref bt1088), .val (.ref bt1108), .val (.ref bt1131)] [(.ref bt1071)])) _
              refine XS.iconst X1131.here hx rfl (hb hby at_185) ?_
              show Steps _ _ _ (T1131.setTop (mkF m 186 #[.val (.int x0), .val (.int x1), .val (.int x2), .val (.int x3), .val (.int x4), .val (.int cap), .val (.int n), .val (.ref b6), .val (.ref b14), .val (.ref b25), .val (.ref b110), .val (.int (0 : Int32)), .val (.ref bt1071), .val (.ref bt1088), .val (.ref bt1108), .val (.ref bt1131)] [(.int (1 : Int32)), (.ref bt1071)])) _
              refine XS.iload X1131.here hx rfl (hb hby at_186) rfl ?_
              show Steps _ _ _ (T1131.setTop (mkF m 188 #[.val (.int x0), .val (.int x1), .val (.int x2), .val (.int x3), .val (.int x4), .val (.int cap), .val (.int n), .val (.ref b6), .val (.ref b14), .val (.ref b25), .val (.ref b110), .val (.int (0 : Int32)), .val (.ref bt1071), .val (.ref bt1088), .val (.ref bt1108), .val (.ref bt1131)] [(.int (0 : Int32)), (.int (1 : Int32)), (.ref bt1071)])) _
              refine XS.aload X1131.here hx rfl (hb hby at_188) rfl rfl ?_
              show Steps _ _ _ (T1131.setTop (mkF m 190 #[.val (.int x0), .val (.int x1), .val (.int x2), .val (.int x3), .val (.int x4), .val (.int cap), .val (.int n), .val (.ref b6), .val (.ref b14), .val (.ref b25), .val (.ref b110), .val (.int (0 : Int32)), .val (.ref bt1071), .val (.ref bt1088), .val (.ref bt1108), .val (.ref bt1131)] [(.ref b6), (.int (0 : Int32)), (.int (1 : Int32)), (.ref bt1071)])) _
              refine XS.aload X1131.here hx rfl (hb hby at_190) rfl rfl ?_
              show Steps _ _ _ (T1131.setTop (mkF m 192 #[.val (.int x0), .val (.int x1), .val (.int x2), .val (.int x3), .val (.int x4), .val (.int cap), .val (.int n), .val (.ref b6), .val (.ref b14), .val (.ref b25), .val (.ref b110), .val (.int (0 : Int32)), .val (.ref bt1071), .val (.ref bt1088), .val (.ref bt1108), .val (.ref bt1131)] [(.ref b14), (.ref b6), (.int (0 : Int32)), (.int (1 : Int32)), (.ref bt1071)])) _
              refine XS.aload X1131.here hx rfl (hb hby at_192) rfl rfl ?_
              show Steps _ _ _ (T1131.setTop (mkF m 194 #[.val (.int x0), .val (.int x1), .val (.int x2), .val (.int x3), .val (.int x4), .val (.int cap), .val (.int n), .val (.ref b6), .val (.ref b14), .val (.ref b25), .val (.ref b110), .val (.int (0 : Int32)), .val (.ref bt1071), .val (.ref bt1088), .val (.ref bt1108), .val (.ref bt1131)] [(.ref b25), (.ref b14), (.ref b6), (.int (0 : Int32)), (.int (1 : Int32)), (.ref bt1071)])) _
              refine XS.iloadN X1131.here hx rfl (hb hby at_194) rfl ?_
              show Steps _ _ _ (T1131.setTop (mkF m 195 #[.val (.int x0), .val (.int x1), .val (.int x2), .val (.int x3), .val (.int x4), .val (.int cap), .val (.int n), .val (.ref b6), .val (.ref b14), .val (.ref b25), .val (.ref b110), .val (.int (0 : Int32)), .val (.ref bt1071), .val (.ref bt1088), .val (.ref bt1108), .val (.ref bt1131)] [(.int x2), (.ref b25), (.ref b14), (.ref b6), (.int (0 : Int32)), (.int (1 : Int32)), (.ref bt1071)])) _
              refine XS.iloadN X1131.here hx rfl (hb hby at_195) rfl ?_
              show Steps _ _ _ (T1131.setTop (mkF m 196 #[.val (.int x0), .val (.int x1), .val (.int x2), .val (.int x3), .val (.int x4), .val (.int cap), .val (.int n), .val (.ref b6), .val (.ref b14), .val (.ref b25), .val (.ref b110), .val (.int (0 : Int32)), .val (.ref bt1071), .val (.ref bt1088), .val (.ref bt1108), .val (.ref bt1131)] [(.int x3), (.int x2), (.ref b25), (.ref b14), (.ref b6), (.int (0 : Int32)), (.int (1 : Int32)), (.ref bt1071)])) _
              refine XS.iload X1131.here hx rfl (hb hby at_196) rfl ?_
              exact Steps.refl _)
          obtain ⟨_, _, ⟨T1157, L1157, k1157, n1157⟩, -, X1157, ⟨Lc1157, hQ1157, l1157, y1157, z1157⟩, sr1157⟩ := Jvm.LawKit.callS X1131 hx (y := (⟨"com/example/tideloop/tideloop/MessagePoolKeepPinLaw", "check", "(Lcom/example/tideloop/tideloop/Message;IILcom/example/tideloop/tideloop/Message;Lcom/example/tideloop/tideloop/Message;Lcom/example/tideloop/tideloop/Message;III)Z"⟩ : MethodName)) hown (mvT hZ (hw _ (List.mem_of_getElem? (i := 45) rfl))) (mvT hZ (hw _ (List.mem_of_getElem? (i := 46) rfl))) (mvT hZ (hw _ (List.mem_of_getElem? (i := 47) rfl))) (mvT hZ (hw _ (List.mem_of_getElem? (i := 48) rfl))) (by decide) (backOf (W := 0) (rm8 l Z a0 hw [] bt1071 (1 : Int32) (0 : Int32) b6 b14 b25 x2 x3 x4 (0 : Int32) T1131.heap n0 Z1154 f1146 f1147) hZ (hw _ (List.mem_of_getElem? (i := 48) rfl)) (hw _ (List.mem_of_getElem? (i := 47) rfl)) (by decide) (by decide)) (g := (mkF m 198 #[.val (.int x0), .val (.int x1), .val (.int x2), .val (.int x3), .val (.int x4), .val (.int cap), .val (.int n), .val (.ref b6), .val (.ref b14), .val (.ref b25), .val (.ref b110), .val (.int (0 : Int32)), .val (.ref bt1071), .val (.ref bt1088), .val (.ref bt1108), .val (.ref bt1131)] [(.int x4), (.int x3), (.int x2), (.ref b25), (.ref b14), (.ref b6), (.int (0 : Int32)), (.int (1 : Int32)), (.ref bt1071)])) rfl (by rw [hml]; rfl) (argsL := [(.ref bt1071), (.int (1 : Int32)), (.int (0 : Int32)), (.ref b6), (.ref b14), (.ref b25), (.int x2), (.int x3), (.int x4)]) (rest := []) (lenOf pd_4 rfl) rfl (by show 2 * 0 + _ ≤ _; exact Nat.le_of_eq rfl) (hb hby at_198) (fun _ _ => ⟨rfl, rfl, (by decide : 8 + 0 ≤ _), (by decide : 136 + 0 ≤ _)⟩)
          dsimp only [Pt.U, Pt.locs, Pt.cells, Pt.slots] at X1157 l1157 y1157 z1157 sr1157 hQ1157
          subst l1157 y1157 z1157
          obtain ⟨rfl, N1157q, hh1157⟩ := hQ1157
          have N1157 := Fr.app N1131 N1157q
          obtain ⟨LL1157, X1157, N1157⟩ := own_hide X1157 N1157
          have st1158 : Steps p.tables e below sE (T1157.setTop (mkF m 201 #[.val (.int x0), .val (.int x1), .val (.int x2), .val (.int x3), .val (.int x4), .val (.int cap), .val (.int n), .val (.ref b6), .val (.ref b14), .val (.ref b25), .val (.ref b110), .val (.int (0 : Int32)), .val (.ref bt1071), .val (.ref bt1088), .val (.ref bt1108), .val (.ref bt1131)] [(.int (F8 bt1071 (1 : Int32) (0 : Int32) b6 b14 b25 x2 x3 x4 (0 : Int32)))])) := st1156.trans (sr1157 _ (Steps.refl _))
          have hf1159 : ¬ ((F8 bt1071 (1 : Int32) (0 : Int32) b6 b14 b25 x2 x3 x4 (0 : Int32)) = (0 : Int32)) := by simp +decide [F8, (Ne.symm ne_b6_bt1071), (Ne.symm ne_b14_bt1071), (Ne.symm ne_b25_bt1071)]
          have st1160 : Steps p.tables e below sE (T1157.setTop (mkF m 219 #[.val (.int x0), .val (.int x1), .val (.int x2), .val (.int x3), .val (.int x4), .val (.int cap), .val (.int n), .val (.ref b6), .val (.ref b14), .val (.ref b25), .val (.ref b110), .val (.int (0 : Int32)), .val (.ref bt1071), .val (.ref bt1088), .val (.ref bt1108), .val (.ref bt1131)] [(.int x4), (.int x3), (.int x2), (.ref b25), (.ref b14), (.ref b6), (.int (0 : Int32)), (.int (2 : Int32)), (.ref bt1088)])) := st1158.trans (by
              show Steps _ _ _ (T1157.setTop (mkF m 201 #[.val (.int x0), .val (.int x1), .val (.int x2), .val (.int x3), .val (.int x4), .val (.int cap), .val (.int n), .val (.ref b6), .val (.ref b14), .val (.ref b25), .val (.ref b110), .val (.int (0 : Int32)), .val (.ref bt1071), .val (.ref bt1088), .val (.ref bt1108), .val (.ref bt1131)] [(.int (F8 bt1071 (1 : Int32) (0 : Int32) b6 b14 b25 x2 x3 x4 (0 : Int32)))])) _
              refine XS.ifNo X1157.here hx rfl (hb hby at_201) rfl ((if0 _ _).trans (feq hf1159).1) ?_
              show Steps _ _ _ (T1157.setTop (mkF m 204 #[.val (.int x0), .val (.int x1), .val (.int x2), .val (.int x3), .val (.int x4), .val (.int cap), .val (.int n), .val (.ref b6), .val (.ref b14), .val (.ref b25), .val (.ref b110), .val (.int (0 : Int32)), .val (.ref bt1071), .val (.ref bt1088), .val (.ref bt1108), .val (.ref bt1131)] [])) _
              refine XS.aload X1157.here hx rfl (hb hby at_204) rfl rfl ?_
              show Steps _ _ _ (T1157.setTop (mkF m 206 #[.val (.int x0), .val (.int x1), .val (.int x2), .val (.int x3), .val (.int x4), .val (.int cap), .val (.int n), .val (.ref b6), .val (.ref b14), .val (.ref b25), .val (.ref b110), .val (.int (0 : Int32)), .val (.ref bt1071), .val (.ref bt1088), .val (.ref bt1108), .val (.ref bt1131)] [(.ref bt1088)])) _
              refine XS.iconst X1157.here hx rfl (hb hby at_206) ?_
              show Steps _ _ _ (T1157.setTop (mkF m 207 #[.val (.int x0), .val (.int x1), .val (.int x2), .val (.int x3), .val (.int x4), .val (.int cap), .val (.int n), .val (.ref b6), .val (.ref b14), .val (.ref b25), .val (.ref b110), .val (.int (0 : Int32)), .val (.ref bt1071), .val (.ref bt1088), .val (.ref bt1108), .val (.ref bt1131)] [(.int (2 : Int32)), (.ref bt1088)])) _
              refine XS.iload X1157.here hx rfl (hb hby at_207) rfl ?_
              show Steps _ _ _ (T1157.setTop (mkF m 209 #[.val (.int x0), .val (.int x1), .val (.int x2), .val (.int x3), .val (.int x4), .val (.int cap), .val (.int n), .val (.ref b6), .val (.ref b14), .val (.ref b25), .val (.ref b110), .val (.int (0 : Int32)), .val (.ref bt1071), .val (.ref bt1088), .val (.ref bt1108), .val (.ref bt1131)] [(.int (0 : Int32)), (.int (2 : Int32)), (.ref bt1088)])) _
              refine XS.aload X1157.here hx rfl (hb hby at_209) rfl rfl ?_
              show Steps _ _ _ (T1157.setTop (mkF m 211 #[.val (.int x0), .val (.int x1), .val (.int x2), .val (.int x3), .val (.int x4), .val (.int cap), .val (.int n), .val (.ref b6), .val (.ref b14), .val (.ref b25), .val (.ref b110), .val (.int (0 : Int32)), .val (.ref bt1071), .val (.ref bt1088), .val (.ref bt1108), .val (.ref bt1131)] [(.ref b6), (.int (0 : Int32)), (.int (2 : Int32)), (.ref bt1088)])) _
              refine XS.aload X1157.here hx rfl (hb hby at_211) rfl rfl ?_
              show Steps _ _ _ (T1157.setTop (mkF m 213 #[.val (.int x0), .val (.int x1), .val (.int x2), .val (.int x3), .val (.int x4), .val (.int cap), .val (.int n), .val (.ref b6), .val (.ref b14), .val (.ref b25), .val (.ref b110), .val (.int (0 : Int32)), .val (.ref bt1071), .val (.ref bt1088), .val (.ref bt1108), .val (.ref bt1131)] [(.ref b14), (.ref b6), (.int (0 : Int32)), (.int (2 : Int32)), (.ref bt1088)])) _
              refine XS.aload X1157.here hx rfl (hb hby at_213) rfl rfl ?_
              show Steps _ _ _ (T1157.setTop (mkF m 215 #[.val (.int x0), .val (.int x1), .val (.int x2), .val (.int x3), .val (.int x4), .val (.int cap), .val (.int n), .val (.ref b6), .val (.ref b14), .val (.ref b25), .val (.ref b110), .val (.int (0 : Int32)), .val (.ref bt1071), .val (.ref bt1088), .val (.ref bt1108), .val (.ref bt1131)] [(.ref b25), (.ref b14), (.ref b6), (.int (0 : Int32)), (.int (2 : Int32)), (.ref bt1088)])) _
              refine XS.iloadN X1157.here hx rfl (hb hby at_215) rfl ?_
              show Steps _ _ _ (T1157.setTop (mkF m 216 #[.val (.int x0), .val (.int x1), .val (.int x2), .val (.int x3), .val (.int x4), .val (.int cap), .val (.int n), .val (.ref b6), .val (.ref b14), .val (.ref b25), .val (.ref b110), .val (.int (0 : Int32)), .val (.ref bt1071), .val (.ref bt1088), .val (.ref bt1108), .val (.ref bt1131)] [(.int x2), (.ref b25), (.ref b14), (.ref b6), (.int (0 : Int32)), (.int (2 : Int32)), (.ref bt1088)])) _
              refine XS.iloadN X1157.here hx rfl (hb hby at_216) rfl ?_
              show Steps _ _ _ (T1157.setTop (mkF m 217 #[.val (.int x0), .val (.int x1), .val (.int x2), .val (.int x3), .val (.int x4), .val (.int cap), .val (.int n), .val (.ref b6), .val (.ref b14), .val (.ref b25), .val (.ref b110), .val (.int (0 : Int32)), .val (.ref bt1071), .val (.ref bt1088), .val (.ref bt1108), .val (.ref bt1131)] [(.int x3), (.int x2), (.ref b25), (.ref b14), (.ref b6), (.int (0 : Int32)), (.int (2 : Int32)), (.ref bt1088)])) _
              refine XS.iload X1157.here hx rfl (hb hby at_217) rfl ?_
              exact Steps.refl _)
          obtain ⟨_, _, ⟨T1161, L1161, k1161, n1161⟩, -, X1161, ⟨Lc1161, hQ1161, l1161, y1161, z1161⟩, sr1161⟩ := Jvm.LawKit.callS X1157 hx (y := (⟨"com/example/tideloop/tideloop/MessagePoolKeepPinLaw", "check", "(Lcom/example/tideloop/tideloop/Message;IILcom/example/tideloop/tideloop/Message;Lcom/example/tideloop/tideloop/Message;Lcom/example/tideloop/tideloop/Message;III)Z"⟩ : MethodName)) hown (mvT hZ (hw _ (List.mem_of_getElem? (i := 45) rfl))) (mvT hZ (hw _ (List.mem_of_getElem? (i := 46) rfl))) (mvT hZ (hw _ (List.mem_of_getElem? (i := 47) rfl))) (mvT hZ (hw _ (List.mem_of_getElem? (i := 48) rfl))) (by decide) (backOf (W := 0) (rm8 l Z a0 hw [] bt1088 (2 : Int32) (0 : Int32) b6 b14 b25 x2 x3 x4 (0 : Int32) T1131.heap n0 Z1154 f1149 f1150) hZ (hw _ (List.mem_of_getElem? (i := 48) rfl)) (hw _ (List.mem_of_getElem? (i := 47) rfl)) (by decide) (by decide)) (g := (mkF m 219 #[.val (.int x0), .val (.int x1), .val (.int x2), .val (.int x3), .val (.int x4), .val (.int cap), .val (.int n), .val (.ref b6), .val (.ref b14), .val (.ref b25), .val (.ref b110), .val (.int (0 : Int32)), .val (.ref bt1071), .val (.ref bt1088), .val (.ref bt1108), .val (.ref bt1131)] [(.int x4), (.int x3), (.int x2), (.ref b25), (.ref b14), (.ref b6), (.int (0 : Int32)), (.int (2 : Int32)), (.ref bt1088)])) rfl (by rw [hml]; rfl) (argsL := [(.ref bt1088), (.int (2 : Int32)), (.int (0 : Int32)), (.ref b6), (.ref b14), (.ref b25), (.int x2), (.int x3), (.int x4)]) (rest := []) (lenOf pd_4 rfl) rfl (by show 2 * 0 + _ ≤ _; exact Nat.le_of_eq rfl) (hb hby at_219) (fun _ _ => ⟨rfl, hh1157, (by decide : 8 + 0 ≤ _), (by decide : 136 + 0 ≤ _)⟩)
          dsimp only [Pt.U, Pt.locs, Pt.cells, Pt.slots] at X1161 l1161 y1161 z1161 sr1161 hQ1161
          subst l1161 y1161 z1161
          obtain ⟨rfl, N1161q, hh1161⟩ := hQ1161
          have N1161 := Fr.app N1157 N1161q
          obtain ⟨LL1161, X1161, N1161⟩ := own_hide X1161 N1161
          have st1162 : Steps p.tables e below sE (T1161.setTop (mkF m 222 #[.val (.int x0), .val (.int x1), .val (.int x2), .val (.int x3), .val (.int x4), .val (.int cap), .val (.int n), .val (.ref b6), .val (.ref b14), .val (.ref b25), .val (.ref b110), .val (.int (0 : Int32)), .val (.ref bt1071), .val (.ref bt1088), .val (.ref bt1108), .val (.ref bt1131)] [(.int (F8 bt1088 (2 : Int32) (0 : Int32) b6 b14 b25 x2 x3 x4 (0 : Int32)))])) := st1160.trans (sr1161 _ (Steps.refl _))
          have hf1163 : ¬ ((F8 bt1088 (2 : Int32) (0 : Int32) b6 b14 b25 x2 x3 x4 (0 : Int32)) = (0 : Int32)) := by simp +decide [F8, (Ne.symm ne_b6_bt1088), (Ne.symm ne_b14_bt1088), (Ne.symm ne_b25_bt1088)]
          have st1164 : Steps p.tables e below sE (T1161.setTop (mkF m 240 #[.val (.int x0), .val (.int x1), .val (.int x2), .val (.int x3), .val (.int x4), .val (.int cap), .val (.int n), .val (.ref b6), .val (.ref b14), .val (.ref b25), .val (.ref b110), .val (.int (0 : Int32)), .val (.ref bt1071), .val (.ref bt1088), .val (.ref bt1108), .val (.ref bt1131)] [(.int x4), (.int x3), (.int x2), (.ref b25), (.ref b14), (.ref b6), (.int (0 : Int32)), (.int (3 : Int32)), (.ref bt1108)])) := st1162.trans (by
              show Steps _ _ _ (T1161.setTop (mkF m 222 #[.val (.int x0), .val (.int x1), .val (.int x2), .val (.int x3), .val (.int x4), .val (.int cap), .val (.int n), .val (.ref b6), .val (.ref b14), .val (.ref b25), .val (.ref b110), .val (.int (0 : Int32)), .val (.ref bt1071), .val (.ref bt1088), .val (.ref bt1108), .val (.ref bt1131)] [(.int (F8 bt1088 (2 : Int32) (0 : Int32) b6 b14 b25 x2 x3 x4 (0 : Int32)))])) _
              refine XS.ifNo X1161.here hx rfl (hb hby at_222) rfl ((if0 _ _).trans (feq hf1163).1) ?_
              show Steps _ _ _ (T1161.setTop (mkF m 225 #[.val (.int x0), .val (.int x1), .val (.int x2), .val (.int x3), .val (.int x4), .val (.int cap), .val (.int n), .val (.ref b6), .val (.ref b14), .val (.ref b25), .val (.ref b110), .val (.int (0 : Int32)), .val (.ref bt1071), .val (.ref bt1088), .val (.ref bt1108), .val (.ref bt1131)] [])) _
              refine XS.aload X1161.here hx rfl (hb hby at_225) rfl rfl ?_
              show Steps _ _ _ (T1161.setTop (mkF m 227 #[.val (.int x0), .val (.int x1), .val (.int x2), .val (.int x3), .val (.int x4), .val (.int cap), .val (.int n), .val (.ref b6), .val (.ref b14), .val (.ref b25), .val (.ref b110), .val (.int (0 : Int32)), .val (.ref bt1071), .val (.ref bt1088), .val (.ref bt1108), .val (.ref bt1131)] [(.ref bt1108)])) _
              refine XS.iconst X1161.here hx rfl (hb hby at_227) ?_
              show Steps _ _ _ (T1161.setTop (mkF m 228 #[.val (.int x0), .val (.int x1), .val (.int x2), .val (.int x3), .val (.int x4), .val (.int cap), .val (.int n), .val (.ref b6), .val (.ref b14), .val (.ref b25), .val (.ref b110), .val (.int (0 : Int32)), .val (.ref bt1071), .val (.ref bt1088), .val (.ref bt1108), .val (.ref bt1131)] [(.int (3 : Int32)), (.ref bt1108)])) _
              refine XS.iload X1161.here hx rfl (hb hby at_228) rfl ?_
              show Steps _ _ _ (T1161.setTop (mkF m 230 #[.val (.int x0), .val (.int x1), .val (.int x2), .val (.int x3), .val (.int x4), .val (.int cap), .val (.int n), .val (.ref b6), .val (.ref b14), .val (.ref b25), .val (.ref b110), .val (.int (0 : Int32)), .val (.ref bt1071), .val (.ref bt1088), .val (.ref bt1108), .val (.ref bt1131)] [(.int (0 : Int32)), (.int (3 : Int32)), (.ref bt1108)])) _
              refine XS.aload X1161.here hx rfl (hb hby at_230) rfl rfl ?_
              show Steps _ _ _ (T1161.setTop (mkF m 232 #[.val (.int x0), .val (.int x1), .val (.int x2), .val (.int x3), .val (.int x4), .val (.int cap), .val (.int n), .val (.ref b6), .val (.ref b14), .val (.ref b25), .val (.ref b110), .val (.int (0 : Int32)), .val (.ref bt1071), .val (.ref bt1088), .val (.ref bt1108), .val (.ref bt1131)] [(.ref b6), (.int (0 : Int32)), (.int (3 : Int32)), (.ref bt1108)])) _
              refine XS.aload X1161.here hx rfl (hb hby at_232) rfl rfl ?_
              show Steps _ _ _ (T1161.setTop (mkF m 234 #[.val (.int x0), .val (.int x1), .val (.int x2), .val (.int x3), .val (.int x4), .val (.int cap), .val (.int n), .val (.ref b6), .val (.ref b14), .val (.ref b25), .val (.ref b110), .val (.int (0 : Int32)), .val (.ref bt1071), .val (.ref bt1088), .val (.ref bt1108), .val (.ref bt1131)] [(.ref b14), (.ref b6), (.int (0 : Int32)), (.int (3 : Int32)), (.ref bt1108)])) _
              refine XS.aload X1161.here hx rfl (hb hby at_234) rfl rfl ?_
              show Steps _ _ _ (T1161.setTop (mkF m 236 #[.val (.int x0), .val (.int x1), .val (.int x2), .val (.int x3), .val (.int x4), .val (.int cap), .val (.int n), .val (.ref b6), .val (.ref b14), .val (.ref b25), .val (.ref b110), .val (.int (0 : Int32)), .val (.ref bt1071), .val (.ref bt1088), .val (.ref bt1108), .val (.ref bt1131)] [(.ref b25), (.ref b14), (.ref b6), (.int (0 : Int32)), (.int (3 : Int32)), (.ref bt1108)])) _
              refine XS.iloadN X1161.here hx rfl (hb hby at_236) rfl ?_
              show Steps _ _ _ (T1161.setTop (mkF m 237 #[.val (.int x0), .val (.int x1), .val (.int x2), .val (.int x3), .val (.int x4), .val (.int cap), .val (.int n), .val (.ref b6), .val (.ref b14), .val (.ref b25), .val (.ref b110), .val (.int (0 : Int32)), .val (.ref bt1071), .val (.ref bt1088), .val (.ref bt1108), .val (.ref bt1131)] [(.int x2), (.ref b25), (.ref b14), (.ref b6), (.int (0 : Int32)), (.int (3 : Int32)), (.ref bt1108)])) _
              refine XS.iloadN X1161.here hx rfl (hb hby at_237) rfl ?_
              show Steps _ _ _ (T1161.setTop (mkF m 238 #[.val (.int x0), .val (.int x1), .val (.int x2), .val (.int x3), .val (.int x4), .val (.int cap), .val (.int n), .val (.ref b6), .val (.ref b14), .val (.ref b25), .val (.ref b110), .val (.int (0 : Int32)), .val (.ref bt1071), .val (.ref bt1088), .val (.ref bt1108), .val (.ref bt1131)] [(.int x3), (.int x2), (.ref b25), (.ref b14), (.ref b6), (.int (0 : Int32)), (.int (3 : Int32)), (.ref bt1108)])) _
              refine XS.iload X1161.here hx rfl (hb hby at_238) rfl ?_
              exact Steps.refl _)
          obtain ⟨_, _, ⟨T1165, L1165, k1165, n1165⟩, -, X1165, ⟨Lc1165, hQ1165, l1165, y1165, z1165⟩, sr1165⟩ := Jvm.LawKit.callS X1161 hx (y := (⟨"com/example/tideloop/tideloop/MessagePoolKeepPinLaw", "check", "(Lcom/example/tideloop/tideloop/Message;IILcom/example/tideloop/tideloop/Message;Lcom/example/tideloop/tideloop/Message;Lcom/example/tideloop/tideloop/Message;III)Z"⟩ : MethodName)) hown (mvT hZ (hw _ (List.mem_of_getElem? (i := 45) rfl))) (mvT hZ (hw _ (List.mem_of_getElem? (i := 46) rfl))) (mvT hZ (hw _ (List.mem_of_getElem? (i := 47) rfl))) (mvT hZ (hw _ (List.mem_of_getElem? (i := 48) rfl))) (by decide) (backOf (W := 0) (rm8 l Z a0 hw [] bt1108 (3 : Int32) (0 : Int32) b6 b14 b25 x2 x3 x4 (0 : Int32) T1131.heap n0 Z1154 f1152 f1153) hZ (hw _ (List.mem_of_getElem? (i := 48) rfl)) (hw _ (List.mem_of_getElem? (i := 47) rfl)) (by decide) (by decide)) (g := (mkF m 240 #[.val (.int x0), .val (.int x1), .val (.int x2), .val (.int x3), .val (.int x4), .val (.int cap), .val (.int n), .val (.ref b6), .val (.ref b14), .val (.ref b25), .val (.ref b110), .val (.int (0 : Int32)), .val (.ref bt1071), .val (.ref bt1088), .val (.ref bt1108), .val (.ref bt1131)] [(.int x4), (.int x3), (.int x2), (.ref b25), (.ref b14), (.ref b6), (.int (0 : Int32)), (.int (3 : Int32)), (.ref bt1108)])) rfl (by rw [hml]; rfl) (argsL := [(.ref bt1108), (.int (3 : Int32)), (.int (0 : Int32)), (.ref b6), (.ref b14), (.ref b25), (.int x2), (.int x3), (.int x4)]) (rest := []) (lenOf pd_4 rfl) rfl (by show 2 * 0 + _ ≤ _; exact Nat.le_of_eq rfl) (hb hby at_240) (fun _ _ => ⟨rfl, hh1161, (by decide : 8 + 0 ≤ _), (by decide : 136 + 0 ≤ _)⟩)
          dsimp only [Pt.U, Pt.locs, Pt.cells, Pt.slots] at X1165 l1165 y1165 z1165 sr1165 hQ1165
          subst l1165 y1165 z1165
          obtain ⟨rfl, N1165q, hh1165⟩ := hQ1165
          have N1165 := Fr.app N1161 N1165q
          obtain ⟨LL1165, X1165, N1165⟩ := own_hide X1165 N1165
          have st1166 : Steps p.tables e below sE (T1165.setTop (mkF m 243 #[.val (.int x0), .val (.int x1), .val (.int x2), .val (.int x3), .val (.int x4), .val (.int cap), .val (.int n), .val (.ref b6), .val (.ref b14), .val (.ref b25), .val (.ref b110), .val (.int (0 : Int32)), .val (.ref bt1071), .val (.ref bt1088), .val (.ref bt1108), .val (.ref bt1131)] [(.int (F8 bt1108 (3 : Int32) (0 : Int32) b6 b14 b25 x2 x3 x4 (0 : Int32)))])) := st1164.trans (sr1165 _ (Steps.refl _))
          have hf1167 : ¬ ((F8 bt1108 (3 : Int32) (0 : Int32) b6 b14 b25 x2 x3 x4 (0 : Int32)) = (0 : Int32)) := by simp +decide [F8, (Ne.symm ne_b6_bt1108), (Ne.symm ne_b14_bt1108), (Ne.symm ne_b25_bt1108)]
          have st1168 : Steps p.tables e below sE (T1165.setTop (mkF m 261 #[.val (.int x0), .val (.int x1), .val (.int x2), .val (.int x3), .val (.int x4), .val (.int cap), .val (.int n), .val (.ref b6), .val (.ref b14), .val (.ref b25), .val (.ref b110), .val (.int (0 : Int32)), .val (.ref bt1071), .val (.ref bt1088), .val (.ref bt1108), .val (.ref bt1131)] [(.int x4), (.int x3), (.int x2), (.ref b25), (.ref b14), (.ref b6), (.int (0 : Int32)), (.int (4 : Int32)), (.ref bt1131)])) := st1166.trans (by
              show Steps _ _ _ (T1165.setTop (mkF m 243 #[.val (.int x0), .val (.int x1), .val (.int x2), .val (.int x3), .val (.int x4), .val (.int cap), .val (.int n), .val (.ref b6), .val (.ref b14), .val (.ref b25), .val (.ref b110), .val (.int (0 : Int32)), .val (.ref bt1071), .val (.ref bt1088), .val (.ref bt1108), .val (.ref bt1131)] [(.int (F8 bt1108 (3 : Int32) (0 : Int32) b6 b14 b25 x2 x3 x4 (0 : Int32)))])) _
              refine XS.ifNo X1165.here hx rfl (hb hby at_243) rfl ((if0 _ _).trans (feq hf1167).1) ?_
              show Steps _ _ _ (T1165.setTop (mkF m 246 #[.val (.int x0), .val (.int x1), .val (.int x2), .val (.int x3), .val (.int x4), .val (.int cap), .val (.int n), .val (.ref b6), .val (.ref b14), .val (.ref b25), .val (.ref b110), .val (.int (0 : Int32)), .val (.ref bt1071), .val (.ref bt1088), .val (.ref bt1108), .val (.ref bt1131)] [])) _
              refine XS.aload X1165.here hx rfl (hb hby at_246) rfl rfl ?_
              show Steps _ _ _ (T1165.setTop (mkF m 248 #[.val (.int x0), .val (.int x1), .val (.int x2), .val (.int x3), .val (.int x4), .val (.int cap), .val (.int n), .val (.ref b6), .val (.ref b14), .val (.ref b25), .val (.ref b110), .val (.int (0 : Int32)), .val (.ref bt1071), .val (.ref bt1088), .val (.ref bt1108), .val (.ref bt1131)] [(.ref bt1131)])) _
              refine XS.iconst X1165.here hx rfl (hb hby at_248) ?_
              show Steps _ _ _ (T1165.setTop (mkF m 249 #[.val (.int x0), .val (.int x1), .val (.int x2), .val (.int x3), .val (.int x4), .val (.int cap), .val (.int n), .val (.ref b6), .val (.ref b14), .val (.ref b25), .val (.ref b110), .val (.int (0 : Int32)), .val (.ref bt1071), .val (.ref bt1088), .val (.ref bt1108), .val (.ref bt1131)] [(.int (4 : Int32)), (.ref bt1131)])) _
              refine XS.iload X1165.here hx rfl (hb hby at_249) rfl ?_
              show Steps _ _ _ (T1165.setTop (mkF m 251 #[.val (.int x0), .val (.int x1), .val (.int x2), .val (.int x3), .val (.int x4), .val (.int cap), .val (.int n), .val (.ref b6), .val (.ref b14), .val (.ref b25), .val (.ref b110), .val (.int (0 : Int32)), .val (.ref bt1071), .val (.ref bt1088), .val (.ref bt1108), .val (.ref bt1131)] [(.int (0 : Int32)), (.int (4 : Int32)), (.ref bt1131)])) _
              refine XS.aload X1165.here hx rfl (hb hby at_251) rfl rfl ?_
              show Steps _ _ _ (T1165.setTop (mkF m 253 #[.val (.int x0), .val (.int x1), .val (.int x2), .val (.int x3), .val (.int x4), .val (.int cap), .val (.int n), .val (.ref b6), .val (.ref b14), .val (.ref b25), .val (.ref b110), .val (.int (0 : Int32)), .val (.ref bt1071), .val (.ref bt1088), .val (.ref bt1108), .val (.ref bt1131)] [(.ref b6), (.int (0 : Int32)), (.int (4 : Int32)), (.ref bt1131)])) _
              refine XS.aload X1165.here hx rfl (hb hby at_253) rfl rfl ?_
              show Steps _ _ _ (T1165.setTop (mkF m 255 #[.val (.int x0), .val (.int x1), .val (.int x2), .val (.int x3), .val (.int x4), .val (.int cap), .val (.int n), .val (.ref b6), .val (.ref b14), .val (.ref b25), .val (.ref b110), .val (.int (0 : Int32)), .val (.ref bt1071), .val (.ref bt1088), .val (.ref bt1108), .val (.ref bt1131)] [(.ref b14), (.ref b6), (.int (0 : Int32)), (.int (4 : Int32)), (.ref bt1131)])) _
              refine XS.aload X1165.here hx rfl (hb hby at_255) rfl rfl ?_
              show Steps _ _ _ (T1165.setTop (mkF m 257 #[.val (.int x0), .val (.int x1), .val (.int x2), .val (.int x3), .val (.int x4), .val (.int cap), .val (.int n), .val (.ref b6), .val (.ref b14), .val (.ref b25), .val (.ref b110), .val (.int (0 : Int32)), .val (.ref bt1071), .val (.ref bt1088), .val (.ref bt1108), .val (.ref bt1131)] [(.ref b25), (.ref b14), (.ref b6), (.int (0 : Int32)), (.int (4 : Int32)), (.ref bt1131)])) _
              refine XS.iloadN X1165.here hx rfl (hb hby at_257) rfl ?_
              show Steps _ _ _ (T1165.setTop (mkF m 258 #[.val (.int x0), .val (.int x1), .val (.int x2), .val (.int x3), .val (.int x4), .val (.int cap), .val (.int n), .val (.ref b6), .val (.ref b14), .val (.ref b25), .val (.ref b110), .val (.int (0 : Int32)), .val (.ref bt1071), .val (.ref bt1088), .val (.ref bt1108), .val (.ref bt1131)] [(.int x2), (.ref b25), (.ref b14), (.ref b6), (.int (0 : Int32)), (.int (4 : Int32)), (.ref bt1131)])) _
              refine XS.iloadN X1165.here hx rfl (hb hby at_258) rfl ?_
              show Steps _ _ _ (T1165.setTop (mkF m 259 #[.val (.int x0), .val (.int x1), .val (.int x2), .val (.int x3), .val (.int x4), .val (.int cap), .val (.int n), .val (.ref b6), .val (.ref b14), .val (.ref b25), .val (.ref b110), .val (.int (0 : Int32)), .val (.ref bt1071), .val (.ref bt1088), .val (.ref bt1108), .val (.ref bt1131)] [(.int x3), (.int x2), (.ref b25), (.ref b14), (.ref b6), (.int (0 : Int32)), (.int (4 : Int32)), (.ref bt1131)])) _
              refine XS.iload X1165.here hx rfl (hb hby at_259) rfl ?_
              exact Steps.refl _)
          obtain ⟨_, _, ⟨T1169, L1169, k1169, n1169⟩, -, X1169, ⟨Lc1169, hQ1169, l1169, y1169, z1169⟩, sr1169⟩ := Jvm.LawKit.callS X1165 hx (y := (⟨"com/example/tideloop/tideloop/MessagePoolKeepPinLaw", "check", "(Lcom/example/tideloop/tideloop/Message;IILcom/example/tideloop/tideloop/Message;Lcom/example/tideloop/tideloop/Message;Lcom/example/tideloop/tideloop/Message;III)Z"⟩ : MethodName)) hown (mvT hZ (hw _ (List.mem_of_getElem? (i := 45) rfl))) (mvT hZ (hw _ (List.mem_of_getElem? (i := 46) rfl))) (mvT hZ (hw _ (List.mem_of_getElem? (i := 47) rfl))) (mvT hZ (hw _ (List.mem_of_getElem? (i := 48) rfl))) (by decide) (backOf (W := 0) (rm8 l Z a0 hw [] bt1131 (4 : Int32) (0 : Int32) b6 b14 b25 x2 x3 x4 (0 : Int32) T1131.heap n0 Z1154 qn1131 qw1131) hZ (hw _ (List.mem_of_getElem? (i := 48) rfl)) (hw _ (List.mem_of_getElem? (i := 47) rfl)) (by decide) (by decide)) (g := (mkF m 261 #[.val (.int x0), .val (.int x1), .val (.int x2), .val (.int x3), .val (.int x4), .val (.int cap), .val (.int n), .val (.ref b6), .val (.ref b14), .val (.ref b25), .val (.ref b110), .val (.int (0 : Int32)), .val (.ref bt1071), .val (.ref bt1088), .val (.ref bt1108), .val (.ref bt1131)] [(.int x4), (.int x3), (.int x2), (.ref b25), (.ref b14), (.ref b6), (.int (0 : Int32)), (.int (4 : Int32)), (.ref bt1131)])) rfl (by rw [hml]; rfl) (argsL := [(.ref bt1131), (.int (4 : Int32)), (.int (0 : Int32)), (.ref b6), (.ref b14), (.ref b25), (.int x2), (.int x3), (.int x4)]) (rest := []) (lenOf pd_4 rfl) rfl (by show 2 * 0 + _ ≤ _; exact Nat.le_of_eq rfl) (hb hby at_261) (fun _ _ => ⟨rfl, hh1165, (by decide : 8 + 0 ≤ _), (by decide : 136 + 0 ≤ _)⟩)
          dsimp only [Pt.U, Pt.locs, Pt.cells, Pt.slots] at X1169 l1169 y1169 z1169 sr1169 hQ1169
          subst l1169 y1169 z1169
          obtain ⟨rfl, N1169q, hh1169⟩ := hQ1169
          have N1169 := Fr.app N1165 N1169q
          obtain ⟨LL1169, X1169, N1169⟩ := own_hide X1169 N1169
          have st1170 : Steps p.tables e below sE (T1169.setTop (mkF m 264 #[.val (.int x0), .val (.int x1), .val (.int x2), .val (.int x3), .val (.int x4), .val (.int cap), .val (.int n), .val (.ref b6), .val (.ref b14), .val (.ref b25), .val (.ref b110), .val (.int (0 : Int32)), .val (.ref bt1071), .val (.ref bt1088), .val (.ref bt1108), .val (.ref bt1131)] [(.int (F8 bt1131 (4 : Int32) (0 : Int32) b6 b14 b25 x2 x3 x4 (0 : Int32)))])) := st1168.trans (sr1169 _ (Steps.refl _))
          have hf1171 : ¬ ((F8 bt1131 (4 : Int32) (0 : Int32) b6 b14 b25 x2 x3 x4 (0 : Int32)) = (0 : Int32)) := by simp +decide [F8, (Ne.symm ne_b6_bt1131), (Ne.symm ne_b14_bt1131), (Ne.symm ne_b25_bt1131)]
          have st1172 : Steps p.tables e below sE (T1169.setTop (mkF m 272 #[.val (.int x0), .val (.int x1), .val (.int x2), .val (.int x3), .val (.int x4), .val (.int cap), .val (.int n), .val (.ref b6), .val (.ref b14), .val (.ref b25), .val (.ref b110), .val (.int (0 : Int32)), .val (.ref bt1071), .val (.ref bt1088), .val (.ref bt1108), .val (.ref bt1131)] [(.int (1 : Int32))])) := st1170.trans (by
              show Steps _ _ _ (T1169.setTop (mkF m 264 #[.val (.int x0), .val (.int x1), .val (.int x2), .val (.int x3), .val (.int x4), .val (.int cap), .val (.int n), .val (.ref b6), .val (.ref b14), .val (.ref b25), .val (.ref b110), .val (.int (0 : Int32)), .val (.ref bt1071), .val (.ref bt1088), .val (.ref bt1108), .val (.ref bt1131)] [(.int (F8 bt1131 (4 : Int32) (0 : Int32) b6 b14 b25 x2 x3 x4 (0 : Int32)))])) _
              refine XS.ifNo X1169.here hx rfl (hb hby at_264) rfl ((if0 _ _).trans (feq hf1171).1) ?_
              show Steps _ _ _ (T1169.setTop (mkF m 267 #[.val (.int x0), .val (.int x1), .val (.int x2), .val (.int x3), .val (.int x4), .val (.int cap), .val (.int n), .val (.ref b6), .val (.ref b14), .val (.ref b25), .val (.ref b110), .val (.int (0 : Int32)), .val (.ref bt1071), .val (.ref bt1088), .val (.ref bt1108), .val (.ref bt1131)] [])) _
              refine XS.iconst X1169.here hx rfl (hb hby at_267) ?_
              show Steps _ _ _ (T1169.setTop (mkF m 268 #[.val (.int x0), .val (.int x1), .val (.int x2), .val (.int x3), .val (.int x4), .val (.int cap), .val (.int n), .val (.ref b6), .val (.ref b14), .val (.ref b25), .val (.ref b110), .val (.int (0 : Int32)), .val (.ref bt1071), .val (.ref bt1088), .val (.ref bt1108), .val (.ref bt1131)] [(.int (1 : Int32))])) _
              refine XS.goto X1169.here hx rfl (pc0 := 268) (pc' := 272) rfl (hb hby at_268) (by decide) (by decide) ?_
              exact Steps.refl _)
          obtain ⟨fs, hr, hrun, hended, hW, hsame⟩ := X1169.leave (v := some (.int (1 : Int32))) (fun h => by rw [Bd.returns] at h; cases h)
          refine ⟨_, _, (own_ent hsE st1172).trans ?_, hrun, hended, _, _, rfl, ?_, ⟨_, rfl⟩, hW, hsame.mono (by decide) (by decide)⟩
          · exact retN X1169 hx (t := .boolean) Bd.returns (by simp) (hb hby at_272) hr
          · show Q0 Z x0 x1 x2 x3 x4 h0 n0 _ T1169.heap _
            rw [hh1169]
            exact ⟨rfl, N1169⟩
set_option maxRecDepth 65536 in
set_option maxHeartbeats 40000000 in
theorem comes_1 {Post : Tables → Env → Array Value → State → Outcome → State → Prop} (hpost : ∀ tb e args s v u, (limb_1_1.after args s (.returned v) u = true ∧ limb_1_2.after args s (.returned v) u = true ∧ True) → FrameEnd s (.returned v) u (Jvm.fieldLocs frame_1_writes args s ++ Jvm.arrayLocs frame_1_arrays args s ++ Jvm.staticLocs frame_1_statics s) 24 384 → Post tb e args s (.returned v) u) :
    ArmFor flags0 classFile x code maxLocals ret World_1 tables_1 room_1 Calls_1 rest_1 Pre_1 Post := by
  intro l hfl _ _ p e ha hc hk s m args below hf hA hF happ hP
  obtain ⟨hcalls, hrest, hpre⟩ := hP
  obtain ⟨-, -, -, hnamed, -, -, -, hat⟩ := (Spec.applies_iff hf).mp happ
  obtain ⟨hg, hn⟩ := and_e (Cond.before_iff.mp (show (Jvm.Cond.and given_1 narrow_1).before args s = true from hpre))
  obtain ⟨g1, g2⟩ := and_e hg
  obtain ⟨g3, g4⟩ := and_e g2
  obtain ⟨g5, g6⟩ := and_e g4
  obtain ⟨g7, g8⟩ := and_e g6
  obtain ⟨g9, g10⟩ := and_e g8
  obtain ⟨w0, w1, w2, w3, w4, rfl⟩ : ∃ w0 w1 w2 w3 w4 : Value, args = #[w0, w1, w2, w3, w4] := by
    have hs : args.size = 5 := by simpa [Cond.value, given_1] using g1
    obtain ⟨L⟩ := args
    match L, hs with
    | [w0, w1, w2, w3, w4], _ => exact ⟨w0, w1, w2, w3, w4, rfl⟩
  have hw := fun d (hd : d ∈ tables_1) => atoms_spec (ws := Jvm.Cond.code x code maxLocals ret :: tables_1) hat d (List.mem_cons_of_mem _ hd)
  have hfit : Fit s := fun {y c} hc i hi => by
    obtain ⟨ha, rfl⟩ := Array.getElem?_eq_some_iff.mp hc
    have q := List.all_eq_true.mp ((Array.all_eq_true_iff_forall_mem.mp hF) _ (Array.getElem_mem ha)) i (List.mem_range.mpr hi)
    simpa [Array.getElem?_eq_getElem hi] using q
  obtain ⟨i0, ei0⟩ := is_v g3
  obtain rfl : w0 = (.int i0) := Option.some.inj ei0
  obtain ⟨i1, ei1⟩ := is_v g5
  obtain rfl : w1 = (.int i1) := Option.some.inj ei1
  obtain ⟨i2, ei2⟩ := is_v g7
  obtain rfl : w2 = (.int i2) := Option.some.inj ei2
  obtain ⟨i3, ei3⟩ := is_v g9
  obtain rfl : w3 = (.int i3) := Option.some.inj ei3
  obtain ⟨i4, ei4⟩ := is_v g10
  obtain rfl : w4 = (.int i4) := Option.some.inj ei4
  obtain ⟨n, o, h1, h2, h3, _, L, rfl, ⟨hv, N⟩, hq⟩ := rm0 l s _ hw tables_1 i0 i1 i2 i3 i4  s.heap s.heap.size (Nat.le_refl _)  p e ha hc hk s m _ below hf ((Spec.applies_iff_loose hf).mp happ).1 ⟨rfl, State.Warmed39.refl s, rfl⟩ trivial
  subst hv
  refine ⟨n, _, h1, h2, h3, hpost _ _ _ _ _ _ ⟨Cond.after_iff.mpr rfl, Cond.after_iff.mpr (eq_i res_at (Term.int_eval (1)) rfl), trivial⟩ ⟨hq.1, hq.2.1, (hq.2.2.sift fun y hy => Or.inr (N y hy)).mono (by decide) (by decide)⟩⟩
theorem main_1_1 : Claimed_1_1 := comes_1 fun _ _ _ _ _ _ h hF => ⟨h.1, hF⟩
theorem main_1_2 : Claimed_1_2 := comes_1 fun _ _ _ _ _ _ h hF => ⟨h.2.1, hF⟩
end Jvm.Pilot.@@N@@
namespace Jvm.Pilot.@@N@@
open Jvm Jvm.ClassFile Sem Op Lib Jvm.Free Jvm.Stand Jvm.Pilot.@@N@@.Jvm.D
/-! MADE BY PROGRAM (witnessworld.py) out of the Statement's table words and the real class files: 11 classes; the members and pool entries that the words name. The judged class is class 1, her method 1. -/
namespace start1
open Jvm.ClassFile
def u (s : String) : CpInfo := .utf8 (stringToUtf16 s)
/-- a pool by its gaps: so many unusable entries, then the entry; so many at the end -/
def gap : Nat → List CpInfo → List CpInfo
  | 0, r => r
  | n + 1, r => .unusable :: gap n r
def poolList (es : List (Nat × CpInfo)) (last : Nat) : List CpInfo := es.foldr (fun e r => gap e.1 (e.2 :: r)) (gap last [])
def pool (es : List (Nat × CpInfo)) (last : Nat) : Array CpInfo := ⟨poolList es last⟩
def fileOf (pool : Array CpInfo) (this : Nat) (attrs : Array Attribute := #[]) (ms : Array MethodInfo := #[]) (fl : Nat := 33) (sup : Nat := 0) (ifs : Array Nat := #[]) (fds : Array FieldInfo := #[]) : ClassFile where
  minorVersion := 0
  majorVersion := 65
  constantPool := pool
  accessFlags := fl
  thisClass := this
  superClass := sup
  interfaces := ifs
  fields := fds
  methods := ms
  attributes := attrs
def plain (name : String) (sup : Option ClassId) : Class where
  name := name
  kind := .ordinary
  loader := none
  accessFlags := 33
  super := sup
  interfaces := #[]
  cf := none
  fields := #[]
  methods := #[]
  instanceTypes := #[]
  staticTypes := #[]
  resolved := #[]
  callSites := []
  init := .initialized
  statics := none
  mirror := none

def pool0 : Array CpInfo := pool [(5, u "<init>"), (0, u "()V"), (1, .class_ 10), (1, u "java/lang/Object")] 113

def k0c0 : Code := { maxStack := 0, maxLocals := 1, code := object_method_1_code, exceptionTable := #[], attributes := #[] }
def k0m0 : Method := { name := "<init>", desc := "()V", sig := { parameters := [], returnType := none }, accessFlags := 1, code := some k0c0 }
/-- java/lang/Object -/
def k0 : Class := { plain "java/lang/Object" none with
  accessFlags := 33
  interfaces := #[]
  cf := some (fileOf pool0 8 #[] #[{ accessFlags := 1, nameIndex := 5, descriptorIndex := 6, attributes := #[] }] 33 0 #[] #[])
  fields := #[]
  methods := #[k0m0]
  instanceTypes := #[]
  staticTypes := #[]
  resolved := Array.replicate 124 none
  statics := none }

def pool1 : Array CpInfo := pool [(2, .class_ 4), (0, .nameAndType 5 6), (0, u "java/lang/Object"), (0, u "<init>"), (0, u "()V"), (0, .class_ 8), (0, u "com/example/tideloop/tideloop/Message"), (0, .methodref 7 3), (0, .fieldref 7 11), (0, .nameAndType 12 13), (0, u "what"), (0, u "I"), (0, .fieldref 7 15), (0, .nameAndType 16 17), (0, u "nextPooled"), (0, u "Lcom/example/tideloop/tideloop/Message;"), (0, .class_ 19), (0, u "com/example/tideloop/tideloop/MessagePool"), (0, .methodref 18 21), (0, .nameAndType 5 22), (0, u "(I)V"), (0, .methodref 18 24), (0, .nameAndType 25 26), (0, u "keep"), (0, u "(Lcom/example/tideloop/tideloop/Message;)V"), (0, .methodref 28 29), (0, .class_ 30), (0, .nameAndType 31 32), (0, u "java/lang/Math"), (0, u "max"), (0, u "(II)I"), (0, .methodref 28 34), (0, .nameAndType 35 32), (0, u "min"), (0, .methodref 18 37), (0, .nameAndType 38 39), (0, u "take"), (0, u "()Lcom/example/tideloop/tideloop/Message;"), (0, .methodref 41 42), (0, .class_ 43), (0, .nameAndType 44 45), (0, u "com/example/tideloop/tideloop/MessagePoolKeepPinLaw"), (0, u "check"), (0, u "(Lcom/example/tideloop/tideloop/Message;IILcom/example/tideloop/tideloop/Message;Lcom/example/tideloop/tideloop/Message;Lcom/example/tideloop/tideloop/Message;III)Z"), (2, u "law"), (0, u "(IIIII)Z")] 3

def k1m0 : Method := { name := "<init>", desc := "()V", sig := { parameters := [], returnType := none }, accessFlags := 1, code := none }
def k1c1 : Code := { maxStack := 9, maxLocals := 16, code := code, exceptionTable := #[], attributes := #[] }
def k1m1 : Method := { name := "law", desc := "(IIIII)Z", sig := { parameters := [.int, .int, .int, .int, .int], returnType := some .boolean }, accessFlags := 9, code := some k1c1 }
def k1c2 : Code := { maxStack := 2, maxLocals := 12, code := method_3_code, exceptionTable := #[], attributes := #[] }
def k1m2 : Method := { name := "check", desc := "(Lcom/example/tideloop/tideloop/Message;IILcom/example/tideloop/tideloop/Message;Lcom/example/tideloop/tideloop/Message;Lcom/example/tideloop/tideloop/Message;III)Z", sig := { parameters := [(.object "com/example/tideloop/tideloop/Message"), .int, .int, (.object "com/example/tideloop/tideloop/Message"), (.object "com/example/tideloop/tideloop/Message"), (.object "com/example/tideloop/tideloop/Message"), .int, .int, .int], returnType := some .boolean }, accessFlags := 10, code := some k1c2 }
/-- com/example/tideloop/tideloop/MessagePoolKeepPinLaw -/
def k1 : Class := { plain "com/example/tideloop/tideloop/MessagePoolKeepPinLaw" (some 0) with
  accessFlags := 49
  interfaces := #[]
  cf := some (fileOf pool1 41 #[] #[{ accessFlags := 1, nameIndex := 5, descriptorIndex := 6, attributes := #[] }, { accessFlags := 9, nameIndex := 48, descriptorIndex := 49, attributes := #[] }, { accessFlags := 10, nameIndex := 44, descriptorIndex := 45, attributes := #[] }] 49 2 #[] #[])
  fields := #[]
  methods := #[k1m0, k1m1, k1m2]
  instanceTypes := #[]
  staticTypes := #[]
  resolved := Array.replicate 53 none
  statics := none }

def pool2 : Array CpInfo := pool [(1, .methodref 2 3), (0, .class_ 4), (0, .nameAndType 5 6), (0, u "java/lang/Object"), (0, u "<init>"), (0, u "()V"), (1, .class_ 10), (1, u "com/example/tideloop/tideloop/Message"), (0, u "POOL"), (0, u "Lcom/example/tideloop/tideloop/MessagePool;"), (8, u "when"), (0, u "J"), (2, u "target"), (0, u "Lcom/example/tideloop/tideloop/Handler;"), (2, u "callback"), (0, u "Ljava/lang/Runnable;"), (2, u "asynchronous"), (0, u "Z"), (19, u "obj"), (0, u "Ljava/lang/Object;"), (2, u "inUse"), (5, u "filedObj"), (2, u "what"), (0, u "I"), (2, u "arg1"), (2, u "arg2"), (2, u "seq"), (2, u "place"), (2, u "filedAsync"), (2, u "filedWhat"), (3, u "POOL_CAPACITY"), (2, u "keyPrev"), (0, u "Lcom/example/tideloop/tideloop/Message;"), (0, u "keyNext"), (0, u "objPrev"), (0, u "objNext"), (0, u "nextPooled")] 25

def k2c0 : Code := { maxStack := 1, maxLocals := 1, code := prog_20_method_1_code, exceptionTable := #[], attributes := #[] }
def k2m0 : Method := { name := "<init>", desc := "()V", sig := { parameters := [], returnType := none }, accessFlags := 0, code := some k2c0 }
/-- com/example/tideloop/tideloop/Message -/
def k2 : Class := { plain "com/example/tideloop/tideloop/Message" (some 0) with
  accessFlags := 33
  interfaces := #[]
  cf := some (fileOf pool2 8 #[] #[{ accessFlags := 0, nameIndex := 5, descriptorIndex := 6, attributes := #[] }] 33 2 #[] #[{ accessFlags := 24, nameIndex := 90, descriptorIndex := 68, attributes := #[] }, { accessFlags := 26, nameIndex := 11, descriptorIndex := 12, attributes := #[] }, { accessFlags := 1, nameIndex := 67, descriptorIndex := 68, attributes := #[] }, { accessFlags := 1, nameIndex := 71, descriptorIndex := 68, attributes := #[] }, { accessFlags := 1, nameIndex := 74, descriptorIndex := 68, attributes := #[] }, { accessFlags := 1, nameIndex := 54, descriptorIndex := 55, attributes := #[] }, { accessFlags := 0, nameIndex := 25, descriptorIndex := 26, attributes := #[] }, { accessFlags := 0, nameIndex := 29, descriptorIndex := 30, attributes := #[] }, { accessFlags := 0, nameIndex := 21, descriptorIndex := 22, attributes := #[] }, { accessFlags := 0, nameIndex := 77, descriptorIndex := 22, attributes := #[] }, { accessFlags := 0, nameIndex := 58, descriptorIndex := 34, attributes := #[] }, { accessFlags := 0, nameIndex := 80, descriptorIndex := 68, attributes := #[] }, { accessFlags := 0, nameIndex := 83, descriptorIndex := 34, attributes := #[] }, { accessFlags := 0, nameIndex := 86, descriptorIndex := 68, attributes := #[] }, { accessFlags := 0, nameIndex := 64, descriptorIndex := 55, attributes := #[] }, { accessFlags := 0, nameIndex := 93, descriptorIndex := 94, attributes := #[] }, { accessFlags := 0, nameIndex := 95, descriptorIndex := 94, attributes := #[] }, { accessFlags := 0, nameIndex := 96, descriptorIndex := 94, attributes := #[] }, { accessFlags := 0, nameIndex := 97, descriptorIndex := 94, attributes := #[] }, { accessFlags := 0, nameIndex := 98, descriptorIndex := 94, attributes := #[] }, { accessFlags := 2, nameIndex := 33, descriptorIndex := 34, attributes := #[] }])
  fields := #[{ name := "POOL_CAPACITY", type := .int, accessFlags := 24, slot := 0, constantValue := 0 }, { name := "POOL", type := (.object "com/example/tideloop/tideloop/MessagePool"), accessFlags := 26, slot := 1, constantValue := 0 }, { name := "what", type := .int, accessFlags := 1, slot := 0, constantValue := 0 }, { name := "arg1", type := .int, accessFlags := 1, slot := 1, constantValue := 0 }, { name := "arg2", type := .int, accessFlags := 1, slot := 2, constantValue := 0 }, { name := "obj", type := (.object "java/lang/Object"), accessFlags := 1, slot := 3, constantValue := 0 }, { name := "target", type := (.object "com/example/tideloop/tideloop/Handler"), accessFlags := 0, slot := 4, constantValue := 0 }, { name := "callback", type := (.object "java/lang/Runnable"), accessFlags := 0, slot := 5, constantValue := 0 }, { name := "when", type := .long, accessFlags := 0, slot := 6, constantValue := 0 }, { name := "seq", type := .long, accessFlags := 0, slot := 7, constantValue := 0 }, { name := "inUse", type := .boolean, accessFlags := 0, slot := 8, constantValue := 0 }, { name := "place", type := .int, accessFlags := 0, slot := 9, constantValue := 0 }, { name := "filedAsync", type := .boolean, accessFlags := 0, slot := 10, constantValue := 0 }, { name := "filedWhat", type := .int, accessFlags := 0, slot := 11, constantValue := 0 }, { name := "filedObj", type := (.object "java/lang/Object"), accessFlags := 0, slot := 12, constantValue := 0 }, { name := "keyPrev", type := (.object "com/example/tideloop/tideloop/Message"), accessFlags := 0, slot := 13, constantValue := 0 }, { name := "keyNext", type := (.object "com/example/tideloop/tideloop/Message"), accessFlags := 0, slot := 14, constantValue := 0 }, { name := "objPrev", type := (.object "com/example/tideloop/tideloop/Message"), accessFlags := 0, slot := 15, constantValue := 0 }, { name := "objNext", type := (.object "com/example/tideloop/tideloop/Message"), accessFlags := 0, slot := 16, constantValue := 0 }, { name := "nextPooled", type := (.object "com/example/tideloop/tideloop/Message"), accessFlags := 0, slot := 17, constantValue := 0 }, { name := "asynchronous", type := .boolean, accessFlags := 2, slot := 18, constantValue := 0 }]
  methods := #[k2m0]
  instanceTypes := #[.int, .int, .int, (.object "java/lang/Object"), (.object "com/example/tideloop/tideloop/Handler"), (.object "java/lang/Runnable"), .long, .long, .boolean, .int, .boolean, .int, (.object "java/lang/Object"), (.object "com/example/tideloop/tideloop/Message"), (.object "com/example/tideloop/tideloop/Message"), (.object "com/example/tideloop/tideloop/Message"), (.object "com/example/tideloop/tideloop/Message"), (.object "com/example/tideloop/tideloop/Message"), .boolean]
  staticTypes := #[.int, (.object "com/example/tideloop/tideloop/MessagePool")]
  resolved := Array.replicate 124 none
  statics := none }

def pool3 : Array CpInfo := pool [(1, .methodref 2 3), (0, .class_ 4), (0, .nameAndType 5 6), (0, u "java/lang/Object"), (0, u "<init>"), (0, u "()V"), (0, .fieldref 8 9), (0, .class_ 10), (0, .nameAndType 11 12), (0, u "com/example/tideloop/tideloop/MessagePool"), (0, u "capacity"), (0, u "I"), (0, .fieldref 8 14), (0, .nameAndType 15 16), (0, u "head"), (0, u "Lcom/example/tideloop/tideloop/Message;"), (0, .class_ 18), (0, u "com/example/tideloop/tideloop/Message"), (0, .methodref 17 3), (0, .fieldref 17 21), (0, .nameAndType 22 16), (0, u "nextPooled"), (0, .fieldref 8 24), (0, .nameAndType 25 12), (0, u "size"), (5, u "keep"), (0, u "(Lcom/example/tideloop/tideloop/Message;)V"), (0, u "(I)V"), (2, u "take"), (0, u "()Lcom/example/tideloop/tideloop/Message;")] 4

def k3c0 : Code := { maxStack := 2, maxLocals := 2, code := prog_24_method_1_code, exceptionTable := #[], attributes := #[] }
def k3m0 : Method := { name := "<init>", desc := "(I)V", sig := { parameters := [.int], returnType := none }, accessFlags := 0, code := some k3c0 }
def k3c1 : Code := { maxStack := 3, maxLocals := 2, code := prog_24_method_2_code, exceptionTable := #[], attributes := #[] }
def k3m1 : Method := { name := "take", desc := "()Lcom/example/tideloop/tideloop/Message;", sig := { parameters := [], returnType := some (.object "com/example/tideloop/tideloop/Message") }, accessFlags := 0, code := some k3c1 }
def k3c2 : Code := { maxStack := 3, maxLocals := 2, code := prog_24_method_4_code, exceptionTable := #[], attributes := #[] }
def k3m2 : Method := { name := "keep", desc := "(Lcom/example/tideloop/tideloop/Message;)V", sig := { parameters := [(.object "com/example/tideloop/tideloop/Message")], returnType := none }, accessFlags := 0, code := some k3c2 }
/-- com/example/tideloop/tideloop/MessagePool -/
def k3 : Class := { plain "com/example/tideloop/tideloop/MessagePool" (some 0) with
  accessFlags := 32
  interfaces := #[]
  cf := some (fileOf pool3 8 #[] #[{ accessFlags := 0, nameIndex := 5, descriptorIndex := 33, attributes := #[] }, { accessFlags := 0, nameIndex := 36, descriptorIndex := 37, attributes := #[] }, { accessFlags := 0, nameIndex := 31, descriptorIndex := 32, attributes := #[] }] 32 2 #[] #[{ accessFlags := 18, nameIndex := 11, descriptorIndex := 12, attributes := #[] }, { accessFlags := 2, nameIndex := 15, descriptorIndex := 16, attributes := #[] }, { accessFlags := 2, nameIndex := 25, descriptorIndex := 12, attributes := #[] }])
  fields := #[{ name := "capacity", type := .int, accessFlags := 18, slot := 0, constantValue := 0 }, { name := "head", type := (.object "com/example/tideloop/tideloop/Message"), accessFlags := 2, slot := 1, constantValue := 0 }, { name := "size", type := .int, accessFlags := 2, slot := 2, constantValue := 0 }]
  methods := #[k3m0, k3m1, k3m2]
  instanceTypes := #[.int, (.object "com/example/tideloop/tideloop/Message"), .int]
  staticTypes := #[]
  resolved := Array.replicate 42 none
  statics := none }

def pool4 : Array CpInfo := pool [(1, .class_ 2), (0, u "java/lang/Math"), (1, .class_ 6), (1, u "java/lang/Object"), (0, u "<init>"), (0, u "()V"), (89, .class_ 100), (1, u "java/lang/Math$RandomNumberGeneratorHolder"), (71, u "negativeZeroFloatBits"), (0, u "J"), (2, u "negativeZeroDoubleBits"), (21, u "max"), (2, u "min"), (43, u "$assertionsDisabled"), (0, u "Z"), (88, u "(II)I"), (2, u "twoToTheDoubleScaleDown"), (0, u "D"), (4, u "twoToTheDoubleScaleUp"), (9, u "E"), (3, u "PI"), (2, u "TAU"), (2, u "DEGREES_TO_RADIANS"), (0, u "RADIANS_TO_DEGREES")] 94

def k4m0 : Method := { name := "<init>", desc := "()V", sig := { parameters := [], returnType := none }, accessFlags := 2, code := none }
def k4c1 : Code := { maxStack := 2, maxLocals := 2, code := jdk_29_method_65_code, exceptionTable := #[], attributes := #[] }
def k4m1 : Method := { name := "max", desc := "(II)I", sig := { parameters := [.int, .int], returnType := some .int }, accessFlags := 9, code := some k4c1 }
def k4c2 : Code := { maxStack := 2, maxLocals := 2, code := jdk_29_method_69_code, exceptionTable := #[], attributes := #[] }
def k4m2 : Method := { name := "min", desc := "(II)I", sig := { parameters := [.int, .int], returnType := some .int }, accessFlags := 9, code := some k4c2 }
/-- java/lang/Math -/
def k4 : Class := { plain "java/lang/Math" (some 0) with
  accessFlags := 49
  interfaces := #[]
  cf := some (fileOf pool4 1 #[.nestMembers #[98]] #[{ accessFlags := 2, nameIndex := 7, descriptorIndex := 8, attributes := #[] }, { accessFlags := 9, nameIndex := 198, descriptorIndex := 335, attributes := #[] }, { accessFlags := 9, nameIndex := 201, descriptorIndex := 335, attributes := #[] }] 49 4 #[] #[{ accessFlags := 25, nameIndex := 354, descriptorIndex := 339, attributes := #[] }, { accessFlags := 25, nameIndex := 358, descriptorIndex := 339, attributes := #[] }, { accessFlags := 25, nameIndex := 361, descriptorIndex := 339, attributes := #[] }, { accessFlags := 26, nameIndex := 364, descriptorIndex := 339, attributes := #[] }, { accessFlags := 26, nameIndex := 365, descriptorIndex := 339, attributes := #[] }, { accessFlags := 26, nameIndex := 172, descriptorIndex := 173, attributes := #[] }, { accessFlags := 26, nameIndex := 176, descriptorIndex := 173, attributes := #[] }, { accessFlags := 8, nameIndex := 344, descriptorIndex := 339, attributes := #[] }, { accessFlags := 8, nameIndex := 338, descriptorIndex := 339, attributes := #[] }, { accessFlags := 4120, nameIndex := 245, descriptorIndex := 246, attributes := #[] }])
  fields := #[{ name := "E", type := .double, accessFlags := 25, slot := 0, constantValue := 0 }, { name := "PI", type := .double, accessFlags := 25, slot := 1, constantValue := 0 }, { name := "TAU", type := .double, accessFlags := 25, slot := 2, constantValue := 0 }, { name := "DEGREES_TO_RADIANS", type := .double, accessFlags := 26, slot := 3, constantValue := 0 }, { name := "RADIANS_TO_DEGREES", type := .double, accessFlags := 26, slot := 4, constantValue := 0 }, { name := "negativeZeroFloatBits", type := .long, accessFlags := 26, slot := 5, constantValue := 0 }, { name := "negativeZeroDoubleBits", type := .long, accessFlags := 26, slot := 6, constantValue := 0 }, { name := "twoToTheDoubleScaleUp", type := .double, accessFlags := 8, slot := 7, constantValue := 0 }, { name := "twoToTheDoubleScaleDown", type := .double, accessFlags := 8, slot := 8, constantValue := 0 }, { name := "$assertionsDisabled", type := .boolean, accessFlags := 4120, slot := 9, constantValue := 0 }]
  methods := #[k4m0, k4m1, k4m2]
  instanceTypes := #[]
  staticTypes := #[.double, .double, .double, .double, .double, .long, .long, .double, .double, .boolean]
  resolved := Array.replicate 460 none
  statics := none }

def pool5 : Array CpInfo := pool [(1, u "java/lang/Cloneable"), (0, .class_ 1), (0, u "java/lang/Object"), (0, .class_ 3)] 3

/-- java/lang/Cloneable -/
def k5 : Class := { plain "java/lang/Cloneable" (some 0) with
  accessFlags := 1537
  interfaces := #[]
  cf := some (fileOf pool5 2 #[] #[] 1537 4 #[] #[])
  fields := #[]
  methods := #[]
  instanceTypes := #[]
  staticTypes := #[]
  resolved := Array.replicate 8 none
  statics := none }

def pool6 : Array CpInfo := pool [(1, u "java/io/Serializable"), (0, .class_ 1), (0, u "java/lang/Object"), (0, .class_ 3)] 3

/-- java/io/Serializable -/
def k6 : Class := { plain "java/io/Serializable" (some 0) with
  accessFlags := 1537
  interfaces := #[]
  cf := some (fileOf pool6 2 #[] #[] 1537 4 #[] #[])
  fields := #[]
  methods := #[]
  instanceTypes := #[]
  staticTypes := #[]
  resolved := Array.replicate 8 none
  statics := none }

/-- the primitive byte -/
def k7 : Class := { plain "byte" none with kind := .primitive 'B', accessFlags := 0x411 }
/-- [B -/
def k8 : Class := { plain "[B" (some 0) with kind := .array 7 .byte, interfaces := #[5, 6], accessFlags := 1041 }

/-- the primitive int -/
def k9 : Class := { plain "int" none with kind := .primitive 'I', accessFlags := 0x411 }
/-- [I -/
def k10 : Class := { plain "[I" (some 0) with kind := .array 9 .int, interfaces := #[5, 6], accessFlags := 1041 }

def heap : Heap := #[]
def classes : Array Class := #[k0, k1, k2, k3, k4, k5, k6, k7, k8, k9, k10]
def interned : List (Array UInt16 × Addr) := []
def slotsUsed : Nat := 0
def theMethod : MethodId := ⟨1, 1⟩
def args0 : Array Value := #[.int 5, .int 7, .int 1, .int 5, .int 3]
def aboutOver (below : List Frame) : State where
  vm := { classes := classes, interned := interned.toArray }
  heap := heap
  slotsUsed := slotsUsed
  threads := #[{ frames := .invoking theMethod args0 :: below }]
def below0 : List Frame := [.native { method := ⟨0, 0⟩, args := #[] }]
def about1 : State := aboutOver below0
def p0 : Program := .bare "" "" ""
def e0 : Env := launch0.env 0 0 0
theorem w_frames : about1.frames = Frame.invoking theMethod args0 :: below0 := rfl
set_option maxRecDepth 65536 in
theorem w_args : argsFit about1.vm theMethod args0 = true := by decide +kernel
set_option maxRecDepth 65536 in
theorem w_heap : heapFits about1 = true := by decide +kernel
set_option maxRecDepth 65536 in
theorem w_runnable : about1.curStatus? = some .runnable := by decide +kernel
set_option maxRecDepth 65536 in
theorem w_alone : about1.alone = true := by decide +kernel
set_option maxRecDepth 65536 in
theorem w_named : about1.methodNamed? x = some theMethod := by decide +kernel
set_option maxRecDepth 65536 in
theorem w_hears : about1.hears theMethod below0 = true := by decide +kernel
set_option maxRecDepth 65536 in
theorem w_ripe : about1.ripe theMethod args0 below0 = true := by decide +kernel
theorem w_running : about1.status = .running := rfl
set_option maxRecDepth 65536 in
theorem w_room : about1.hasRoom e0.platform room_1 = true :=
  launch0.hasRoom_least _ room_1 (by decide +kernel) (by decide +kernel) (by decide +kernel) (by decide +kernel) (by decide +kernel) (by decide +kernel)
theorem allAtoms_all (ts : List Jvm.Cond) (a : Array Jvm.Value) (st : Jvm.State) : (allAtoms ts).before a st = ts.all (fun c => c.before a st) := by
  induction ts with
  | nil => rfl
  | cons c t ih =>
    show (Jvm.Cond.and c (allAtoms t)).before a st = _
    rw [Jvm.Cond.before_and, ih, List.all_cons]
def words1 : List Jvm.Cond := Jvm.Cond.code x code maxLocals ret :: tables_1
/-- a 'code' word, met by the world's own term for the bytes: nothing is compared byte by byte -/
theorem code_word {y : MethodName} {bytes : ByteArray} {mx : Nat} {rt : Option FieldType} {a : Array Value} {s : State} {m : MethodId} {meth : Method} {c : Code} (h1 : s.methodNamed? y = some m) (h2 : s.vm.method? m = some meth) (h3 : meth.code = some c) (h4 : c.code = bytes)
    (h5 : (c.maxLocals == mx && c.exceptionTable.isEmpty && decide (c.maxStack ≤ mostOperands) && decide (meth.sig.returnType = rt) && !meth.locks && decide (parseMethodDescriptor y.desc = some meth.sig)) = true) : (Jvm.Cond.code y bytes mx rt).before a s = true := by
  simp only [Bool.and_eq_true, beq_iff_eq, Bool.not_eq_true', decide_eq_true_eq] at h5
  obtain ⟨⟨⟨⟨⟨g1, g2⟩, g3⟩, g4⟩, g5⟩, g6⟩ := h5
  simp [Cond.before, Cond.holds, Cond.value, h1, h2, h3, h4, g1, g2, g3, g4, g5, g6]
def isCode : Jvm.Cond → Bool
  | .code _ _ _ _ => true
  | _ => false
theorem all_split {L : List Jvm.Cond} {P : Jvm.Cond → Bool} (h1 : L.all (fun c => isCode c || P c) = true) (h2 : ∀ c ∈ L.filter isCode, P c = true) : L.all P = true := by
  refine List.all_eq_true.mpr fun c hc => ?_
  have h := List.all_eq_true.mp h1 c hc
  rcases Bool.eq_false_or_eq_true (isCode c) with hi | hi
  · exact h2 c (List.mem_filter.mpr ⟨hc, hi⟩)
  · simpa [hi] using h
set_option maxRecDepth 65536 in
theorem w_c0 : (Jvm.Cond.code x code maxLocals ret).before args0 about1 = true := code_word (m := ⟨1, 1⟩) (meth := k1m1) (c := k1c1) (by decide +kernel) rfl rfl rfl (by decide +kernel)
set_option maxRecDepth 65536 in
theorem w_c1 : (Jvm.Cond.code ({ cls := "com/example/tideloop/tideloop/Message", name := "<init>", desc := "()V" } : Jvm.MethodName) prog_20_method_1_code (1 : Nat) (Option.none : Option Jvm.ClassFile.FieldType)).before args0 about1 = true := code_word (m := ⟨2, 0⟩) (meth := k2m0) (c := k2c0) (by decide +kernel) rfl rfl rfl (by decide +kernel)
set_option maxRecDepth 65536 in
theorem w_c2 : (Jvm.Cond.code ({ cls := "java/lang/Object", name := "<init>", desc := "()V" } : Jvm.MethodName) object_method_1_code (1 : Nat) (Option.none : Option Jvm.ClassFile.FieldType)).before args0 about1 = true := code_word (m := ⟨0, 0⟩) (meth := k0m0) (c := k0c0) (by decide +kernel) rfl rfl rfl (by decide +kernel)
set_option maxRecDepth 65536 in
theorem w_c3 : (Jvm.Cond.code ({ cls := "com/example/tideloop/tideloop/MessagePool", name := "<init>", desc := "(I)V" } : Jvm.MethodName) prog_24_method_1_code (2 : Nat) (Option.none : Option Jvm.ClassFile.FieldType)).before args0 about1 = true := code_word (m := ⟨3, 0⟩) (meth := k3m0) (c := k3c0) (by decide +kernel) rfl rfl rfl (by decide +kernel)
set_option maxRecDepth 65536 in
theorem w_c4 : (Jvm.Cond.code ({ cls := "com/example/tideloop/tideloop/MessagePool", name := "keep", desc := "(Lcom/example/tideloop/tideloop/Message;)V" } : Jvm.MethodName) prog_24_method_4_code (2 : Nat) (Option.none : Option Jvm.ClassFile.FieldType)).before args0 about1 = true := code_word (m := ⟨3, 2⟩) (meth := k3m2) (c := k3c2) (by decide +kernel) rfl rfl rfl (by decide +kernel)
set_option maxRecDepth 65536 in
theorem w_c5 : (Jvm.Cond.code ({ cls := "java/lang/Math", name := "max", desc := "(II)I" } : Jvm.MethodName) jdk_29_method_65_code (2 : Nat) (Option.some Jvm.ClassFile.FieldType.int)).before args0 about1 = true := code_word (m := ⟨4, 1⟩) (meth := k4m1) (c := k4c1) (by decide +kernel) rfl rfl rfl (by decide +kernel)
set_option maxRecDepth 65536 in
theorem w_c6 : (Jvm.Cond.code ({ cls := "java/lang/Math", name := "min", desc := "(II)I" } : Jvm.MethodName) jdk_29_method_69_code (2 : Nat) (Option.some Jvm.ClassFile.FieldType.int)).before args0 about1 = true := code_word (m := ⟨4, 2⟩) (meth := k4m2) (c := k4c2) (by decide +kernel) rfl rfl rfl (by decide +kernel)
set_option maxRecDepth 65536 in
theorem w_c7 : (Jvm.Cond.code ({ cls := "com/example/tideloop/tideloop/MessagePool", name := "take", desc := "()Lcom/example/tideloop/tideloop/Message;" } : Jvm.MethodName) prog_24_method_2_code (2 : Nat) (Option.some (Jvm.ClassFile.FieldType.object "com/example/tideloop/tideloop/Message"))).before args0 about1 = true := code_word (m := ⟨3, 1⟩) (meth := k3m1) (c := k3c1) (by decide +kernel) rfl rfl rfl (by decide +kernel)
set_option maxRecDepth 65536 in
theorem w_c8 : (Jvm.Cond.code ({ cls := "com/example/tideloop/tideloop/MessagePoolKeepPinLaw", name := "check", desc := "(Lcom/example/tideloop/tideloop/Message;IILcom/example/tideloop/tideloop/Message;Lcom/example/tideloop/tideloop/Message;Lcom/example/tideloop/tideloop/Message;III)Z" } : Jvm.MethodName) method_3_code (12 : Nat) (Option.some Jvm.ClassFile.FieldType.boolean)).before args0 about1 = true := code_word (m := ⟨1, 2⟩) (meth := k1m2) (c := k1c2) (by decide +kernel) rfl rfl rfl (by decide +kernel)
def codes1 : List Jvm.Cond := [Jvm.Cond.code x code maxLocals ret, Jvm.Cond.code ({ cls := "com/example/tideloop/tideloop/Message", name := "<init>", desc := "()V" } : Jvm.MethodName) prog_20_method_1_code (1 : Nat) (Option.none : Option Jvm.ClassFile.FieldType), Jvm.Cond.code ({ cls := "java/lang/Object", name := "<init>", desc := "()V" } : Jvm.MethodName) object_method_1_code (1 : Nat) (Option.none : Option Jvm.ClassFile.FieldType), Jvm.Cond.code ({ cls := "com/example/tideloop/tideloop/MessagePool", name := "<init>", desc := "(I)V" } : Jvm.MethodName) prog_24_method_1_code (2 : Nat) (Option.none : Option Jvm.ClassFile.FieldType), Jvm.Cond.code ({ cls := "com/example/tideloop/tideloop/MessagePool", name := "keep", desc := "(Lcom/example/tideloop/tideloop/Message;)V" } : Jvm.MethodName) prog_24_method_4_code (2 : Nat) (Option.none : Option Jvm.ClassFile.FieldType), Jvm.Cond.code ({ cls := "java/lang/Math", name := "max", desc := "(II)I" } : Jvm.MethodName) jdk_29_method_65_code (2 : Nat) (Option.some Jvm.ClassFile.FieldType.int), Jvm.Cond.code ({ cls := "java/lang/Math", name := "min", desc := "(II)I" } : Jvm.MethodName) jdk_29_method_69_code (2 : Nat) (Option.some Jvm.ClassFile.FieldType.int), Jvm.Cond.code ({ cls := "com/example/tideloop/tideloop/MessagePool", name := "take", desc := "()Lcom/example/tideloop/tideloop/Message;" } : Jvm.MethodName) prog_24_method_2_code (2 : Nat) (Option.some (Jvm.ClassFile.FieldType.object "com/example/tideloop/tideloop/Message")), Jvm.Cond.code ({ cls := "com/example/tideloop/tideloop/MessagePoolKeepPinLaw", name := "check", desc := "(Lcom/example/tideloop/tideloop/Message;IILcom/example/tideloop/tideloop/Message;Lcom/example/tideloop/tideloop/Message;Lcom/example/tideloop/tideloop/Message;III)Z" } : Jvm.MethodName) method_3_code (12 : Nat) (Option.some Jvm.ClassFile.FieldType.boolean)]
set_option maxRecDepth 65536 in
theorem codes_eq : words1.filter isCode = codes1 := rfl
theorem w_codes : ∀ c ∈ words1.filter isCode, c.before args0 about1 = true := by
  rw [codes_eq]
  intro c hc
  simp only [codes1, List.mem_cons, List.not_mem_nil, or_false] at hc
  rcases hc with rfl | rfl | rfl | rfl | rfl | rfl | rfl | rfl | rfl
  · exact w_c0
  · exact w_c1
  · exact w_c2
  · exact w_c3
  · exact w_c4
  · exact w_c5
  · exact w_c6
  · exact w_c7
  · exact w_c8
set_option maxRecDepth 65536 in
theorem w_t1 : (words1.take 24).all (fun c => isCode c || c.before args0 about1) = true := by decide +kernel
set_option maxRecDepth 65536 in
theorem w_t2 : ((words1.drop 24).take 24).all (fun c => isCode c || c.before args0 about1) = true := by decide +kernel
set_option maxRecDepth 65536 in
theorem w_t3 : ((words1.drop 24).drop 24).all (fun c => isCode c || c.before args0 about1) = true := by decide +kernel
theorem w_tables : (allAtoms (Jvm.Cond.code x code maxLocals ret :: tables_1)).before args0 about1 = true := by
  rw [allAtoms_all]
  show words1.all (fun c => c.before args0 about1) = true
  refine all_split ?_ w_codes
  rw [← List.take_append_drop 24 words1, List.all_append, w_t1, ← List.take_append_drop 24 (words1.drop 24), List.all_append, w_t2, w_t3]
  rfl
set_option maxRecDepth 65536 in
theorem w_case : (Jvm.Cond.and given_1 narrow_1).before args0 about1 = true := by decide +kernel
theorem w_applies : (headSpec (Jvm.Cond.code x code maxLocals ret :: tables_1) room_1).applies x e0.platform about1 = true :=
  (Spec.applies_iff w_frames).mpr ⟨w_running, w_runnable, w_alone, w_named, w_hears, w_ripe, w_room, w_tables⟩
theorem atStart : AtStart classFile x code maxLocals ret World_1 tables_1 room_1 Calls_1 rest_1 Pre_1 launch0 p0 e0 about1 theMethod args0 below0 :=
  ⟨lists_1, trivial, launch0.admits_env _ _ _, launch0.least_env, fairChoices_fair.cas, fairChoices_fair.clock, w_frames, w_args, w_heap, w_applies, trivial, trivial, w_case⟩
end start1
theorem witness_1 : WitnessClaimed_1 := ⟨start1.p0, start1.e0, start1.about1, start1.theMethod, start1.args0, start1.below0, start1.atStart⟩
end Jvm.Pilot.@@N@@
