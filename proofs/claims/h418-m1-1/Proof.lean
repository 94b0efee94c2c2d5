import JvmDerived
import JvmDerived.Pilot.@@N@@Statement
import JvmDerived.Pilot.@@N@@Code
set_option linter.unusedVariables false
set_option linter.unusedSimpArgs false
namespace Jvm.RoadKit
open Sem ClassFile Op Lib Jvm.Stand Jvm.Free Jvm.LawKit
section New
variable {p : Program} {l : Launch} {e : Env} {R : Room} {s : State} {m : MethodId} {args : Array Value} {below : List Frame} {meth : Method} {c : Code} {T : State} {locs : List Loc} {cells slots : Nat}
theorem retI (X : Stand p l e R s m args below meth c T locs cells slots) (hx : p.tables.exec = Jvm.exec) {pc : Nat} {Ls : Array Slot} {z : Int32} {rest : List Value} (hret : meth.sig.returnType = some .int) (hd : decode c.code pc = .ok (.ireturn, 1)) {fs : List Frame}
    (hl : ∀ (f : JFrame) (acts : List Action), f.method = m → f.locked = none → f.entered = [] → (doReturn e (T.setTop f) acts (some (.int z))).1 = T.setFrames fs) : Steps p.tables e below (T.setTop (mkF m pc Ls (.int z :: rest))) (T.setFrames fs) := by
  have hm' : T.vm.method? m = some meth := X.method'
  have hn : narrow .int (.int z) = .int z := rfl
  show Steps p.tables e below (T.setTop { method := m, pc := pc, locals := Ls, stack := _ :: rest, locked := none }) _
  jvm_step X.here [X.here.top, hx, hd, hm', hret, hn]
  first | (intro acts; rw [hl _ acts rfl rfl rfl]) | rw [hl _ _ rfl rfl rfl]
  exact Steps.refl _
end New
end Jvm.RoadKit
namespace Jvm.Pilot.@@N@@
open Jvm Jvm.ClassFile Sem Op Lib Jvm.Free Jvm.Stand Jvm.LawKit Jvm.RoadKit Bundle Jvm.Pilot.@@N@@.Jvm.D
theorem own_bt {P : Prop} [Decidable P] (h : P) : ifCond.holds .eq (if P then (1 : Int32) else (0 : Int32)) = false ∧ ifCond.holds .ne (if P then (1 : Int32) else (0 : Int32)) = true := by rw [if_pos h]; exact ⟨rfl, rfl⟩
theorem own_bf {P : Prop} [Decidable P] (h : ¬ P) : ifCond.holds .eq (if P then (1 : Int32) else (0 : Int32)) = true ∧ ifCond.holds .ne (if P then (1 : Int32) else (0 : Int32)) = false := by rw [if_neg h]; exact ⟨rfl, rfl⟩
theorem own_getI (L : List Int32) (i : Nat) : (List.map Value.int L).getD i (.int (0 : Int32)) = .int (L.getD i 0) := by
  simp only [List.getD_eq_getElem?_getD, List.getElem?_map]; cases L[i]? <;> rfl
theorem own_getJ (L : List Int64) (i : Nat) : (List.map Value.long L).getD i (.long (0 : Int64)) = .long (L.getD i 0) := by
  simp only [List.getD_eq_getElem?_getD, List.getElem?_map]; cases L[i]? <;> rfl
theorem own_setI (L : List Int32) (i : Nat) (x : Int32) : (List.map Value.int L).set i (.int x) = List.map Value.int (L.set i x) := (List.map_set).symm
theorem own_setJ (L : List Int64) (i : Nat) (x : Int64) : (List.map Value.long L).set i (.long x) = List.map Value.long (L.set i x) := (List.map_set).symm
theorem own_swne {x k : Int32} {n : Int} (h : ¬ x = k) (e : k.toInt = n) : n ≠ x.toInt := fun q => h (Int32.toInt_inj.mp (by rw [e, q]))
theorem d1_26 : decode prog_7_method_19_code 26 = .ok (.iload_n 2, 1) := by decide +kernel
theorem d1_27 : decode prog_7_method_19_code 27 = .ok (.ifCond .le 14, 3) := by decide +kernel
theorem d1_30 : decode prog_7_method_19_code 30 = .ok (.iinc 1 1, 3) := by decide +kernel
theorem d1_33 : decode prog_7_method_19_code 33 = .ok (.iload_n 2, 1) := by decide +kernel
theorem d1_34 : decode prog_7_method_19_code 34 = .ok (.bipush 10, 2) := by decide +kernel
theorem d1_36 : decode prog_7_method_19_code 36 = .ok (.idiv, 1) := by decide +kernel
theorem d1_37 : decode prog_7_method_19_code 37 = .ok (.istore_n 2, 1) := by decide +kernel
theorem d1_38 : decode prog_7_method_19_code 38 = .ok (.goto (-12), 3) := by decide +kernel
set_option maxRecDepth 65536 in
set_option maxHeartbeats 40000000 in
theorem own_turn {p : Program} {l : Launch} {e : Env} {R : Room} {s : State} {m : MethodId} {args : Array Value} {below : List Frame} {meth : Method} {c : Code} {T0 : State} {locs : List Loc} {cells slots : Nat} {Z : State} {a0 : Array Value} {h0 : Heap}
    (X0 : Stand p l e R s m args below meth c T0 locs cells slots) (hx : p.tables.exec = Jvm.exec) (hZ : Z.Warmed39 s.vm) (hw : ∀ d ∈ tables_1, d.before a0 Z = true) (hby : c.code = prog_7_method_19_code) (hml : c.maxLocals = 3) (hown : s.vm.findClass "com/example/tansy/tansy/metering/Labels" = some m.cls) (e0 : T0.heap = h0) (x0 : Int32) (cn : Int32) (rs : Int32) (hp : (0 : Int32) < rs) :
    Steps p.tables e below (T0.setTop (mkF m 26 #[.val (.int x0), .val (.int cn), .val (.int rs)] [])) (T0.setTop (mkF m 26 #[.val (.int x0), .val (.int (cn + (1 : Int32))), .val (.int (rs / (10 : Int32)))] [])) := by
  show Steps p.tables e below (T0.setTop (mkF m 26 #[.val (.int x0), .val (.int cn), .val (.int rs)] [])) _
  refine XS.iloadN X0.here hx rfl (hb hby d1_26) rfl ?_
  have hf1 : (0 : Int32) < rs := hp
  show Steps p.tables e below (T0.setTop (mkF m 27 #[.val (.int x0), .val (.int cn), .val (.int rs)] [(.int rs)])) _
  refine XS.ifNo X0.here hx rfl (hb hby d1_27) rfl ((if0 _ _).trans (tlt hf1).2.2.2) ?_
  show Steps p.tables e below (T0.setTop (mkF m 30 #[.val (.int x0), .val (.int cn), .val (.int rs)] [])) _
  refine XS.iinc X0.here hx rfl (hb hby d1_30) rfl (l' := #[.val (.int x0), .val (.int (cn + (1 : Int32))), .val (.int rs)]) rfl ?_
  show Steps p.tables e below (T0.setTop (mkF m 33 #[.val (.int x0), .val (.int (cn + (1 : Int32))), .val (.int rs)] [])) _
  refine XS.iloadN X0.here hx rfl (hb hby d1_33) rfl ?_
  show Steps p.tables e below (T0.setTop (mkF m 34 #[.val (.int x0), .val (.int (cn + (1 : Int32))), .val (.int rs)] [(.int rs)])) _
  refine XS.bipush X0.here hx rfl (hb hby d1_34) ?_
  show Steps p.tables e below (T0.setTop (mkF m 36 #[.val (.int x0), .val (.int (cn + (1 : Int32))), .val (.int rs)] [(.int (10 : Int32)), (.int rs)])) _
  refine XS.idiv X0.here hx rfl (hb hby d1_36) rfl (by decide) ?_
  show Steps p.tables e below (T0.setTop (mkF m 37 #[.val (.int x0), .val (.int (cn + (1 : Int32))), .val (.int rs)] [(.int (rs / (10 : Int32)))])) _
  refine XS.istoreN X0.here hx rfl (hb hby d1_37) rfl (l' := #[.val (.int x0), .val (.int (cn + (1 : Int32))), .val (.int (rs / (10 : Int32)))]) rfl ?_
  show Steps p.tables e below (T0.setTop (mkF m 38 #[.val (.int x0), .val (.int (cn + (1 : Int32))), .val (.int (rs / (10 : Int32)))] [])) _
  refine XS.goto X0.here hx rfl (pc0 := 38) (pc' := 26) rfl (hb hby d1_38) (by decide) (by decide) ?_
  exact Steps.refl _
set_option maxRecDepth 65536 in
set_option maxHeartbeats 40000000 in
theorem own_exit {p : Program} {l : Launch} {e : Env} {R : Room} {s : State} {m : MethodId} {args : Array Value} {below : List Frame} {meth : Method} {c : Code} {T0 : State} {locs : List Loc} {cells slots : Nat} {Z : State} {a0 : Array Value} {h0 : Heap}
    (X0 : Stand p l e R s m args below meth c T0 locs cells slots) (hx : p.tables.exec = Jvm.exec) (hZ : Z.Warmed39 s.vm) (hw : ∀ d ∈ tables_1, d.before a0 Z = true) (hby : c.code = prog_7_method_19_code) (hml : c.maxLocals = 3) (hown : s.vm.findClass "com/example/tansy/tansy/metering/Labels" = some m.cls) (e0 : T0.heap = h0) (x0 : Int32) (cn : Int32) (rs : Int32) (hp : ¬ (0 : Int32) < rs) :
    Steps p.tables e below (T0.setTop (mkF m 26 #[.val (.int x0), .val (.int cn), .val (.int rs)] [])) (T0.setTop (mkF m 41 #[.val (.int x0), .val (.int cn), .val (.int rs)] [])) := by
  show Steps p.tables e below (T0.setTop (mkF m 26 #[.val (.int x0), .val (.int cn), .val (.int rs)] [])) _
  refine XS.iloadN X0.here hx rfl (hb hby d1_26) rfl ?_
  have hf1 : ¬ ((0 : Int32) < rs) := hp
  show Steps p.tables e below (T0.setTop (mkF m 27 #[.val (.int x0), .val (.int cn), .val (.int rs)] [(.int rs)])) _
  refine XS.ifYes X0.here hx rfl (pc0 := 27) (pc' := 41) rfl (hb hby d1_27) rfl ((if0 _ _).trans (flt hf1).2.2.2) (by decide) (by decide) ?_
  exact Steps.refl _
def own_dig : Nat → Int32 → Int32 → Int32
  | 0, cn, _ => cn
  | k + 1, cn, rs => if (0 : Int32) < rs then own_dig k (cn + (1 : Int32)) (rs / (10 : Int32)) else cn
theorem own_loop {p : Program} {l : Launch} {e : Env} {R : Room} {s : State} {m : MethodId} {args : Array Value} {below : List Frame} {meth : Method} {c : Code} {T0 : State} {locs : List Loc} {cells slots : Nat} {Z : State} {a0 : Array Value} {h0 : Heap}
    (X0 : Stand p l e R s m args below meth c T0 locs cells slots) (hx : p.tables.exec = Jvm.exec) (hZ : Z.Warmed39 s.vm) (hw : ∀ d ∈ tables_1, d.before a0 Z = true) (hby : c.code = prog_7_method_19_code) (hml : c.maxLocals = 3) (hown : s.vm.findClass "com/example/tansy/tansy/metering/Labels" = some m.cls) (e0 : T0.heap = h0) (x0 : Int32) :
    ∀ (k : Nat) (cn rs : Int32), 0 ≤ rs.toInt → rs.toInt < 10 ^ k → ∃ r', Steps p.tables e below (T0.setTop (mkF m 26 #[.val (.int x0), .val (.int cn), .val (.int rs)] [])) (T0.setTop (mkF m 41 #[.val (.int x0), .val (.int (own_dig k cn rs)), .val (.int r')] []))
  | 0, cn, rs, h1, h2 => ⟨rs, own_exit X0 hx hZ hw hby hml hown e0 x0 cn rs (by rw [Int32.lt_iff_toInt_lt]; have : (0 : Int32).toInt = 0 := (by decide); simp only [Int.pow_zero] at h2; omega)⟩
  | k + 1, cn, rs, h1, h2 => by
    have k0 : (0 : Int32).toInt = 0 := by decide
    by_cases hp : (0 : Int32) < rs
    · have q := c_idiv rs 10 10 (by decide) (by decide)
      have q1 := q.1 h1
      have h2' : rs.toInt < 10 ^ k * 10 := by rw [Int.pow_succ] at h2; exact h2
      obtain ⟨r', st⟩ := own_loop X0 hx hZ hw hby hml hown e0 x0 k (cn + (1 : Int32)) (rs / (10 : Int32)) (by rw [q1]; omega) (by rw [q1]; generalize (10 : Int) ^ k = z at *; omega)
      refine ⟨r', ?_⟩
      rw [own_dig, if_pos hp]
      exact (own_turn X0 hx hZ hw hby hml hown e0 x0 cn rs hp).trans st
    · refine ⟨rs, ?_⟩
      rw [own_dig, if_neg hp]
      exact own_exit X0 hx hZ hw hby hml hown e0 x0 cn rs hp
theorem d1_0 : decode prog_7_method_19_code 0 = .ok (.iload_n 0, 1) := by decide +kernel
theorem d1_1 : decode prog_7_method_19_code 1 = .ok (.bipush 100, 2) := by decide +kernel
theorem d1_3 : decode prog_7_method_19_code 3 = .ok (.if_icmp .ge 15, 3) := by decide +kernel
theorem d1_6 : decode prog_7_method_19_code 6 = .ok (.iload_n 0, 1) := by decide +kernel
theorem d1_7 : decode prog_7_method_19_code 7 = .ok (.bipush 10, 2) := by decide +kernel
theorem d1_9 : decode prog_7_method_19_code 9 = .ok (.if_icmp .ge 7, 3) := by decide +kernel
theorem d1_12 : decode prog_7_method_19_code 12 = .ok (.iconst 1, 1) := by decide +kernel
theorem d1_13 : decode prog_7_method_19_code 13 = .ok (.goto 4, 3) := by decide +kernel
theorem d1_16 : decode prog_7_method_19_code 16 = .ok (.iconst 2, 1) := by decide +kernel
theorem d1_17 : decode prog_7_method_19_code 17 = .ok (.ireturn, 1) := by decide +kernel
theorem d1_18 : decode prog_7_method_19_code 18 = .ok (.iconst 3, 1) := by decide +kernel
theorem d1_19 : decode prog_7_method_19_code 19 = .ok (.istore_n 1, 1) := by decide +kernel
theorem d1_20 : decode prog_7_method_19_code 20 = .ok (.iload_n 0, 1) := by decide +kernel
theorem d1_21 : decode prog_7_method_19_code 21 = .ok (.sipush 1000, 3) := by decide +kernel
theorem d1_24 : decode prog_7_method_19_code 24 = .ok (.idiv, 1) := by decide +kernel
theorem d1_25 : decode prog_7_method_19_code 25 = .ok (.istore_n 2, 1) := by decide +kernel
theorem d1_41 : decode prog_7_method_19_code 41 = .ok (.iload_n 1, 1) := by decide +kernel
theorem d1_42 : decode prog_7_method_19_code 42 = .ok (.ireturn, 1) := by decide +kernel
theorem pn_0 : plainName "com/example/tansy/tansy/metering/Labels" = true := by first | (simp [plainName, overriddenIn]; done) | decide +kernel
theorem ef_1 (m : MethodId) (x0 : Int32)  : entryFrame m #[(.int x0)] 3 = mkF m 0 #[.val (.int x0), .unset, .unset] [] := by first | (simp [entryFrame, mkF, argsToLocals, Value.category]; done) | rfl
def F1 (x0 : Int32) : Int32 := if x0 < (100 : Int32) then (if x0 < (10 : Int32) then (1 : Int32) else (2 : Int32)) else (own_dig 7 (3 : Int32) (x0 / (1000 : Int32)))
def Q1 (Z : State) (x0 : Int32) (h0 : Heap) (n0 : Nat) (v : Option Value) (h : Heap) (L : List Loc) : Prop := v = some (.int (F1 x0)) ∧ Fr n0 L ∧ h = h0
set_option maxRecDepth 65536 in
set_option maxHeartbeats 40000000 in
theorem rm1 (l : Launch) (Z : State) (a0 : Array Value) (hw : ∀ d ∈ tables_1, d.before a0 Z = true) (ws : List Jvm.Cond) (x0 : Int32) (h0 : Heap) (n0 : Nat) (Z0 : n0 ≤ h0.size) :
    MetFree l (⟨"com/example/tansy/tansy/metering/Labels", "digits", "(I)I"⟩ : MethodName) (head1 (Jvm.Cond.code (⟨"com/example/tansy/tansy/metering/Labels", "digits", "(I)I"⟩ : MethodName) prog_7_method_19_code 3 (some .int) :: ws) ({ frames := 0, cells := 0, slots := 0, locals := 0 } : Room)) (fun a U => a = #[(.int x0)] ∧ Z.Warmed39 U.vm ∧ U.heap = h0) (fun _ _ _ _ _ => True) (fun _ U o U' => ∃ v L, o = .returned v ∧ Q1 Z x0 h0 n0 v U'.heap L ∧ FrameEnd U o U' L ({ frames := 0, cells := 0, slots := 0, locals := 0 } : Room).cells ({ frames := 0, cells := 0, slots := 0, locals := 0 } : Room).slots) := by
  refine MetFree.of_bodySF (plainFor_of_name pn_0) hisR ?_
  intro p e s m args below meth c s₁ Bd hml0 hP hK
  obtain ⟨rfl, hZ, hh⟩ := hP
  have hx := Bd.exec
  have hby := Bd.bytes
  have hml : c.maxLocals = 3 := hml0
  have hown : s.vm.findClass "com/example/tansy/tansy/metering/Labels" = some m.cls := findClass_of_methodNamed Bd.named
  have hnm := (name_of_methodNamed Bd.named Bd.method).1
  have X0 : Stand p l e ({ frames := 0, cells := 0, slots := 0, locals := 0 } : Room) s m #[(.int x0)] below meth c s₁ [] 0 0 := Stand.of_body Bd
  have e0 : s₁.heap = h0 := by rw [← hh, Bd.state]; rfl
  have N0 := Fr.nil n0
  have st0 : Steps p.tables e below (s₁.setTop (entryFrame m #[(.int x0)] 3)) (s₁.setTop (mkF m 0 #[.val (.int x0), .unset, .unset] [])) := castTop (ef_1 m x0) (Steps.refl _)
  have st1 : Steps p.tables e below (s₁.setTop (entryFrame m #[(.int x0)] 3)) (s₁.setTop (mkF m 3 #[.val (.int x0), .unset, .unset] [(.int (100 : Int32)), (.int x0)])) := st0.trans (by
      show Steps p.tables e below (s₁.setTop (mkF m 0 #[.val (.int x0), .unset, .unset] [])) _
      refine XS.iloadN X0.here hx rfl (hb hby d1_0) rfl ?_
      show Steps p.tables e below (s₁.setTop (mkF m 1 #[.val (.int x0), .unset, .unset] [(.int x0)])) _
      refine XS.bipush X0.here hx rfl (hb hby d1_1) ?_
      exact Steps.refl _)
  by_cases hc2 : x0 < (100 : Int32)
  · have st3 : Steps p.tables e below (s₁.setTop (entryFrame m #[(.int x0)] 3)) (s₁.setTop (mkF m 9 #[.val (.int x0), .unset, .unset] [(.int (10 : Int32)), (.int x0)])) := st1.trans (by
        show Steps p.tables e below (s₁.setTop (mkF m 3 #[.val (.int x0), .unset, .unset] [(.int (100 : Int32)), (.int x0)])) _
        refine XS.icmpNo X0.here hx rfl (hb hby d1_3) rfl (tlt hc2).2.1 ?_
        show Steps p.tables e below (s₁.setTop (mkF m 6 #[.val (.int x0), .unset, .unset] [])) _
        refine XS.iloadN X0.here hx rfl (hb hby d1_6) rfl ?_
        show Steps p.tables e below (s₁.setTop (mkF m 7 #[.val (.int x0), .unset, .unset] [(.int x0)])) _
        refine XS.bipush X0.here hx rfl (hb hby d1_7) ?_
        exact Steps.refl _)
    by_cases hc4 : x0 < (10 : Int32)
    · have st5 : Steps p.tables e below (s₁.setTop (entryFrame m #[(.int x0)] 3)) (s₁.setTop (mkF m 17 #[.val (.int x0), .unset, .unset] [(.int (1 : Int32))])) := st3.trans (by
          show Steps p.tables e below (s₁.setTop (mkF m 9 #[.val (.int x0), .unset, .unset] [(.int (10 : Int32)), (.int x0)])) _
          refine XS.icmpNo X0.here hx rfl (hb hby d1_9) rfl (tlt hc4).2.1 ?_
          show Steps p.tables e below (s₁.setTop (mkF m 12 #[.val (.int x0), .unset, .unset] [])) _
          refine XS.iconst X0.here hx rfl (hb hby d1_12) ?_
          show Steps p.tables e below (s₁.setTop (mkF m 13 #[.val (.int x0), .unset, .unset] [(.int (1 : Int32))])) _
          refine XS.goto X0.here hx rfl (pc0 := 13) (pc' := 17) rfl (hb hby d1_13) (by decide) (by decide) ?_
          exact Steps.refl _)
      obtain ⟨fs, hr, hrun, hended, hW, hsame⟩ := X0.leave (v := some (.int (1 : Int32))) (fun h => by rw [Bd.returns] at h; cases h)
      refine ⟨_, _, st5.trans ?_, hrun, hended, _, _, rfl, ?_, ⟨_, rfl⟩, hW, hsame.mono (by decide) (by decide)⟩
      · exact retI X0 hx Bd.returns (hb hby d1_17) hr
      · show Q1 Z x0 h0 n0 _ s₁.heap _
        rw [e0]
        exact ⟨by rw [F1, if_pos hc2, if_pos hc4], N0, rfl⟩
    · have st6 : Steps p.tables e below (s₁.setTop (entryFrame m #[(.int x0)] 3)) (s₁.setTop (mkF m 17 #[.val (.int x0), .unset, .unset] [(.int (2 : Int32))])) := st3.trans (by
          show Steps p.tables e below (s₁.setTop (mkF m 9 #[.val (.int x0), .unset, .unset] [(.int (10 : Int32)), (.int x0)])) _
          refine XS.icmpYes X0.here hx rfl (pc0 := 9) (pc' := 16) rfl (hb hby d1_9) rfl (flt hc4).2.1 (by decide) (by decide) ?_
          show Steps p.tables e below (s₁.setTop (mkF m 16 #[.val (.int x0), .unset, .unset] [])) _
          refine XS.iconst X0.here hx rfl (hb hby d1_16) ?_
          exact Steps.refl _)
      obtain ⟨fs, hr, hrun, hended, hW, hsame⟩ := X0.leave (v := some (.int (2 : Int32))) (fun h => by rw [Bd.returns] at h; cases h)
      refine ⟨_, _, st6.trans ?_, hrun, hended, _, _, rfl, ?_, ⟨_, rfl⟩, hW, hsame.mono (by decide) (by decide)⟩
      · exact retI X0 hx Bd.returns (hb hby d1_17) hr
      · show Q1 Z x0 h0 n0 _ s₁.heap _
        rw [e0]
        exact ⟨by rw [F1, if_pos hc2, if_neg hc4], N0, rfl⟩
  · have st7 : Steps p.tables e below (s₁.setTop (entryFrame m #[(.int x0)] 3)) (s₁.setTop (mkF m 26 #[.val (.int x0), .val (.int (3 : Int32)), .val (.int (x0 / (1000 : Int32)))] [])) := st1.trans (by
        show Steps p.tables e below (s₁.setTop (mkF m 3 #[.val (.int x0), .unset, .unset] [(.int (100 : Int32)), (.int x0)])) _
        refine XS.icmpYes X0.here hx rfl (pc0 := 3) (pc' := 18) rfl (hb hby d1_3) rfl (flt hc2).2.1 (by decide) (by decide) ?_
        show Steps p.tables e below (s₁.setTop (mkF m 18 #[.val (.int x0), .unset, .unset] [])) _
        refine XS.iconst X0.here hx rfl (hb hby d1_18) ?_
        show Steps p.tables e below (s₁.setTop (mkF m 19 #[.val (.int x0), .unset, .unset] [(.int (3 : Int32))])) _
        refine XS.istoreN X0.here hx rfl (hb hby d1_19) rfl (l' := #[.val (.int x0), .val (.int (3 : Int32)), .unset]) rfl ?_
        show Steps p.tables e below (s₁.setTop (mkF m 20 #[.val (.int x0), .val (.int (3 : Int32)), .unset] [])) _
        refine XS.iloadN X0.here hx rfl (hb hby d1_20) rfl ?_
        show Steps p.tables e below (s₁.setTop (mkF m 21 #[.val (.int x0), .val (.int (3 : Int32)), .unset] [(.int x0)])) _
        refine XS.sipush X0.here hx rfl (hb hby d1_21) ?_
        show Steps p.tables e below (s₁.setTop (mkF m 24 #[.val (.int x0), .val (.int (3 : Int32)), .unset] [(.int (1000 : Int32)), (.int x0)])) _
        refine XS.idiv X0.here hx rfl (hb hby d1_24) rfl (by decide) ?_
        show Steps p.tables e below (s₁.setTop (mkF m 25 #[.val (.int x0), .val (.int (3 : Int32)), .unset] [(.int (x0 / (1000 : Int32)))])) _
        refine XS.istoreN X0.here hx rfl (hb hby d1_25) rfl (l' := #[.val (.int x0), .val (.int (3 : Int32)), .val (.int (x0 / (1000 : Int32)))]) rfl ?_
        exact Steps.refl _)
    have k100 : (100 : Int32).toInt = 100 := by decide
    have hge : ¬ x0.toInt < 100 := by rw [← k100]; exact fun q => hc2 (Int32.lt_iff_toInt_lt.mpr q)
    have hdv := (c_idiv x0 1000 1000 (by decide) (by decide)).1 (by omega)
    have hrg := rng32 x0
    obtain ⟨r', sl⟩ := own_loop X0 hx hZ hw hby hml hown e0 x0 7 (3 : Int32) (x0 / (1000 : Int32)) (by rw [hdv]; omega) (by rw [hdv]; omega)
    have st8 : Steps p.tables e below (s₁.setTop (entryFrame m #[(.int x0)] 3)) (s₁.setTop (mkF m 41 #[.val (.int x0), .val (.int (own_dig 7 (3 : Int32) (x0 / (1000 : Int32)))), .val (.int r')] [])) := st7.trans sl
    have st9 : Steps p.tables e below (s₁.setTop (entryFrame m #[(.int x0)] 3)) (s₁.setTop (mkF m 42 #[.val (.int x0), .val (.int (own_dig 7 (3 : Int32) (x0 / (1000 : Int32)))), .val (.int r')] [(.int (own_dig 7 (3 : Int32) (x0 / (1000 : Int32))))])) := st8.trans (by
        show Steps p.tables e below (s₁.setTop (mkF m 41 #[.val (.int x0), .val (.int (own_dig 7 (3 : Int32) (x0 / (1000 : Int32)))), .val (.int r')] [])) _
        refine XS.iloadN X0.here hx rfl (hb hby d1_41) rfl ?_
        exact Steps.refl _)
    obtain ⟨fs, hr, hrun, hended, hW, hsame⟩ := X0.leave (v := some (.int (own_dig 7 (3 : Int32) (x0 / (1000 : Int32))))) (fun h => by rw [Bd.returns] at h; cases h)
    refine ⟨_, _, st9.trans ?_, hrun, hended, _, _, rfl, ?_, ⟨_, rfl⟩, hW, hsame.mono (by decide) (by decide)⟩
    · exact retI X0 hx Bd.returns (hb hby d1_42) hr
    · show Q1 Z x0 h0 n0 _ s₁.heap _
      rw [e0]
      exact ⟨by rw [F1, if_neg hc2], N0, rfl⟩
theorem d2_0 : decode method_3_code 0 = .ok (.iload_n 0, 1) := by decide +kernel
theorem d2_1 : decode method_3_code 1 = .ok (.bipush 10, 2) := by decide +kernel
theorem d2_3 : decode method_3_code 3 = .ok (.if_icmp .ge 5, 3) := by decide +kernel
theorem d2_6 : decode method_3_code 6 = .ok (.iconst 1, 1) := by decide +kernel
theorem d2_7 : decode method_3_code 7 = .ok (.ireturn, 1) := by decide +kernel
theorem d2_8 : decode method_3_code 8 = .ok (.iload_n 0, 1) := by decide +kernel
theorem d2_9 : decode method_3_code 9 = .ok (.bipush 100, 2) := by decide +kernel
theorem d2_11 : decode method_3_code 11 = .ok (.if_icmp .ge 5, 3) := by decide +kernel
theorem d2_14 : decode method_3_code 14 = .ok (.iconst 2, 1) := by decide +kernel
theorem d2_15 : decode method_3_code 15 = .ok (.ireturn, 1) := by decide +kernel
theorem d2_16 : decode method_3_code 16 = .ok (.iload_n 0, 1) := by decide +kernel
theorem d2_17 : decode method_3_code 17 = .ok (.sipush 1000, 3) := by decide +kernel
theorem d2_20 : decode method_3_code 20 = .ok (.if_icmp .ge 5, 3) := by decide +kernel
theorem d2_23 : decode method_3_code 23 = .ok (.iconst 3, 1) := by decide +kernel
theorem d2_24 : decode method_3_code 24 = .ok (.ireturn, 1) := by decide +kernel
theorem d2_25 : decode method_3_code 25 = .ok (.iload_n 0, 1) := by decide +kernel
theorem d2_26 : decode method_3_code 26 = .ok (.sipush 10000, 3) := by decide +kernel
theorem d2_29 : decode method_3_code 29 = .ok (.if_icmp .ge 5, 3) := by decide +kernel
theorem d2_32 : decode method_3_code 32 = .ok (.iconst 4, 1) := by decide +kernel
theorem d2_33 : decode method_3_code 33 = .ok (.ireturn, 1) := by decide +kernel
theorem d2_34 : decode method_3_code 34 = .ok (.iload_n 0, 1) := by decide +kernel
theorem d2_35 : decode method_3_code 35 = .ok (.ldc 19, 2) := by decide +kernel
theorem d2_37 : decode method_3_code 37 = .ok (.if_icmp .ge 5, 3) := by decide +kernel
theorem d2_40 : decode method_3_code 40 = .ok (.iconst 5, 1) := by decide +kernel
theorem d2_41 : decode method_3_code 41 = .ok (.ireturn, 1) := by decide +kernel
theorem d2_42 : decode method_3_code 42 = .ok (.iload_n 0, 1) := by decide +kernel
theorem d2_43 : decode method_3_code 43 = .ok (.ldc 20, 2) := by decide +kernel
theorem d2_45 : decode method_3_code 45 = .ok (.if_icmp .ge 6, 3) := by decide +kernel
theorem d2_48 : decode method_3_code 48 = .ok (.bipush 6, 2) := by decide +kernel
theorem d2_50 : decode method_3_code 50 = .ok (.ireturn, 1) := by decide +kernel
theorem d2_51 : decode method_3_code 51 = .ok (.iload_n 0, 1) := by decide +kernel
theorem d2_52 : decode method_3_code 52 = .ok (.ldc 21, 2) := by decide +kernel
theorem d2_54 : decode method_3_code 54 = .ok (.if_icmp .ge 6, 3) := by decide +kernel
theorem d2_57 : decode method_3_code 57 = .ok (.bipush 7, 2) := by decide +kernel
theorem d2_59 : decode method_3_code 59 = .ok (.ireturn, 1) := by decide +kernel
theorem d2_60 : decode method_3_code 60 = .ok (.iload_n 0, 1) := by decide +kernel
theorem d2_61 : decode method_3_code 61 = .ok (.ldc 22, 2) := by decide +kernel
theorem d2_63 : decode method_3_code 63 = .ok (.if_icmp .ge 6, 3) := by decide +kernel
theorem d2_66 : decode method_3_code 66 = .ok (.bipush 8, 2) := by decide +kernel
theorem d2_68 : decode method_3_code 68 = .ok (.ireturn, 1) := by decide +kernel
theorem d2_69 : decode method_3_code 69 = .ok (.iload_n 0, 1) := by decide +kernel
theorem d2_70 : decode method_3_code 70 = .ok (.ldc 23, 2) := by decide +kernel
theorem d2_72 : decode method_3_code 72 = .ok (.if_icmp .ge 6, 3) := by decide +kernel
theorem d2_75 : decode method_3_code 75 = .ok (.bipush 9, 2) := by decide +kernel
theorem d2_77 : decode method_3_code 77 = .ok (.ireturn, 1) := by decide +kernel
theorem d2_78 : decode method_3_code 78 = .ok (.bipush 10, 2) := by decide +kernel
theorem d2_80 : decode method_3_code 80 = .ok (.ireturn, 1) := by decide +kernel
theorem pn_1 : plainName "com/example/tansy/tansy/metering/LabelsDigitsPinLaw" = true := by first | (simp [plainName, overriddenIn]; done) | decide +kernel
theorem ef_2 (m : MethodId) (x0 : Int32)  : entryFrame m #[(.int x0)] 1 = mkF m 0 #[.val (.int x0)] [] := by first | (simp [entryFrame, mkF, argsToLocals, Value.category]; done) | rfl
def F2 (x0 : Int32) : Int32 := if x0 < (10 : Int32) then (1 : Int32) else (if x0 < (100 : Int32) then (2 : Int32) else (if x0 < (1000 : Int32) then (3 : Int32) else (if x0 < (10000 : Int32) then (4 : Int32) else (if x0 < (100000 : Int32) then (5 : Int32) else (if x0 < (1000000 : Int32) then (6 : Int32) else (if x0 < (10000000 : Int32) then (7 : Int32) else (if x0 < (100000000 : Int32) then (8 : Int32) else (if x0 < (1000000000 : Int32) then (9 : Int32) else (10 : Int32)))))))))
def Q2 (Z : State) (x0 : Int32) (h0 : Heap) (n0 : Nat) (v : Option Value) (h : Heap) (L : List Loc) : Prop := v = some (.int (F2 x0)) ∧ Fr n0 L ∧ h = h0
set_option maxRecDepth 65536 in
set_option maxHeartbeats 40000000 in
theorem rm2 (l : Launch) (Z : State) (a0 : Array Value) (hw : ∀ d ∈ tables_1, d.before a0 Z = true) (ws : List Jvm.Cond) (x0 : Int32) (h0 : Heap) (n0 : Nat) (Z0 : n0 ≤ h0.size) :
    MetFree l (⟨"com/example/tansy/tansy/metering/LabelsDigitsPinLaw", "reference", "(I)I"⟩ : MethodName) (head1 (Jvm.Cond.code (⟨"com/example/tansy/tansy/metering/LabelsDigitsPinLaw", "reference", "(I)I"⟩ : MethodName) method_3_code 1 (some .int) :: ws) ({ frames := 0, cells := 0, slots := 0, locals := 0 } : Room)) (fun a U => a = #[(.int x0)] ∧ Z.Warmed39 U.vm ∧ U.heap = h0) (fun _ _ _ _ _ => True) (fun _ U o U' => ∃ v L, o = .returned v ∧ Q2 Z x0 h0 n0 v U'.heap L ∧ FrameEnd U o U' L ({ frames := 0, cells := 0, slots := 0, locals := 0 } : Room).cells ({ frames := 0, cells := 0, slots := 0, locals := 0 } : Room).slots) := by
  refine MetFree.of_bodySF (plainFor_of_name pn_1) hisR ?_
  intro p e s m args below meth c s₁ Bd hml0 hP hK
  obtain ⟨rfl, hZ, hh⟩ := hP
  have hx := Bd.exec
  have hby := Bd.bytes
  have hml : c.maxLocals = 1 := hml0
  have hown : s.vm.findClass "com/example/tansy/tansy/metering/LabelsDigitsPinLaw" = some m.cls := findClass_of_methodNamed Bd.named
  have hnm := (name_of_methodNamed Bd.named Bd.method).1
  have X0 : Stand p l e ({ frames := 0, cells := 0, slots := 0, locals := 0 } : Room) s m #[(.int x0)] below meth c s₁ [] 0 0 := Stand.of_body Bd
  have e0 : s₁.heap = h0 := by rw [← hh, Bd.state]; rfl
  have N0 := Fr.nil n0
  have st0 : Steps p.tables e below (s₁.setTop (entryFrame m #[(.int x0)] 1)) (s₁.setTop (mkF m 0 #[.val (.int x0)] [])) := castTop (ef_2 m x0) (Steps.refl _)
  have st1 : Steps p.tables e below (s₁.setTop (entryFrame m #[(.int x0)] 1)) (s₁.setTop (mkF m 3 #[.val (.int x0)] [(.int (10 : Int32)), (.int x0)])) := st0.trans (by
      show Steps p.tables e below (s₁.setTop (mkF m 0 #[.val (.int x0)] [])) _
      refine XS.iloadN X0.here hx rfl (hb hby d2_0) rfl ?_
      show Steps p.tables e below (s₁.setTop (mkF m 1 #[.val (.int x0)] [(.int x0)])) _
      refine XS.bipush X0.here hx rfl (hb hby d2_1) ?_
      exact Steps.refl _)
  by_cases hc2 : x0 < (10 : Int32)
  · have st3 : Steps p.tables e below (s₁.setTop (entryFrame m #[(.int x0)] 1)) (s₁.setTop (mkF m 7 #[.val (.int x0)] [(.int (1 : Int32))])) := st1.trans (by
        show Steps p.tables e below (s₁.setTop (mkF m 3 #[.val (.int x0)] [(.int (10 : Int32)), (.int x0)])) _
        refine XS.icmpNo X0.here hx rfl (hb hby d2_3) rfl (tlt hc2).2.1 ?_
        show Steps p.tables e below (s₁.setTop (mkF m 6 #[.val (.int x0)] [])) _
        refine XS.iconst X0.here hx rfl (hb hby d2_6) ?_
        exact Steps.refl _)
    obtain ⟨fs, hr, hrun, hended, hW, hsame⟩ := X0.leave (v := some (.int (1 : Int32))) (fun h => by rw [Bd.returns] at h; cases h)
    refine ⟨_, _, st3.trans ?_, hrun, hended, _, _, rfl, ?_, ⟨_, rfl⟩, hW, hsame.mono (by decide) (by decide)⟩
    · exact retI X0 hx Bd.returns (hb hby d2_7) hr
    · show Q2 Z x0 h0 n0 _ s₁.heap _
      rw [e0]
      exact ⟨by rw [F2, if_pos hc2], N0, rfl⟩
  · have st4 : Steps p.tables e below (s₁.setTop (entryFrame m #[(.int x0)] 1)) (s₁.setTop (mkF m 11 #[.val (.int x0)] [(.int (100 : Int32)), (.int x0)])) := st1.trans (by
        show Steps p.tables e below (s₁.setTop (mkF m 3 #[.val (.int x0)] [(.int (10 : Int32)), (.int x0)])) _
        refine XS.icmpYes X0.here hx rfl (pc0 := 3) (pc' := 8) rfl (hb hby d2_3) rfl (flt hc2).2.1 (by decide) (by decide) ?_
        show Steps p.tables e below (s₁.setTop (mkF m 8 #[.val (.int x0)] [])) _
        refine XS.iloadN X0.here hx rfl (hb hby d2_8) rfl ?_
        show Steps p.tables e below (s₁.setTop (mkF m 9 #[.val (.int x0)] [(.int x0)])) _
        refine XS.bipush X0.here hx rfl (hb hby d2_9) ?_
        exact Steps.refl _)
    by_cases hc5 : x0 < (100 : Int32)
    · have st6 : Steps p.tables e below (s₁.setTop (entryFrame m #[(.int x0)] 1)) (s₁.setTop (mkF m 15 #[.val (.int x0)] [(.int (2 : Int32))])) := st4.trans (by
          show Steps p.tables e below (s₁.setTop (mkF m 11 #[.val (.int x0)] [(.int (100 : Int32)), (.int x0)])) _
          refine XS.icmpNo X0.here hx rfl (hb hby d2_11) rfl (tlt hc5).2.1 ?_
          show Steps p.tables e below (s₁.setTop (mkF m 14 #[.val (.int x0)] [])) _
          refine XS.iconst X0.here hx rfl (hb hby d2_14) ?_
          exact Steps.refl _)
      obtain ⟨fs, hr, hrun, hended, hW, hsame⟩ := X0.leave (v := some (.int (2 : Int32))) (fun h => by rw [Bd.returns] at h; cases h)
      refine ⟨_, _, st6.trans ?_, hrun, hended, _, _, rfl, ?_, ⟨_, rfl⟩, hW, hsame.mono (by decide) (by decide)⟩
      · exact retI X0 hx Bd.returns (hb hby d2_15) hr
      · show Q2 Z x0 h0 n0 _ s₁.heap _
        rw [e0]
        exact ⟨by rw [F2, if_neg hc2, if_pos hc5], N0, rfl⟩
    · have st7 : Steps p.tables e below (s₁.setTop (entryFrame m #[(.int x0)] 1)) (s₁.setTop (mkF m 20 #[.val (.int x0)] [(.int (1000 : Int32)), (.int x0)])) := st4.trans (by
          show Steps p.tables e below (s₁.setTop (mkF m 11 #[.val (.int x0)] [(.int (100 : Int32)), (.int x0)])) _
          refine XS.icmpYes X0.here hx rfl (pc0 := 11) (pc' := 16) rfl (hb hby d2_11) rfl (flt hc5).2.1 (by decide) (by decide) ?_
          show Steps p.tables e below (s₁.setTop (mkF m 16 #[.val (.int x0)] [])) _
          refine XS.iloadN X0.here hx rfl (hb hby d2_16) rfl ?_
          show Steps p.tables e below (s₁.setTop (mkF m 17 #[.val (.int x0)] [(.int x0)])) _
          refine XS.sipush X0.here hx rfl (hb hby d2_17) ?_
          exact Steps.refl _)
      by_cases hc8 : x0 < (1000 : Int32)
      · have st9 : Steps p.tables e below (s₁.setTop (entryFrame m #[(.int x0)] 1)) (s₁.setTop (mkF m 24 #[.val (.int x0)] [(.int (3 : Int32))])) := st7.trans (by
            show Steps p.tables e below (s₁.setTop (mkF m 20 #[.val (.int x0)] [(.int (1000 : Int32)), (.int x0)])) _
            refine XS.icmpNo X0.here hx rfl (hb hby d2_20) rfl (tlt hc8).2.1 ?_
            show Steps p.tables e below (s₁.setTop (mkF m 23 #[.val (.int x0)] [])) _
            refine XS.iconst X0.here hx rfl (hb hby d2_23) ?_
            exact Steps.refl _)
        obtain ⟨fs, hr, hrun, hended, hW, hsame⟩ := X0.leave (v := some (.int (3 : Int32))) (fun h => by rw [Bd.returns] at h; cases h)
        refine ⟨_, _, st9.trans ?_, hrun, hended, _, _, rfl, ?_, ⟨_, rfl⟩, hW, hsame.mono (by decide) (by decide)⟩
        · exact retI X0 hx Bd.returns (hb hby d2_24) hr
        · show Q2 Z x0 h0 n0 _ s₁.heap _
          rw [e0]
          exact ⟨by rw [F2, if_neg hc2, if_neg hc5, if_pos hc8], N0, rfl⟩
      · have st10 : Steps p.tables e below (s₁.setTop (entryFrame m #[(.int x0)] 1)) (s₁.setTop (mkF m 29 #[.val (.int x0)] [(.int (10000 : Int32)), (.int x0)])) := st7.trans (by
            show Steps p.tables e below (s₁.setTop (mkF m 20 #[.val (.int x0)] [(.int (1000 : Int32)), (.int x0)])) _
            refine XS.icmpYes X0.here hx rfl (pc0 := 20) (pc' := 25) rfl (hb hby d2_20) rfl (flt hc8).2.1 (by decide) (by decide) ?_
            show Steps p.tables e below (s₁.setTop (mkF m 25 #[.val (.int x0)] [])) _
            refine XS.iloadN X0.here hx rfl (hb hby d2_25) rfl ?_
            show Steps p.tables e below (s₁.setTop (mkF m 26 #[.val (.int x0)] [(.int x0)])) _
            refine XS.sipush X0.here hx rfl (hb hby d2_26) ?_
            exact Steps.refl _)
        by_cases hc11 : x0 < (10000 : Int32)
        · have st12 : Steps p.tables e below (s₁.setTop (entryFrame m #[(.int x0)] 1)) (s₁.setTop (mkF m 33 #[.val (.int x0)] [(.int (4 : Int32))])) := st10.trans (by
              show Steps p.tables e below (s₁.setTop (mkF m 29 #[.val (.int x0)] [(.int (10000 : Int32)), (.int x0)])) _
              refine XS.icmpNo X0.here hx rfl (hb hby d2_29) rfl (tlt hc11).2.1 ?_
              show Steps p.tables e below (s₁.setTop (mkF m 32 #[.val (.int x0)] [])) _
              refine XS.iconst X0.here hx rfl (hb hby d2_32) ?_
              exact Steps.refl _)
          obtain ⟨fs, hr, hrun, hended, hW, hsame⟩ := X0.leave (v := some (.int (4 : Int32))) (fun h => by rw [Bd.returns] at h; cases h)
          refine ⟨_, _, st12.trans ?_, hrun, hended, _, _, rfl, ?_, ⟨_, rfl⟩, hW, hsame.mono (by decide) (by decide)⟩
          · exact retI X0 hx Bd.returns (hb hby d2_33) hr
          · show Q2 Z x0 h0 n0 _ s₁.heap _
            rw [e0]
            exact ⟨by rw [F2, if_neg hc2, if_neg hc5, if_neg hc8, if_pos hc11], N0, rfl⟩
        · have st13 : Steps p.tables e below (s₁.setTop (entryFrame m #[(.int x0)] 1)) (s₁.setTop (mkF m 37 #[.val (.int x0)] [(.int (100000 : Int32)), (.int x0)])) := st10.trans (by
              show Steps p.tables e below (s₁.setTop (mkF m 29 #[.val (.int x0)] [(.int (10000 : Int32)), (.int x0)])) _
              refine XS.icmpYes X0.here hx rfl (pc0 := 29) (pc' := 34) rfl (hb hby d2_29) rfl (flt hc11).2.1 (by decide) (by decide) ?_
              show Steps p.tables e below (s₁.setTop (mkF m 34 #[.val (.int x0)] [])) _
              refine XS.iloadN X0.here hx rfl (hb hby d2_34) rfl ?_
              show Steps p.tables e below (s₁.setTop (mkF m 35 #[.val (.int x0)] [(.int x0)])) _
              refine X0.ldcInt hx hown (mvT hZ (hw _ (List.mem_of_getElem? (i := 9) rfl))) (g := (mkF m 35 #[.val (.int x0)] [(.int x0)])) rfl (hb hby d2_35) _ ?_
              exact Steps.refl _)
          by_cases hc14 : x0 < (100000 : Int32)
          · have st15 : Steps p.tables e below (s₁.setTop (entryFrame m #[(.int x0)] 1)) (s₁.setTop (mkF m 41 #[.val (.int x0)] [(.int (5 : Int32))])) := st13.trans (by
                show Steps p.tables e below (s₁.setTop (mkF m 37 #[.val (.int x0)] [(.int (100000 : Int32)), (.int x0)])) _
                refine XS.icmpNo X0.here hx rfl (hb hby d2_37) rfl (tlt hc14).2.1 ?_
                show Steps p.tables e below (s₁.setTop (mkF m 40 #[.val (.int x0)] [])) _
                refine XS.iconst X0.here hx rfl (hb hby d2_40) ?_
                exact Steps.refl _)
            obtain ⟨fs, hr, hrun, hended, hW, hsame⟩ := X0.leave (v := some (.int (5 : Int32))) (fun h => by rw [Bd.returns] at h; cases h)
            refine ⟨_, _, st15.trans ?_, hrun, hended, _, _, rfl, ?_, ⟨_, rfl⟩, hW, hsame.mono (by decide) (by decide)⟩
            · exact retI X0 hx Bd.returns (hb hby d2_41) hr
            · show Q2 Z x0 h0 n0 _ s₁.heap _
              rw [e0]
              exact ⟨by rw [F2, if_neg hc2, if_neg hc5, if_neg hc8, if_neg hc11, if_pos hc14], N0, rfl⟩
          · have st16 : Steps p.tables e below (s₁.setTop (entryFrame m #[(.int x0)] 1)) (s₁.setTop (mkF m 45 #[.val (.int x0)] [(.int (1000000 : Int32)), (.int x0)])) := st13.trans (by
                show Steps p.tables e below (s₁.setTop (mkF m 37 #[.val (.int x0)] [(.int (100000 : Int32)), (.int x0)])) _
                refine XS.icmpYes X0.here hx rfl (pc0 := 37) (pc' := 42) rfl (hb hby d2_37) rfl (flt hc14).2.1 (by decide) (by decide) ?_
                show Steps p.tables e below (s₁.setTop (mkF m 42 #[.val (.int x0)] [])) _
                refine XS.iloadN X0.here hx rfl (hb hby d2_42) rfl ?_
                show Steps p.tables e below (s₁.setTop (mkF m 43 #[.val (.int x0)] [(.int x0)])) _
                refine X0.ldcInt hx hown (mvT hZ (hw _ (List.mem_of_getElem? (i := 10) rfl))) (g := (mkF m 43 #[.val (.int x0)] [(.int x0)])) rfl (hb hby d2_43) _ ?_
                exact Steps.refl _)
            by_cases hc17 : x0 < (1000000 : Int32)
            · have st18 : Steps p.tables e below (s₁.setTop (entryFrame m #[(.int x0)] 1)) (s₁.setTop (mkF m 50 #[.val (.int x0)] [(.int (6 : Int32))])) := st16.trans (by
                  show Steps p.tables e below (s₁.setTop (mkF m 45 #[.val (.int x0)] [(.int (1000000 : Int32)), (.int x0)])) _
                  refine XS.icmpNo X0.here hx rfl (hb hby d2_45) rfl (tlt hc17).2.1 ?_
                  show Steps p.tables e below (s₁.setTop (mkF m 48 #[.val (.int x0)] [])) _
                  refine XS.bipush X0.here hx rfl (hb hby d2_48) ?_
                  exact Steps.refl _)
              obtain ⟨fs, hr, hrun, hended, hW, hsame⟩ := X0.leave (v := some (.int (6 : Int32))) (fun h => by rw [Bd.returns] at h; cases h)
              refine ⟨_, _, st18.trans ?_, hrun, hended, _, _, rfl, ?_, ⟨_, rfl⟩, hW, hsame.mono (by decide) (by decide)⟩
              · exact retI X0 hx Bd.returns (hb hby d2_50) hr
              · show Q2 Z x0 h0 n0 _ s₁.heap _
                rw [e0]
                exact ⟨by rw [F2, if_neg hc2, if_neg hc5, if_neg hc8, if_neg hc11, if_neg hc14, if_pos hc17], N0, rfl⟩
            · have st19 : Steps p.tables e below (s₁.setTop (entryFrame m #[(.int x0)] 1)) (s₁.setTop (mkF m 54 #[.val (.int x0)] [(.int (10000000 : Int32)), (.int x0)])) := st16.trans (by
                  show Steps p.tables e below (s₁.setTop (mkF m 45 #[.val (.int x0)] [(.int (1000000 : Int32)), (.int x0)])) _
                  refine XS.icmpYes X0.here hx rfl (pc0 := 45) (pc' := 51) rfl (hb hby d2_45) rfl (flt hc17).2.1 (by decide) (by decide) ?_
                  show Steps p.tables e below (s₁.setTop (mkF m 51 #[.val (.int x0)] [])) _
                  refine XS.iloadN X0.here hx rfl (hb hby d2_51) rfl ?_
                  show Steps p.tables e below (s₁.setTop (mkF m 52 #[.val (.int x0)] [(.int x0)])) _
                  refine X0.ldcInt hx hown (mvT hZ (hw _ (List.mem_of_getElem? (i := 11) rfl))) (g := (mkF m 52 #[.val (.int x0)] [(.int x0)])) rfl (hb hby d2_52) _ ?_
                  exact Steps.refl _)
              by_cases hc20 : x0 < (10000000 : Int32)
              · have st21 : Steps p.tables e below (s₁.setTop (entryFrame m #[(.int x0)] 1)) (s₁.setTop (mkF m 59 #[.val (.int x0)] [(.int (7 : Int32))])) := st19.trans (by
                    show Steps p.tables e below (s₁.setTop (mkF m 54 #[.val (.int x0)] [(.int (10000000 : Int32)), (.int x0)])) _
                    refine XS.icmpNo X0.here hx rfl (hb hby d2_54) rfl (tlt hc20).2.1 ?_
                    show Steps p.tables e below (s₁.setTop (mkF m 57 #[.val (.int x0)] [])) _
                    refine XS.bipush X0.here hx rfl (hb hby d2_57) ?_
                    exact Steps.refl _)
                obtain ⟨fs, hr, hrun, hended, hW, hsame⟩ := X0.leave (v := some (.int (7 : Int32))) (fun h => by rw [Bd.returns] at h; cases h)
                refine ⟨_, _, st21.trans ?_, hrun, hended, _, _, rfl, ?_, ⟨_, rfl⟩, hW, hsame.mono (by decide) (by decide)⟩
                · exact retI X0 hx Bd.returns (hb hby d2_59) hr
                · show Q2 Z x0 h0 n0 _ s₁.heap _
                  rw [e0]
                  exact ⟨by rw [F2, if_neg hc2, if_neg hc5, if_neg hc8, if_neg hc11, if_neg hc14, if_neg hc17, if_pos hc20], N0, rfl⟩
              · have st22 : Steps p.tables e below (s₁.setTop (entryFrame m #[(.int x0)] 1)) (s₁.setTop (mkF m 63 #[.val (.int x0)] [(.int (100000000 : Int32)), (.int x0)])) := st19.trans (by
                    show Steps p.tables e below (s₁.setTop (mkF m 54 #[.val (.int x0)] [(.int (10000000 : Int32)), (.int x0)])) _
                    refine XS.icmpYes X0.here hx rfl (pc0 := 54) (pc' := 60) rfl (hb hby d2_54) rfl (flt hc20).2.1 (by decide) (by decide) ?_
                    show Steps p.tables e below (s₁.setTop (mkF m 60 #[.val (.int x0)] [])) _
                    refine XS.iloadN X0.here hx rfl (hb hby d2_60) rfl ?_
                    show Steps p.tables e below (s₁.setTop (mkF m 61 #[.val (.int x0)] [(.int x0)])) _
                    refine X0.ldcInt hx hown (mvT hZ (hw _ (List.mem_of_getElem? (i := 12) rfl))) (g := (mkF m 61 #[.val (.int x0)] [(.int x0)])) rfl (hb hby d2_61) _ ?_
                    exact Steps.refl _)
                by_cases hc23 : x0 < (100000000 : Int32)
                · have st24 : Steps p.tables e below (s₁.setTop (entryFrame m #[(.int x0)] 1)) (s₁.setTop (mkF m 68 #[.val (.int x0)] [(.int (8 : Int32))])) := st22.trans (by
                      show Steps p.tables e below (s₁.setTop (mkF m 63 #[.val (.int x0)] [(.int (100000000 : Int32)), (.int x0)])) _
                      refine XS.icmpNo X0.here hx rfl (hb hby d2_63) rfl (tlt hc23).2.1 ?_
                      show Steps p.tables e below (s₁.setTop (mkF m 66 #[.val (.int x0)] [])) _
                      refine XS.bipush X0.here hx rfl (hb hby d2_66) ?_
                      exact Steps.refl _)
                  obtain ⟨fs, hr, hrun, hended, hW, hsame⟩ := X0.leave (v := some (.int (8 : Int32))) (fun h => by rw [Bd.returns] at h; cases h)
                  refine ⟨_, _, st24.trans ?_, hrun, hended, _, _, rfl, ?_, ⟨_, rfl⟩, hW, hsame.mono (by decide) (by decide)⟩
                  · exact retI X0 hx Bd.returns (hb hby d2_68) hr
                  · show Q2 Z x0 h0 n0 _ s₁.heap _
                    rw [e0]
                    exact ⟨by rw [F2, if_neg hc2, if_neg hc5, if_neg hc8, if_neg hc11, if_neg hc14, if_neg hc17, if_neg hc20, if_pos hc23], N0, rfl⟩
                · have st25 : Steps p.tables e below (s₁.setTop (entryFrame m #[(.int x0)] 1)) (s₁.setTop (mkF m 72 #[.val (.int x0)] [(.int (1000000000 : Int32)), (.int x0)])) := st22.trans (by
                      show Steps p.tables e below (s₁.setTop (mkF m 63 #[.val (.int x0)] [(.int (100000000 : Int32)), (.int x0)])) _
                      refine XS.icmpYes X0.here hx rfl (pc0 := 63) (pc' := 69) rfl (hb hby d2_63) rfl (flt hc23).2.1 (by decide) (by decide) ?_
                      show Steps p.tables e below (s₁.setTop (mkF m 69 #[.val (.int x0)] [])) _
                      refine XS.iloadN X0.here hx rfl (hb hby d2_69) rfl ?_
                      show Steps p.tables e below (s₁.setTop (mkF m 70 #[.val (.int x0)] [(.int x0)])) _
                      refine X0.ldcInt hx hown (mvT hZ (hw _ (List.mem_of_getElem? (i := 13) rfl))) (g := (mkF m 70 #[.val (.int x0)] [(.int x0)])) rfl (hb hby d2_70) _ ?_
                      exact Steps.refl _)
                  by_cases hc26 : x0 < (1000000000 : Int32)
                  · have st27 : Steps p.tables e below (s₁.setTop (entryFrame m #[(.int x0)] 1)) (s₁.setTop (mkF m 77 #[.val (.int x0)] [(.int (9 : Int32))])) := st25.trans (by
                        show Steps p.tables e below (s₁.setTop (mkF m 72 #[.val (.int x0)] [(.int (1000000000 : Int32)), (.int x0)])) _
                        refine XS.icmpNo X0.here hx rfl (hb hby d2_72) rfl (tlt hc26).2.1 ?_
                        show Steps p.tables e below (s₁.setTop (mkF m 75 #[.val (.int x0)] [])) _
                        refine XS.bipush X0.here hx rfl (hb hby d2_75) ?_
                        exact Steps.refl _)
                    obtain ⟨fs, hr, hrun, hended, hW, hsame⟩ := X0.leave (v := some (.int (9 : Int32))) (fun h => by rw [Bd.returns] at h; cases h)
                    refine ⟨_, _, st27.trans ?_, hrun, hended, _, _, rfl, ?_, ⟨_, rfl⟩, hW, hsame.mono (by decide) (by decide)⟩
                    · exact retI X0 hx Bd.returns (hb hby d2_77) hr
                    · show Q2 Z x0 h0 n0 _ s₁.heap _
                      rw [e0]
                      exact ⟨by rw [F2, if_neg hc2, if_neg hc5, if_neg hc8, if_neg hc11, if_neg hc14, if_neg hc17, if_neg hc20, if_neg hc23, if_pos hc26], N0, rfl⟩
                  · have st28 : Steps p.tables e below (s₁.setTop (entryFrame m #[(.int x0)] 1)) (s₁.setTop (mkF m 80 #[.val (.int x0)] [(.int (10 : Int32))])) := st25.trans (by
                        show Steps p.tables e below (s₁.setTop (mkF m 72 #[.val (.int x0)] [(.int (1000000000 : Int32)), (.int x0)])) _
                        refine XS.icmpYes X0.here hx rfl (pc0 := 72) (pc' := 78) rfl (hb hby d2_72) rfl (flt hc26).2.1 (by decide) (by decide) ?_
                        show Steps p.tables e below (s₁.setTop (mkF m 78 #[.val (.int x0)] [])) _
                        refine XS.bipush X0.here hx rfl (hb hby d2_78) ?_
                        exact Steps.refl _)
                    obtain ⟨fs, hr, hrun, hended, hW, hsame⟩ := X0.leave (v := some (.int (10 : Int32))) (fun h => by rw [Bd.returns] at h; cases h)
                    refine ⟨_, _, st28.trans ?_, hrun, hended, _, _, rfl, ?_, ⟨_, rfl⟩, hW, hsame.mono (by decide) (by decide)⟩
                    · exact retI X0 hx Bd.returns (hb hby d2_80) hr
                    · show Q2 Z x0 h0 n0 _ s₁.heap _
                      rw [e0]
                      exact ⟨by rw [F2, if_neg hc2, if_neg hc5, if_neg hc8, if_neg hc11, if_neg hc14, if_neg hc17, if_neg hc20, if_neg hc23, if_neg hc26], N0, rfl⟩
theorem pd_0 : parseMethodDescriptor "(I)I" = some ⟨[.int], some .int⟩ := by decide +kernel
theorem ef_0 (m : MethodId) (x0 : Int32)  : entryFrame m #[(.int x0)] maxLocals = mkF m 0 #[.val (.int x0), .unset] [] := by first | (simp [entryFrame, mkF, argsToLocals, Value.category, maxLocals]; done) | rfl
def F0 (x0 : Int32) : Int32 := if (F1 (x0 &&& (2147483647 : Int32))) = (F2 (x0 &&& (2147483647 : Int32))) then (1 : Int32) else (0 : Int32)
def Q0 (Z : State) (x0 : Int32) (h0 : Heap) (n0 : Nat) (v : Option Value) (h : Heap) (L : List Loc) : Prop := v = some (.int (F0 x0)) ∧ Fr n0 L
set_option maxRecDepth 65536 in
set_option maxHeartbeats 40000000 in
theorem rm0 (l : Launch) (Z : State) (a0 : Array Value) (hw : ∀ d ∈ tables_1, d.before a0 Z = true) (ws : List Jvm.Cond) (x0 : Int32) (h0 : Heap) (n0 : Nat) (Z0 : n0 ≤ h0.size) :
    MetFree l x (head1 (Jvm.Cond.code x code maxLocals ret :: ws) room_1) (fun a U => a = #[(.int x0)] ∧ Z.Warmed39 U.vm ∧ U.heap = h0) (fun _ _ _ _ _ => True) (fun _ U o U' => ∃ v L, o = .returned v ∧ Q0 Z x0 h0 n0 v U'.heap L ∧ FrameEnd U o U' L room_1.cells room_1.slots) := by
  refine MetFree.of_bodySF (plainFor_of_name pn_1) hisR ?_
  intro p e s m args below meth c s₁ Bd hml0 hP hK
  obtain ⟨rfl, hZ, hh⟩ := hP
  have hx := Bd.exec
  have hby := Bd.bytes
  have hml : c.maxLocals = 2 := hml0
  have hown : s.vm.findClass "com/example/tansy/tansy/metering/LabelsDigitsPinLaw" = some m.cls := findClass_of_methodNamed Bd.named
  have hnm := (name_of_methodNamed Bd.named Bd.method).1
  have X0 : Stand p l e room_1 s m #[(.int x0)] below meth c s₁ [] 0 0 := Stand.of_body Bd
  have e0 : s₁.heap = h0 := by rw [← hh, Bd.state]; rfl
  have N0 := Fr.nil n0
  have st0 : Steps p.tables e below (s₁.setTop (entryFrame m #[(.int x0)] maxLocals)) (s₁.setTop (mkF m 0 #[.val (.int x0), .unset] [])) := castTop (ef_0 m x0) (Steps.refl _)
  have st1 : Steps p.tables e below (s₁.setTop (entryFrame m #[(.int x0)] maxLocals)) (s₁.setTop (mkF m 6 #[.val (.int x0), .val (.int (x0 &&& (2147483647 : Int32)))] [(.int (x0 &&& (2147483647 : Int32)))])) := st0.trans (by
      show Steps p.tables e below (s₁.setTop (mkF m 0 #[.val (.int x0), .unset] [])) _
      refine XS.iloadN X0.here hx rfl (hb hby at_0) rfl ?_
      show Steps p.tables e below (s₁.setTop (mkF m 1 #[.val (.int x0), .unset] [(.int x0)])) _
      refine X0.ldcInt hx hown (mvT hZ (hw _ (List.mem_of_getElem? (i := 0) rfl))) (g := (mkF m 1 #[.val (.int x0), .unset] [(.int x0)])) rfl (hb hby at_1) _ ?_
      show Steps p.tables e below (s₁.setTop (mkF m 3 #[.val (.int x0), .unset] [(.int (2147483647 : Int32)), (.int x0)])) _
      refine XS.iand X0.here hx rfl (hb hby at_3) rfl ?_
      show Steps p.tables e below (s₁.setTop (mkF m 4 #[.val (.int x0), .unset] [(.int (x0 &&& (2147483647 : Int32)))])) _
      refine XS.istoreN X0.here hx rfl (hb hby at_4) rfl (l' := #[.val (.int x0), .val (.int (x0 &&& (2147483647 : Int32)))]) rfl ?_
      show Steps p.tables e below (s₁.setTop (mkF m 5 #[.val (.int x0), .val (.int (x0 &&& (2147483647 : Int32)))] [])) _
      refine XS.iloadN X0.here hx rfl (hb hby at_5) rfl ?_
      exact Steps.refl _)
  obtain ⟨_, _, ⟨T2, L2, k2, n2⟩, -, X2, ⟨Lc2, hQ2, l2, y2, z2⟩, sr2⟩ := Jvm.LawKit.callS X0 hx (y := (⟨"com/example/tansy/tansy/metering/Labels", "digits", "(I)I"⟩ : MethodName)) hown (mvT hZ (hw _ (List.mem_of_getElem? (i := 1) rfl))) (mvT hZ (hw _ (List.mem_of_getElem? (i := 2) rfl))) (mvT hZ (hw _ (List.mem_of_getElem? (i := 3) rfl))) (mvT hZ (hw _ (List.mem_of_getElem? (i := 4) rfl))) (by decide) (backOf (W := 0) (rm1 l Z a0 hw [] (x0 &&& (2147483647 : Int32))  h0 n0 Z0 ) hZ (hw _ (List.mem_of_getElem? (i := 4) rfl)) (hw _ (List.mem_of_getElem? (i := 3) rfl)) (by decide) (by decide)) (g := (mkF m 6 #[.val (.int x0), .val (.int (x0 &&& (2147483647 : Int32)))] [(.int (x0 &&& (2147483647 : Int32)))])) rfl (by rw [hml]; rfl) (argsL := [(.int (x0 &&& (2147483647 : Int32)))]) (rest := []) (lenOf pd_0 rfl) rfl (by show 2 * 0 + _ ≤ _; exact Nat.le_of_eq rfl) (hb hby at_6) (fun _ _ => ⟨rfl, e0, (by decide : 0 + 0 ≤ _), (by decide : 0 + 0 ≤ _)⟩)
  dsimp only [Pt.U, Pt.locs, Pt.cells, Pt.slots] at X2 l2 y2 z2 sr2 hQ2
  subst l2 y2 z2
  obtain ⟨rfl, N2q, hh2⟩ := hQ2
  have N2 := Fr.app N0 N2q
  have st3 : Steps p.tables e below (s₁.setTop (entryFrame m #[(.int x0)] maxLocals)) (T2.setTop (mkF m 9 #[.val (.int x0), .val (.int (x0 &&& (2147483647 : Int32)))] [(.int (F1 (x0 &&& (2147483647 : Int32))))])) := st1.trans (sr2 _ (Steps.refl _))
  have st4 : Steps p.tables e below (s₁.setTop (entryFrame m #[(.int x0)] maxLocals)) (T2.setTop (mkF m 10 #[.val (.int x0), .val (.int (x0 &&& (2147483647 : Int32)))] [(.int (x0 &&& (2147483647 : Int32))), (.int (F1 (x0 &&& (2147483647 : Int32))))])) := st3.trans (by
      show Steps p.tables e below (T2.setTop (mkF m 9 #[.val (.int x0), .val (.int (x0 &&& (2147483647 : Int32)))] [(.int (F1 (x0 &&& (2147483647 : Int32))))])) _
      refine XS.iloadN X2.here hx rfl (hb hby at_9) rfl ?_
      exact Steps.refl _)
  obtain ⟨_, _, ⟨T5, L5, k5, n5⟩, -, X5, ⟨Lc5, hQ5, l5, y5, z5⟩, sr5⟩ := Jvm.LawKit.callS X2 hx (y := (⟨"com/example/tansy/tansy/metering/LabelsDigitsPinLaw", "reference", "(I)I"⟩ : MethodName)) hown (mvT hZ (hw _ (List.mem_of_getElem? (i := 5) rfl))) (mvT hZ (hw _ (List.mem_of_getElem? (i := 6) rfl))) (mvT hZ (hw _ (List.mem_of_getElem? (i := 7) rfl))) (mvT hZ (hw _ (List.mem_of_getElem? (i := 8) rfl))) (by decide) (backOf (W := 1) (rm2 l Z a0 hw [] (x0 &&& (2147483647 : Int32))  h0 n0 Z0 ) hZ (hw _ (List.mem_of_getElem? (i := 8) rfl)) (hw _ (List.mem_of_getElem? (i := 7) rfl)) (by decide) (by decide)) (g := (mkF m 10 #[.val (.int x0), .val (.int (x0 &&& (2147483647 : Int32)))] [(.int (x0 &&& (2147483647 : Int32))), (.int (F1 (x0 &&& (2147483647 : Int32))))])) rfl (by rw [hml]; rfl) (argsL := [(.int (x0 &&& (2147483647 : Int32)))]) (rest := [(.int (F1 (x0 &&& (2147483647 : Int32))))]) (lenOf pd_0 rfl) rfl (by show 2 * 0 + _ ≤ _; exact Nat.le_of_eq rfl) (hb hby at_10) (fun _ _ => ⟨rfl, hh2, (by decide : 0 + 0 ≤ _), (by decide : 0 + 0 ≤ _)⟩)
  dsimp only [Pt.U, Pt.locs, Pt.cells, Pt.slots] at X5 l5 y5 z5 sr5 hQ5
  subst l5 y5 z5
  obtain ⟨rfl, N5q, hh5⟩ := hQ5
  have N5 := Fr.app N2 N5q
  have st6 : Steps p.tables e below (s₁.setTop (entryFrame m #[(.int x0)] maxLocals)) (T5.setTop (mkF m 13 #[.val (.int x0), .val (.int (x0 &&& (2147483647 : Int32)))] [(.int (F2 (x0 &&& (2147483647 : Int32)))), (.int (F1 (x0 &&& (2147483647 : Int32))))])) := st4.trans (sr5 _ (Steps.refl _))
  by_cases hc7 : (F1 (x0 &&& (2147483647 : Int32))) = (F2 (x0 &&& (2147483647 : Int32)))
  · have st8 : Steps p.tables e below (s₁.setTop (entryFrame m #[(.int x0)] maxLocals)) (T5.setTop (mkF m 21 #[.val (.int x0), .val (.int (x0 &&& (2147483647 : Int32)))] [(.int (1 : Int32))])) := st6.trans (by
        show Steps p.tables e below (T5.setTop (mkF m 13 #[.val (.int x0), .val (.int (x0 &&& (2147483647 : Int32)))] [(.int (F2 (x0 &&& (2147483647 : Int32)))), (.int (F1 (x0 &&& (2147483647 : Int32))))])) _
        refine XS.icmpNo X5.here hx rfl (hb hby at_13) rfl (teq hc7).2 ?_
        show Steps p.tables e below (T5.setTop (mkF m 16 #[.val (.int x0), .val (.int (x0 &&& (2147483647 : Int32)))] [])) _
        refine XS.iconst X5.here hx rfl (hb hby at_16) ?_
        show Steps p.tables e below (T5.setTop (mkF m 17 #[.val (.int x0), .val (.int (x0 &&& (2147483647 : Int32)))] [(.int (1 : Int32))])) _
        refine XS.goto X5.here hx rfl (pc0 := 17) (pc' := 21) rfl (hb hby at_17) (by decide) (by decide) ?_
        exact Steps.refl _)
    obtain ⟨fs, hr, hrun, hended, hW, hsame⟩ := X5.leave (v := some (.int (1 : Int32))) (fun h => by rw [Bd.returns] at h; cases h)
    refine ⟨_, _, st8.trans ?_, hrun, hended, _, _, rfl, ?_, ⟨_, rfl⟩, hW, hsame.mono (by decide) (by decide)⟩
    · exact retN X5 hx (t := .boolean) Bd.returns (by simp) (hb hby at_21) hr
    · show Q0 Z x0 h0 n0 _ T5.heap _
      rw [hh5]
      exact ⟨by rw [F0, if_pos hc7], N5⟩
  · have st9 : Steps p.tables e below (s₁.setTop (entryFrame m #[(.int x0)] maxLocals)) (T5.setTop (mkF m 21 #[.val (.int x0), .val (.int (x0 &&& (2147483647 : Int32)))] [(.int (0 : Int32))])) := st6.trans (by
        show Steps p.tables e below (T5.setTop (mkF m 13 #[.val (.int x0), .val (.int (x0 &&& (2147483647 : Int32)))] [(.int (F2 (x0 &&& (2147483647 : Int32)))), (.int (F1 (x0 &&& (2147483647 : Int32))))])) _
        refine XS.icmpYes X5.here hx rfl (pc0 := 13) (pc' := 20) rfl (hb hby at_13) rfl (feq hc7).2 (by decide) (by decide) ?_
        show Steps p.tables e below (T5.setTop (mkF m 20 #[.val (.int x0), .val (.int (x0 &&& (2147483647 : Int32)))] [])) _
        refine XS.iconst X5.here hx rfl (hb hby at_20) ?_
        exact Steps.refl _)
    obtain ⟨fs, hr, hrun, hended, hW, hsame⟩ := X5.leave (v := some (.int (0 : Int32))) (fun h => by rw [Bd.returns] at h; cases h)
    refine ⟨_, _, st9.trans ?_, hrun, hended, _, _, rfl, ?_, ⟨_, rfl⟩, hW, hsame.mono (by decide) (by decide)⟩
    · exact retN X5 hx (t := .boolean) Bd.returns (by simp) (hb hby at_21) hr
    · show Q0 Z x0 h0 n0 _ T5.heap _
      rw [hh5]
      exact ⟨by rw [F0, if_neg hc7], N5⟩
theorem own_dt (cn rs : Int32) (k : Nat) (h : 0 < rs.toInt) : own_dig (k + 1) cn rs = own_dig k (cn + 1) (rs / 10) ∧ (rs / 10).toInt = rs.toInt / 10 := by
  have k0 : (0 : Int32).toInt = 0 := by decide
  refine ⟨by rw [own_dig, if_pos (by rw [Int32.lt_iff_toInt_lt]; omega)], (c_idiv rs 10 10 (by decide) (by decide)).1 (by omega)⟩
theorem own_d0 (cn rs : Int32) (k : Nat) (h : rs.toInt ≤ 0) : own_dig k cn rs = cn := by
  have k0 : (0 : Int32).toInt = 0 := by decide
  cases k with
  | zero => rfl
  | succ k => rw [own_dig, if_neg (by rw [Int32.lt_iff_toInt_lt]; omega)]
theorem own_dg (n : Int32) (h : 0 ≤ n.toInt) : F1 n = F2 n := by
  have k10 : (10 : Int32).toInt = 10 := by decide
  have k100 : (100 : Int32).toInt = 100 := by decide
  have k1000 : (1000 : Int32).toInt = 1000 := by decide
  have k4 : (10000 : Int32).toInt = 10000 := by decide
  have k5 : (100000 : Int32).toInt = 100000 := by decide
  have k6 : (1000000 : Int32).toInt = 1000000 := by decide
  have k7 : (10000000 : Int32).toInt = 10000000 := by decide
  have k8 : (100000000 : Int32).toInt = 100000000 := by decide
  have k9 : (1000000000 : Int32).toInt = 1000000000 := by decide
  have r := rng32 n
  unfold F1 F2
  by_cases h2 : n < 100
  · rw [if_pos h2]
    by_cases h1 : n < 10
    · rw [if_pos h1, if_pos h1]
    · rw [if_neg h1, if_neg h1, if_pos h2]
  · rw [if_neg h2]
    have h1 : ¬ n < 10 := by rw [Int32.lt_iff_toInt_lt] at *; omega
    rw [if_neg h1, if_neg h2]
    have hdv := (c_idiv n 1000 1000 (by decide) (by decide)).1 (by omega)
    generalize n / 1000 = r0 at *
    rw [Int32.lt_iff_toInt_lt] at h1 h2
    by_cases h3 : n < 1000
    · rw [if_pos h3]; rw [Int32.lt_iff_toInt_lt] at h3; exact own_d0 _ _ _ (by omega)
    rw [if_neg h3]; rw [Int32.lt_iff_toInt_lt] at h3
    obtain ⟨a1, b1⟩ := own_dt 3 r0 6 (by omega)
    rw [a1]; generalize r0 / 10 = r1 at *
    by_cases h4 : n < 10000
    · rw [if_pos h4]; rw [Int32.lt_iff_toInt_lt] at h4; exact own_d0 _ _ _ (by omega)
    rw [if_neg h4]; rw [Int32.lt_iff_toInt_lt] at h4
    obtain ⟨a2, b2⟩ := own_dt (3 + 1) r1 5 (by omega)
    rw [a2]; generalize r1 / 10 = r2 at *
    by_cases h5 : n < 100000
    · rw [if_pos h5]; rw [Int32.lt_iff_toInt_lt] at h5; exact own_d0 _ _ _ (by omega)
    rw [if_neg h5]; rw [Int32.lt_iff_toInt_lt] at h5
    obtain ⟨a3, b3⟩ := own_dt (3 + 1 + 1) r2 4 (by omega)
    rw [a3]; generalize r2 / 10 = r3 at *
    by_cases h6 : n < 1000000
    · rw [if_pos h6]; rw [Int32.lt_iff_toInt_lt] at h6; exact own_d0 _ _ _ (by omega)
    rw [if_neg h6]; rw [Int32.lt_iff_toInt_lt] at h6
    obtain ⟨a4, b4⟩ := own_dt (3 + 1 + 1 + 1) r3 3 (by omega)
    rw [a4]; generalize r3 / 10 = r4 at *
    by_cases h7 : n < 10000000
    · rw [if_pos h7]; rw [Int32.lt_iff_toInt_lt] at h7; exact own_d0 _ _ _ (by omega)
    rw [if_neg h7]; rw [Int32.lt_iff_toInt_lt] at h7
    obtain ⟨a5, b5⟩ := own_dt (3 + 1 + 1 + 1 + 1) r4 2 (by omega)
    rw [a5]; generalize r4 / 10 = r5 at *
    by_cases h8 : n < 100000000
    · rw [if_pos h8]; rw [Int32.lt_iff_toInt_lt] at h8; exact own_d0 _ _ _ (by omega)
    rw [if_neg h8]; rw [Int32.lt_iff_toInt_lt] at h8
    obtain ⟨a6, b6⟩ := own_dt (3 + 1 + 1 + 1 + 1 + 1) r5 1 (by omega)
    rw [a6]; generalize r5 / 10 = r6 at *
    by_cases h9 : n < 1000000000
    · rw [if_pos h9]; rw [Int32.lt_iff_toInt_lt] at h9; exact own_d0 _ _ _ (by omega)
    rw [if_neg h9]; rw [Int32.lt_iff_toInt_lt] at h9
    obtain ⟨a7, b7⟩ := own_dt (3 + 1 + 1 + 1 + 1 + 1 + 1) r6 0 (by omega)
    rw [a7]; generalize r6 / 10 = r7 at *
    exact own_d0 _ _ _ (by omega)
theorem own_law (x0 : Int32) : F0 x0 = 1 := by
  have e1 : (x0 &&& 2147483647).toInt = x0.toInt % (2 ^ 31 : Nat) := c_mask x0 2147483647 31 (by decide) (by decide)
  unfold F0
  rw [if_pos (own_dg _ (by omega))]
set_option maxRecDepth 65536 in
set_option maxHeartbeats 40000000 in
theorem comes_1 {Post : Tables → Env → Array Value → State → Outcome → State → Prop} (hpost : ∀ tb e args s v u, (limb_1_1.after args s (.returned v) u = true ∧ limb_1_2.after args s (.returned v) u = true ∧ True) → FrameEnd s (.returned v) u (Jvm.fieldLocs frame_1_writes args s ++ Jvm.arrayLocs frame_1_arrays args s ++ Jvm.staticLocs frame_1_statics s) 0 0 → Post tb e args s (.returned v) u) :
    ArmFor flags0 classFile x code maxLocals ret World_1 tables_1 room_1 Calls_1 rest_1 Pre_1 Post := by
  intro l hfl _ _ p e ha hc hk s m args below hf hA hF happ hP
  obtain ⟨hcalls, hrest, hpre⟩ := hP
  obtain ⟨-, -, -, hnamed, -, -, -, hat⟩ := (Spec.applies_iff hf).mp happ
  obtain ⟨hg, hn⟩ := and_e (Cond.before_iff.mp (show (Jvm.Cond.and given_1 narrow_1).before args s = true from hpre))
  obtain ⟨g1, g2⟩ := and_e hg
  obtain ⟨w0, rfl⟩ : ∃ w0 : Value, args = #[w0] := by
    have hs : args.size = 1 := by simpa [Cond.value, given_1] using g1
    obtain ⟨L⟩ := args
    match L, hs with
    | [w0], _ => exact ⟨w0, rfl⟩
  have hw := fun d (hd : d ∈ tables_1) => atoms_spec (ws := Jvm.Cond.code x code maxLocals ret :: tables_1) hat d (List.mem_cons_of_mem _ hd)
  have hfit : Fit s := fun {y c} hc i hi => by
    obtain ⟨ha, rfl⟩ := Array.getElem?_eq_some_iff.mp hc
    have q := List.all_eq_true.mp ((Array.all_eq_true_iff_forall_mem.mp hF) _ (Array.getElem_mem ha)) i (List.mem_range.mpr hi)
    simpa [Array.getElem?_eq_getElem hi] using q
  obtain ⟨i0, ei0⟩ := is_v g2
  obtain rfl : w0 = (.int i0) := Option.some.inj ei0
  obtain ⟨n, o, h1, h2, h3, _, L, rfl, ⟨hv, N⟩, hq⟩ := rm0 l s _ hw tables_1 i0  s.heap s.heap.size (Nat.le_refl _)  p e ha hc hk s m _ below hf ((Spec.applies_iff_loose hf).mp happ).1 ⟨rfl, State.Warmed39.refl s, rfl⟩ trivial
  rw [own_law] at hv
  subst hv
  refine ⟨n, _, h1, h2, h3, hpost _ _ _ _ _ _ ⟨Cond.after_iff.mpr rfl, Cond.after_iff.mpr (eq_i res_at (Term.int_eval (1)) rfl), trivial⟩ ⟨hq.1, hq.2.1, (hq.2.2.sift fun y hy => Or.inr (N y hy)).mono (by decide) (by decide)⟩⟩
theorem main_1_1 : Claimed_1_1 := comes_1 fun _ _ _ _ _ _ h hF => ⟨h.1, hF⟩
theorem main_1_2 : Claimed_1_2 := comes_1 fun _ _ _ _ _ _ h hF => ⟨h.2.1, hF⟩
end Jvm.Pilot.@@N@@
namespace Jvm.Pilot.@@N@@
open Jvm Jvm.ClassFile Sem Op Lib Jvm.Free Jvm.Stand Jvm.Pilot.@@N@@.Jvm.D
/-! MADE BY PROGRAM (witnessworld.py) out of the Statement's table words and the real class files: 9 classes; the members and pool entries that the words name. The judged class is class 1, her method 1. -/
namespace start1
open Jvm.ClassFile
def u (s : String) : CpInfo := .utf8 (stringToUtf16 s)
/-- a pool by its gaps: so many unusable entries, then the entry; so many at the end -/
def gap : Nat → List CpInfo → List CpInfo
  | 0, r => r
  | n + 1, r => .unusable :: gap n r
def poolList (es : List (Nat × CpInfo)) (last : Nat) : List CpInfo := es.foldr (fun e r => gap e.1 (e.2 :: r)) (gap last [])
def pool (es : List (Nat × CpInfo)) (last : Nat) : Array CpInfo := ⟨poolList es last⟩
def fileOf (pool : Array CpInfo) (this : Nat) (attrs : Array Attribute := #[]) (ms : Array MethodInfo := #[]) (fl : Nat := 33) (sup : Nat := 0) (ifs : Array Nat := #[]) (fds : Array FieldInfo := #[]) : ClassFile where
  minorVersion := 0
  majorVersion := 65
  constantPool := pool
  accessFlags := fl
  thisClass := this
  superClass := sup
  interfaces := ifs
  fields := fds
  methods := ms
  attributes := attrs
def plain (name : String) (sup : Option ClassId) : Class where
  name := name
  kind := .ordinary
  loader := none
  accessFlags := 33
  super := sup
  interfaces := #[]
  cf := none
  fields := #[]
  methods := #[]
  instanceTypes := #[]
  staticTypes := #[]
  resolved := #[]
  callSites := []
  init := .initialized
  statics := none
  mirror := none

def pool0 : Array CpInfo := pool [(5, u "<init>"), (0, u "()V"), (1, .class_ 10), (1, u "java/lang/Object")] 113

def k0m0 : Method := { name := "<init>", desc := "()V", sig := { parameters := [], returnType := none }, accessFlags := 1, code := none }
/-- java/lang/Object -/
def k0 : Class := { plain "java/lang/Object" none with
  accessFlags := 33
  interfaces := #[]
  cf := some (fileOf pool0 8 #[] #[{ accessFlags := 1, nameIndex := 5, descriptorIndex := 6, attributes := #[] }] 33 0 #[] #[])
  fields := #[]
  methods := #[k0m0]
  instanceTypes := #[]
  staticTypes := #[]
  resolved := Array.replicate 124 none
  statics := none }

def pool1 : Array CpInfo := pool [(2, .class_ 4), (1, u "java/lang/Object"), (0, u "<init>"), (0, u "()V"), (0, .integer 2147483647), (0, .methodref 9 10), (0, .class_ 11), (0, .nameAndType 12 13), (0, u "com/example/tansy/tansy/metering/Labels"), (0, u "digits"), (0, u "(I)I"), (0, .methodref 15 16), (0, .class_ 17), (0, .nameAndType 18 13), (0, u "com/example/tansy/tansy/metering/LabelsDigitsPinLaw"), (0, u "reference"), (0, .integer 100000), (0, .integer 1000000), (0, .integer 10000000), (0, .integer 100000000), (0, .integer 1000000000), (2, u "law"), (0, u "(I)Z")] 3

def k1m0 : Method := { name := "<init>", desc := "()V", sig := { parameters := [], returnType := none }, accessFlags := 1, code := none }
def k1c1 : Code := { maxStack := 2, maxLocals := 2, code := code, exceptionTable := #[], attributes := #[] }
def k1m1 : Method := { name := "law", desc := "(I)Z", sig := { parameters := [.int], returnType := some .boolean }, accessFlags := 9, code := some k1c1 }
def k1c2 : Code := { maxStack := 2, maxLocals := 1, code := method_3_code, exceptionTable := #[], attributes := #[] }
def k1m2 : Method := { name := "reference", desc := "(I)I", sig := { parameters := [.int], returnType := some .int }, accessFlags := 10, code := some k1c2 }
/-- com/example/tansy/tansy/metering/LabelsDigitsPinLaw -/
def k1 : Class := { plain "com/example/tansy/tansy/metering/LabelsDigitsPinLaw" (some 0) with
  accessFlags := 49
  interfaces := #[]
  cf := some (fileOf pool1 15 #[] #[{ accessFlags := 1, nameIndex := 5, descriptorIndex := 6, attributes := #[] }, { accessFlags := 9, nameIndex := 26, descriptorIndex := 27, attributes := #[] }, { accessFlags := 10, nameIndex := 18, descriptorIndex := 13, attributes := #[] }] 49 2 #[] #[])
  fields := #[]
  methods := #[k1m0, k1m1, k1m2]
  instanceTypes := #[]
  staticTypes := #[]
  resolved := Array.replicate 31 none
  statics := none }

def pool2 : Array CpInfo := pool [(2, .class_ 4), (1, u "java/lang/Object"), (0, u "<init>"), (0, u "()V"), (1, .class_ 10), (1, u "com/example/tansy/tansy/metering/Labels"), (0, u "text"), (0, u "[B"), (2, u "labels"), (0, u "[I"), (2, u "moving"), (2, u "ascii"), (0, u "Z"), (2, u "count"), (0, u "I"), (5, u "spanStart"), (2, u "spanEnd"), (2, u "asKey"), (2, u "asKeyStart"), (2, u "asKeyEnd"), (108, u "addedInOrder"), (18, u "EIGHT_BYTES"), (0, u "Ljava/lang/invoke/VarHandle;"), (7, u "METRIC_NAME"), (0, u "J"), (11, u "(I)I"), (83, u "NAME_OFFSET"), (2, u "NAME_BYTES"), (1, u "VALUE_OFFSET"), (1, u "VALUE_BYTES"), (1, u "FIELDS"), (1, u "LABEL_TAG"), (0, u "B"), (1, u "NAME_TAG"), (0, u "VALUE_TAG"), (1, u "ONE_BYTE_LENGTHS"), (1, u "NOT_ASCII"), (0, u "SORTED_IN_PLACE"), (15, u "digits")] 26

def k2m0 : Method := { name := "<init>", desc := "()V", sig := { parameters := [], returnType := none }, accessFlags := 0, code := none }
def k2c1 : Code := { maxStack := 2, maxLocals := 3, code := prog_7_method_19_code, exceptionTable := #[], attributes := #[] }
def k2m1 : Method := { name := "digits", desc := "(I)I", sig := { parameters := [.int], returnType := some .int }, accessFlags := 8, code := some k2c1 }
/-- com/example/tansy/tansy/metering/Labels -/
def k2 : Class := { plain "com/example/tansy/tansy/metering/Labels" (some 0) with
  accessFlags := 48
  interfaces := #[]
  cf := some (fileOf pool2 8 #[] #[{ accessFlags := 0, nameIndex := 5, descriptorIndex := 6, attributes := #[] }, { accessFlags := 8, nameIndex := 315, descriptorIndex := 195, attributes := #[] }] 48 2 #[] #[{ accessFlags := 26, nameIndex := 279, descriptorIndex := 27, attributes := #[] }, { accessFlags := 26, nameIndex := 282, descriptorIndex := 27, attributes := #[] }, { accessFlags := 26, nameIndex := 284, descriptorIndex := 27, attributes := #[] }, { accessFlags := 26, nameIndex := 286, descriptorIndex := 27, attributes := #[] }, { accessFlags := 26, nameIndex := 288, descriptorIndex := 27, attributes := #[] }, { accessFlags := 26, nameIndex := 290, descriptorIndex := 291, attributes := #[] }, { accessFlags := 26, nameIndex := 293, descriptorIndex := 291, attributes := #[] }, { accessFlags := 26, nameIndex := 294, descriptorIndex := 291, attributes := #[] }, { accessFlags := 26, nameIndex := 296, descriptorIndex := 27, attributes := #[] }, { accessFlags := 26, nameIndex := 173, descriptorIndex := 174, attributes := #[] }, { accessFlags := 26, nameIndex := 182, descriptorIndex := 183, attributes := #[] }, { accessFlags := 26, nameIndex := 298, descriptorIndex := 183, attributes := #[] }, { accessFlags := 26, nameIndex := 299, descriptorIndex := 27, attributes := #[] }, { accessFlags := 2, nameIndex := 11, descriptorIndex := 12, attributes := #[] }, { accessFlags := 2, nameIndex := 15, descriptorIndex := 16, attributes := #[] }, { accessFlags := 2, nameIndex := 26, descriptorIndex := 27, attributes := #[] }, { accessFlags := 18, nameIndex := 19, descriptorIndex := 16, attributes := #[] }, { accessFlags := 2, nameIndex := 22, descriptorIndex := 23, attributes := #[] }, { accessFlags := 2, nameIndex := 33, descriptorIndex := 27, attributes := #[] }, { accessFlags := 2, nameIndex := 36, descriptorIndex := 27, attributes := #[] }, { accessFlags := 2, nameIndex := 39, descriptorIndex := 23, attributes := #[] }, { accessFlags := 2, nameIndex := 42, descriptorIndex := 27, attributes := #[] }, { accessFlags := 2, nameIndex := 45, descriptorIndex := 27, attributes := #[] }, { accessFlags := 2, nameIndex := 154, descriptorIndex := 23, attributes := #[] }])
  fields := #[{ name := "NAME_OFFSET", type := .int, accessFlags := 26, slot := 0, constantValue := 0 }, { name := "NAME_BYTES", type := .int, accessFlags := 26, slot := 1, constantValue := 0 }, { name := "VALUE_OFFSET", type := .int, accessFlags := 26, slot := 2, constantValue := 0 }, { name := "VALUE_BYTES", type := .int, accessFlags := 26, slot := 3, constantValue := 0 }, { name := "FIELDS", type := .int, accessFlags := 26, slot := 4, constantValue := 0 }, { name := "LABEL_TAG", type := .byte, accessFlags := 26, slot := 5, constantValue := 0 }, { name := "NAME_TAG", type := .byte, accessFlags := 26, slot := 6, constantValue := 0 }, { name := "VALUE_TAG", type := .byte, accessFlags := 26, slot := 7, constantValue := 0 }, { name := "ONE_BYTE_LENGTHS", type := .int, accessFlags := 26, slot := 8, constantValue := 0 }, { name := "EIGHT_BYTES", type := (.object "java/lang/invoke/VarHandle"), accessFlags := 26, slot := 9, constantValue := 0 }, { name := "METRIC_NAME", type := .long, accessFlags := 26, slot := 10, constantValue := 0 }, { name := "NOT_ASCII", type := .long, accessFlags := 26, slot := 11, constantValue := 0 }, { name := "SORTED_IN_PLACE", type := .int, accessFlags := 26, slot := 12, constantValue := 0 }, { name := "text", type := (.array .byte), accessFlags := 2, slot := 0, constantValue := 0 }, { name := "labels", type := (.array .int), accessFlags := 2, slot := 1, constantValue := 0 }, { name := "count", type := .int, accessFlags := 2, slot := 2, constantValue := 0 }, { name := "moving", type := (.array .int), accessFlags := 18, slot := 3, constantValue := 0 }, { name := "ascii", type := .boolean, accessFlags := 2, slot := 4, constantValue := 0 }, { name := "spanStart", type := .int, accessFlags := 2, slot := 5, constantValue := 0 }, { name := "spanEnd", type := .int, accessFlags := 2, slot := 6, constantValue := 0 }, { name := "asKey", type := .boolean, accessFlags := 2, slot := 7, constantValue := 0 }, { name := "asKeyStart", type := .int, accessFlags := 2, slot := 8, constantValue := 0 }, { name := "asKeyEnd", type := .int, accessFlags := 2, slot := 9, constantValue := 0 }, { name := "addedInOrder", type := .boolean, accessFlags := 2, slot := 10, constantValue := 0 }]
  methods := #[k2m0, k2m1]
  instanceTypes := #[(.array .byte), (.array .int), .int, (.array .int), .boolean, .int, .int, .boolean, .int, .int, .boolean]
  staticTypes := #[.int, .int, .int, .int, .int, .byte, .byte, .byte, .int, (.object "java/lang/invoke/VarHandle"), .long, .long, .int]
  resolved := Array.replicate 342 none
  statics := none }

def pool3 : Array CpInfo := pool [(1, u "java/lang/Cloneable"), (0, .class_ 1), (0, u "java/lang/Object"), (0, .class_ 3)] 3

/-- java/lang/Cloneable -/
def k3 : Class := { plain "java/lang/Cloneable" (some 0) with
  accessFlags := 1537
  interfaces := #[]
  cf := some (fileOf pool3 2 #[] #[] 1537 4 #[] #[])
  fields := #[]
  methods := #[]
  instanceTypes := #[]
  staticTypes := #[]
  resolved := Array.replicate 8 none
  statics := none }

def pool4 : Array CpInfo := pool [(1, u "java/io/Serializable"), (0, .class_ 1), (0, u "java/lang/Object"), (0, .class_ 3)] 3

/-- java/io/Serializable -/
def k4 : Class := { plain "java/io/Serializable" (some 0) with
  accessFlags := 1537
  interfaces := #[]
  cf := some (fileOf pool4 2 #[] #[] 1537 4 #[] #[])
  fields := #[]
  methods := #[]
  instanceTypes := #[]
  staticTypes := #[]
  resolved := Array.replicate 8 none
  statics := none }

/-- the primitive byte -/
def k5 : Class := { plain "byte" none with kind := .primitive 'B', accessFlags := 0x411 }
/-- [B -/
def k6 : Class := { plain "[B" (some 0) with kind := .array 5 .byte, interfaces := #[3, 4], accessFlags := 1041 }

/-- the primitive int -/
def k7 : Class := { plain "int" none with kind := .primitive 'I', accessFlags := 0x411 }
/-- [I -/
def k8 : Class := { plain "[I" (some 0) with kind := .array 7 .int, interfaces := #[3, 4], accessFlags := 1041 }

def heap : Heap := #[]
def classes : Array Class := #[k0, k1, k2, k3, k4, k5, k6, k7, k8]
def interned : List (Array UInt16 × Addr) := []
def slotsUsed : Nat := 0
def theMethod : MethodId := ⟨1, 1⟩
def args0 : Array Value := #[.int 12345]
def aboutOver (below : List Frame) : State where
  vm := { classes := classes, interned := interned.toArray }
  heap := heap
  slotsUsed := slotsUsed
  threads := #[{ frames := .invoking theMethod args0 :: below }]
def below0 : List Frame := [.native { method := ⟨0, 0⟩, args := #[] }]
def about1 : State := aboutOver below0
def p0 : Program := .bare "" "" ""
def e0 : Env := launch0.env 0 0 0
theorem w_frames : about1.frames = Frame.invoking theMethod args0 :: below0 := rfl
set_option maxRecDepth 65536 in
theorem w_args : argsFit about1.vm theMethod args0 = true := by decide +kernel
set_option maxRecDepth 65536 in
theorem w_heap : heapFits about1 = true := by decide +kernel
set_option maxRecDepth 65536 in
theorem w_runnable : about1.curStatus? = some .runnable := by decide +kernel
set_option maxRecDepth 65536 in
theorem w_alone : about1.alone = true := by decide +kernel
set_option maxRecDepth 65536 in
theorem w_named : about1.methodNamed? x = some theMethod := by decide +kernel
set_option maxRecDepth 65536 in
theorem w_hears : about1.hears theMethod below0 = true := by decide +kernel
set_option maxRecDepth 65536 in
theorem w_ripe : about1.ripe theMethod args0 below0 = true := by decide +kernel
theorem w_running : about1.status = .running := rfl
set_option maxRecDepth 65536 in
theorem w_room : about1.hasRoom e0.platform room_1 = true :=
  launch0.hasRoom_least _ room_1 (by decide +kernel) (by decide +kernel) (by decide +kernel) (by decide +kernel) (by decide +kernel) (by decide +kernel)
theorem allAtoms_all (ts : List Jvm.Cond) (a : Array Jvm.Value) (st : Jvm.State) : (allAtoms ts).before a st = ts.all (fun c => c.before a st) := by
  induction ts with
  | nil => rfl
  | cons c t ih =>
    show (Jvm.Cond.and c (allAtoms t)).before a st = _
    rw [Jvm.Cond.before_and, ih, List.all_cons]
def words1 : List Jvm.Cond := Jvm.Cond.code x code maxLocals ret :: tables_1
/-- a 'code' word, met by the world's own term for the bytes: nothing is compared byte by byte -/
theorem code_word {y : MethodName} {bytes : ByteArray} {mx : Nat} {rt : Option FieldType} {a : Array Value} {s : State} {m : MethodId} {meth : Method} {c : Code} (h1 : s.methodNamed? y = some m) (h2 : s.vm.method? m = some meth) (h3 : meth.code = some c) (h4 : c.code = bytes)
    (h5 : (c.maxLocals == mx && c.exceptionTable.isEmpty && decide (c.maxStack ≤ mostOperands) && decide (meth.sig.returnType = rt) && !meth.locks && decide (parseMethodDescriptor y.desc = some meth.sig)) = true) : (Jvm.Cond.code y bytes mx rt).before a s = true := by
  simp only [Bool.and_eq_true, beq_iff_eq, Bool.not_eq_true', decide_eq_true_eq] at h5
  obtain ⟨⟨⟨⟨⟨g1, g2⟩, g3⟩, g4⟩, g5⟩, g6⟩ := h5
  simp [Cond.before, Cond.holds, Cond.value, h1, h2, h3, h4, g1, g2, g3, g4, g5, g6]
def isCode : Jvm.Cond → Bool
  | .code _ _ _ _ => true
  | _ => false
theorem all_split {L : List Jvm.Cond} {P : Jvm.Cond → Bool} (h1 : L.all (fun c => isCode c || P c) = true) (h2 : ∀ c ∈ L.filter isCode, P c = true) : L.all P = true := by
  refine List.all_eq_true.mpr fun c hc => ?_
  have h := List.all_eq_true.mp h1 c hc
  rcases Bool.eq_false_or_eq_true (isCode c) with hi | hi
  · exact h2 c (List.mem_filter.mpr ⟨hc, hi⟩)
  · simpa [hi] using h
set_option maxRecDepth 65536 in
theorem w_c0 : (Jvm.Cond.code x code maxLocals ret).before args0 about1 = true := code_word (m := ⟨1, 1⟩) (meth := k1m1) (c := k1c1) (by decide +kernel) rfl rfl rfl (by decide +kernel)
set_option maxRecDepth 65536 in
theorem w_c1 : (Jvm.Cond.code ({ cls := "com/example/tansy/tansy/metering/Labels", name := "digits", desc := "(I)I" } : Jvm.MethodName) prog_7_method_19_code (3 : Nat) (Option.some Jvm.ClassFile.FieldType.int)).before args0 about1 = true := code_word (m := ⟨2, 1⟩) (meth := k2m1) (c := k2c1) (by decide +kernel) rfl rfl rfl (by decide +kernel)
set_option maxRecDepth 65536 in
theorem w_c2 : (Jvm.Cond.code ({ cls := "com/example/tansy/tansy/metering/LabelsDigitsPinLaw", name := "reference", desc := "(I)I" } : Jvm.MethodName) method_3_code (1 : Nat) (Option.some Jvm.ClassFile.FieldType.int)).before args0 about1 = true := code_word (m := ⟨1, 2⟩) (meth := k1m2) (c := k1c2) (by decide +kernel) rfl rfl rfl (by decide +kernel)
def codes1 : List Jvm.Cond := [Jvm.Cond.code x code maxLocals ret, Jvm.Cond.code ({ cls := "com/example/tansy/tansy/metering/Labels", name := "digits", desc := "(I)I" } : Jvm.MethodName) prog_7_method_19_code (3 : Nat) (Option.some Jvm.ClassFile.FieldType.int), Jvm.Cond.code ({ cls := "com/example/tansy/tansy/metering/LabelsDigitsPinLaw", name := "reference", desc := "(I)I" } : Jvm.MethodName) method_3_code (1 : Nat) (Option.some Jvm.ClassFile.FieldType.int)]
set_option maxRecDepth 65536 in
theorem codes_eq : words1.filter isCode = codes1 := rfl
theorem w_codes : ∀ c ∈ words1.filter isCode, c.before args0 about1 = true := by
  rw [codes_eq]
  intro c hc
  simp only [codes1, List.mem_cons, List.not_mem_nil, or_false] at hc
  rcases hc with rfl | rfl | rfl
  · exact w_c0
  · exact w_c1
  · exact w_c2
set_option maxRecDepth 65536 in
theorem w_t1 : words1.all (fun c => isCode c || c.before args0 about1) = true := by decide +kernel
theorem w_tables : (allAtoms (Jvm.Cond.code x code maxLocals ret :: tables_1)).before args0 about1 = true := by
  rw [allAtoms_all]
  show words1.all (fun c => c.before args0 about1) = true
  refine all_split ?_ w_codes
  rw [w_t1]
set_option maxRecDepth 65536 in
theorem w_case : (Jvm.Cond.and given_1 narrow_1).before args0 about1 = true := by decide +kernel
theorem w_applies : (headSpec (Jvm.Cond.code x code maxLocals ret :: tables_1) room_1).applies x e0.platform about1 = true :=
  (Spec.applies_iff w_frames).mpr ⟨w_running, w_runnable, w_alone, w_named, w_hears, w_ripe, w_room, w_tables⟩
theorem atStart : AtStart classFile x code maxLocals ret World_1 tables_1 room_1 Calls_1 rest_1 Pre_1 launch0 p0 e0 about1 theMethod args0 below0 :=
  ⟨lists_1, trivial, launch0.admits_env _ _ _, launch0.least_env, fairChoices_fair.cas, fairChoices_fair.clock, w_frames, w_args, w_heap, w_applies, trivial, trivial, w_case⟩
end start1
theorem witness_1 : WitnessClaimed_1 := ⟨start1.p0, start1.e0, start1.about1, start1.theMethod, start1.args0, start1.below0, start1.atStart⟩
end Jvm.Pilot.@@N@@
