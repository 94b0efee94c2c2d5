import JvmDerived
import JvmDerived.Pilot.@@N@@Statement
import JvmDerived.Pilot.@@N@@Code
set_option linter.unusedVariables false
set_option linter.unusedSimpArgs false
namespace Jvm.RoadKit
open Sem ClassFile Op Lib Jvm.Stand Jvm.Free Jvm.LawKit
section New
variable {p : Program} {l : Launch} {e : Env} {R : Room} {s : State} {m : MethodId} {args : Array Value} {below : List Frame} {meth : Method} {c : Code} {T : State} {locs : List Loc} {cells slots : Nat}
theorem retI (X : Stand p l e R s m args below meth c T locs cells slots) (hx : p.tables.exec = Jvm.exec) {pc : Nat} {Ls : Array Slot} {z : Int32} {rest : List Value} (hret : meth.sig.returnType = some .int) (hd : decode c.code pc = .ok (.ireturn, 1)) {fs : List Frame}
    (hl : ∀ (f : JFrame) (acts : List Action), f.method = m → f.locked = none → f.entered = [] → (doReturn e (T.setTop f) acts (some (.int z))).1 = T.setFrames fs) : Steps p.tables e below (T.setTop (mkF m pc Ls (.int z :: rest))) (T.setFrames fs) := by
  have hm' : T.vm.method? m = some meth := X.method'
  have hn : narrow .int (.int z) = .int z := rfl
  show Steps p.tables e below (T.setTop { method := m, pc := pc, locals := Ls, stack := _ :: rest, locked := none }) _
  jvm_step X.here [X.here.top, hx, hd, hm', hret, hn]
  first | (intro acts; rw [hl _ acts rfl rfl rfl]) | rw [hl _ _ rfl rfl rfl]
  exact Steps.refl _
end New
end Jvm.RoadKit
namespace Jvm.Pilot.@@N@@
open Jvm Jvm.ClassFile Sem Op Lib Jvm.Free Jvm.Stand Jvm.LawKit Jvm.RoadKit Bundle Jvm.Pilot.@@N@@.Jvm.D
theorem own_bt {P : Prop} [Decidable P] (h : P) : ifCond.holds .eq (if P then (1 : Int32) else (0 : Int32)) = false ∧ ifCond.holds .ne (if P then (1 : Int32) else (0 : Int32)) = true := by rw [if_pos h]; exact ⟨rfl, rfl⟩
theorem own_bf {P : Prop} [Decidable P] (h : ¬ P) : ifCond.holds .eq (if P then (1 : Int32) else (0 : Int32)) = true ∧ ifCond.holds .ne (if P then (1 : Int32) else (0 : Int32)) = false := by rw [if_neg h]; exact ⟨rfl, rfl⟩
theorem own_getI (L : List Int32) (i : Nat) : (List.map Value.int L).getD i (.int (0 : Int32)) = .int (L.getD i 0) := by
  simp only [List.getD_eq_getElem?_getD, List.getElem?_map]; cases L[i]? <;> rfl
theorem own_getJ (L : List Int64) (i : Nat) : (List.map Value.long L).getD i (.long (0 : Int64)) = .long (L.getD i 0) := by
  simp only [List.getD_eq_getElem?_getD, List.getElem?_map]; cases L[i]? <;> rfl
theorem own_setI (L : List Int32) (i : Nat) (x : Int32) : (List.map Value.int L).set i (.int x) = List.map Value.int (L.set i x) := (List.map_set).symm
theorem own_setJ (L : List Int64) (i : Nat) (x : Int64) : (List.map Value.long L).set i (.long x) = List.map Value.long (L.set i x) := (List.map_set).symm
theorem own_ns {Z : State} {h : Heap} {o : Addr} {C : String} (E : Exa Z h o C) : ∃ c : Cell, h[o]? = some c ∧ c.vm.isStatics = false := by
  obtain ⟨c, k, h1, -, -, h4, -⟩ := E; exact ⟨c, h1, h4⟩
theorem own_sta_keep {Z : State} {h h' : Heap} {ws : List Addr} {C n d : String} {v : Value} (S : Sta Z h C n d v) (K : Keep h h' ws) (q : ∀ w ∈ ws, ∃ c : Cell, h[w]? = some c ∧ c.vm.isStatics = false) : Sta Z h' C n d v := by
  obtain ⟨cf, i, k, f, st, cell, h1, h2, h3, h4, h5, h6, h7⟩ := S
  refine ⟨cf, i, k, f, st, cell, h1, h2, h3, h4, K.2.1 _ _ h5 (fun z => ?_), h6, h7⟩
  obtain ⟨c, e1, e2⟩ := q _ z
  cases h5.symm.trans e1; rw [e2] at h6; cases h6
theorem own_selp {s : State} {args args' : Array Value} {y z : MethodName} (hcls : z.cls = y.cls) (hnf : NotFace s z) (hz : (Cond.instanceMethod z).before args' s = true) (hpriv : s.PrivateAt y) (hinst : (Cond.instanceMethod y).before args s = true) (hy : y.cls ≠ "java/lang/invoke/MethodHandle" ∧ y.cls ≠ "java/lang/invoke/VarHandle") : (Cond.selects y.cls y y).before args s = true := by
  obtain ⟨mz, _, hnz, _⟩ := Cond.instanceMethod_spec hz
  obtain ⟨k, hk, hni⟩ := hnf mz hnz
  exact selects_self_of_private (by rw [← hcls]; exact findClass_of_methodNamed hnz) hk hni hpriv hinst hy
theorem own_swne {x k : Int32} {n : Int} (h : ¬ x = k) (e : k.toInt = n) : n ≠ x.toInt := fun q => h (Int32.toInt_inj.mp (by rw [e, q]))
theorem own_lt {x a b : Int32} (h : x < a) (e : a ≤ b) : x < b := by
  rw [Int32.lt_iff_toInt_lt] at *; rw [Int32.le_iff_toInt_le] at e; omega
theorem own_ltne {x a k : Int32} (h : x < a) (e : a ≤ k) : ¬ x = k := fun q => by
  subst q; rw [Int32.lt_iff_toInt_lt] at *; rw [Int32.le_iff_toInt_le] at e; omega
theorem own_gtne {x a k : Int32} (h : a < x) (e : k ≤ a) : ¬ x = k := fun q => by
  subst q; rw [Int32.lt_iff_toInt_lt] at *; rw [Int32.le_iff_toInt_le] at e; omega
theorem d1_0 : decode prog_87_method_4_code 0 = .ok (.iload_n 0, 1) := by decide +kernel
theorem d1_1 : decode prog_87_method_4_code 1 = .ok (.bipush 32, 2) := by decide +kernel
theorem d1_3 : decode prog_87_method_4_code 3 = .ok (.if_icmp .lt 9, 3) := by decide +kernel
theorem d1_6 : decode prog_87_method_4_code 6 = .ok (.iload_n 0, 1) := by decide +kernel
theorem d1_7 : decode prog_87_method_4_code 7 = .ok (.bipush 127, 2) := by decide +kernel
theorem d1_9 : decode prog_87_method_4_code 9 = .ok (.if_icmp .lt 17, 3) := by decide +kernel
theorem d1_12 : decode prog_87_method_4_code 12 = .ok (.iload_n 0, 1) := by decide +kernel
theorem d1_13 : decode prog_87_method_4_code 13 = .ok (.sipush 160, 3) := by decide +kernel
theorem d1_16 : decode prog_87_method_4_code 16 = .ok (.if_icmp .lt 12, 3) := by decide +kernel
theorem d1_19 : decode prog_87_method_4_code 19 = .ok (.iload_n 0, 1) := by decide +kernel
theorem d1_20 : decode prog_87_method_4_code 20 = .ok (.sipush 255, 3) := by decide +kernel
theorem d1_23 : decode prog_87_method_4_code 23 = .ok (.if_icmp .gt 5, 3) := by decide +kernel
theorem d1_26 : decode prog_87_method_4_code 26 = .ok (.iload_n 0, 1) := by decide +kernel
theorem d1_27 : decode prog_87_method_4_code 27 = .ok (.ireturn, 1) := by decide +kernel
theorem d1_28 : decode prog_87_method_4_code 28 = .ok (.iload_n 0, 1) := by decide +kernel
theorem d1_29 : decode prog_87_method_4_code 29 = .ok (.lookupswitch 193 #[(338, 121), (339, 175), (352, 115), (353, 169), (376, 187), (381, 127), (382, 181), (8211, 157), (8212, 163), (8216, 133), (8217, 139), (8220, 145), (8221, 151)], 115) := by decide +kernel
theorem d1_144 : decode prog_87_method_4_code 144 = .ok (.sipush 138, 3) := by decide +kernel
theorem d1_147 : decode prog_87_method_4_code 147 = .ok (.goto 76, 3) := by decide +kernel
theorem d1_150 : decode prog_87_method_4_code 150 = .ok (.sipush 140, 3) := by decide +kernel
theorem d1_153 : decode prog_87_method_4_code 153 = .ok (.goto 70, 3) := by decide +kernel
theorem d1_156 : decode prog_87_method_4_code 156 = .ok (.sipush 142, 3) := by decide +kernel
theorem d1_159 : decode prog_87_method_4_code 159 = .ok (.goto 64, 3) := by decide +kernel
theorem d1_162 : decode prog_87_method_4_code 162 = .ok (.sipush 145, 3) := by decide +kernel
theorem d1_165 : decode prog_87_method_4_code 165 = .ok (.goto 58, 3) := by decide +kernel
theorem d1_168 : decode prog_87_method_4_code 168 = .ok (.sipush 146, 3) := by decide +kernel
theorem d1_171 : decode prog_87_method_4_code 171 = .ok (.goto 52, 3) := by decide +kernel
theorem d1_174 : decode prog_87_method_4_code 174 = .ok (.sipush 147, 3) := by decide +kernel
theorem d1_177 : decode prog_87_method_4_code 177 = .ok (.goto 46, 3) := by decide +kernel
theorem d1_180 : decode prog_87_method_4_code 180 = .ok (.sipush 148, 3) := by decide +kernel
theorem d1_183 : decode prog_87_method_4_code 183 = .ok (.goto 40, 3) := by decide +kernel
theorem d1_186 : decode prog_87_method_4_code 186 = .ok (.sipush 150, 3) := by decide +kernel
theorem d1_189 : decode prog_87_method_4_code 189 = .ok (.goto 34, 3) := by decide +kernel
theorem d1_192 : decode prog_87_method_4_code 192 = .ok (.sipush 151, 3) := by decide +kernel
theorem d1_195 : decode prog_87_method_4_code 195 = .ok (.goto 28, 3) := by decide +kernel
theorem d1_198 : decode prog_87_method_4_code 198 = .ok (.sipush 154, 3) := by decide +kernel
theorem d1_201 : decode prog_87_method_4_code 201 = .ok (.goto 22, 3) := by decide +kernel
theorem d1_204 : decode prog_87_method_4_code 204 = .ok (.sipush 156, 3) := by decide +kernel
theorem d1_207 : decode prog_87_method_4_code 207 = .ok (.goto 16, 3) := by decide +kernel
theorem d1_210 : decode prog_87_method_4_code 210 = .ok (.sipush 158, 3) := by decide +kernel
theorem d1_213 : decode prog_87_method_4_code 213 = .ok (.goto 10, 3) := by decide +kernel
theorem d1_216 : decode prog_87_method_4_code 216 = .ok (.sipush 159, 3) := by decide +kernel
theorem d1_219 : decode prog_87_method_4_code 219 = .ok (.goto 4, 3) := by decide +kernel
theorem d1_222 : decode prog_87_method_4_code 222 = .ok (.iconst (-1), 1) := by decide +kernel
theorem d1_223 : decode prog_87_method_4_code 223 = .ok (.ireturn, 1) := by decide +kernel
theorem pn_0 : plainName "com/example/escritural/escritural/pdf/WinAnsi" = true := by first | (simp [plainName, overriddenIn]; done) | decide +kernel
theorem ef_1 (m : MethodId) (x0 : Int32)  : entryFrame m #[(.int x0)] 1 = mkF m 0 #[.val (.int x0)] [] := by first | (simp [entryFrame, mkF, argsToLocals, Value.category]; done) | rfl
def F1 (x0 : Int32) : Int32 := if x0 < (32 : Int32) then (-1 : Int32) else (if x0 < (127 : Int32) then x0 else (if x0 < (160 : Int32) then (-1 : Int32) else (if (255 : Int32) < x0 then (if x0 = (338 : Int32) then (140 : Int32) else (if x0 = (339 : Int32) then (156 : Int32) else (if x0 = (352 : Int32) then (138 : Int32) else (if x0 = (353 : Int32) then (154 : Int32) else (if x0 = (376 : Int32) then (159 : Int32) else (if x0 = (381 : Int32) then (142 : Int32) else (if x0 = (382 : Int32) then (158 : Int32) else (if x0 = (8211 : Int32) then (150 : Int32) else (if x0 = (8212 : Int32) then (151 : Int32) else (if x0 = (8216 : Int32) then (145 : Int32) else (if x0 = (8217 : Int32) then (146 : Int32) else (if x0 = (8220 : Int32) then (147 : Int32) else (if x0 = (8221 : Int32) then (148 : Int32) else (-1 : Int32)))))))))))))) else x0)))
def Q1 (Z : State) (x0 : Int32) (h0 : Heap) (n0 : Nat) (vE : Option Value) (hE : Heap) (LE : List Loc) : Prop := vE = some (.int (F1 x0)) ∧ Fr n0 LE ∧ hE = h0
set_option maxRecDepth 65536 in
set_option maxHeartbeats 40000000 in
theorem rm1 (l : Launch) (Z : State) (a0 : Array Value) (hw : ∀ d ∈ tables_1, d.before a0 Z = true) (ws : List Jvm.Cond) (x0 : Int32) (h0 : Heap) (n0 : Nat) (Z0 : n0 ≤ h0.size) :
    MetFree l (⟨"com/example/escritural/escritural/pdf/WinAnsi", "code", "(C)I"⟩ : MethodName) (head1 (Jvm.Cond.code (⟨"com/example/escritural/escritural/pdf/WinAnsi", "code", "(C)I"⟩ : MethodName) prog_87_method_4_code 1 (some .int) :: ws) ({ frames := 0, cells := 0, slots := 0, locals := 0 } : Room)) (fun a U => a = #[(.int x0)] ∧ Z.Warmed39 U.vm ∧ U.heap = h0) (fun _ _ _ _ _ => True) (fun _ U o U' => ∃ vE LE, o = .returned vE ∧ Q1 Z x0 h0 n0 vE U'.heap LE ∧ FrameEnd U o U' LE ({ frames := 0, cells := 0, slots := 0, locals := 0 } : Room).cells ({ frames := 0, cells := 0, slots := 0, locals := 0 } : Room).slots) := by
  refine MetFree.of_bodySF (plainFor_of_name pn_0) hisR ?_
  intro p e s m args below meth c s₁ Bd hml0 hP hK
  obtain ⟨rfl, hZ, hh⟩ := hP
  have hx := Bd.exec
  have hby := Bd.bytes
  have hml : c.maxLocals = 1 := hml0
  have hown : s.vm.findClass "com/example/escritural/escritural/pdf/WinAnsi" = some m.cls := findClass_of_methodNamed Bd.named
  have hnm := (name_of_methodNamed Bd.named Bd.method).1
  have X0 : Stand p l e ({ frames := 0, cells := 0, slots := 0, locals := 0 } : Room) s m #[(.int x0)] below meth c s₁ [] 0 0 := Stand.of_body Bd
  have e0 : s₁.heap = h0 := by rw [← hh, Bd.state]; rfl
  have N0 := Fr.nil n0
  have st0 : Steps p.tables e below (s₁.setTop (entryFrame m #[(.int x0)] 1)) (s₁.setTop (mkF m 0 #[.val (.int x0)] [])) := castTop (ef_1 m x0) (Steps.refl _)
  have st1 : Steps p.tables e below (s₁.setTop (entryFrame m #[(.int x0)] 1)) (s₁.setTop (mkF m 3 #[.val (.int x0)] [(.int (32 : Int32)), (.int x0)])) := st0.trans (by
      show Steps p.tables e below (s₁.setTop (mkF m 0 #[.val (.int x0)] [])) _
      refine XS.iloadN X0.here hx rfl (hb hby d1_0) rfl ?_
      show Steps p.tables e below (s₁.setTop (mkF m 1 #[.val (.int x0)] [(.int x0)])) _
      refine XS.bipush X0.here hx rfl (hb hby d1_1) ?_
      exact Steps.refl _)
  by_cases hc2 : x0 < (32 : Int32)
  · have st3 : Steps p.tables e below (s₁.setTop (entryFrame m #[(.int x0)] 1)) (s₁.setTop (mkF m 16 #[.val (.int x0)] [(.int (160 : Int32)), (.int x0)])) := st1.trans (by
        show Steps p.tables e below (s₁.setTop (mkF m 3 #[.val (.int x0)] [(.int (32 : Int32)), (.int x0)])) _
        refine XS.icmpYes X0.here hx rfl (pc0 := 3) (pc' := 12) rfl (hb hby d1_3) rfl (tlt hc2).1 (by decide) (by decide) ?_
        show Steps p.tables e below (s₁.setTop (mkF m 12 #[.val (.int x0)] [])) _
        refine XS.iloadN X0.here hx rfl (hb hby d1_12) rfl ?_
        show Steps p.tables e below (s₁.setTop (mkF m 13 #[.val (.int x0)] [(.int x0)])) _
        refine XS.sipush X0.here hx rfl (hb hby d1_13) ?_
        exact Steps.refl _)
    have hf4 : x0 < (160 : Int32) := own_lt hc2 (by decide)
    have st5 : Steps p.tables e below (s₁.setTop (entryFrame m #[(.int x0)] 1)) (s₁.setTop (mkF m 29 #[.val (.int x0)] [(.int x0)])) := st3.trans (by
        show Steps p.tables e below (s₁.setTop (mkF m 16 #[.val (.int x0)] [(.int (160 : Int32)), (.int x0)])) _
        refine XS.icmpYes X0.here hx rfl (pc0 := 16) (pc' := 28) rfl (hb hby d1_16) rfl (tlt hf4).1 (by decide) (by decide) ?_
        show Steps p.tables e below (s₁.setTop (mkF m 28 #[.val (.int x0)] [])) _
        refine XS.iloadN X0.here hx rfl (hb hby d1_28) rfl ?_
        exact Steps.refl _)
    have hs6 : ¬ x0 = (338 : Int32) := own_ltne hc2 (by decide)
    have hs7 : ¬ x0 = (339 : Int32) := own_ltne hc2 (by decide)
    have hs8 : ¬ x0 = (352 : Int32) := own_ltne hc2 (by decide)
    have hs9 : ¬ x0 = (353 : Int32) := own_ltne hc2 (by decide)
    have hs10 : ¬ x0 = (376 : Int32) := own_ltne hc2 (by decide)
    have hs11 : ¬ x0 = (381 : Int32) := own_ltne hc2 (by decide)
    have hs12 : ¬ x0 = (382 : Int32) := own_ltne hc2 (by decide)
    have hs13 : ¬ x0 = (8211 : Int32) := own_ltne hc2 (by decide)
    have hs14 : ¬ x0 = (8212 : Int32) := own_ltne hc2 (by decide)
    have hs15 : ¬ x0 = (8216 : Int32) := own_ltne hc2 (by decide)
    have hs16 : ¬ x0 = (8217 : Int32) := own_ltne hc2 (by decide)
    have hs17 : ¬ x0 = (8220 : Int32) := own_ltne hc2 (by decide)
    have hs18 : ¬ x0 = (8221 : Int32) := own_ltne hc2 (by decide)
    have st19 : Steps p.tables e below (s₁.setTop (entryFrame m #[(.int x0)] 1)) (s₁.setTop (mkF m 223 #[.val (.int x0)] [(.int (-1 : Int32))])) := st5.trans (by
        show Steps p.tables e below (s₁.setTop (mkF m 29 #[.val (.int x0)] [(.int x0)])) _
        refine X0.lookupswitchMiss hx (g := (mkF m 29 #[.val (.int x0)] [(.int x0)])) rfl rfl (hb hby d1_29) (by decide) (find_miss (by show ∀ p ∈ [((338 : Int), (121 : Int)), ((339 : Int), (175 : Int)), ((352 : Int), (115 : Int)), ((353 : Int), (169 : Int)), ((376 : Int), (187 : Int)), ((381 : Int), (127 : Int)), ((382 : Int), (181 : Int)), ((8211 : Int), (157 : Int)), ((8212 : Int), (163 : Int)), ((8216 : Int), (133 : Int)), ((8217 : Int), (139 : Int)), ((8220 : Int), (145 : Int)), ((8221 : Int), (151 : Int))], p.1 ≠ _; exact (List.forall_mem_cons.mpr ⟨own_swne hs6 (by decide), (List.forall_mem_cons.mpr ⟨own_swne hs7 (by decide), (List.forall_mem_cons.mpr ⟨own_swne hs8 (by decide), (List.forall_mem_cons.mpr ⟨own_swne hs9 (by decide), (List.forall_mem_cons.mpr ⟨own_swne hs10 (by decide), (List.forall_mem_cons.mpr ⟨own_swne hs11 (by decide), (List.forall_mem_cons.mpr ⟨own_swne hs12 (by decide), (List.forall_mem_cons.mpr ⟨own_swne hs13 (by decide), (List.forall_mem_cons.mpr ⟨own_swne hs14 (by decide), (List.forall_mem_cons.mpr ⟨own_swne hs15 (by decide), (List.forall_mem_cons.mpr ⟨own_swne hs16 (by decide), (List.forall_mem_cons.mpr ⟨own_swne hs17 (by decide), (List.forall_mem_cons.mpr ⟨own_swne hs18 (by decide), (fun _ q => nomatch q)⟩)⟩)⟩)⟩)⟩)⟩)⟩)⟩)⟩)⟩)⟩)⟩)⟩))) (show (0 : Int) ≤ ((29 : Nat) : Int) + 193 by decide) _ ?_
        show Steps p.tables e below (s₁.setTop (mkF m 222 #[.val (.int x0)] [])) _
        refine XS.iconst X0.here hx rfl (hb hby d1_222) ?_
        exact Steps.refl _)
    obtain ⟨fs, hr, hrun, hended, hW, hsame⟩ := X0.leave (v := some (.int (-1 : Int32))) (fun h => by rw [Bd.returns] at h; cases h)
    refine ⟨_, _, st19.trans ?_, hrun, hended, _, _, rfl, ?_, ⟨_, rfl⟩, hW, hsame.mono (by decide) (by decide)⟩
    · exact retI X0 hx Bd.returns (hb hby d1_223) hr
    · show Q1 Z x0 h0 n0 _ s₁.heap _
      rw [e0]
      exact ⟨by rw [F1, if_pos hc2], N0, rfl⟩
  · have st20 : Steps p.tables e below (s₁.setTop (entryFrame m #[(.int x0)] 1)) (s₁.setTop (mkF m 9 #[.val (.int x0)] [(.int (127 : Int32)), (.int x0)])) := st1.trans (by
        show Steps p.tables e below (s₁.setTop (mkF m 3 #[.val (.int x0)] [(.int (32 : Int32)), (.int x0)])) _
        refine XS.icmpNo X0.here hx rfl (hb hby d1_3) rfl (flt hc2).1 ?_
        show Steps p.tables e below (s₁.setTop (mkF m 6 #[.val (.int x0)] [])) _
        refine XS.iloadN X0.here hx rfl (hb hby d1_6) rfl ?_
        show Steps p.tables e below (s₁.setTop (mkF m 7 #[.val (.int x0)] [(.int x0)])) _
        refine XS.bipush X0.here hx rfl (hb hby d1_7) ?_
        exact Steps.refl _)
    by_cases hc21 : x0 < (127 : Int32)
    · have st22 : Steps p.tables e below (s₁.setTop (entryFrame m #[(.int x0)] 1)) (s₁.setTop (mkF m 27 #[.val (.int x0)] [(.int x0)])) := st20.trans (by
          show Steps p.tables e below (s₁.setTop (mkF m 9 #[.val (.int x0)] [(.int (127 : Int32)), (.int x0)])) _
          refine XS.icmpYes X0.here hx rfl (pc0 := 9) (pc' := 26) rfl (hb hby d1_9) rfl (tlt hc21).1 (by decide) (by decide) ?_
          show Steps p.tables e below (s₁.setTop (mkF m 26 #[.val (.int x0)] [])) _
          refine XS.iloadN X0.here hx rfl (hb hby d1_26) rfl ?_
          exact Steps.refl _)
      obtain ⟨fs, hr, hrun, hended, hW, hsame⟩ := X0.leave (v := some (.int x0)) (fun h => by rw [Bd.returns] at h; cases h)
      refine ⟨_, _, st22.trans ?_, hrun, hended, _, _, rfl, ?_, ⟨_, rfl⟩, hW, hsame.mono (by decide) (by decide)⟩
      · exact retI X0 hx Bd.returns (hb hby d1_27) hr
      · show Q1 Z x0 h0 n0 _ s₁.heap _
        rw [e0]
        exact ⟨by rw [F1, if_neg hc2, if_pos hc21], N0, rfl⟩
    · have st23 : Steps p.tables e below (s₁.setTop (entryFrame m #[(.int x0)] 1)) (s₁.setTop (mkF m 16 #[.val (.int x0)] [(.int (160 : Int32)), (.int x0)])) := st20.trans (by
          show Steps p.tables e below (s₁.setTop (mkF m 9 #[.val (.int x0)] [(.int (127 : Int32)), (.int x0)])) _
          refine XS.icmpNo X0.here hx rfl (hb hby d1_9) rfl (flt hc21).1 ?_
          show Steps p.tables e below (s₁.setTop (mkF m 12 #[.val (.int x0)] [])) _
          refine XS.iloadN X0.here hx rfl (hb hby d1_12) rfl ?_
          show Steps p.tables e below (s₁.setTop (mkF m 13 #[.val (.int x0)] [(.int x0)])) _
          refine XS.sipush X0.here hx rfl (hb hby d1_13) ?_
          exact Steps.refl _)
      by_cases hc24 : x0 < (160 : Int32)
      · have st25 : Steps p.tables e below (s₁.setTop (entryFrame m #[(.int x0)] 1)) (s₁.setTop (mkF m 29 #[.val (.int x0)] [(.int x0)])) := st23.trans (by
            show Steps p.tables e below (s₁.setTop (mkF m 16 #[.val (.int x0)] [(.int (160 : Int32)), (.int x0)])) _
            refine XS.icmpYes X0.here hx rfl (pc0 := 16) (pc' := 28) rfl (hb hby d1_16) rfl (tlt hc24).1 (by decide) (by decide) ?_
            show Steps p.tables e below (s₁.setTop (mkF m 28 #[.val (.int x0)] [])) _
            refine XS.iloadN X0.here hx rfl (hb hby d1_28) rfl ?_
            exact Steps.refl _)
        have hs26 : ¬ x0 = (338 : Int32) := own_ltne hc24 (by decide)
        have hs27 : ¬ x0 = (339 : Int32) := own_ltne hc24 (by decide)
        have hs28 : ¬ x0 = (352 : Int32) := own_ltne hc24 (by decide)
        have hs29 : ¬ x0 = (353 : Int32) := own_ltne hc24 (by decide)
        have hs30 : ¬ x0 = (376 : Int32) := own_ltne hc24 (by decide)
        have hs31 : ¬ x0 = (381 : Int32) := own_ltne hc24 (by decide)
        have hs32 : ¬ x0 = (382 : Int32) := own_ltne hc24 (by decide)
        have hs33 : ¬ x0 = (8211 : Int32) := own_ltne hc24 (by decide)
        have hs34 : ¬ x0 = (8212 : Int32) := own_ltne hc24 (by decide)
        have hs35 : ¬ x0 = (8216 : Int32) := own_ltne hc24 (by decide)
        have hs36 : ¬ x0 = (8217 : Int32) := own_ltne hc24 (by decide)
        have hs37 : ¬ x0 = (8220 : Int32) := own_ltne hc24 (by decide)
        have hs38 : ¬ x0 = (8221 : Int32) := own_ltne hc24 (by decide)
        have st39 : Steps p.tables e below (s₁.setTop (entryFrame m #[(.int x0)] 1)) (s₁.setTop (mkF m 223 #[.val (.int x0)] [(.int (-1 : Int32))])) := st25.trans (by
            show Steps p.tables e below (s₁.setTop (mkF m 29 #[.val (.int x0)] [(.int x0)])) _
            refine X0.lookupswitchMiss hx (g := (mkF m 29 #[.val (.int x0)] [(.int x0)])) rfl rfl (hb hby d1_29) (by decide) (find_miss (by show ∀ p ∈ [((338 : Int), (121 : Int)), ((339 : Int), (175 : Int)), ((352 : Int), (115 : Int)), ((353 : Int), (169 : Int)), ((376 : Int), (187 : Int)), ((381 : Int), (127 : Int)), ((382 : Int), (181 : Int)), ((8211 : Int), (157 : Int)), ((8212 : Int), (163 : Int)), ((8216 : Int), (133 : Int)), ((8217 : Int), (139 : Int)), ((8220 : Int), (145 : Int)), ((8221 : Int), (151 : Int))], p.1 ≠ _; exact (List.forall_mem_cons.mpr ⟨own_swne hs26 (by decide), (List.forall_mem_cons.mpr ⟨own_swne hs27 (by decide), (List.forall_mem_cons.mpr ⟨own_swne hs28 (by decide), (List.forall_mem_cons.mpr ⟨own_swne hs29 (by decide), (List.forall_mem_cons.mpr ⟨own_swne hs30 (by decide), (List.forall_mem_cons.mpr ⟨own_swne hs31 (by decide), (List.forall_mem_cons.mpr ⟨own_swne hs32 (by decide), (List.forall_mem_cons.mpr ⟨own_swne hs33 (by decide), (List.forall_mem_cons.mpr ⟨own_swne hs34 (by decide), (List.forall_mem_cons.mpr ⟨own_swne hs35 (by decide), (List.forall_mem_cons.mpr ⟨own_swne hs36 (by decide), (List.forall_mem_cons.mpr ⟨own_swne hs37 (by decide), (List.forall_mem_cons.mpr ⟨own_swne hs38 (by decide), (fun _ q => nomatch q)⟩)⟩)⟩)⟩)⟩)⟩)⟩)⟩)⟩)⟩)⟩)⟩)⟩))) (show (0 : Int) ≤ ((29 : Nat) : Int) + 193 by decide) _ ?_
            show Steps p.tables e below (s₁.setTop (mkF m 222 #[.val (.int x0)] [])) _
            refine XS.iconst X0.here hx rfl (hb hby d1_222) ?_
            exact Steps.refl _)
        obtain ⟨fs, hr, hrun, hended, hW, hsame⟩ := X0.leave (v := some (.int (-1 : Int32))) (fun h => by rw [Bd.returns] at h; cases h)
        refine ⟨_, _, st39.trans ?_, hrun, hended, _, _, rfl, ?_, ⟨_, rfl⟩, hW, hsame.mono (by decide) (by decide)⟩
        · exact retI X0 hx Bd.returns (hb hby d1_223) hr
        · show Q1 Z x0 h0 n0 _ s₁.heap _
          rw [e0]
          exact ⟨by rw [F1, if_neg hc2, if_neg hc21, if_pos hc24], N0, rfl⟩
      · have st40 : Steps p.tables e below (s₁.setTop (entryFrame m #[(.int x0)] 1)) (s₁.setTop (mkF m 23 #[.val (.int x0)] [(.int (255 : Int32)), (.int x0)])) := st23.trans (by
            show Steps p.tables e below (s₁.setTop (mkF m 16 #[.val (.int x0)] [(.int (160 : Int32)), (.int x0)])) _
            refine XS.icmpNo X0.here hx rfl (hb hby d1_16) rfl (flt hc24).1 ?_
            show Steps p.tables e below (s₁.setTop (mkF m 19 #[.val (.int x0)] [])) _
            refine XS.iloadN X0.here hx rfl (hb hby d1_19) rfl ?_
            show Steps p.tables e below (s₁.setTop (mkF m 20 #[.val (.int x0)] [(.int x0)])) _
            refine XS.sipush X0.here hx rfl (hb hby d1_20) ?_
            exact Steps.refl _)
        by_cases hc41 : (255 : Int32) < x0
        · have st42 : Steps p.tables e below (s₁.setTop (entryFrame m #[(.int x0)] 1)) (s₁.setTop (mkF m 29 #[.val (.int x0)] [(.int x0)])) := st40.trans (by
              show Steps p.tables e below (s₁.setTop (mkF m 23 #[.val (.int x0)] [(.int (255 : Int32)), (.int x0)])) _
              refine XS.icmpYes X0.here hx rfl (pc0 := 23) (pc' := 28) rfl (hb hby d1_23) rfl (tlt hc41).2.2.1 (by decide) (by decide) ?_
              show Steps p.tables e below (s₁.setTop (mkF m 28 #[.val (.int x0)] [])) _
              refine XS.iloadN X0.here hx rfl (hb hby d1_28) rfl ?_
              exact Steps.refl _)
          by_cases hc43 : x0 = (338 : Int32)
          · have st44 : Steps p.tables e below (s₁.setTop (entryFrame m #[(.int x0)] 1)) (s₁.setTop (mkF m 223 #[.val (.int x0)] [(.int (140 : Int32))])) := st42.trans (by
                show Steps p.tables e below (s₁.setTop (mkF m 29 #[.val (.int x0)] [(.int x0)])) _
                refine X0.lookupswitchHit hx (g := (mkF m 29 #[.val (.int x0)] [(.int x0)])) rfl rfl (hb hby d1_29) (by decide) (a := 338) (off := 121) (by rw [hc43]; rfl) (show (0 : Int) ≤ ((29 : Nat) : Int) + 121 by decide) _ ?_
                show Steps p.tables e below (s₁.setTop (mkF m 150 #[.val (.int x0)] [])) _
                refine XS.sipush X0.here hx rfl (hb hby d1_150) ?_
                show Steps p.tables e below (s₁.setTop (mkF m 153 #[.val (.int x0)] [(.int (140 : Int32))])) _
                refine XS.goto X0.here hx rfl (pc0 := 153) (pc' := 223) rfl (hb hby d1_153) (by decide) (by decide) ?_
                exact Steps.refl _)
            obtain ⟨fs, hr, hrun, hended, hW, hsame⟩ := X0.leave (v := some (.int (140 : Int32))) (fun h => by rw [Bd.returns] at h; cases h)
            refine ⟨_, _, st44.trans ?_, hrun, hended, _, _, rfl, ?_, ⟨_, rfl⟩, hW, hsame.mono (by decide) (by decide)⟩
            · exact retI X0 hx Bd.returns (hb hby d1_223) hr
            · show Q1 Z x0 h0 n0 _ s₁.heap _
              rw [e0]
              exact ⟨by rw [F1, if_neg hc2, if_neg hc21, if_neg hc24, if_pos hc41, if_pos hc43], N0, rfl⟩
          · by_cases hc45 : x0 = (339 : Int32)
            · have st46 : Steps p.tables e below (s₁.setTop (entryFrame m #[(.int x0)] 1)) (s₁.setTop (mkF m 223 #[.val (.int x0)] [(.int (156 : Int32))])) := st42.trans (by
                  show Steps p.tables e below (s₁.setTop (mkF m 29 #[.val (.int x0)] [(.int x0)])) _
                  refine X0.lookupswitchHit hx (g := (mkF m 29 #[.val (.int x0)] [(.int x0)])) rfl rfl (hb hby d1_29) (by decide) (a := 339) (off := 175) (by rw [hc45]; rfl) (show (0 : Int) ≤ ((29 : Nat) : Int) + 175 by decide) _ ?_
                  show Steps p.tables e below (s₁.setTop (mkF m 204 #[.val (.int x0)] [])) _
                  refine XS.sipush X0.here hx rfl (hb hby d1_204) ?_
                  show Steps p.tables e below (s₁.setTop (mkF m 207 #[.val (.int x0)] [(.int (156 : Int32))])) _
                  refine XS.goto X0.here hx rfl (pc0 := 207) (pc' := 223) rfl (hb hby d1_207) (by decide) (by decide) ?_
                  exact Steps.refl _)
              obtain ⟨fs, hr, hrun, hended, hW, hsame⟩ := X0.leave (v := some (.int (156 : Int32))) (fun h => by rw [Bd.returns] at h; cases h)
              refine ⟨_, _, st46.trans ?_, hrun, hended, _, _, rfl, ?_, ⟨_, rfl⟩, hW, hsame.mono (by decide) (by decide)⟩
              · exact retI X0 hx Bd.returns (hb hby d1_223) hr
              · show Q1 Z x0 h0 n0 _ s₁.heap _
                rw [e0]
                exact ⟨by rw [F1, if_neg hc2, if_neg hc21, if_neg hc24, if_pos hc41, if_neg hc43, if_pos hc45], N0, rfl⟩
            · by_cases hc47 : x0 = (352 : Int32)
              · have st48 : Steps p.tables e below (s₁.setTop (entryFrame m #[(.int x0)] 1)) (s₁.setTop (mkF m 223 #[.val (.int x0)] [(.int (138 : Int32))])) := st42.trans (by
                    show Steps p.tables e below (s₁.setTop (mkF m 29 #[.val (.int x0)] [(.int x0)])) _
                    refine X0.lookupswitchHit hx (g := (mkF m 29 #[.val (.int x0)] [(.int x0)])) rfl rfl (hb hby d1_29) (by decide) (a := 352) (off := 115) (by rw [hc47]; rfl) (show (0 : Int) ≤ ((29 : Nat) : Int) + 115 by decide) _ ?_
                    show Steps p.tables e below (s₁.setTop (mkF m 144 #[.val (.int x0)] [])) _
                    refine XS.sipush X0.here hx rfl (hb hby d1_144) ?_
                    show Steps p.tables e below (s₁.setTop (mkF m 147 #[.val (.int x0)] [(.int (138 : Int32))])) _
                    refine XS.goto X0.here hx rfl (pc0 := 147) (pc' := 223) rfl (hb hby d1_147) (by decide) (by decide) ?_
                    exact Steps.refl _)
                obtain ⟨fs, hr, hrun, hended, hW, hsame⟩ := X0.leave (v := some (.int (138 : Int32))) (fun h => by rw [Bd.returns] at h; cases h)
                refine ⟨_, _, st48.trans ?_, hrun, hended, _, _, rfl, ?_, ⟨_, rfl⟩, hW, hsame.mono (by decide) (by decide)⟩
                · exact retI X0 hx Bd.returns (hb hby d1_223) hr
                · show Q1 Z x0 h0 n0 _ s₁.heap _
                  rw [e0]
                  exact ⟨by rw [F1, if_neg hc2, if_neg hc21, if_neg hc24, if_pos hc41, if_neg hc43, if_neg hc45, if_pos hc47], N0, rfl⟩
              · by_cases hc49 : x0 = (353 : Int32)
                · have st50 : Steps p.tables e below (s₁.setTop (entryFrame m #[(.int x0)] 1)) (s₁.setTop (mkF m 223 #[.val (.int x0)] [(.int (154 : Int32))])) := st42.trans (by
                      show Steps p.tables e below (s₁.setTop (mkF m 29 #[.val (.int x0)] [(.int x0)])) _
                      refine X0.lookupswitchHit hx (g := (mkF m 29 #[.val (.int x0)] [(.int x0)])) rfl rfl (hb hby d1_29) (by decide) (a := 353) (off := 169) (by rw [hc49]; rfl) (show (0 : Int) ≤ ((29 : Nat) : Int) + 169 by decide) _ ?_
                      show Steps p.tables e below (s₁.setTop (mkF m 198 #[.val (.int x0)] [])) _
                      refine XS.sipush X0.here hx rfl (hb hby d1_198) ?_
                      show Steps p.tables e below (s₁.setTop (mkF m 201 #[.val (.int x0)] [(.int (154 : Int32))])) _
                      refine XS.goto X0.here hx rfl (pc0 := 201) (pc' := 223) rfl (hb hby d1_201) (by decide) (by decide) ?_
                      exact Steps.refl _)
                  obtain ⟨fs, hr, hrun, hended, hW, hsame⟩ := X0.leave (v := some (.int (154 : Int32))) (fun h => by rw [Bd.returns] at h; cases h)
                  refine ⟨_, _, st50.trans ?_, hrun, hended, _, _, rfl, ?_, ⟨_, rfl⟩, hW, hsame.mono (by decide) (by decide)⟩
                  · exact retI X0 hx Bd.returns (hb hby d1_223) hr
                  · show Q1 Z x0 h0 n0 _ s₁.heap _
                    rw [e0]
                    exact ⟨by rw [F1, if_neg hc2, if_neg hc21, if_neg hc24, if_pos hc41, if_neg hc43, if_neg hc45, if_neg hc47, if_pos hc49], N0, rfl⟩
                · by_cases hc51 : x0 = (376 : Int32)
                  · have st52 : Steps p.tables e below (s₁.setTop (entryFrame m #[(.int x0)] 1)) (s₁.setTop (mkF m 223 #[.val (.int x0)] [(.int (159 : Int32))])) := st42.trans (by
                        show Steps p.tables e below (s₁.setTop (mkF m 29 #[.val (.int x0)] [(.int x0)])) _
                        refine X0.lookupswitchHit hx (g := (mkF m 29 #[.val (.int x0)] [(.int x0)])) rfl rfl (hb hby d1_29) (by decide) (a := 376) (off := 187) (by rw [hc51]; rfl) (show (0 : Int) ≤ ((29 : Nat) : Int) + 187 by decide) _ ?_
                        show Steps p.tables e below (s₁.setTop (mkF m 216 #[.val (.int x0)] [])) _
                        refine XS.sipush X0.here hx rfl (hb hby d1_216) ?_
                        show Steps p.tables e below (s₁.setTop (mkF m 219 #[.val (.int x0)] [(.int (159 : Int32))])) _
                        refine XS.goto X0.here hx rfl (pc0 := 219) (pc' := 223) rfl (hb hby d1_219) (by decide) (by decide) ?_
                        exact Steps.refl _)
                    obtain ⟨fs, hr, hrun, hended, hW, hsame⟩ := X0.leave (v := some (.int (159 : Int32))) (fun h => by rw [Bd.returns] at h; cases h)
                    refine ⟨_, _, st52.trans ?_, hrun, hended, _, _, rfl, ?_, ⟨_, rfl⟩, hW, hsame.mono (by decide) (by decide)⟩
                    · exact retI X0 hx Bd.returns (hb hby d1_223) hr
                    · show Q1 Z x0 h0 n0 _ s₁.heap _
                      rw [e0]
                      exact ⟨by rw [F1, if_neg hc2, if_neg hc21, if_neg hc24, if_pos hc41, if_neg hc43, if_neg hc45, if_neg hc47, if_neg hc49, if_pos hc51], N0, rfl⟩
                  · by_cases hc53 : x0 = (381 : Int32)
                    · have st54 : Steps p.tables e below (s₁.setTop (entryFrame m #[(.int x0)] 1)) (s₁.setTop (mkF m 223 #[.val (.int x0)] [(.int (142 : Int32))])) := st42.trans (by
                          show Steps p.tables e below (s₁.setTop (mkF m 29 #[.val (.int x0)] [(.int x0)])) _
                          refine X0.lookupswitchHit hx (g := (mkF m 29 #[.val (.int x0)] [(.int x0)])) rfl rfl (hb hby d1_29) (by decide) (a := 381) (off := 127) (by rw [hc53]; rfl) (show (0 : Int) ≤ ((29 : Nat) : Int) + 127 by decide) _ ?_
                          show Steps p.tables e below (s₁.setTop (mkF m 156 #[.val (.int x0)] [])) _
                          refine XS.sipush X0.here hx rfl (hb hby d1_156) ?_
                          show Steps p.tables e below (s₁.setTop (mkF m 159 #[.val (.int x0)] [(.int (142 : Int32))])) _
                          refine XS.goto X0.here hx rfl (pc0 := 159) (pc' := 223) rfl (hb hby d1_159) (by decide) (by decide) ?_
                          exact Steps.refl _)
                      obtain ⟨fs, hr, hrun, hended, hW, hsame⟩ := X0.leave (v := some (.int (142 : Int32))) (fun h => by rw [Bd.returns] at h; cases h)
                      refine ⟨_, _, st54.trans ?_, hrun, hended, _, _, rfl, ?_, ⟨_, rfl⟩, hW, hsame.mono (by decide) (by decide)⟩
                      · exact retI X0 hx Bd.returns (hb hby d1_223) hr
                      · show Q1 Z x0 h0 n0 _ s₁.heap _
                        rw [e0]
                        exact ⟨by rw [F1, if_neg hc2, if_neg hc21, if_neg hc24, if_pos hc41, if_neg hc43, if_neg hc45, if_neg hc47, if_neg hc49, if_neg hc51, if_pos hc53], N0, rfl⟩
                    · by_cases hc55 : x0 = (382 : Int32)
                      · have st56 : Steps p.tables e below (s₁.setTop (entryFrame m #[(.int x0)] 1)) (s₁.setTop (mkF m 223 #[.val (.int x0)] [(.int (158 : Int32))])) := st42.trans (by
                            show Steps p.tables e below (s₁.setTop (mkF m 29 #[.val (.int x0)] [(.int x0)])) _
                            refine X0.lookupswitchHit hx (g := (mkF m 29 #[.val (.int x0)] [(.int x0)])) rfl rfl (hb hby d1_29) (by decide) (a := 382) (off := 181) (by rw [hc55]; rfl) (show (0 : Int) ≤ ((29 : Nat) : Int) + 181 by decide) _ ?_
                            show Steps p.tables e below (s₁.setTop (mkF m 210 #[.val (.int x0)] [])) _
                            refine XS.sipush X0.here hx rfl (hb hby d1_210) ?_
                            show Steps p.tables e below (s₁.setTop (mkF m 213 #[.val (.int x0)] [(.int (158 : Int32))])) _
                            refine XS.goto X0.here hx rfl (pc0 := 213) (pc' := 223) rfl (hb hby d1_213) (by decide) (by decide) ?_
                            exact Steps.refl _)
                        obtain ⟨fs, hr, hrun, hended, hW, hsame⟩ := X0.leave (v := some (.int (158 : Int32))) (fun h => by rw [Bd.returns] at h; cases h)
                        refine ⟨_, _, st56.trans ?_, hrun, hended, _, _, rfl, ?_, ⟨_, rfl⟩, hW, hsame.mono (by decide) (by decide)⟩
                        · exact retI X0 hx Bd.returns (hb hby d1_223) hr
                        · show Q1 Z x0 h0 n0 _ s₁.heap _
                          rw [e0]
                          exact ⟨by rw [F1, if_neg hc2, if_neg hc21, if_neg hc24, if_pos hc41, if_neg hc43, if_neg hc45, if_neg hc47, if_neg hc49, if_neg hc51, if_neg hc53, if_pos hc55], N0, rfl⟩
                      · by_cases hc57 : x0 = (8211 : Int32)
                        · have st58 : Steps p.tables e below (s₁.setTop (entryFrame m #[(.int x0)] 1)) (s₁.setTop (mkF m 223 #[.val (.int x0)] [(.int (150 : Int32))])) := st42.trans (by
                              show Steps p.tables e below (s₁.setTop (mkF m 29 #[.val (.int x0)] [(.int x0)])) _
                              refine X0.lookupswitchHit hx (g := (mkF m 29 #[.val (.int x0)] [(.int x0)])) rfl rfl (hb hby d1_29) (by decide) (a := 8211) (off := 157) (by rw [hc57]; rfl) (show (0 : Int) ≤ ((29 : Nat) : Int) + 157 by decide) _ ?_
                              show Steps p.tables e below (s₁.setTop (mkF m 186 #[.val (.int x0)] [])) _
                              refine XS.sipush X0.here hx rfl (hb hby d1_186) ?_
                              show Steps p.tables e below (s₁.setTop (mkF m 189 #[.val (.int x0)] [(.int (150 : Int32))])) _
                              refine XS.goto X0.here hx rfl (pc0 := 189) (pc' := 223) rfl (hb hby d1_189) (by decide) (by decide) ?_
                              exact Steps.refl _)
                          obtain ⟨fs, hr, hrun, hended, hW, hsame⟩ := X0.leave (v := some (.int (150 : Int32))) (fun h => by rw [Bd.returns] at h; cases h)
                          refine ⟨_, _, st58.trans ?_, hrun, hended, _, _, rfl, ?_, ⟨_, rfl⟩, hW, hsame.mono (by decide) (by decide)⟩
                          · exact retI X0 hx Bd.returns (hb hby d1_223) hr
                          · show Q1 Z x0 h0 n0 _ s₁.heap _
                            rw [e0]
                            exact ⟨by rw [F1, if_neg hc2, if_neg hc21, if_neg hc24, if_pos hc41, if_neg hc43, if_neg hc45, if_neg hc47, if_neg hc49, if_neg hc51, if_neg hc53, if_neg hc55, if_pos hc57], N0, rfl⟩
                        · by_cases hc59 : x0 = (8212 : Int32)
                          · have st60 : Steps p.tables e below (s₁.setTop (entryFrame m #[(.int x0)] 1)) (s₁.setTop (mkF m 223 #[.val (.int x0)] [(.int (151 : Int32))])) := st42.trans (by
                                show Steps p.tables e below (s₁.setTop (mkF m 29 #[.val (.int x0)] [(.int x0)])) _
                                refine X0.lookupswitchHit hx (g := (mkF m 29 #[.val (.int x0)] [(.int x0)])) rfl rfl (hb hby d1_29) (by decide) (a := 8212) (off := 163) (by rw [hc59]; rfl) (show (0 : Int) ≤ ((29 : Nat) : Int) + 163 by decide) _ ?_
                                show Steps p.tables e below (s₁.setTop (mkF m 192 #[.val (.int x0)] [])) _
                                refine XS.sipush X0.here hx rfl (hb hby d1_192) ?_
                                show Steps p.tables e below (s₁.setTop (mkF m 195 #[.val (.int x0)] [(.int (151 : Int32))])) _
                                refine XS.goto X0.here hx rfl (pc0 := 195) (pc' := 223) rfl (hb hby d1_195) (by decide) (by decide) ?_
                                exact Steps.refl _)
                            obtain ⟨fs, hr, hrun, hended, hW, hsame⟩ := X0.leave (v := some (.int (151 : Int32))) (fun h => by rw [Bd.returns] at h; cases h)
                            refine ⟨_, _, st60.trans ?_, hrun, hended, _, _, rfl, ?_, ⟨_, rfl⟩, hW, hsame.mono (by decide) (by decide)⟩
                            · exact retI X0 hx Bd.returns (hb hby d1_223) hr
                            · show Q1 Z x0 h0 n0 _ s₁.heap _
                              rw [e0]
                              exact ⟨by rw [F1, if_neg hc2, if_neg hc21, if_neg hc24, if_pos hc41, if_neg hc43, if_neg hc45, if_neg hc47, if_neg hc49, if_neg hc51, if_neg hc53, if_neg hc55, if_neg hc57, if_pos hc59], N0, rfl⟩
                          · by_cases hc61 : x0 = (8216 : Int32)
                            · have st62 : Steps p.tables e below (s₁.setTop (entryFrame m #[(.int x0)] 1)) (s₁.setTop (mkF m 223 #[.val (.int x0)] [(.int (145 : Int32))])) := st42.trans (by
                                  show Steps p.tables e below (s₁.setTop (mkF m 29 #[.val (.int x0)] [(.int x0)])) _
                                  refine X0.lookupswitchHit hx (g := (mkF m 29 #[.val (.int x0)] [(.int x0)])) rfl rfl (hb hby d1_29) (by decide) (a := 8216) (off := 133) (by rw [hc61]; rfl) (show (0 : Int) ≤ ((29 : Nat) : Int) + 133 by decide) _ ?_
                                  show Steps p.tables e below (s₁.setTop (mkF m 162 #[.val (.int x0)] [])) _
                                  refine XS.sipush X0.here hx rfl (hb hby d1_162) ?_
                                  show Steps p.tables e below (s₁.setTop (mkF m 165 #[.val (.int x0)] [(.int (145 : Int32))])) _
                                  refine XS.goto X0.here hx rfl (pc0 := 165) (pc' := 223) rfl (hb hby d1_165) (by decide) (by decide) ?_
                                  exact Steps.refl _)
                              obtain ⟨fs, hr, hrun, hended, hW, hsame⟩ := X0.leave (v := some (.int (145 : Int32))) (fun h => by rw [Bd.returns] at h; cases h)
                              refine ⟨_, _, st62.trans ?_, hrun, hended, _, _, rfl, ?_, ⟨_, rfl⟩, hW, hsame.mono (by decide) (by decide)⟩
                              · exact retI X0 hx Bd.returns (hb hby d1_223) hr
                              · show Q1 Z x0 h0 n0 _ s₁.heap _
                                rw [e0]
                                exact ⟨by rw [F1, if_neg hc2, if_neg hc21, if_neg hc24, if_pos hc41, if_neg hc43, if_neg hc45, if_neg hc47, if_neg hc49, if_neg hc51, if_neg hc53, if_neg hc55, if_neg hc57, if_neg hc59, if_pos hc61], N0, rfl⟩
                            · by_cases hc63 : x0 = (8217 : Int32)
                              · have st64 : Steps p.tables e below (s₁.setTop (entryFrame m #[(.int x0)] 1)) (s₁.setTop (mkF m 223 #[.val (.int x0)] [(.int (146 : Int32))])) := st42.trans (by
                                    show Steps p.tables e below (s₁.setTop (mkF m 29 #[.val (.int x0)] [(.int x0)])) _
                                    refine X0.lookupswitchHit hx (g := (mkF m 29 #[.val (.int x0)] [(.int x0)])) rfl rfl (hb hby d1_29) (by decide) (a := 8217) (off := 139) (by rw [hc63]; rfl) (show (0 : Int) ≤ ((29 : Nat) : Int) + 139 by decide) _ ?_
                                    show Steps p.tables e below (s₁.setTop (mkF m 168 #[.val (.int x0)] [])) _
                                    refine XS.sipush X0.here hx rfl (hb hby d1_168) ?_
                                    show Steps p.tables e below (s₁.setTop (mkF m 171 #[.val (.int x0)] [(.int (146 : Int32))])) _
                                    refine XS.goto X0.here hx rfl (pc0 := 171) (pc' := 223) rfl (hb hby d1_171) (by decide) (by decide) ?_
                                    exact Steps.refl _)
                                obtain ⟨fs, hr, hrun, hended, hW, hsame⟩ := X0.leave (v := some (.int (146 : Int32))) (fun h => by rw [Bd.returns] at h; cases h)
                                refine ⟨_, _, st64.trans ?_, hrun, hended, _, _, rfl, ?_, ⟨_, rfl⟩, hW, hsame.mono (by decide) (by decide)⟩
                                · exact retI X0 hx Bd.returns (hb hby d1_223) hr
                                · show Q1 Z x0 h0 n0 _ s₁.heap _
                                  rw [e0]
                                  exact ⟨by rw [F1, if_neg hc2, if_neg hc21, if_neg hc24, if_pos hc41, if_neg hc43, if_neg hc45, if_neg hc47, if_neg hc49, if_neg hc51, if_neg hc53, if_neg hc55, if_neg hc57, if_neg hc59, if_neg hc61, if_pos hc63], N0, rfl⟩
                              · by_cases hc65 : x0 = (8220 : Int32)
                                · have st66 : Steps p.tables e below (s₁.setTop (entryFrame m #[(.int x0)] 1)) (s₁.setTop (mkF m 223 #[.val (.int x0)] [(.int (147 : Int32))])) := st42.trans (by
                                      show Steps p.tables e below (s₁.setTop (mkF m 29 #[.val (.int x0)] [(.int x0)])) _
                                      refine X0.lookupswitchHit hx (g := (mkF m 29 #[.val (.int x0)] [(.int x0)])) rfl rfl (hb hby d1_29) (by decide) (a := 8220) (off := 145) (by rw [hc65]; rfl) (show (0 : Int) ≤ ((29 : Nat) : Int) + 145 by decide) _ ?_
                                      show Steps p.tables e below (s₁.setTop (mkF m 174 #[.val (.int x0)] [])) _
                                      refine XS.sipush X0.here hx rfl (hb hby d1_174) ?_
                                      show Steps p.tables e below (s₁.setTop (mkF m 177 #[.val (.int x0)] [(.int (147 : Int32))])) _
                                      refine XS.goto X0.here hx rfl (pc0 := 177) (pc' := 223) rfl (hb hby d1_177) (by decide) (by decide) ?_
                                      exact Steps.refl _)
                                  obtain ⟨fs, hr, hrun, hended, hW, hsame⟩ := X0.leave (v := some (.int (147 : Int32))) (fun h => by rw [Bd.returns] at h; cases h)
                                  refine ⟨_, _, st66.trans ?_, hrun, hended, _, _, rfl, ?_, ⟨_, rfl⟩, hW, hsame.mono (by decide) (by decide)⟩
                                  · exact retI X0 hx Bd.returns (hb hby d1_223) hr
                                  · show Q1 Z x0 h0 n0 _ s₁.heap _
                                    rw [e0]
                                    exact ⟨by rw [F1, if_neg hc2, if_neg hc21, if_neg hc24, if_pos hc41, if_neg hc43, if_neg hc45, if_neg hc47, if_neg hc49, if_neg hc51, if_neg hc53, if_neg hc55, if_neg hc57, if_neg hc59, if_neg hc61, if_neg hc63, if_pos hc65], N0, rfl⟩
                                · by_cases hc67 : x0 = (8221 : Int32)
                                  · have st68 : Steps p.tables e below (s₁.setTop (entryFrame m #[(.int x0)] 1)) (s₁.setTop (mkF m 223 #[.val (.int x0)] [(.int (148 : Int32))])) := st42.trans (by
                                        show Steps p.tables e below (s₁.setTop (mkF m 29 #[.val (.int x0)] [(.int x0)])) _
                                        refine X0.lookupswitchHit hx (g := (mkF m 29 #[.val (.int x0)] [(.int x0)])) rfl rfl (hb hby d1_29) (by decide) (a := 8221) (off := 151) (by rw [hc67]; rfl) (show (0 : Int) ≤ ((29 : Nat) : Int) + 151 by decide) _ ?_
                                        show Steps p.tables e below (s₁.setTop (mkF m 180 #[.val (.int x0)] [])) _
                                        refine XS.sipush X0.here hx rfl (hb hby d1_180) ?_
                                        show Steps p.tables e below (s₁.setTop (mkF m 183 #[.val (.int x0)] [(.int (148 : Int32))])) _
                                        refine XS.goto X0.here hx rfl (pc0 := 183) (pc' := 223) rfl (hb hby d1_183) (by decide) (by decide) ?_
                                        exact Steps.refl _)
                                    obtain ⟨fs, hr, hrun, hended, hW, hsame⟩ := X0.leave (v := some (.int (148 : Int32))) (fun h => by rw [Bd.returns] at h; cases h)
                                    refine ⟨_, _, st68.trans ?_, hrun, hended, _, _, rfl, ?_, ⟨_, rfl⟩, hW, hsame.mono (by decide) (by decide)⟩
                                    · exact retI X0 hx Bd.returns (hb hby d1_223) hr
                                    · show Q1 Z x0 h0 n0 _ s₁.heap _
                                      rw [e0]
                                      exact ⟨by rw [F1, if_neg hc2, if_neg hc21, if_neg hc24, if_pos hc41, if_neg hc43, if_neg hc45, if_neg hc47, if_neg hc49, if_neg hc51, if_neg hc53, if_neg hc55, if_neg hc57, if_neg hc59, if_neg hc61, if_neg hc63, if_neg hc65, if_pos hc67], N0, rfl⟩
                                  · have st69 : Steps p.tables e below (s₁.setTop (entryFrame m #[(.int x0)] 1)) (s₁.setTop (mkF m 223 #[.val (.int x0)] [(.int (-1 : Int32))])) := st42.trans (by
                                        show Steps p.tables e below (s₁.setTop (mkF m 29 #[.val (.int x0)] [(.int x0)])) _
                                        refine X0.lookupswitchMiss hx (g := (mkF m 29 #[.val (.int x0)] [(.int x0)])) rfl rfl (hb hby d1_29) (by decide) (find_miss (by show ∀ p ∈ [((338 : Int), (121 : Int)), ((339 : Int), (175 : Int)), ((352 : Int), (115 : Int)), ((353 : Int), (169 : Int)), ((376 : Int), (187 : Int)), ((381 : Int), (127 : Int)), ((382 : Int), (181 : Int)), ((8211 : Int), (157 : Int)), ((8212 : Int), (163 : Int)), ((8216 : Int), (133 : Int)), ((8217 : Int), (139 : Int)), ((8220 : Int), (145 : Int)), ((8221 : Int), (151 : Int))], p.1 ≠ _; exact (List.forall_mem_cons.mpr ⟨own_swne hc43 (by decide), (List.forall_mem_cons.mpr ⟨own_swne hc45 (by decide), (List.forall_mem_cons.mpr ⟨own_swne hc47 (by decide), (List.forall_mem_cons.mpr ⟨own_swne hc49 (by decide), (List.forall_mem_cons.mpr ⟨own_swne hc51 (by decide), (List.forall_mem_cons.mpr ⟨own_swne hc53 (by decide), (List.forall_mem_cons.mpr ⟨own_swne hc55 (by decide), (List.forall_mem_cons.mpr ⟨own_swne hc57 (by decide), (List.forall_mem_cons.mpr ⟨own_swne hc59 (by decide), (List.forall_mem_cons.mpr ⟨own_swne hc61 (by decide), (List.forall_mem_cons.mpr ⟨own_swne hc63 (by decide), (List.forall_mem_cons.mpr ⟨own_swne hc65 (by decide), (List.forall_mem_cons.mpr ⟨own_swne hc67 (by decide), (fun _ q => nomatch q)⟩)⟩)⟩)⟩)⟩)⟩)⟩)⟩)⟩)⟩)⟩)⟩)⟩))) (show (0 : Int) ≤ ((29 : Nat) : Int) + 193 by decide) _ ?_
                                        show Steps p.tables e below (s₁.setTop (mkF m 222 #[.val (.int x0)] [])) _
                                        refine XS.iconst X0.here hx rfl (hb hby d1_222) ?_
                                        exact Steps.refl _)
                                    obtain ⟨fs, hr, hrun, hended, hW, hsame⟩ := X0.leave (v := some (.int (-1 : Int32))) (fun h => by rw [Bd.returns] at h; cases h)
                                    refine ⟨_, _, st69.trans ?_, hrun, hended, _, _, rfl, ?_, ⟨_, rfl⟩, hW, hsame.mono (by decide) (by decide)⟩
                                    · exact retI X0 hx Bd.returns (hb hby d1_223) hr
                                    · show Q1 Z x0 h0 n0 _ s₁.heap _
                                      rw [e0]
                                      exact ⟨by rw [F1, if_neg hc2, if_neg hc21, if_neg hc24, if_pos hc41, if_neg hc43, if_neg hc45, if_neg hc47, if_neg hc49, if_neg hc51, if_neg hc53, if_neg hc55, if_neg hc57, if_neg hc59, if_neg hc61, if_neg hc63, if_neg hc65, if_neg hc67], N0, rfl⟩
        · have st70 : Steps p.tables e below (s₁.setTop (entryFrame m #[(.int x0)] 1)) (s₁.setTop (mkF m 27 #[.val (.int x0)] [(.int x0)])) := st40.trans (by
              show Steps p.tables e below (s₁.setTop (mkF m 23 #[.val (.int x0)] [(.int (255 : Int32)), (.int x0)])) _
              refine XS.icmpNo X0.here hx rfl (hb hby d1_23) rfl (flt hc41).2.2.1 ?_
              show Steps p.tables e below (s₁.setTop (mkF m 26 #[.val (.int x0)] [])) _
              refine XS.iloadN X0.here hx rfl (hb hby d1_26) rfl ?_
              exact Steps.refl _)
          obtain ⟨fs, hr, hrun, hended, hW, hsame⟩ := X0.leave (v := some (.int x0)) (fun h => by rw [Bd.returns] at h; cases h)
          refine ⟨_, _, st70.trans ?_, hrun, hended, _, _, rfl, ?_, ⟨_, rfl⟩, hW, hsame.mono (by decide) (by decide)⟩
          · exact retI X0 hx Bd.returns (hb hby d1_27) hr
          · show Q1 Z x0 h0 n0 _ s₁.heap _
            rw [e0]
            exact ⟨by rw [F1, if_neg hc2, if_neg hc21, if_neg hc24, if_neg hc41], N0, rfl⟩
theorem own_tsw2_29 {x : Int32} (h138 : ¬ x = 138) (h140 : ¬ x = 140) (h142 : ¬ x = 142) (h145 : ¬ x = 145) (h146 : ¬ x = 146) (h147 : ¬ x = 147) (h148 : ¬ x = 148) (h150 : ¬ x = 150) (h151 : ¬ x = 151) (h154 : ¬ x = 154) (h156 : ¬ x = 156) (h158 : ¬ x = 158) (h159 : ¬ x = 159) : (x.toInt < 138 ∨ x.toInt > 159) ∨ (¬ (x.toInt < 138 ∨ x.toInt > 159) ∧ (#[103, 155, 107, 155, 111, 155, 155, 115, 119, 123, 127, 155, 131, 135, 155, 155, 139, 155, 143, 155, 147, 151] : Array Int)[(x.toInt - 138).toNat]? = some 155) := by
  have e138 := own_swne h138 (n := 138) (by decide)
  have e140 := own_swne h140 (n := 140) (by decide)
  have e142 := own_swne h142 (n := 142) (by decide)
  have e145 := own_swne h145 (n := 145) (by decide)
  have e146 := own_swne h146 (n := 146) (by decide)
  have e147 := own_swne h147 (n := 147) (by decide)
  have e148 := own_swne h148 (n := 148) (by decide)
  have e150 := own_swne h150 (n := 150) (by decide)
  have e151 := own_swne h151 (n := 151) (by decide)
  have e154 := own_swne h154 (n := 154) (by decide)
  have e156 := own_swne h156 (n := 156) (by decide)
  have e158 := own_swne h158 (n := 158) (by decide)
  have e159 := own_swne h159 (n := 159) (by decide)
  by_cases q : x.toInt < 138 ∨ x.toInt > 159
  · exact Or.inl q
  · refine Or.inr ⟨q, ?_⟩
    have : x.toInt = 139 ∨ x.toInt = 141 ∨ x.toInt = 143 ∨ x.toInt = 144 ∨ x.toInt = 149 ∨ x.toInt = 152 ∨ x.toInt = 153 ∨ x.toInt = 155 ∨ x.toInt = 157 := by omega
    rcases this with h | h | h | h | h | h | h | h | h <;> (rw [h]; rfl)
theorem d2_0 : decode method_2_code 0 = .ok (.iload_n 0, 1) := by decide +kernel
theorem d2_1 : decode method_2_code 1 = .ok (.bipush 32, 2) := by decide +kernel
theorem d2_3 : decode method_2_code 3 = .ok (.if_icmp .lt 9, 3) := by decide +kernel
theorem d2_6 : decode method_2_code 6 = .ok (.iload_n 0, 1) := by decide +kernel
theorem d2_7 : decode method_2_code 7 = .ok (.bipush 126, 2) := by decide +kernel
theorem d2_9 : decode method_2_code 9 = .ok (.if_icmp .le 17, 3) := by decide +kernel
theorem d2_12 : decode method_2_code 12 = .ok (.iload_n 0, 1) := by decide +kernel
theorem d2_13 : decode method_2_code 13 = .ok (.sipush 160, 3) := by decide +kernel
theorem d2_16 : decode method_2_code 16 = .ok (.if_icmp .lt 12, 3) := by decide +kernel
theorem d2_19 : decode method_2_code 19 = .ok (.iload_n 0, 1) := by decide +kernel
theorem d2_20 : decode method_2_code 20 = .ok (.sipush 255, 3) := by decide +kernel
theorem d2_23 : decode method_2_code 23 = .ok (.if_icmp .gt 5, 3) := by decide +kernel
theorem d2_26 : decode method_2_code 26 = .ok (.iload_n 0, 1) := by decide +kernel
theorem d2_27 : decode method_2_code 27 = .ok (.ireturn, 1) := by decide +kernel
theorem d2_28 : decode method_2_code 28 = .ok (.iload_n 0, 1) := by decide +kernel
theorem d2_29 : decode method_2_code 29 = .ok (.tableswitch 155 138 159 #[103, 155, 107, 155, 111, 155, 155, 115, 119, 123, 127, 155, 131, 135, 155, 155, 139, 155, 143, 155, 147, 151], 103) := by decide +kernel
theorem d2_132 : decode method_2_code 132 = .ok (.sipush 352, 3) := by decide +kernel
theorem d2_135 : decode method_2_code 135 = .ok (.ireturn, 1) := by decide +kernel
theorem d2_136 : decode method_2_code 136 = .ok (.sipush 338, 3) := by decide +kernel
theorem d2_139 : decode method_2_code 139 = .ok (.ireturn, 1) := by decide +kernel
theorem d2_140 : decode method_2_code 140 = .ok (.sipush 381, 3) := by decide +kernel
theorem d2_143 : decode method_2_code 143 = .ok (.ireturn, 1) := by decide +kernel
theorem d2_144 : decode method_2_code 144 = .ok (.sipush 8216, 3) := by decide +kernel
theorem d2_147 : decode method_2_code 147 = .ok (.ireturn, 1) := by decide +kernel
theorem d2_148 : decode method_2_code 148 = .ok (.sipush 8217, 3) := by decide +kernel
theorem d2_151 : decode method_2_code 151 = .ok (.ireturn, 1) := by decide +kernel
theorem d2_152 : decode method_2_code 152 = .ok (.sipush 8220, 3) := by decide +kernel
theorem d2_155 : decode method_2_code 155 = .ok (.ireturn, 1) := by decide +kernel
theorem d2_156 : decode method_2_code 156 = .ok (.sipush 8221, 3) := by decide +kernel
theorem d2_159 : decode method_2_code 159 = .ok (.ireturn, 1) := by decide +kernel
theorem d2_160 : decode method_2_code 160 = .ok (.sipush 8211, 3) := by decide +kernel
theorem d2_163 : decode method_2_code 163 = .ok (.ireturn, 1) := by decide +kernel
theorem d2_164 : decode method_2_code 164 = .ok (.sipush 8212, 3) := by decide +kernel
theorem d2_167 : decode method_2_code 167 = .ok (.ireturn, 1) := by decide +kernel
theorem d2_168 : decode method_2_code 168 = .ok (.sipush 353, 3) := by decide +kernel
theorem d2_171 : decode method_2_code 171 = .ok (.ireturn, 1) := by decide +kernel
theorem d2_172 : decode method_2_code 172 = .ok (.sipush 339, 3) := by decide +kernel
theorem d2_175 : decode method_2_code 175 = .ok (.ireturn, 1) := by decide +kernel
theorem d2_176 : decode method_2_code 176 = .ok (.sipush 382, 3) := by decide +kernel
theorem d2_179 : decode method_2_code 179 = .ok (.ireturn, 1) := by decide +kernel
theorem d2_180 : decode method_2_code 180 = .ok (.sipush 376, 3) := by decide +kernel
theorem d2_183 : decode method_2_code 183 = .ok (.ireturn, 1) := by decide +kernel
theorem d2_184 : decode method_2_code 184 = .ok (.iconst (-1), 1) := by decide +kernel
theorem d2_185 : decode method_2_code 185 = .ok (.ireturn, 1) := by decide +kernel
theorem pn_1 : plainName "com/example/escritural/escritural/pdf/WinAnsiCodePinLaw" = true := by first | (simp [plainName, overriddenIn]; done) | decide +kernel
theorem ef_2 (m : MethodId) (x0 : Int32)  : entryFrame m #[(.int x0)] 1 = mkF m 0 #[.val (.int x0)] [] := by first | (simp [entryFrame, mkF, argsToLocals, Value.category]; done) | rfl
def F2 (x0 : Int32) : Int32 := if x0 < (32 : Int32) then (-1 : Int32) else (if (126 : Int32) < x0 then (if x0 < (160 : Int32) then (if x0 = (138 : Int32) then (352 : Int32) else (if x0 = (140 : Int32) then (338 : Int32) else (if x0 = (142 : Int32) then (381 : Int32) else (if x0 = (145 : Int32) then (8216 : Int32) else (if x0 = (146 : Int32) then (8217 : Int32) else (if x0 = (147 : Int32) then (8220 : Int32) else (if x0 = (148 : Int32) then (8221 : Int32) else (if x0 = (150 : Int32) then (8211 : Int32) else (if x0 = (151 : Int32) then (8212 : Int32) else (if x0 = (154 : Int32) then (353 : Int32) else (if x0 = (156 : Int32) then (339 : Int32) else (if x0 = (158 : Int32) then (382 : Int32) else (if x0 = (159 : Int32) then (376 : Int32) else (-1 : Int32)))))))))))))) else (if (255 : Int32) < x0 then (-1 : Int32) else x0)) else x0)
def Q2 (Z : State) (x0 : Int32) (h0 : Heap) (n0 : Nat) (vE : Option Value) (hE : Heap) (LE : List Loc) : Prop := vE = some (.int (F2 x0)) ∧ Fr n0 LE ∧ hE = h0
set_option maxRecDepth 65536 in
set_option maxHeartbeats 40000000 in
theorem rm2 (l : Launch) (Z : State) (a0 : Array Value) (hw : ∀ d ∈ tables_1, d.before a0 Z = true) (ws : List Jvm.Cond) (x0 : Int32) (h0 : Heap) (n0 : Nat) (Z0 : n0 ≤ h0.size) :
    MetFree l (⟨"com/example/escritural/escritural/pdf/WinAnsiCodePinLaw", "decode", "(I)I"⟩ : MethodName) (head1 (Jvm.Cond.code (⟨"com/example/escritural/escritural/pdf/WinAnsiCodePinLaw", "decode", "(I)I"⟩ : MethodName) method_2_code 1 (some .int) :: ws) ({ frames := 0, cells := 0, slots := 0, locals := 0 } : Room)) (fun a U => a = #[(.int x0)] ∧ Z.Warmed39 U.vm ∧ U.heap = h0) (fun _ _ _ _ _ => True) (fun _ U o U' => ∃ vE LE, o = .returned vE ∧ Q2 Z x0 h0 n0 vE U'.heap LE ∧ FrameEnd U o U' LE ({ frames := 0, cells := 0, slots := 0, locals := 0 } : Room).cells ({ frames := 0, cells := 0, slots := 0, locals := 0 } : Room).slots) := by
  refine MetFree.of_bodySF (plainFor_of_name pn_1) hisR ?_
  intro p e s m args below meth c s₁ Bd hml0 hP hK
  obtain ⟨rfl, hZ, hh⟩ := hP
  have hx := Bd.exec
  have hby := Bd.bytes
  have hml : c.maxLocals = 1 := hml0
  have hown : s.vm.findClass "com/example/escritural/escritural/pdf/WinAnsiCodePinLaw" = some m.cls := findClass_of_methodNamed Bd.named
  have hnm := (name_of_methodNamed Bd.named Bd.method).1
  have X0 : Stand p l e ({ frames := 0, cells := 0, slots := 0, locals := 0 } : Room) s m #[(.int x0)] below meth c s₁ [] 0 0 := Stand.of_body Bd
  have e0 : s₁.heap = h0 := by rw [← hh, Bd.state]; rfl
  have N0 := Fr.nil n0
  have st0 : Steps p.tables e below (s₁.setTop (entryFrame m #[(.int x0)] 1)) (s₁.setTop (mkF m 0 #[.val (.int x0)] [])) := castTop (ef_2 m x0) (Steps.refl _)
  have st1 : Steps p.tables e below (s₁.setTop (entryFrame m #[(.int x0)] 1)) (s₁.setTop (mkF m 3 #[.val (.int x0)] [(.int (32 : Int32)), (.int x0)])) := st0.trans (by
      show Steps p.tables e below (s₁.setTop (mkF m 0 #[.val (.int x0)] [])) _
      refine XS.iloadN X0.here hx rfl (hb hby d2_0) rfl ?_
      show Steps p.tables e below (s₁.setTop (mkF m 1 #[.val (.int x0)] [(.int x0)])) _
      refine XS.bipush X0.here hx rfl (hb hby d2_1) ?_
      exact Steps.refl _)
  by_cases hc2 : x0 < (32 : Int32)
  · have st3 : Steps p.tables e below (s₁.setTop (entryFrame m #[(.int x0)] 1)) (s₁.setTop (mkF m 16 #[.val (.int x0)] [(.int (160 : Int32)), (.int x0)])) := st1.trans (by
        show Steps p.tables e below (s₁.setTop (mkF m 3 #[.val (.int x0)] [(.int (32 : Int32)), (.int x0)])) _
        refine XS.icmpYes X0.here hx rfl (pc0 := 3) (pc' := 12) rfl (hb hby d2_3) rfl (tlt hc2).1 (by decide) (by decide) ?_
        show Steps p.tables e below (s₁.setTop (mkF m 12 #[.val (.int x0)] [])) _
        refine XS.iloadN X0.here hx rfl (hb hby d2_12) rfl ?_
        show Steps p.tables e below (s₁.setTop (mkF m 13 #[.val (.int x0)] [(.int x0)])) _
        refine XS.sipush X0.here hx rfl (hb hby d2_13) ?_
        exact Steps.refl _)
    have hf4 : x0 < (160 : Int32) := own_lt hc2 (by decide)
    have st5 : Steps p.tables e below (s₁.setTop (entryFrame m #[(.int x0)] 1)) (s₁.setTop (mkF m 29 #[.val (.int x0)] [(.int x0)])) := st3.trans (by
        show Steps p.tables e below (s₁.setTop (mkF m 16 #[.val (.int x0)] [(.int (160 : Int32)), (.int x0)])) _
        refine XS.icmpYes X0.here hx rfl (pc0 := 16) (pc' := 28) rfl (hb hby d2_16) rfl (tlt hf4).1 (by decide) (by decide) ?_
        show Steps p.tables e below (s₁.setTop (mkF m 28 #[.val (.int x0)] [])) _
        refine XS.iloadN X0.here hx rfl (hb hby d2_28) rfl ?_
        exact Steps.refl _)
    have hs6 : ¬ x0 = (138 : Int32) := own_ltne hc2 (by decide)
    have hs7 : ¬ x0 = (140 : Int32) := own_ltne hc2 (by decide)
    have hs8 : ¬ x0 = (142 : Int32) := own_ltne hc2 (by decide)
    have hs9 : ¬ x0 = (145 : Int32) := own_ltne hc2 (by decide)
    have hs10 : ¬ x0 = (146 : Int32) := own_ltne hc2 (by decide)
    have hs11 : ¬ x0 = (147 : Int32) := own_ltne hc2 (by decide)
    have hs12 : ¬ x0 = (148 : Int32) := own_ltne hc2 (by decide)
    have hs13 : ¬ x0 = (150 : Int32) := own_ltne hc2 (by decide)
    have hs14 : ¬ x0 = (151 : Int32) := own_ltne hc2 (by decide)
    have hs15 : ¬ x0 = (154 : Int32) := own_ltne hc2 (by decide)
    have hs16 : ¬ x0 = (156 : Int32) := own_ltne hc2 (by decide)
    have hs17 : ¬ x0 = (158 : Int32) := own_ltne hc2 (by decide)
    have hs18 : ¬ x0 = (159 : Int32) := own_ltne hc2 (by decide)
    have st19 : Steps p.tables e below (s₁.setTop (entryFrame m #[(.int x0)] 1)) (s₁.setTop (mkF m 185 #[.val (.int x0)] [(.int (-1 : Int32))])) := st5.trans (by
        show Steps p.tables e below (s₁.setTop (mkF m 29 #[.val (.int x0)] [(.int x0)])) _
        have key : ∀ t, Steps p.tables e below (s₁.setTop (mkF m 184 #[.val (.int x0)] [])) t → Steps p.tables e below (s₁.setTop (mkF m 29 #[.val (.int x0)] [(.int x0)])) t := by
          intro t k
          rcases own_tsw2_29 (x := x0) hs6 hs7 hs8 hs9 hs10 hs11 hs12 hs13 hs14 hs15 hs16 hs17 hs18 with q | ⟨q, q'⟩
          · exact XS.tswOut X0.here hx rfl (pc0 := 29) (pc' := 184) rfl (hb hby d2_29) rfl q (by decide) (by decide) k
          · exact XS.tswIn X0.here hx rfl (pc0 := 29) (pc' := 184) (o := 155) rfl (hb hby d2_29) rfl q q' (by decide) (by decide) k
        refine key _ ?_
        show Steps p.tables e below (s₁.setTop (mkF m 184 #[.val (.int x0)] [])) _
        refine XS.iconst X0.here hx rfl (hb hby d2_184) ?_
        exact Steps.refl _)
    obtain ⟨fs, hr, hrun, hended, hW, hsame⟩ := X0.leave (v := some (.int (-1 : Int32))) (fun h => by rw [Bd.returns] at h; cases h)
    refine ⟨_, _, st19.trans ?_, hrun, hended, _, _, rfl, ?_, ⟨_, rfl⟩, hW, hsame.mono (by decide) (by decide)⟩
    · exact retI X0 hx Bd.returns (hb hby d2_185) hr
    · show Q2 Z x0 h0 n0 _ s₁.heap _
      rw [e0]
      exact ⟨by rw [F2, if_pos hc2], N0, rfl⟩
  · have st20 : Steps p.tables e below (s₁.setTop (entryFrame m #[(.int x0)] 1)) (s₁.setTop (mkF m 9 #[.val (.int x0)] [(.int (126 : Int32)), (.int x0)])) := st1.trans (by
        show Steps p.tables e below (s₁.setTop (mkF m 3 #[.val (.int x0)] [(.int (32 : Int32)), (.int x0)])) _
        refine XS.icmpNo X0.here hx rfl (hb hby d2_3) rfl (flt hc2).1 ?_
        show Steps p.tables e below (s₁.setTop (mkF m 6 #[.val (.int x0)] [])) _
        refine XS.iloadN X0.here hx rfl (hb hby d2_6) rfl ?_
        show Steps p.tables e below (s₁.setTop (mkF m 7 #[.val (.int x0)] [(.int x0)])) _
        refine XS.bipush X0.here hx rfl (hb hby d2_7) ?_
        exact Steps.refl _)
    by_cases hc21 : (126 : Int32) < x0
    · have st22 : Steps p.tables e below (s₁.setTop (entryFrame m #[(.int x0)] 1)) (s₁.setTop (mkF m 16 #[.val (.int x0)] [(.int (160 : Int32)), (.int x0)])) := st20.trans (by
          show Steps p.tables e below (s₁.setTop (mkF m 9 #[.val (.int x0)] [(.int (126 : Int32)), (.int x0)])) _
          refine XS.icmpNo X0.here hx rfl (hb hby d2_9) rfl (tlt hc21).2.2.2 ?_
          show Steps p.tables e below (s₁.setTop (mkF m 12 #[.val (.int x0)] [])) _
          refine XS.iloadN X0.here hx rfl (hb hby d2_12) rfl ?_
          show Steps p.tables e below (s₁.setTop (mkF m 13 #[.val (.int x0)] [(.int x0)])) _
          refine XS.sipush X0.here hx rfl (hb hby d2_13) ?_
          exact Steps.refl _)
      by_cases hc23 : x0 < (160 : Int32)
      · have st24 : Steps p.tables e below (s₁.setTop (entryFrame m #[(.int x0)] 1)) (s₁.setTop (mkF m 29 #[.val (.int x0)] [(.int x0)])) := st22.trans (by
            show Steps p.tables e below (s₁.setTop (mkF m 16 #[.val (.int x0)] [(.int (160 : Int32)), (.int x0)])) _
            refine XS.icmpYes X0.here hx rfl (pc0 := 16) (pc' := 28) rfl (hb hby d2_16) rfl (tlt hc23).1 (by decide) (by decide) ?_
            show Steps p.tables e below (s₁.setTop (mkF m 28 #[.val (.int x0)] [])) _
            refine XS.iloadN X0.here hx rfl (hb hby d2_28) rfl ?_
            exact Steps.refl _)
        by_cases hc25 : x0 = (138 : Int32)
        · have st26 : Steps p.tables e below (s₁.setTop (entryFrame m #[(.int x0)] 1)) (s₁.setTop (mkF m 135 #[.val (.int x0)] [(.int (352 : Int32))])) := st24.trans (by
              show Steps p.tables e below (s₁.setTop (mkF m 29 #[.val (.int x0)] [(.int x0)])) _
              refine XS.tswIn X0.here hx rfl (pc0 := 29) (pc' := 132) (o := 103) rfl (hb hby d2_29) rfl (by rw [hc25]; decide) (by rw [hc25]; rfl) (by decide) (by decide) ?_
              show Steps p.tables e below (s₁.setTop (mkF m 132 #[.val (.int x0)] [])) _
              refine XS.sipush X0.here hx rfl (hb hby d2_132) ?_
              exact Steps.refl _)
          obtain ⟨fs, hr, hrun, hended, hW, hsame⟩ := X0.leave (v := some (.int (352 : Int32))) (fun h => by rw [Bd.returns] at h; cases h)
          refine ⟨_, _, st26.trans ?_, hrun, hended, _, _, rfl, ?_, ⟨_, rfl⟩, hW, hsame.mono (by decide) (by decide)⟩
          · exact retI X0 hx Bd.returns (hb hby d2_135) hr
          · show Q2 Z x0 h0 n0 _ s₁.heap _
            rw [e0]
            exact ⟨by rw [F2, if_neg hc2, if_pos hc21, if_pos hc23, if_pos hc25], N0, rfl⟩
        · by_cases hc27 : x0 = (140 : Int32)
          · have st28 : Steps p.tables e below (s₁.setTop (entryFrame m #[(.int x0)] 1)) (s₁.setTop (mkF m 139 #[.val (.int x0)] [(.int (338 : Int32))])) := st24.trans (by
                show Steps p.tables e below (s₁.setTop (mkF m 29 #[.val (.int x0)] [(.int x0)])) _
                refine XS.tswIn X0.here hx rfl (pc0 := 29) (pc' := 136) (o := 107) rfl (hb hby d2_29) rfl (by rw [hc27]; decide) (by rw [hc27]; rfl) (by decide) (by decide) ?_
                show Steps p.tables e below (s₁.setTop (mkF m 136 #[.val (.int x0)] [])) _
                refine XS.sipush X0.here hx rfl (hb hby d2_136) ?_
                exact Steps.refl _)
            obtain ⟨fs, hr, hrun, hended, hW, hsame⟩ := X0.leave (v := some (.int (338 : Int32))) (fun h => by rw [Bd.returns] at h; cases h)
            refine ⟨_, _, st28.trans ?_, hrun, hended, _, _, rfl, ?_, ⟨_, rfl⟩, hW, hsame.mono (by decide) (by decide)⟩
            · exact retI X0 hx Bd.returns (hb hby d2_139) hr
            · show Q2 Z x0 h0 n0 _ s₁.heap _
              rw [e0]
              exact ⟨by rw [F2, if_neg hc2, if_pos hc21, if_pos hc23, if_neg hc25, if_pos hc27], N0, rfl⟩
          · by_cases hc29 : x0 = (142 : Int32)
            · have st30 : Steps p.tables e below (s₁.setTop (entryFrame m #[(.int x0)] 1)) (s₁.setTop (mkF m 143 #[.val (.int x0)] [(.int (381 : Int32))])) := st24.trans (by
                  show Steps p.tables e below (s₁.setTop (mkF m 29 #[.val (.int x0)] [(.int x0)])) _
                  refine XS.tswIn X0.here hx rfl (pc0 := 29) (pc' := 140) (o := 111) rfl (hb hby d2_29) rfl (by rw [hc29]; decide) (by rw [hc29]; rfl) (by decide) (by decide) ?_
                  show Steps p.tables e below (s₁.setTop (mkF m 140 #[.val (.int x0)] [])) _
                  refine XS.sipush X0.here hx rfl (hb hby d2_140) ?_
                  exact Steps.refl _)
              obtain ⟨fs, hr, hrun, hended, hW, hsame⟩ := X0.leave (v := some (.int (381 : Int32))) (fun h => by rw [Bd.returns] at h; cases h)
              refine ⟨_, _, st30.trans ?_, hrun, hended, _, _, rfl, ?_, ⟨_, rfl⟩, hW, hsame.mono (by decide) (by decide)⟩
              · exact retI X0 hx Bd.returns (hb hby d2_143) hr
              · show Q2 Z x0 h0 n0 _ s₁.heap _
                rw [e0]
                exact ⟨by rw [F2, if_neg hc2, if_pos hc21, if_pos hc23, if_neg hc25, if_neg hc27, if_pos hc29], N0, rfl⟩
            · by_cases hc31 : x0 = (145 : Int32)
              · have st32 : Steps p.tables e below (s₁.setTop (entryFrame m #[(.int x0)] 1)) (s₁.setTop (mkF m 147 #[.val (.int x0)] [(.int (8216 : Int32))])) := st24.trans (by
                    show Steps p.tables e below (s₁.setTop (mkF m 29 #[.val (.int x0)] [(.int x0)])) _
                    refine XS.tswIn X0.here hx rfl (pc0 := 29) (pc' := 144) (o := 115) rfl (hb hby d2_29) rfl (by rw [hc31]; decide) (by rw [hc31]; rfl) (by decide) (by decide) ?_
                    show Steps p.tables e below (s₁.setTop (mkF m 144 #[.val (.int x0)] [])) _
                    refine XS.sipush X0.here hx rfl (hb hby d2_144) ?_
                    exact Steps.refl _)
                obtain ⟨fs, hr, hrun, hended, hW, hsame⟩ := X0.leave (v := some (.int (8216 : Int32))) (fun h => by rw [Bd.returns] at h; cases h)
                refine ⟨_, _, st32.trans ?_, hrun, hended, _, _, rfl, ?_, ⟨_, rfl⟩, hW, hsame.mono (by decide) (by decide)⟩
                · exact retI X0 hx Bd.returns (hb hby d2_147) hr
                · show Q2 Z x0 h0 n0 _ s₁.heap _
                  rw [e0]
                  exact ⟨by rw [F2, if_neg hc2, if_pos hc21, if_pos hc23, if_neg hc25, if_neg hc27, if_neg hc29, if_pos hc31], N0, rfl⟩
              · by_cases hc33 : x0 = (146 : Int32)
                · have st34 : Steps p.tables e below (s₁.setTop (entryFrame m #[(.int x0)] 1)) (s₁.setTop (mkF m 151 #[.val (.int x0)] [(.int (8217 : Int32))])) := st24.trans (by
                      show Steps p.tables e below (s₁.setTop (mkF m 29 #[.val (.int x0)] [(.int x0)])) _
                      refine XS.tswIn X0.here hx rfl (pc0 := 29) (pc' := 148) (o := 119) rfl (hb hby d2_29) rfl (by rw [hc33]; decide) (by rw [hc33]; rfl) (by decide) (by decide) ?_
                      show Steps p.tables e below (s₁.setTop (mkF m 148 #[.val (.int x0)] [])) _
                      refine XS.sipush X0.here hx rfl (hb hby d2_148) ?_
                      exact Steps.refl _)
                  obtain ⟨fs, hr, hrun, hended, hW, hsame⟩ := X0.leave (v := some (.int (8217 : Int32))) (fun h => by rw [Bd.returns] at h; cases h)
                  refine ⟨_, _, st34.trans ?_, hrun, hended, _, _, rfl, ?_, ⟨_, rfl⟩, hW, hsame.mono (by decide) (by decide)⟩
                  · exact retI X0 hx Bd.returns (hb hby d2_151) hr
                  · show Q2 Z x0 h0 n0 _ s₁.heap _
                    rw [e0]
                    exact ⟨by rw [F2, if_neg hc2, if_pos hc21, if_pos hc23, if_neg hc25, if_neg hc27, if_neg hc29, if_neg hc31, if_pos hc33], N0, rfl⟩
                · by_cases hc35 : x0 = (147 : Int32)
                  · have st36 : Steps p.tables e below (s₁.setTop (entryFrame m #[(.int x0)] 1)) (s₁.setTop (mkF m 155 #[.val (.int x0)] [(.int (8220 : Int32))])) := st24.trans (by
                        show Steps p.tables e below (s₁.setTop (mkF m 29 #[.val (.int x0)] [(.int x0)])) _
                        refine XS.tswIn X0.here hx rfl (pc0 := 29) (pc' := 152) (o := 123) rfl (hb hby d2_29) rfl (by rw [hc35]; decide) (by rw [hc35]; rfl) (by decide) (by decide) ?_
                        show Steps p.tables e below (s₁.setTop (mkF m 152 #[.val (.int x0)] [])) _
                        refine XS.sipush X0.here hx rfl (hb hby d2_152) ?_
                        exact Steps.refl _)
                    obtain ⟨fs, hr, hrun, hended, hW, hsame⟩ := X0.leave (v := some (.int (8220 : Int32))) (fun h => by rw [Bd.returns] at h; cases h)
                    refine ⟨_, _, st36.trans ?_, hrun, hended, _, _, rfl, ?_, ⟨_, rfl⟩, hW, hsame.mono (by decide) (by decide)⟩
                    · exact retI X0 hx Bd.returns (hb hby d2_155) hr
                    · show Q2 Z x0 h0 n0 _ s₁.heap _
                      rw [e0]
                      exact ⟨by rw [F2, if_neg hc2, if_pos hc21, if_pos hc23, if_neg hc25, if_neg hc27, if_neg hc29, if_neg hc31, if_neg hc33, if_pos hc35], N0, rfl⟩
                  · by_cases hc37 : x0 = (148 : Int32)
                    · have st38 : Steps p.tables e below (s₁.setTop (entryFrame m #[(.int x0)] 1)) (s₁.setTop (mkF m 159 #[.val (.int x0)] [(.int (8221 : Int32))])) := st24.trans (by
                          show Steps p.tables e below (s₁.setTop (mkF m 29 #[.val (.int x0)] [(.int x0)])) _
                          refine XS.tswIn X0.here hx rfl (pc0 := 29) (pc' := 156) (o := 127) rfl (hb hby d2_29) rfl (by rw [hc37]; decide) (by rw [hc37]; rfl) (by decide) (by decide) ?_
                          show Steps p.tables e below (s₁.setTop (mkF m 156 #[.val (.int x0)] [])) _
                          refine XS.sipush X0.here hx rfl (hb hby d2_156) ?_
                          exact Steps.refl _)
                      obtain ⟨fs, hr, hrun, hended, hW, hsame⟩ := X0.leave (v := some (.int (8221 : Int32))) (fun h => by rw [Bd.returns] at h; cases h)
                      refine ⟨_, _, st38.trans ?_, hrun, hended, _, _, rfl, ?_, ⟨_, rfl⟩, hW, hsame.mono (by decide) (by decide)⟩
                      · exact retI X0 hx Bd.returns (hb hby d2_159) hr
                      · show Q2 Z x0 h0 n0 _ s₁.heap _
                        rw [e0]
                        exact ⟨by rw [F2, if_neg hc2, if_pos hc21, if_pos hc23, if_neg hc25, if_neg hc27, if_neg hc29, if_neg hc31, if_neg hc33, if_neg hc35, if_pos hc37], N0, rfl⟩
                    · by_cases hc39 : x0 = (150 : Int32)
                      · have st40 : Steps p.tables e below (s₁.setTop (entryFrame m #[(.int x0)] 1)) (s₁.setTop (mkF m 163 #[.val (.int x0)] [(.int (8211 : Int32))])) := st24.trans (by
                            show Steps p.tables e below (s₁.setTop (mkF m 29 #[.val (.int x0)] [(.int x0)])) _
                            refine XS.tswIn X0.here hx rfl (pc0 := 29) (pc' := 160) (o := 131) rfl (hb hby d2_29) rfl (by rw [hc39]; decide) (by rw [hc39]; rfl) (by decide) (by decide) ?_
                            show Steps p.tables e below (s₁.setTop (mkF m 160 #[.val (.int x0)] [])) _
                            refine XS.sipush X0.here hx rfl (hb hby d2_160) ?_
                            exact Steps.refl _)
                        obtain ⟨fs, hr, hrun, hended, hW, hsame⟩ := X0.leave (v := some (.int (8211 : Int32))) (fun h => by rw [Bd.returns] at h; cases h)
                        refine ⟨_, _, st40.trans ?_, hrun, hended, _, _, rfl, ?_, ⟨_, rfl⟩, hW, hsame.mono (by decide) (by decide)⟩
                        · exact retI X0 hx Bd.returns (hb hby d2_163) hr
                        · show Q2 Z x0 h0 n0 _ s₁.heap _
                          rw [e0]
                          exact ⟨by rw [F2, if_neg hc2, if_pos hc21, if_pos hc23, if_neg hc25, if_neg hc27, if_neg hc29, if_neg hc31, if_neg hc33, if_neg hc35, if_neg hc37, if_pos hc39], N0, rfl⟩
                      · by_cases hc41 : x0 = (151 : Int32)
                        · have st42 : Steps p.tables e below (s₁.setTop (entryFrame m #[(.int x0)] 1)) (s₁.setTop (mkF m 167 #[.val (.int x0)] [(.int (8212 : Int32))])) := st24.trans (by
                              show Steps p.tables e below (s₁.setTop (mkF m 29 #[.val (.int x0)] [(.int x0)])) _
                              refine XS.tswIn X0.here hx rfl (pc0 := 29) (pc' := 164) (o := 135) rfl (hb hby d2_29) rfl (by rw [hc41]; decide) (by rw [hc41]; rfl) (by decide) (by decide) ?_
                              show Steps p.tables e below (s₁.setTop (mkF m 164 #[.val (.int x0)] [])) _
                              refine XS.sipush X0.here hx rfl (hb hby d2_164) ?_
                              exact Steps.refl _)
                          obtain ⟨fs, hr, hrun, hended, hW, hsame⟩ := X0.leave (v := some (.int (8212 : Int32))) (fun h => by rw [Bd.returns] at h; cases h)
                          refine ⟨_, _, st42.trans ?_, hrun, hended, _, _, rfl, ?_, ⟨_, rfl⟩, hW, hsame.mono (by decide) (by decide)⟩
                          · exact retI X0 hx Bd.returns (hb hby d2_167) hr
                          · show Q2 Z x0 h0 n0 _ s₁.heap _
                            rw [e0]
                            exact ⟨by rw [F2, if_neg hc2, if_pos hc21, if_pos hc23, if_neg hc25, if_neg hc27, if_neg hc29, if_neg hc31, if_neg hc33, if_neg hc35, if_neg hc37, if_neg hc39, if_pos hc41], N0, rfl⟩
                        · by_cases hc43 : x0 = (154 : Int32)
                          · have st44 : Steps p.tables e below (s₁.setTop (entryFrame m #[(.int x0)] 1)) (s₁.setTop (mkF m 171 #[.val (.int x0)] [(.int (353 : Int32))])) := st24.trans (by
                                show Steps p.tables e below (s₁.setTop (mkF m 29 #[.val (.int x0)] [(.int x0)])) _
                                refine XS.tswIn X0.here hx rfl (pc0 := 29) (pc' := 168) (o := 139) rfl (hb hby d2_29) rfl (by rw [hc43]; decide) (by rw [hc43]; rfl) (by decide) (by decide) ?_
                                show Steps p.tables e below (s₁.setTop (mkF m 168 #[.val (.int x0)] [])) _
                                refine XS.sipush X0.here hx rfl (hb hby d2_168) ?_
                                exact Steps.refl _)
                            obtain ⟨fs, hr, hrun, hended, hW, hsame⟩ := X0.leave (v := some (.int (353 : Int32))) (fun h => by rw [Bd.returns] at h; cases h)
                            refine ⟨_, _, st44.trans ?_, hrun, hended, _, _, rfl, ?_, ⟨_, rfl⟩, hW, hsame.mono (by decide) (by decide)⟩
                            · exact retI X0 hx Bd.returns (hb hby d2_171) hr
                            · show Q2 Z x0 h0 n0 _ s₁.heap _
                              rw [e0]
                              exact ⟨by rw [F2, if_neg hc2, if_pos hc21, if_pos hc23, if_neg hc25, if_neg hc27, if_neg hc29, if_neg hc31, if_neg hc33, if_neg hc35, if_neg hc37, if_neg hc39, if_neg hc41, if_pos hc43], N0, rfl⟩
                          · by_cases hc45 : x0 = (156 : Int32)
                            · have st46 : Steps p.tables e below (s₁.setTop (entryFrame m #[(.int x0)] 1)) (s₁.setTop (mkF m 175 #[.val (.int x0)] [(.int (339 : Int32))])) := st24.trans (by
                                  show Steps p.tables e below (s₁.setTop (mkF m 29 #[.val (.int x0)] [(.int x0)])) _
                                  refine XS.tswIn X0.here hx rfl (pc0 := 29) (pc' := 172) (o := 143) rfl (hb hby d2_29) rfl (by rw [hc45]; decide) (by rw [hc45]; rfl) (by decide) (by decide) ?_
                                  show Steps p.tables e below (s₁.setTop (mkF m 172 #[.val (.int x0)] [])) _
                                  refine XS.sipush X0.here hx rfl (hb hby d2_172) ?_
                                  exact Steps.refl _)
                              obtain ⟨fs, hr, hrun, hended, hW, hsame⟩ := X0.leave (v := some (.int (339 : Int32))) (fun h => by rw [Bd.returns] at h; cases h)
                              refine ⟨_, _, st46.trans ?_, hrun, hended, _, _, rfl, ?_, ⟨_, rfl⟩, hW, hsame.mono (by decide) (by decide)⟩
                              · exact retI X0 hx Bd.returns (hb hby d2_175) hr
                              · show Q2 Z x0 h0 n0 _ s₁.heap _
                                rw [e0]
                                exact ⟨by rw [F2, if_neg hc2, if_pos hc21, if_pos hc23, if_neg hc25, if_neg hc27, if_neg hc29, if_neg hc31, if_neg hc33, if_neg hc35, if_neg hc37, if_neg hc39, if_neg hc41, if_neg hc43, if_pos hc45], N0, rfl⟩
                            · by_cases hc47 : x0 = (158 : Int32)
                              · have st48 : Steps p.tables e below (s₁.setTop (entryFrame m #[(.int x0)] 1)) (s₁.setTop (mkF m 179 #[.val (.int x0)] [(.int (382 : Int32))])) := st24.trans (by
                                    show Steps p.tables e below (s₁.setTop (mkF m 29 #[.val (.int x0)] [(.int x0)])) _
                                    refine XS.tswIn X0.here hx rfl (pc0 := 29) (pc' := 176) (o := 147) rfl (hb hby d2_29) rfl (by rw [hc47]; decide) (by rw [hc47]; rfl) (by decide) (by decide) ?_
                                    show Steps p.tables e below (s₁.setTop (mkF m 176 #[.val (.int x0)] [])) _
                                    refine XS.sipush X0.here hx rfl (hb hby d2_176) ?_
                                    exact Steps.refl _)
                                obtain ⟨fs, hr, hrun, hended, hW, hsame⟩ := X0.leave (v := some (.int (382 : Int32))) (fun h => by rw [Bd.returns] at h; cases h)
                                refine ⟨_, _, st48.trans ?_, hrun, hended, _, _, rfl, ?_, ⟨_, rfl⟩, hW, hsame.mono (by decide) (by decide)⟩
                                · exact retI X0 hx Bd.returns (hb hby d2_179) hr
                                · show Q2 Z x0 h0 n0 _ s₁.heap _
                                  rw [e0]
                                  exact ⟨by rw [F2, if_neg hc2, if_pos hc21, if_pos hc23, if_neg hc25, if_neg hc27, if_neg hc29, if_neg hc31, if_neg hc33, if_neg hc35, if_neg hc37, if_neg hc39, if_neg hc41, if_neg hc43, if_neg hc45, if_pos hc47], N0, rfl⟩
                              · by_cases hc49 : x0 = (159 : Int32)
                                · have st50 : Steps p.tables e below (s₁.setTop (entryFrame m #[(.int x0)] 1)) (s₁.setTop (mkF m 183 #[.val (.int x0)] [(.int (376 : Int32))])) := st24.trans (by
                                      show Steps p.tables e below (s₁.setTop (mkF m 29 #[.val (.int x0)] [(.int x0)])) _
                                      refine XS.tswIn X0.here hx rfl (pc0 := 29) (pc' := 180) (o := 151) rfl (hb hby d2_29) rfl (by rw [hc49]; decide) (by rw [hc49]; rfl) (by decide) (by decide) ?_
                                      show Steps p.tables e below (s₁.setTop (mkF m 180 #[.val (.int x0)] [])) _
                                      refine XS.sipush X0.here hx rfl (hb hby d2_180) ?_
                                      exact Steps.refl _)
                                  obtain ⟨fs, hr, hrun, hended, hW, hsame⟩ := X0.leave (v := some (.int (376 : Int32))) (fun h => by rw [Bd.returns] at h; cases h)
                                  refine ⟨_, _, st50.trans ?_, hrun, hended, _, _, rfl, ?_, ⟨_, rfl⟩, hW, hsame.mono (by decide) (by decide)⟩
                                  · exact retI X0 hx Bd.returns (hb hby d2_183) hr
                                  · show Q2 Z x0 h0 n0 _ s₁.heap _
                                    rw [e0]
                                    exact ⟨by rw [F2, if_neg hc2, if_pos hc21, if_pos hc23, if_neg hc25, if_neg hc27, if_neg hc29, if_neg hc31, if_neg hc33, if_neg hc35, if_neg hc37, if_neg hc39, if_neg hc41, if_neg hc43, if_neg hc45, if_neg hc47, if_pos hc49], N0, rfl⟩
                                · have st51 : Steps p.tables e below (s₁.setTop (entryFrame m #[(.int x0)] 1)) (s₁.setTop (mkF m 185 #[.val (.int x0)] [(.int (-1 : Int32))])) := st24.trans (by
                                      show Steps p.tables e below (s₁.setTop (mkF m 29 #[.val (.int x0)] [(.int x0)])) _
                                      have key : ∀ t, Steps p.tables e below (s₁.setTop (mkF m 184 #[.val (.int x0)] [])) t → Steps p.tables e below (s₁.setTop (mkF m 29 #[.val (.int x0)] [(.int x0)])) t := by
                                        intro t k
                                        rcases own_tsw2_29 (x := x0) hc25 hc27 hc29 hc31 hc33 hc35 hc37 hc39 hc41 hc43 hc45 hc47 hc49 with q | ⟨q, q'⟩
                                        · exact XS.tswOut X0.here hx rfl (pc0 := 29) (pc' := 184) rfl (hb hby d2_29) rfl q (by decide) (by decide) k
                                        · exact XS.tswIn X0.here hx rfl (pc0 := 29) (pc' := 184) (o := 155) rfl (hb hby d2_29) rfl q q' (by decide) (by decide) k
                                      refine key _ ?_
                                      show Steps p.tables e below (s₁.setTop (mkF m 184 #[.val (.int x0)] [])) _
                                      refine XS.iconst X0.here hx rfl (hb hby d2_184) ?_
                                      exact Steps.refl _)
                                  obtain ⟨fs, hr, hrun, hended, hW, hsame⟩ := X0.leave (v := some (.int (-1 : Int32))) (fun h => by rw [Bd.returns] at h; cases h)
                                  refine ⟨_, _, st51.trans ?_, hrun, hended, _, _, rfl, ?_, ⟨_, rfl⟩, hW, hsame.mono (by decide) (by decide)⟩
                                  · exact retI X0 hx Bd.returns (hb hby d2_185) hr
                                  · show Q2 Z x0 h0 n0 _ s₁.heap _
                                    rw [e0]
                                    exact ⟨by rw [F2, if_neg hc2, if_pos hc21, if_pos hc23, if_neg hc25, if_neg hc27, if_neg hc29, if_neg hc31, if_neg hc33, if_neg hc35, if_neg hc37, if_neg hc39, if_neg hc41, if_neg hc43, if_neg hc45, if_neg hc47, if_neg hc49], N0, rfl⟩
      · have st52 : Steps p.tables e below (s₁.setTop (entryFrame m #[(.int x0)] 1)) (s₁.setTop (mkF m 23 #[.val (.int x0)] [(.int (255 : Int32)), (.int x0)])) := st22.trans (by
            show Steps p.tables e below (s₁.setTop (mkF m 16 #[.val (.int x0)] [(.int (160 : Int32)), (.int x0)])) _
            refine XS.icmpNo X0.here hx rfl (hb hby d2_16) rfl (flt hc23).1 ?_
            show Steps p.tables e below (s₁.setTop (mkF m 19 #[.val (.int x0)] [])) _
            refine XS.iloadN X0.here hx rfl (hb hby d2_19) rfl ?_
            show Steps p.tables e below (s₁.setTop (mkF m 20 #[.val (.int x0)] [(.int x0)])) _
            refine XS.sipush X0.here hx rfl (hb hby d2_20) ?_
            exact Steps.refl _)
        by_cases hc53 : (255 : Int32) < x0
        · have st54 : Steps p.tables e below (s₁.setTop (entryFrame m #[(.int x0)] 1)) (s₁.setTop (mkF m 29 #[.val (.int x0)] [(.int x0)])) := st52.trans (by
              show Steps p.tables e below (s₁.setTop (mkF m 23 #[.val (.int x0)] [(.int (255 : Int32)), (.int x0)])) _
              refine XS.icmpYes X0.here hx rfl (pc0 := 23) (pc' := 28) rfl (hb hby d2_23) rfl (tlt hc53).2.2.1 (by decide) (by decide) ?_
              show Steps p.tables e below (s₁.setTop (mkF m 28 #[.val (.int x0)] [])) _
              refine XS.iloadN X0.here hx rfl (hb hby d2_28) rfl ?_
              exact Steps.refl _)
          have hs55 : ¬ x0 = (138 : Int32) := own_gtne hc53 (by decide)
          have hs56 : ¬ x0 = (140 : Int32) := own_gtne hc53 (by decide)
          have hs57 : ¬ x0 = (142 : Int32) := own_gtne hc53 (by decide)
          have hs58 : ¬ x0 = (145 : Int32) := own_gtne hc53 (by decide)
          have hs59 : ¬ x0 = (146 : Int32) := own_gtne hc53 (by decide)
          have hs60 : ¬ x0 = (147 : Int32) := own_gtne hc53 (by decide)
          have hs61 : ¬ x0 = (148 : Int32) := own_gtne hc53 (by decide)
          have hs62 : ¬ x0 = (150 : Int32) := own_gtne hc53 (by decide)
          have hs63 : ¬ x0 = (151 : Int32) := own_gtne hc53 (by decide)
          have hs64 : ¬ x0 = (154 : Int32) := own_gtne hc53 (by decide)
          have hs65 : ¬ x0 = (156 : Int32) := own_gtne hc53 (by decide)
          have hs66 : ¬ x0 = (158 : Int32) := own_gtne hc53 (by decide)
          have hs67 : ¬ x0 = (159 : Int32) := own_gtne hc53 (by decide)
          have st68 : Steps p.tables e below (s₁.setTop (entryFrame m #[(.int x0)] 1)) (s₁.setTop (mkF m 185 #[.val (.int x0)] [(.int (-1 : Int32))])) := st54.trans (by
              show Steps p.tables e below (s₁.setTop (mkF m 29 #[.val (.int x0)] [(.int x0)])) _
              have key : ∀ t, Steps p.tables e below (s₁.setTop (mkF m 184 #[.val (.int x0)] [])) t → Steps p.tables e below (s₁.setTop (mkF m 29 #[.val (.int x0)] [(.int x0)])) t := by
                intro t k
                rcases own_tsw2_29 (x := x0) hs55 hs56 hs57 hs58 hs59 hs60 hs61 hs62 hs63 hs64 hs65 hs66 hs67 with q | ⟨q, q'⟩
                · exact XS.tswOut X0.here hx rfl (pc0 := 29) (pc' := 184) rfl (hb hby d2_29) rfl q (by decide) (by decide) k
                · exact XS.tswIn X0.here hx rfl (pc0 := 29) (pc' := 184) (o := 155) rfl (hb hby d2_29) rfl q q' (by decide) (by decide) k
              refine key _ ?_
              show Steps p.tables e below (s₁.setTop (mkF m 184 #[.val (.int x0)] [])) _
              refine XS.iconst X0.here hx rfl (hb hby d2_184) ?_
              exact Steps.refl _)
          obtain ⟨fs, hr, hrun, hended, hW, hsame⟩ := X0.leave (v := some (.int (-1 : Int32))) (fun h => by rw [Bd.returns] at h; cases h)
          refine ⟨_, _, st68.trans ?_, hrun, hended, _, _, rfl, ?_, ⟨_, rfl⟩, hW, hsame.mono (by decide) (by decide)⟩
          · exact retI X0 hx Bd.returns (hb hby d2_185) hr
          · show Q2 Z x0 h0 n0 _ s₁.heap _
            rw [e0]
            exact ⟨by rw [F2, if_neg hc2, if_pos hc21, if_neg hc23, if_pos hc53], N0, rfl⟩
        · have st69 : Steps p.tables e below (s₁.setTop (entryFrame m #[(.int x0)] 1)) (s₁.setTop (mkF m 27 #[.val (.int x0)] [(.int x0)])) := st52.trans (by
              show Steps p.tables e below (s₁.setTop (mkF m 23 #[.val (.int x0)] [(.int (255 : Int32)), (.int x0)])) _
              refine XS.icmpNo X0.here hx rfl (hb hby d2_23) rfl (flt hc53).2.2.1 ?_
              show Steps p.tables e below (s₁.setTop (mkF m 26 #[.val (.int x0)] [])) _
              refine XS.iloadN X0.here hx rfl (hb hby d2_26) rfl ?_
              exact Steps.refl _)
          obtain ⟨fs, hr, hrun, hended, hW, hsame⟩ := X0.leave (v := some (.int x0)) (fun h => by rw [Bd.returns] at h; cases h)
          refine ⟨_, _, st69.trans ?_, hrun, hended, _, _, rfl, ?_, ⟨_, rfl⟩, hW, hsame.mono (by decide) (by decide)⟩
          · exact retI X0 hx Bd.returns (hb hby d2_27) hr
          · show Q2 Z x0 h0 n0 _ s₁.heap _
            rw [e0]
            exact ⟨by rw [F2, if_neg hc2, if_pos hc21, if_neg hc23, if_neg hc53], N0, rfl⟩
    · have st70 : Steps p.tables e below (s₁.setTop (entryFrame m #[(.int x0)] 1)) (s₁.setTop (mkF m 27 #[.val (.int x0)] [(.int x0)])) := st20.trans (by
          show Steps p.tables e below (s₁.setTop (mkF m 9 #[.val (.int x0)] [(.int (126 : Int32)), (.int x0)])) _
          refine XS.icmpYes X0.here hx rfl (pc0 := 9) (pc' := 26) rfl (hb hby d2_9) rfl (flt hc21).2.2.2 (by decide) (by decide) ?_
          show Steps p.tables e below (s₁.setTop (mkF m 26 #[.val (.int x0)] [])) _
          refine XS.iloadN X0.here hx rfl (hb hby d2_26) rfl ?_
          exact Steps.refl _)
      obtain ⟨fs, hr, hrun, hended, hW, hsame⟩ := X0.leave (v := some (.int x0)) (fun h => by rw [Bd.returns] at h; cases h)
      refine ⟨_, _, st70.trans ?_, hrun, hended, _, _, rfl, ?_, ⟨_, rfl⟩, hW, hsame.mono (by decide) (by decide)⟩
      · exact retI X0 hx Bd.returns (hb hby d2_27) hr
      · show Q2 Z x0 h0 n0 _ s₁.heap _
        rw [e0]
        exact ⟨by rw [F2, if_neg hc2, if_neg hc21], N0, rfl⟩
theorem pd_0 : parseMethodDescriptor "(C)I" = some ⟨[.char], some .int⟩ := by decide +kernel
theorem pd_1 : parseMethodDescriptor "(I)I" = some ⟨[.int], some .int⟩ := by decide +kernel
theorem ef_0 (m : MethodId) (x0 : Int32) (x1 : Int32)  : entryFrame m #[(.int x0), (.int x1)] maxLocals = mkF m 0 #[.val (.int x0), .val (.int x1), .unset, .unset, .unset, .unset, .unset, .unset] [] := by first | (simp [entryFrame, mkF, argsToLocals, Value.category, maxLocals]; done) | rfl
def F0 (x0 : Int32) (x1 : Int32) : Int32 := if (F1 (x0.toUInt32.toUInt16.toUInt32.toInt32)) = (-1 : Int32) then (if (F2 (x1 &&& (255 : Int32))) = (-1 : Int32) then (1 : Int32) else (if (F1 ((F2 (x1 &&& (255 : Int32))).toUInt32.toUInt16.toUInt32.toInt32)) = (x1 &&& (255 : Int32)) then (1 : Int32) else (0 : Int32))) else (if (F1 (x0.toUInt32.toUInt16.toUInt32.toInt32)) < (0 : Int32) then (if (F2 (x1 &&& (255 : Int32))) = (-1 : Int32) then (0 : Int32) else (if (F1 ((F2 (x1 &&& (255 : Int32))).toUInt32.toUInt16.toUInt32.toInt32)) = (x1 &&& (255 : Int32)) then (0 : Int32) else (0 : Int32))) else (if (255 : Int32) < (F1 (x0.toUInt32.toUInt16.toUInt32.toInt32)) then (if (F2 (x1 &&& (255 : Int32))) = (-1 : Int32) then (0 : Int32) else (if (F1 ((F2 (x1 &&& (255 : Int32))).toUInt32.toUInt16.toUInt32.toInt32)) = (x1 &&& (255 : Int32)) then (0 : Int32) else (0 : Int32))) else (if (F2 (F1 (x0.toUInt32.toUInt16.toUInt32.toInt32))) = (x0.toUInt32.toUInt16.toUInt32.toInt32) then (if (F2 (x1 &&& (255 : Int32))) = (-1 : Int32) then (1 : Int32) else (if (F1 ((F2 (x1 &&& (255 : Int32))).toUInt32.toUInt16.toUInt32.toInt32)) = (x1 &&& (255 : Int32)) then (1 : Int32) else (0 : Int32))) else (if (F2 (x1 &&& (255 : Int32))) = (-1 : Int32) then (0 : Int32) else (if (F1 ((F2 (x1 &&& (255 : Int32))).toUInt32.toUInt16.toUInt32.toInt32)) = (x1 &&& (255 : Int32)) then (0 : Int32) else (0 : Int32))))))
def Q0 (Z : State) (x0 : Int32) (x1 : Int32) (h0 : Heap) (n0 : Nat) (vE : Option Value) (hE : Heap) (LE : List Loc) : Prop := vE = some (.int (F0 x0 x1)) ∧ Fr n0 LE
set_option maxRecDepth 65536 in
set_option maxHeartbeats 40000000 in
theorem rm0 (l : Launch) (Z : State) (a0 : Array Value) (hw : ∀ d ∈ tables_1, d.before a0 Z = true) (ws : List Jvm.Cond) (x0 : Int32) (x1 : Int32) (h0 : Heap) (n0 : Nat) (Z0 : n0 ≤ h0.size) :
    MetFree l x (head1 (Jvm.Cond.code x code maxLocals ret :: ws) room_1) (fun a U => a = #[(.int x0), (.int x1)] ∧ Z.Warmed39 U.vm ∧ U.heap = h0) (fun _ _ _ _ _ => True) (fun _ U o U' => ∃ vE LE, o = .returned vE ∧ Q0 Z x0 x1 h0 n0 vE U'.heap LE ∧ FrameEnd U o U' LE room_1.cells room_1.slots) := by
  refine MetFree.of_bodySF (plainFor_of_name pn_1) hisR ?_
  intro p e s m args below meth c s₁ Bd hml0 hP hK
  obtain ⟨rfl, hZ, hh⟩ := hP
  have hx := Bd.exec
  have hby := Bd.bytes
  have hml : c.maxLocals = 8 := hml0
  have hown : s.vm.findClass "com/example/escritural/escritural/pdf/WinAnsiCodePinLaw" = some m.cls := findClass_of_methodNamed Bd.named
  have hnm := (name_of_methodNamed Bd.named Bd.method).1
  have X0 : Stand p l e room_1 s m #[(.int x0), (.int x1)] below meth c s₁ [] 0 0 := Stand.of_body Bd
  have e0 : s₁.heap = h0 := by rw [← hh, Bd.state]; rfl
  have N0 := Fr.nil n0
  have st0 : Steps p.tables e below (s₁.setTop (entryFrame m #[(.int x0), (.int x1)] maxLocals)) (s₁.setTop (mkF m 0 #[.val (.int x0), .val (.int x1), .unset, .unset, .unset, .unset, .unset, .unset] [])) := castTop (ef_0 m x0 x1) (Steps.refl _)
  have st1 : Steps p.tables e below (s₁.setTop (entryFrame m #[(.int x0), (.int x1)] maxLocals)) (s₁.setTop (mkF m 4 #[.val (.int x0), .val (.int x1), .val (.int (x0.toUInt32.toUInt16.toUInt32.toInt32)), .unset, .unset, .unset, .unset, .unset] [(.int (x0.toUInt32.toUInt16.toUInt32.toInt32))])) := st0.trans (by
      show Steps p.tables e below (s₁.setTop (mkF m 0 #[.val (.int x0), .val (.int x1), .unset, .unset, .unset, .unset, .unset, .unset] [])) _
      refine XS.iloadN X0.here hx rfl (hb hby at_0) rfl ?_
      show Steps p.tables e below (s₁.setTop (mkF m 1 #[.val (.int x0), .val (.int x1), .unset, .unset, .unset, .unset, .unset, .unset] [(.int x0)])) _
      refine XS.i2c X0.here hx rfl (hb hby at_1) rfl ?_
      show Steps p.tables e below (s₁.setTop (mkF m 2 #[.val (.int x0), .val (.int x1), .unset, .unset, .unset, .unset, .unset, .unset] [(.int (x0.toUInt32.toUInt16.toUInt32.toInt32))])) _
      refine XS.istoreN X0.here hx rfl (hb hby at_2) rfl (l' := #[.val (.int x0), .val (.int x1), .val (.int (x0.toUInt32.toUInt16.toUInt32.toInt32)), .unset, .unset, .unset, .unset, .unset]) rfl ?_
      show Steps p.tables e below (s₁.setTop (mkF m 3 #[.val (.int x0), .val (.int x1), .val (.int (x0.toUInt32.toUInt16.toUInt32.toInt32)), .unset, .unset, .unset, .unset, .unset] [])) _
      refine XS.iloadN X0.here hx rfl (hb hby at_3) rfl ?_
      exact Steps.refl _)
  obtain ⟨_, _, ⟨T2, L2, k2, n2⟩, -, X2, ⟨Lc2, hQ2, l2, y2, z2⟩, sr2⟩ := Jvm.LawKit.callS X0 hx (y := (⟨"com/example/escritural/escritural/pdf/WinAnsi", "code", "(C)I"⟩ : MethodName)) hown (mvT hZ (hw _ (List.mem_of_getElem? (i := 0) rfl))) (mvT hZ (hw _ (List.mem_of_getElem? (i := 1) rfl))) (mvT hZ (hw _ (List.mem_of_getElem? (i := 2) rfl))) (mvT hZ (hw _ (List.mem_of_getElem? (i := 3) rfl))) (by decide) (backOf (W := 0) (rm1 l Z a0 hw [] (x0.toUInt32.toUInt16.toUInt32.toInt32)  h0 n0 Z0 ) hZ (hw _ (List.mem_of_getElem? (i := 3) rfl)) (hw _ (List.mem_of_getElem? (i := 2) rfl)) (by decide) (by decide)) (g := (mkF m 4 #[.val (.int x0), .val (.int x1), .val (.int (x0.toUInt32.toUInt16.toUInt32.toInt32)), .unset, .unset, .unset, .unset, .unset] [(.int (x0.toUInt32.toUInt16.toUInt32.toInt32))])) rfl (by rw [hml]; rfl) (argsL := [(.int (x0.toUInt32.toUInt16.toUInt32.toInt32))]) (rest := []) (lenOf pd_0 rfl) rfl (by show 2 * 0 + _ ≤ _; exact Nat.le_of_eq rfl) (hb hby at_4) (fun _ _ => ⟨rfl, e0, (by decide : 0 + 0 ≤ _), (by decide : 0 + 0 ≤ _)⟩)
  dsimp only [Pt.U, Pt.locs, Pt.cells, Pt.slots] at X2 l2 y2 z2 sr2 hQ2
  subst l2 y2 z2
  obtain ⟨rfl, N2q, hh2⟩ := hQ2
  have N2 := Fr.app N0 N2q
  have st3 : Steps p.tables e below (s₁.setTop (entryFrame m #[(.int x0), (.int x1)] maxLocals)) (T2.setTop (mkF m 7 #[.val (.int x0), .val (.int x1), .val (.int (x0.toUInt32.toUInt16.toUInt32.toInt32)), .unset, .unset, .unset, .unset, .unset] [(.int (F1 (x0.toUInt32.toUInt16.toUInt32.toInt32)))])) := st1.trans (sr2 _ (Steps.refl _))
  have st4 : Steps p.tables e below (s₁.setTop (entryFrame m #[(.int x0), (.int x1)] maxLocals)) (T2.setTop (mkF m 10 #[.val (.int x0), .val (.int x1), .val (.int (x0.toUInt32.toUInt16.toUInt32.toInt32)), .val (.int (F1 (x0.toUInt32.toUInt16.toUInt32.toInt32))), .unset, .unset, .unset, .unset] [(.int (-1 : Int32)), (.int (F1 (x0.toUInt32.toUInt16.toUInt32.toInt32)))])) := st3.trans (by
      show Steps p.tables e below (T2.setTop (mkF m 7 #[.val (.int x0), .val (.int x1), .val (.int (x0.toUInt32.toUInt16.toUInt32.toInt32)), .unset, .unset, .unset, .unset, .unset] [(.int (F1 (x0.toUInt32.toUInt16.toUInt32.toInt32)))])) _
      refine XS.istoreN X2.here hx rfl (hb hby at_7) rfl (l' := #[.val (.int x0), .val (.int x1), .val (.int (x0.toUInt32.toUInt16.toUInt32.toInt32)), .val (.int (F1 (x0.toUInt32.toUInt16.toUInt32.toInt32))), .unset, .unset, .unset, .unset]) rfl ?_
      show Steps p.tables e below (T2.setTop (mkF m 8 #[.val (.int x0), .val (.int x1), .val (.int (x0.toUInt32.toUInt16.toUInt32.toInt32)), .val (.int (F1 (x0.toUInt32.toUInt16.toUInt32.toInt32))), .unset, .unset, .unset, .unset] [])) _
      refine XS.iloadN X2.here hx rfl (hb hby at_8) rfl ?_
      show Steps p.tables e below (T2.setTop (mkF m 9 #[.val (.int x0), .val (.int x1), .val (.int (x0.toUInt32.toUInt16.toUInt32.toInt32)), .val (.int (F1 (x0.toUInt32.toUInt16.toUInt32.toInt32))), .unset, .unset, .unset, .unset] [(.int (F1 (x0.toUInt32.toUInt16.toUInt32.toInt32)))])) _
      refine XS.iconst X2.here hx rfl (hb hby at_9) ?_
      exact Steps.refl _)
  by_cases hc5 : (F1 (x0.toUInt32.toUInt16.toUInt32.toInt32)) = (-1 : Int32)
  · have st6 : Steps p.tables e below (s₁.setTop (entryFrame m #[(.int x0), (.int x1)] maxLocals)) (T2.setTop (mkF m 48 #[.val (.int x0), .val (.int x1), .val (.int (x0.toUInt32.toUInt16.toUInt32.toInt32)), .val (.int (F1 (x0.toUInt32.toUInt16.toUInt32.toInt32))), .val (.int (1 : Int32)), .val (.int (x1 &&& (255 : Int32))), .unset, .unset] [(.int (x1 &&& (255 : Int32)))])) := st4.trans (by
        show Steps p.tables e below (T2.setTop (mkF m 10 #[.val (.int x0), .val (.int x1), .val (.int (x0.toUInt32.toUInt16.toUInt32.toInt32)), .val (.int (F1 (x0.toUInt32.toUInt16.toUInt32.toInt32))), .unset, .unset, .unset, .unset] [(.int (-1 : Int32)), (.int (F1 (x0.toUInt32.toUInt16.toUInt32.toInt32)))])) _
        refine XS.icmpYes X2.here hx rfl (pc0 := 10) (pc' := 32) rfl (hb hby at_10) rfl (teq hc5).1 (by decide) (by decide) ?_
        show Steps p.tables e below (T2.setTop (mkF m 32 #[.val (.int x0), .val (.int x1), .val (.int (x0.toUInt32.toUInt16.toUInt32.toInt32)), .val (.int (F1 (x0.toUInt32.toUInt16.toUInt32.toInt32))), .unset, .unset, .unset, .unset] [])) _
        refine XS.iconst X2.here hx rfl (hb hby at_32) ?_
        show Steps p.tables e below (T2.setTop (mkF m 33 #[.val (.int x0), .val (.int x1), .val (.int (x0.toUInt32.toUInt16.toUInt32.toInt32)), .val (.int (F1 (x0.toUInt32.toUInt16.toUInt32.toInt32))), .unset, .unset, .unset, .unset] [(.int (1 : Int32))])) _
        refine XS.goto X2.here hx rfl (pc0 := 33) (pc' := 37) rfl (hb hby at_33) (by decide) (by decide) ?_
        show Steps p.tables e below (T2.setTop (mkF m 37 #[.val (.int x0), .val (.int x1), .val (.int (x0.toUInt32.toUInt16.toUInt32.toInt32)), .val (.int (F1 (x0.toUInt32.toUInt16.toUInt32.toInt32))), .unset, .unset, .unset, .unset] [(.int (1 : Int32))])) _
        refine XS.istore X2.here hx rfl (hb hby at_37) rfl (l' := #[.val (.int x0), .val (.int x1), .val (.int (x0.toUInt32.toUInt16.toUInt32.toInt32)), .val (.int (F1 (x0.toUInt32.toUInt16.toUInt32.toInt32))), .val (.int (1 : Int32)), .unset, .unset, .unset]) rfl ?_
        show Steps p.tables e below (T2.setTop (mkF m 39 #[.val (.int x0), .val (.int x1), .val (.int (x0.toUInt32.toUInt16.toUInt32.toInt32)), .val (.int (F1 (x0.toUInt32.toUInt16.toUInt32.toInt32))), .val (.int (1 : Int32)), .unset, .unset, .unset] [])) _
        refine XS.iloadN X2.here hx rfl (hb hby at_39) rfl ?_
        show Steps p.tables e below (T2.setTop (mkF m 40 #[.val (.int x0), .val (.int x1), .val (.int (x0.toUInt32.toUInt16.toUInt32.toInt32)), .val (.int (F1 (x0.toUInt32.toUInt16.toUInt32.toInt32))), .val (.int (1 : Int32)), .unset, .unset, .unset] [(.int x1)])) _
        refine XS.sipush X2.here hx rfl (hb hby at_40) ?_
        show Steps p.tables e below (T2.setTop (mkF m 43 #[.val (.int x0), .val (.int x1), .val (.int (x0.toUInt32.toUInt16.toUInt32.toInt32)), .val (.int (F1 (x0.toUInt32.toUInt16.toUInt32.toInt32))), .val (.int (1 : Int32)), .unset, .unset, .unset] [(.int (255 : Int32)), (.int x1)])) _
        refine XS.iand X2.here hx rfl (hb hby at_43) rfl ?_
        show Steps p.tables e below (T2.setTop (mkF m 44 #[.val (.int x0), .val (.int x1), .val (.int (x0.toUInt32.toUInt16.toUInt32.toInt32)), .val (.int (F1 (x0.toUInt32.toUInt16.toUInt32.toInt32))), .val (.int (1 : Int32)), .unset, .unset, .unset] [(.int (x1 &&& (255 : Int32)))])) _
        refine XS.istore X2.here hx rfl (hb hby at_44) rfl (l' := #[.val (.int x0), .val (.int x1), .val (.int (x0.toUInt32.toUInt16.toUInt32.toInt32)), .val (.int (F1 (x0.toUInt32.toUInt16.toUInt32.toInt32))), .val (.int (1 : Int32)), .val (.int (x1 &&& (255 : Int32))), .unset, .unset]) rfl ?_
        show Steps p.tables e below (T2.setTop (mkF m 46 #[.val (.int x0), .val (.int x1), .val (.int (x0.toUInt32.toUInt16.toUInt32.toInt32)), .val (.int (F1 (x0.toUInt32.toUInt16.toUInt32.toInt32))), .val (.int (1 : Int32)), .val (.int (x1 &&& (255 : Int32))), .unset, .unset] [])) _
        refine XS.iload X2.here hx rfl (hb hby at_46) rfl ?_
        exact Steps.refl _)
    obtain ⟨_, _, ⟨T7, L7, k7, n7⟩, -, X7, ⟨Lc7, hQ7, l7, y7, z7⟩, sr7⟩ := Jvm.LawKit.callS X2 hx (y := (⟨"com/example/escritural/escritural/pdf/WinAnsiCodePinLaw", "decode", "(I)I"⟩ : MethodName)) hown (mvT hZ (hw _ (List.mem_of_getElem? (i := 4) rfl))) (mvT hZ (hw _ (List.mem_of_getElem? (i := 5) rfl))) (mvT hZ (hw _ (List.mem_of_getElem? (i := 6) rfl))) (mvT hZ (hw _ (List.mem_of_getElem? (i := 7) rfl))) (by decide) (backOf (W := 0) (rm2 l Z a0 hw [] (x1 &&& (255 : Int32))  h0 n0 Z0 ) hZ (hw _ (List.mem_of_getElem? (i := 7) rfl)) (hw _ (List.mem_of_getElem? (i := 6) rfl)) (by decide) (by decide)) (g := (mkF m 48 #[.val (.int x0), .val (.int x1), .val (.int (x0.toUInt32.toUInt16.toUInt32.toInt32)), .val (.int (F1 (x0.toUInt32.toUInt16.toUInt32.toInt32))), .val (.int (1 : Int32)), .val (.int (x1 &&& (255 : Int32))), .unset, .unset] [(.int (x1 &&& (255 : Int32)))])) rfl (by rw [hml]; rfl) (argsL := [(.int (x1 &&& (255 : Int32)))]) (rest := []) (lenOf pd_1 rfl) rfl (by show 2 * 0 + _ ≤ _; exact Nat.le_of_eq rfl) (hb hby at_48) (fun _ _ => ⟨rfl, hh2, (by decide : 0 + 0 ≤ _), (by decide : 0 + 0 ≤ _)⟩)
    dsimp only [Pt.U, Pt.locs, Pt.cells, Pt.slots] at X7 l7 y7 z7 sr7 hQ7
    subst l7 y7 z7
    obtain ⟨rfl, N7q, hh7⟩ := hQ7
    have N7 := Fr.app N2 N7q
    have st8 : Steps p.tables e below (s₁.setTop (entryFrame m #[(.int x0), (.int x1)] maxLocals)) (T7.setTop (mkF m 51 #[.val (.int x0), .val (.int x1), .val (.int (x0.toUInt32.toUInt16.toUInt32.toInt32)), .val (.int (F1 (x0.toUInt32.toUInt16.toUInt32.toInt32))), .val (.int (1 : Int32)), .val (.int (x1 &&& (255 : Int32))), .unset, .unset] [(.int (F2 (x1 &&& (255 : Int32))))])) := st6.trans (sr7 _ (Steps.refl _))
    have st9 : Steps p.tables e below (s₁.setTop (entryFrame m #[(.int x0), (.int x1)] maxLocals)) (T7.setTop (mkF m 56 #[.val (.int x0), .val (.int x1), .val (.int (x0.toUInt32.toUInt16.toUInt32.toInt32)), .val (.int (F1 (x0.toUInt32.toUInt16.toUInt32.toInt32))), .val (.int (1 : Int32)), .val (.int (x1 &&& (255 : Int32))), .val (.int (F2 (x1 &&& (255 : Int32)))), .unset] [(.int (-1 : Int32)), (.int (F2 (x1 &&& (255 : Int32))))])) := st8.trans (by
        show Steps p.tables e below (T7.setTop (mkF m 51 #[.val (.int x0), .val (.int x1), .val (.int (x0.toUInt32.toUInt16.toUInt32.toInt32)), .val (.int (F1 (x0.toUInt32.toUInt16.toUInt32.toInt32))), .val (.int (1 : Int32)), .val (.int (x1 &&& (255 : Int32))), .unset, .unset] [(.int (F2 (x1 &&& (255 : Int32))))])) _
        refine XS.istore X7.here hx rfl (hb hby at_51) rfl (l' := #[.val (.int x0), .val (.int x1), .val (.int (x0.toUInt32.toUInt16.toUInt32.toInt32)), .val (.int (F1 (x0.toUInt32.toUInt16.toUInt32.toInt32))), .val (.int (1 : Int32)), .val (.int (x1 &&& (255 : Int32))), .val (.int (F2 (x1 &&& (255 : Int32)))), .unset]) rfl ?_
        show Steps p.tables e below (T7.setTop (mkF m 53 #[.val (.int x0), .val (.int x1), .val (.int (x0.toUInt32.toUInt16.toUInt32.toInt32)), .val (.int (F1 (x0.toUInt32.toUInt16.toUInt32.toInt32))), .val (.int (1 : Int32)), .val (.int (x1 &&& (255 : Int32))), .val (.int (F2 (x1 &&& (255 : Int32)))), .unset] [])) _
        refine XS.iload X7.here hx rfl (hb hby at_53) rfl ?_
        show Steps p.tables e below (T7.setTop (mkF m 55 #[.val (.int x0), .val (.int x1), .val (.int (x0.toUInt32.toUInt16.toUInt32.toInt32)), .val (.int (F1 (x0.toUInt32.toUInt16.toUInt32.toInt32))), .val (.int (1 : Int32)), .val (.int (x1 &&& (255 : Int32))), .val (.int (F2 (x1 &&& (255 : Int32)))), .unset] [(.int (F2 (x1 &&& (255 : Int32))))])) _
        refine XS.iconst X7.here hx rfl (hb hby at_55) ?_
        exact Steps.refl _)
    by_cases hc10 : (F2 (x1 &&& (255 : Int32))) = (-1 : Int32)
    · have st11 : Steps p.tables e below (s₁.setTop (entryFrame m #[(.int x0), (.int x1)] maxLocals)) (T7.setTop (mkF m 79 #[.val (.int x0), .val (.int x1), .val (.int (x0.toUInt32.toUInt16.toUInt32.toInt32)), .val (.int (F1 (x0.toUInt32.toUInt16.toUInt32.toInt32))), .val (.int (1 : Int32)), .val (.int (x1 &&& (255 : Int32))), .val (.int (F2 (x1 &&& (255 : Int32)))), .val (.int (1 : Int32))] [(.int (1 : Int32))])) := st9.trans (by
          show Steps p.tables e below (T7.setTop (mkF m 56 #[.val (.int x0), .val (.int x1), .val (.int (x0.toUInt32.toUInt16.toUInt32.toInt32)), .val (.int (F1 (x0.toUInt32.toUInt16.toUInt32.toInt32))), .val (.int (1 : Int32)), .val (.int (x1 &&& (255 : Int32))), .val (.int (F2 (x1 &&& (255 : Int32)))), .unset] [(.int (-1 : Int32)), (.int (F2 (x1 &&& (255 : Int32))))])) _
          refine XS.icmpYes X7.here hx rfl (pc0 := 56) (pc' := 70) rfl (hb hby at_56) rfl (teq hc10).1 (by decide) (by decide) ?_
          show Steps p.tables e below (T7.setTop (mkF m 70 #[.val (.int x0), .val (.int x1), .val (.int (x0.toUInt32.toUInt16.toUInt32.toInt32)), .val (.int (F1 (x0.toUInt32.toUInt16.toUInt32.toInt32))), .val (.int (1 : Int32)), .val (.int (x1 &&& (255 : Int32))), .val (.int (F2 (x1 &&& (255 : Int32)))), .unset] [])) _
          refine XS.iconst X7.here hx rfl (hb hby at_70) ?_
          show Steps p.tables e below (T7.setTop (mkF m 71 #[.val (.int x0), .val (.int x1), .val (.int (x0.toUInt32.toUInt16.toUInt32.toInt32)), .val (.int (F1 (x0.toUInt32.toUInt16.toUInt32.toInt32))), .val (.int (1 : Int32)), .val (.int (x1 &&& (255 : Int32))), .val (.int (F2 (x1 &&& (255 : Int32)))), .unset] [(.int (1 : Int32))])) _
          refine XS.goto X7.here hx rfl (pc0 := 71) (pc' := 75) rfl (hb hby at_71) (by decide) (by decide) ?_
          show Steps p.tables e below (T7.setTop (mkF m 75 #[.val (.int x0), .val (.int x1), .val (.int (x0.toUInt32.toUInt16.toUInt32.toInt32)), .val (.int (F1 (x0.toUInt32.toUInt16.toUInt32.toInt32))), .val (.int (1 : Int32)), .val (.int (x1 &&& (255 : Int32))), .val (.int (F2 (x1 &&& (255 : Int32)))), .unset] [(.int (1 : Int32))])) _
          refine XS.istore X7.here hx rfl (hb hby at_75) rfl (l' := #[.val (.int x0), .val (.int x1), .val (.int (x0.toUInt32.toUInt16.toUInt32.toInt32)), .val (.int (F1 (x0.toUInt32.toUInt16.toUInt32.toInt32))), .val (.int (1 : Int32)), .val (.int (x1 &&& (255 : Int32))), .val (.int (F2 (x1 &&& (255 : Int32)))), .val (.int (1 : Int32))]) rfl ?_
          show Steps p.tables e below (T7.setTop (mkF m 77 #[.val (.int x0), .val (.int x1), .val (.int (x0.toUInt32.toUInt16.toUInt32.toInt32)), .val (.int (F1 (x0.toUInt32.toUInt16.toUInt32.toInt32))), .val (.int (1 : Int32)), .val (.int (x1 &&& (255 : Int32))), .val (.int (F2 (x1 &&& (255 : Int32)))), .val (.int (1 : Int32))] [])) _
          refine XS.iload X7.here hx rfl (hb hby at_77) rfl ?_
          exact Steps.refl _)
      have hf12 : ¬ ((1 : Int32) = (0 : Int32)) := by decide
      have st13 : Steps p.tables e below (s₁.setTop (entryFrame m #[(.int x0), (.int x1)] maxLocals)) (T7.setTop (mkF m 84 #[.val (.int x0), .val (.int x1), .val (.int (x0.toUInt32.toUInt16.toUInt32.toInt32)), .val (.int (F1 (x0.toUInt32.toUInt16.toUInt32.toInt32))), .val (.int (1 : Int32)), .val (.int (x1 &&& (255 : Int32))), .val (.int (F2 (x1 &&& (255 : Int32)))), .val (.int (1 : Int32))] [(.int (1 : Int32))])) := st11.trans (by
          show Steps p.tables e below (T7.setTop (mkF m 79 #[.val (.int x0), .val (.int x1), .val (.int (x0.toUInt32.toUInt16.toUInt32.toInt32)), .val (.int (F1 (x0.toUInt32.toUInt16.toUInt32.toInt32))), .val (.int (1 : Int32)), .val (.int (x1 &&& (255 : Int32))), .val (.int (F2 (x1 &&& (255 : Int32)))), .val (.int (1 : Int32))] [(.int (1 : Int32))])) _
          refine XS.ifNo X7.here hx rfl (hb hby at_79) rfl ((if0 _ _).trans (feq hf12).1) ?_
          show Steps p.tables e below (T7.setTop (mkF m 82 #[.val (.int x0), .val (.int x1), .val (.int (x0.toUInt32.toUInt16.toUInt32.toInt32)), .val (.int (F1 (x0.toUInt32.toUInt16.toUInt32.toInt32))), .val (.int (1 : Int32)), .val (.int (x1 &&& (255 : Int32))), .val (.int (F2 (x1 &&& (255 : Int32)))), .val (.int (1 : Int32))] [])) _
          refine XS.iload X7.here hx rfl (hb hby at_82) rfl ?_
          exact Steps.refl _)
      have hf14 : ¬ ((1 : Int32) = (0 : Int32)) := by decide
      have st15 : Steps p.tables e below (s₁.setTop (entryFrame m #[(.int x0), (.int x1)] maxLocals)) (T7.setTop (mkF m 92 #[.val (.int x0), .val (.int x1), .val (.int (x0.toUInt32.toUInt16.toUInt32.toInt32)), .val (.int (F1 (x0.toUInt32.toUInt16.toUInt32.toInt32))), .val (.int (1 : Int32)), .val (.int (x1 &&& (255 : Int32))), .val (.int (F2 (x1 &&& (255 : Int32)))), .val (.int (1 : Int32))] [(.int (1 : Int32))])) := st13.trans (by
          show Steps p.tables e below (T7.setTop (mkF m 84 #[.val (.int x0), .val (.int x1), .val (.int (x0.toUInt32.toUInt16.toUInt32.toInt32)), .val (.int (F1 (x0.toUInt32.toUInt16.toUInt32.toInt32))), .val (.int (1 : Int32)), .val (.int (x1 &&& (255 : Int32))), .val (.int (F2 (x1 &&& (255 : Int32)))), .val (.int (1 : Int32))] [(.int (1 : Int32))])) _
          refine XS.ifNo X7.here hx rfl (hb hby at_84) rfl ((if0 _ _).trans (feq hf14).1) ?_
          show Steps p.tables e below (T7.setTop (mkF m 87 #[.val (.int x0), .val (.int x1), .val (.int (x0.toUInt32.toUInt16.toUInt32.toInt32)), .val (.int (F1 (x0.toUInt32.toUInt16.toUInt32.toInt32))), .val (.int (1 : Int32)), .val (.int (x1 &&& (255 : Int32))), .val (.int (F2 (x1 &&& (255 : Int32)))), .val (.int (1 : Int32))] [])) _
          refine XS.iconst X7.here hx rfl (hb hby at_87) ?_
          show Steps p.tables e below (T7.setTop (mkF m 88 #[.val (.int x0), .val (.int x1), .val (.int (x0.toUInt32.toUInt16.toUInt32.toInt32)), .val (.int (F1 (x0.toUInt32.toUInt16.toUInt32.toInt32))), .val (.int (1 : Int32)), .val (.int (x1 &&& (255 : Int32))), .val (.int (F2 (x1 &&& (255 : Int32)))), .val (.int (1 : Int32))] [(.int (1 : Int32))])) _
          refine XS.goto X7.here hx rfl (pc0 := 88) (pc' := 92) rfl (hb hby at_88) (by decide) (by decide) ?_
          exact Steps.refl _)
      obtain ⟨fs, hr, hrun, hended, hW, hsame⟩ := X7.leave (v := some (.int (1 : Int32))) (fun h => by rw [Bd.returns] at h; cases h)
      refine ⟨_, _, st15.trans ?_, hrun, hended, _, _, rfl, ?_, ⟨_, rfl⟩, hW, hsame.mono (by decide) (by decide)⟩
      · exact retN X7 hx (t := .boolean) Bd.returns (by simp) (hb hby at_92) hr
      · show Q0 Z x0 x1 h0 n0 _ T7.heap _
        rw [hh7]
        exact ⟨by rw [F0, if_pos hc5, if_pos hc10], N7⟩
    · have st16 : Steps p.tables e below (s₁.setTop (entryFrame m #[(.int x0), (.int x1)] maxLocals)) (T7.setTop (mkF m 62 #[.val (.int x0), .val (.int x1), .val (.int (x0.toUInt32.toUInt16.toUInt32.toInt32)), .val (.int (F1 (x0.toUInt32.toUInt16.toUInt32.toInt32))), .val (.int (1 : Int32)), .val (.int (x1 &&& (255 : Int32))), .val (.int (F2 (x1 &&& (255 : Int32)))), .unset] [(.int ((F2 (x1 &&& (255 : Int32))).toUInt32.toUInt16.toUInt32.toInt32))])) := st9.trans (by
          show Steps p.tables e below (T7.setTop (mkF m 56 #[.val (.int x0), .val (.int x1), .val (.int (x0.toUInt32.toUInt16.toUInt32.toInt32)), .val (.int (F1 (x0.toUInt32.toUInt16.toUInt32.toInt32))), .val (.int (1 : Int32)), .val (.int (x1 &&& (255 : Int32))), .val (.int (F2 (x1 &&& (255 : Int32)))), .unset] [(.int (-1 : Int32)), (.int (F2 (x1 &&& (255 : Int32))))])) _
          refine XS.icmpNo X7.here hx rfl (hb hby at_56) rfl (feq hc10).1 ?_
          show Steps p.tables e below (T7.setTop (mkF m 59 #[.val (.int x0), .val (.int x1), .val (.int (x0.toUInt32.toUInt16.toUInt32.toInt32)), .val (.int (F1 (x0.toUInt32.toUInt16.toUInt32.toInt32))), .val (.int (1 : Int32)), .val (.int (x1 &&& (255 : Int32))), .val (.int (F2 (x1 &&& (255 : Int32)))), .unset] [])) _
          refine XS.iload X7.here hx rfl (hb hby at_59) rfl ?_
          show Steps p.tables e below (T7.setTop (mkF m 61 #[.val (.int x0), .val (.int x1), .val (.int (x0.toUInt32.toUInt16.toUInt32.toInt32)), .val (.int (F1 (x0.toUInt32.toUInt16.toUInt32.toInt32))), .val (.int (1 : Int32)), .val (.int (x1 &&& (255 : Int32))), .val (.int (F2 (x1 &&& (255 : Int32)))), .unset] [(.int (F2 (x1 &&& (255 : Int32))))])) _
          refine XS.i2c X7.here hx rfl (hb hby at_61) rfl ?_
          exact Steps.refl _)
      obtain ⟨_, _, ⟨T17, L17, k17, n17⟩, -, X17, ⟨Lc17, hQ17, l17, y17, z17⟩, sr17⟩ := Jvm.LawKit.callS X7 hx (y := (⟨"com/example/escritural/escritural/pdf/WinAnsi", "code", "(C)I"⟩ : MethodName)) hown (mvT hZ (hw _ (List.mem_of_getElem? (i := 0) rfl))) (mvT hZ (hw _ (List.mem_of_getElem? (i := 1) rfl))) (mvT hZ (hw _ (List.mem_of_getElem? (i := 2) rfl))) (mvT hZ (hw _ (List.mem_of_getElem? (i := 3) rfl))) (by decide) (backOf (W := 0) (rm1 l Z a0 hw [] ((F2 (x1 &&& (255 : Int32))).toUInt32.toUInt16.toUInt32.toInt32)  h0 n0 Z0 ) hZ (hw _ (List.mem_of_getElem? (i := 3) rfl)) (hw _ (List.mem_of_getElem? (i := 2) rfl)) (by decide) (by decide)) (g := (mkF m 62 #[.val (.int x0), .val (.int x1), .val (.int (x0.toUInt32.toUInt16.toUInt32.toInt32)), .val (.int (F1 (x0.toUInt32.toUInt16.toUInt32.toInt32))), .val (.int (1 : Int32)), .val (.int (x1 &&& (255 : Int32))), .val (.int (F2 (x1 &&& (255 : Int32)))), .unset] [(.int ((F2 (x1 &&& (255 : Int32))).toUInt32.toUInt16.toUInt32.toInt32))])) rfl (by rw [hml]; rfl) (argsL := [(.int ((F2 (x1 &&& (255 : Int32))).toUInt32.toUInt16.toUInt32.toInt32))]) (rest := []) (lenOf pd_0 rfl) rfl (by show 2 * 0 + _ ≤ _; exact Nat.le_of_eq rfl) (hb hby at_62) (fun _ _ => ⟨rfl, hh7, (by decide : 0 + 0 ≤ _), (by decide : 0 + 0 ≤ _)⟩)
      dsimp only [Pt.U, Pt.locs, Pt.cells, Pt.slots] at X17 l17 y17 z17 sr17 hQ17
      subst l17 y17 z17
      obtain ⟨rfl, N17q, hh17⟩ := hQ17
      have N17 := Fr.app N7 N17q
      have st18 : Steps p.tables e below (s₁.setTop (entryFrame m #[(.int x0), (.int x1)] maxLocals)) (T17.setTop (mkF m 65 #[.val (.int x0), .val (.int x1), .val (.int (x0.toUInt32.toUInt16.toUInt32.toInt32)), .val (.int (F1 (x0.toUInt32.toUInt16.toUInt32.toInt32))), .val (.int (1 : Int32)), .val (.int (x1 &&& (255 : Int32))), .val (.int (F2 (x1 &&& (255 : Int32)))), .unset] [(.int (F1 ((F2 (x1 &&& (255 : Int32))).toUInt32.toUInt16.toUInt32.toInt32)))])) := st16.trans (sr17 _ (Steps.refl _))
      have st19 : Steps p.tables e below (s₁.setTop (entryFrame m #[(.int x0), (.int x1)] maxLocals)) (T17.setTop (mkF m 67 #[.val (.int x0), .val (.int x1), .val (.int (x0.toUInt32.toUInt16.toUInt32.toInt32)), .val (.int (F1 (x0.toUInt32.toUInt16.toUInt32.toInt32))), .val (.int (1 : Int32)), .val (.int (x1 &&& (255 : Int32))), .val (.int (F2 (x1 &&& (255 : Int32)))), .unset] [(.int (x1 &&& (255 : Int32))), (.int (F1 ((F2 (x1 &&& (255 : Int32))).toUInt32.toUInt16.toUInt32.toInt32)))])) := st18.trans (by
          show Steps p.tables e below (T17.setTop (mkF m 65 #[.val (.int x0), .val (.int x1), .val (.int (x0.toUInt32.toUInt16.toUInt32.toInt32)), .val (.int (F1 (x0.toUInt32.toUInt16.toUInt32.toInt32))), .val (.int (1 : Int32)), .val (.int (x1 &&& (255 : Int32))), .val (.int (F2 (x1 &&& (255 : Int32)))), .unset] [(.int (F1 ((F2 (x1 &&& (255 : Int32))).toUInt32.toUInt16.toUInt32.toInt32)))])) _
          refine XS.iload X17.here hx rfl (hb hby at_65) rfl ?_
          exact Steps.refl _)
      by_cases hc20 : (F1 ((F2 (x1 &&& (255 : Int32))).toUInt32.toUInt16.toUInt32.toInt32)) = (x1 &&& (255 : Int32))
      · have st21 : Steps p.tables e below (s₁.setTop (entryFrame m #[(.int x0), (.int x1)] maxLocals)) (T17.setTop (mkF m 79 #[.val (.int x0), .val (.int x1), .val (.int (x0.toUInt32.toUInt16.toUInt32.toInt32)), .val (.int (F1 (x0.toUInt32.toUInt16.toUInt32.toInt32))), .val (.int (1 : Int32)), .val (.int (x1 &&& (255 : Int32))), .val (.int (F2 (x1 &&& (255 : Int32)))), .val (.int (1 : Int32))] [(.int (1 : Int32))])) := st19.trans (by
            show Steps p.tables e below (T17.setTop (mkF m 67 #[.val (.int x0), .val (.int x1), .val (.int (x0.toUInt32.toUInt16.toUInt32.toInt32)), .val (.int (F1 (x0.toUInt32.toUInt16.toUInt32.toInt32))), .val (.int (1 : Int32)), .val (.int (x1 &&& (255 : Int32))), .val (.int (F2 (x1 &&& (255 : Int32)))), .unset] [(.int (x1 &&& (255 : Int32))), (.int (F1 ((F2 (x1 &&& (255 : Int32))).toUInt32.toUInt16.toUInt32.toInt32)))])) _
            refine XS.icmpNo X17.here hx rfl (hb hby at_67) rfl (teq hc20).2 ?_
            show Steps p.tables e below (T17.setTop (mkF m 70 #[.val (.int x0), .val (.int x1), .val (.int (x0.toUInt32.toUInt16.toUInt32.toInt32)), .val (.int (F1 (x0.toUInt32.toUInt16.toUInt32.toInt32))), .val (.int (1 : Int32)), .val (.int (x1 &&& (255 : Int32))), .val (.int (F2 (x1 &&& (255 : Int32)))), .unset] [])) _
            refine XS.iconst X17.here hx rfl (hb hby at_70) ?_
            show Steps p.tables e below (T17.setTop (mkF m 71 #[.val (.int x0), .val (.int x1), .val (.int (x0.toUInt32.toUInt16.toUInt32.toInt32)), .val (.int (F1 (x0.toUInt32.toUInt16.toUInt32.toInt32))), .val (.int (1 : Int32)), .val (.int (x1 &&& (255 : Int32))), .val (.int (F2 (x1 &&& (255 : Int32)))), .unset] [(.int (1 : Int32))])) _
            refine XS.goto X17.here hx rfl (pc0 := 71) (pc' := 75) rfl (hb hby at_71) (by decide) (by decide) ?_
            show Steps p.tables e below (T17.setTop (mkF m 75 #[.val (.int x0), .val (.int x1), .val (.int (x0.toUInt32.toUInt16.toUInt32.toInt32)), .val (.int (F1 (x0.toUInt32.toUInt16.toUInt32.toInt32))), .val (.int (1 : Int32)), .val (.int (x1 &&& (255 : Int32))), .val (.int (F2 (x1 &&& (255 : Int32)))), .unset] [(.int (1 : Int32))])) _
            refine XS.istore X17.here hx rfl (hb hby at_75) rfl (l' := #[.val (.int x0), .val (.int x1), .val (.int (x0.toUInt32.toUInt16.toUInt32.toInt32)), .val (.int (F1 (x0.toUInt32.toUInt16.toUInt32.toInt32))), .val (.int (1 : Int32)), .val (.int (x1 &&& (255 : Int32))), .val (.int (F2 (x1 &&& (255 : Int32)))), .val (.int (1 : Int32))]) rfl ?_
            show Steps p.tables e below (T17.setTop (mkF m 77 #[.val (.int x0), .val (.int x1), .val (.int (x0.toUInt32.toUInt16.toUInt32.toInt32)), .val (.int (F1 (x0.toUInt32.toUInt16.toUInt32.toInt32))), .val (.int (1 : Int32)), .val (.int (x1 &&& (255 : Int32))), .val (.int (F2 (x1 &&& (255 : Int32)))), .val (.int (1 : Int32))] [])) _
            refine XS.iload X17.here hx rfl (hb hby at_77) rfl ?_
            exact Steps.refl _)
        have hf22 : ¬ ((1 : Int32) = (0 : Int32)) := by decide
        have st23 : Steps p.tables e below (s₁.setTop (entryFrame m #[(.int x0), (.int x1)] maxLocals)) (T17.setTop (mkF m 84 #[.val (.int x0), .val (.int x1), .val (.int (x0.toUInt32.toUInt16.toUInt32.toInt32)), .val (.int (F1 (x0.toUInt32.toUInt16.toUInt32.toInt32))), .val (.int (1 : Int32)), .val (.int (x1 &&& (255 : Int32))), .val (.int (F2 (x1 &&& (255 : Int32)))), .val (.int (1 : Int32))] [(.int (1 : Int32))])) := st21.trans (by
            show Steps p.tables e below (T17.setTop (mkF m 79 #[.val (.int x0), .val (.int x1), .val (.int (x0.toUInt32.toUInt16.toUInt32.toInt32)), .val (.int (F1 (x0.toUInt32.toUInt16.toUInt32.toInt32))), .val (.int (1 : Int32)), .val (.int (x1 &&& (255 : Int32))), .val (.int (F2 (x1 &&& (255 : Int32)))), .val (.int (1 : Int32))] [(.int (1 : Int32))])) _
            refine XS.ifNo X17.here hx rfl (hb hby at_79) rfl ((if0 _ _).trans (feq hf22).1) ?_
            show Steps p.tables e below (T17.setTop (mkF m 82 #[.val (.int x0), .val (.int x1), .val (.int (x0.toUInt32.toUInt16.toUInt32.toInt32)), .val (.int (F1 (x0.toUInt32.toUInt16.toUInt32.toInt32))), .val (.int (1 : Int32)), .val (.int (x1 &&& (255 : Int32))), .val (.int (F2 (x1 &&& (255 : Int32)))), .val (.int (1 : Int32))] [])) _
            refine XS.iload X17.here hx rfl (hb hby at_82) rfl ?_
            exact Steps.refl _)
        have hf24 : ¬ ((1 : Int32) = (0 : Int32)) := by decide
        have st25 : Steps p.tables e below (s₁.setTop (entryFrame m #[(.int x0), (.int x1)] maxLocals)) (T17.setTop (mkF m 92 #[.val (.int x0), .val (.int x1), .val (.int (x0.toUInt32.toUInt16.toUInt32.toInt32)), .val (.int (F1 (x0.toUInt32.toUInt16.toUInt32.toInt32))), .val (.int (1 : Int32)), .val (.int (x1 &&& (255 : Int32))), .val (.int (F2 (x1 &&& (255 : Int32)))), .val (.int (1 : Int32))] [(.int (1 : Int32))])) := st23.trans (by
            show Steps p.tables e below (T17.setTop (mkF m 84 #[.val (.int x0), .val (.int x1), .val (.int (x0.toUInt32.toUInt16.toUInt32.toInt32)), .val (.int (F1 (x0.toUInt32.toUInt16.toUInt32.toInt32))), .val (.int (1 : Int32)), .val (.int (x1 &&& (255 : Int32))), .val (.int (F2 (x1 &&& (255 : Int32)))), .val (.int (1 : Int32))] [(.int (1 : Int32))])) _
            refine XS.ifNo X17.here hx rfl (hb hby at_84) rfl ((if0 _ _).trans (feq hf24).1) ?_
            show Steps p.tables e below (T17.setTop (mkF m 87 #[.val (.int x0), .val (.int x1), .val (.int (x0.toUInt32.toUInt16.toUInt32.toInt32)), .val (.int (F1 (x0.toUInt32.toUInt16.toUInt32.toInt32))), .val (.int (1 : Int32)), .val (.int (x1 &&& (255 : Int32))), .val (.int (F2 (x1 &&& (255 : Int32)))), .val (.int (1 : Int32))] [])) _
            refine XS.iconst X17.here hx rfl (hb hby at_87) ?_
            show Steps p.tables e below (T17.setTop (mkF m 88 #[.val (.int x0), .val (.int x1), .val (.int (x0.toUInt32.toUInt16.toUInt32.toInt32)), .val (.int (F1 (x0.toUInt32.toUInt16.toUInt32.toInt32))), .val (.int (1 : Int32)), .val (.int (x1 &&& (255 : Int32))), .val (.int (F2 (x1 &&& (255 : Int32)))), .val (.int (1 : Int32))] [(.int (1 : Int32))])) _
            refine XS.goto X17.here hx rfl (pc0 := 88) (pc' := 92) rfl (hb hby at_88) (by decide) (by decide) ?_
            exact Steps.refl _)
        obtain ⟨fs, hr, hrun, hended, hW, hsame⟩ := X17.leave (v := some (.int (1 : Int32))) (fun h => by rw [Bd.returns] at h; cases h)
        refine ⟨_, _, st25.trans ?_, hrun, hended, _, _, rfl, ?_, ⟨_, rfl⟩, hW, hsame.mono (by decide) (by decide)⟩
        · exact retN X17 hx (t := .boolean) Bd.returns (by simp) (hb hby at_92) hr
        · show Q0 Z x0 x1 h0 n0 _ T17.heap _
          rw [hh17]
          exact ⟨by rw [F0, if_pos hc5, if_neg hc10, if_pos hc20], N17⟩
      · have st26 : Steps p.tables e below (s₁.setTop (entryFrame m #[(.int x0), (.int x1)] maxLocals)) (T17.setTop (mkF m 79 #[.val (.int x0), .val (.int x1), .val (.int (x0.toUInt32.toUInt16.toUInt32.toInt32)), .val (.int (F1 (x0.toUInt32.toUInt16.toUInt32.toInt32))), .val (.int (1 : Int32)), .val (.int (x1 &&& (255 : Int32))), .val (.int (F2 (x1 &&& (255 : Int32)))), .val (.int (0 : Int32))] [(.int (1 : Int32))])) := st19.trans (by
            show Steps p.tables e below (T17.setTop (mkF m 67 #[.val (.int x0), .val (.int x1), .val (.int (x0.toUInt32.toUInt16.toUInt32.toInt32)), .val (.int (F1 (x0.toUInt32.toUInt16.toUInt32.toInt32))), .val (.int (1 : Int32)), .val (.int (x1 &&& (255 : Int32))), .val (.int (F2 (x1 &&& (255 : Int32)))), .unset] [(.int (x1 &&& (255 : Int32))), (.int (F1 ((F2 (x1 &&& (255 : Int32))).toUInt32.toUInt16.toUInt32.toInt32)))])) _
            refine XS.icmpYes X17.here hx rfl (pc0 := 67) (pc' := 74) rfl (hb hby at_67) rfl (feq hc20).2 (by decide) (by decide) ?_
            show Steps p.tables e below (T17.setTop (mkF m 74 #[.val (.int x0), .val (.int x1), .val (.int (x0.toUInt32.toUInt16.toUInt32.toInt32)), .val (.int (F1 (x0.toUInt32.toUInt16.toUInt32.toInt32))), .val (.int (1 : Int32)), .val (.int (x1 &&& (255 : Int32))), .val (.int (F2 (x1 &&& (255 : Int32)))), .unset] [])) _
            refine XS.iconst X17.here hx rfl (hb hby at_74) ?_
            show Steps p.tables e below (T17.setTop (mkF m 75 #[.val (.int x0), .val (.int x1), .val (.int (x0.toUInt32.toUInt16.toUInt32.toInt32)), .val (.int (F1 (x0.toUInt32.toUInt16.toUInt32.toInt32))), .val (.int (1 : Int32)), .val (.int (x1 &&& (255 : Int32))), .val (.int (F2 (x1 &&& (255 : Int32)))), .unset] [(.int (0 : Int32))])) _
            refine XS.istore X17.here hx rfl (hb hby at_75) rfl (l' := #[.val (.int x0), .val (.int x1), .val (.int (x0.toUInt32.toUInt16.toUInt32.toInt32)), .val (.int (F1 (x0.toUInt32.toUInt16.toUInt32.toInt32))), .val (.int (1 : Int32)), .val (.int (x1 &&& (255 : Int32))), .val (.int (F2 (x1 &&& (255 : Int32)))), .val (.int (0 : Int32))]) rfl ?_
            show Steps p.tables e below (T17.setTop (mkF m 77 #[.val (.int x0), .val (.int x1), .val (.int (x0.toUInt32.toUInt16.toUInt32.toInt32)), .val (.int (F1 (x0.toUInt32.toUInt16.toUInt32.toInt32))), .val (.int (1 : Int32)), .val (.int (x1 &&& (255 : Int32))), .val (.int (F2 (x1 &&& (255 : Int32)))), .val (.int (0 : Int32))] [])) _
            refine XS.iload X17.here hx rfl (hb hby at_77) rfl ?_
            exact Steps.refl _)
        have hf27 : ¬ ((1 : Int32) = (0 : Int32)) := by decide
        have st28 : Steps p.tables e below (s₁.setTop (entryFrame m #[(.int x0), (.int x1)] maxLocals)) (T17.setTop (mkF m 84 #[.val (.int x0), .val (.int x1), .val (.int (x0.toUInt32.toUInt16.toUInt32.toInt32)), .val (.int (F1 (x0.toUInt32.toUInt16.toUInt32.toInt32))), .val (.int (1 : Int32)), .val (.int (x1 &&& (255 : Int32))), .val (.int (F2 (x1 &&& (255 : Int32)))), .val (.int (0 : Int32))] [(.int (0 : Int32))])) := st26.trans (by
            show Steps p.tables e below (T17.setTop (mkF m 79 #[.val (.int x0), .val (.int x1), .val (.int (x0.toUInt32.toUInt16.toUInt32.toInt32)), .val (.int (F1 (x0.toUInt32.toUInt16.toUInt32.toInt32))), .val (.int (1 : Int32)), .val (.int (x1 &&& (255 : Int32))), .val (.int (F2 (x1 &&& (255 : Int32)))), .val (.int (0 : Int32))] [(.int (1 : Int32))])) _
            refine XS.ifNo X17.here hx rfl (hb hby at_79) rfl ((if0 _ _).trans (feq hf27).1) ?_
            show Steps p.tables e below (T17.setTop (mkF m 82 #[.val (.int x0), .val (.int x1), .val (.int (x0.toUInt32.toUInt16.toUInt32.toInt32)), .val (.int (F1 (x0.toUInt32.toUInt16.toUInt32.toInt32))), .val (.int (1 : Int32)), .val (.int (x1 &&& (255 : Int32))), .val (.int (F2 (x1 &&& (255 : Int32)))), .val (.int (0 : Int32))] [])) _
            refine XS.iload X17.here hx rfl (hb hby at_82) rfl ?_
            exact Steps.refl _)
        have hf29 : (0 : Int32) = (0 : Int32) := by decide
        have st30 : Steps p.tables e below (s₁.setTop (entryFrame m #[(.int x0), (.int x1)] maxLocals)) (T17.setTop (mkF m 92 #[.val (.int x0), .val (.int x1), .val (.int (x0.toUInt32.toUInt16.toUInt32.toInt32)), .val (.int (F1 (x0.toUInt32.toUInt16.toUInt32.toInt32))), .val (.int (1 : Int32)), .val (.int (x1 &&& (255 : Int32))), .val (.int (F2 (x1 &&& (255 : Int32)))), .val (.int (0 : Int32))] [(.int (0 : Int32))])) := st28.trans (by
            show Steps p.tables e below (T17.setTop (mkF m 84 #[.val (.int x0), .val (.int x1), .val (.int (x0.toUInt32.toUInt16.toUInt32.toInt32)), .val (.int (F1 (x0.toUInt32.toUInt16.toUInt32.toInt32))), .val (.int (1 : Int32)), .val (.int (x1 &&& (255 : Int32))), .val (.int (F2 (x1 &&& (255 : Int32)))), .val (.int (0 : Int32))] [(.int (0 : Int32))])) _
            refine XS.ifYes X17.here hx rfl (pc0 := 84) (pc' := 91) rfl (hb hby at_84) rfl ((if0 _ _).trans (teq hf29).1) (by decide) (by decide) ?_
            show Steps p.tables e below (T17.setTop (mkF m 91 #[.val (.int x0), .val (.int x1), .val (.int (x0.toUInt32.toUInt16.toUInt32.toInt32)), .val (.int (F1 (x0.toUInt32.toUInt16.toUInt32.toInt32))), .val (.int (1 : Int32)), .val (.int (x1 &&& (255 : Int32))), .val (.int (F2 (x1 &&& (255 : Int32)))), .val (.int (0 : Int32))] [])) _
            refine XS.iconst X17.here hx rfl (hb hby at_91) ?_
            exact Steps.refl _)
        obtain ⟨fs, hr, hrun, hended, hW, hsame⟩ := X17.leave (v := some (.int (0 : Int32))) (fun h => by rw [Bd.returns] at h; cases h)
        refine ⟨_, _, st30.trans ?_, hrun, hended, _, _, rfl, ?_, ⟨_, rfl⟩, hW, hsame.mono (by decide) (by decide)⟩
        · exact retN X17 hx (t := .boolean) Bd.returns (by simp) (hb hby at_92) hr
        · show Q0 Z x0 x1 h0 n0 _ T17.heap _
          rw [hh17]
          exact ⟨by rw [F0, if_pos hc5, if_neg hc10, if_neg hc20], N17⟩
  · have st31 : Steps p.tables e below (s₁.setTop (entryFrame m #[(.int x0), (.int x1)] maxLocals)) (T2.setTop (mkF m 14 #[.val (.int x0), .val (.int x1), .val (.int (x0.toUInt32.toUInt16.toUInt32.toInt32)), .val (.int (F1 (x0.toUInt32.toUInt16.toUInt32.toInt32))), .unset, .unset, .unset, .unset] [(.int (F1 (x0.toUInt32.toUInt16.toUInt32.toInt32)))])) := st4.trans (by
        show Steps p.tables e below (T2.setTop (mkF m 10 #[.val (.int x0), .val (.int x1), .val (.int (x0.toUInt32.toUInt16.toUInt32.toInt32)), .val (.int (F1 (x0.toUInt32.toUInt16.toUInt32.toInt32))), .unset, .unset, .unset, .unset] [(.int (-1 : Int32)), (.int (F1 (x0.toUInt32.toUInt16.toUInt32.toInt32)))])) _
        refine XS.icmpNo X2.here hx rfl (hb hby at_10) rfl (feq hc5).1 ?_
        show Steps p.tables e below (T2.setTop (mkF m 13 #[.val (.int x0), .val (.int x1), .val (.int (x0.toUInt32.toUInt16.toUInt32.toInt32)), .val (.int (F1 (x0.toUInt32.toUInt16.toUInt32.toInt32))), .unset, .unset, .unset, .unset] [])) _
        refine XS.iloadN X2.here hx rfl (hb hby at_13) rfl ?_
        exact Steps.refl _)
    by_cases hc32 : (F1 (x0.toUInt32.toUInt16.toUInt32.toInt32)) < (0 : Int32)
    · have st33 : Steps p.tables e below (s₁.setTop (entryFrame m #[(.int x0), (.int x1)] maxLocals)) (T2.setTop (mkF m 48 #[.val (.int x0), .val (.int x1), .val (.int (x0.toUInt32.toUInt16.toUInt32.toInt32)), .val (.int (F1 (x0.toUInt32.toUInt16.toUInt32.toInt32))), .val (.int (0 : Int32)), .val (.int (x1 &&& (255 : Int32))), .unset, .unset] [(.int (x1 &&& (255 : Int32)))])) := st31.trans (by
          show Steps p.tables e below (T2.setTop (mkF m 14 #[.val (.int x0), .val (.int x1), .val (.int (x0.toUInt32.toUInt16.toUInt32.toInt32)), .val (.int (F1 (x0.toUInt32.toUInt16.toUInt32.toInt32))), .unset, .unset, .unset, .unset] [(.int (F1 (x0.toUInt32.toUInt16.toUInt32.toInt32)))])) _
          refine XS.ifYes X2.here hx rfl (pc0 := 14) (pc' := 36) rfl (hb hby at_14) rfl ((if0 _ _).trans (tlt hc32).1) (by decide) (by decide) ?_
          show Steps p.tables e below (T2.setTop (mkF m 36 #[.val (.int x0), .val (.int x1), .val (.int (x0.toUInt32.toUInt16.toUInt32.toInt32)), .val (.int (F1 (x0.toUInt32.toUInt16.toUInt32.toInt32))), .unset, .unset, .unset, .unset] [])) _
          refine XS.iconst X2.here hx rfl (hb hby at_36) ?_
          show Steps p.tables e below (T2.setTop (mkF m 37 #[.val (.int x0), .val (.int x1), .val (.int (x0.toUInt32.toUInt16.toUInt32.toInt32)), .val (.int (F1 (x0.toUInt32.toUInt16.toUInt32.toInt32))), .unset, .unset, .unset, .unset] [(.int (0 : Int32))])) _
          refine XS.istore X2.here hx rfl (hb hby at_37) rfl (l' := #[.val (.int x0), .val (.int x1), .val (.int (x0.toUInt32.toUInt16.toUInt32.toInt32)), .val (.int (F1 (x0.toUInt32.toUInt16.toUInt32.toInt32))), .val (.int (0 : Int32)), .unset, .unset, .unset]) rfl ?_
          show Steps p.tables e below (T2.setTop (mkF m 39 #[.val (.int x0), .val (.int x1), .val (.int (x0.toUInt32.toUInt16.toUInt32.toInt32)), .val (.int (F1 (x0.toUInt32.toUInt16.toUInt32.toInt32))), .val (.int (0 : Int32)), .unset, .unset, .unset] [])) _
          refine XS.iloadN X2.here hx rfl (hb hby at_39) rfl ?_
          show Steps p.tables e below (T2.setTop (mkF m 40 #[.val (.int x0), .val (.int x1), .val (.int (x0.toUInt32.toUInt16.toUInt32.toInt32)), .val (.int (F1 (x0.toUInt32.toUInt16.toUInt32.toInt32))), .val (.int (0 : Int32)), .unset, .unset, .unset] [(.int x1)])) _
          refine XS.sipush X2.here hx rfl (hb hby at_40) ?_
          show Steps p.tables e below (T2.setTop (mkF m 43 #[.val (.int x0), .val (.int x1), .val (.int (x0.toUInt32.toUInt16.toUInt32.toInt32)), .val (.int (F1 (x0.toUInt32.toUInt16.toUInt32.toInt32))), .val (.int (0 : Int32)), .unset, .unset, .unset] [(.int (255 : Int32)), (.int x1)])) _
          refine XS.iand X2.here hx rfl (hb hby at_43) rfl ?_
          show Steps p.tables e below (T2.setTop (mkF m 44 #[.val (.int x0), .val (.int x1), .val (.int (x0.toUInt32.toUInt16.toUInt32.toInt32)), .val (.int (F1 (x0.toUInt32.toUInt16.toUInt32.toInt32))), .val (.int (0 : Int32)), .unset, .unset, .unset] [(.int (x1 &&& (255 : Int32)))])) _
          refine XS.istore X2.here hx rfl (hb hby at_44) rfl (l' := #[.val (.int x0), .val (.int x1), .val (.int (x0.toUInt32.toUInt16.toUInt32.toInt32)), .val (.int (F1 (x0.toUInt32.toUInt16.toUInt32.toInt32))), .val (.int (0 : Int32)), .val (.int (x1 &&& (255 : Int32))), .unset, .unset]) rfl ?_
          show Steps p.tables e below (T2.setTop (mkF m 46 #[.val (.int x0), .val (.int x1), .val (.int (x0.toUInt32.toUInt16.toUInt32.toInt32)), .val (.int (F1 (x0.toUInt32.toUInt16.toUInt32.toInt32))), .val (.int (0 : Int32)), .val (.int (x1 &&& (255 : Int32))), .unset, .unset] [])) _
          refine XS.iload X2.here hx rfl (hb hby at_46) rfl ?_
          exact Steps.refl _)
      obtain ⟨_, _, ⟨T34, L34, k34, n34⟩, -, X34, ⟨Lc34, hQ34, l34, y34, z34⟩, sr34⟩ := Jvm.LawKit.callS X2 hx (y := (⟨"com/example/escritural/escritural/pdf/WinAnsiCodePinLaw", "decode", "(I)I"⟩ : MethodName)) hown (mvT hZ (hw _ (List.mem_of_getElem? (i := 4) rfl))) (mvT hZ (hw _ (List.mem_of_getElem? (i := 5) rfl))) (mvT hZ (hw _ (List.mem_of_getElem? (i := 6) rfl))) (mvT hZ (hw _ (List.mem_of_getElem? (i := 7) rfl))) (by decide) (backOf (W := 0) (rm2 l Z a0 hw [] (x1 &&& (255 : Int32))  h0 n0 Z0 ) hZ (hw _ (List.mem_of_getElem? (i := 7) rfl)) (hw _ (List.mem_of_getElem? (i := 6) rfl)) (by decide) (by decide)) (g := (mkF m 48 #[.val (.int x0), .val (.int x1), .val (.int (x0.toUInt32.toUInt16.toUInt32.toInt32)), .val (.int (F1 (x0.toUInt32.toUInt16.toUInt32.toInt32))), .val (.int (0 : Int32)), .val (.int (x1 &&& (255 : Int32))), .unset, .unset] [(.int (x1 &&& (255 : Int32)))])) rfl (by rw [hml]; rfl) (argsL := [(.int (x1 &&& (255 : Int32)))]) (rest := []) (lenOf pd_1 rfl) rfl (by show 2 * 0 + _ ≤ _; exact Nat.le_of_eq rfl) (hb hby at_48) (fun _ _ => ⟨rfl, hh2, (by decide : 0 + 0 ≤ _), (by decide : 0 + 0 ≤ _)⟩)
      dsimp only [Pt.U, Pt.locs, Pt.cells, Pt.slots] at X34 l34 y34 z34 sr34 hQ34
      subst l34 y34 z34
      obtain ⟨rfl, N34q, hh34⟩ := hQ34
      have N34 := Fr.app N2 N34q
      have st35 : Steps p.tables e below (s₁.setTop (entryFrame m #[(.int x0), (.int x1)] maxLocals)) (T34.setTop (mkF m 51 #[.val (.int x0), .val (.int x1), .val (.int (x0.toUInt32.toUInt16.toUInt32.toInt32)), .val (.int (F1 (x0.toUInt32.toUInt16.toUInt32.toInt32))), .val (.int (0 : Int32)), .val (.int (x1 &&& (255 : Int32))), .unset, .unset] [(.int (F2 (x1 &&& (255 : Int32))))])) := st33.trans (sr34 _ (Steps.refl _))
      have st36 : Steps p.tables e below (s₁.setTop (entryFrame m #[(.int x0), (.int x1)] maxLocals)) (T34.setTop (mkF m 56 #[.val (.int x0), .val (.int x1), .val (.int (x0.toUInt32.toUInt16.toUInt32.toInt32)), .val (.int (F1 (x0.toUInt32.toUInt16.toUInt32.toInt32))), .val (.int (0 : Int32)), .val (.int (x1 &&& (255 : Int32))), .val (.int (F2 (x1 &&& (255 : Int32)))), .unset] [(.int (-1 : Int32)), (.int (F2 (x1 &&& (255 : Int32))))])) := st35.trans (by
          show Steps p.tables e below (T34.setTop (mkF m 51 #[.val (.int x0), .val (.int x1), .val (.int (x0.toUInt32.toUInt16.toUInt32.toInt32)), .val (.int (F1 (x0.toUInt32.toUInt16.toUInt32.toInt32))), .val (.int (0 : Int32)), .val (.int (x1 &&& (255 : Int32))), .unset, .unset] [(.int (F2 (x1 &&& (255 : Int32))))])) _
          refine XS.istore X34.here hx rfl (hb hby at_51) rfl (l' := #[.val (.int x0), .val (.int x1), .val (.int (x0.toUInt32.toUInt16.toUInt32.toInt32)), .val (.int (F1 (x0.toUInt32.toUInt16.toUInt32.toInt32))), .val (.int (0 : Int32)), .val (.int (x1 &&& (255 : Int32))), .val (.int (F2 (x1 &&& (255 : Int32)))), .unset]) rfl ?_
          show Steps p.tables e below (T34.setTop (mkF m 53 #[.val (.int x0), .val (.int x1), .val (.int (x0.toUInt32.toUInt16.toUInt32.toInt32)), .val (.int (F1 (x0.toUInt32.toUInt16.toUInt32.toInt32))), .val (.int (0 : Int32)), .val (.int (x1 &&& (255 : Int32))), .val (.int (F2 (x1 &&& (255 : Int32)))), .unset] [])) _
          refine XS.iload X34.here hx rfl (hb hby at_53) rfl ?_
          show Steps p.tables e below (T34.setTop (mkF m 55 #[.val (.int x0), .val (.int x1), .val (.int (x0.toUInt32.toUInt16.toUInt32.toInt32)), .val (.int (F1 (x0.toUInt32.toUInt16.toUInt32.toInt32))), .val (.int (0 : Int32)), .val (.int (x1 &&& (255 : Int32))), .val (.int (F2 (x1 &&& (255 : Int32)))), .unset] [(.int (F2 (x1 &&& (255 : Int32))))])) _
          refine XS.iconst X34.here hx rfl (hb hby at_55) ?_
          exact Steps.refl _)
      by_cases hc37 : (F2 (x1 &&& (255 : Int32))) = (-1 : Int32)
      · have st38 : Steps p.tables e below (s₁.setTop (entryFrame m #[(.int x0), (.int x1)] maxLocals)) (T34.setTop (mkF m 79 #[.val (.int x0), .val (.int x1), .val (.int (x0.toUInt32.toUInt16.toUInt32.toInt32)), .val (.int (F1 (x0.toUInt32.toUInt16.toUInt32.toInt32))), .val (.int (0 : Int32)), .val (.int (x1 &&& (255 : Int32))), .val (.int (F2 (x1 &&& (255 : Int32)))), .val (.int (1 : Int32))] [(.int (0 : Int32))])) := st36.trans (by
            show Steps p.tables e below (T34.setTop (mkF m 56 #[.val (.int x0), .val (.int x1), .val (.int (x0.toUInt32.toUInt16.toUInt32.toInt32)), .val (.int (F1 (x0.toUInt32.toUInt16.toUInt32.toInt32))), .val (.int (0 : Int32)), .val (.int (x1 &&& (255 : Int32))), .val (.int (F2 (x1 &&& (255 : Int32)))), .unset] [(.int (-1 : Int32)), (.int (F2 (x1 &&& (255 : Int32))))])) _
            refine XS.icmpYes X34.here hx rfl (pc0 := 56) (pc' := 70) rfl (hb hby at_56) rfl (teq hc37).1 (by decide) (by decide) ?_
            show Steps p.tables e below (T34.setTop (mkF m 70 #[.val (.int x0), .val (.int x1), .val (.int (x0.toUInt32.toUInt16.toUInt32.toInt32)), .val (.int (F1 (x0.toUInt32.toUInt16.toUInt32.toInt32))), .val (.int (0 : Int32)), .val (.int (x1 &&& (255 : Int32))), .val (.int (F2 (x1 &&& (255 : Int32)))), .unset] [])) _
            refine XS.iconst X34.here hx rfl (hb hby at_70) ?_
            show Steps p.tables e below (T34.setTop (mkF m 71 #[.val (.int x0), .val (.int x1), .val (.int (x0.toUInt32.toUInt16.toUInt32.toInt32)), .val (.int (F1 (x0.toUInt32.toUInt16.toUInt32.toInt32))), .val (.int (0 : Int32)), .val (.int (x1 &&& (255 : Int32))), .val (.int (F2 (x1 &&& (255 : Int32)))), .unset] [(.int (1 : Int32))])) _
            refine XS.goto X34.here hx rfl (pc0 := 71) (pc' := 75) rfl (hb hby at_71) (by decide) (by decide) ?_
            show Steps p.tables e below (T34.setTop (mkF m 75 #[.val (.int x0), .val (.int x1), .val (.int (x0.toUInt32.toUInt16.toUInt32.toInt32)), .val (.int (F1 (x0.toUInt32.toUInt16.toUInt32.toInt32))), .val (.int (0 : Int32)), .val (.int (x1 &&& (255 : Int32))), .val (.int (F2 (x1 &&& (255 : Int32)))), .unset] [(.int (1 : Int32))])) _
            refine XS.istore X34.here hx rfl (hb hby at_75) rfl (l' := #[.val (.int x0), .val (.int x1), .val (.int (x0.toUInt32.toUInt16.toUInt32.toInt32)), .val (.int (F1 (x0.toUInt32.toUInt16.toUInt32.toInt32))), .val (.int (0 : Int32)), .val (.int (x1 &&& (255 : Int32))), .val (.int (F2 (x1 &&& (255 : Int32)))), .val (.int (1 : Int32))]) rfl ?_
            show Steps p.tables e below (T34.setTop (mkF m 77 #[.val (.int x0), .val (.int x1), .val (.int (x0.toUInt32.toUInt16.toUInt32.toInt32)), .val (.int (F1 (x0.toUInt32.toUInt16.toUInt32.toInt32))), .val (.int (0 : Int32)), .val (.int (x1 &&& (255 : Int32))), .val (.int (F2 (x1 &&& (255 : Int32)))), .val (.int (1 : Int32))] [])) _
            refine XS.iload X34.here hx rfl (hb hby at_77) rfl ?_
            exact Steps.refl _)
        have hf39 : (0 : Int32) = (0 : Int32) := by decide
        have st40 : Steps p.tables e below (s₁.setTop (entryFrame m #[(.int x0), (.int x1)] maxLocals)) (T34.setTop (mkF m 92 #[.val (.int x0), .val (.int x1), .val (.int (x0.toUInt32.toUInt16.toUInt32.toInt32)), .val (.int (F1 (x0.toUInt32.toUInt16.toUInt32.toInt32))), .val (.int (0 : Int32)), .val (.int (x1 &&& (255 : Int32))), .val (.int (F2 (x1 &&& (255 : Int32)))), .val (.int (1 : Int32))] [(.int (0 : Int32))])) := st38.trans (by
            show Steps p.tables e below (T34.setTop (mkF m 79 #[.val (.int x0), .val (.int x1), .val (.int (x0.toUInt32.toUInt16.toUInt32.toInt32)), .val (.int (F1 (x0.toUInt32.toUInt16.toUInt32.toInt32))), .val (.int (0 : Int32)), .val (.int (x1 &&& (255 : Int32))), .val (.int (F2 (x1 &&& (255 : Int32)))), .val (.int (1 : Int32))] [(.int (0 : Int32))])) _
            refine XS.ifYes X34.here hx rfl (pc0 := 79) (pc' := 91) rfl (hb hby at_79) rfl ((if0 _ _).trans (teq hf39).1) (by decide) (by decide) ?_
            show Steps p.tables e below (T34.setTop (mkF m 91 #[.val (.int x0), .val (.int x1), .val (.int (x0.toUInt32.toUInt16.toUInt32.toInt32)), .val (.int (F1 (x0.toUInt32.toUInt16.toUInt32.toInt32))), .val (.int (0 : Int32)), .val (.int (x1 &&& (255 : Int32))), .val (.int (F2 (x1 &&& (255 : Int32)))), .val (.int (1 : Int32))] [])) _
            refine XS.iconst X34.here hx rfl (hb hby at_91) ?_
            exact Steps.refl _)
        obtain ⟨fs, hr, hrun, hended, hW, hsame⟩ := X34.leave (v := some (.int (0 : Int32))) (fun h => by rw [Bd.returns] at h; cases h)
        refine ⟨_, _, st40.trans ?_, hrun, hended, _, _, rfl, ?_, ⟨_, rfl⟩, hW, hsame.mono (by decide) (by decide)⟩
        · exact retN X34 hx (t := .boolean) Bd.returns (by simp) (hb hby at_92) hr
        · show Q0 Z x0 x1 h0 n0 _ T34.heap _
          rw [hh34]
          exact ⟨by rw [F0, if_neg hc5, if_pos hc32, if_pos hc37], N34⟩
      · have st41 : Steps p.tables e below (s₁.setTop (entryFrame m #[(.int x0), (.int x1)] maxLocals)) (T34.setTop (mkF m 62 #[.val (.int x0), .val (.int x1), .val (.int (x0.toUInt32.toUInt16.toUInt32.toInt32)), .val (.int (F1 (x0.toUInt32.toUInt16.toUInt32.toInt32))), .val (.int (0 : Int32)), .val (.int (x1 &&& (255 : Int32))), .val (.int (F2 (x1 &&& (255 : Int32)))), .unset] [(.int ((F2 (x1 &&& (255 : Int32))).toUInt32.toUInt16.toUInt32.toInt32))])) := st36.trans (by
            show Steps p.tables e below (T34.setTop (mkF m 56 #[.val (.int x0), .val (.int x1), .val (.int (x0.toUInt32.toUInt16.toUInt32.toInt32)), .val (.int (F1 (x0.toUInt32.toUInt16.toUInt32.toInt32))), .val (.int (0 : Int32)), .val (.int (x1 &&& (255 : Int32))), .val (.int (F2 (x1 &&& (255 : Int32)))), .unset] [(.int (-1 : Int32)), (.int (F2 (x1 &&& (255 : Int32))))])) _
            refine XS.icmpNo X34.here hx rfl (hb hby at_56) rfl (feq hc37).1 ?_
            show Steps p.tables e below (T34.setTop (mkF m 59 #[.val (.int x0), .val (.int x1), .val (.int (x0.toUInt32.toUInt16.toUInt32.toInt32)), .val (.int (F1 (x0.toUInt32.toUInt16.toUInt32.toInt32))), .val (.int (0 : Int32)), .val (.int (x1 &&& (255 : Int32))), .val (.int (F2 (x1 &&& (255 : Int32)))), .unset] [])) _
            refine XS.iload X34.here hx rfl (hb hby at_59) rfl ?_
            show Steps p.tables e below (T34.setTop (mkF m 61 #[.val (.int x0), .val (.int x1), .val (.int (x0.toUInt32.toUInt16.toUInt32.toInt32)), .val (.int (F1 (x0.toUInt32.toUInt16.toUInt32.toInt32))), .val (.int (0 : Int32)), .val (.int (x1 &&& (255 : Int32))), .val (.int (F2 (x1 &&& (255 : Int32)))), .unset] [(.int (F2 (x1 &&& (255 : Int32))))])) _
            refine XS.i2c X34.here hx rfl (hb hby at_61) rfl ?_
            exact Steps.refl _)
        obtain ⟨_, _, ⟨T42, L42, k42, n42⟩, -, X42, ⟨Lc42, hQ42, l42, y42, z42⟩, sr42⟩ := Jvm.LawKit.callS X34 hx (y := (⟨"com/example/escritural/escritural/pdf/WinAnsi", "code", "(C)I"⟩ : MethodName)) hown (mvT hZ (hw _ (List.mem_of_getElem? (i := 0) rfl))) (mvT hZ (hw _ (List.mem_of_getElem? (i := 1) rfl))) (mvT hZ (hw _ (List.mem_of_getElem? (i := 2) rfl))) (mvT hZ (hw _ (List.mem_of_getElem? (i := 3) rfl))) (by decide) (backOf (W := 0) (rm1 l Z a0 hw [] ((F2 (x1 &&& (255 : Int32))).toUInt32.toUInt16.toUInt32.toInt32)  h0 n0 Z0 ) hZ (hw _ (List.mem_of_getElem? (i := 3) rfl)) (hw _ (List.mem_of_getElem? (i := 2) rfl)) (by decide) (by decide)) (g := (mkF m 62 #[.val (.int x0), .val (.int x1), .val (.int (x0.toUInt32.toUInt16.toUInt32.toInt32)), .val (.int (F1 (x0.toUInt32.toUInt16.toUInt32.toInt32))), .val (.int (0 : Int32)), .val (.int (x1 &&& (255 : Int32))), .val (.int (F2 (x1 &&& (255 : Int32)))), .unset] [(.int ((F2 (x1 &&& (255 : Int32))).toUInt32.toUInt16.toUInt32.toInt32))])) rfl (by rw [hml]; rfl) (argsL := [(.int ((F2 (x1 &&& (255 : Int32))).toUInt32.toUInt16.toUInt32.toInt32))]) (rest := []) (lenOf pd_0 rfl) rfl (by show 2 * 0 + _ ≤ _; exact Nat.le_of_eq rfl) (hb hby at_62) (fun _ _ => ⟨rfl, hh34, (by decide : 0 + 0 ≤ _), (by decide : 0 + 0 ≤ _)⟩)
        dsimp only [Pt.U, Pt.locs, Pt.cells, Pt.slots] at X42 l42 y42 z42 sr42 hQ42
        subst l42 y42 z42
        obtain ⟨rfl, N42q, hh42⟩ := hQ42
        have N42 := Fr.app N34 N42q
        have st43 : Steps p.tables e below (s₁.setTop (entryFrame m #[(.int x0), (.int x1)] maxLocals)) (T42.setTop (mkF m 65 #[.val (.int x0), .val (.int x1), .val (.int (x0.toUInt32.toUInt16.toUInt32.toInt32)), .val (.int (F1 (x0.toUInt32.toUInt16.toUInt32.toInt32))), .val (.int (0 : Int32)), .val (.int (x1 &&& (255 : Int32))), .val (.int (F2 (x1 &&& (255 : Int32)))), .unset] [(.int (F1 ((F2 (x1 &&& (255 : Int32))).toUInt32.toUInt16.toUInt32.toInt32)))])) := st41.trans (sr42 _ (Steps.refl _))
        have st44 : Steps p.tables e below (s₁.setTop (entryFrame m #[(.int x0), (.int x1)] maxLocals)) (T42.setTop (mkF m 67 #[.val (.int x0), .val (.int x1), .val (.int (x0.toUInt32.toUInt16.toUInt32.toInt32)), .val (.int (F1 (x0.toUInt32.toUInt16.toUInt32.toInt32))), .val (.int (0 : Int32)), .val (.int (x1 &&& (255 : Int32))), .val (.int (F2 (x1 &&& (255 : Int32)))), .unset] [(.int (x1 &&& (255 : Int32))), (.int (F1 ((F2 (x1 &&& (255 : Int32))).toUInt32.toUInt16.toUInt32.toInt32)))])) := st43.trans (by
            show Steps p.tables e below (T42.setTop (mkF m 65 #[.val (.int x0), .val (.int x1), .val (.int (x0.toUInt32.toUInt16.toUInt32.toInt32)), .val (.int (F1 (x0.toUInt32.toUInt16.toUInt32.toInt32))), .val (.int (0 : Int32)), .val (.int (x1 &&& (255 : Int32))), .val (.int (F2 (x1 &&& (255 : Int32)))), .unset] [(.int (F1 ((F2 (x1 &&& (255 : Int32))).toUInt32.toUInt16.toUInt32.toInt32)))])) _
            refine XS.iload X42.here hx rfl (hb hby at_65) rfl ?_
            exact Steps.refl _)
        by_cases hc45 : (F1 ((F2 (x1 &&& (255 : Int32))).toUInt32.toUInt16.toUInt32.toInt32)) = (x1 &&& (255 : Int32))
        · have st46 : Steps p.tables e below (s₁.setTop (entryFrame m #[(.int x0), (.int x1)] maxLocals)) (T42.setTop (mkF m 79 #[.val (.int x0), .val (.int x1), .val (.int (x0.toUInt32.toUInt16.toUInt32.toInt32)), .val (.int (F1 (x0.toUInt32.toUInt16.toUInt32.toInt32))), .val (.int (0 : Int32)), .val (.int (x1 &&& (255 : Int32))), .val (.int (F2 (x1 &&& (255 : Int32)))), .val (.int (1 : Int32))] [(.int (0 : Int32))])) := st44.trans (by
              show Steps p.tables e below (T42.setTop (mkF m 67 #[.val (.int x0), .val (.int x1), .val (.int (x0.toUInt32.toUInt16.toUInt32.toInt32)), .val (.int (F1 (x0.toUInt32.toUInt16.toUInt32.toInt32))), .val (.int (0 : Int32)), .val (.int (x1 &&& (255 : Int32))), .val (.int (F2 (x1 &&& (255 : Int32)))), .unset] [(.int (x1 &&& (255 : Int32))), (.int (F1 ((F2 (x1 &&& (255 : Int32))).toUInt32.toUInt16.toUInt32.toInt32)))])) _
              refine XS.icmpNo X42.here hx rfl (hb hby at_67) rfl (teq hc45).2 ?_
              show Steps p.tables e below (T42.setTop (mkF m 70 #[.val (.int x0), .val (.int x1), .val (.int (x0.toUInt32.toUInt16.toUInt32.toInt32)), .val (.int (F1 (x0.toUInt32.toUInt16.toUInt32.toInt32))), .val (.int (0 : Int32)), .val (.int (x1 &&& (255 : Int32))), .val (.int (F2 (x1 &&& (255 : Int32)))), .unset] [])) _
              refine XS.iconst X42.here hx rfl (hb hby at_70) ?_
              show Steps p.tables e below (T42.setTop (mkF m 71 #[.val (.int x0), .val (.int x1), .val (.int (x0.toUInt32.toUInt16.toUInt32.toInt32)), .val (.int (F1 (x0.toUInt32.toUInt16.toUInt32.toInt32))), .val (.int (0 : Int32)), .val (.int (x1 &&& (255 : Int32))), .val (.int (F2 (x1 &&& (255 : Int32)))), .unset] [(.int (1 : Int32))])) _
              refine XS.goto X42.here hx rfl (pc0 := 71) (pc' := 75) rfl (hb hby at_71) (by decide) (by decide) ?_
              show Steps p.tables e below (T42.setTop (mkF m 75 #[.val (.int x0), .val (.int x1), .val (.int (x0.toUInt32.toUInt16.toUInt32.toInt32)), .val (.int (F1 (x0.toUInt32.toUInt16.toUInt32.toInt32))), .val (.int (0 : Int32)), .val (.int (x1 &&& (255 : Int32))), .val (.int (F2 (x1 &&& (255 : Int32)))), .unset] [(.int (1 : Int32))])) _
              refine XS.istore X42.here hx rfl (hb hby at_75) rfl (l' := #[.val (.int x0), .val (.int x1), .val (.int (x0.toUInt32.toUInt16.toUInt32.toInt32)), .val (.int (F1 (x0.toUInt32.toUInt16.toUInt32.toInt32))), .val (.int (0 : Int32)), .val (.int (x1 &&& (255 : Int32))), .val (.int (F2 (x1 &&& (255 : Int32)))), .val (.int (1 : Int32))]) rfl ?_
              show Steps p.tables e below (T42.setTop (mkF m 77 #[.val (.int x0), .val (.int x1), .val (.int (x0.toUInt32.toUInt16.toUInt32.toInt32)), .val (.int (F1 (x0.toUInt32.toUInt16.toUInt32.toInt32))), .val (.int (0 : Int32)), .val (.int (x1 &&& (255 : Int32))), .val (.int (F2 (x1 &&& (255 : Int32)))), .val (.int (1 : Int32))] [])) _
              refine XS.iload X42.here hx rfl (hb hby at_77) rfl ?_
              exact Steps.refl _)
          have hf47 : (0 : Int32) = (0 : Int32) := by decide
          have st48 : Steps p.tables e below (s₁.setTop (entryFrame m #[(.int x0), (.int x1)] maxLocals)) (T42.setTop (mkF m 92 #[.val (.int x0), .val (.int x1), .val (.int (x0.toUInt32.toUInt16.toUInt32.toInt32)), .val (.int (F1 (x0.toUInt32.toUInt16.toUInt32.toInt32))), .val (.int (0 : Int32)), .val (.int (x1 &&& (255 : Int32))), .val (.int (F2 (x1 &&& (255 : Int32)))), .val (.int (1 : Int32))] [(.int (0 : Int32))])) := st46.trans (by
              show Steps p.tables e below (T42.setTop (mkF m 79 #[.val (.int x0), .val (.int x1), .val (.int (x0.toUInt32.toUInt16.toUInt32.toInt32)), .val (.int (F1 (x0.toUInt32.toUInt16.toUInt32.toInt32))), .val (.int (0 : Int32)), .val (.int (x1 &&& (255 : Int32))), .val (.int (F2 (x1 &&& (255 : Int32)))), .val (.int (1 : Int32))] [(.int (0 : Int32))])) _
              refine XS.ifYes X42.here hx rfl (pc0 := 79) (pc' := 91) rfl (hb hby at_79) rfl ((if0 _ _).trans (teq hf47).1) (by decide) (by decide) ?_
              show Steps p.tables e below (T42.setTop (mkF m 91 #[.val (.int x0), .val (.int x1), .val (.int (x0.toUInt32.toUInt16.toUInt32.toInt32)), .val (.int (F1 (x0.toUInt32.toUInt16.toUInt32.toInt32))), .val (.int (0 : Int32)), .val (.int (x1 &&& (255 : Int32))), .val (.int (F2 (x1 &&& (255 : Int32)))), .val (.int (1 : Int32))] [])) _
              refine XS.iconst X42.here hx rfl (hb hby at_91) ?_
              exact Steps.refl _)
          obtain ⟨fs, hr, hrun, hended, hW, hsame⟩ := X42.leave (v := some (.int (0 : Int32))) (fun h => by rw [Bd.returns] at h; cases h)
          refine ⟨_, _, st48.trans ?_, hrun, hended, _, _, rfl, ?_, ⟨_, rfl⟩, hW, hsame.mono (by decide) (by decide)⟩
          · exact retN X42 hx (t := .boolean) Bd.returns (by simp) (hb hby at_92) hr
          · show Q0 Z x0 x1 h0 n0 _ T42.heap _
            rw [hh42]
            exact ⟨by rw [F0, if_neg hc5, if_pos hc32, if_neg hc37, if_pos hc45], N42⟩
        · have st49 : Steps p.tables e below (s₁.setTop (entryFrame m #[(.int x0), (.int x1)] maxLocals)) (T42.setTop (mkF m 79 #[.val (.int x0), .val (.int x1), .val (.int (x0.toUInt32.toUInt16.toUInt32.toInt32)), .val (.int (F1 (x0.toUInt32.toUInt16.toUInt32.toInt32))), .val (.int (0 : Int32)), .val (.int (x1 &&& (255 : Int32))), .val (.int (F2 (x1 &&& (255 : Int32)))), .val (.int (0 : Int32))] [(.int (0 : Int32))])) := st44.trans (by
              show Steps p.tables e below (T42.setTop (mkF m 67 #[.val (.int x0), .val (.int x1), .val (.int (x0.toUInt32.toUInt16.toUInt32.toInt32)), .val (.int (F1 (x0.toUInt32.toUInt16.toUInt32.toInt32))), .val (.int (0 : Int32)), .val (.int (x1 &&& (255 : Int32))), .val (.int (F2 (x1 &&& (255 : Int32)))), .unset] [(.int (x1 &&& (255 : Int32))), (.int (F1 ((F2 (x1 &&& (255 : Int32))).toUInt32.toUInt16.toUInt32.toInt32)))])) _
              refine XS.icmpYes X42.here hx rfl (pc0 := 67) (pc' := 74) rfl (hb hby at_67) rfl (feq hc45).2 (by decide) (by decide) ?_
              show Steps p.tables e below (T42.setTop (mkF m 74 #[.val (.int x0), .val (.int x1), .val (.int (x0.toUInt32.toUInt16.toUInt32.toInt32)), .val (.int (F1 (x0.toUInt32.toUInt16.toUInt32.toInt32))), .val (.int (0 : Int32)), .val (.int (x1 &&& (255 : Int32))), .val (.int (F2 (x1 &&& (255 : Int32)))), .unset] [])) _
              refine XS.iconst X42.here hx rfl (hb hby at_74) ?_
              show Steps p.tables e below (T42.setTop (mkF m 75 #[.val (.int x0), .val (.int x1), .val (.int (x0.toUInt32.toUInt16.toUInt32.toInt32)), .val (.int (F1 (x0.toUInt32.toUInt16.toUInt32.toInt32))), .val (.int (0 : Int32)), .val (.int (x1 &&& (255 : Int32))), .val (.int (F2 (x1 &&& (255 : Int32)))), .unset] [(.int (0 : Int32))])) _
              refine XS.istore X42.here hx rfl (hb hby at_75) rfl (l' := #[.val (.int x0), .val (.int x1), .val (.int (x0.toUInt32.toUInt16.toUInt32.toInt32)), .val (.int (F1 (x0.toUInt32.toUInt16.toUInt32.toInt32))), .val (.int (0 : Int32)), .val (.int (x1 &&& (255 : Int32))), .val (.int (F2 (x1 &&& (255 : Int32)))), .val (.int (0 : Int32))]) rfl ?_
              show Steps p.tables e below (T42.setTop (mkF m 77 #[.val (.int x0), .val (.int x1), .val (.int (x0.toUInt32.toUInt16.toUInt32.toInt32)), .val (.int (F1 (x0.toUInt32.toUInt16.toUInt32.toInt32))), .val (.int (0 : Int32)), .val (.int (x1 &&& (255 : Int32))), .val (.int (F2 (x1 &&& (255 : Int32)))), .val (.int (0 : Int32))] [])) _
              refine XS.iload X42.here hx rfl (hb hby at_77) rfl ?_
              exact Steps.refl _)
          have hf50 : (0 : Int32) = (0 : Int32) := by decide
          have st51 : Steps p.tables e below (s₁.setTop (entryFrame m #[(.int x0), (.int x1)] maxLocals)) (T42.setTop (mkF m 92 #[.val (.int x0), .val (.int x1), .val (.int (x0.toUInt32.toUInt16.toUInt32.toInt32)), .val (.int (F1 (x0.toUInt32.toUInt16.toUInt32.toInt32))), .val (.int (0 : Int32)), .val (.int (x1 &&& (255 : Int32))), .val (.int (F2 (x1 &&& (255 : Int32)))), .val (.int (0 : Int32))] [(.int (0 : Int32))])) := st49.trans (by
              show Steps p.tables e below (T42.setTop (mkF m 79 #[.val (.int x0), .val (.int x1), .val (.int (x0.toUInt32.toUInt16.toUInt32.toInt32)), .val (.int (F1 (x0.toUInt32.toUInt16.toUInt32.toInt32))), .val (.int (0 : Int32)), .val (.int (x1 &&& (255 : Int32))), .val (.int (F2 (x1 &&& (255 : Int32)))), .val (.int (0 : Int32))] [(.int (0 : Int32))])) _
              refine XS.ifYes X42.here hx rfl (pc0 := 79) (pc' := 91) rfl (hb hby at_79) rfl ((if0 _ _).trans (teq hf50).1) (by decide) (by decide) ?_
              show Steps p.tables e below (T42.setTop (mkF m 91 #[.val (.int x0), .val (.int x1), .val (.int (x0.toUInt32.toUInt16.toUInt32.toInt32)), .val (.int (F1 (x0.toUInt32.toUInt16.toUInt32.toInt32))), .val (.int (0 : Int32)), .val (.int (x1 &&& (255 : Int32))), .val (.int (F2 (x1 &&& (255 : Int32)))), .val (.int (0 : Int32))] [])) _
              refine XS.iconst X42.here hx rfl (hb hby at_91) ?_
              exact Steps.refl _)
          obtain ⟨fs, hr, hrun, hended, hW, hsame⟩ := X42.leave (v := some (.int (0 : Int32))) (fun h => by rw [Bd.returns] at h; cases h)
          refine ⟨_, _, st51.trans ?_, hrun, hended, _, _, rfl, ?_, ⟨_, rfl⟩, hW, hsame.mono (by decide) (by decide)⟩
          · exact retN X42 hx (t := .boolean) Bd.returns (by simp) (hb hby at_92) hr
          · show Q0 Z x0 x1 h0 n0 _ T42.heap _
            rw [hh42]
            exact ⟨by rw [F0, if_neg hc5, if_pos hc32, if_neg hc37, if_neg hc45], N42⟩
    · have st52 : Steps p.tables e below (s₁.setTop (entryFrame m #[(.int x0), (.int x1)] maxLocals)) (T2.setTop (mkF m 21 #[.val (.int x0), .val (.int x1), .val (.int (x0.toUInt32.toUInt16.toUInt32.toInt32)), .val (.int (F1 (x0.toUInt32.toUInt16.toUInt32.toInt32))), .unset, .unset, .unset, .unset] [(.int (255 : Int32)), (.int (F1 (x0.toUInt32.toUInt16.toUInt32.toInt32)))])) := st31.trans (by
          show Steps p.tables e below (T2.setTop (mkF m 14 #[.val (.int x0), .val (.int x1), .val (.int (x0.toUInt32.toUInt16.toUInt32.toInt32)), .val (.int (F1 (x0.toUInt32.toUInt16.toUInt32.toInt32))), .unset, .unset, .unset, .unset] [(.int (F1 (x0.toUInt32.toUInt16.toUInt32.toInt32)))])) _
          refine XS.ifNo X2.here hx rfl (hb hby at_14) rfl ((if0 _ _).trans (flt hc32).1) ?_
          show Steps p.tables e below (T2.setTop (mkF m 17 #[.val (.int x0), .val (.int x1), .val (.int (x0.toUInt32.toUInt16.toUInt32.toInt32)), .val (.int (F1 (x0.toUInt32.toUInt16.toUInt32.toInt32))), .unset, .unset, .unset, .unset] [])) _
          refine XS.iloadN X2.here hx rfl (hb hby at_17) rfl ?_
          show Steps p.tables e below (T2.setTop (mkF m 18 #[.val (.int x0), .val (.int x1), .val (.int (x0.toUInt32.toUInt16.toUInt32.toInt32)), .val (.int (F1 (x0.toUInt32.toUInt16.toUInt32.toInt32))), .unset, .unset, .unset, .unset] [(.int (F1 (x0.toUInt32.toUInt16.toUInt32.toInt32)))])) _
          refine XS.sipush X2.here hx rfl (hb hby at_18) ?_
          exact Steps.refl _)
      by_cases hc53 : (255 : Int32) < (F1 (x0.toUInt32.toUInt16.toUInt32.toInt32))
      · have st54 : Steps p.tables e below (s₁.setTop (entryFrame m #[(.int x0), (.int x1)] maxLocals)) (T2.setTop (mkF m 48 #[.val (.int x0), .val (.int x1), .val (.int (x0.toUInt32.toUInt16.toUInt32.toInt32)), .val (.int (F1 (x0.toUInt32.toUInt16.toUInt32.toInt32))), .val (.int (0 : Int32)), .val (.int (x1 &&& (255 : Int32))), .unset, .unset] [(.int (x1 &&& (255 : Int32)))])) := st52.trans (by
            show Steps p.tables e below (T2.setTop (mkF m 21 #[.val (.int x0), .val (.int x1), .val (.int (x0.toUInt32.toUInt16.toUInt32.toInt32)), .val (.int (F1 (x0.toUInt32.toUInt16.toUInt32.toInt32))), .unset, .unset, .unset, .unset] [(.int (255 : Int32)), (.int (F1 (x0.toUInt32.toUInt16.toUInt32.toInt32)))])) _
            refine XS.icmpYes X2.here hx rfl (pc0 := 21) (pc' := 36) rfl (hb hby at_21) rfl (tlt hc53).2.2.1 (by decide) (by decide) ?_
            show Steps p.tables e below (T2.setTop (mkF m 36 #[.val (.int x0), .val (.int x1), .val (.int (x0.toUInt32.toUInt16.toUInt32.toInt32)), .val (.int (F1 (x0.toUInt32.toUInt16.toUInt32.toInt32))), .unset, .unset, .unset, .unset] [])) _
            refine XS.iconst X2.here hx rfl (hb hby at_36) ?_
            show Steps p.tables e below (T2.setTop (mkF m 37 #[.val (.int x0), .val (.int x1), .val (.int (x0.toUInt32.toUInt16.toUInt32.toInt32)), .val (.int (F1 (x0.toUInt32.toUInt16.toUInt32.toInt32))), .unset, .unset, .unset, .unset] [(.int (0 : Int32))])) _
            refine XS.istore X2.here hx rfl (hb hby at_37) rfl (l' := #[.val (.int x0), .val (.int x1), .val (.int (x0.toUInt32.toUInt16.toUInt32.toInt32)), .val (.int (F1 (x0.toUInt32.toUInt16.toUInt32.toInt32))), .val (.int (0 : Int32)), .unset, .unset, .unset]) rfl ?_
            show Steps p.tables e below (T2.setTop (mkF m 39 #[.val (.int x0), .val (.int x1), .val (.int (x0.toUInt32.toUInt16.toUInt32.toInt32)), .val (.int (F1 (x0.toUInt32.toUInt16.toUInt32.toInt32))), .val (.int (0 : Int32)), .unset, .unset, .unset] [])) _
            refine XS.iloadN X2.here hx rfl (hb hby at_39) rfl ?_
            show Steps p.tables e below (T2.setTop (mkF m 40 #[.val (.int x0), .val (.int x1), .val (.int (x0.toUInt32.toUInt16.toUInt32.toInt32)), .val (.int (F1 (x0.toUInt32.toUInt16.toUInt32.toInt32))), .val (.int (0 : Int32)), .unset, .unset, .unset] [(.int x1)])) _
            refine XS.sipush X2.here hx rfl (hb hby at_40) ?_
            show Steps p.tables e below (T2.setTop (mkF m 43 #[.val (.int x0), .val (.int x1), .val (.int (x0.toUInt32.toUInt16.toUInt32.toInt32)), .val (.int (F1 (x0.toUInt32.toUInt16.toUInt32.toInt32))), .val (.int (0 : Int32)), .unset, .unset, .unset] [(.int (255 : Int32)), (.int x1)])) _
            refine XS.iand X2.here hx rfl (hb hby at_43) rfl ?_
            show Steps p.tables e below (T2.setTop (mkF m 44 #[.val (.int x0), .val (.int x1), .val (.int (x0.toUInt32.toUInt16.toUInt32.toInt32)), .val (.int (F1 (x0.toUInt32.toUInt16.toUInt32.toInt32))), .val (.int (0 : Int32)), .unset, .unset, .unset] [(.int (x1 &&& (255 : Int32)))])) _
            refine XS.istore X2.here hx rfl (hb hby at_44) rfl (l' := #[.val (.int x0), .val (.int x1), .val (.int (x0.toUInt32.toUInt16.toUInt32.toInt32)), .val (.int (F1 (x0.toUInt32.toUInt16.toUInt32.toInt32))), .val (.int (0 : Int32)), .val (.int (x1 &&& (255 : Int32))), .unset, .unset]) rfl ?_
            show Steps p.tables e below (T2.setTop (mkF m 46 #[.val (.int x0), .val (.int x1), .val (.int (x0.toUInt32.toUInt16.toUInt32.toInt32)), .val (.int (F1 (x0.toUInt32.toUInt16.toUInt32.toInt32))), .val (.int (0 : Int32)), .val (.int (x1 &&& (255 : Int32))), .unset, .unset] [])) _
            refine XS.iload X2.here hx rfl (hb hby at_46) rfl ?_
            exact Steps.refl _)
        obtain ⟨_, _, ⟨T55, L55, k55, n55⟩, -, X55, ⟨Lc55, hQ55, l55, y55, z55⟩, sr55⟩ := Jvm.LawKit.callS X2 hx (y := (⟨"com/example/escritural/escritural/pdf/WinAnsiCodePinLaw", "decode", "(I)I"⟩ : MethodName)) hown (mvT hZ (hw _ (List.mem_of_getElem? (i := 4) rfl))) (mvT hZ (hw _ (List.mem_of_getElem? (i := 5) rfl))) (mvT hZ (hw _ (List.mem_of_getElem? (i := 6) rfl))) (mvT hZ (hw _ (List.mem_of_getElem? (i := 7) rfl))) (by decide) (backOf (W := 0) (rm2 l Z a0 hw [] (x1 &&& (255 : Int32))  h0 n0 Z0 ) hZ (hw _ (List.mem_of_getElem? (i := 7) rfl)) (hw _ (List.mem_of_getElem? (i := 6) rfl)) (by decide) (by decide)) (g := (mkF m 48 #[.val (.int x0), .val (.int x1), .val (.int (x0.toUInt32.toUInt16.toUInt32.toInt32)), .val (.int (F1 (x0.toUInt32.toUInt16.toUInt32.toInt32))), .val (.int (0 : Int32)), .val (.int (x1 &&& (255 : Int32))), .unset, .unset] [(.int (x1 &&& (255 : Int32)))])) rfl (by rw [hml]; rfl) (argsL := [(.int (x1 &&& (255 : Int32)))]) (rest := []) (lenOf pd_1 rfl) rfl (by show 2 * 0 + _ ≤ _; exact Nat.le_of_eq rfl) (hb hby at_48) (fun _ _ => ⟨rfl, hh2, (by decide : 0 + 0 ≤ _), (by decide : 0 + 0 ≤ _)⟩)
        dsimp only [Pt.U, Pt.locs, Pt.cells, Pt.slots] at X55 l55 y55 z55 sr55 hQ55
        subst l55 y55 z55
        obtain ⟨rfl, N55q, hh55⟩ := hQ55
        have N55 := Fr.app N2 N55q
        have st56 : Steps p.tables e below (s₁.setTop (entryFrame m #[(.int x0), (.int x1)] maxLocals)) (T55.setTop (mkF m 51 #[.val (.int x0), .val (.int x1), .val (.int (x0.toUInt32.toUInt16.toUInt32.toInt32)), .val (.int (F1 (x0.toUInt32.toUInt16.toUInt32.toInt32))), .val (.int (0 : Int32)), .val (.int (x1 &&& (255 : Int32))), .unset, .unset] [(.int (F2 (x1 &&& (255 : Int32))))])) := st54.trans (sr55 _ (Steps.refl _))
        have st57 : Steps p.tables e below (s₁.setTop (entryFrame m #[(.int x0), (.int x1)] maxLocals)) (T55.setTop (mkF m 56 #[.val (.int x0), .val (.int x1), .val (.int (x0.toUInt32.toUInt16.toUInt32.toInt32)), .val (.int (F1 (x0.toUInt32.toUInt16.toUInt32.toInt32))), .val (.int (0 : Int32)), .val (.int (x1 &&& (255 : Int32))), .val (.int (F2 (x1 &&& (255 : Int32)))), .unset] [(.int (-1 : Int32)), (.int (F2 (x1 &&& (255 : Int32))))])) := st56.trans (by
            show Steps p.tables e below (T55.setTop (mkF m 51 #[.val (.int x0), .val (.int x1), .val (.int (x0.toUInt32.toUInt16.toUInt32.toInt32)), .val (.int (F1 (x0.toUInt32.toUInt16.toUInt32.toInt32))), .val (.int (0 : Int32)), .val (.int (x1 &&& (255 : Int32))), .unset, .unset] [(.int (F2 (x1 &&& (255 : Int32))))])) _
            refine XS.istore X55.here hx rfl (hb hby at_51) rfl (l' := #[.val (.int x0), .val (.int x1), .val (.int (x0.toUInt32.toUInt16.toUInt32.toInt32)), .val (.int (F1 (x0.toUInt32.toUInt16.toUInt32.toInt32))), .val (.int (0 : Int32)), .val (.int (x1 &&& (255 : Int32))), .val (.int (F2 (x1 &&& (255 : Int32)))), .unset]) rfl ?_
            show Steps p.tables e below (T55.setTop (mkF m 53 #[.val (.int x0), .val (.int x1), .val (.int (x0.toUInt32.toUInt16.toUInt32.toInt32)), .val (.int (F1 (x0.toUInt32.toUInt16.toUInt32.toInt32))), .val (.int (0 : Int32)), .val (.int (x1 &&& (255 : Int32))), .val (.int (F2 (x1 &&& (255 : Int32)))), .unset] [])) _
            refine XS.iload X55.here hx rfl (hb hby at_53) rfl ?_
            show Steps p.tables e below (T55.setTop (mkF m 55 #[.val (.int x0), .val (.int x1), .val (.int (x0.toUInt32.toUInt16.toUInt32.toInt32)), .val (.int (F1 (x0.toUInt32.toUInt16.toUInt32.toInt32))), .val (.int (0 : Int32)), .val (.int (x1 &&& (255 : Int32))), .val (.int (F2 (x1 &&& (255 : Int32)))), .unset] [(.int (F2 (x1 &&& (255 : Int32))))])) _
            refine XS.iconst X55.here hx rfl (hb hby at_55) ?_
            exact Steps.refl _)
        by_cases hc58 : (F2 (x1 &&& (255 : Int32))) = (-1 : Int32)
        · have st59 : Steps p.tables e below (s₁.setTop (entryFrame m #[(.int x0), (.int x1)] maxLocals)) (T55.setTop (mkF m 79 #[.val (.int x0), .val (.int x1), .val (.int (x0.toUInt32.toUInt16.toUInt32.toInt32)), .val (.int (F1 (x0.toUInt32.toUInt16.toUInt32.toInt32))), .val (.int (0 : Int32)), .val (.int (x1 &&& (255 : Int32))), .val (.int (F2 (x1 &&& (255 : Int32)))), .val (.int (1 : Int32))] [(.int (0 : Int32))])) := st57.trans (by
              show Steps p.tables e below (T55.setTop (mkF m 56 #[.val (.int x0), .val (.int x1), .val (.int (x0.toUInt32.toUInt16.toUInt32.toInt32)), .val (.int (F1 (x0.toUInt32.toUInt16.toUInt32.toInt32))), .val (.int (0 : Int32)), .val (.int (x1 &&& (255 : Int32))), .val (.int (F2 (x1 &&& (255 : Int32)))), .unset] [(.int (-1 : Int32)), (.int (F2 (x1 &&& (255 : Int32))))])) _
              refine XS.icmpYes X55.here hx rfl (pc0 := 56) (pc' := 70) rfl (hb hby at_56) rfl (teq hc58).1 (by decide) (by decide) ?_
              show Steps p.tables e below (T55.setTop (mkF m 70 #[.val (.int x0), .val (.int x1), .val (.int (x0.toUInt32.toUInt16.toUInt32.toInt32)), .val (.int (F1 (x0.toUInt32.toUInt16.toUInt32.toInt32))), .val (.int (0 : Int32)), .val (.int (x1 &&& (255 : Int32))), .val (.int (F2 (x1 &&& (255 : Int32)))), .unset] [])) _
              refine XS.iconst X55.here hx rfl (hb hby at_70) ?_
              show Steps p.tables e below (T55.setTop (mkF m 71 #[.val (.int x0), .val (.int x1), .val (.int (x0.toUInt32.toUInt16.toUInt32.toInt32)), .val (.int (F1 (x0.toUInt32.toUInt16.toUInt32.toInt32))), .val (.int (0 : Int32)), .val (.int (x1 &&& (255 : Int32))), .val (.int (F2 (x1 &&& (255 : Int32)))), .unset] [(.int (1 : Int32))])) _
              refine XS.goto X55.here hx rfl (pc0 := 71) (pc' := 75) rfl (hb hby at_71) (by decide) (by decide) ?_
              show Steps p.tables e below (T55.setTop (mkF m 75 #[.val (.int x0), .val (.int x1), .val (.int (x0.toUInt32.toUInt16.toUInt32.toInt32)), .val (.int (F1 (x0.toUInt32.toUInt16.toUInt32.toInt32))), .val (.int (0 : Int32)), .val (.int (x1 &&& (255 : Int32))), .val (.int (F2 (x1 &&& (255 : Int32)))), .unset] [(.int (1 : Int32))])) _
              refine XS.istore X55.here hx rfl (hb hby at_75) rfl (l' := #[.val (.int x0), .val (.int x1), .val (.int (x0.toUInt32.toUInt16.toUInt32.toInt32)), .val (.int (F1 (x0.toUInt32.toUInt16.toUInt32.toInt32))), .val (.int (0 : Int32)), .val (.int (x1 &&& (255 : Int32))), .val (.int (F2 (x1 &&& (255 : Int32)))), .val (.int (1 : Int32))]) rfl ?_
              show Steps p.tables e below (T55.setTop (mkF m 77 #[.val (.int x0), .val (.int x1), .val (.int (x0.toUInt32.toUInt16.toUInt32.toInt32)), .val (.int (F1 (x0.toUInt32.toUInt16.toUInt32.toInt32))), .val (.int (0 : Int32)), .val (.int (x1 &&& (255 : Int32))), .val (.int (F2 (x1 &&& (255 : Int32)))), .val (.int (1 : Int32))] [])) _
              refine XS.iload X55.here hx rfl (hb hby at_77) rfl ?_
              exact Steps.refl _)
          have hf60 : (0 : Int32) = (0 : Int32) := by decide
          have st61 : Steps p.tables e below (s₁.setTop (entryFrame m #[(.int x0), (.int x1)] maxLocals)) (T55.setTop (mkF m 92 #[.val (.int x0), .val (.int x1), .val (.int (x0.toUInt32.toUInt16.toUInt32.toInt32)), .val (.int (F1 (x0.toUInt32.toUInt16.toUInt32.toInt32))), .val (.int (0 : Int32)), .val (.int (x1 &&& (255 : Int32))), .val (.int (F2 (x1 &&& (255 : Int32)))), .val (.int (1 : Int32))] [(.int (0 : Int32))])) := st59.trans (by
              show Steps p.tables e below (T55.setTop (mkF m 79 #[.val (.int x0), .val (.int x1), .val (.int (x0.toUInt32.toUInt16.toUInt32.toInt32)), .val (.int (F1 (x0.toUInt32.toUInt16.toUInt32.toInt32))), .val (.int (0 : Int32)), .val (.int (x1 &&& (255 : Int32))), .val (.int (F2 (x1 &&& (255 : Int32)))), .val (.int (1 : Int32))] [(.int (0 : Int32))])) _
              refine XS.ifYes X55.here hx rfl (pc0 := 79) (pc' := 91) rfl (hb hby at_79) rfl ((if0 _ _).trans (teq hf60).1) (by decide) (by decide) ?_
              show Steps p.tables e below (T55.setTop (mkF m 91 #[.val (.int x0), .val (.int x1), .val (.int (x0.toUInt32.toUInt16.toUInt32.toInt32)), .val (.int (F1 (x0.toUInt32.toUInt16.toUInt32.toInt32))), .val (.int (0 : Int32)), .val (.int (x1 &&& (255 : Int32))), .val (.int (F2 (x1 &&& (255 : Int32)))), .val (.int (1 : Int32))] [])) _
              refine XS.iconst X55.here hx rfl (hb hby at_91) ?_
              exact Steps.refl _)
          obtain ⟨fs, hr, hrun, hended, hW, hsame⟩ := X55.leave (v := some (.int (0 : Int32))) (fun h => by rw [Bd.returns] at h; cases h)
          refine ⟨_, _, st61.trans ?_, hrun, hended, _, _, rfl, ?_, ⟨_, rfl⟩, hW, hsame.mono (by decide) (by decide)⟩
          · exact retN X55 hx (t := .boolean) Bd.returns (by simp) (hb hby at_92) hr
          · show Q0 Z x0 x1 h0 n0 _ T55.heap _
            rw [hh55]
            exact ⟨by rw [F0, if_neg hc5, if_neg hc32, if_pos hc53, if_pos hc58], N55⟩
        · have st62 : Steps p.tables e below (s₁.setTop (entryFrame m #[(.int x0), (.int x1)] maxLocals)) (T55.setTop (mkF m 62 #[.val (.int x0), .val (.int x1), .val (.int (x0.toUInt32.toUInt16.toUInt32.toInt32)), .val (.int (F1 (x0.toUInt32.toUInt16.toUInt32.toInt32))), .val (.int (0 : Int32)), .val (.int (x1 &&& (255 : Int32))), .val (.int (F2 (x1 &&& (255 : Int32)))), .unset] [(.int ((F2 (x1 &&& (255 : Int32))).toUInt32.toUInt16.toUInt32.toInt32))])) := st57.trans (by
              show Steps p.tables e below (T55.setTop (mkF m 56 #[.val (.int x0), .val (.int x1), .val (.int (x0.toUInt32.toUInt16.toUInt32.toInt32)), .val (.int (F1 (x0.toUInt32.toUInt16.toUInt32.toInt32))), .val (.int (0 : Int32)), .val (.int (x1 &&& (255 : Int32))), .val (.int (F2 (x1 &&& (255 : Int32)))), .unset] [(.int (-1 : Int32)), (.int (F2 (x1 &&& (255 : Int32))))])) _
              refine XS.icmpNo X55.here hx rfl (hb hby at_56) rfl (feq hc58).1 ?_
              show Steps p.tables e below (T55.setTop (mkF m 59 #[.val (.int x0), .val (.int x1), .val (.int (x0.toUInt32.toUInt16.toUInt32.toInt32)), .val (.int (F1 (x0.toUInt32.toUInt16.toUInt32.toInt32))), .val (.int (0 : Int32)), .val (.int (x1 &&& (255 : Int32))), .val (.int (F2 (x1 &&& (255 : Int32)))), .unset] [])) _
              refine XS.iload X55.here hx rfl (hb hby at_59) rfl ?_
              show Steps p.tables e below (T55.setTop (mkF m 61 #[.val (.int x0), .val (.int x1), .val (.int (x0.toUInt32.toUInt16.toUInt32.toInt32)), .val (.int (F1 (x0.toUInt32.toUInt16.toUInt32.toInt32))), .val (.int (0 : Int32)), .val (.int (x1 &&& (255 : Int32))), .val (.int (F2 (x1 &&& (255 : Int32)))), .unset] [(.int (F2 (x1 &&& (255 : Int32))))])) _
              refine XS.i2c X55.here hx rfl (hb hby at_61) rfl ?_
              exact Steps.refl _)
          obtain ⟨_, _, ⟨T63, L63, k63, n63⟩, -, X63, ⟨Lc63, hQ63, l63, y63, z63⟩, sr63⟩ := Jvm.LawKit.callS X55 hx (y := (⟨"com/example/escritural/escritural/pdf/WinAnsi", "code", "(C)I"⟩ : MethodName)) hown (mvT hZ (hw _ (List.mem_of_getElem? (i := 0) rfl))) (mvT hZ (hw _ (List.mem_of_getElem? (i := 1) rfl))) (mvT hZ (hw _ (List.mem_of_getElem? (i := 2) rfl))) (mvT hZ (hw _ (List.mem_of_getElem? (i := 3) rfl))) (by decide) (backOf (W := 0) (rm1 l Z a0 hw [] ((F2 (x1 &&& (255 : Int32))).toUInt32.toUInt16.toUInt32.toInt32)  h0 n0 Z0 ) hZ (hw _ (List.mem_of_getElem? (i := 3) rfl)) (hw _ (List.mem_of_getElem? (i := 2) rfl)) (by decide) (by decide)) (g := (mkF m 62 #[.val (.int x0), .val (.int x1), .val (.int (x0.toUInt32.toUInt16.toUInt32.toInt32)), .val (.int (F1 (x0.toUInt32.toUInt16.toUInt32.toInt32))), .val (.int (0 : Int32)), .val (.int (x1 &&& (255 : Int32))), .val (.int (F2 (x1 &&& (255 : Int32)))), .unset] [(.int ((F2 (x1 &&& (255 : Int32))).toUInt32.toUInt16.toUInt32.toInt32))])) rfl (by rw [hml]; rfl) (argsL := [(.int ((F2 (x1 &&& (255 : Int32))).toUInt32.toUInt16.toUInt32.toInt32))]) (rest := []) (lenOf pd_0 rfl) rfl (by show 2 * 0 + _ ≤ _; exact Nat.le_of_eq rfl) (hb hby at_62) (fun _ _ => ⟨rfl, hh55, (by decide : 0 + 0 ≤ _), (by decide : 0 + 0 ≤ _)⟩)
          dsimp only [Pt.U, Pt.locs, Pt.cells, Pt.slots] at X63 l63 y63 z63 sr63 hQ63
          subst l63 y63 z63
          obtain ⟨rfl, N63q, hh63⟩ := hQ63
          have N63 := Fr.app N55 N63q
          have st64 : Steps p.tables e below (s₁.setTop (entryFrame m #[(.int x0), (.int x1)] maxLocals)) (T63.setTop (mkF m 65 #[.val (.int x0), .val (.int x1), .val (.int (x0.toUInt32.toUInt16.toUInt32.toInt32)), .val (.int (F1 (x0.toUInt32.toUInt16.toUInt32.toInt32))), .val (.int (0 : Int32)), .val (.int (x1 &&& (255 : Int32))), .val (.int (F2 (x1 &&& (255 : Int32)))), .unset] [(.int (F1 ((F2 (x1 &&& (255 : Int32))).toUInt32.toUInt16.toUInt32.toInt32)))])) := st62.trans (sr63 _ (Steps.refl _))
          have st65 : Steps p.tables e below (s₁.setTop (entryFrame m #[(.int x0), (.int x1)] maxLocals)) (T63.setTop (mkF m 67 #[.val (.int x0), .val (.int x1), .val (.int (x0.toUInt32.toUInt16.toUInt32.toInt32)), .val (.int (F1 (x0.toUInt32.toUInt16.toUInt32.toInt32))), .val (.int (0 : Int32)), .val (.int (x1 &&& (255 : Int32))), .val (.int (F2 (x1 &&& (255 : Int32)))), .unset] [(.int (x1 &&& (255 : Int32))), (.int (F1 ((F2 (x1 &&& (255 : Int32))).toUInt32.toUInt16.toUInt32.toInt32)))])) := st64.trans (by
              show Steps p.tables e below (T63.setTop (mkF m 65 #[.val (.int x0), .val (.int x1), .val (.int (x0.toUInt32.toUInt16.toUInt32.toInt32)), .val (.int (F1 (x0.toUInt32.toUInt16.toUInt32.toInt32))), .val (.int (0 : Int32)), .val (.int (x1 &&& (255 : Int32))), .val (.int (F2 (x1 &&& (255 : Int32)))), .unset] [(.int (F1 ((F2 (x1 &&& (255 : Int32))).toUInt32.toUInt16.toUInt32.toInt32)))])) _
              refine XS.iload X63.here hx rfl (hb hby at_65) rfl ?_
              exact Steps.refl _)
          by_cases hc66 : (F1 ((F2 (x1 &&& (255 : Int32))).toUInt32.toUInt16.toUInt32.toInt32)) = (x1 &&& (255 : Int32))
          · have st67 : Steps p.tables e below (s₁.setTop (entryFrame m #[(.int x0), (.int x1)] maxLocals)) (T63.setTop (mkF m 79 #[.val (.int x0), .val (.int x1), .val (.int (x0.toUInt32.toUInt16.toUInt32.toInt32)), .val (.int (F1 (x0.toUInt32.toUInt16.toUInt32.toInt32))), .val (.int (0 : Int32)), .val (.int (x1 &&& (255 : Int32))), .val (.int (F2 (x1 &&& (255 : Int32)))), .val (.int (1 : Int32))] [(.int (0 : Int32))])) := st65.trans (by
                show Steps p.tables e below (T63.setTop (mkF m 67 #[.val (.int x0), .val (.int x1), .val (.int (x0.toUInt32.toUInt16.toUInt32.toInt32)), .val (.int (F1 (x0.toUInt32.toUInt16.toUInt32.toInt32))), .val (.int (0 : Int32)), .val (.int (x1 &&& (255 : Int32))), .val (.int (F2 (x1 &&& (255 : Int32)))), .unset] [(.int (x1 &&& (255 : Int32))), (.int (F1 ((F2 (x1 &&& (255 : Int32))).toUInt32.toUInt16.toUInt32.toInt32)))])) _
                refine XS.icmpNo X63.here hx rfl (hb hby at_67) rfl (teq hc66).2 ?_
                show Steps p.tables e below (T63.setTop (mkF m 70 #[.val (.int x0), .val (.int x1), .val (.int (x0.toUInt32.toUInt16.toUInt32.toInt32)), .val (.int (F1 (x0.toUInt32.toUInt16.toUInt32.toInt32))), .val (.int (0 : Int32)), .val (.int (x1 &&& (255 : Int32))), .val (.int (F2 (x1 &&& (255 : Int32)))), .unset] [])) _
                refine XS.iconst X63.here hx rfl (hb hby at_70) ?_
                show Steps p.tables e below (T63.setTop (mkF m 71 #[.val (.int x0), .val (.int x1), .val (.int (x0.toUInt32.toUInt16.toUInt32.toInt32)), .val (.int (F1 (x0.toUInt32.toUInt16.toUInt32.toInt32))), .val (.int (0 : Int32)), .val (.int (x1 &&& (255 : Int32))), .val (.int (F2 (x1 &&& (255 : Int32)))), .unset] [(.int (1 : Int32))])) _
                refine XS.goto X63.here hx rfl (pc0 := 71) (pc' := 75) rfl (hb hby at_71) (by decide) (by decide) ?_
                show Steps p.tables e below (T63.setTop (mkF m 75 #[.val (.int x0), .val (.int x1), .val (.int (x0.toUInt32.toUInt16.toUInt32.toInt32)), .val (.int (F1 (x0.toUInt32.toUInt16.toUInt32.toInt32))), .val (.int (0 : Int32)), .val (.int (x1 &&& (255 : Int32))), .val (.int (F2 (x1 &&& (255 : Int32)))), .unset] [(.int (1 : Int32))])) _
                refine XS.istore X63.here hx rfl (hb hby at_75) rfl (l' := #[.val (.int x0), .val (.int x1), .val (.int (x0.toUInt32.toUInt16.toUInt32.toInt32)), .val (.int (F1 (x0.toUInt32.toUInt16.toUInt32.toInt32))), .val (.int (0 : Int32)), .val (.int (x1 &&& (255 : Int32))), .val (.int (F2 (x1 &&& (255 : Int32)))), .val (.int (1 : Int32))]) rfl ?_
                show Steps p.tables e below (T63.setTop (mkF m 77 #[.val (.int x0), .val (.int x1), .val (.int (x0.toUInt32.toUInt16.toUInt32.toInt32)), .val (.int (F1 (x0.toUInt32.toUInt16.toUInt32.toInt32))), .val (.int (0 : Int32)), .val (.int (x1 &&& (255 : Int32))), .val (.int (F2 (x1 &&& (255 : Int32)))), .val (.int (1 : Int32))] [])) _
                refine XS.iload X63.here hx rfl (hb hby at_77) rfl ?_
                exact Steps.refl _)
            have hf68 : (0 : Int32) = (0 : Int32) := by decide
            have st69 : Steps p.tables e below (s₁.setTop (entryFrame m #[(.int x0), (.int x1)] maxLocals)) (T63.setTop (mkF m 92 #[.val (.int x0), .val (.int x1), .val (.int (x0.toUInt32.toUInt16.toUInt32.toInt32)), .val (.int (F1 (x0.toUInt32.toUInt16.toUInt32.toInt32))), .val (.int (0 : Int32)), .val (.int (x1 &&& (255 : Int32))), .val (.int (F2 (x1 &&& (255 : Int32)))), .val (.int (1 : Int32))] [(.int (0 : Int32))])) := st67.trans (by
                show Steps p.tables e below (T63.setTop (mkF m 79 #[.val (.int x0), .val (.int x1), .val (.int (x0.toUInt32.toUInt16.toUInt32.toInt32)), .val (.int (F1 (x0.toUInt32.toUInt16.toUInt32.toInt32))), .val (.int (0 : Int32)), .val (.int (x1 &&& (255 : Int32))), .val (.int (F2 (x1 &&& (255 : Int32)))), .val (.int (1 : Int32))] [(.int (0 : Int32))])) _
                refine XS.ifYes X63.here hx rfl (pc0 := 79) (pc' := 91) rfl (hb hby at_79) rfl ((if0 _ _).trans (teq hf68).1) (by decide) (by decide) ?_
                show Steps p.tables e below (T63.setTop (mkF m 91 #[.val (.int x0), .val (.int x1), .val (.int (x0.toUInt32.toUInt16.toUInt32.toInt32)), .val (.int (F1 (x0.toUInt32.toUInt16.toUInt32.toInt32))), .val (.int (0 : Int32)), .val (.int (x1 &&& (255 : Int32))), .val (.int (F2 (x1 &&& (255 : Int32)))), .val (.int (1 : Int32))] [])) _
                refine XS.iconst X63.here hx rfl (hb hby at_91) ?_
                exact Steps.refl _)
            obtain ⟨fs, hr, hrun, hended, hW, hsame⟩ := X63.leave (v := some (.int (0 : Int32))) (fun h => by rw [Bd.returns] at h; cases h)
            refine ⟨_, _, st69.trans ?_, hrun, hended, _, _, rfl, ?_, ⟨_, rfl⟩, hW, hsame.mono (by decide) (by decide)⟩
            · exact retN X63 hx (t := .boolean) Bd.returns (by simp) (hb hby at_92) hr
            · show Q0 Z x0 x1 h0 n0 _ T63.heap _
              rw [hh63]
              exact ⟨by rw [F0, if_neg hc5, if_neg hc32, if_pos hc53, if_neg hc58, if_pos hc66], N63⟩
          · have st70 : Steps p.tables e below (s₁.setTop (entryFrame m #[(.int x0), (.int x1)] maxLocals)) (T63.setTop (mkF m 79 #[.val (.int x0), .val (.int x1), .val (.int (x0.toUInt32.toUInt16.toUInt32.toInt32)), .val (.int (F1 (x0.toUInt32.toUInt16.toUInt32.toInt32))), .val (.int (0 : Int32)), .val (.int (x1 &&& (255 : Int32))), .val (.int (F2 (x1 &&& (255 : Int32)))), .val (.int (0 : Int32))] [(.int (0 : Int32))])) := st65.trans (by
                show Steps p.tables e below (T63.setTop (mkF m 67 #[.val (.int x0), .val (.int x1), .val (.int (x0.toUInt32.toUInt16.toUInt32.toInt32)), .val (.int (F1 (x0.toUInt32.toUInt16.toUInt32.toInt32))), .val (.int (0 : Int32)), .val (.int (x1 &&& (255 : Int32))), .val (.int (F2 (x1 &&& (255 : Int32)))), .unset] [(.int (x1 &&& (255 : Int32))), (.int (F1 ((F2 (x1 &&& (255 : Int32))).toUInt32.toUInt16.toUInt32.toInt32)))])) _
                refine XS.icmpYes X63.here hx rfl (pc0 := 67) (pc' := 74) rfl (hb hby at_67) rfl (feq hc66).2 (by decide) (by decide) ?_
                show Steps p.tables e below (T63.setTop (mkF m 74 #[.val (.int x0), .val (.int x1), .val (.int (x0.toUInt32.toUInt16.toUInt32.toInt32)), .val (.int (F1 (x0.toUInt32.toUInt16.toUInt32.toInt32))), .val (.int (0 : Int32)), .val (.int (x1 &&& (255 : Int32))), .val (.int (F2 (x1 &&& (255 : Int32)))), .unset] [])) _
                refine XS.iconst X63.here hx rfl (hb hby at_74) ?_
                show Steps p.tables e below (T63.setTop (mkF m 75 #[.val (.int x0), .val (.int x1), .val (.int (x0.toUInt32.toUInt16.toUInt32.toInt32)), .val (.int (F1 (x0.toUInt32.toUInt16.toUInt32.toInt32))), .val (.int (0 : Int32)), .val (.int (x1 &&& (255 : Int32))), .val (.int (F2 (x1 &&& (255 : Int32)))), .unset] [(.int (0 : Int32))])) _
                refine XS.istore X63.here hx rfl (hb hby at_75) rfl (l' := #[.val (.int x0), .val (.int x1), .val (.int (x0.toUInt32.toUInt16.toUInt32.toInt32)), .val (.int (F1 (x0.toUInt32.toUInt16.toUInt32.toInt32))), .val (.int (0 : Int32)), .val (.int (x1 &&& (255 : Int32))), .val (.int (F2 (x1 &&& (255 : Int32)))), .val (.int (0 : Int32))]) rfl ?_
                show Steps p.tables e below (T63.setTop (mkF m 77 #[.val (.int x0), .val (.int x1), .val (.int (x0.toUInt32.toUInt16.toUInt32.toInt32)), .val (.int (F1 (x0.toUInt32.toUInt16.toUInt32.toInt32))), .val (.int (0 : Int32)), .val (.int (x1 &&& (255 : Int32))), .val (.int (F2 (x1 &&& (255 : Int32)))), .val (.int (0 : Int32))] [])) _
                refine XS.iload X63.here hx rfl (hb hby at_77) rfl ?_
                exact Steps.refl _)
            have hf71 : (0 : Int32) = (0 : Int32) := by decide
            have st72 : Steps p.tables e below (s₁.setTop (entryFrame m #[(.int x0), (.int x1)] maxLocals)) (T63.setTop (mkF m 92 #[.val (.int x0), .val (.int x1), .val (.int (x0.toUInt32.toUInt16.toUInt32.toInt32)), .val (.int (F1 (x0.toUInt32.toUInt16.toUInt32.toInt32))), .val (.int (0 : Int32)), .val (.int (x1 &&& (255 : Int32))), .val (.int (F2 (x1 &&& (255 : Int32)))), .val (.int (0 : Int32))] [(.int (0 : Int32))])) := st70.trans (by
                show Steps p.tables e below (T63.setTop (mkF m 79 #[.val (.int x0), .val (.int x1), .val (.int (x0.toUInt32.toUInt16.toUInt32.toInt32)), .val (.int (F1 (x0.toUInt32.toUInt16.toUInt32.toInt32))), .val (.int (0 : Int32)), .val (.int (x1 &&& (255 : Int32))), .val (.int (F2 (x1 &&& (255 : Int32)))), .val (.int (0 : Int32))] [(.int (0 : Int32))])) _
                refine XS.ifYes X63.here hx rfl (pc0 := 79) (pc' := 91) rfl (hb hby at_79) rfl ((if0 _ _).trans (teq hf71).1) (by decide) (by decide) ?_
                show Steps p.tables e below (T63.setTop (mkF m 91 #[.val (.int x0), .val (.int x1), .val (.int (x0.toUInt32.toUInt16.toUInt32.toInt32)), .val (.int (F1 (x0.toUInt32.toUInt16.toUInt32.toInt32))), .val (.int (0 : Int32)), .val (.int (x1 &&& (255 : Int32))), .val (.int (F2 (x1 &&& (255 : Int32)))), .val (.int (0 : Int32))] [])) _
                refine XS.iconst X63.here hx rfl (hb hby at_91) ?_
                exact Steps.refl _)
            obtain ⟨fs, hr, hrun, hended, hW, hsame⟩ := X63.leave (v := some (.int (0 : Int32))) (fun h => by rw [Bd.returns] at h; cases h)
            refine ⟨_, _, st72.trans ?_, hrun, hended, _, _, rfl, ?_, ⟨_, rfl⟩, hW, hsame.mono (by decide) (by decide)⟩
            · exact retN X63 hx (t := .boolean) Bd.returns (by simp) (hb hby at_92) hr
            · show Q0 Z x0 x1 h0 n0 _ T63.heap _
              rw [hh63]
              exact ⟨by rw [F0, if_neg hc5, if_neg hc32, if_pos hc53, if_neg hc58, if_neg hc66], N63⟩
      · have st73 : Steps p.tables e below (s₁.setTop (entryFrame m #[(.int x0), (.int x1)] maxLocals)) (T2.setTop (mkF m 25 #[.val (.int x0), .val (.int x1), .val (.int (x0.toUInt32.toUInt16.toUInt32.toInt32)), .val (.int (F1 (x0.toUInt32.toUInt16.toUInt32.toInt32))), .unset, .unset, .unset, .unset] [(.int (F1 (x0.toUInt32.toUInt16.toUInt32.toInt32)))])) := st52.trans (by
            show Steps p.tables e below (T2.setTop (mkF m 21 #[.val (.int x0), .val (.int x1), .val (.int (x0.toUInt32.toUInt16.toUInt32.toInt32)), .val (.int (F1 (x0.toUInt32.toUInt16.toUInt32.toInt32))), .unset, .unset, .unset, .unset] [(.int (255 : Int32)), (.int (F1 (x0.toUInt32.toUInt16.toUInt32.toInt32)))])) _
            refine XS.icmpNo X2.here hx rfl (hb hby at_21) rfl (flt hc53).2.2.1 ?_
            show Steps p.tables e below (T2.setTop (mkF m 24 #[.val (.int x0), .val (.int x1), .val (.int (x0.toUInt32.toUInt16.toUInt32.toInt32)), .val (.int (F1 (x0.toUInt32.toUInt16.toUInt32.toInt32))), .unset, .unset, .unset, .unset] [])) _
            refine XS.iloadN X2.here hx rfl (hb hby at_24) rfl ?_
            exact Steps.refl _)
        obtain ⟨_, _, ⟨T74, L74, k74, n74⟩, -, X74, ⟨Lc74, hQ74, l74, y74, z74⟩, sr74⟩ := Jvm.LawKit.callS X2 hx (y := (⟨"com/example/escritural/escritural/pdf/WinAnsiCodePinLaw", "decode", "(I)I"⟩ : MethodName)) hown (mvT hZ (hw _ (List.mem_of_getElem? (i := 4) rfl))) (mvT hZ (hw _ (List.mem_of_getElem? (i := 5) rfl))) (mvT hZ (hw _ (List.mem_of_getElem? (i := 6) rfl))) (mvT hZ (hw _ (List.mem_of_getElem? (i := 7) rfl))) (by decide) (backOf (W := 0) (rm2 l Z a0 hw [] (F1 (x0.toUInt32.toUInt16.toUInt32.toInt32))  h0 n0 Z0 ) hZ (hw _ (List.mem_of_getElem? (i := 7) rfl)) (hw _ (List.mem_of_getElem? (i := 6) rfl)) (by decide) (by decide)) (g := (mkF m 25 #[.val (.int x0), .val (.int x1), .val (.int (x0.toUInt32.toUInt16.toUInt32.toInt32)), .val (.int (F1 (x0.toUInt32.toUInt16.toUInt32.toInt32))), .unset, .unset, .unset, .unset] [(.int (F1 (x0.toUInt32.toUInt16.toUInt32.toInt32)))])) rfl (by rw [hml]; rfl) (argsL := [(.int (F1 (x0.toUInt32.toUInt16.toUInt32.toInt32)))]) (rest := []) (lenOf pd_1 rfl) rfl (by show 2 * 0 + _ ≤ _; exact Nat.le_of_eq rfl) (hb hby at_25) (fun _ _ => ⟨rfl, hh2, (by decide : 0 + 0 ≤ _), (by decide : 0 + 0 ≤ _)⟩)
        dsimp only [Pt.U, Pt.locs, Pt.cells, Pt.slots] at X74 l74 y74 z74 sr74 hQ74
        subst l74 y74 z74
        obtain ⟨rfl, N74q, hh74⟩ := hQ74
        have N74 := Fr.app N2 N74q
        have st75 : Steps p.tables e below (s₁.setTop (entryFrame m #[(.int x0), (.int x1)] maxLocals)) (T74.setTop (mkF m 28 #[.val (.int x0), .val (.int x1), .val (.int (x0.toUInt32.toUInt16.toUInt32.toInt32)), .val (.int (F1 (x0.toUInt32.toUInt16.toUInt32.toInt32))), .unset, .unset, .unset, .unset] [(.int (F2 (F1 (x0.toUInt32.toUInt16.toUInt32.toInt32))))])) := st73.trans (sr74 _ (Steps.refl _))
        have st76 : Steps p.tables e below (s₁.setTop (entryFrame m #[(.int x0), (.int x1)] maxLocals)) (T74.setTop (mkF m 29 #[.val (.int x0), .val (.int x1), .val (.int (x0.toUInt32.toUInt16.toUInt32.toInt32)), .val (.int (F1 (x0.toUInt32.toUInt16.toUInt32.toInt32))), .unset, .unset, .unset, .unset] [(.int (x0.toUInt32.toUInt16.toUInt32.toInt32)), (.int (F2 (F1 (x0.toUInt32.toUInt16.toUInt32.toInt32))))])) := st75.trans (by
            show Steps p.tables e below (T74.setTop (mkF m 28 #[.val (.int x0), .val (.int x1), .val (.int (x0.toUInt32.toUInt16.toUInt32.toInt32)), .val (.int (F1 (x0.toUInt32.toUInt16.toUInt32.toInt32))), .unset, .unset, .unset, .unset] [(.int (F2 (F1 (x0.toUInt32.toUInt16.toUInt32.toInt32))))])) _
            refine XS.iloadN X74.here hx rfl (hb hby at_28) rfl ?_
            exact Steps.refl _)
        by_cases hc77 : (F2 (F1 (x0.toUInt32.toUInt16.toUInt32.toInt32))) = (x0.toUInt32.toUInt16.toUInt32.toInt32)
        · have st78 : Steps p.tables e below (s₁.setTop (entryFrame m #[(.int x0), (.int x1)] maxLocals)) (T74.setTop (mkF m 48 #[.val (.int x0), .val (.int x1), .val (.int (x0.toUInt32.toUInt16.toUInt32.toInt32)), .val (.int (F1 (x0.toUInt32.toUInt16.toUInt32.toInt32))), .val (.int (1 : Int32)), .val (.int (x1 &&& (255 : Int32))), .unset, .unset] [(.int (x1 &&& (255 : Int32)))])) := st76.trans (by
              show Steps p.tables e below (T74.setTop (mkF m 29 #[.val (.int x0), .val (.int x1), .val (.int (x0.toUInt32.toUInt16.toUInt32.toInt32)), .val (.int (F1 (x0.toUInt32.toUInt16.toUInt32.toInt32))), .unset, .unset, .unset, .unset] [(.int (x0.toUInt32.toUInt16.toUInt32.toInt32)), (.int (F2 (F1 (x0.toUInt32.toUInt16.toUInt32.toInt32))))])) _
              refine XS.icmpNo X74.here hx rfl (hb hby at_29) rfl (teq hc77).2 ?_
              show Steps p.tables e below (T74.setTop (mkF m 32 #[.val (.int x0), .val (.int x1), .val (.int (x0.toUInt32.toUInt16.toUInt32.toInt32)), .val (.int (F1 (x0.toUInt32.toUInt16.toUInt32.toInt32))), .unset, .unset, .unset, .unset] [])) _
              refine XS.iconst X74.here hx rfl (hb hby at_32) ?_
              show Steps p.tables e below (T74.setTop (mkF m 33 #[.val (.int x0), .val (.int x1), .val (.int (x0.toUInt32.toUInt16.toUInt32.toInt32)), .val (.int (F1 (x0.toUInt32.toUInt16.toUInt32.toInt32))), .unset, .unset, .unset, .unset] [(.int (1 : Int32))])) _
              refine XS.goto X74.here hx rfl (pc0 := 33) (pc' := 37) rfl (hb hby at_33) (by decide) (by decide) ?_
              show Steps p.tables e below (T74.setTop (mkF m 37 #[.val (.int x0), .val (.int x1), .val (.int (x0.toUInt32.toUInt16.toUInt32.toInt32)), .val (.int (F1 (x0.toUInt32.toUInt16.toUInt32.toInt32))), .unset, .unset, .unset, .unset] [(.int (1 : Int32))])) _
              refine XS.istore X74.here hx rfl (hb hby at_37) rfl (l' := #[.val (.int x0), .val (.int x1), .val (.int (x0.toUInt32.toUInt16.toUInt32.toInt32)), .val (.int (F1 (x0.toUInt32.toUInt16.toUInt32.toInt32))), .val (.int (1 : Int32)), .unset, .unset, .unset]) rfl ?_
              show Steps p.tables e below (T74.setTop (mkF m 39 #[.val (.int x0), .val (.int x1), .val (.int (x0.toUInt32.toUInt16.toUInt32.toInt32)), .val (.int (F1 (x0.toUInt32.toUInt16.toUInt32.toInt32))), .val (.int (1 : Int32)), .unset, .unset, .unset] [])) _
              refine XS.iloadN X74.here hx rfl (hb hby at_39) rfl ?_
              show Steps p.tables e below (T74.setTop (mkF m 40 #[.val (.int x0), .val (.int x1), .val (.int (x0.toUInt32.toUInt16.toUInt32.toInt32)), .val (.int (F1 (x0.toUInt32.toUInt16.toUInt32.toInt32))), .val (.int (1 : Int32)), .unset, .unset, .unset] [(.int x1)])) _
              refine XS.sipush X74.here hx rfl (hb hby at_40) ?_
              show Steps p.tables e below (T74.setTop (mkF m 43 #[.val (.int x0), .val (.int x1), .val (.int (x0.toUInt32.toUInt16.toUInt32.toInt32)), .val (.int (F1 (x0.toUInt32.toUInt16.toUInt32.toInt32))), .val (.int (1 : Int32)), .unset, .unset, .unset] [(.int (255 : Int32)), (.int x1)])) _
              refine XS.iand X74.here hx rfl (hb hby at_43) rfl ?_
              show Steps p.tables e below (T74.setTop (mkF m 44 #[.val (.int x0), .val (.int x1), .val (.int (x0.toUInt32.toUInt16.toUInt32.toInt32)), .val (.int (F1 (x0.toUInt32.toUInt16.toUInt32.toInt32))), .val (.int (1 : Int32)), .unset, .unset, .unset] [(.int (x1 &&& (255 : Int32)))])) _
              refine XS.istore X74.here hx rfl (hb hby at_44) rfl (l' := #[.val (.int x0), .val (.int x1), .val (.int (x0.toUInt32.toUInt16.toUInt32.toInt32)), .val (.int (F1 (x0.toUInt32.toUInt16.toUInt32.toInt32))), .val (.int (1 : Int32)), .val (.int (x1 &&& (255 : Int32))), .unset, .unset]) rfl ?_
              show Steps p.tables e below (T74.setTop (mkF m 46 #[.val (.int x0), .val (.int x1), .val (.int (x0.toUInt32.toUInt16.toUInt32.toInt32)), .val (.int (F1 (x0.toUInt32.toUInt16.toUInt32.toInt32))), .val (.int (1 : Int32)), .val (.int (x1 &&& (255 : Int32))), .unset, .unset] [])) _
              refine XS.iload X74.here hx rfl (hb hby at_46) rfl ?_
              exact Steps.refl _)
          obtain ⟨_, _, ⟨T79, L79, k79, n79⟩, -, X79, ⟨Lc79, hQ79, l79, y79, z79⟩, sr79⟩ := Jvm.LawKit.callS X74 hx (y := (⟨"com/example/escritural/escritural/pdf/WinAnsiCodePinLaw", "decode", "(I)I"⟩ : MethodName)) hown (mvT hZ (hw _ (List.mem_of_getElem? (i := 4) rfl))) (mvT hZ (hw _ (List.mem_of_getElem? (i := 5) rfl))) (mvT hZ (hw _ (List.mem_of_getElem? (i := 6) rfl))) (mvT hZ (hw _ (List.mem_of_getElem? (i := 7) rfl))) (by decide) (backOf (W := 0) (rm2 l Z a0 hw [] (x1 &&& (255 : Int32))  h0 n0 Z0 ) hZ (hw _ (List.mem_of_getElem? (i := 7) rfl)) (hw _ (List.mem_of_getElem? (i := 6) rfl)) (by decide) (by decide)) (g := (mkF m 48 #[.val (.int x0), .val (.int x1), .val (.int (x0.toUInt32.toUInt16.toUInt32.toInt32)), .val (.int (F1 (x0.toUInt32.toUInt16.toUInt32.toInt32))), .val (.int (1 : Int32)), .val (.int (x1 &&& (255 : Int32))), .unset, .unset] [(.int (x1 &&& (255 : Int32)))])) rfl (by rw [hml]; rfl) (argsL := [(.int (x1 &&& (255 : Int32)))]) (rest := []) (lenOf pd_1 rfl) rfl (by show 2 * 0 + _ ≤ _; exact Nat.le_of_eq rfl) (hb hby at_48) (fun _ _ => ⟨rfl, hh74, (by decide : 0 + 0 ≤ _), (by decide : 0 + 0 ≤ _)⟩)
          dsimp only [Pt.U, Pt.locs, Pt.cells, Pt.slots] at X79 l79 y79 z79 sr79 hQ79
          subst l79 y79 z79
          obtain ⟨rfl, N79q, hh79⟩ := hQ79
          have N79 := Fr.app N74 N79q
          have st80 : Steps p.tables e below (s₁.setTop (entryFrame m #[(.int x0), (.int x1)] maxLocals)) (T79.setTop (mkF m 51 #[.val (.int x0), .val (.int x1), .val (.int (x0.toUInt32.toUInt16.toUInt32.toInt32)), .val (.int (F1 (x0.toUInt32.toUInt16.toUInt32.toInt32))), .val (.int (1 : Int32)), .val (.int (x1 &&& (255 : Int32))), .unset, .unset] [(.int (F2 (x1 &&& (255 : Int32))))])) := st78.trans (sr79 _ (Steps.refl _))
          have st81 : Steps p.tables e below (s₁.setTop (entryFrame m #[(.int x0), (.int x1)] maxLocals)) (T79.setTop (mkF m 56 #[.val (.int x0), .val (.int x1), .val (.int (x0.toUInt32.toUInt16.toUInt32.toInt32)), .val (.int (F1 (x0.toUInt32.toUInt16.toUInt32.toInt32))), .val (.int (1 : Int32)), .val (.int (x1 &&& (255 : Int32))), .val (.int (F2 (x1 &&& (255 : Int32)))), .unset] [(.int (-1 : Int32)), (.int (F2 (x1 &&& (255 : Int32))))])) := st80.trans (by
              show Steps p.tables e below (T79.setTop (mkF m 51 #[.val (.int x0), .val (.int x1), .val (.int (x0.toUInt32.toUInt16.toUInt32.toInt32)), .val (.int (F1 (x0.toUInt32.toUInt16.toUInt32.toInt32))), .val (.int (1 : Int32)), .val (.int (x1 &&& (255 : Int32))), .unset, .unset] [(.int (F2 (x1 &&& (255 : Int32))))])) _
              refine XS.istore X79.here hx rfl (hb hby at_51) rfl (l' := #[.val (.int x0), .val (.int x1), .val (.int (x0.toUInt32.toUInt16.toUInt32.toInt32)), .val (.int (F1 (x0.toUInt32.toUInt16.toUInt32.toInt32))), .val (.int (1 : Int32)), .val (.int (x1 &&& (255 : Int32))), .val (.int (F2 (x1 &&& (255 : Int32)))), .unset]) rfl ?_
              show Steps p.tables e below (T79.setTop (mkF m 53 #[.val (.int x0), .val (.int x1), .val (.int (x0.toUInt32.toUInt16.toUInt32.toInt32)), .val (.int (F1 (x0.toUInt32.toUInt16.toUInt32.toInt32))), .val (.int (1 : Int32)), .val (.int (x1 &&& (255 : Int32))), .val (.int (F2 (x1 &&& (255 : Int32)))), .unset] [])) _
              refine XS.iload X79.here hx rfl (hb hby at_53) rfl ?_
              show Steps p.tables e below (T79.setTop (mkF m 55 #[.val (.int x0), .val (.int x1), .val (.int (x0.toUInt32.toUInt16.toUInt32.toInt32)), .val (.int (F1 (x0.toUInt32.toUInt16.toUInt32.toInt32))), .val (.int (1 : Int32)), .val (.int (x1 &&& (255 : Int32))), .val (.int (F2 (x1 &&& (255 : Int32)))), .unset] [(.int (F2 (x1 &&& (255 : Int32))))])) _
              refine XS.iconst X79.here hx rfl (hb hby at_55) ?_
              exact Steps.refl _)
          by_cases hc82 : (F2 (x1 &&& (255 : Int32))) = (-1 : Int32)
          · have st83 : Steps p.tables e below (s₁.setTop (entryFrame m #[(.int x0), (.int x1)] maxLocals)) (T79.setTop (mkF m 79 #[.val (.int x0), .val (.int x1), .val (.int (x0.toUInt32.toUInt16.toUInt32.toInt32)), .val (.int (F1 (x0.toUInt32.toUInt16.toUInt32.toInt32))), .val (.int (1 : Int32)), .val (.int (x1 &&& (255 : Int32))), .val (.int (F2 (x1 &&& (255 : Int32)))), .val (.int (1 : Int32))] [(.int (1 : Int32))])) := st81.trans (by
                show Steps p.tables e below (T79.setTop (mkF m 56 #[.val (.int x0), .val (.int x1), .val (.int (x0.toUInt32.toUInt16.toUInt32.toInt32)), .val (.int (F1 (x0.toUInt32.toUInt16.toUInt32.toInt32))), .val (.int (1 : Int32)), .val (.int (x1 &&& (255 : Int32))), .val (.int (F2 (x1 &&& (255 : Int32)))), .unset] [(.int (-1 : Int32)), (.int (F2 (x1 &&& (255 : Int32))))])) _
                refine XS.icmpYes X79.here hx rfl (pc0 := 56) (pc' := 70) rfl (hb hby at_56) rfl (teq hc82).1 (by decide) (by decide) ?_
                show Steps p.tables e below (T79.setTop (mkF m 70 #[.val (.int x0), .val (.int x1), .val (.int (x0.toUInt32.toUInt16.toUInt32.toInt32)), .val (.int (F1 (x0.toUInt32.toUInt16.toUInt32.toInt32))), .val (.int (1 : Int32)), .val (.int (x1 &&& (255 : Int32))), .val (.int (F2 (x1 &&& (255 : Int32)))), .unset] [])) _
                refine XS.iconst X79.here hx rfl (hb hby at_70) ?_
                show Steps p.tables e below (T79.setTop (mkF m 71 #[.val (.int x0), .val (.int x1), .val (.int (x0.toUInt32.toUInt16.toUInt32.toInt32)), .val (.int (F1 (x0.toUInt32.toUInt16.toUInt32.toInt32))), .val (.int (1 : Int32)), .val (.int (x1 &&& (255 : Int32))), .val (.int (F2 (x1 &&& (255 : Int32)))), .unset] [(.int (1 : Int32))])) _
                refine XS.goto X79.here hx rfl (pc0 := 71) (pc' := 75) rfl (hb hby at_71) (by decide) (by decide) ?_
                show Steps p.tables e below (T79.setTop (mkF m 75 #[.val (.int x0), .val (.int x1), .val (.int (x0.toUInt32.toUInt16.toUInt32.toInt32)), .val (.int (F1 (x0.toUInt32.toUInt16.toUInt32.toInt32))), .val (.int (1 : Int32)), .val (.int (x1 &&& (255 : Int32))), .val (.int (F2 (x1 &&& (255 : Int32)))), .unset] [(.int (1 : Int32))])) _
                refine XS.istore X79.here hx rfl (hb hby at_75) rfl (l' := #[.val (.int x0), .val (.int x1), .val (.int (x0.toUInt32.toUInt16.toUInt32.toInt32)), .val (.int (F1 (x0.toUInt32.toUInt16.toUInt32.toInt32))), .val (.int (1 : Int32)), .val (.int (x1 &&& (255 : Int32))), .val (.int (F2 (x1 &&& (255 : Int32)))), .val (.int (1 : Int32))]) rfl ?_
                show Steps p.tables e below (T79.setTop (mkF m 77 #[.val (.int x0), .val (.int x1), .val (.int (x0.toUInt32.toUInt16.toUInt32.toInt32)), .val (.int (F1 (x0.toUInt32.toUInt16.toUInt32.toInt32))), .val (.int (1 : Int32)), .val (.int (x1 &&& (255 : Int32))), .val (.int (F2 (x1 &&& (255 : Int32)))), .val (.int (1 : Int32))] [])) _
                refine XS.iload X79.here hx rfl (hb hby at_77) rfl ?_
                exact Steps.refl _)
            have hf84 : ¬ ((1 : Int32) = (0 : Int32)) := by decide
            have st85 : Steps p.tables e below (s₁.setTop (entryFrame m #[(.int x0), (.int x1)] maxLocals)) (T79.setTop (mkF m 84 #[.val (.int x0), .val (.int x1), .val (.int (x0.toUInt32.toUInt16.toUInt32.toInt32)), .val (.int (F1 (x0.toUInt32.toUInt16.toUInt32.toInt32))), .val (.int (1 : Int32)), .val (.int (x1 &&& (255 : Int32))), .val (.int (F2 (x1 &&& (255 : Int32)))), .val (.int (1 : Int32))] [(.int (1 : Int32))])) := st83.trans (by
                show Steps p.tables e below (T79.setTop (mkF m 79 #[.val (.int x0), .val (.int x1), .val (.int (x0.toUInt32.toUInt16.toUInt32.toInt32)), .val (.int (F1 (x0.toUInt32.toUInt16.toUInt32.toInt32))), .val (.int (1 : Int32)), .val (.int (x1 &&& (255 : Int32))), .val (.int (F2 (x1 &&& (255 : Int32)))), .val (.int (1 : Int32))] [(.int (1 : Int32))])) _
                refine XS.ifNo X79.here hx rfl (hb hby at_79) rfl ((if0 _ _).trans (feq hf84).1) ?_
                show Steps p.tables e below (T79.setTop (mkF m 82 #[.val (.int x0), .val (.int x1), .val (.int (x0.toUInt32.toUInt16.toUInt32.toInt32)), .val (.int (F1 (x0.toUInt32.toUInt16.toUInt32.toInt32))), .val (.int (1 : Int32)), .val (.int (x1 &&& (255 : Int32))), .val (.int (F2 (x1 &&& (255 : Int32)))), .val (.int (1 : Int32))] [])) _
                refine XS.iload X79.here hx rfl (hb hby at_82) rfl ?_
                exact Steps.refl _)
            have hf86 : ¬ ((1 : Int32) = (0 : Int32)) := by decide
            have st87 : Steps p.tables e below (s₁.setTop (entryFrame m #[(.int x0), (.int x1)] maxLocals)) (T79.setTop (mkF m 92 #[.val (.int x0), .val (.int x1), .val (.int (x0.toUInt32.toUInt16.toUInt32.toInt32)), .val (.int (F1 (x0.toUInt32.toUInt16.toUInt32.toInt32))), .val (.int (1 : Int32)), .val (.int (x1 &&& (255 : Int32))), .val (.int (F2 (x1 &&& (255 : Int32)))), .val (.int (1 : Int32))] [(.int (1 : Int32))])) := st85.trans (by
                show Steps p.tables e below (T79.setTop (mkF m 84 #[.val (.int x0), .val (.int x1), .val (.int (x0.toUInt32.toUInt16.toUInt32.toInt32)), .val (.int (F1 (x0.toUInt32.toUInt16.toUInt32.toInt32))), .val (.int (1 : Int32)), .val (.int (x1 &&& (255 : Int32))), .val (.int (F2 (x1 &&& (255 : Int32)))), .val (.int (1 : Int32))] [(.int (1 : Int32))])) _
                refine XS.ifNo X79.here hx rfl (hb hby at_84) rfl ((if0 _ _).trans (feq hf86).1) ?_
                show Steps p.tables e below (T79.setTop (mkF m 87 #[.val (.int x0), .val (.int x1), .val (.int (x0.toUInt32.toUInt16.toUInt32.toInt32)), .val (.int (F1 (x0.toUInt32.toUInt16.toUInt32.toInt32))), .val (.int (1 : Int32)), .val (.int (x1 &&& (255 : Int32))), .val (.int (F2 (x1 &&& (255 : Int32)))), .val (.int (1 : Int32))] [])) _
                refine XS.iconst X79.here hx rfl (hb hby at_87) ?_
                show Steps p.tables e below (T79.setTop (mkF m 88 #[.val (.int x0), .val (.int x1), .val (.int (x0.toUInt32.toUInt16.toUInt32.toInt32)), .val (.int (F1 (x0.toUInt32.toUInt16.toUInt32.toInt32))), .val (.int (1 : Int32)), .val (.int (x1 &&& (255 : Int32))), .val (.int (F2 (x1 &&& (255 : Int32)))), .val (.int (1 : Int32))] [(.int (1 : Int32))])) _
                refine XS.goto X79.here hx rfl (pc0 := 88) (pc' := 92) rfl (hb hby at_88) (by decide) (by decide) ?_
                exact Steps.refl _)
            obtain ⟨fs, hr, hrun, hended, hW, hsame⟩ := X79.leave (v := some (.int (1 : Int32))) (fun h => by rw [Bd.returns] at h; cases h)
            refine ⟨_, _, st87.trans ?_, hrun, hended, _, _, rfl, ?_, ⟨_, rfl⟩, hW, hsame.mono (by decide) (by decide)⟩
            · exact retN X79 hx (t := .boolean) Bd.returns (by simp) (hb hby at_92) hr
            · show Q0 Z x0 x1 h0 n0 _ T79.heap _
              rw [hh79]
              exact ⟨by rw [F0, if_neg hc5, if_neg hc32, if_neg hc53, if_pos hc77, if_pos hc82], N79⟩
          · have st88 : Steps p.tables e below (s₁.setTop (entryFrame m #[(.int x0), (.int x1)] maxLocals)) (T79.setTop (mkF m 62 #[.val (.int x0), .val (.int x1), .val (.int (x0.toUInt32.toUInt16.toUInt32.toInt32)), .val (.int (F1 (x0.toUInt32.toUInt16.toUInt32.toInt32))), .val (.int (1 : Int32)), .val (.int (x1 &&& (255 : Int32))), .val (.int (F2 (x1 &&& (255 : Int32)))), .unset] [(.int ((F2 (x1 &&& (255 : Int32))).toUInt32.toUInt16.toUInt32.toInt32))])) := st81.trans (by
                show Steps p.tables e below (T79.setTop (mkF m 56 #[.val (.int x0), .val (.int x1), .val (.int (x0.toUInt32.toUInt16.toUInt32.toInt32)), .val (.int (F1 (x0.toUInt32.toUInt16.toUInt32.toInt32))), .val (.int (1 : Int32)), .val (.int (x1 &&& (255 : Int32))), .val (.int (F2 (x1 &&& (255 : Int32)))), .unset] [(.int (-1 : Int32)), (.int (F2 (x1 &&& (255 : Int32))))])) _
                refine XS.icmpNo X79.here hx rfl (hb hby at_56) rfl (feq hc82).1 ?_
                show Steps p.tables e below (T79.setTop (mkF m 59 #[.val (.int x0), .val (.int x1), .val (.int (x0.toUInt32.toUInt16.toUInt32.toInt32)), .val (.int (F1 (x0.toUInt32.toUInt16.toUInt32.toInt32))), .val (.int (1 : Int32)), .val (.int (x1 &&& (255 : Int32))), .val (.int (F2 (x1 &&& (255 : Int32)))), .unset] [])) _
                refine XS.iload X79.here hx rfl (hb hby at_59) rfl ?_
                show Steps p.tables e below (T79.setTop (mkF m 61 #[.val (.int x0), .val (.int x1), .val (.int (x0.toUInt32.toUInt16.toUInt32.toInt32)), .val (.int (F1 (x0.toUInt32.toUInt16.toUInt32.toInt32))), .val (.int (1 : Int32)), .val (.int (x1 &&& (255 : Int32))), .val (.int (F2 (x1 &&& (255 : Int32)))), .unset] [(.int (F2 (x1 &&& (255 : Int32))))])) _
                refine XS.i2c X79.here hx rfl (hb hby at_61) rfl ?_
                exact Steps.refl _)
            obtain ⟨_, _, ⟨T89, L89, k89, n89⟩, -, X89, ⟨Lc89, hQ89, l89, y89, z89⟩, sr89⟩ := Jvm.LawKit.callS X79 hx (y := (⟨"com/example/escritural/escritural/pdf/WinAnsi", "code", "(C)I"⟩ : MethodName)) hown (mvT hZ (hw _ (List.mem_of_getElem? (i := 0) rfl))) (mvT hZ (hw _ (List.mem_of_getElem? (i := 1) rfl))) (mvT hZ (hw _ (List.mem_of_getElem? (i := 2) rfl))) (mvT hZ (hw _ (List.mem_of_getElem? (i := 3) rfl))) (by decide) (backOf (W := 0) (rm1 l Z a0 hw [] ((F2 (x1 &&& (255 : Int32))).toUInt32.toUInt16.toUInt32.toInt32)  h0 n0 Z0 ) hZ (hw _ (List.mem_of_getElem? (i := 3) rfl)) (hw _ (List.mem_of_getElem? (i := 2) rfl)) (by decide) (by decide)) (g := (mkF m 62 #[.val (.int x0), .val (.int x1), .val (.int (x0.toUInt32.toUInt16.toUInt32.toInt32)), .val (.int (F1 (x0.toUInt32.toUInt16.toUInt32.toInt32))), .val (.int (1 : Int32)), .val (.int (x1 &&& (255 : Int32))), .val (.int (F2 (x1 &&& (255 : Int32)))), .unset] [(.int ((F2 (x1 &&& (255 : Int32))).toUInt32.toUInt16.toUInt32.toInt32))])) rfl (by rw [hml]; rfl) (argsL := [(.int ((F2 (x1 &&& (255 : Int32))).toUInt32.toUInt16.toUInt32.toInt32))]) (rest := []) (lenOf pd_0 rfl) rfl (by show 2 * 0 + _ ≤ _; exact Nat.le_of_eq rfl) (hb hby at_62) (fun _ _ => ⟨rfl, hh79, (by decide : 0 + 0 ≤ _), (by decide : 0 + 0 ≤ _)⟩)
            dsimp only [Pt.U, Pt.locs, Pt.cells, Pt.slots] at X89 l89 y89 z89 sr89 hQ89
            subst l89 y89 z89
            obtain ⟨rfl, N89q, hh89⟩ := hQ89
            have N89 := Fr.app N79 N89q
            have st90 : Steps p.tables e below (s₁.setTop (entryFrame m #[(.int x0), (.int x1)] maxLocals)) (T89.setTop (mkF m 65 #[.val (.int x0), .val (.int x1), .val (.int (x0.toUInt32.toUInt16.toUInt32.toInt32)), .val (.int (F1 (x0.toUInt32.toUInt16.toUInt32.toInt32))), .val (.int (1 : Int32)), .val (.int (x1 &&& (255 : Int32))), .val (.int (F2 (x1 &&& (255 : Int32)))), .unset] [(.int (F1 ((F2 (x1 &&& (255 : Int32))).toUInt32.toUInt16.toUInt32.toInt32)))])) := st88.trans (sr89 _ (Steps.refl _))
            have st91 : Steps p.tables e below (s₁.setTop (entryFrame m #[(.int x0), (.int x1)] maxLocals)) (T89.setTop (mkF m 67 #[.val (.int x0), .val (.int x1), .val (.int (x0.toUInt32.toUInt16.toUInt32.toInt32)), .val (.int (F1 (x0.toUInt32.toUInt16.toUInt32.toInt32))), .val (.int (1 : Int32)), .val (.int (x1 &&& (255 : Int32))), .val (.int (F2 (x1 &&& (255 : Int32)))), .unset] [(.int (x1 &&& (255 : Int32))), (.int (F1 ((F2 (x1 &&& (255 : Int32))).toUInt32.toUInt16.toUInt32.toInt32)))])) := st90.trans (by
                show Steps p.tables e below (T89.setTop (mkF m 65 #[.val (.int x0), .val (.int x1), .val (.int (x0.toUInt32.toUInt16.toUInt32.toInt32)), .val (.int (F1 (x0.toUInt32.toUInt16.toUInt32.toInt32))), .val (.int (1 : Int32)), .val (.int (x1 &&& (255 : Int32))), .val (.int (F2 (x1 &&& (255 : Int32)))), .unset] [(.int (F1 ((F2 (x1 &&& (255 : Int32))).toUInt32.toUInt16.toUInt32.toInt32)))])) _
                refine XS.iload X89.here hx rfl (hb hby at_65) rfl ?_
                exact Steps.refl _)
            by_cases hc92 : (F1 ((F2 (x1 &&& (255 : Int32))).toUInt32.toUInt16.toUInt32.toInt32)) = (x1 &&& (255 : Int32))
            · have st93 : Steps p.tables e below (s₁.setTop (entryFrame m #[(.int x0), (.int x1)] maxLocals)) (T89.setTop (mkF m 79 #[.val (.int x0), .val (.int x1), .val (.int (x0.toUInt32.toUInt16.toUInt32.toInt32)), .val (.int (F1 (x0.toUInt32.toUInt16.toUInt32.toInt32))), .val (.int (1 : Int32)), .val (.int (x1 &&& (255 : Int32))), .val (.int (F2 (x1 &&& (255 : Int32)))), .val (.int (1 : Int32))] [(.int (1 : Int32))])) := st91.trans (by
                  show Steps p.tables e below (T89.setTop (mkF m 67 #[.val (.int x0), .val (.int x1), .val (.int (x0.toUInt32.toUInt16.toUInt32.toInt32)), .val (.int (F1 (x0.toUInt32.toUInt16.toUInt32.toInt32))), .val (.int (1 : Int32)), .val (.int (x1 &&& (255 : Int32))), .val (.int (F2 (x1 &&& (255 : Int32)))), .unset] [(.int (x1 &&& (255 : Int32))), (.int (F1 ((F2 (x1 &&& (255 : Int32))).toUInt32.toUInt16.toUInt32.toInt32)))])) _
                  refine XS.icmpNo X89.here hx rfl (hb hby at_67) rfl (teq hc92).2 ?_
                  show Steps p.tables e below (T89.setTop (mkF m 70 #[.val (.int x0), .val (.int x1), .val (.int (x0.toUInt32.toUInt16.toUInt32.toInt32)), .val (.int (F1 (x0.toUInt32.toUInt16.toUInt32.toInt32))), .val (.int (1 : Int32)), .val (.int (x1 &&& (255 : Int32))), .val (.int (F2 (x1 &&& (255 : Int32)))), .unset] [])) _
                  refine XS.iconst X89.here hx rfl (hb hby at_70) ?_
                  show Steps p.tables e below (T89.setTop (mkF m 71 #[.val (.int x0), .val (.int x1), .val (.int (x0.toUInt32.toUInt16.toUInt32.toInt32)), .val (.int (F1 (x0.toUInt32.toUInt16.toUInt32.toInt32))), .val (.int (1 : Int32)), .val (.int (x1 &&& (255 : Int32))), .val (.int (F2 (x1 &&& (255 : Int32)))), .unset] [(.int (1 : Int32))])) _
                  refine XS.goto X89.here hx rfl (pc0 := 71) (pc' := 75) rfl (hb hby at_71) (by decide) (by decide) ?_
                  show Steps p.tables e below (T89.setTop (mkF m 75 #[.val (.int x0), .val (.int x1), .val (.int (x0.toUInt32.toUInt16.toUInt32.toInt32)), .val (.int (F1 (x0.toUInt32.toUInt16.toUInt32.toInt32))), .val (.int (1 : Int32)), .val (.int (x1 &&& (255 : Int32))), .val (.int (F2 (x1 &&& (255 : Int32)))), .unset] [(.int (1 : Int32))])) _
                  refine XS.istore X89.here hx rfl (hb hby at_75) rfl (l' := #[.val (.int x0), .val (.int x1), .val (.int (x0.toUInt32.toUInt16.toUInt32.toInt32)), .val (.int (F1 (x0.toUInt32.toUInt16.toUInt32.toInt32))), .val (.int (1 : Int32)), .val (.int (x1 &&& (255 : Int32))), .val (.int (F2 (x1 &&& (255 : Int32)))), .val (.int (1 : Int32))]) rfl ?_
                  show Steps p.tables e below (T89.setTop (mkF m 77 #[.val (.int x0), .val (.int x1), .val (.int (x0.toUInt32.toUInt16.toUInt32.toInt32)), .val (.int (F1 (x0.toUInt32.toUInt16.toUInt32.toInt32))), .val (.int (1 : Int32)), .val (.int (x1 &&& (255 : Int32))), .val (.int (F2 (x1 &&& (255 : Int32)))), .val (.int (1 : Int32))] [])) _
                  refine XS.iload X89.here hx rfl (hb hby at_77) rfl ?_
                  exact Steps.refl _)
              have hf94 : ¬ ((1 : Int32) = (0 : Int32)) := by decide
              have st95 : Steps p.tables e below (s₁.setTop (entryFrame m #[(.int x0), (.int x1)] maxLocals)) (T89.setTop (mkF m 84 #[.val (.int x0), .val (.int x1), .val (.int (x0.toUInt32.toUInt16.toUInt32.toInt32)), .val (.int (F1 (x0.toUInt32.toUInt16.toUInt32.toInt32))), .val (.int (1 : Int32)), .val (.int (x1 &&& (255 : Int32))), .val (.int (F2 (x1 &&& (255 : Int32)))), .val (.int (1 : Int32))] [(.int (1 : Int32))])) := st93.trans (by
                  show Steps p.tables e below (T89.setTop (mkF m 79 #[.val (.int x0), .val (.int x1), .val (.int (x0.toUInt32.toUInt16.toUInt32.toInt32)), .val (.int (F1 (x0.toUInt32.toUInt16.toUInt32.toInt32))), .val (.int (1 : Int32)), .val (.int (x1 &&& (255 : Int32))), .val (.int (F2 (x1 &&& (255 : Int32)))), .val (.int (1 : Int32))] [(.int (1 : Int32))])) _
                  refine XS.ifNo X89.here hx rfl (hb hby at_79) rfl ((if0 _ _).trans (feq hf94).1) ?_
                  show Steps p.tables e below (T89.setTop (mkF m 82 #[.val (.int x0), .val (.int x1), .val (.int (x0.toUInt32.toUInt16.toUInt32.toInt32)), .val (.int (F1 (x0.toUInt32.toUInt16.toUInt32.toInt32))), .val (.int (1 : Int32)), .val (.int (x1 &&& (255 : Int32))), .val (.int (F2 (x1 &&& (255 : Int32)))), .val (.int (1 : Int32))] [])) _
                  refine XS.iload X89.here hx rfl (hb hby at_82) rfl ?_
                  exact Steps.refl _)
              have hf96 : ¬ ((1 : Int32) = (0 : Int32)) := by decide
              have st97 : Steps p.tables e below (s₁.setTop (entryFrame m #[(.int x0), (.int x1)] maxLocals)) (T89.setTop (mkF m 92 #[.val (.int x0), .val (.int x1), .val (.int (x0.toUInt32.toUInt16.toUInt32.toInt32)), .val (.int (F1 (x0.toUInt32.toUInt16.toUInt32.toInt32))), .val (.int (1 : Int32)), .val (.int (x1 &&& (255 : Int32))), .val (.int (F2 (x1 &&& (255 : Int32)))), .val (.int (1 : Int32))] [(.int (1 : Int32))])) := st95.trans (by
                  show Steps p.tables e below (T89.setTop (mkF m 84 #[.val (.int x0), .val (.int x1), .val (.int (x0.toUInt32.toUInt16.toUInt32.toInt32)), .val (.int (F1 (x0.toUInt32.toUInt16.toUInt32.toInt32))), .val (.int (1 : Int32)), .val (.int (x1 &&& (255 : Int32))), .val (.int (F2 (x1 &&& (255 : Int32)))), .val (.int (1 : Int32))] [(.int (1 : Int32))])) _
                  refine XS.ifNo X89.here hx rfl (hb hby at_84) rfl ((if0 _ _).trans (feq hf96).1) ?_
                  show Steps p.tables e below (T89.setTop (mkF m 87 #[.val (.int x0), .val (.int x1), .val (.int (x0.toUInt32.toUInt16.toUInt32.toInt32)), .val (.int (F1 (x0.toUInt32.toUInt16.toUInt32.toInt32))), .val (.int (1 : Int32)), .val (.int (x1 &&& (255 : Int32))), .val (.int (F2 (x1 &&& (255 : Int32)))), .val (.int (1 : Int32))] [])) _
                  refine XS.iconst X89.here hx rfl (hb hby at_87) ?_
                  show Steps p.tables e below (T89.setTop (mkF m 88 #[.val (.int x0), .val (.int x1), .val (.int (x0.toUInt32.toUInt16.toUInt32.toInt32)), .val (.int (F1 (x0.toUInt32.toUInt16.toUInt32.toInt32))), .val (.int (1 : Int32)), .val (.int (x1 &&& (255 : Int32))), .val (.int (F2 (x1 &&& (255 : Int32)))), .val (.int (1 : Int32))] [(.int (1 : Int32))])) _
                  refine XS.goto X89.here hx rfl (pc0 := 88) (pc' := 92) rfl (hb hby at_88) (by decide) (by decide) ?_
                  exact Steps.refl _)
              obtain ⟨fs, hr, hrun, hended, hW, hsame⟩ := X89.leave (v := some (.int (1 : Int32))) (fun h => by rw [Bd.returns] at h; cases h)
              refine ⟨_, _, st97.trans ?_, hrun, hended, _, _, rfl, ?_, ⟨_, rfl⟩, hW, hsame.mono (by decide) (by decide)⟩
              · exact retN X89 hx (t := .boolean) Bd.returns (by simp) (hb hby at_92) hr
              · show Q0 Z x0 x1 h0 n0 _ T89.heap _
                rw [hh89]
                exact ⟨by rw [F0, if_neg hc5, if_neg hc32, if_neg hc53, if_pos hc77, if_neg hc82, if_pos hc92], N89⟩
            · have st98 : Steps p.tables e below (s₁.setTop (entryFrame m #[(.int x0), (.int x1)] maxLocals)) (T89.setTop (mkF m 79 #[.val (.int x0), .val (.int x1), .val (.int (x0.toUInt32.toUInt16.toUInt32.toInt32)), .val (.int (F1 (x0.toUInt32.toUInt16.toUInt32.toInt32))), .val (.int (1 : Int32)), .val (.int (x1 &&& (255 : Int32))), .val (.int (F2 (x1 &&& (255 : Int32)))), .val (.int (0 : Int32))] [(.int (1 : Int32))])) := st91.trans (by
                  show Steps p.tables e below (T89.setTop (mkF m 67 #[.val (.int x0), .val (.int x1), .val (.int (x0.toUInt32.toUInt16.toUInt32.toInt32)), .val (.int (F1 (x0.toUInt32.toUInt16.toUInt32.toInt32))), .val (.int (1 : Int32)), .val (.int (x1 &&& (255 : Int32))), .val (.int (F2 (x1 &&& (255 : Int32)))), .unset] [(.int (x1 &&& (255 : Int32))), (.int (F1 ((F2 (x1 &&& (255 : Int32))).toUInt32.toUInt16.toUInt32.toInt32)))])) _
                  refine XS.icmpYes X89.here hx rfl (pc0 := 67) (pc' := 74) rfl (hb hby at_67) rfl (feq hc92).2 (by decide) (by decide) ?_
                  show Steps p.tables e below (T89.setTop (mkF m 74 #[.val (.int x0), .val (.int x1), .val (.int (x0.toUInt32.toUInt16.toUInt32.toInt32)), .val (.int (F1 (x0.toUInt32.toUInt16.toUInt32.toInt32))), .val (.int (1 : Int32)), .val (.int (x1 &&& (255 : Int32))), .val (.int (F2 (x1 &&& (255 : Int32)))), .unset] [])) _
                  refine XS.iconst X89.here hx rfl (hb hby at_74) ?_
                  show Steps p.tables e below (T89.setTop (mkF m 75 #[.val (.int x0), .val (.int x1), .val (.int (x0.toUInt32.toUInt16.toUInt32.toInt32)), .val (.int (F1 (x0.toUInt32.toUInt16.toUInt32.toInt32))), .val (.int (1 : Int32)), .val (.int (x1 &&& (255 : Int32))), .val (.int (F2 (x1 &&& (255 : Int32)))), .unset] [(.int (0 : Int32))])) _
                  refine XS.istore X89.here hx rfl (hb hby at_75) rfl (l' := #[.val (.int x0), .val (.int x1), .val (.int (x0.toUInt32.toUInt16.toUInt32.toInt32)), .val (.int (F1 (x0.toUInt32.toUInt16.toUInt32.toInt32))), .val (.int (1 : Int32)), .val (.int (x1 &&& (255 : Int32))), .val (.int (F2 (x1 &&& (255 : Int32)))), .val (.int (0 : Int32))]) rfl ?_
                  show Steps p.tables e below (T89.setTop (mkF m 77 #[.val (.int x0), .val (.int x1), .val (.int (x0.toUInt32.toUInt16.toUInt32.toInt32)), .val (.int (F1 (x0.toUInt32.toUInt16.toUInt32.toInt32))), .val (.int (1 : Int32)), .val (.int (x1 &&& (255 : Int32))), .val (.int (F2 (x1 &&& (255 : Int32)))), .val (.int (0 : Int32))] [])) _
                  refine XS.iload X89.here hx rfl (hb hby at_77) rfl ?_
                  exact Steps.refl _)
              have hf99 : ¬ ((1 : Int32) = (0 : Int32)) := by decide
              have st100 : Steps p.tables e below (s₁.setTop (entryFrame m #[(.int x0), (.int x1)] maxLocals)) (T89.setTop (mkF m 84 #[.val (.int x0), .val (.int x1), .val (.int (x0.toUInt32.toUInt16.toUInt32.toInt32)), .val (.int (F1 (x0.toUInt32.toUInt16.toUInt32.toInt32))), .val (.int (1 : Int32)), .val (.int (x1 &&& (255 : Int32))), .val (.int (F2 (x1 &&& (255 : Int32)))), .val (.int (0 : Int32))] [(.int (0 : Int32))])) := st98.trans (by
                  show Steps p.tables e below (T89.setTop (mkF m 79 #[.val (.int x0), .val (.int x1), .val (.int (x0.toUInt32.toUInt16.toUInt32.toInt32)), .val (.int (F1 (x0.toUInt32.toUInt16.toUInt32.toInt32))), .val (.int (1 : Int32)), .val (.int (x1 &&& (255 : Int32))), .val (.int (F2 (x1 &&& (255 : Int32)))), .val (.int (0 : Int32))] [(.int (1 : Int32))])) _
                  refine XS.ifNo X89.here hx rfl (hb hby at_79) rfl ((if0 _ _).trans (feq hf99).1) ?_
                  show Steps p.tables e below (T89.setTop (mkF m 82 #[.val (.int x0), .val (.int x1), .val (.int (x0.toUInt32.toUInt16.toUInt32.toInt32)), .val (.int (F1 (x0.toUInt32.toUInt16.toUInt32.toInt32))), .val (.int (1 : Int32)), .val (.int (x1 &&& (255 : Int32))), .val (.int (F2 (x1 &&& (255 : Int32)))), .val (.int (0 : Int32))] [])) _
                  refine XS.iload X89.here hx rfl (hb hby at_82) rfl ?_
                  exact Steps.refl _)
              have hf101 : (0 : Int32) = (0 : Int32) := by decide
              have st102 : Steps p.tables e below (s₁.setTop (entryFrame m #[(.int x0), (.int x1)] maxLocals)) (T89.setTop (mkF m 92 #[.val (.int x0), .val (.int x1), .val (.int (x0.toUInt32.toUInt16.toUInt32.toInt32)), .val (.int (F1 (x0.toUInt32.toUInt16.toUInt32.toInt32))), .val (.int (1 : Int32)), .val (.int (x1 &&& (255 : Int32))), .val (.int (F2 (x1 &&& (255 : Int32)))), .val (.int (0 : Int32))] [(.int (0 : Int32))])) := st100.trans (by
                  show Steps p.tables e below (T89.setTop (mkF m 84 #[.val (.int x0), .val (.int x1), .val (.int (x0.toUInt32.toUInt16.toUInt32.toInt32)), .val (.int (F1 (x0.toUInt32.toUInt16.toUInt32.toInt32))), .val (.int (1 : Int32)), .val (.int (x1 &&& (255 : Int32))), .val (.int (F2 (x1 &&& (255 : Int32)))), .val (.int (0 : Int32))] [(.int (0 : Int32))])) _
                  refine XS.ifYes X89.here hx rfl (pc0 := 84) (pc' := 91) rfl (hb hby at_84) rfl ((if0 _ _).trans (teq hf101).1) (by decide) (by decide) ?_
                  show Steps p.tables e below (T89.setTop (mkF m 91 #[.val (.int x0), .val (.int x1), .val (.int (x0.toUInt32.toUInt16.toUInt32.toInt32)), .val (.int (F1 (x0.toUInt32.toUInt16.toUInt32.toInt32))), .val (.int (1 : Int32)), .val (.int (x1 &&& (255 : Int32))), .val (.int (F2 (x1 &&& (255 : Int32)))), .val (.int (0 : Int32))] [])) _
                  refine XS.iconst X89.here hx rfl (hb hby at_91) ?_
                  exact Steps.refl _)
              obtain ⟨fs, hr, hrun, hended, hW, hsame⟩ := X89.leave (v := some (.int (0 : Int32))) (fun h => by rw [Bd.returns] at h; cases h)
              refine ⟨_, _, st102.trans ?_, hrun, hended, _, _, rfl, ?_, ⟨_, rfl⟩, hW, hsame.mono (by decide) (by decide)⟩
              · exact retN X89 hx (t := .boolean) Bd.returns (by simp) (hb hby at_92) hr
              · show Q0 Z x0 x1 h0 n0 _ T89.heap _
                rw [hh89]
                exact ⟨by rw [F0, if_neg hc5, if_neg hc32, if_neg hc53, if_pos hc77, if_neg hc82, if_neg hc92], N89⟩
        · have st103 : Steps p.tables e below (s₁.setTop (entryFrame m #[(.int x0), (.int x1)] maxLocals)) (T74.setTop (mkF m 48 #[.val (.int x0), .val (.int x1), .val (.int (x0.toUInt32.toUInt16.toUInt32.toInt32)), .val (.int (F1 (x0.toUInt32.toUInt16.toUInt32.toInt32))), .val (.int (0 : Int32)), .val (.int (x1 &&& (255 : Int32))), .unset, .unset] [(.int (x1 &&& (255 : Int32)))])) := st76.trans (by
              show Steps p.tables e below (T74.setTop (mkF m 29 #[.val (.int x0), .val (.int x1), .val (.int (x0.toUInt32.toUInt16.toUInt32.toInt32)), .val (.int (F1 (x0.toUInt32.toUInt16.toUInt32.toInt32))), .unset, .unset, .unset, .unset] [(.int (x0.toUInt32.toUInt16.toUInt32.toInt32)), (.int (F2 (F1 (x0.toUInt32.toUInt16.toUInt32.toInt32))))])) _
              refine XS.icmpYes X74.here hx rfl (pc0 := 29) (pc' := 36) rfl (hb hby at_29) rfl (feq hc77).2 (by decide) (by decide) ?_
              show Steps p.tables e below (T74.setTop (mkF m 36 #[.val (.int x0), .val (.int x1), .val (.int (x0.toUInt32.toUInt16.toUInt32.toInt32)), .val (.int (F1 (x0.toUInt32.toUInt16.toUInt32.toInt32))), .unset, .unset, .unset, .unset] [])) _
              refine XS.iconst X74.here hx rfl (hb hby at_36) ?_
              show Steps p.tables e below (T74.setTop (mkF m 37 #[.val (.int x0), .val (.int x1), .val (.int (x0.toUInt32.toUInt16.toUInt32.toInt32)), .val (.int (F1 (x0.toUInt32.toUInt16.toUInt32.toInt32))), .unset, .unset, .unset, .unset] [(.int (0 : Int32))])) _
              refine XS.istore X74.here hx rfl (hb hby at_37) rfl (l' := #[.val (.int x0), .val (.int x1), .val (.int (x0.toUInt32.toUInt16.toUInt32.toInt32)), .val (.int (F1 (x0.toUInt32.toUInt16.toUInt32.toInt32))), .val (.int (0 : Int32)), .unset, .unset, .unset]) rfl ?_
              show Steps p.tables e below (T74.setTop (mkF m 39 #[.val (.int x0), .val (.int x1), .val (.int (x0.toUInt32.toUInt16.toUInt32.toInt32)), .val (.int (F1 (x0.toUInt32.toUInt16.toUInt32.toInt32))), .val (.int (0 : Int32)), .unset, .unset, .unset] [])) _
              refine XS.iloadN X74.here hx rfl (hb hby at_39) rfl ?_
              show Steps p.tables e below (T74.setTop (mkF m 40 #[.val (.int x0), .val (.int x1), .val (.int (x0.toUInt32.toUInt16.toUInt32.toInt32)), .val (.int (F1 (x0.toUInt32.toUInt16.toUInt32.toInt32))), .val (.int (0 : Int32)), .unset, .unset, .unset] [(.int x1)])) _
              refine XS.sipush X74.here hx rfl (hb hby at_40) ?_
              show Steps p.tables e below (T74.setTop (mkF m 43 #[.val (.int x0), .val (.int x1), .val (.int (x0.toUInt32.toUInt16.toUInt32.toInt32)), .val (.int (F1 (x0.toUInt32.toUInt16.toUInt32.toInt32))), .val (.int (0 : Int32)), .unset, .unset, .unset] [(.int (255 : Int32)), (.int x1)])) _
              refine XS.iand X74.here hx rfl (hb hby at_43) rfl ?_
              show Steps p.tables e below (T74.setTop (mkF m 44 #[.val (.int x0), .val (.int x1), .val (.int (x0.toUInt32.toUInt16.toUInt32.toInt32)), .val (.int (F1 (x0.toUInt32.toUInt16.toUInt32.toInt32))), .val (.int (0 : Int32)), .unset, .unset, .unset] [(.int (x1 &&& (255 : Int32)))])) _
              refine XS.istore X74.here hx rfl (hb hby at_44) rfl (l' := #[.val (.int x0), .val (.int x1), .val (.int (x0.toUInt32.toUInt16.toUInt32.toInt32)), .val (.int (F1 (x0.toUInt32.toUInt16.toUInt32.toInt32))), .val (.int (0 : Int32)), .val (.int (x1 &&& (255 : Int32))), .unset, .unset]) rfl ?_
              show Steps p.tables e below (T74.setTop (mkF m 46 #[.val (.int x0), .val (.int x1), .val (.int (x0.toUInt32.toUInt16.toUInt32.toInt32)), .val (.int (F1 (x0.toUInt32.toUInt16.toUInt32.toInt32))), .val (.int (0 : Int32)), .val (.int (x1 &&& (255 : Int32))), .unset, .unset] [])) _
              refine XS.iload X74.here hx rfl (hb hby at_46) rfl ?_
              exact Steps.refl _)
          obtain ⟨_, _, ⟨T104, L104, k104, n104⟩, -, X104, ⟨Lc104, hQ104, l104, y104, z104⟩, sr104⟩ := Jvm.LawKit.callS X74 hx (y := (⟨"com/example/escritural/escritural/pdf/WinAnsiCodePinLaw", "decode", "(I)I"⟩ : MethodName)) hown (mvT hZ (hw _ (List.mem_of_getElem? (i := 4) rfl))) (mvT hZ (hw _ (List.mem_of_getElem? (i := 5) rfl))) (mvT hZ (hw _ (List.mem_of_getElem? (i := 6) rfl))) (mvT hZ (hw _ (List.mem_of_getElem? (i := 7) rfl))) (by decide) (backOf (W := 0) (rm2 l Z a0 hw [] (x1 &&& (255 : Int32))  h0 n0 Z0 ) hZ (hw _ (List.mem_of_getElem? (i := 7) rfl)) (hw _ (List.mem_of_getElem? (i := 6) rfl)) (by decide) (by decide)) (g := (mkF m 48 #[.val (.int x0), .val (.int x1), .val (.int (x0.toUInt32.toUInt16.toUInt32.toInt32)), .val (.int (F1 (x0.toUInt32.toUInt16.toUInt32.toInt32))), .val (.int (0 : Int32)), .val (.int (x1 &&& (255 : Int32))), .unset, .unset] [(.int (x1 &&& (255 : Int32)))])) rfl (by rw [hml]; rfl) (argsL := [(.int (x1 &&& (255 : Int32)))]) (rest := []) (lenOf pd_1 rfl) rfl (by show 2 * 0 + _ ≤ _; exact Nat.le_of_eq rfl) (hb hby at_48) (fun _ _ => ⟨rfl, hh74, (by decide : 0 + 0 ≤ _), (by decide : 0 + 0 ≤ _)⟩)
          dsimp only [Pt.U, Pt.locs, Pt.cells, Pt.slots] at X104 l104 y104 z104 sr104 hQ104
          subst l104 y104 z104
          obtain ⟨rfl, N104q, hh104⟩ := hQ104
          have N104 := Fr.app N74 N104q
          have st105 : Steps p.tables e below (s₁.setTop (entryFrame m #[(.int x0), (.int x1)] maxLocals)) (T104.setTop (mkF m 51 #[.val (.int x0), .val (.int x1), .val (.int (x0.toUInt32.toUInt16.toUInt32.toInt32)), .val (.int (F1 (x0.toUInt32.toUInt16.toUInt32.toInt32))), .val (.int (0 : Int32)), .val (.int (x1 &&& (255 : Int32))), .unset, .unset] [(.int (F2 (x1 &&& (255 : Int32))))])) := st103.trans (sr104 _ (Steps.refl _))
          have st106 : Steps p.tables e below (s₁.setTop (entryFrame m #[(.int x0), (.int x1)] maxLocals)) (T104.setTop (mkF m 56 #[.val (.int x0), .val (.int x1), .val (.int (x0.toUInt32.toUInt16.toUInt32.toInt32)), .val (.int (F1 (x0.toUInt32.toUInt16.toUInt32.toInt32))), .val (.int (0 : Int32)), .val (.int (x1 &&& (255 : Int32))), .val (.int (F2 (x1 &&& (255 : Int32)))), .unset] [(.int (-1 : Int32)), (.int (F2 (x1 &&& (255 : Int32))))])) := st105.trans (by
              show Steps p.tables e below (T104.setTop (mkF m 51 #[.val (.int x0), .val (.int x1), .val (.int (x0.toUInt32.toUInt16.toUInt32.toInt32)), .val (.int (F1 (x0.toUInt32.toUInt16.toUInt32.toInt32))), .val (.int (0 : Int32)), .val (.int (x1 &&& (255 : Int32))), .unset, .unset] [(.int (F2 (x1 &&& (255 : Int32))))])) _
              refine XS.istore X104.here hx rfl (hb hby at_51) rfl (l' := #[.val (.int x0), .val (.int x1), .val (.int (x0.toUInt32.toUInt16.toUInt32.toInt32)), .val (.int (F1 (x0.toUInt32.toUInt16.toUInt32.toInt32))), .val (.int (0 : Int32)), .val (.int (x1 &&& (255 : Int32))), .val (.int (F2 (x1 &&& (255 : Int32)))), .unset]) rfl ?_
              show Steps p.tables e below (T104.setTop (mkF m 53 #[.val (.int x0), .val (.int x1), .val (.int (x0.toUInt32.toUInt16.toUInt32.toInt32)), .val (.int (F1 (x0.toUInt32.toUInt16.toUInt32.toInt32))), .val (.int (0 : Int32)), .val (.int (x1 &&& (255 : Int32))), .val (.int (F2 (x1 &&& (255 : Int32)))), .unset] [])) _
              refine XS.iload X104.here hx rfl (hb hby at_53) rfl ?_
              show Steps p.tables e below (T104.setTop (mkF m 55 #[.val (.int x0), .val (.int x1), .val (.int (x0.toUInt32.toUInt16.toUInt32.toInt32)), .val (.int (F1 (x0.toUInt32.toUInt16.toUInt32.toInt32))), .val (.int (0 : Int32)), .val (.int (x1 &&& (255 : Int32))), .val (.int (F2 (x1 &&& (255 : Int32)))), .unset] [(.int (F2 (x1 &&& (255 : Int32))))])) _
              refine XS.iconst X104.here hx rfl (hb hby at_55) ?_
              exact Steps.refl _)
          by_cases hc107 : (F2 (x1 &&& (255 : Int32))) = (-1 : Int32)
          · have st108 : Steps p.tables e below (s₁.setTop (entryFrame m #[(.int x0), (.int x1)] maxLocals)) (T104.setTop (mkF m 79 #[.val (.int x0), .val (.int x1), .val (.int (x0.toUInt32.toUInt16.toUInt32.toInt32)), .val (.int (F1 (x0.toUInt32.toUInt16.toUInt32.toInt32))), .val (.int (0 : Int32)), .val (.int (x1 &&& (255 : Int32))), .val (.int (F2 (x1 &&& (255 : Int32)))), .val (.int (1 : Int32))] [(.int (0 : Int32))])) := st106.trans (by
                show Steps p.tables e below (T104.setTop (mkF m 56 #[.val (.int x0), .val (.int x1), .val (.int (x0.toUInt32.toUInt16.toUInt32.toInt32)), .val (.int (F1 (x0.toUInt32.toUInt16.toUInt32.toInt32))), .val (.int (0 : Int32)), .val (.int (x1 &&& (255 : Int32))), .val (.int (F2 (x1 &&& (255 : Int32)))), .unset] [(.int (-1 : Int32)), (.int (F2 (x1 &&& (255 : Int32))))])) _
                refine XS.icmpYes X104.here hx rfl (pc0 := 56) (pc' := 70) rfl (hb hby at_56) rfl (teq hc107).1 (by decide) (by decide) ?_
                show Steps p.tables e below (T104.setTop (mkF m 70 #[.val (.int x0), .val (.int x1), .val (.int (x0.toUInt32.toUInt16.toUInt32.toInt32)), .val (.int (F1 (x0.toUInt32.toUInt16.toUInt32.toInt32))), .val (.int (0 : Int32)), .val (.int (x1 &&& (255 : Int32))), .val (.int (F2 (x1 &&& (255 : Int32)))), .unset] [])) _
                refine XS.iconst X104.here hx rfl (hb hby at_70) ?_
                show Steps p.tables e below (T104.setTop (mkF m 71 #[.val (.int x0), .val (.int x1), .val (.int (x0.toUInt32.toUInt16.toUInt32.toInt32)), .val (.int (F1 (x0.toUInt32.toUInt16.toUInt32.toInt32))), .val (.int (0 : Int32)), .val (.int (x1 &&& (255 : Int32))), .val (.int (F2 (x1 &&& (255 : Int32)))), .unset] [(.int (1 : Int32))])) _
                refine XS.goto X104.here hx rfl (pc0 := 71) (pc' := 75) rfl (hb hby at_71) (by decide) (by decide) ?_
                show Steps p.tables e below (T104.setTop (mkF m 75 #[.val (.int x0), .val (.int x1), .val (.int (x0.toUInt32.toUInt16.toUInt32.toInt32)), .val (.int (F1 (x0.toUInt32.toUInt16.toUInt32.toInt32))), .val (.int (0 : Int32)), .val (.int (x1 &&& (255 : Int32))), .val (.int (F2 (x1 &&& (255 : Int32)))), .unset] [(.int (1 : Int32))])) _
                refine XS.istore X104.here hx rfl (hb hby at_75) rfl (l' := #[.val (.int x0), .val (.int x1), .val (.int (x0.toUInt32.toUInt16.toUInt32.toInt32)), .val (.int (F1 (x0.toUInt32.toUInt16.toUInt32.toInt32))), .val (.int (0 : Int32)), .val (.int (x1 &&& (255 : Int32))), .val (.int (F2 (x1 &&& (255 : Int32)))), .val (.int (1 : Int32))]) rfl ?_
                show Steps p.tables e below (T104.setTop (mkF m 77 #[.val (.int x0), .val (.int x1), .val (.int (x0.toUInt32.toUInt16.toUInt32.toInt32)), .val (.int (F1 (x0.toUInt32.toUInt16.toUInt32.toInt32))), .val (.int (0 : Int32)), .val (.int (x1 &&& (255 : Int32))), .val (.int (F2 (x1 &&& (255 : Int32)))), .val (.int (1 : Int32))] [])) _
                refine XS.iload X104.here hx rfl (hb hby at_77) rfl ?_
                exact Steps.refl _)
            have hf109 : (0 : Int32) = (0 : Int32) := by decide
            have st110 : Steps p.tables e below (s₁.setTop (entryFrame m #[(.int x0), (.int x1)] maxLocals)) (T104.setTop (mkF m 92 #[.val (.int x0), .val (.int x1), .val (.int (x0.toUInt32.toUInt16.toUInt32.toInt32)), .val (.int (F1 (x0.toUInt32.toUInt16.toUInt32.toInt32))), .val (.int (0 : Int32)), .val (.int (x1 &&& (255 : Int32))), .val (.int (F2 (x1 &&& (255 : Int32)))), .val (.int (1 : Int32))] [(.int (0 : Int32))])) := st108.trans (by
                show Steps p.tables e below (T104.setTop (mkF m 79 #[.val (.int x0), .val (.int x1), .val (.int (x0.toUInt32.toUInt16.toUInt32.toInt32)), .val (.int (F1 (x0.toUInt32.toUInt16.toUInt32.toInt32))), .val (.int (0 : Int32)), .val (.int (x1 &&& (255 : Int32))), .val (.int (F2 (x1 &&& (255 : Int32)))), .val (.int (1 : Int32))] [(.int (0 : Int32))])) _
                refine XS.ifYes X104.here hx rfl (pc0 := 79) (pc' := 91) rfl (hb hby at_79) rfl ((if0 _ _).trans (teq hf109).1) (by decide) (by decide) ?_
                show Steps p.tables e below (T104.setTop (mkF m 91 #[.val (.int x0), .val (.int x1), .val (.int (x0.toUInt32.toUInt16.toUInt32.toInt32)), .val (.int (F1 (x0.toUInt32.toUInt16.toUInt32.toInt32))), .val (.int (0 : Int32)), .val (.int (x1 &&& (255 : Int32))), .val (.int (F2 (x1 &&& (255 : Int32)))), .val (.int (1 : Int32))] [])) _
                refine XS.iconst X104.here hx rfl (hb hby at_91) ?_
                exact Steps.refl _)
            obtain ⟨fs, hr, hrun, hended, hW, hsame⟩ := X104.leave (v := some (.int (0 : Int32))) (fun h => by rw [Bd.returns] at h; cases h)
            refine ⟨_, _, st110.trans ?_, hrun, hended, _, _, rfl, ?_, ⟨_, rfl⟩, hW, hsame.mono (by decide) (by decide)⟩
            · exact retN X104 hx (t := .boolean) Bd.returns (by simp) (hb hby at_92) hr
            · show Q0 Z x0 x1 h0 n0 _ T104.heap _
              rw [hh104]
              exact ⟨by rw [F0, if_neg hc5, if_neg hc32, if_neg hc53, if_neg hc77, if_pos hc107], N104⟩
          · have st111 : Steps p.tables e below (s₁.setTop (entryFrame m #[(.int x0), (.int x1)] maxLocals)) (T104.setTop (mkF m 62 #[.val (.int x0), .val (.int x1), .val (.int (x0.toUInt32.toUInt16.toUInt32.toInt32)), .val (.int (F1 (x0.toUInt32.toUInt16.toUInt32.toInt32))), .val (.int (0 : Int32)), .val (.int (x1 &&& (255 : Int32))), .val (.int (F2 (x1 &&& (255 : Int32)))), .unset] [(.int ((F2 (x1 &&& (255 : Int32))).toUInt32.toUInt16.toUInt32.toInt32))])) := st106.trans (by
                show Steps p.tables e below (T104.setTop (mkF m 56 #[.val (.int x0), .val (.int x1), .val (.int (x0.toUInt32.toUInt16.toUInt32.toInt32)), .val (.int (F1 (x0.toUInt32.toUInt16.toUInt32.toInt32))), .val (.int (0 : Int32)), .val (.int (x1 &&& (255 : Int32))), .val (.int (F2 (x1 &&& (255 : Int32)))), .unset] [(.int (-1 : Int32)), (.int (F2 (x1 &&& (255 : Int32))))])) _
                refine XS.icmpNo X104.here hx rfl (hb hby at_56) rfl (feq hc107).1 ?_
                show Steps p.tables e below (T104.setTop (mkF m 59 #[.val (.int x0), .val (.int x1), .val (.int (x0.toUInt32.toUInt16.toUInt32.toInt32)), .val (.int (F1 (x0.toUInt32.toUInt16.toUInt32.toInt32))), .val (.int (0 : Int32)), .val (.int (x1 &&& (255 : Int32))), .val (.int (F2 (x1 &&& (255 : Int32)))), .unset] [])) _
                refine XS.iload X104.here hx rfl (hb hby at_59) rfl ?_
                show Steps p.tables e below (T104.setTop (mkF m 61 #[.val (.int x0), .val (.int x1), .val (.int (x0.toUInt32.toUInt16.toUInt32.toInt32)), .val (.int (F1 (x0.toUInt32.toUInt16.toUInt32.toInt32))), .val (.int (0 : Int32)), .val (.int (x1 &&& (255 : Int32))), .val (.int (F2 (x1 &&& (255 : Int32)))), .unset] [(.int (F2 (x1 &&& (255 : Int32))))])) _
                refine XS.i2c X104.here hx rfl (hb hby at_61) rfl ?_
                exact Steps.refl _)
            obtain ⟨_, _, ⟨T112, L112, k112, n112⟩, -, X112, ⟨Lc112, hQ112, l112, y112, z112⟩, sr112⟩ := Jvm.LawKit.callS X104 hx (y := (⟨"com/example/escritural/escritural/pdf/WinAnsi", "code", "(C)I"⟩ : MethodName)) hown (mvT hZ (hw _ (List.mem_of_getElem? (i := 0) rfl))) (mvT hZ (hw _ (List.mem_of_getElem? (i := 1) rfl))) (mvT hZ (hw _ (List.mem_of_getElem? (i := 2) rfl))) (mvT hZ (hw _ (List.mem_of_getElem? (i := 3) rfl))) (by decide) (backOf (W := 0) (rm1 l Z a0 hw [] ((F2 (x1 &&& (255 : Int32))).toUInt32.toUInt16.toUInt32.toInt32)  h0 n0 Z0 ) hZ (hw _ (List.mem_of_getElem? (i := 3) rfl)) (hw _ (List.mem_of_getElem? (i := 2) rfl)) (by decide) (by decide)) (g := (mkF m 62 #[.val (.int x0), .val (.int x1), .val (.int (x0.toUInt32.toUInt16.toUInt32.toInt32)), .val (.int (F1 (x0.toUInt32.toUInt16.toUInt32.toInt32))), .val (.int (0 : Int32)), .val (.int (x1 &&& (255 : Int32))), .val (.int (F2 (x1 &&& (255 : Int32)))), .unset] [(.int ((F2 (x1 &&& (255 : Int32))).toUInt32.toUInt16.toUInt32.toInt32))])) rfl (by rw [hml]; rfl) (argsL := [(.int ((F2 (x1 &&& (255 : Int32))).toUInt32.toUInt16.toUInt32.toInt32))]) (rest := []) (lenOf pd_0 rfl) rfl (by show 2 * 0 + _ ≤ _; exact Nat.le_of_eq rfl) (hb hby at_62) (fun _ _ => ⟨rfl, hh104, (by decide : 0 + 0 ≤ _), (by decide : 0 + 0 ≤ _)⟩)
            dsimp only [Pt.U, Pt.locs, Pt.cells, Pt.slots] at X112 l112 y112 z112 sr112 hQ112
            subst l112 y112 z112
            obtain ⟨rfl, N112q, hh112⟩ := hQ112
            have N112 := Fr.app N104 N112q
            have st113 : Steps p.tables e below (s₁.setTop (entryFrame m #[(.int x0), (.int x1)] maxLocals)) (T112.setTop (mkF m 65 #[.val (.int x0), .val (.int x1), .val (.int (x0.toUInt32.toUInt16.toUInt32.toInt32)), .val (.int (F1 (x0.toUInt32.toUInt16.toUInt32.toInt32))), .val (.int (0 : Int32)), .val (.int (x1 &&& (255 : Int32))), .val (.int (F2 (x1 &&& (255 : Int32)))), .unset] [(.int (F1 ((F2 (x1 &&& (255 : Int32))).toUInt32.toUInt16.toUInt32.toInt32)))])) := st111.trans (sr112 _ (Steps.refl _))
            have st114 : Steps p.tables e below (s₁.setTop (entryFrame m #[(.int x0), (.int x1)] maxLocals)) (T112.setTop (mkF m 67 #[.val (.int x0), .val (.int x1), .val (.int (x0.toUInt32.toUInt16.toUInt32.toInt32)), .val (.int (F1 (x0.toUInt32.toUInt16.toUInt32.toInt32))), .val (.int (0 : Int32)), .val (.int (x1 &&& (255 : Int32))), .val (.int (F2 (x1 &&& (255 : Int32)))), .unset] [(.int (x1 &&& (255 : Int32))), (.int (F1 ((F2 (x1 &&& (255 : Int32))).toUInt32.toUInt16.toUInt32.toInt32)))])) := st113.trans (by
                show Steps p.tables e below (T112.setTop (mkF m 65 #[.val (.int x0), .val (.int x1), .val (.int (x0.toUInt32.toUInt16.toUInt32.toInt32)), .val (.int (F1 (x0.toUInt32.toUInt16.toUInt32.toInt32))), .val (.int (0 : Int32)), .val (.int (x1 &&& (255 : Int32))), .val (.int (F2 (x1 &&& (255 : Int32)))), .unset] [(.int (F1 ((F2 (x1 &&& (255 : Int32))).toUInt32.toUInt16.toUInt32.toInt32)))])) _
                refine XS.iload X112.here hx rfl (hb hby at_65) rfl ?_
                exact Steps.refl _)
            by_cases hc115 : (F1 ((F2 (x1 &&& (255 : Int32))).toUInt32.toUInt16.toUInt32.toInt32)) = (x1 &&& (255 : Int32))
            · have st116 : Steps p.tables e below (s₁.setTop (entryFrame m #[(.int x0), (.int x1)] maxLocals)) (T112.setTop (mkF m 79 #[.val (.int x0), .val (.int x1), .val (.int (x0.toUInt32.toUInt16.toUInt32.toInt32)), .val (.int (F1 (x0.toUInt32.toUInt16.toUInt32.toInt32))), .val (.int (0 : Int32)), .val (.int (x1 &&& (255 : Int32))), .val (.int (F2 (x1 &&& (255 : Int32)))), .val (.int (1 : Int32))] [(.int (0 : Int32))])) := st114.trans (by
                  show Steps p.tables e below (T112.setTop (mkF m 67 #[.val (.int x0), .val (.int x1), .val (.int (x0.toUInt32.toUInt16.toUInt32.toInt32)), .val (.int (F1 (x0.toUInt32.toUInt16.toUInt32.toInt32))), .val (.int (0 : Int32)), .val (.int (x1 &&& (255 : Int32))), .val (.int (F2 (x1 &&& (255 : Int32)))), .unset] [(.int (x1 &&& (255 : Int32))), (.int (F1 ((F2 (x1 &&& (255 : Int32))).toUInt32.toUInt16.toUInt32.toInt32)))])) _
                  refine XS.icmpNo X112.here hx rfl (hb hby at_67) rfl (teq hc115).2 ?_
                  show Steps p.tables e below (T112.setTop (mkF m 70 #[.val (.int x0), .val (.int x1), .val (.int (x0.toUInt32.toUInt16.toUInt32.toInt32)), .val (.int (F1 (x0.toUInt32.toUInt16.toUInt32.toInt32))), .val (.int (0 : Int32)), .val (.int (x1 &&& (255 : Int32))), .val (.int (F2 (x1 &&& (255 : Int32)))), .unset] [])) _
                  refine XS.iconst X112.here hx rfl (hb hby at_70) ?_
                  show Steps p.tables e below (T112.setTop (mkF m 71 #[.val (.int x0), .val (.int x1), .val (.int (x0.toUInt32.toUInt16.toUInt32.toInt32)), .val (.int (F1 (x0.toUInt32.toUInt16.toUInt32.toInt32))), .val (.int (0 : Int32)), .val (.int (x1 &&& (255 : Int32))), .val (.int (F2 (x1 &&& (255 : Int32)))), .unset] [(.int (1 : Int32))])) _
                  refine XS.goto X112.here hx rfl (pc0 := 71) (pc' := 75) rfl (hb hby at_71) (by decide) (by decide) ?_
                  show Steps p.tables e below (T112.setTop (mkF m 75 #[.val (.int x0), .val (.int x1), .val (.int (x0.toUInt32.toUInt16.toUInt32.toInt32)), .val (.int (F1 (x0.toUInt32.toUInt16.toUInt32.toInt32))), .val (.int (0 : Int32)), .val (.int (x1 &&& (255 : Int32))), .val (.int (F2 (x1 &&& (255 : Int32)))), .unset] [(.int (1 : Int32))])) _
                  refine XS.istore X112.here hx rfl (hb hby at_75) rfl (l' := #[.val (.int x0), .val (.int x1), .val (.int (x0.toUInt32.toUInt16.toUInt32.toInt32)), .val (.int (F1 (x0.toUInt32.toUInt16.toUInt32.toInt32))), .val (.int (0 : Int32)), .val (.int (x1 &&& (255 : Int32))), .val (.int (F2 (x1 &&& (255 : Int32)))), .val (.int (1 : Int32))]) rfl ?_
                  show Steps p.tables e below (T112.setTop (mkF m 77 #[.val (.int x0), .val (.int x1), .val (.int (x0.toUInt32.toUInt16.toUInt32.toInt32)), .val (.int (F1 (x0.toUInt32.toUInt16.toUInt32.toInt32))), .val (.int (0 : Int32)), .val (.int (x1 &&& (255 : Int32))), .val (.int (F2 (x1 &&& (255 : Int32)))), .val (.int (1 : Int32))] [])) _
                  refine XS.iload X112.here hx rfl (hb hby at_77) rfl ?_
                  exact Steps.refl _)
              have hf117 : (0 : Int32) = (0 : Int32) := by decide
              have st118 : Steps p.tables e below (s₁.setTop (entryFrame m #[(.int x0), (.int x1)] maxLocals)) (T112.setTop (mkF m 92 #[.val (.int x0), .val (.int x1), .val (.int (x0.toUInt32.toUInt16.toUInt32.toInt32)), .val (.int (F1 (x0.toUInt32.toUInt16.toUInt32.toInt32))), .val (.int (0 : Int32)), .val (.int (x1 &&& (255 : Int32))), .val (.int (F2 (x1 &&& (255 : Int32)))), .val (.int (1 : Int32))] [(.int (0 : Int32))])) := st116.trans (by
                  show Steps p.tables e below (T112.setTop (mkF m 79 #[.val (.int x0), .val (.int x1), .val (.int (x0.toUInt32.toUInt16.toUInt32.toInt32)), .val (.int (F1 (x0.toUInt32.toUInt16.toUInt32.toInt32))), .val (.int (0 : Int32)), .val (.int (x1 &&& (255 : Int32))), .val (.int (F2 (x1 &&& (255 : Int32)))), .val (.int (1 : Int32))] [(.int (0 : Int32))])) _
                  refine XS.ifYes X112.here hx rfl (pc0 := 79) (pc' := 91) rfl (hb hby at_79) rfl ((if0 _ _).trans (teq hf117).1) (by decide) (by decide) ?_
                  show Steps p.tables e below (T112.setTop (mkF m 91 #[.val (.int x0), .val (.int x1), .val (.int (x0.toUInt32.toUInt16.toUInt32.toInt32)), .val (.int (F1 (x0.toUInt32.toUInt16.toUInt32.toInt32))), .val (.int (0 : Int32)), .val (.int (x1 &&& (255 : Int32))), .val (.int (F2 (x1 &&& (255 : Int32)))), .val (.int (1 : Int32))] [])) _
                  refine XS.iconst X112.here hx rfl (hb hby at_91) ?_
                  exact Steps.refl _)
              obtain ⟨fs, hr, hrun, hended, hW, hsame⟩ := X112.leave (v := some (.int (0 : Int32))) (fun h => by rw [Bd.returns] at h; cases h)
              refine ⟨_, _, st118.trans ?_, hrun, hended, _, _, rfl, ?_, ⟨_, rfl⟩, hW, hsame.mono (by decide) (by decide)⟩
              · exact retN X112 hx (t := .boolean) Bd.returns (by simp) (hb hby at_92) hr
              · show Q0 Z x0 x1 h0 n0 _ T112.heap _
                rw [hh112]
                exact ⟨by rw [F0, if_neg hc5, if_neg hc32, if_neg hc53, if_neg hc77, if_neg hc107, if_pos hc115], N112⟩
            · have st119 : Steps p.tables e below (s₁.setTop (entryFrame m #[(.int x0), (.int x1)] maxLocals)) (T112.setTop (mkF m 79 #[.val (.int x0), .val (.int x1), .val (.int (x0.toUInt32.toUInt16.toUInt32.toInt32)), .val (.int (F1 (x0.toUInt32.toUInt16.toUInt32.toInt32))), .val (.int (0 : Int32)), .val (.int (x1 &&& (255 : Int32))), .val (.int (F2 (x1 &&& (255 : Int32)))), .val (.int (0 : Int32))] [(.int (0 : Int32))])) := st114.trans (by
                  show Steps p.tables e below (T112.setTop (mkF m 67 #[.val (.int x0), .val (.int x1), .val (.int (x0.toUInt32.toUInt16.toUInt32.toInt32)), .val (.int (F1 (x0.toUInt32.toUInt16.toUInt32.toInt32))), .val (.int (0 : Int32)), .val (.int (x1 &&& (255 : Int32))), .val (.int (F2 (x1 &&& (255 : Int32)))), .unset] [(.int (x1 &&& (255 : Int32))), (.int (F1 ((F2 (x1 &&& (255 : Int32))).toUInt32.toUInt16.toUInt32.toInt32)))])) _
                  refine XS.icmpYes X112.here hx rfl (pc0 := 67) (pc' := 74) rfl (hb hby at_67) rfl (feq hc115).2 (by decide) (by decide) ?_
                  show Steps p.tables e below (T112.setTop (mkF m 74 #[.val (.int x0), .val (.int x1), .val (.int (x0.toUInt32.toUInt16.toUInt32.toInt32)), .val (.int (F1 (x0.toUInt32.toUInt16.toUInt32.toInt32))), .val (.int (0 : Int32)), .val (.int (x1 &&& (255 : Int32))), .val (.int (F2 (x1 &&& (255 : Int32)))), .unset] [])) _
                  refine XS.iconst X112.here hx rfl (hb hby at_74) ?_
                  show Steps p.tables e below (T112.setTop (mkF m 75 #[.val (.int x0), .val (.int x1), .val (.int (x0.toUInt32.toUInt16.toUInt32.toInt32)), .val (.int (F1 (x0.toUInt32.toUInt16.toUInt32.toInt32))), .val (.int (0 : Int32)), .val (.int (x1 &&& (255 : Int32))), .val (.int (F2 (x1 &&& (255 : Int32)))), .unset] [(.int (0 : Int32))])) _
                  refine XS.istore X112.here hx rfl (hb hby at_75) rfl (l' := #[.val (.int x0), .val (.int x1), .val (.int (x0.toUInt32.toUInt16.toUInt32.toInt32)), .val (.int (F1 (x0.toUInt32.toUInt16.toUInt32.toInt32))), .val (.int (0 : Int32)), .val (.int (x1 &&& (255 : Int32))), .val (.int (F2 (x1 &&& (255 : Int32)))), .val (.int (0 : Int32))]) rfl ?_
                  show Steps p.tables e below (T112.setTop (mkF m 77 #[.val (.int x0), .val (.int x1), .val (.int (x0.toUInt32.toUInt16.toUInt32.toInt32)), .val (.int (F1 (x0.toUInt32.toUInt16.toUInt32.toInt32))), .val (.int (0 : Int32)), .val (.int (x1 &&& (255 : Int32))), .val (.int (F2 (x1 &&& (255 : Int32)))), .val (.int (0 : Int32))] [])) _
                  refine XS.iload X112.here hx rfl (hb hby at_77) rfl ?_
                  exact Steps.refl _)
              have hf120 : (0 : Int32) = (0 : Int32) := by decide
              have st121 : Steps p.tables e below (s₁.setTop (entryFrame m #[(.int x0), (.int x1)] maxLocals)) (T112.setTop (mkF m 92 #[.val (.int x0), .val (.int x1), .val (.int (x0.toUInt32.toUInt16.toUInt32.toInt32)), .val (.int (F1 (x0.toUInt32.toUInt16.toUInt32.toInt32))), .val (.int (0 : Int32)), .val (.int (x1 &&& (255 : Int32))), .val (.int (F2 (x1 &&& (255 : Int32)))), .val (.int (0 : Int32))] [(.int (0 : Int32))])) := st119.trans (by
                  show Steps p.tables e below (T112.setTop (mkF m 79 #[.val (.int x0), .val (.int x1), .val (.int (x0.toUInt32.toUInt16.toUInt32.toInt32)), .val (.int (F1 (x0.toUInt32.toUInt16.toUInt32.toInt32))), .val (.int (0 : Int32)), .val (.int (x1 &&& (255 : Int32))), .val (.int (F2 (x1 &&& (255 : Int32)))), .val (.int (0 : Int32))] [(.int (0 : Int32))])) _
                  refine XS.ifYes X112.here hx rfl (pc0 := 79) (pc' := 91) rfl (hb hby at_79) rfl ((if0 _ _).trans (teq hf120).1) (by decide) (by decide) ?_
                  show Steps p.tables e below (T112.setTop (mkF m 91 #[.val (.int x0), .val (.int x1), .val (.int (x0.toUInt32.toUInt16.toUInt32.toInt32)), .val (.int (F1 (x0.toUInt32.toUInt16.toUInt32.toInt32))), .val (.int (0 : Int32)), .val (.int (x1 &&& (255 : Int32))), .val (.int (F2 (x1 &&& (255 : Int32)))), .val (.int (0 : Int32))] [])) _
                  refine XS.iconst X112.here hx rfl (hb hby at_91) ?_
                  exact Steps.refl _)
              obtain ⟨fs, hr, hrun, hended, hW, hsame⟩ := X112.leave (v := some (.int (0 : Int32))) (fun h => by rw [Bd.returns] at h; cases h)
              refine ⟨_, _, st121.trans ?_, hrun, hended, _, _, rfl, ?_, ⟨_, rfl⟩, hW, hsame.mono (by decide) (by decide)⟩
              · exact retN X112 hx (t := .boolean) Bd.returns (by simp) (hb hby at_92) hr
              · show Q0 Z x0 x1 h0 n0 _ T112.heap _
                rw [hh112]
                exact ⟨by rw [F0, if_neg hc5, if_neg hc32, if_neg hc53, if_neg hc77, if_neg hc107, if_neg hc115], N112⟩
theorem own_fw (c : Int32) : F1 c = -1 ∨ (¬ F1 c < 0 ∧ ¬ 255 < F1 c ∧ F2 (F1 c) = c) := by
  have k0 : (0 : Int32).toInt = 0 := by decide
  have k32 : (32 : Int32).toInt = 32 := by decide
  have k126 : (126 : Int32).toInt = 126 := by decide
  have k127 : (127 : Int32).toInt = 127 := by decide
  have k160 : (160 : Int32).toInt = 160 := by decide
  have k255 : (255 : Int32).toInt = 255 := by decide
  by_cases h1 : c < 32
  · left; rw [F1, if_pos h1]
  by_cases h2 : c < 127
  · right
    have e : F1 c = c := by rw [F1, if_neg h1, if_pos h2]
    have h3 : ¬ 126 < c := by rw [Int32.lt_iff_toInt_lt] at *; omega
    rw [e]
    refine ⟨?_, ?_, by rw [F2, if_neg h1, if_neg h3]⟩
    · rw [Int32.lt_iff_toInt_lt] at *; omega
    · rw [Int32.lt_iff_toInt_lt] at *; omega
  by_cases h3 : c < 160
  · left; rw [F1, if_neg h1, if_neg h2, if_pos h3]
  by_cases h4 : 255 < c
  · by_cases e338 : c = 338
    · subst e338; right; decide +kernel
    by_cases e339 : c = 339
    · subst e339; right; decide +kernel
    by_cases e352 : c = 352
    · subst e352; right; decide +kernel
    by_cases e353 : c = 353
    · subst e353; right; decide +kernel
    by_cases e376 : c = 376
    · subst e376; right; decide +kernel
    by_cases e381 : c = 381
    · subst e381; right; decide +kernel
    by_cases e382 : c = 382
    · subst e382; right; decide +kernel
    by_cases e8211 : c = 8211
    · subst e8211; right; decide +kernel
    by_cases e8212 : c = 8212
    · subst e8212; right; decide +kernel
    by_cases e8216 : c = 8216
    · subst e8216; right; decide +kernel
    by_cases e8217 : c = 8217
    · subst e8217; right; decide +kernel
    by_cases e8220 : c = 8220
    · subst e8220; right; decide +kernel
    by_cases e8221 : c = 8221
    · subst e8221; right; decide +kernel
    left; rw [F1, if_neg h1, if_neg h2, if_neg h3, if_pos h4, if_neg e338, if_neg e339, if_neg e352, if_neg e353, if_neg e376, if_neg e381, if_neg e382, if_neg e8211, if_neg e8212, if_neg e8216, if_neg e8217, if_neg e8220, if_neg e8221]
  · right
    have e : F1 c = c := by rw [F1, if_neg h1, if_neg h2, if_neg h3, if_neg h4]
    have h5 : 126 < c := by rw [Int32.lt_iff_toInt_lt] at *; omega
    rw [e]
    refine ⟨?_, h4, by rw [F2, if_neg h1, if_pos h5, if_neg h3, if_neg h4]⟩
    rw [Int32.lt_iff_toInt_lt] at *; omega
theorem own_bw (b : Int32) (h0 : 0 ≤ b.toInt) (h255 : b.toInt ≤ 255) : F2 b = -1 ∨ F1 ((F2 b).toUInt32.toUInt16.toUInt32.toInt32) = b := by
  have k32 : (32 : Int32).toInt = 32 := by decide
  have k126 : (126 : Int32).toInt = 126 := by decide
  have k127 : (127 : Int32).toInt = 127 := by decide
  have k160 : (160 : Int32).toInt = 160 := by decide
  have k255 : (255 : Int32).toInt = 255 := by decide
  have hi : b.toUInt32.toUInt16.toUInt32.toInt32 = b := by
    have q := c_i2c b
    apply Int32.toInt_inj.mp; omega
  by_cases h1 : b < 32
  · left; rw [F2, if_pos h1]
  by_cases h2 : 126 < b
  · by_cases h3 : b < 160
    · by_cases e138 : b = 138
      · subst e138; right; decide +kernel
      by_cases e140 : b = 140
      · subst e140; right; decide +kernel
      by_cases e142 : b = 142
      · subst e142; right; decide +kernel
      by_cases e145 : b = 145
      · subst e145; right; decide +kernel
      by_cases e146 : b = 146
      · subst e146; right; decide +kernel
      by_cases e147 : b = 147
      · subst e147; right; decide +kernel
      by_cases e148 : b = 148
      · subst e148; right; decide +kernel
      by_cases e150 : b = 150
      · subst e150; right; decide +kernel
      by_cases e151 : b = 151
      · subst e151; right; decide +kernel
      by_cases e154 : b = 154
      · subst e154; right; decide +kernel
      by_cases e156 : b = 156
      · subst e156; right; decide +kernel
      by_cases e158 : b = 158
      · subst e158; right; decide +kernel
      by_cases e159 : b = 159
      · subst e159; right; decide +kernel
      left; rw [F2, if_neg h1, if_pos h2, if_pos h3, if_neg e138, if_neg e140, if_neg e142, if_neg e145, if_neg e146, if_neg e147, if_neg e148, if_neg e150, if_neg e151, if_neg e154, if_neg e156, if_neg e158, if_neg e159]
    · right
      have h4 : ¬ 255 < b := by rw [Int32.lt_iff_toInt_lt] at *; omega
      have h5 : ¬ b < 127 := by rw [Int32.lt_iff_toInt_lt] at *; omega
      rw [show F2 b = b by rw [F2, if_neg h1, if_pos h2, if_neg h3, if_neg h4], hi, F1, if_neg h1, if_neg h5, if_neg h3, if_neg h4]
  · right
    have h5 : b < 127 := by rw [Int32.lt_iff_toInt_lt] at *; omega
    rw [show F2 b = b by rw [F2, if_neg h1, if_neg h2], hi, F1, if_neg h1, if_pos h5]
theorem own_law (x0 x1 : Int32) : F0 x0 x1 = 1 := by
  have e1 : (x1 &&& 255).toInt = x1.toInt % (2 ^ 8 : Nat) := c_mask x1 255 8 (by decide) (by decide)
  have f := own_fw (x0.toUInt32.toUInt16.toUInt32.toInt32)
  have g := own_bw (x1 &&& 255) (by omega) (by omega)
  unfold F0
  generalize x0.toUInt32.toUInt16.toUInt32.toInt32 = c at *
  generalize x1 &&& 255 = b at *
  rcases f with f | ⟨f1, f2, f3⟩
  · rw [if_pos f]
    rcases g with g | g
    · rw [if_pos g]
    · by_cases q : F2 b = -1
      · rw [if_pos q]
      · rw [if_neg q, if_pos g]
  · by_cases q : F1 c = -1
    · rw [if_pos q]
      rcases g with g | g
      · rw [if_pos g]
      · by_cases q : F2 b = -1
        · rw [if_pos q]
        · rw [if_neg q, if_pos g]
    · rw [if_neg q, if_neg f1, if_neg f2, if_pos f3]
      rcases g with g | g
      · rw [if_pos g]
      · by_cases q : F2 b = -1
        · rw [if_pos q]
        · rw [if_neg q, if_pos g]
set_option maxRecDepth 65536 in
set_option maxHeartbeats 40000000 in
theorem comes_1 {Post : Tables → Env → Array Value → State → Outcome → State → Prop} (hpost : ∀ tb e args s v u, (limb_1_1.after args s (.returned v) u = true ∧ limb_1_2.after args s (.returned v) u = true ∧ True) → FrameEnd s (.returned v) u (Jvm.fieldLocs frame_1_writes args s ++ Jvm.arrayLocs frame_1_arrays args s ++ Jvm.staticLocs frame_1_statics s) 0 0 → Post tb e args s (.returned v) u) :
    ArmFor flags0 classFile x code maxLocals ret World_1 tables_1 room_1 Calls_1 rest_1 Pre_1 Post := by
  intro l hfl _ _ p e ha hc hk s m args below hf hA hF happ hP
  obtain ⟨hcalls, hrest, hpre⟩ := hP
  obtain ⟨-, -, -, hnamed, -, -, -, hat⟩ := (Spec.applies_iff hf).mp happ
  obtain ⟨hg, hn⟩ := and_e (Cond.before_iff.mp (show (Jvm.Cond.and given_1 narrow_1).before args s = true from hpre))
  obtain ⟨g1, g2⟩ := and_e hg
  obtain ⟨g3, g4⟩ := and_e g2
  obtain ⟨w0, w1, rfl⟩ : ∃ w0 w1 : Value, args = #[w0, w1] := by
    have hs : args.size = 2 := by simpa [Cond.value, given_1] using g1
    obtain ⟨L⟩ := args
    match L, hs with
    | [w0, w1], _ => exact ⟨w0, w1, rfl⟩
  have hw := fun d (hd : d ∈ tables_1) => atoms_spec (ws := Jvm.Cond.code x code maxLocals ret :: tables_1) hat d (List.mem_cons_of_mem _ hd)
  have hfit : Fit s := fun {y c} hc i hi => by
    obtain ⟨ha, rfl⟩ := Array.getElem?_eq_some_iff.mp hc
    have q := List.all_eq_true.mp ((Array.all_eq_true_iff_forall_mem.mp hF) _ (Array.getElem_mem ha)) i (List.mem_range.mpr hi)
    simpa [Array.getElem?_eq_getElem hi] using q
  obtain ⟨i0, ei0⟩ := is_v g3
  obtain rfl : w0 = (.int i0) := Option.some.inj ei0
  obtain ⟨i1, ei1⟩ := is_v g4
  obtain rfl : w1 = (.int i1) := Option.some.inj ei1
  obtain ⟨n, o, h1, h2, h3, _, L, rfl, ⟨hv, N⟩, hq⟩ := rm0 l s _ hw tables_1 i0 i1  s.heap s.heap.size (Nat.le_refl _)  p e ha hc hk s m _ below hf ((Spec.applies_iff_loose hf).mp happ).1 ⟨rfl, State.Warmed39.refl s, rfl⟩ trivial
  rw [own_law] at hv
  subst hv
  refine ⟨n, _, h1, h2, h3, hpost _ _ _ _ _ _ ⟨Cond.after_iff.mpr rfl, Cond.after_iff.mpr (eq_i res_at (Term.int_eval (1)) rfl), trivial⟩ ⟨hq.1, hq.2.1, (hq.2.2.sift fun y hy => Or.inr (N y hy)).mono (by decide) (by decide)⟩⟩
theorem main_1_1 : Claimed_1_1 := comes_1 fun _ _ _ _ _ _ h hF => ⟨h.1, hF⟩
theorem main_1_2 : Claimed_1_2 := comes_1 fun _ _ _ _ _ _ h hF => ⟨h.2.1, hF⟩
end Jvm.Pilot.@@N@@
namespace Jvm.Pilot.@@N@@
open Jvm Jvm.ClassFile Sem Op Lib Jvm.Free Jvm.Stand Jvm.Pilot.@@N@@.Jvm.D
/-! MADE BY PROGRAM (witnessworld.py) out of the Statement's table words and the real class files: 9 classes; the members and pool entries that the words name. The judged class is class 1, her method 2. -/
namespace start1
open Jvm.ClassFile
def u (s : String) : CpInfo := .utf8 (stringToUtf16 s)
/-- a pool by its gaps: so many unusable entries, then the entry; so many at the end -/
def gap : Nat → List CpInfo → List CpInfo
  | 0, r => r
  | n + 1, r => .unusable :: gap n r
def poolList (es : List (Nat × CpInfo)) (last : Nat) : List CpInfo := es.foldr (fun e r => gap e.1 (e.2 :: r)) (gap last [])
def pool (es : List (Nat × CpInfo)) (last : Nat) : Array CpInfo := ⟨poolList es last⟩
def fileOf (pool : Array CpInfo) (this : Nat) (attrs : Array Attribute := #[]) (ms : Array MethodInfo := #[]) (fl : Nat := 33) (sup : Nat := 0) (ifs : Array Nat := #[]) (fds : Array FieldInfo := #[]) : ClassFile where
  minorVersion := 0
  majorVersion := 65
  constantPool := pool
  accessFlags := fl
  thisClass := this
  superClass := sup
  interfaces := ifs
  fields := fds
  methods := ms
  attributes := attrs
def plain (name : String) (sup : Option ClassId) : Class where
  name := name
  kind := .ordinary
  loader := none
  accessFlags := 33
  super := sup
  interfaces := #[]
  cf := none
  fields := #[]
  methods := #[]
  instanceTypes := #[]
  staticTypes := #[]
  resolved := #[]
  callSites := []
  init := .initialized
  statics := none
  mirror := none

def pool0 : Array CpInfo := pool [(5, u "<init>"), (0, u "()V"), (1, .class_ 10), (1, u "java/lang/Object")] 113

def k0m0 : Method := { name := "<init>", desc := "()V", sig := { parameters := [], returnType := none }, accessFlags := 1, code := none }
/-- java/lang/Object -/
def k0 : Class := { plain "java/lang/Object" none with
  accessFlags := 33
  interfaces := #[]
  cf := some (fileOf pool0 8 #[] #[{ accessFlags := 1, nameIndex := 5, descriptorIndex := 6, attributes := #[] }] 33 0 #[] #[])
  fields := #[]
  methods := #[k0m0]
  instanceTypes := #[]
  staticTypes := #[]
  resolved := Array.replicate 124 none
  statics := none }

def pool1 : Array CpInfo := pool [(2, .class_ 4), (1, u "java/lang/Object"), (0, u "<init>"), (0, u "()V"), (0, .methodref 8 9), (0, .class_ 10), (0, .nameAndType 11 12), (0, u "com/example/escritural/escritural/pdf/WinAnsi"), (0, u "code"), (0, u "(C)I"), (0, .methodref 14 15), (0, .class_ 16), (0, .nameAndType 17 18), (0, u "com/example/escritural/escritural/pdf/WinAnsiCodePinLaw"), (0, u "decode"), (0, u "(I)I"), (3, u "law"), (0, u "(II)Z")] 2

def k1m0 : Method := { name := "<init>", desc := "()V", sig := { parameters := [], returnType := none }, accessFlags := 2, code := none }
def k1c1 : Code := { maxStack := 2, maxLocals := 1, code := method_2_code, exceptionTable := #[], attributes := #[] }
def k1m1 : Method := { name := "decode", desc := "(I)I", sig := { parameters := [.int], returnType := some .int }, accessFlags := 10, code := some k1c1 }
def k1c2 : Code := { maxStack := 2, maxLocals := 8, code := code, exceptionTable := #[], attributes := #[] }
def k1m2 : Method := { name := "law", desc := "(II)Z", sig := { parameters := [.int, .int], returnType := some .boolean }, accessFlags := 9, code := some k1c2 }
/-- com/example/escritural/escritural/pdf/WinAnsiCodePinLaw -/
def k1 : Class := { plain "com/example/escritural/escritural/pdf/WinAnsiCodePinLaw" (some 0) with
  accessFlags := 49
  interfaces := #[]
  cf := some (fileOf pool1 14 #[] #[{ accessFlags := 2, nameIndex := 5, descriptorIndex := 6, attributes := #[] }, { accessFlags := 10, nameIndex := 17, descriptorIndex := 18, attributes := #[] }, { accessFlags := 9, nameIndex := 22, descriptorIndex := 23, attributes := #[] }] 49 2 #[] #[])
  fields := #[]
  methods := #[k1m0, k1m1, k1m2]
  instanceTypes := #[]
  staticTypes := #[]
  resolved := Array.replicate 26 none
  statics := none }

def pool2 : Array CpInfo := pool [(2, .class_ 4), (1, u "java/lang/Object"), (0, u "<init>"), (0, u "()V"), (1, .class_ 10), (1, u "com/example/escritural/escritural/pdf/WinAnsi"), (26, u "code"), (0, u "(C)I"), (24, u "MINUS"), (0, u "C"), (2, u "MINUS_IN_SYMBOL"), (0, u "I")] 23

def k2m0 : Method := { name := "<init>", desc := "()V", sig := { parameters := [], returnType := none }, accessFlags := 2, code := none }
def k2c1 : Code := { maxStack := 2, maxLocals := 1, code := prog_87_method_4_code, exceptionTable := #[], attributes := #[] }
def k2m1 : Method := { name := "code", desc := "(C)I", sig := { parameters := [.char], returnType := some .int }, accessFlags := 8, code := some k2c1 }
/-- com/example/escritural/escritural/pdf/WinAnsi -/
def k2 : Class := { plain "com/example/escritural/escritural/pdf/WinAnsi" (some 0) with
  accessFlags := 48
  interfaces := #[]
  cf := some (fileOf pool2 8 #[] #[{ accessFlags := 2, nameIndex := 5, descriptorIndex := 6, attributes := #[] }, { accessFlags := 8, nameIndex := 37, descriptorIndex := 38, attributes := #[] }] 48 2 #[] #[{ accessFlags := 24, nameIndex := 63, descriptorIndex := 64, attributes := #[] }, { accessFlags := 24, nameIndex := 67, descriptorIndex := 68, attributes := #[] }])
  fields := #[{ name := "MINUS", type := .char, accessFlags := 24, slot := 0, constantValue := 0 }, { name := "MINUS_IN_SYMBOL", type := .int, accessFlags := 24, slot := 1, constantValue := 0 }]
  methods := #[k2m0, k2m1]
  instanceTypes := #[]
  staticTypes := #[.char, .int]
  resolved := Array.replicate 92 none
  statics := none }

def pool3 : Array CpInfo := pool [(1, u "java/lang/Cloneable"), (0, .class_ 1), (0, u "java/lang/Object"), (0, .class_ 3)] 3

/-- java/lang/Cloneable -/
def k3 : Class := { plain "java/lang/Cloneable" (some 0) with
  accessFlags := 1537
  interfaces := #[]
  cf := some (fileOf pool3 2 #[] #[] 1537 4 #[] #[])
  fields := #[]
  methods := #[]
  instanceTypes := #[]
  staticTypes := #[]
  resolved := Array.replicate 8 none
  statics := none }

def pool4 : Array CpInfo := pool [(1, u "java/io/Serializable"), (0, .class_ 1), (0, u "java/lang/Object"), (0, .class_ 3)] 3

/-- java/io/Serializable -/
def k4 : Class := { plain "java/io/Serializable" (some 0) with
  accessFlags := 1537
  interfaces := #[]
  cf := some (fileOf pool4 2 #[] #[] 1537 4 #[] #[])
  fields := #[]
  methods := #[]
  instanceTypes := #[]
  staticTypes := #[]
  resolved := Array.replicate 8 none
  statics := none }

/-- the primitive byte -/
def k5 : Class := { plain "byte" none with kind := .primitive 'B', accessFlags := 0x411 }
/-- [B -/
def k6 : Class := { plain "[B" (some 0) with kind := .array 5 .byte, interfaces := #[3, 4], accessFlags := 1041 }

/-- the primitive int -/
def k7 : Class := { plain "int" none with kind := .primitive 'I', accessFlags := 0x411 }
/-- [I -/
def k8 : Class := { plain "[I" (some 0) with kind := .array 7 .int, interfaces := #[3, 4], accessFlags := 1041 }

def heap : Heap := #[]
def classes : Array Class := #[k0, k1, k2, k3, k4, k5, k6, k7, k8]
def interned : List (Array UInt16 × Addr) := []
def slotsUsed : Nat := 0
def theMethod : MethodId := ⟨1, 2⟩
def args0 : Array Value := #[.int 8212, .int 150]
def aboutOver (below : List Frame) : State where
  vm := { classes := classes, interned := interned.toArray }
  heap := heap
  slotsUsed := slotsUsed
  threads := #[{ frames := .invoking theMethod args0 :: below }]
def below0 : List Frame := [.native { method := ⟨0, 0⟩, args := #[] }]
def about1 : State := aboutOver below0
def p0 : Program := .bare "" "" ""
def e0 : Env := launch0.env 0 0 0
theorem w_frames : about1.frames = Frame.invoking theMethod args0 :: below0 := rfl
set_option maxRecDepth 65536 in
theorem w_args : argsFit about1.vm theMethod args0 = true := by decide +kernel
set_option maxRecDepth 65536 in
theorem w_heap : heapFits about1 = true := by decide +kernel
set_option maxRecDepth 65536 in
theorem w_runnable : about1.curStatus? = some .runnable := by decide +kernel
set_option maxRecDepth 65536 in
theorem w_alone : about1.alone = true := by decide +kernel
set_option maxRecDepth 65536 in
theorem w_named : about1.methodNamed? x = some theMethod := by decide +kernel
set_option maxRecDepth 65536 in
theorem w_hears : about1.hears theMethod below0 = true := by decide +kernel
set_option maxRecDepth 65536 in
theorem w_ripe : about1.ripe theMethod args0 below0 = true := by decide +kernel
theorem w_running : about1.status = .running := rfl
set_option maxRecDepth 65536 in
theorem w_room : about1.hasRoom e0.platform room_1 = true :=
  launch0.hasRoom_least _ room_1 (by decide +kernel) (by decide +kernel) (by decide +kernel) (by decide +kernel) (by decide +kernel) (by decide +kernel)
theorem allAtoms_all (ts : List Jvm.Cond) (a : Array Jvm.Value) (st : Jvm.State) : (allAtoms ts).before a st = ts.all (fun c => c.before a st) := by
  induction ts with
  | nil => rfl
  | cons c t ih =>
    show (Jvm.Cond.and c (allAtoms t)).before a st = _
    rw [Jvm.Cond.before_and, ih, List.all_cons]
def words1 : List Jvm.Cond := Jvm.Cond.code x code maxLocals ret :: tables_1
/-- a 'code' word, met by the world's own term for the bytes: nothing is compared byte by byte -/
theorem code_word {y : MethodName} {bytes : ByteArray} {mx : Nat} {rt : Option FieldType} {a : Array Value} {s : State} {m : MethodId} {meth : Method} {c : Code} (h1 : s.methodNamed? y = some m) (h2 : s.vm.method? m = some meth) (h3 : meth.code = some c) (h4 : c.code = bytes)
    (h5 : (c.maxLocals == mx && c.exceptionTable.isEmpty && decide (c.maxStack ≤ mostOperands) && decide (meth.sig.returnType = rt) && !meth.locks && decide (parseMethodDescriptor y.desc = some meth.sig)) = true) : (Jvm.Cond.code y bytes mx rt).before a s = true := by
  simp only [Bool.and_eq_true, beq_iff_eq, Bool.not_eq_true', decide_eq_true_eq] at h5
  obtain ⟨⟨⟨⟨⟨g1, g2⟩, g3⟩, g4⟩, g5⟩, g6⟩ := h5
  simp [Cond.before, Cond.holds, Cond.value, h1, h2, h3, h4, g1, g2, g3, g4, g5, g6]
def isCode : Jvm.Cond → Bool
  | .code _ _ _ _ => true
  | _ => false
theorem all_split {L : List Jvm.Cond} {P : Jvm.Cond → Bool} (h1 : L.all (fun c => isCode c || P c) = true) (h2 : ∀ c ∈ L.filter isCode, P c = true) : L.all P = true := by
  refine List.all_eq_true.mpr fun c hc => ?_
  have h := List.all_eq_true.mp h1 c hc
  rcases Bool.eq_false_or_eq_true (isCode c) with hi | hi
  · exact h2 c (List.mem_filter.mpr ⟨hc, hi⟩)
  · simpa [hi] using h
set_option maxRecDepth 65536 in
theorem w_c0 : (Jvm.Cond.code x code maxLocals ret).before args0 about1 = true := code_word (m := ⟨1, 2⟩) (meth := k1m2) (c := k1c2) (by decide +kernel) rfl rfl rfl (by decide +kernel)
set_option maxRecDepth 65536 in
theorem w_c1 : (Jvm.Cond.code ({ cls := "com/example/escritural/escritural/pdf/WinAnsi", name := "code", desc := "(C)I" } : Jvm.MethodName) prog_87_method_4_code (1 : Nat) (Option.some Jvm.ClassFile.FieldType.int)).before args0 about1 = true := code_word (m := ⟨2, 1⟩) (meth := k2m1) (c := k2c1) (by decide +kernel) rfl rfl rfl (by decide +kernel)
set_option maxRecDepth 65536 in
theorem w_c2 : (Jvm.Cond.code ({ cls := "com/example/escritural/escritural/pdf/WinAnsiCodePinLaw", name := "decode", desc := "(I)I" } : Jvm.MethodName) method_2_code (1 : Nat) (Option.some Jvm.ClassFile.FieldType.int)).before args0 about1 = true := code_word (m := ⟨1, 1⟩) (meth := k1m1) (c := k1c1) (by decide +kernel) rfl rfl rfl (by decide +kernel)
def codes1 : List Jvm.Cond := [Jvm.Cond.code x code maxLocals ret, Jvm.Cond.code ({ cls := "com/example/escritural/escritural/pdf/WinAnsi", name := "code", desc := "(C)I" } : Jvm.MethodName) prog_87_method_4_code (1 : Nat) (Option.some Jvm.ClassFile.FieldType.int), Jvm.Cond.code ({ cls := "com/example/escritural/escritural/pdf/WinAnsiCodePinLaw", name := "decode", desc := "(I)I" } : Jvm.MethodName) method_2_code (1 : Nat) (Option.some Jvm.ClassFile.FieldType.int)]
set_option maxRecDepth 65536 in
theorem codes_eq : words1.filter isCode = codes1 := rfl
theorem w_codes : ∀ c ∈ words1.filter isCode, c.before args0 about1 = true := by
  rw [codes_eq]
  intro c hc
  simp only [codes1, List.mem_cons, List.not_mem_nil, or_false] at hc
  rcases hc with rfl | rfl | rfl
  · exact w_c0
  · exact w_c1
  · exact w_c2
set_option maxRecDepth 65536 in
theorem w_t1 : words1.all (fun c => isCode c || c.before args0 about1) = true := by decide +kernel
theorem w_tables : (allAtoms (Jvm.Cond.code x code maxLocals ret :: tables_1)).before args0 about1 = true := by
  rw [allAtoms_all]
  show words1.all (fun c => c.before args0 about1) = true
  refine all_split ?_ w_codes
  rw [w_t1]
set_option maxRecDepth 65536 in
theorem w_case : (Jvm.Cond.and given_1 narrow_1).before args0 about1 = true := by decide +kernel
theorem w_applies : (headSpec (Jvm.Cond.code x code maxLocals ret :: tables_1) room_1).applies x e0.platform about1 = true :=
  (Spec.applies_iff w_frames).mpr ⟨w_running, w_runnable, w_alone, w_named, w_hears, w_ripe, w_room, w_tables⟩
theorem atStart : AtStart classFile x code maxLocals ret World_1 tables_1 room_1 Calls_1 rest_1 Pre_1 launch0 p0 e0 about1 theMethod args0 below0 :=
  ⟨lists_1, trivial, launch0.admits_env _ _ _, launch0.least_env, fairChoices_fair.cas, fairChoices_fair.clock, w_frames, w_args, w_heap, w_applies, trivial, trivial, w_case⟩
end start1
theorem witness_1 : WitnessClaimed_1 := ⟨start1.p0, start1.e0, start1.about1, start1.theMethod, start1.args0, start1.below0, start1.atStart⟩
end Jvm.Pilot.@@N@@
