import JvmDerived
import JvmDerived.Pilot.@@N@@Statement
import JvmDerived.Pilot.@@N@@Code
set_option linter.unusedVariables false
set_option linter.unusedSimpArgs false
namespace Jvm.RoadKit
open Sem ClassFile Op Lib Jvm.Stand Jvm.Free Jvm.LawKit
section New
variable {p : Program} {l : Launch} {e : Env} {R : Room} {s : State} {m : MethodId} {args : Array Value} {below : List Frame} {meth : Method} {c : Code} {T : State} {locs : List Loc} {cells slots : Nat}
theorem retI (X : Stand p l e R s m args below meth c T locs cells slots) (hx : p.tables.exec = Jvm.exec) {pc : Nat} {Ls : Array Slot} {z : Int32} {rest : List Value} (hret : meth.sig.returnType = some .int) (hd : decode c.code pc = .ok (.ireturn, 1)) {fs : List Frame}
    (hl : ∀ (f : JFrame) (acts : List Action), f.method = m → f.locked = none → f.entered = [] → (doReturn e (T.setTop f) acts (some (.int z))).1 = T.setFrames fs) : Steps p.tables e below (T.setTop (mkF m pc Ls (.int z :: rest))) (T.setFrames fs) := by
  have hm' : T.vm.method? m = some meth := X.method'
  have hn : narrow .int (.int z) = .int z := rfl
  show Steps p.tables e below (T.setTop { method := m, pc := pc, locals := Ls, stack := _ :: rest, locked := none }) _
  jvm_step X.here [X.here.top, hx, hd, hm', hret, hn]
  first | (intro acts; rw [hl _ acts rfl rfl rfl]) | rw [hl _ _ rfl rfl rfl]
  exact Steps.refl _
end New
end Jvm.RoadKit
namespace Jvm.Pilot.@@N@@
open Jvm Jvm.ClassFile Sem Op Lib Jvm.Free Jvm.Stand Jvm.LawKit Jvm.RoadKit Bundle Jvm.Pilot.@@N@@.Jvm.D
theorem own_bt {P : Prop} [Decidable P] (h : P) : ifCond.holds .eq (if P then (1 : Int32) else (0 : Int32)) = false ∧ ifCond.holds .ne (if P then (1 : Int32) else (0 : Int32)) = true := by rw [if_pos h]; exact ⟨rfl, rfl⟩
theorem own_bf {P : Prop} [Decidable P] (h : ¬ P) : ifCond.holds .eq (if P then (1 : Int32) else (0 : Int32)) = true ∧ ifCond.holds .ne (if P then (1 : Int32) else (0 : Int32)) = false := by rw [if_neg h]; exact ⟨rfl, rfl⟩
theorem own_getI (L : List Int32) (i : Nat) : (List.map Value.int L).getD i (.int (0 : Int32)) = .int (L.getD i 0) := by
  simp only [List.getD_eq_getElem?_getD, List.getElem?_map]; cases L[i]? <;> rfl
theorem own_getJ (L : List Int64) (i : Nat) : (List.map Value.long L).getD i (.long (0 : Int64)) = .long (L.getD i 0) := by
  simp only [List.getD_eq_getElem?_getD, List.getElem?_map]; cases L[i]? <;> rfl
theorem own_setI (L : List Int32) (i : Nat) (x : Int32) : (List.map Value.int L).set i (.int x) = List.map Value.int (L.set i x) := (List.map_set).symm
theorem own_setJ (L : List Int64) (i : Nat) (x : Int64) : (List.map Value.long L).set i (.long x) = List.map Value.long (L.set i x) := (List.map_set).symm
theorem own_ns {Z : State} {h : Heap} {o : Addr} {C : String} (E : Exa Z h o C) : ∃ c : Cell, h[o]? = some c ∧ c.vm.isStatics = false := by
  obtain ⟨c, k, h1, -, -, h4, -⟩ := E; exact ⟨c, h1, h4⟩
theorem own_sta_keep {Z : State} {h h' : Heap} {ws : List Addr} {C n d : String} {v : Value} (S : Sta Z h C n d v) (K : Keep h h' ws) (q : ∀ w ∈ ws, ∃ c : Cell, h[w]? = some c ∧ c.vm.isStatics = false) : Sta Z h' C n d v := by
  obtain ⟨cf, i, k, f, st, cell, h1, h2, h3, h4, h5, h6, h7⟩ := S
  refine ⟨cf, i, k, f, st, cell, h1, h2, h3, h4, K.2.1 _ _ h5 (fun z => ?_), h6, h7⟩
  obtain ⟨c, e1, e2⟩ := q _ z
  cases h5.symm.trans e1; rw [e2] at h6; cases h6
theorem own_selp {s : State} {args args' : Array Value} {y z : MethodName} (hcls : z.cls = y.cls) (hnf : NotFace s z) (hz : (Cond.instanceMethod z).before args' s = true) (hpriv : s.PrivateAt y) (hinst : (Cond.instanceMethod y).before args s = true) (hy : y.cls ≠ "java/lang/invoke/MethodHandle" ∧ y.cls ≠ "java/lang/invoke/VarHandle") : (Cond.selects y.cls y y).before args s = true := by
  obtain ⟨mz, _, hnz, _⟩ := Cond.instanceMethod_spec hz
  obtain ⟨k, hk, hni⟩ := hnf mz hnz
  exact selects_self_of_private (by rw [← hcls]; exact findClass_of_methodNamed hnz) hk hni hpriv hinst hy
theorem own_hide {p : Program} {l : Launch} {e : Env} {R : Room} {s : State} {m : MethodId} {args : Array Value} {below : List Frame} {meth : Method} {c : Code} {T : State} {locs : List Loc} {cells slots n0 : Nat} (X : Stand p l e R s m args below meth c T locs cells slots) (N : Fr n0 locs) : ∃ LL, Stand p l e R s m args below meth c T LL cells slots ∧ Fr n0 LL := ⟨_, X, N⟩
theorem own_ent {tb : Tables} {e : Env} {below : List Frame} {a b t : State} (h : a = b) (s : Steps tb e below a t) : Steps tb e below b t := h ▸ s
theorem own_swne {x k : Int32} {n : Int} (h : ¬ x = k) (e : k.toInt = n) : n ≠ x.toInt := fun q => h (Int32.toInt_inj.mp (by rw [e, q]))
theorem own_same {s : State} {args args' : Array Value} {y z : MethodName} (hcls : z.cls = y.cls) (hnf : NotFace s z) (hz : (Cond.instanceMethod z).before args' s = true) (hy : y.cls ≠ "java/lang/invoke/MethodHandle" ∧ y.cls ≠ "java/lang/invoke/VarHandle") (hi : (Cond.instanceMethod y).before args s = true) : (Cond.sameMethod y.cls y.cls y.name y.desc).before args s = true := by
  obtain ⟨mk, methM, hnamed, -⟩ := Cond.instanceMethod_spec hi
  have hf := State.methodFound?_of_named hnamed hy
  obtain ⟨mz, _, hnz, _⟩ := Cond.instanceMethod_spec hz
  obtain ⟨k, hk, hni⟩ := hnf mz hnz
  have hc := findClass_of_methodNamed hnamed
  have hcz := findClass_of_methodNamed hnz
  rw [hcls] at hcz
  have e : mz.cls = mk.cls := Option.some.inj (hcz.symm.trans hc)
  rw [e] at hk
  have hn' : s.methodNamed? ⟨y.cls, y.name, y.desc⟩ = some mk := hnamed
  simp [Cond.before, Cond.holds, Cond.value, hc, hf, hn', hk, hni]
theorem own_nf {s : State} {args' : Array Value} {y z : MethodName} (hcls : z.cls = y.cls) (hnf : NotFace s z) (hz : (Cond.instanceMethod z).before args' s = true) : NotFace s y := fun r0 h0 => by
  obtain ⟨mz, _, hnz, _⟩ := Cond.instanceMethod_spec hz
  obtain ⟨k, hk, hni⟩ := hnf mz hnz
  have hc := findClass_of_methodNamed h0
  have hcz := findClass_of_methodNamed hnz
  rw [hcls] at hcz
  have e : mz.cls = r0.cls := Option.some.inj (hcz.symm.trans hc)
  exact ⟨k, by rw [← e]; exact hk, hni⟩
theorem own_padz (N : Nat) : ∀ i, (List.map Value.int (List.replicate N (0 : Int32))).getD i (.int (0 : Int32)) = ([] : List Value).getD i (.int (0 : Int32)) := fun i => by
  rw [List.map_replicate, List.getD_eq_getElem?_getD, List.getD_eq_getElem?_getD, List.getElem?_replicate]
  by_cases h : i < N <;> simp [h]
/- what arraycopy leaves -/
def own_cp (LS LD : List Int32) (sp dp n : Nat) : List Int32 := LD.take dp ++ (List.range n).map (fun i => LS.getD (sp + i) 0) ++ LD.drop (dp + n)
theorem own_gI (L : List Int32) (i : Nat) : (List.map Value.int L).getD i (.int (0 : Int32)) = .int (L.getD i 0) := by
  simp only [List.getD_eq_getElem?_getD, List.getElem?_map]; cases L[i]? <;> rfl
theorem own_cpv (LS LD : List Int32) (sp dp n : Nat) : (List.take dp (List.map Value.int LD) ++ (List.range n).map (fun i => (List.map Value.int LS).getD (sp + i) (.int (0 : Int32))) ++ List.drop (dp + n) (List.map Value.int LD)) = List.map Value.int (own_cp LS LD sp dp n) := by
  unfold own_cp
  simp only [List.map_append, List.map_take, List.map_drop, List.map_map]
  congr 2
  apply List.map_congr_left
  intro i _
  exact own_gI LS (sp + i)
theorem own_cpl (LS LD : List Int32) (sp dp n : Nat) (h : dp + n ≤ LD.length) : (own_cp LS LD sp dp n).length = LD.length := by
  unfold own_cp
  simp only [List.length_append, List.length_take, List.length_map, List.length_range, List.length_drop]
  omega
theorem own_cpg (LS LD : List Int32) (sp dp n i : Nat) (h : dp + n ≤ LD.length) : (own_cp LS LD sp dp n).getD i 0 = if dp ≤ i ∧ i < dp + n then LS.getD (sp + (i - dp)) 0 else LD.getD i 0 := by
  unfold own_cp
  simp only [List.getD_eq_getElem?_getD]
  by_cases h1 : i < dp
  · rw [if_neg (by omega), List.append_assoc, List.getElem?_append_left (by simp only [List.length_take]; omega), List.getElem?_take]
    simp [h1]
  · by_cases h2 : i < dp + n
    · rw [if_pos ⟨by omega, h2⟩, List.getElem?_append_left (by simp only [List.length_append, List.length_take, List.length_map, List.length_range]; omega), List.getElem?_append_right (by simp only [List.length_take]; omega)]
      simp only [List.length_take, show min dp LD.length = dp by omega, List.getElem?_map, List.getElem?_range (show i - dp < n by omega), Option.map_some, Option.getD_some, List.getD_eq_getElem?_getD]
    · rw [if_neg (by omega), List.getElem?_append_right (by simp only [List.length_append, List.length_take, List.length_map, List.length_range]; omega)]
      simp only [List.length_append, List.length_take, List.length_map, List.length_range, show min dp LD.length = dp by omega, List.getElem?_drop, show dp + n + (i - (dp + n)) = i by omega]
section W
variable {p : Program} {l : Launch} {e : Env} {R : Room} {s : State} {m : MethodId} {args : Array Value} {below : List Frame} {meth : Method} {c : Code} {T : State} {locs : List Loc} {cells slots : Nat} {Z : State} {a0 : Array Value} {h : Heap} {Ts Ts' : List String}
/- a callee that may intern, what is interned told ahead and behind -/
theorem own_backSI {y : MethodName} {bytes : ByteArray} {maxL : Nat} {ret : Option FieldType} {rm : Room} {len W : Nat} {as' : Array Value} {Q : Option Value → Heap → List Loc → Prop}
    (hM : MetFree l y (head1 [Cond.code y bytes maxL ret] rm) (fun a U => a = as' ∧ (Z.Warmed39 U.vm ∧ IB Z U.vm Ts) ∧ U.heap = h) (fun _ _ _ _ _ => True) (fun _ U o U' => ∃ v L, o = .returned v ∧ (Q v U'.heap L ∧ IB Z U'.vm Ts') ∧ ReturnedEndW U o U' L rm.cells rm.slots))
    (hZ : Z.Warmed39 s.vm) (hI : IB Z s.vm Ts) (wc : (Cond.code y bytes maxL ret).before a0 Z = true) (wz : (Cond.initialized y.cls).before a0 Z = true) (hf : rm.frames + 1 ≤ R.frames) (hl : W + (maxL + 11) + rm.locals ≤ R.locals) :
    BackS l R p e below s args y len W (fun A a => a = as' ∧ A.U.heap = h ∧ A.cells + rm.cells ≤ R.cells ∧ A.slots + rm.slots ≤ R.slots)
      (fun A _ v B => ∃ L, (Q v B.U.heap L ∧ IB Z B.U.vm Ts') ∧ B.locs = A.locs ++ L ∧ B.cells = A.cells + rm.cells ∧ B.slots = A.slots + rm.slots) :=
  BackS.of_freeW (bytes := bytes) (maxL := maxL) (ret := ret) (E := fun _ _ o t L k n => k = rm.cells ∧ n = rm.slots ∧ ∃ v, o = .returned v ∧ Q v t.heap L ∧ IB Z t.vm Ts') hM hf hl
    (fun m meth c A a Y hp => have hU : Z.Warmed39 A.U.vm := wtrans hZ Y.warmed
      ⟨by show (Cond.and _ .tt).before a A.U = true; rw [Cond.before_and, mv hU wc]; rfl, mv hU wc, mv hU wz, hp.2.2.1, hp.2.2.2⟩)
    (fun m meth c A a g mk Y hp => ⟨hp.1, ⟨wtrans hZ Y.warmed, by
      obtain ⟨more, h1, h2⟩ := hI
      exact ⟨more, by rw [← h1]; exact Y.warmed.interned_eq, h2⟩⟩, hp.2.1⟩) (fun _ _ _ _ _ _ _ _ _ => trivial)
    (fun _ _ _ _ ⟨v, L, h1, h2, h3⟩ => ⟨L, _, _, h3, rfl, rfl, v, h1, h2⟩)
    (fun m meth c A a g mk v t L k n Y hp _ _ ⟨e1, e2, v', e3, e4⟩ => by cases e3; subst e1 e2; exact ⟨L, e4, rfl, rfl, rfl⟩)
theorem own_ibw {vm0 : Vm} (X : Stand p l e R (s.setVm vm0) m args below meth c T locs cells slots) (hI : IB Z vm0 Ts) : IB Z T.vm Ts := by
  obtain ⟨more, h1, h2⟩ := hI
  exact ⟨more, by rw [← h1]; exact X.warmed.interned_eq, h2⟩
/- String.repeatCopyRest at a site: ST140's law, in the words of the family -/
theorem own_rcr (X : Stand p l e R s m args below meth c T locs cells slots) (hx : p.tables.exec = Jvm.exec) (hZ : Z.Warmed39 s.vm) {own : String} {index : Nat} (hown : s.vm.findClass own = some m.cls) (w1 : (Cond.methodLink own index Jvm.Free.Str.rcrN).before a0 Z = true) (w2 : (Cond.static Jvm.Free.Str.rcrN).before a0 Z = true) (wc : (Cond.code Jvm.Free.Str.rcrN Jvm.Free.Str.rcrB 4 none).before a0 Z = true) (wi : (Cond.initialized "java/lang/String").before a0 Z = true)
    (v1 : (Cond.methodLink "java/lang/String" 212 Jvm.Stand.acN).before a0 Z = true) (v2 : (Cond.native Jvm.Stand.acN).before a0 Z = true) (v3 : (Cond.static Jvm.Stand.acN).before a0 Z = true) (v4 : (Cond.initialized "java/lang/System").before a0 Z = true)
    (eT : T.heap = h) {b : Addr} {k : ClassId} {z : Int32} {L : List Int32} (A : Arv Z h b k .byte z (List.map Value.int L) (.int (0 : Int32))) {lim len : Nat} (hlim : z.toNatClampNeg = lim) (hlen : 0 < len) (hll : len ≤ lim) {n0 : Nat} (N : Fr n0 locs) (ge : n0 ≤ b)
    {g : JFrame} (hg : g.method = m) (hsize : g.locals.size = c.maxLocals) {rest : List Value} (hs : g.stack = .int (Int32.ofNat len) :: .int (Int32.ofNat lim) :: .int (0 : Int32) :: .ref b :: rest) (hd : decode c.code g.pc = .ok (.invokestatic index, 3))
    (hf : 3 ≤ R.frames) {W : Nat} (hW : 2 * g.monitorRoom + (rest.map fun v => v.category).sum ≤ W) (hlo : W + 95 ≤ R.locals) (hc : cells ≤ R.cells) (hsl : slots ≤ R.slots) :
    ∃ (T' : State) (h' : Heap) (LL : List Loc) (L' : List Int32), Stand p l e R s m args below meth c T' LL cells slots ∧ T'.heap = h' ∧ Fr n0 LL ∧ Keep h h' [b] ∧ Arv Z h' b k .byte z (List.map Value.int L') (.int (0 : Int32)) ∧ (∀ i, i < lim → L'.getD i 0 = L.getD (i % len) 0) ∧
      ∀ target, Steps p.tables e below (T'.setTop { g with pc := g.pc + 3, stack := rest }) target → Steps p.tables e below (T.setTop g) target := by
  obtain ⟨cl, Ar, q1, S, q3, H, G⟩ := A
  have h31 : cl.slots.size < 2 ^ 31 := by rw [S]; exact (back32 q3).2
  have hv : ∀ i, i < cl.slots.size → cl.slots[i]? = some (.int (L.getD i 0)) := fun i hi => by rw [H i hi, own_gI]
  have hfit : ∀ i, i < lim → fits .byte (cl.slots.getD i .null) = true := fun i hi => by
    have hi' : i < cl.slots.size := by omega
    have e1 := G i hi'
    rw [own_gI] at e1
    rw [Array.getD_eq_getD_getElem?, hv i hi']; exact e1
  have htab : Jvm.Free.Str.RCR.tab.before args s = true := by
    simp only [Jvm.Free.Str.RCR.tab, Jvm.Free.Str.RCR.words, List.foldr, Cond.before_and, Bool.and_eq_true]
    exact ⟨mvT hZ wc, mvT hZ v1, mvT hZ v2, mvT hZ v3, mvT hZ v4, mvT hZ wi, rfl⟩
  have hby : ∀ vm₁, s.WarmedH vm₁ → Jvm.Free.StrEq.SL1E.Bytes b cl (T.setVm vm₁) := fun vm₁ hW₁ => ⟨by rw [← eT] at Ar; exact Ar.1, State.isArrayOf_alike (hZ.alike.trans hW₁.alike) Ar.2.1, Ar.2.2, h31, fun i hi => by
    rw [hv i hi]; congr 1; simp [Jvm.Lib.StringLatin1.equals.intAt, hv i hi]⟩
  obtain ⟨v, vm₁, ⟨T', LB, c', n'⟩, hW₁, X', ⟨hv', ⟨L2, hL2, hLB⟩, hc', hn', Z', z1, z2, z3, z4, z5, z6, z7, z8⟩, st⟩ := Jvm.LawKit.callS X hx (y := Jvm.Free.Str.rcrN) hown (mvT hZ w1) (mvT hZ w2) (mvT hZ wi) (mvT hZ wc) (by decide)
    (Jvm.Free.Str.RCR.pays (W := W) b cl lim len htab hf (by omega)) hg hsize (argsL := [.ref b, .int (0 : Int32), .int (Int32.ofNat lim), .int (Int32.ofNat len)]) (rest := rest) (fun sig h => by
      rw [show parseMethodDescriptor Jvm.Free.Str.rcrN.desc = some ⟨[.array .byte, .int, .int, .int], none⟩ from by decide +kernel] at h; rw [← Option.some.inj h]; rfl) hs hW hd
    (fun vmx hWx => ⟨hc, hsl, rfl, hby vmx hWx, by rw [S]; exact hlim, hlen, hll, hfit⟩)
  dsimp only [Pt.U, Pt.locs, Pt.cells, Pt.slots] at X' hv' hLB hc' hn' z1 z7 z8 st
  subst hv' hLB hc' hn'
  have hh : ∀ vm, (T.setVm vm).heap = h := fun vm => eT
  rw [hh] at z8
  have z7' : ∀ y, y ≠ b → T'.heap[y]? = h[y]? := fun y hy => by rw [z7 y hy, hh]
  have hv2 : ∀ i, i < lim → Z'.slots[i]? = some (.int (L.getD (i % len) 0)) := fun i hi => by
    have : i % len < len := Nat.mod_lt _ hlen
    rw [z5 i hi, hv (i % len) (by omega)]
  refine ⟨T', _, _, (List.range lim).map (fun i => L.getD (i % len) 0), X', rfl, fun y hy => ?_, ⟨by omega, fun x cx hx' hn => ?_, fun x cx hx' => ?_⟩, ⟨Z', ⟨z1, ?_, by rw [z3]; exact Ar.2.2⟩, by rw [z2]; exact q1, by rw [z4, hlim], q3, fun i hi => ?_, fun i hi => ?_⟩, fun i hi => ?_, st⟩
  · rcases List.mem_append.mp hy with q | q
    · exact N y q
    · rw [hL2 y q]; exact ge
  · rw [z7' x (by simpa using hn)]; exact hx'
  · by_cases e : x = b
    · subst e; cases hx'.symm.trans Ar.1; exact ⟨Z', z1, z2, z3, by rw [z4, S, hlim]⟩
    · exact ⟨cx, by rw [z7' x e]; exact hx', rfl, rfl, rfl⟩
  · obtain ⟨a1, kk, a2, a3⟩ := Ar.2.1
    exact ⟨by rw [z3]; exact a1, kk, by rw [z2]; exact a2, a3⟩
  · rw [hv2 i (by omega), own_gI]; congr 2; simp [List.getD_eq_getElem?_getD, List.getElem?_map, List.getElem?_range (show i < lim by omega)]
  · have e1 := z6 i (by omega)
    rw [Array.getD_eq_getD_getElem?, hv2 i (by omega)] at e1
    rw [own_gI]
    simpa [List.getD_eq_getElem?_getD, List.getElem?_map, List.getElem?_range (show i < lim by omega)] using e1
  · simp [List.getD_eq_getElem?_getD, List.getElem?_map, List.getElem?_range hi]
end W
theorem own_cat {v : Value} (h : v.isRef = true) : v.category = 1 := by cases v <;> first | rfl | (simp [Value.isRef] at h)
theorem own_sr (n : Int32) : n >>> ((0 : Int32) &&& 31) = n := by
  rw [show ((0 : Int32) &&& 31) = 0 by decide]; exact Int32.shiftRight_zero
theorem own_sl (n : Int32) : n <<< ((0 : Int32) &&& 31) = n := by
  rw [show ((0 : Int32) &&& 31) = 0 by decide]; exact Int32.shiftLeft_zero
theorem own_srn (n : Int32) : n >>> ((nar .byte (0 : Int32)) &&& 31) = n := own_sr n
theorem d24_0 : decode jdk_29_method_69_code 0 = .ok (.iload_n 0, 1) := by decide +kernel
theorem d24_1 : decode jdk_29_method_69_code 1 = .ok (.iload_n 1, 1) := by decide +kernel
theorem d24_2 : decode jdk_29_method_69_code 2 = .ok (.if_icmp .gt 7, 3) := by decide +kernel
theorem d24_5 : decode jdk_29_method_69_code 5 = .ok (.iload_n 0, 1) := by decide +kernel
theorem d24_6 : decode jdk_29_method_69_code 6 = .ok (.goto 4, 3) := by decide +kernel
theorem d24_9 : decode jdk_29_method_69_code 9 = .ok (.iload_n 1, 1) := by decide +kernel
theorem d24_10 : decode jdk_29_method_69_code 10 = .ok (.ireturn, 1) := by decide +kernel
theorem ef_24 (m : MethodId) (x0 : Int32) (x1 : Int32)  : entryFrame m #[(.int x0), (.int x1)] 2 = mkF m 0 #[.val (.int x0), .val (.int x1)] [] := by first | (simp [entryFrame, mkF, argsToLocals, Value.category]; done) | rfl
def F24 (x0 : Int32) (x1 : Int32) : Int32 := if x1 < x0 then x1 else x0
def Q24 (Z : State) (x0 : Int32) (x1 : Int32) (h0 : Heap) (n0 : Nat) (vE : Option Value) (hE : Heap) (LE : List Loc) : Prop := vE = some (.int (F24 x0 x1)) ∧ Fr n0 LE ∧ hE = h0
set_option maxRecDepth 65536 in
set_option maxHeartbeats 40000000 in
theorem rm24 (l : Launch) (Z : State) (a0 : Array Value) (hw : ∀ d ∈ tables_1, d.before a0 Z = true) (ws : List Jvm.Cond) (x0 : Int32) (x1 : Int32) (h0 : Heap) (n0 : Nat) (Z0 : n0 ≤ h0.size) :
    MetFree l (⟨"java/lang/Math", "min", "(II)I"⟩ : MethodName) (head1 (Jvm.Cond.code (⟨"java/lang/Math", "min", "(II)I"⟩ : MethodName) jdk_29_method_69_code 2 (some .int) :: ws) ({ frames := 0, cells := 0, slots := 0, locals := 0 } : Room)) (fun a U => a = #[(.int x0), (.int x1)] ∧ Z.Warmed39 U.vm ∧ U.heap = h0) (fun _ _ _ _ _ => True) (fun _ U o U' => ∃ vE LE, o = .returned vE ∧ Q24 Z x0 x1 h0 n0 vE U'.heap LE ∧ FrameEnd U o U' LE ({ frames := 0, cells := 0, slots := 0, locals := 0 } : Room).cells ({ frames := 0, cells := 0, slots := 0, locals := 0 } : Room).slots) := by
  refine MetFree.of_bodySF (Jvm.Free.JP.mathPlain rfl (by decide +kernel)) hisR ?_
  intro p e s m args below meth c s₁ Bd hml0 hP hK
  obtain ⟨rfl, hZ, hh⟩ := hP
  have hx := Bd.exec
  have hby := Bd.bytes
  have hml : c.maxLocals = 2 := hml0
  have hown : s.vm.findClass "java/lang/Math" = some m.cls := findClass_of_methodNamed Bd.named
  have hnm := (name_of_methodNamed Bd.named Bd.method).1
  have hlk : meth.locks = false := BodyLoose.notSynchronized Bd
  have X0 : Stand p l e ({ frames := 0, cells := 0, slots := 0, locals := 0 } : Room) s m #[(.int x0), (.int x1)] below meth c s₁ [] 0 0 := Stand.of_body Bd
  have e0 : s₁.heap = h0 := by rw [← hh, Bd.state]; rfl
  have N0 := Fr.nil n0
  obtain ⟨sE, hsE⟩ : ∃ z, z = (s₁.setTop (entryFrame m #[(.int x0), (.int x1)] 2)) := ⟨_, rfl⟩
  have st0 : Steps p.tables e below sE (s₁.setTop (mkF m 0 #[.val (.int x0), .val (.int x1)] [])) := by rw [hsE]; exact castTop (ef_24 m x0 x1) (Steps.refl _)
  have st1 : Steps p.tables e below sE (s₁.setTop (mkF m 2 #[.val (.int x0), .val (.int x1)] [(.int x1), (.int x0)])) := st0.trans (by
      show Steps _ _ _ (s₁.setTop (mkF m 0 #[.val (.int x0), .val (.int x1)] [])) _
      refine XS.iloadN X0.here hx rfl (hb hby d24_0) rfl ?_
      show Steps _ _ _ (s₁.setTop (mkF m 1 #[.val (.int x0), .val (.int x1)] [(.int x0)])) _
      refine XS.iloadN X0.here hx rfl (hb hby d24_1) rfl ?_
      exact Steps.refl _)
  by_cases hc2 : x1 < x0
  · have st3 : Steps p.tables e below sE (s₁.setTop (mkF m 10 #[.val (.int x0), .val (.int x1)] [(.int x1)])) := st1.trans (by
        show Steps _ _ _ (s₁.setTop (mkF m 2 #[.val (.int x0), .val (.int x1)] [(.int x1), (.int x0)])) _
        refine XS.icmpYes X0.here hx rfl (pc0 := 2) (pc' := 9) rfl (hb hby d24_2) rfl (tlt hc2).2.2.1 (by decide) (by decide) ?_
        show Steps _ _ _ (s₁.setTop (mkF m 9 #[.val (.int x0), .val (.int x1)] [])) _
        refine XS.iloadN X0.here hx rfl (hb hby d24_9) rfl ?_
        exact Steps.refl _)
    obtain ⟨fs, hr, hrun, hended, hW, hsame⟩ := X0.leave (v := some (.int x1)) (fun h => by rw [Bd.returns] at h; cases h) hlk
    refine ⟨_, _, (own_ent hsE st3).trans ?_, hrun, hended, _, _, rfl, ?_, ⟨_, rfl⟩, hW, hsame.mono (by decide) (by decide)⟩
    · exact retI X0 hx Bd.returns (hb hby d24_10) hr
    · show Q24 Z x0 x1 h0 n0 _ s₁.heap _
      rw [e0]
      exact ⟨by rw [F24, if_pos hc2], N0, rfl⟩
  · have st4 : Steps p.tables e below sE (s₁.setTop (mkF m 10 #[.val (.int x0), .val (.int x1)] [(.int x0)])) := st1.trans (by
        show Steps _ _ _ (s₁.setTop (mkF m 2 #[.val (.int x0), .val (.int x1)] [(.int x1), (.int x0)])) _
        refine XS.icmpNo X0.here hx rfl (hb hby d24_2) rfl (flt hc2).2.2.1 ?_
        show Steps _ _ _ (s₁.setTop (mkF m 5 #[.val (.int x0), .val (.int x1)] [])) _
        refine XS.iloadN X0.here hx rfl (hb hby d24_5) rfl ?_
        show Steps _ _ _ (s₁.setTop (mkF m 6 #[.val (.int x0), .val (.int x1)] [(.int x0)])) _
        refine XS.goto X0.here hx rfl (pc0 := 6) (pc' := 10) rfl (hb hby d24_6) (by decide) (by decide) ?_
        exact Steps.refl _)
    obtain ⟨fs, hr, hrun, hended, hW, hsame⟩ := X0.leave (v := some (.int x0)) (fun h => by rw [Bd.returns] at h; cases h) hlk
    refine ⟨_, _, (own_ent hsE st4).trans ?_, hrun, hended, _, _, rfl, ?_, ⟨_, rfl⟩, hW, hsame.mono (by decide) (by decide)⟩
    · exact retI X0 hx Bd.returns (hb hby d24_10) hr
    · show Q24 Z x0 x1 h0 n0 _ s₁.heap _
      rw [e0]
      exact ⟨by rw [F24, if_neg hc2], N0, rfl⟩
theorem d35_0 : decode jdk_29_method_65_code 0 = .ok (.iload_n 0, 1) := by decide +kernel
theorem d35_1 : decode jdk_29_method_65_code 1 = .ok (.iload_n 1, 1) := by decide +kernel
theorem d35_2 : decode jdk_29_method_65_code 2 = .ok (.if_icmp .lt 7, 3) := by decide +kernel
theorem d35_5 : decode jdk_29_method_65_code 5 = .ok (.iload_n 0, 1) := by decide +kernel
theorem d35_6 : decode jdk_29_method_65_code 6 = .ok (.goto 4, 3) := by decide +kernel
theorem d35_9 : decode jdk_29_method_65_code 9 = .ok (.iload_n 1, 1) := by decide +kernel
theorem d35_10 : decode jdk_29_method_65_code 10 = .ok (.ireturn, 1) := by decide +kernel
theorem ef_35 (m : MethodId) (x0 : Int32) (x1 : Int32)  : entryFrame m #[(.int x0), (.int x1)] 2 = mkF m 0 #[.val (.int x0), .val (.int x1)] [] := by first | (simp [entryFrame, mkF, argsToLocals, Value.category]; done) | rfl
def F35 (x0 : Int32) (x1 : Int32) : Int32 := if x0 < x1 then x1 else x0
def Q35 (Z : State) (x0 : Int32) (x1 : Int32) (h0 : Heap) (n0 : Nat) (vE : Option Value) (hE : Heap) (LE : List Loc) : Prop := vE = some (.int (F35 x0 x1)) ∧ Fr n0 LE ∧ hE = h0
set_option maxRecDepth 65536 in
set_option maxHeartbeats 40000000 in
theorem rm35 (l : Launch) (Z : State) (a0 : Array Value) (hw : ∀ d ∈ tables_1, d.before a0 Z = true) (ws : List Jvm.Cond) (x0 : Int32) (x1 : Int32) (h0 : Heap) (n0 : Nat) (Z0 : n0 ≤ h0.size) :
    MetFree l (⟨"java/lang/Math", "max", "(II)I"⟩ : MethodName) (head1 (Jvm.Cond.code (⟨"java/lang/Math", "max", "(II)I"⟩ : MethodName) jdk_29_method_65_code 2 (some .int) :: ws) ({ frames := 0, cells := 0, slots := 0, locals := 0 } : Room)) (fun a U => a = #[(.int x0), (.int x1)] ∧ Z.Warmed39 U.vm ∧ U.heap = h0) (fun _ _ _ _ _ => True) (fun _ U o U' => ∃ vE LE, o = .returned vE ∧ Q35 Z x0 x1 h0 n0 vE U'.heap LE ∧ FrameEnd U o U' LE ({ frames := 0, cells := 0, slots := 0, locals := 0 } : Room).cells ({ frames := 0, cells := 0, slots := 0, locals := 0 } : Room).slots) := by
  refine MetFree.of_bodySF (Jvm.Free.JP.mathPlain rfl (by decide +kernel)) hisR ?_
  intro p e s m args below meth c s₁ Bd hml0 hP hK
  obtain ⟨rfl, hZ, hh⟩ := hP
  have hx := Bd.exec
  have hby := Bd.bytes
  have hml : c.maxLocals = 2 := hml0
  have hown : s.vm.findClass "java/lang/Math" = some m.cls := findClass_of_methodNamed Bd.named
  have hnm := (name_of_methodNamed Bd.named Bd.method).1
  have hlk : meth.locks = false := BodyLoose.notSynchronized Bd
  have X0 : Stand p l e ({ frames := 0, cells := 0, slots := 0, locals := 0 } : Room) s m #[(.int x0), (.int x1)] below meth c s₁ [] 0 0 := Stand.of_body Bd
  have e0 : s₁.heap = h0 := by rw [← hh, Bd.state]; rfl
  have N0 := Fr.nil n0
  obtain ⟨sE, hsE⟩ : ∃ z, z = (s₁.setTop (entryFrame m #[(.int x0), (.int x1)] 2)) := ⟨_, rfl⟩
  have st0 : Steps p.tables e below sE (s₁.setTop (mkF m 0 #[.val (.int x0), .val (.int x1)] [])) := by rw [hsE]; exact castTop (ef_35 m x0 x1) (Steps.refl _)
  have st1 : Steps p.tables e below sE (s₁.setTop (mkF m 2 #[.val (.int x0), .val (.int x1)] [(.int x1), (.int x0)])) := st0.trans (by
      show Steps _ _ _ (s₁.setTop (mkF m 0 #[.val (.int x0), .val (.int x1)] [])) _
      refine XS.iloadN X0.here hx rfl (hb hby d35_0) rfl ?_
      show Steps _ _ _ (s₁.setTop (mkF m 1 #[.val (.int x0), .val (.int x1)] [(.int x0)])) _
      refine XS.iloadN X0.here hx rfl (hb hby d35_1) rfl ?_
      exact Steps.refl _)
  by_cases hc2 : x0 < x1
  · have st3 : Steps p.tables e below sE (s₁.setTop (mkF m 10 #[.val (.int x0), .val (.int x1)] [(.int x1)])) := st1.trans (by
        show Steps _ _ _ (s₁.setTop (mkF m 2 #[.val (.int x0), .val (.int x1)] [(.int x1), (.int x0)])) _
        refine XS.icmpYes X0.here hx rfl (pc0 := 2) (pc' := 9) rfl (hb hby d35_2) rfl (tlt hc2).1 (by decide) (by decide) ?_
        show Steps _ _ _ (s₁.setTop (mkF m 9 #[.val (.int x0), .val (.int x1)] [])) _
        refine XS.iloadN X0.here hx rfl (hb hby d35_9) rfl ?_
        exact Steps.refl _)
    obtain ⟨fs, hr, hrun, hended, hW, hsame⟩ := X0.leave (v := some (.int x1)) (fun h => by rw [Bd.returns] at h; cases h) hlk
    refine ⟨_, _, (own_ent hsE st3).trans ?_, hrun, hended, _, _, rfl, ?_, ⟨_, rfl⟩, hW, hsame.mono (by decide) (by decide)⟩
    · exact retI X0 hx Bd.returns (hb hby d35_10) hr
    · show Q35 Z x0 x1 h0 n0 _ s₁.heap _
      rw [e0]
      exact ⟨by rw [F35, if_pos hc2], N0, rfl⟩
  · have st4 : Steps p.tables e below sE (s₁.setTop (mkF m 10 #[.val (.int x0), .val (.int x1)] [(.int x0)])) := st1.trans (by
        show Steps _ _ _ (s₁.setTop (mkF m 2 #[.val (.int x0), .val (.int x1)] [(.int x1), (.int x0)])) _
        refine XS.icmpNo X0.here hx rfl (hb hby d35_2) rfl (flt hc2).1 ?_
        show Steps _ _ _ (s₁.setTop (mkF m 5 #[.val (.int x0), .val (.int x1)] [])) _
        refine XS.iloadN X0.here hx rfl (hb hby d35_5) rfl ?_
        show Steps _ _ _ (s₁.setTop (mkF m 6 #[.val (.int x0), .val (.int x1)] [(.int x0)])) _
        refine XS.goto X0.here hx rfl (pc0 := 6) (pc' := 10) rfl (hb hby d35_6) (by decide) (by decide) ?_
        exact Steps.refl _)
    obtain ⟨fs, hr, hrun, hended, hW, hsame⟩ := X0.leave (v := some (.int x0)) (fun h => by rw [Bd.returns] at h; cases h) hlk
    refine ⟨_, _, (own_ent hsE st4).trans ?_, hrun, hended, _, _, rfl, ?_, ⟨_, rfl⟩, hW, hsame.mono (by decide) (by decide)⟩
    · exact retI X0 hx Bd.returns (hb hby d35_10) hr
    · show Q35 Z x0 x1 h0 n0 _ s₁.heap _
      rw [e0]
      exact ⟨by rw [F35, if_neg hc2], N0, rfl⟩
theorem d30_0 : decode method_2_code 0 = .ok (.iload_n 0, 1) := by decide +kernel
theorem d30_1 : decode method_2_code 1 = .ok (.iconst 3, 1) := by decide +kernel
theorem d30_2 : decode method_2_code 2 = .ok (.irem, 1) := by decide +kernel
theorem d30_3 : decode method_2_code 3 = .ok (.istore_n 1, 1) := by decide +kernel
theorem d30_4 : decode method_2_code 4 = .ok (.iload_n 1, 1) := by decide +kernel
theorem d30_5 : decode method_2_code 5 = .ok (.ifCond .ne 6, 3) := by decide +kernel
theorem d30_8 : decode method_2_code 8 = .ok (.bipush 63, 2) := by decide +kernel
theorem d30_10 : decode method_2_code 10 = .ok (.ireturn, 1) := by decide +kernel
theorem d30_11 : decode method_2_code 11 = .ok (.iload_n 1, 1) := by decide +kernel
theorem d30_12 : decode method_2_code 12 = .ok (.iconst 1, 1) := by decide +kernel
theorem d30_13 : decode method_2_code 13 = .ok (.if_icmp .ne 6, 3) := by decide +kernel
theorem d30_16 : decode method_2_code 16 = .ok (.bipush 44, 2) := by decide +kernel
theorem d30_18 : decode method_2_code 18 = .ok (.ireturn, 1) := by decide +kernel
theorem d30_19 : decode method_2_code 19 = .ok (.bipush 32, 2) := by decide +kernel
theorem d30_21 : decode method_2_code 21 = .ok (.ireturn, 1) := by decide +kernel
theorem pn_0 : plainName "com/example/persephone/persephone/store/SqlListsPlaceholdersPinLaw" = true := by first | (simp [plainName, overriddenIn]; done) | decide +kernel
theorem ef_30 (m : MethodId) (x0 : Int32)  : entryFrame m #[(.int x0)] 2 = mkF m 0 #[.val (.int x0), .unset] [] := by first | (simp [entryFrame, mkF, argsToLocals, Value.category]; done) | rfl
def F30 (x0 : Int32) : Int32 := if (x0 % (3 : Int32)) = (0 : Int32) then (63 : Int32) else (if (x0 % (3 : Int32)) = (1 : Int32) then (44 : Int32) else (32 : Int32))
def Q30 (Z : State) (x0 : Int32) (h0 : Heap) (n0 : Nat) (vE : Option Value) (hE : Heap) (LE : List Loc) : Prop := vE = some (.int (F30 x0)) ∧ Fr n0 LE ∧ hE = h0
set_option maxRecDepth 65536 in
set_option maxHeartbeats 40000000 in
theorem rm30 (l : Launch) (Z : State) (a0 : Array Value) (hw : ∀ d ∈ tables_1, d.before a0 Z = true) (ws : List Jvm.Cond) (x0 : Int32) (h0 : Heap) (n0 : Nat) (Z0 : n0 ≤ h0.size) :
    MetFree l (⟨"com/example/persephone/persephone/store/SqlListsPlaceholdersPinLaw", "expectedAt", "(I)C"⟩ : MethodName) (head1 (Jvm.Cond.code (⟨"com/example/persephone/persephone/store/SqlListsPlaceholdersPinLaw", "expectedAt", "(I)C"⟩ : MethodName) method_2_code 2 (some .char) :: ws) ({ frames := 0, cells := 0, slots := 0, locals := 0 } : Room)) (fun a U => a = #[(.int x0)] ∧ Z.Warmed39 U.vm ∧ U.heap = h0) (fun _ _ _ _ _ => True) (fun _ U o U' => ∃ vE LE, o = .returned vE ∧ Q30 Z x0 h0 n0 vE U'.heap LE ∧ FrameEnd U o U' LE ({ frames := 0, cells := 0, slots := 0, locals := 0 } : Room).cells ({ frames := 0, cells := 0, slots := 0, locals := 0 } : Room).slots) := by
  refine MetFree.of_bodySF (plainFor_of_name pn_0) hisR ?_
  intro p e s m args below meth c s₁ Bd hml0 hP hK
  obtain ⟨rfl, hZ, hh⟩ := hP
  have hx := Bd.exec
  have hby := Bd.bytes
  have hml : c.maxLocals = 2 := hml0
  have hown : s.vm.findClass "com/example/persephone/persephone/store/SqlListsPlaceholdersPinLaw" = some m.cls := findClass_of_methodNamed Bd.named
  have hnm := (name_of_methodNamed Bd.named Bd.method).1
  have hlk : meth.locks = false := BodyLoose.notSynchronized Bd
  have X0 : Stand p l e ({ frames := 0, cells := 0, slots := 0, locals := 0 } : Room) s m #[(.int x0)] below meth c s₁ [] 0 0 := Stand.of_body Bd
  have e0 : s₁.heap = h0 := by rw [← hh, Bd.state]; rfl
  have N0 := Fr.nil n0
  obtain ⟨sE, hsE⟩ : ∃ z, z = (s₁.setTop (entryFrame m #[(.int x0)] 2)) := ⟨_, rfl⟩
  have st0 : Steps p.tables e below sE (s₁.setTop (mkF m 0 #[.val (.int x0), .unset] [])) := by rw [hsE]; exact castTop (ef_30 m x0) (Steps.refl _)
  have st1 : Steps p.tables e below sE (s₁.setTop (mkF m 5 #[.val (.int x0), .val (.int (x0 % (3 : Int32)))] [(.int (x0 % (3 : Int32)))])) := st0.trans (by
      show Steps _ _ _ (s₁.setTop (mkF m 0 #[.val (.int x0), .unset] [])) _
      refine XS.iloadN X0.here hx rfl (hb hby d30_0) rfl ?_
      show Steps _ _ _ (s₁.setTop (mkF m 1 #[.val (.int x0), .unset] [(.int x0)])) _
      refine XS.iconst X0.here hx rfl (hb hby d30_1) ?_
      show Steps _ _ _ (s₁.setTop (mkF m 2 #[.val (.int x0), .unset] [(.int (3 : Int32)), (.int x0)])) _
      refine iremM X0 hx rfl (hb hby d30_2) rfl (by decide) ?_
      show Steps _ _ _ (s₁.setTop (mkF m 3 #[.val (.int x0), .unset] [(.int (x0 % (3 : Int32)))])) _
      refine XS.istoreN X0.here hx rfl (hb hby d30_3) rfl (l' := #[.val (.int x0), .val (.int (x0 % (3 : Int32)))]) rfl ?_
      show Steps _ _ _ (s₁.setTop (mkF m 4 #[.val (.int x0), .val (.int (x0 % (3 : Int32)))] [])) _
      refine XS.iloadN X0.here hx rfl (hb hby d30_4) rfl ?_
      exact Steps.refl _)
  by_cases hc2 : (x0 % (3 : Int32)) = (0 : Int32)
  · have st3 : Steps p.tables e below sE (s₁.setTop (mkF m 10 #[.val (.int x0), .val (.int (x0 % (3 : Int32)))] [(.int (63 : Int32))])) := st1.trans (by
        show Steps _ _ _ (s₁.setTop (mkF m 5 #[.val (.int x0), .val (.int (x0 % (3 : Int32)))] [(.int (x0 % (3 : Int32)))])) _
        refine XS.ifNo X0.here hx rfl (hb hby d30_5) rfl ((if0 _ _).trans (teq hc2).2) ?_
        show Steps _ _ _ (s₁.setTop (mkF m 8 #[.val (.int x0), .val (.int (x0 % (3 : Int32)))] [])) _
        refine XS.bipush X0.here hx rfl (hb hby d30_8) ?_
        exact Steps.refl _)
    obtain ⟨fs, hr, hrun, hended, hW, hsame⟩ := X0.leave (v := some (.int (63 : Int32))) (fun h => by rw [Bd.returns] at h; cases h) hlk
    refine ⟨_, _, (own_ent hsE st3).trans ?_, hrun, hended, _, _, rfl, ?_, ⟨_, rfl⟩, hW, hsame.mono (by decide) (by decide)⟩
    · exact retN X0 hx (t := .char) Bd.returns (by simp) (hb hby d30_10) hr
    · show Q30 Z x0 h0 n0 _ s₁.heap _
      rw [e0]
      exact ⟨by rw [F30, if_pos hc2], N0, rfl⟩
  · have st4 : Steps p.tables e below sE (s₁.setTop (mkF m 13 #[.val (.int x0), .val (.int (x0 % (3 : Int32)))] [(.int (1 : Int32)), (.int (x0 % (3 : Int32)))])) := st1.trans (by
        show Steps _ _ _ (s₁.setTop (mkF m 5 #[.val (.int x0), .val (.int (x0 % (3 : Int32)))] [(.int (x0 % (3 : Int32)))])) _
        refine XS.ifYes X0.here hx rfl (pc0 := 5) (pc' := 11) rfl (hb hby d30_5) rfl ((if0 _ _).trans (feq hc2).2) (by decide) (by decide) ?_
        show Steps _ _ _ (s₁.setTop (mkF m 11 #[.val (.int x0), .val (.int (x0 % (3 : Int32)))] [])) _
        refine XS.iloadN X0.here hx rfl (hb hby d30_11) rfl ?_
        show Steps _ _ _ (s₁.setTop (mkF m 12 #[.val (.int x0), .val (.int (x0 % (3 : Int32)))] [(.int (x0 % (3 : Int32)))])) _
        refine XS.iconst X0.here hx rfl (hb hby d30_12) ?_
        exact Steps.refl _)
    by_cases hc5 : (x0 % (3 : Int32)) = (1 : Int32)
    · have st6 : Steps p.tables e below sE (s₁.setTop (mkF m 18 #[.val (.int x0), .val (.int (x0 % (3 : Int32)))] [(.int (44 : Int32))])) := st4.trans (by
          show Steps _ _ _ (s₁.setTop (mkF m 13 #[.val (.int x0), .val (.int (x0 % (3 : Int32)))] [(.int (1 : Int32)), (.int (x0 % (3 : Int32)))])) _
          refine XS.icmpNo X0.here hx rfl (hb hby d30_13) rfl (teq hc5).2 ?_
          show Steps _ _ _ (s₁.setTop (mkF m 16 #[.val (.int x0), .val (.int (x0 % (3 : Int32)))] [])) _
          refine XS.bipush X0.here hx rfl (hb hby d30_16) ?_
          exact Steps.refl _)
      obtain ⟨fs, hr, hrun, hended, hW, hsame⟩ := X0.leave (v := some (.int (44 : Int32))) (fun h => by rw [Bd.returns] at h; cases h) hlk
      refine ⟨_, _, (own_ent hsE st6).trans ?_, hrun, hended, _, _, rfl, ?_, ⟨_, rfl⟩, hW, hsame.mono (by decide) (by decide)⟩
      · exact retN X0 hx (t := .char) Bd.returns (by simp) (hb hby d30_18) hr
      · show Q30 Z x0 h0 n0 _ s₁.heap _
        rw [e0]
        exact ⟨by rw [F30, if_neg hc2, if_pos hc5], N0, rfl⟩
    · have st7 : Steps p.tables e below sE (s₁.setTop (mkF m 21 #[.val (.int x0), .val (.int (x0 % (3 : Int32)))] [(.int (32 : Int32))])) := st4.trans (by
          show Steps _ _ _ (s₁.setTop (mkF m 13 #[.val (.int x0), .val (.int (x0 % (3 : Int32)))] [(.int (1 : Int32)), (.int (x0 % (3 : Int32)))])) _
          refine XS.icmpYes X0.here hx rfl (pc0 := 13) (pc' := 19) rfl (hb hby d30_13) rfl (feq hc5).2 (by decide) (by decide) ?_
          show Steps _ _ _ (s₁.setTop (mkF m 19 #[.val (.int x0), .val (.int (x0 % (3 : Int32)))] [])) _
          refine XS.bipush X0.here hx rfl (hb hby d30_19) ?_
          exact Steps.refl _)
      obtain ⟨fs, hr, hrun, hended, hW, hsame⟩ := X0.leave (v := some (.int (32 : Int32))) (fun h => by rw [Bd.returns] at h; cases h) hlk
      refine ⟨_, _, (own_ent hsE st7).trans ?_, hrun, hended, _, _, rfl, ?_, ⟨_, rfl⟩, hW, hsame.mono (by decide) (by decide)⟩
      · exact retN X0 hx (t := .char) Bd.returns (by simp) (hb hby d30_21) hr
      · show Q30 Z x0 h0 n0 _ s₁.heap _
        rw [e0]
        exact ⟨by rw [F30, if_neg hc2, if_neg hc5], N0, rfl⟩
theorem d9_0 : decode jdk_42_method_152_code 0 = .ok (.getstatic 38, 3) := by decide +kernel
theorem d9_3 : decode jdk_42_method_152_code 3 = .ok (.ifCond .eq 10, 3) := by decide +kernel
theorem d9_6 : decode jdk_42_method_152_code 6 = .ok (.aload_n 0, 1) := by decide +kernel
theorem d9_7 : decode jdk_42_method_152_code 7 = .ok (.getfield 15, 3) := by decide +kernel
theorem d9_10 : decode jdk_42_method_152_code 10 = .ok (.goto 4, 3) := by decide +kernel
theorem d9_14 : decode jdk_42_method_152_code 14 = .ok (.ireturn, 1) := by decide +kernel
theorem pn_1 : plainName "java/lang/String" = true := by first | (simp [plainName, overriddenIn]; done) | decide +kernel
theorem ef_9 (m : MethodId) (x0 : Addr)  : entryFrame m #[(.ref x0)] 1 = mkF m 0 #[.val (.ref x0)] [] := by first | (simp [entryFrame, mkF, argsToLocals, Value.category]; done) | rfl
def Q9 (Z : State) (x0 : Addr) (cs : Int32) (h0 : Heap) (n0 : Nat) (vE : Option Value) (hE : Heap) (LE : List Loc) : Prop := vE = some (.int (nar .byte (0 : Int32))) ∧ Fr n0 LE ∧ hE = h0
set_option maxRecDepth 65536 in
set_option maxHeartbeats 40000000 in
theorem rm9 (l : Launch) (Z : State) (a0 : Array Value) (hw : ∀ d ∈ tables_1, d.before a0 Z = true) (ws : List Jvm.Cond) (x0 : Addr) (cs : Int32) (h0 : Heap) (n0 : Nat) (Z0 : n0 ≤ h0.size) (S_c : Sta Z h0 "java/lang/String" "COMPACT_STRINGS" "Z" (.int cs)) (hcs : ¬ cs = (0 : Int32)) (F_c : Fld Z h0 x0 "java/lang/String" "coder" "B" (.int (0 : Int32))) :
    MetFree l (⟨"java/lang/String", "coder", "()B"⟩ : MethodName) (head1 (Jvm.Cond.code (⟨"java/lang/String", "coder", "()B"⟩ : MethodName) jdk_42_method_152_code 1 (some .byte) :: ws) ({ frames := 0, cells := 0, slots := 0, locals := 0 } : Room)) (fun a U => a = #[(.ref x0)] ∧ Z.Warmed39 U.vm ∧ U.heap = h0) (fun _ _ _ _ _ => True) (fun _ U o U' => ∃ vE LE, o = .returned vE ∧ Q9 Z x0 cs h0 n0 vE U'.heap LE ∧ FrameEnd U o U' LE ({ frames := 0, cells := 0, slots := 0, locals := 0 } : Room).cells ({ frames := 0, cells := 0, slots := 0, locals := 0 } : Room).slots) := by
  refine MetFree.of_bodySF (plainFor_of_name pn_1) hisR ?_
  intro p e s m args below meth c s₁ Bd hml0 hP hK
  obtain ⟨rfl, hZ, hh⟩ := hP
  have hx := Bd.exec
  have hby := Bd.bytes
  have hml : c.maxLocals = 1 := hml0
  have hown : s.vm.findClass "java/lang/String" = some m.cls := findClass_of_methodNamed Bd.named
  have hnm := (name_of_methodNamed Bd.named Bd.method).1
  have hlk : meth.locks = false := BodyLoose.notSynchronized Bd
  have X0 : Stand p l e ({ frames := 0, cells := 0, slots := 0, locals := 0 } : Room) s m #[(.ref x0)] below meth c s₁ [] 0 0 := Stand.of_body Bd
  have e0 : s₁.heap = h0 := by rw [← hh, Bd.state]; rfl
  have N0 := Fr.nil n0
  obtain ⟨sE, hsE⟩ : ∃ z, z = (s₁.setTop (entryFrame m #[(.ref x0)] 1)) := ⟨_, rfl⟩
  have st0 : Steps p.tables e below sE (s₁.setTop (mkF m 0 #[.val (.ref x0)] [])) := by rw [hsE]; exact castTop (ef_9 m x0) (Steps.refl _)
  obtain ⟨T1, X1, e1, sr1⟩ := getS2 X0 hx hZ hown (host := "") (Or.inl (hw _ (List.mem_of_getElem? (i := 59) rfl))) Via.refl e0 S_c (g := (mkF m 0 #[.val (.ref x0)] [])) rfl (hb hby d9_0)
  have st2 : Steps p.tables e below sE (T1.setTop (mkF m 3 #[.val (.ref x0)] [(.int cs)])) := st0.trans (sr1 _ (Steps.refl _))
  have hf3 : ¬ (cs = (0 : Int32)) := hcs
  have st4 : Steps p.tables e below sE (T1.setTop (mkF m 7 #[.val (.ref x0)] [(.ref x0)])) := st2.trans (by
      show Steps _ _ _ (T1.setTop (mkF m 3 #[.val (.ref x0)] [(.int cs)])) _
      refine XS.ifNo X1.here hx rfl (hb hby d9_3) rfl ((if0 _ _).trans (feq hf3).1) ?_
      show Steps _ _ _ (T1.setTop (mkF m 6 #[.val (.ref x0)] [])) _
      refine XS.aloadN X1.here hx rfl (hb hby d9_6) rfl rfl ?_
      exact Steps.refl _)
  obtain ⟨T5, X5, e5, sr5⟩ := getF X1 hx hZ hown (host := "") (Or.inl (hw _ (List.mem_of_getElem? (i := 60) rfl))) Via.refl e1 F_c (g := (mkF m 7 #[.val (.ref x0)] [(.ref x0)])) rfl rfl (hb hby d9_7)
  have st6 : Steps p.tables e below sE (T5.setTop (mkF m 10 #[.val (.ref x0)] [(.int (0 : Int32))])) := st4.trans (sr5 _ (Steps.refl _))
  have st7 : Steps p.tables e below sE (T5.setTop (mkF m 14 #[.val (.ref x0)] [(.int (0 : Int32))])) := st6.trans (by
      show Steps _ _ _ (T5.setTop (mkF m 10 #[.val (.ref x0)] [(.int (0 : Int32))])) _
      refine XS.goto X5.here hx rfl (pc0 := 10) (pc' := 14) rfl (hb hby d9_10) (by decide) (by decide) ?_
      exact Steps.refl _)
  obtain ⟨fs, hr, hrun, hended, hW, hsame⟩ := X5.leave (v := some (.int (0 : Int32))) (fun h => by rw [Bd.returns] at h; cases h) hlk
  refine ⟨_, _, (own_ent hsE st7).trans ?_, hrun, hended, _, _, rfl, ?_, ⟨_, rfl⟩, hW, hsame.mono (by decide) (by decide)⟩
  · exact retN X5 hx (t := .byte) Bd.returns (by simp) (hb hby d9_14) hr
  · show Q9 Z x0 cs h0 n0 _ T5.heap _
    rw [e5]
    exact ⟨rfl, N0, rfl⟩
theorem d26_0 : decode jdk_42_method_154_code 0 = .ok (.getstatic 38, 3) := by decide +kernel
theorem d26_3 : decode jdk_42_method_154_code 3 = .ok (.ifCond .eq 14, 3) := by decide +kernel
theorem d26_6 : decode jdk_42_method_154_code 6 = .ok (.aload_n 0, 1) := by decide +kernel
theorem d26_7 : decode jdk_42_method_154_code 7 = .ok (.getfield 15, 3) := by decide +kernel
theorem d26_10 : decode jdk_42_method_154_code 10 = .ok (.ifCond .ne 7, 3) := by decide +kernel
theorem d26_13 : decode jdk_42_method_154_code 13 = .ok (.iconst 1, 1) := by decide +kernel
theorem d26_14 : decode jdk_42_method_154_code 14 = .ok (.goto 4, 3) := by decide +kernel
theorem d26_18 : decode jdk_42_method_154_code 18 = .ok (.ireturn, 1) := by decide +kernel
theorem ef_26 (m : MethodId) (x0 : Addr)  : entryFrame m #[(.ref x0)] 1 = mkF m 0 #[.val (.ref x0)] [] := by first | (simp [entryFrame, mkF, argsToLocals, Value.category]; done) | rfl
def Q26 (Z : State) (x0 : Addr) (cs : Int32) (h0 : Heap) (n0 : Nat) (vE : Option Value) (hE : Heap) (LE : List Loc) : Prop := vE = some (.int (1 : Int32)) ∧ Fr n0 LE ∧ hE = h0
set_option maxRecDepth 65536 in
set_option maxHeartbeats 40000000 in
theorem rm26 (l : Launch) (Z : State) (a0 : Array Value) (hw : ∀ d ∈ tables_1, d.before a0 Z = true) (ws : List Jvm.Cond) (x0 : Addr) (cs : Int32) (h0 : Heap) (n0 : Nat) (Z0 : n0 ≤ h0.size) (S_c : Sta Z h0 "java/lang/String" "COMPACT_STRINGS" "Z" (.int cs)) (hcs : ¬ cs = (0 : Int32)) (F_c : Fld Z h0 x0 "java/lang/String" "coder" "B" (.int (0 : Int32))) :
    MetFree l (⟨"java/lang/String", "isLatin1", "()Z"⟩ : MethodName) (head1 (Jvm.Cond.code (⟨"java/lang/String", "isLatin1", "()Z"⟩ : MethodName) jdk_42_method_154_code 1 (some .boolean) :: ws) ({ frames := 0, cells := 0, slots := 0, locals := 0 } : Room)) (fun a U => a = #[(.ref x0)] ∧ Z.Warmed39 U.vm ∧ U.heap = h0) (fun _ _ _ _ _ => True) (fun _ U o U' => ∃ vE LE, o = .returned vE ∧ Q26 Z x0 cs h0 n0 vE U'.heap LE ∧ FrameEnd U o U' LE ({ frames := 0, cells := 0, slots := 0, locals := 0 } : Room).cells ({ frames := 0, cells := 0, slots := 0, locals := 0 } : Room).slots) := by
  refine MetFree.of_bodySF (plainFor_of_name pn_1) hisR ?_
  intro p e s m args below meth c s₁ Bd hml0 hP hK
  obtain ⟨rfl, hZ, hh⟩ := hP
  have hx := Bd.exec
  have hby := Bd.bytes
  have hml : c.maxLocals = 1 := hml0
  have hown : s.vm.findClass "java/lang/String" = some m.cls := findClass_of_methodNamed Bd.named
  have hnm := (name_of_methodNamed Bd.named Bd.method).1
  have hlk : meth.locks = false := BodyLoose.notSynchronized Bd
  have X0 : Stand p l e ({ frames := 0, cells := 0, slots := 0, locals := 0 } : Room) s m #[(.ref x0)] below meth c s₁ [] 0 0 := Stand.of_body Bd
  have e0 : s₁.heap = h0 := by rw [← hh, Bd.state]; rfl
  have N0 := Fr.nil n0
  obtain ⟨sE, hsE⟩ : ∃ z, z = (s₁.setTop (entryFrame m #[(.ref x0)] 1)) := ⟨_, rfl⟩
  have st0 : Steps p.tables e below sE (s₁.setTop (mkF m 0 #[.val (.ref x0)] [])) := by rw [hsE]; exact castTop (ef_26 m x0) (Steps.refl _)
  obtain ⟨T1, X1, e1, sr1⟩ := getS2 X0 hx hZ hown (host := "") (Or.inl (hw _ (List.mem_of_getElem? (i := 59) rfl))) Via.refl e0 S_c (g := (mkF m 0 #[.val (.ref x0)] [])) rfl (hb hby d26_0)
  have st2 : Steps p.tables e below sE (T1.setTop (mkF m 3 #[.val (.ref x0)] [(.int cs)])) := st0.trans (sr1 _ (Steps.refl _))
  have hf3 : ¬ (cs = (0 : Int32)) := hcs
  have st4 : Steps p.tables e below sE (T1.setTop (mkF m 7 #[.val (.ref x0)] [(.ref x0)])) := st2.trans (by
      show Steps _ _ _ (T1.setTop (mkF m 3 #[.val (.ref x0)] [(.int cs)])) _
      refine XS.ifNo X1.here hx rfl (hb hby d26_3) rfl ((if0 _ _).trans (feq hf3).1) ?_
      show Steps _ _ _ (T1.setTop (mkF m 6 #[.val (.ref x0)] [])) _
      refine XS.aloadN X1.here hx rfl (hb hby d26_6) rfl rfl ?_
      exact Steps.refl _)
  obtain ⟨T5, X5, e5, sr5⟩ := getF X1 hx hZ hown (host := "") (Or.inl (hw _ (List.mem_of_getElem? (i := 60) rfl))) Via.refl e1 F_c (g := (mkF m 7 #[.val (.ref x0)] [(.ref x0)])) rfl rfl (hb hby d26_7)
  have st6 : Steps p.tables e below sE (T5.setTop (mkF m 10 #[.val (.ref x0)] [(.int (0 : Int32))])) := st4.trans (sr5 _ (Steps.refl _))
  have hf7 : (0 : Int32) = (0 : Int32) := by decide
  have st8 : Steps p.tables e below sE (T5.setTop (mkF m 18 #[.val (.ref x0)] [(.int (1 : Int32))])) := st6.trans (by
      show Steps _ _ _ (T5.setTop (mkF m 10 #[.val (.ref x0)] [(.int (0 : Int32))])) _
      refine XS.ifNo X5.here hx rfl (hb hby d26_10) rfl ((if0 _ _).trans (teq hf7).2) ?_
      show Steps _ _ _ (T5.setTop (mkF m 13 #[.val (.ref x0)] [])) _
      refine XS.iconst X5.here hx rfl (hb hby d26_13) ?_
      show Steps _ _ _ (T5.setTop (mkF m 14 #[.val (.ref x0)] [(.int (1 : Int32))])) _
      refine XS.goto X5.here hx rfl (pc0 := 14) (pc' := 18) rfl (hb hby d26_14) (by decide) (by decide) ?_
      exact Steps.refl _)
  obtain ⟨fs, hr, hrun, hended, hW, hsame⟩ := X5.leave (v := some (.int (1 : Int32))) (fun h => by rw [Bd.returns] at h; cases h) hlk
  refine ⟨_, _, (own_ent hsE st8).trans ?_, hrun, hended, _, _, rfl, ?_, ⟨_, rfl⟩, hW, hsame.mono (by decide) (by decide)⟩
  · exact retN X5 hx (t := .boolean) Bd.returns (by simp) (hb hby d26_18) hr
  · show Q26 Z x0 cs h0 n0 _ T5.heap _
    rw [e5]
    exact ⟨rfl, N0, rfl⟩
theorem pd_0 : parseMethodDescriptor "()B" = some ⟨[], some .byte⟩ := by decide +kernel
theorem d8_0 : decode jdk_42_method_54_code 0 = .ok (.aload_n 0, 1) := by decide +kernel
theorem d8_1 : decode jdk_42_method_54_code 1 = .ok (.getfield 9, 3) := by decide +kernel
theorem d8_4 : decode jdk_42_method_54_code 4 = .ok (.arraylength, 1) := by decide +kernel
theorem d8_5 : decode jdk_42_method_54_code 5 = .ok (.aload_n 0, 1) := by decide +kernel
theorem d8_6 : decode jdk_42_method_54_code 6 = .ok (.invokevirtual 335, 3) := by decide +kernel
theorem d8_9 : decode jdk_42_method_54_code 9 = .ok (.ishr, 1) := by decide +kernel
theorem d8_10 : decode jdk_42_method_54_code 10 = .ok (.ireturn, 1) := by decide +kernel
theorem ef_8 (m : MethodId) (x0 : Addr)  : entryFrame m #[(.ref x0)] 1 = mkF m 0 #[.val (.ref x0)] [] := by first | (simp [entryFrame, mkF, argsToLocals, Value.category]; done) | rfl
def Q8 (Z : State) (x0 : Addr) (cs : Int32) (b : Addr) (ka : ClassId) (n : Int32) (L : List Int32) (h0 : Heap) (n0 : Nat) (vE : Option Value) (hE : Heap) (LE : List Loc) : Prop := vE = some (.int n) ∧ Fr n0 LE ∧ hE = h0
set_option maxRecDepth 65536 in
set_option maxHeartbeats 40000000 in
theorem rm8 (l : Launch) (Z : State) (a0 : Array Value) (hw : ∀ d ∈ tables_1, d.before a0 Z = true) (ws : List Jvm.Cond) (x0 : Addr) (cs : Int32) (b : Addr) (ka : ClassId) (n : Int32) (L : List Int32) (h0 : Heap) (n0 : Nat) (Z0 : n0 ≤ h0.size) (S_c : Sta Z h0 "java/lang/String" "COMPACT_STRINGS" "Z" (.int cs)) (hcs : ¬ cs = (0 : Int32)) (E_x : Exa Z h0 x0 "java/lang/String") (F_v : Fld Z h0 x0 "java/lang/String" "value" "[B" (.ref b)) (F_c : Fld Z h0 x0 "java/lang/String" "coder" "B" (.int (0 : Int32))) (A_b : Arv Z h0 b ka .byte n (List.map Value.int L) (.int (0 : Int32))) :
    MetFree l (⟨"java/lang/String", "length", "()I"⟩ : MethodName) (head1 (Jvm.Cond.code (⟨"java/lang/String", "length", "()I"⟩ : MethodName) jdk_42_method_54_code 1 (some .int) :: ws) ({ frames := 1, cells := 0, slots := 0, locals := 13 } : Room)) (fun a U => a = #[(.ref x0)] ∧ Z.Warmed39 U.vm ∧ U.heap = h0) (fun _ _ _ _ _ => True) (fun _ U o U' => ∃ vE LE, o = .returned vE ∧ Q8 Z x0 cs b ka n L h0 n0 vE U'.heap LE ∧ FrameEnd U o U' LE ({ frames := 1, cells := 0, slots := 0, locals := 13 } : Room).cells ({ frames := 1, cells := 0, slots := 0, locals := 13 } : Room).slots) := by
  refine MetFree.of_bodySF (plainFor_of_name pn_1) hisR ?_
  intro p e s m args below meth c s₁ Bd hml0 hP hK
  obtain ⟨rfl, hZ, hh⟩ := hP
  have hx := Bd.exec
  have hby := Bd.bytes
  have hml : c.maxLocals = 1 := hml0
  have hown : s.vm.findClass "java/lang/String" = some m.cls := findClass_of_methodNamed Bd.named
  have hnm := (name_of_methodNamed Bd.named Bd.method).1
  have hlk : meth.locks = false := BodyLoose.notSynchronized Bd
  have X0 : Stand p l e ({ frames := 1, cells := 0, slots := 0, locals := 13 } : Room) s m #[(.ref x0)] below meth c s₁ [] 0 0 := Stand.of_body Bd
  have e0 : s₁.heap = h0 := by rw [← hh, Bd.state]; rfl
  have N0 := Fr.nil n0
  obtain ⟨sE, hsE⟩ : ∃ z, z = (s₁.setTop (entryFrame m #[(.ref x0)] 1)) := ⟨_, rfl⟩
  have st0 : Steps p.tables e below sE (s₁.setTop (mkF m 0 #[.val (.ref x0)] [])) := by rw [hsE]; exact castTop (ef_8 m x0) (Steps.refl _)
  have st1 : Steps p.tables e below sE (s₁.setTop (mkF m 1 #[.val (.ref x0)] [(.ref x0)])) := st0.trans (by
      show Steps _ _ _ (s₁.setTop (mkF m 0 #[.val (.ref x0)] [])) _
      refine XS.aloadN X0.here hx rfl (hb hby d8_0) rfl rfl ?_
      exact Steps.refl _)
  obtain ⟨T2, X2, e2, sr2⟩ := getF X0 hx hZ hown (host := "") (Or.inl (hw _ (List.mem_of_getElem? (i := 37) rfl))) Via.refl e0 F_v (g := (mkF m 1 #[.val (.ref x0)] [(.ref x0)])) rfl rfl (hb hby d8_1)
  have st3 : Steps p.tables e below sE (T2.setTop (mkF m 4 #[.val (.ref x0)] [(.ref b)])) := st1.trans (sr2 _ (Steps.refl _))
  obtain ⟨cl4, Ar4, -, S4, N4, -, -⟩ := id A_b
  have st5 : Steps p.tables e below sE (T2.setTop (mkF m 6 #[.val (.ref x0)] [(.ref x0), (.int n)])) := st3.trans (by
      show Steps _ _ _ (T2.setTop (mkF m 4 #[.val (.ref x0)] [(.ref b)])) _
      refine X2.arraylength hx (by rw [e2]; exact Ar4.1) (State.isArrayOf_alike hZ.alike Ar4.2.1) (g := (mkF m 4 #[.val (.ref x0)] [(.ref b)])) rfl rfl (hb hby d8_4) _ ?_
      rw [len_of S4 N4]
      show Steps _ _ _ (T2.setTop (mkF m 5 #[.val (.ref x0)] [(.int n)])) _
      refine XS.aloadN X2.here hx rfl (hb hby d8_5) rfl rfl ?_
      exact Steps.refl _)
  obtain ⟨cq6, kq6, q6a, q6b, q6c⟩ := isOf hZ e2 E_x
  obtain ⟨_, _, ⟨T6, L6, k6, n6⟩, -, X6, ⟨Lc6, hQ6, l6, y6, z6⟩, sr6⟩ := X2.virtualBack hx (y := (⟨"java/lang/String", "coder", "()B"⟩ : MethodName)) (z := (⟨"java/lang/String", "coder", "()B"⟩ : MethodName)) hown (mvT hZ (hw _ (List.mem_of_getElem? (i := 54) rfl))) (mvT hZ (hw _ (List.mem_of_getElem? (i := 55) rfl))) (notFace_of_selects (args := #[]) (mvT hZ (hw _ (List.mem_of_getElem? (i := 57) rfl)))) (mvT hZ (hw _ (List.mem_of_getElem? (i := 57) rfl))) (mvT hZ (hw _ (List.mem_of_getElem? (i := 56) rfl))) (by decide) (backOf (W := 1) (rm9 l Z a0 hw [] x0 cs h0 n0 Z0 S_c hcs F_c) hZ (hw _ (List.mem_of_getElem? (i := 58) rfl)) (hw _ (List.mem_of_getElem? (i := 20) rfl)) (by decide) (by decide)) q6a q6c (g := (mkF m 6 #[.val (.ref x0)] [(.ref x0), (.int n)])) rfl (by rw [hml]; rfl) (Steps.refl _) (argsL := []) (rest := [(.int n)]) (lenOf pd_0 rfl) rfl (by show 2 * 0 + _ ≤ _; exact Nat.le_of_eq rfl) (hb hby d8_6) (fun _ _ => ⟨rfl, e2, (by decide : 0 + 0 ≤ _), (by decide : 0 + 0 ≤ _)⟩)
  dsimp only [Pt.U, Pt.locs, Pt.cells, Pt.slots] at X6 l6 y6 z6 sr6 hQ6
  subst l6 y6 z6
  obtain ⟨rfl, N6q, hh6⟩ := hQ6
  have N6 := Fr.app N0 N6q
  obtain ⟨LL6, X6, N6⟩ := own_hide X6 N6
  have st7 : Steps p.tables e below sE (T6.setTop (mkF m 9 #[.val (.ref x0)] [(.int (nar .byte (0 : Int32))), (.int n)])) := st5.trans (sr6)
  have st8 : Steps p.tables e below sE (T6.setTop (mkF m 10 #[.val (.ref x0)] [(.int (n >>> ((nar .byte (0 : Int32)) &&& 31)))])) := st7.trans (by
      show Steps _ _ _ (T6.setTop (mkF m 9 #[.val (.ref x0)] [(.int (nar .byte (0 : Int32))), (.int n)])) _
      refine XS.ishr X6.here hx rfl (hb hby d8_9) rfl ?_
      exact Steps.refl _)
  have hw9 : (n >>> ((nar .byte (0 : Int32)) &&& 31)) = n := own_srn n
  rw [hw9] at st8
  obtain ⟨fs, hr, hrun, hended, hW, hsame⟩ := X6.leave (v := some (.int n)) (fun h => by rw [Bd.returns] at h; cases h) hlk
  refine ⟨_, _, (own_ent hsE st8).trans ?_, hrun, hended, _, _, rfl, ?_, ⟨_, rfl⟩, hW, hsame.mono (by decide) (by decide)⟩
  · exact retI X6 hx Bd.returns (hb hby d8_10) hr
  · show Q8 Z x0 cs b ka n L h0 n0 _ T6.heap _
    rw [hh6]
    exact ⟨rfl, N6, rfl⟩
theorem d29_0 : decode jdk_41_method_11_code 0 = .ok (.iload_n 0, 1) := by decide +kernel
theorem d29_1 : decode jdk_41_method_11_code 1 = .ok (.ifCond .lt 8, 3) := by decide +kernel
theorem d29_4 : decode jdk_41_method_11_code 4 = .ok (.iload_n 0, 1) := by decide +kernel
theorem d29_5 : decode jdk_41_method_11_code 5 = .ok (.iload_n 1, 1) := by decide +kernel
theorem d29_6 : decode jdk_41_method_11_code 6 = .ok (.if_icmp .lt 10, 3) := by decide +kernel
theorem d29_16 : decode jdk_41_method_11_code 16 = .ok (.iload_n 0, 1) := by decide +kernel
theorem d29_17 : decode jdk_41_method_11_code 17 = .ok (.ireturn, 1) := by decide +kernel
theorem pn_2 : plainName "jdk/internal/util/Preconditions" = true := by first | (simp [plainName, overriddenIn]; done) | decide +kernel
theorem ef_29 (m : MethodId) (x0 : Int32) (x1 : Int32) (x2 : Value) (hvx2 : x2.category = 1) : entryFrame m #[(.int x0), (.int x1), x2] 3 = mkF m 0 #[.val (.int x0), .val (.int x1), .val x2] [] := by
  cases x2 <;> first | (simp [Value.category] at hvx2; done) | skip
  all_goals first | rfl | (simp [entryFrame, mkF, argsToLocals, Value.category]; done)
def Q29 (Z : State) (x0 : Int32) (x1 : Int32) (x2 : Value) (h0 : Heap) (n0 : Nat) (vE : Option Value) (hE : Heap) (LE : List Loc) : Prop := vE = some (.int x0) ∧ Fr n0 LE ∧ hE = h0
set_option maxRecDepth 65536 in
set_option maxHeartbeats 40000000 in
theorem rm29 (l : Launch) (Z : State) (a0 : Array Value) (hw : ∀ d ∈ tables_1, d.before a0 Z = true) (ws : List Jvm.Cond) (x0 : Int32) (x1 : Int32) (x2 : Value) (h0 : Heap) (n0 : Nat) (Z0 : n0 ≤ h0.size) (hr : x2.isRef = true) (hi : ¬ x0 < 0 ∧ x0 < x1) :
    MetFree l (⟨"jdk/internal/util/Preconditions", "checkIndex", "(IILjava/util/function/BiFunction;)I"⟩ : MethodName) (head1 (Jvm.Cond.code (⟨"jdk/internal/util/Preconditions", "checkIndex", "(IILjava/util/function/BiFunction;)I"⟩ : MethodName) jdk_41_method_11_code 3 (some .int) :: ws) ({ frames := 0, cells := 0, slots := 0, locals := 0 } : Room)) (fun a U => a = #[(.int x0), (.int x1), x2] ∧ Z.Warmed39 U.vm ∧ U.heap = h0) (fun _ _ _ _ _ => True) (fun _ U o U' => ∃ vE LE, o = .returned vE ∧ Q29 Z x0 x1 x2 h0 n0 vE U'.heap LE ∧ FrameEnd U o U' LE ({ frames := 0, cells := 0, slots := 0, locals := 0 } : Room).cells ({ frames := 0, cells := 0, slots := 0, locals := 0 } : Room).slots) := by
  refine MetFree.of_bodySF (plainFor_of_name pn_2) hisR ?_
  intro p e s m args below meth c s₁ Bd hml0 hP hK
  obtain ⟨rfl, hZ, hh⟩ := hP
  have hx := Bd.exec
  have hby := Bd.bytes
  have hml : c.maxLocals = 3 := hml0
  have hown : s.vm.findClass "jdk/internal/util/Preconditions" = some m.cls := findClass_of_methodNamed Bd.named
  have hnm := (name_of_methodNamed Bd.named Bd.method).1
  have hlk : meth.locks = false := BodyLoose.notSynchronized Bd
  have X0 : Stand p l e ({ frames := 0, cells := 0, slots := 0, locals := 0 } : Room) s m #[(.int x0), (.int x1), x2] below meth c s₁ [] 0 0 := Stand.of_body Bd
  have e0 : s₁.heap = h0 := by rw [← hh, Bd.state]; rfl
  have N0 := Fr.nil n0
  obtain ⟨sE, hsE⟩ : ∃ z, z = (s₁.setTop (entryFrame m #[(.int x0), (.int x1), x2] 3)) := ⟨_, rfl⟩
  have st0 : Steps p.tables e below sE (s₁.setTop (mkF m 0 #[.val (.int x0), .val (.int x1), .val x2] [])) := by rw [hsE]; exact castTop (ef_29 m x0 x1 x2 (own_cat hr)) (Steps.refl _)
  have st1 : Steps p.tables e below sE (s₁.setTop (mkF m 1 #[.val (.int x0), .val (.int x1), .val x2] [(.int x0)])) := st0.trans (by
      show Steps _ _ _ (s₁.setTop (mkF m 0 #[.val (.int x0), .val (.int x1), .val x2] [])) _
      refine XS.iloadN X0.here hx rfl (hb hby d29_0) rfl ?_
      exact Steps.refl _)
  have hf2 : ¬ (x0 < (0 : Int32)) := hi.1
  have st3 : Steps p.tables e below sE (s₁.setTop (mkF m 6 #[.val (.int x0), .val (.int x1), .val x2] [(.int x1), (.int x0)])) := st1.trans (by
      show Steps _ _ _ (s₁.setTop (mkF m 1 #[.val (.int x0), .val (.int x1), .val x2] [(.int x0)])) _
      refine XS.ifNo X0.here hx rfl (hb hby d29_1) rfl ((if0 _ _).trans (flt hf2).1) ?_
      show Steps _ _ _ (s₁.setTop (mkF m 4 #[.val (.int x0), .val (.int x1), .val x2] [])) _
      refine XS.iloadN X0.here hx rfl (hb hby d29_4) rfl ?_
      show Steps _ _ _ (s₁.setTop (mkF m 5 #[.val (.int x0), .val (.int x1), .val x2] [(.int x0)])) _
      refine XS.iloadN X0.here hx rfl (hb hby d29_5) rfl ?_
      exact Steps.refl _)
  have hf4 : x0 < x1 := hi.2
  have st5 : Steps p.tables e below sE (s₁.setTop (mkF m 17 #[.val (.int x0), .val (.int x1), .val x2] [(.int x0)])) := st3.trans (by
      show Steps _ _ _ (s₁.setTop (mkF m 6 #[.val (.int x0), .val (.int x1), .val x2] [(.int x1), (.int x0)])) _
      refine XS.icmpYes X0.here hx rfl (pc0 := 6) (pc' := 16) rfl (hb hby d29_6) rfl (tlt hf4).1 (by decide) (by decide) ?_
      show Steps _ _ _ (s₁.setTop (mkF m 16 #[.val (.int x0), .val (.int x1), .val x2] [])) _
      refine XS.iloadN X0.here hx rfl (hb hby d29_16) rfl ?_
      exact Steps.refl _)
  obtain ⟨fs, hr, hrun, hended, hW, hsame⟩ := X0.leave (v := some (.int x0)) (fun h => by rw [Bd.returns] at h; cases h) hlk
  refine ⟨_, _, (own_ent hsE st5).trans ?_, hrun, hended, _, _, rfl, ?_, ⟨_, rfl⟩, hW, hsame.mono (by decide) (by decide)⟩
  · exact retI X0 hx Bd.returns (hb hby d29_17) hr
  · show Q29 Z x0 x1 x2 h0 n0 _ s₁.heap _
    rw [e0]
    exact ⟨rfl, N0, rfl⟩
theorem pd_1 : parseMethodDescriptor "(IILjava/util/function/BiFunction;)I" = some ⟨[.int, .int, (.object "java/util/function/BiFunction")], some .int⟩ := by decide +kernel
theorem d28_0 : decode jdk_42_method_155_code 0 = .ok (.iload_n 0, 1) := by decide +kernel
theorem d28_1 : decode jdk_42_method_155_code 1 = .ok (.iload_n 1, 1) := by decide +kernel
theorem d28_2 : decode jdk_42_method_155_code 2 = .ok (.getstatic 1053, 3) := by decide +kernel
theorem d28_5 : decode jdk_42_method_155_code 5 = .ok (.invokestatic 1059, 3) := by decide +kernel
theorem d28_8 : decode jdk_42_method_155_code 8 = .ok (.pop, 1) := by decide +kernel
theorem d28_9 : decode jdk_42_method_155_code 9 = .ok (.return_, 1) := by decide +kernel
theorem ef_28 (m : MethodId) (x0 : Int32) (x1 : Int32)  : entryFrame m #[(.int x0), (.int x1)] 2 = mkF m 0 #[.val (.int x0), .val (.int x1)] [] := by first | (simp [entryFrame, mkF, argsToLocals, Value.category]; done) | rfl
def Q28 (Z : State) (x0 : Int32) (x1 : Int32) (sf : Value) (h0 : Heap) (n0 : Nat) (vE : Option Value) (hE : Heap) (LE : List Loc) : Prop := vE = none ∧ Fr n0 LE ∧ hE = h0
set_option maxRecDepth 65536 in
set_option maxHeartbeats 40000000 in
theorem rm28 (l : Launch) (Z : State) (a0 : Array Value) (hw : ∀ d ∈ tables_1, d.before a0 Z = true) (ws : List Jvm.Cond) (x0 : Int32) (x1 : Int32) (sf : Value) (h0 : Heap) (n0 : Nat) (Z0 : n0 ≤ h0.size) (S_f : Sta Z h0 "jdk/internal/util/Preconditions" "SIOOBE_FORMATTER" "Ljava/util/function/BiFunction;" sf) (hsf : sf.isRef = true) (hi : ¬ x0 < 0 ∧ x0 < x1) :
    MetFree l (⟨"java/lang/String", "checkIndex", "(II)V"⟩ : MethodName) (head1 (Jvm.Cond.code (⟨"java/lang/String", "checkIndex", "(II)V"⟩ : MethodName) jdk_42_method_155_code 2 none :: ws) ({ frames := 1, cells := 0, slots := 0, locals := 14 } : Room)) (fun a U => a = #[(.int x0), (.int x1)] ∧ Z.Warmed39 U.vm ∧ U.heap = h0) (fun _ _ _ _ _ => True) (fun _ U o U' => ∃ vE LE, o = .returned vE ∧ Q28 Z x0 x1 sf h0 n0 vE U'.heap LE ∧ FrameEnd U o U' LE ({ frames := 1, cells := 0, slots := 0, locals := 14 } : Room).cells ({ frames := 1, cells := 0, slots := 0, locals := 14 } : Room).slots) := by
  refine MetFree.of_bodySF (plainFor_of_name pn_1) hisR ?_
  intro p e s m args below meth c s₁ Bd hml0 hP hK
  obtain ⟨rfl, hZ, hh⟩ := hP
  have hx := Bd.exec
  have hby := Bd.bytes
  have hml : c.maxLocals = 2 := hml0
  have hown : s.vm.findClass "java/lang/String" = some m.cls := findClass_of_methodNamed Bd.named
  have hnm := (name_of_methodNamed Bd.named Bd.method).1
  have hlk : meth.locks = false := BodyLoose.notSynchronized Bd
  have X0 : Stand p l e ({ frames := 1, cells := 0, slots := 0, locals := 14 } : Room) s m #[(.int x0), (.int x1)] below meth c s₁ [] 0 0 := Stand.of_body Bd
  have e0 : s₁.heap = h0 := by rw [← hh, Bd.state]; rfl
  have N0 := Fr.nil n0
  obtain ⟨sE, hsE⟩ : ∃ z, z = (s₁.setTop (entryFrame m #[(.int x0), (.int x1)] 2)) := ⟨_, rfl⟩
  have st0 : Steps p.tables e below sE (s₁.setTop (mkF m 0 #[.val (.int x0), .val (.int x1)] [])) := by rw [hsE]; exact castTop (ef_28 m x0 x1) (Steps.refl _)
  have st1 : Steps p.tables e below sE (s₁.setTop (mkF m 2 #[.val (.int x0), .val (.int x1)] [(.int x1), (.int x0)])) := st0.trans (by
      show Steps _ _ _ (s₁.setTop (mkF m 0 #[.val (.int x0), .val (.int x1)] [])) _
      refine XS.iloadN X0.here hx rfl (hb hby d28_0) rfl ?_
      show Steps _ _ _ (s₁.setTop (mkF m 1 #[.val (.int x0), .val (.int x1)] [(.int x0)])) _
      refine XS.iloadN X0.here hx rfl (hb hby d28_1) rfl ?_
      exact Steps.refl _)
  obtain ⟨T2, X2, e2, sr2⟩ := getS2 X0 hx hZ hown (host := "") (Or.inl (hw _ (List.mem_of_getElem? (i := 155) rfl))) Via.refl e0 S_f (g := (mkF m 2 #[.val (.int x0), .val (.int x1)] [(.int x1), (.int x0)])) rfl (hb hby d28_2)
  have st3 : Steps p.tables e below sE (T2.setTop (mkF m 5 #[.val (.int x0), .val (.int x1)] [sf, (.int x1), (.int x0)])) := st1.trans (sr2 _ (Steps.refl _))
  obtain ⟨_, _, ⟨T4, L4, k4, n4⟩, -, X4, ⟨Lc4, hQ4, l4, y4, z4⟩, sr4⟩ := Jvm.LawKit.callS X2 hx (y := (⟨"jdk/internal/util/Preconditions", "checkIndex", "(IILjava/util/function/BiFunction;)I"⟩ : MethodName)) hown (mvT hZ (hw _ (List.mem_of_getElem? (i := 157) rfl))) (mvT hZ (hw _ (List.mem_of_getElem? (i := 158) rfl))) (mvT hZ (hw _ (List.mem_of_getElem? (i := 156) rfl))) (mvT hZ (hw _ (List.mem_of_getElem? (i := 159) rfl))) (by decide) (backOf (W := 0) (rm29 l Z a0 hw [] x0 x1 sf  h0 n0 Z0 hsf hi) hZ (hw _ (List.mem_of_getElem? (i := 159) rfl)) (hw _ (List.mem_of_getElem? (i := 156) rfl)) (by decide) (by decide)) (g := (mkF m 5 #[.val (.int x0), .val (.int x1)] [sf, (.int x1), (.int x0)])) rfl (by rw [hml]; rfl) (argsL := [(.int x0), (.int x1), sf]) (rest := []) (lenOf pd_1 rfl) rfl (by show 2 * 0 + _ ≤ _; exact Nat.le_of_eq rfl) (hb hby d28_5) (fun _ _ => ⟨rfl, e2, (by decide : 0 + 0 ≤ _), (by decide : 0 + 0 ≤ _)⟩)
  dsimp only [Pt.U, Pt.locs, Pt.cells, Pt.slots] at X4 l4 y4 z4 sr4 hQ4
  subst l4 y4 z4
  obtain ⟨rfl, N4q, hh4⟩ := hQ4
  have N4 := Fr.app N0 N4q
  obtain ⟨LL4, X4, N4⟩ := own_hide X4 N4
  have st5 : Steps p.tables e below sE (T4.setTop (mkF m 8 #[.val (.int x0), .val (.int x1)] [(.int x0)])) := st3.trans (sr4 _ (Steps.refl _))
  have st6 : Steps p.tables e below sE (T4.setTop (mkF m 9 #[.val (.int x0), .val (.int x1)] [])) := st5.trans (by
      show Steps _ _ _ (T4.setTop (mkF m 8 #[.val (.int x0), .val (.int x1)] [(.int x0)])) _
      refine XS.pop X4.here hx rfl (hb hby d28_8) rfl rfl ?_
      exact Steps.refl _)
  obtain ⟨fs, hr, hrun, hended, hW, hsame⟩ := X4.leave (v := none) (fun _ => rfl) hlk
  refine ⟨_, _, (own_ent hsE st6).trans ?_, hrun, hended, _, _, rfl, ?_, ⟨_, rfl⟩, hW, hsame.mono (by decide) (by decide)⟩
  · exact X4.returnOut hx Bd.returns (hb hby d28_9) hr
  · show Q28 Z x0 x1 sf h0 n0 _ T4.heap _
    rw [hh4]
    exact ⟨rfl, N4, rfl⟩
theorem pd_2 : parseMethodDescriptor "(II)V" = some ⟨[.int, .int], none⟩ := by decide +kernel
theorem d27_0 : decode jdk_43_method_2_code 0 = .ok (.iload_n 1, 1) := by decide +kernel
theorem d27_1 : decode jdk_43_method_2_code 1 = .ok (.aload_n 0, 1) := by decide +kernel
theorem d27_2 : decode jdk_43_method_2_code 2 = .ok (.arraylength, 1) := by decide +kernel
theorem d27_3 : decode jdk_43_method_2_code 3 = .ok (.invokestatic 9, 3) := by decide +kernel
theorem d27_6 : decode jdk_43_method_2_code 6 = .ok (.aload_n 0, 1) := by decide +kernel
theorem d27_7 : decode jdk_43_method_2_code 7 = .ok (.iload_n 1, 1) := by decide +kernel
theorem d27_8 : decode jdk_43_method_2_code 8 = .ok (.baload, 1) := by decide +kernel
theorem d27_9 : decode jdk_43_method_2_code 9 = .ok (.sipush 255, 3) := by decide +kernel
theorem d27_12 : decode jdk_43_method_2_code 12 = .ok (.iand, 1) := by decide +kernel
theorem d27_13 : decode jdk_43_method_2_code 13 = .ok (.i2c, 1) := by decide +kernel
theorem d27_14 : decode jdk_43_method_2_code 14 = .ok (.ireturn, 1) := by decide +kernel
theorem pn_3 : plainName "java/lang/StringLatin1" = true := by first | (simp [plainName, overriddenIn]; done) | decide +kernel
theorem ef_27 (m : MethodId) (x0 : Addr) (x1 : Int32)  : entryFrame m #[(.ref x0), (.int x1)] 2 = mkF m 0 #[.val (.ref x0), .val (.int x1)] [] := by first | (simp [entryFrame, mkF, argsToLocals, Value.category]; done) | rfl
def F27 (x1 : Int32) (L : List Int32) : Int32 := (nar .char (((L.getD (x1).toNatClampNeg 0) &&& (255 : Int32)).toUInt32.toUInt16.toUInt32.toInt32))
def Q27 (Z : State) (x0 : Addr) (x1 : Int32) (sf : Value) (ka : ClassId) (n : Int32) (L : List Int32) (h0 : Heap) (n0 : Nat) (vE : Option Value) (hE : Heap) (LE : List Loc) : Prop := vE = some (.int (F27 x1 L)) ∧ Fr n0 LE ∧ hE = h0
set_option maxRecDepth 65536 in
set_option maxHeartbeats 40000000 in
theorem rm27 (l : Launch) (Z : State) (a0 : Array Value) (hw : ∀ d ∈ tables_1, d.before a0 Z = true) (ws : List Jvm.Cond) (x0 : Addr) (x1 : Int32) (sf : Value) (ka : ClassId) (n : Int32) (L : List Int32) (h0 : Heap) (n0 : Nat) (Z0 : n0 ≤ h0.size) (S_f : Sta Z h0 "jdk/internal/util/Preconditions" "SIOOBE_FORMATTER" "Ljava/util/function/BiFunction;" sf) (hsf : sf.isRef = true) (A_b : Arv Z h0 x0 ka .byte n (List.map Value.int L) (.int (0 : Int32))) (hi : ¬ x1 < 0 ∧ x1 < n) :
    MetFree l (⟨"java/lang/StringLatin1", "charAt", "([BI)C"⟩ : MethodName) (head1 (Jvm.Cond.code (⟨"java/lang/StringLatin1", "charAt", "([BI)C"⟩ : MethodName) jdk_43_method_2_code 2 (some .char) :: ws) ({ frames := 2, cells := 0, slots := 0, locals := 27 } : Room)) (fun a U => a = #[(.ref x0), (.int x1)] ∧ Z.Warmed39 U.vm ∧ U.heap = h0) (fun _ _ _ _ _ => True) (fun _ U o U' => ∃ vE LE, o = .returned vE ∧ Q27 Z x0 x1 sf ka n L h0 n0 vE U'.heap LE ∧ FrameEnd U o U' LE ({ frames := 2, cells := 0, slots := 0, locals := 27 } : Room).cells ({ frames := 2, cells := 0, slots := 0, locals := 27 } : Room).slots) := by
  refine MetFree.of_bodySF (plainFor_of_name pn_3) hisR ?_
  intro p e s m args below meth c s₁ Bd hml0 hP hK
  obtain ⟨rfl, hZ, hh⟩ := hP
  have hx := Bd.exec
  have hby := Bd.bytes
  have hml : c.maxLocals = 2 := hml0
  have hown : s.vm.findClass "java/lang/StringLatin1" = some m.cls := findClass_of_methodNamed Bd.named
  have hnm := (name_of_methodNamed Bd.named Bd.method).1
  have hlk : meth.locks = false := BodyLoose.notSynchronized Bd
  have X0 : Stand p l e ({ frames := 2, cells := 0, slots := 0, locals := 27 } : Room) s m #[(.ref x0), (.int x1)] below meth c s₁ [] 0 0 := Stand.of_body Bd
  have e0 : s₁.heap = h0 := by rw [← hh, Bd.state]; rfl
  have N0 := Fr.nil n0
  obtain ⟨sE, hsE⟩ : ∃ z, z = (s₁.setTop (entryFrame m #[(.ref x0), (.int x1)] 2)) := ⟨_, rfl⟩
  have st0 : Steps p.tables e below sE (s₁.setTop (mkF m 0 #[.val (.ref x0), .val (.int x1)] [])) := by rw [hsE]; exact castTop (ef_27 m x0 x1) (Steps.refl _)
  obtain ⟨cl1, Ar1, -, S1, N1, -, -⟩ := id A_b
  have st2 : Steps p.tables e below sE (s₁.setTop (mkF m 3 #[.val (.ref x0), .val (.int x1)] [(.int n), (.int x1)])) := st0.trans (by
      show Steps _ _ _ (s₁.setTop (mkF m 0 #[.val (.ref x0), .val (.int x1)] [])) _
      refine XS.iloadN X0.here hx rfl (hb hby d27_0) rfl ?_
      show Steps _ _ _ (s₁.setTop (mkF m 1 #[.val (.ref x0), .val (.int x1)] [(.int x1)])) _
      refine XS.aloadN X0.here hx rfl (hb hby d27_1) rfl rfl ?_
      show Steps _ _ _ (s₁.setTop (mkF m 2 #[.val (.ref x0), .val (.int x1)] [(.ref x0), (.int x1)])) _
      refine X0.arraylength hx (by rw [e0]; exact Ar1.1) (State.isArrayOf_alike hZ.alike Ar1.2.1) (g := (mkF m 2 #[.val (.ref x0), .val (.int x1)] [(.ref x0), (.int x1)])) rfl rfl (hb hby d27_2) _ ?_
      rw [len_of S1 N1]
      exact Steps.refl _)
  obtain ⟨_, _, ⟨T3, L3, k3, n3⟩, -, X3, ⟨Lc3, hQ3, l3, y3, z3⟩, sr3⟩ := Jvm.LawKit.callS X0 hx (y := (⟨"java/lang/String", "checkIndex", "(II)V"⟩ : MethodName)) hown (mvT hZ (hw _ (List.mem_of_getElem? (i := 152) rfl))) (mvT hZ (hw _ (List.mem_of_getElem? (i := 153) rfl))) (mvT hZ (hw _ (List.mem_of_getElem? (i := 20) rfl))) (mvT hZ (hw _ (List.mem_of_getElem? (i := 154) rfl))) (by decide) (backOf (W := 0) (rm28 l Z a0 hw [] x1 n sf h0 n0 Z0 S_f hsf hi) hZ (hw _ (List.mem_of_getElem? (i := 154) rfl)) (hw _ (List.mem_of_getElem? (i := 20) rfl)) (by decide) (by decide)) (g := (mkF m 3 #[.val (.ref x0), .val (.int x1)] [(.int n), (.int x1)])) rfl (by rw [hml]; rfl) (argsL := [(.int x1), (.int n)]) (rest := []) (lenOf pd_2 rfl) rfl (by show 2 * 0 + _ ≤ _; exact Nat.le_of_eq rfl) (hb hby d27_3) (fun _ _ => ⟨rfl, e0, (by decide : 0 + 0 ≤ _), (by decide : 0 + 0 ≤ _)⟩)
  dsimp only [Pt.U, Pt.locs, Pt.cells, Pt.slots] at X3 l3 y3 z3 sr3 hQ3
  subst l3 y3 z3
  obtain ⟨rfl, N3q, hh3⟩ := hQ3
  have N3 := Fr.app N0 N3q
  obtain ⟨LL3, X3, N3⟩ := own_hide X3 N3
  have st4 : Steps p.tables e below sE (T3.setTop (mkF m 6 #[.val (.ref x0), .val (.int x1)] [])) := st2.trans (sr3 _ (Steps.refl _))
  obtain ⟨cl5, Ar5, q5, S5, N5, H5, G5⟩ := id A_b
  have hin5 : ¬ (x1 < 0 ∨ cl5.slots.size ≤ (x1).toNatClampNeg) := inb_of S5 hi
  have hat5 : cl5.slots[(x1).toNatClampNeg]? = some (.int (L.getD (x1).toNatClampNeg 0)) := H5.at hin5 (own_getI L _)
  have st6 : Steps p.tables e below sE (T3.setTop (mkF m 14 #[.val (.ref x0), .val (.int x1)] [(.int (((L.getD (x1).toNatClampNeg 0) &&& (255 : Int32)).toUInt32.toUInt16.toUInt32.toInt32))])) := st4.trans (by
      show Steps _ _ _ (T3.setTop (mkF m 6 #[.val (.ref x0), .val (.int x1)] [])) _
      refine XS.aloadN X3.here hx rfl (hb hby d27_6) rfl rfl ?_
      show Steps _ _ _ (T3.setTop (mkF m 7 #[.val (.ref x0), .val (.int x1)] [(.ref x0)])) _
      refine XS.iloadN X3.here hx rfl (hb hby d27_7) rfl ?_
      show Steps _ _ _ (T3.setTop (mkF m 8 #[.val (.ref x0), .val (.int x1)] [(.int x1), (.ref x0)])) _
      refine X3.baloadBytes hx (j := x1) (v := (.int (L.getD (x1).toNatClampNeg 0))) (by rw [hh3]; exact Ar5.1) (State.isArrayOf_alike hZ.alike Ar5.2.1) Ar5.2.2 hin5 hat5 (g := (mkF m 8 #[.val (.ref x0), .val (.int x1)] [(.int x1), (.ref x0)])) rfl rfl (hb hby d27_8) _ ?_
      show Steps _ _ _ (T3.setTop (mkF m 9 #[.val (.ref x0), .val (.int x1)] [(.int (L.getD (x1).toNatClampNeg 0))])) _
      refine XS.sipush X3.here hx rfl (hb hby d27_9) ?_
      show Steps _ _ _ (T3.setTop (mkF m 12 #[.val (.ref x0), .val (.int x1)] [(.int (255 : Int32)), (.int (L.getD (x1).toNatClampNeg 0))])) _
      refine XS.iand X3.here hx rfl (hb hby d27_12) rfl ?_
      show Steps _ _ _ (T3.setTop (mkF m 13 #[.val (.ref x0), .val (.int x1)] [(.int ((L.getD (x1).toNatClampNeg 0) &&& (255 : Int32)))])) _
      refine XS.i2c X3.here hx rfl (hb hby d27_13) rfl ?_
      exact Steps.refl _)
  obtain ⟨fs, hr, hrun, hended, hW, hsame⟩ := X3.leave (v := some (.int (nar .char (((L.getD (x1).toNatClampNeg 0) &&& (255 : Int32)).toUInt32.toUInt16.toUInt32.toInt32)))) (fun h => by rw [Bd.returns] at h; cases h) hlk
  refine ⟨_, _, (own_ent hsE st6).trans ?_, hrun, hended, _, _, rfl, ?_, ⟨_, rfl⟩, hW, hsame.mono (by decide) (by decide)⟩
  · exact retN X3 hx (t := .char) Bd.returns (by simp) (hb hby d27_14) hr
  · show Q27 Z x0 x1 sf ka n L h0 n0 _ T3.heap _
    rw [hh3]
    exact ⟨by rw [F27], N3, rfl⟩
theorem pd_3 : parseMethodDescriptor "()Z" = some ⟨[], some .boolean⟩ := by decide +kernel
theorem pd_4 : parseMethodDescriptor "([BI)C" = some ⟨[(.array .byte), .int], some .char⟩ := by decide +kernel
theorem d25_0 : decode jdk_42_method_56_code 0 = .ok (.aload_n 0, 1) := by decide +kernel
theorem d25_1 : decode jdk_42_method_56_code 1 = .ok (.invokevirtual 492, 3) := by decide +kernel
theorem d25_4 : decode jdk_42_method_56_code 4 = .ok (.ifCond .eq 12, 3) := by decide +kernel
theorem d25_7 : decode jdk_42_method_56_code 7 = .ok (.aload_n 0, 1) := by decide +kernel
theorem d25_8 : decode jdk_42_method_56_code 8 = .ok (.getfield 9, 3) := by decide +kernel
theorem d25_11 : decode jdk_42_method_56_code 11 = .ok (.iload_n 1, 1) := by decide +kernel
theorem d25_12 : decode jdk_42_method_56_code 12 = .ok (.invokestatic 495, 3) := by decide +kernel
theorem d25_15 : decode jdk_42_method_56_code 15 = .ok (.ireturn, 1) := by decide +kernel
theorem ef_25 (m : MethodId) (x0 : Addr) (x1 : Int32)  : entryFrame m #[(.ref x0), (.int x1)] 2 = mkF m 0 #[.val (.ref x0), .val (.int x1)] [] := by first | (simp [entryFrame, mkF, argsToLocals, Value.category]; done) | rfl
def F25 (x1 : Int32) (L : List Int32) : Int32 := (nar .char (F27 x1 L))
def Q25 (Z : State) (x0 : Addr) (x1 : Int32) (cs : Int32) (sf : Value) (b : Addr) (ka : ClassId) (n : Int32) (L : List Int32) (h0 : Heap) (n0 : Nat) (vE : Option Value) (hE : Heap) (LE : List Loc) : Prop := vE = some (.int (F25 x1 L)) ∧ Fr n0 LE ∧ hE = h0
set_option maxRecDepth 65536 in
set_option maxHeartbeats 40000000 in
theorem rm25 (l : Launch) (Z : State) (a0 : Array Value) (hw : ∀ d ∈ tables_1, d.before a0 Z = true) (ws : List Jvm.Cond) (x0 : Addr) (x1 : Int32) (cs : Int32) (sf : Value) (b : Addr) (ka : ClassId) (n : Int32) (L : List Int32) (h0 : Heap) (n0 : Nat) (Z0 : n0 ≤ h0.size) (S_c : Sta Z h0 "java/lang/String" "COMPACT_STRINGS" "Z" (.int cs)) (hcs : ¬ cs = (0 : Int32)) (S_f : Sta Z h0 "jdk/internal/util/Preconditions" "SIOOBE_FORMATTER" "Ljava/util/function/BiFunction;" sf) (hsf : sf.isRef = true) (E_x : Exa Z h0 x0 "java/lang/String") (F_v : Fld Z h0 x0 "java/lang/String" "value" "[B" (.ref b)) (F_c : Fld Z h0 x0 "java/lang/String" "coder" "B" (.int (0 : Int32))) (A_b : Arv Z h0 b ka .byte n (List.map Value.int L) (.int (0 : Int32))) (hi : ¬ x1 < 0 ∧ x1 < n) :
    MetFree l (⟨"java/lang/String", "charAt", "(I)C"⟩ : MethodName) (head1 (Jvm.Cond.code (⟨"java/lang/String", "charAt", "(I)C"⟩ : MethodName) jdk_42_method_56_code 2 (some .char) :: ws) ({ frames := 3, cells := 0, slots := 0, locals := 40 } : Room)) (fun a U => a = #[(.ref x0), (.int x1)] ∧ Z.Warmed39 U.vm ∧ U.heap = h0) (fun _ _ _ _ _ => True) (fun _ U o U' => ∃ vE LE, o = .returned vE ∧ Q25 Z x0 x1 cs sf b ka n L h0 n0 vE U'.heap LE ∧ FrameEnd U o U' LE ({ frames := 3, cells := 0, slots := 0, locals := 40 } : Room).cells ({ frames := 3, cells := 0, slots := 0, locals := 40 } : Room).slots) := by
  refine MetFree.of_bodySF (plainFor_of_name pn_1) hisR ?_
  intro p e s m args below meth c s₁ Bd hml0 hP hK
  obtain ⟨rfl, hZ, hh⟩ := hP
  have hx := Bd.exec
  have hby := Bd.bytes
  have hml : c.maxLocals = 2 := hml0
  have hown : s.vm.findClass "java/lang/String" = some m.cls := findClass_of_methodNamed Bd.named
  have hnm := (name_of_methodNamed Bd.named Bd.method).1
  have hlk : meth.locks = false := BodyLoose.notSynchronized Bd
  have X0 : Stand p l e ({ frames := 3, cells := 0, slots := 0, locals := 40 } : Room) s m #[(.ref x0), (.int x1)] below meth c s₁ [] 0 0 := Stand.of_body Bd
  have e0 : s₁.heap = h0 := by rw [← hh, Bd.state]; rfl
  have N0 := Fr.nil n0
  obtain ⟨sE, hsE⟩ : ∃ z, z = (s₁.setTop (entryFrame m #[(.ref x0), (.int x1)] 2)) := ⟨_, rfl⟩
  have st0 : Steps p.tables e below sE (s₁.setTop (mkF m 0 #[.val (.ref x0), .val (.int x1)] [])) := by rw [hsE]; exact castTop (ef_25 m x0 x1) (Steps.refl _)
  have st1 : Steps p.tables e below sE (s₁.setTop (mkF m 1 #[.val (.ref x0), .val (.int x1)] [(.ref x0)])) := st0.trans (by
      show Steps _ _ _ (s₁.setTop (mkF m 0 #[.val (.ref x0), .val (.int x1)] [])) _
      refine XS.aloadN X0.here hx rfl (hb hby d25_0) rfl rfl ?_
      exact Steps.refl _)
  obtain ⟨cq2, kq2, q2a, q2b, q2c⟩ := isOf hZ e0 E_x
  obtain ⟨_, _, ⟨T2, L2, k2, n2⟩, -, X2, ⟨Lc2, hQ2, l2, y2, z2⟩, sr2⟩ := X0.virtualBack hx (y := (⟨"java/lang/String", "isLatin1", "()Z"⟩ : MethodName)) (z := (⟨"java/lang/String", "isLatin1", "()Z"⟩ : MethodName)) hown (mvT hZ (hw _ (List.mem_of_getElem? (i := 143) rfl))) (mvT hZ (hw _ (List.mem_of_getElem? (i := 144) rfl))) (notFace_of_selects (args := #[]) (mvT hZ (hw _ (List.mem_of_getElem? (i := 146) rfl)))) (mvT hZ (hw _ (List.mem_of_getElem? (i := 146) rfl))) (mvT hZ (hw _ (List.mem_of_getElem? (i := 145) rfl))) (by decide) (backOf (W := 0) (rm26 l Z a0 hw [] x0 cs h0 n0 Z0 S_c hcs F_c) hZ (hw _ (List.mem_of_getElem? (i := 147) rfl)) (hw _ (List.mem_of_getElem? (i := 20) rfl)) (by decide) (by decide)) q2a q2c (g := (mkF m 1 #[.val (.ref x0), .val (.int x1)] [(.ref x0)])) rfl (by rw [hml]; rfl) (Steps.refl _) (argsL := []) (rest := []) (lenOf pd_3 rfl) rfl (by show 2 * 0 + _ ≤ _; exact Nat.le_of_eq rfl) (hb hby d25_1) (fun _ _ => ⟨rfl, e0, (by decide : 0 + 0 ≤ _), (by decide : 0 + 0 ≤ _)⟩)
  dsimp only [Pt.U, Pt.locs, Pt.cells, Pt.slots] at X2 l2 y2 z2 sr2 hQ2
  subst l2 y2 z2
  obtain ⟨rfl, N2q, hh2⟩ := hQ2
  have N2 := Fr.app N0 N2q
  obtain ⟨LL2, X2, N2⟩ := own_hide X2 N2
  have st3 : Steps p.tables e below sE (T2.setTop (mkF m 4 #[.val (.ref x0), .val (.int x1)] [(.int (1 : Int32))])) := st1.trans (sr2)
  have hf4 : ¬ ((1 : Int32) = (0 : Int32)) := by decide
  have st5 : Steps p.tables e below sE (T2.setTop (mkF m 8 #[.val (.ref x0), .val (.int x1)] [(.ref x0)])) := st3.trans (by
      show Steps _ _ _ (T2.setTop (mkF m 4 #[.val (.ref x0), .val (.int x1)] [(.int (1 : Int32))])) _
      refine XS.ifNo X2.here hx rfl (hb hby d25_4) rfl ((if0 _ _).trans (feq hf4).1) ?_
      show Steps _ _ _ (T2.setTop (mkF m 7 #[.val (.ref x0), .val (.int x1)] [])) _
      refine XS.aloadN X2.here hx rfl (hb hby d25_7) rfl rfl ?_
      exact Steps.refl _)
  obtain ⟨T6, X6, e6, sr6⟩ := getF X2 hx hZ hown (host := "") (Or.inl (hw _ (List.mem_of_getElem? (i := 37) rfl))) Via.refl hh2 F_v (g := (mkF m 8 #[.val (.ref x0), .val (.int x1)] [(.ref x0)])) rfl rfl (hb hby d25_8)
  have st7 : Steps p.tables e below sE (T6.setTop (mkF m 11 #[.val (.ref x0), .val (.int x1)] [(.ref b)])) := st5.trans (sr6 _ (Steps.refl _))
  have st8 : Steps p.tables e below sE (T6.setTop (mkF m 12 #[.val (.ref x0), .val (.int x1)] [(.int x1), (.ref b)])) := st7.trans (by
      show Steps _ _ _ (T6.setTop (mkF m 11 #[.val (.ref x0), .val (.int x1)] [(.ref b)])) _
      refine XS.iloadN X6.here hx rfl (hb hby d25_11) rfl ?_
      exact Steps.refl _)
  obtain ⟨_, _, ⟨T9, L9, k9, n9⟩, -, X9, ⟨Lc9, hQ9, l9, y9, z9⟩, sr9⟩ := Jvm.LawKit.callS X6 hx (y := (⟨"java/lang/StringLatin1", "charAt", "([BI)C"⟩ : MethodName)) hown (mvT hZ (hw _ (List.mem_of_getElem? (i := 148) rfl))) (mvT hZ (hw _ (List.mem_of_getElem? (i := 149) rfl))) (mvT hZ (hw _ (List.mem_of_getElem? (i := 150) rfl))) (mvT hZ (hw _ (List.mem_of_getElem? (i := 151) rfl))) (by decide) (backOf (W := 0) (rm27 l Z a0 hw [] b x1 sf ka n L h0 n0 Z0 S_f hsf A_b hi) hZ (hw _ (List.mem_of_getElem? (i := 151) rfl)) (hw _ (List.mem_of_getElem? (i := 150) rfl)) (by decide) (by decide)) (g := (mkF m 12 #[.val (.ref x0), .val (.int x1)] [(.int x1), (.ref b)])) rfl (by rw [hml]; rfl) (argsL := [(.ref b), (.int x1)]) (rest := []) (lenOf pd_4 rfl) rfl (by show 2 * 0 + _ ≤ _; exact Nat.le_of_eq rfl) (hb hby d25_12) (fun _ _ => ⟨rfl, e6, (by decide : 0 + 0 ≤ _), (by decide : 0 + 0 ≤ _)⟩)
  dsimp only [Pt.U, Pt.locs, Pt.cells, Pt.slots] at X9 l9 y9 z9 sr9 hQ9
  subst l9 y9 z9
  obtain ⟨rfl, N9q, hh9⟩ := hQ9
  have N9 := Fr.app N2 N9q
  obtain ⟨LL9, X9, N9⟩ := own_hide X9 N9
  have st10 : Steps p.tables e below sE (T9.setTop (mkF m 15 #[.val (.ref x0), .val (.int x1)] [(.int (F27 x1 L))])) := st8.trans (sr9 _ (Steps.refl _))
  obtain ⟨fs, hr, hrun, hended, hW, hsame⟩ := X9.leave (v := some (.int (nar .char (F27 x1 L)))) (fun h => by rw [Bd.returns] at h; cases h) hlk
  refine ⟨_, _, (own_ent hsE st10).trans ?_, hrun, hended, _, _, rfl, ?_, ⟨_, rfl⟩, hW, hsame.mono (by decide) (by decide)⟩
  · exact retN X9 hx (t := .char) Bd.returns (by simp) (hb hby d25_15) hr
  · show Q25 Z x0 x1 cs sf b ka n L h0 n0 _ T9.heap _
    rw [hh9]
    exact ⟨by rw [F25], N9, rfl⟩
theorem d20_0 : decode jdk_68_method_68_code 0 = .ok (.getstatic 18, 3) := by decide +kernel
theorem d20_3 : decode jdk_68_method_68_code 3 = .ok (.ifCond .eq 14, 3) := by decide +kernel
theorem d20_6 : decode jdk_68_method_68_code 6 = .ok (.aload_n 0, 1) := by decide +kernel
theorem d20_7 : decode jdk_68_method_68_code 7 = .ok (.getfield 22, 3) := by decide +kernel
theorem d20_10 : decode jdk_68_method_68_code 10 = .ok (.ifCond .ne 7, 3) := by decide +kernel
theorem d20_13 : decode jdk_68_method_68_code 13 = .ok (.iconst 1, 1) := by decide +kernel
theorem d20_14 : decode jdk_68_method_68_code 14 = .ok (.goto 4, 3) := by decide +kernel
theorem d20_18 : decode jdk_68_method_68_code 18 = .ok (.ireturn, 1) := by decide +kernel
theorem pn_4 : plainName "java/lang/AbstractStringBuilder" = true := by first | (simp [plainName, overriddenIn]; done) | decide +kernel
theorem ef_20 (m : MethodId) (x0 : Addr)  : entryFrame m #[(.ref x0)] 1 = mkF m 0 #[.val (.ref x0)] [] := by first | (simp [entryFrame, mkF, argsToLocals, Value.category]; done) | rfl
def Q20 (Z : State) (x0 : Addr) (cs : Int32) (h0 : Heap) (n0 : Nat) (vE : Option Value) (hE : Heap) (LE : List Loc) : Prop := vE = some (.int (1 : Int32)) ∧ Fr n0 LE ∧ hE = h0
set_option maxRecDepth 65536 in
set_option maxHeartbeats 40000000 in
theorem rm20 (l : Launch) (Z : State) (a0 : Array Value) (hw : ∀ d ∈ tables_1, d.before a0 Z = true) (ws : List Jvm.Cond) (x0 : Addr) (cs : Int32) (h0 : Heap) (n0 : Nat) (Z0 : n0 ≤ h0.size) (S_c : Sta Z h0 "java/lang/String" "COMPACT_STRINGS" "Z" (.int cs)) (hcs : ¬ cs = (0 : Int32)) (F_c : Fld Z h0 x0 "java/lang/AbstractStringBuilder" "coder" "B" (.int (0 : Int32))) :
    MetFree l (⟨"java/lang/AbstractStringBuilder", "isLatin1", "()Z"⟩ : MethodName) (head1 (Jvm.Cond.code (⟨"java/lang/AbstractStringBuilder", "isLatin1", "()Z"⟩ : MethodName) jdk_68_method_68_code 1 (some .boolean) :: ws) ({ frames := 0, cells := 0, slots := 0, locals := 0 } : Room)) (fun a U => a = #[(.ref x0)] ∧ Z.Warmed39 U.vm ∧ U.heap = h0) (fun _ _ _ _ _ => True) (fun _ U o U' => ∃ vE LE, o = .returned vE ∧ Q20 Z x0 cs h0 n0 vE U'.heap LE ∧ FrameEnd U o U' LE ({ frames := 0, cells := 0, slots := 0, locals := 0 } : Room).cells ({ frames := 0, cells := 0, slots := 0, locals := 0 } : Room).slots) := by
  refine MetFree.of_bodySF (plainFor_of_name pn_4) hisR ?_
  intro p e s m args below meth c s₁ Bd hml0 hP hK
  obtain ⟨rfl, hZ, hh⟩ := hP
  have hx := Bd.exec
  have hby := Bd.bytes
  have hml : c.maxLocals = 1 := hml0
  have hown : s.vm.findClass "java/lang/AbstractStringBuilder" = some m.cls := findClass_of_methodNamed Bd.named
  have hnm := (name_of_methodNamed Bd.named Bd.method).1
  have hlk : meth.locks = false := BodyLoose.notSynchronized Bd
  have X0 : Stand p l e ({ frames := 0, cells := 0, slots := 0, locals := 0 } : Room) s m #[(.ref x0)] below meth c s₁ [] 0 0 := Stand.of_body Bd
  have e0 : s₁.heap = h0 := by rw [← hh, Bd.state]; rfl
  have N0 := Fr.nil n0
  obtain ⟨sE, hsE⟩ : ∃ z, z = (s₁.setTop (entryFrame m #[(.ref x0)] 1)) := ⟨_, rfl⟩
  have st0 : Steps p.tables e below sE (s₁.setTop (mkF m 0 #[.val (.ref x0)] [])) := by rw [hsE]; exact castTop (ef_20 m x0) (Steps.refl _)
  obtain ⟨T1, X1, e1, sr1⟩ := getS2 X0 hx hZ hown (host := "") (Or.inl (hw _ (List.mem_of_getElem? (i := 19) rfl))) Via.refl e0 S_c (g := (mkF m 0 #[.val (.ref x0)] [])) rfl (hb hby d20_0)
  have st2 : Steps p.tables e below sE (T1.setTop (mkF m 3 #[.val (.ref x0)] [(.int cs)])) := st0.trans (sr1 _ (Steps.refl _))
  have hf3 : ¬ (cs = (0 : Int32)) := hcs
  have st4 : Steps p.tables e below sE (T1.setTop (mkF m 7 #[.val (.ref x0)] [(.ref x0)])) := st2.trans (by
      show Steps _ _ _ (T1.setTop (mkF m 3 #[.val (.ref x0)] [(.int cs)])) _
      refine XS.ifNo X1.here hx rfl (hb hby d20_3) rfl ((if0 _ _).trans (feq hf3).1) ?_
      show Steps _ _ _ (T1.setTop (mkF m 6 #[.val (.ref x0)] [])) _
      refine XS.aloadN X1.here hx rfl (hb hby d20_6) rfl rfl ?_
      exact Steps.refl _)
  obtain ⟨T5, X5, e5, sr5⟩ := getF X1 hx hZ hown (host := "") (Or.inl (hw _ (List.mem_of_getElem? (i := 24) rfl))) Via.refl e1 F_c (g := (mkF m 7 #[.val (.ref x0)] [(.ref x0)])) rfl rfl (hb hby d20_7)
  have st6 : Steps p.tables e below sE (T5.setTop (mkF m 10 #[.val (.ref x0)] [(.int (0 : Int32))])) := st4.trans (sr5 _ (Steps.refl _))
  have hf7 : (0 : Int32) = (0 : Int32) := by decide
  have st8 : Steps p.tables e below sE (T5.setTop (mkF m 18 #[.val (.ref x0)] [(.int (1 : Int32))])) := st6.trans (by
      show Steps _ _ _ (T5.setTop (mkF m 10 #[.val (.ref x0)] [(.int (0 : Int32))])) _
      refine XS.ifNo X5.here hx rfl (hb hby d20_10) rfl ((if0 _ _).trans (teq hf7).2) ?_
      show Steps _ _ _ (T5.setTop (mkF m 13 #[.val (.ref x0)] [])) _
      refine XS.iconst X5.here hx rfl (hb hby d20_13) ?_
      show Steps _ _ _ (T5.setTop (mkF m 14 #[.val (.ref x0)] [(.int (1 : Int32))])) _
      refine XS.goto X5.here hx rfl (pc0 := 14) (pc' := 18) rfl (hb hby d20_14) (by decide) (by decide) ?_
      exact Steps.refl _)
  obtain ⟨fs, hr, hrun, hended, hW, hsame⟩ := X5.leave (v := some (.int (1 : Int32))) (fun h => by rw [Bd.returns] at h; cases h) hlk
  refine ⟨_, _, (own_ent hsE st8).trans ?_, hrun, hended, _, _, rfl, ?_, ⟨_, rfl⟩, hW, hsame.mono (by decide) (by decide)⟩
  · exact retN X5 hx (t := .boolean) Bd.returns (by simp) (hb hby d20_18) hr
  · show Q20 Z x0 cs h0 n0 _ T5.heap _
    rw [e5]
    exact ⟨rfl, N0, rfl⟩
theorem d17_0 : decode jdk_68_method_64_code 0 = .ok (.aload_n 0, 1) := by decide +kernel
theorem d17_1 : decode jdk_68_method_64_code 1 = .ok (.getfield 15, 3) := by decide +kernel
theorem d17_4 : decode jdk_68_method_64_code 4 = .ok (.areturn, 1) := by decide +kernel
theorem ef_17 (m : MethodId) (x0 : Addr)  : entryFrame m #[(.ref x0)] 1 = mkF m 0 #[.val (.ref x0)] [] := by first | (simp [entryFrame, mkF, argsToLocals, Value.category]; done) | rfl
def Q17 (Z : State) (x0 : Addr) (b : Addr) (h0 : Heap) (n0 : Nat) (vE : Option Value) (hE : Heap) (LE : List Loc) : Prop := vE = some (.ref b) ∧ Fr n0 LE ∧ hE = h0
set_option maxRecDepth 65536 in
set_option maxHeartbeats 40000000 in
theorem rm17 (l : Launch) (Z : State) (a0 : Array Value) (hw : ∀ d ∈ tables_1, d.before a0 Z = true) (ws : List Jvm.Cond) (x0 : Addr) (b : Addr) (h0 : Heap) (n0 : Nat) (Z0 : n0 ≤ h0.size) (F_v : Fld Z h0 x0 "java/lang/AbstractStringBuilder" "value" "[B" (.ref b)) :
    MetFree l (⟨"java/lang/AbstractStringBuilder", "getValue", "()[B"⟩ : MethodName) (head1 (Jvm.Cond.code (⟨"java/lang/AbstractStringBuilder", "getValue", "()[B"⟩ : MethodName) jdk_68_method_64_code 1 (some (.array .byte)) :: ws) ({ frames := 0, cells := 0, slots := 0, locals := 0 } : Room)) (fun a U => a = #[(.ref x0)] ∧ Z.Warmed39 U.vm ∧ U.heap = h0) (fun _ _ _ _ _ => True) (fun _ U o U' => ∃ vE LE, o = .returned vE ∧ Q17 Z x0 b h0 n0 vE U'.heap LE ∧ FrameEnd U o U' LE ({ frames := 0, cells := 0, slots := 0, locals := 0 } : Room).cells ({ frames := 0, cells := 0, slots := 0, locals := 0 } : Room).slots) := by
  refine MetFree.of_bodySF (plainFor_of_name pn_4) hisR ?_
  intro p e s m args below meth c s₁ Bd hml0 hP hK
  obtain ⟨rfl, hZ, hh⟩ := hP
  have hx := Bd.exec
  have hby := Bd.bytes
  have hml : c.maxLocals = 1 := hml0
  have hown : s.vm.findClass "java/lang/AbstractStringBuilder" = some m.cls := findClass_of_methodNamed Bd.named
  have hnm := (name_of_methodNamed Bd.named Bd.method).1
  have hlk : meth.locks = false := BodyLoose.notSynchronized Bd
  have X0 : Stand p l e ({ frames := 0, cells := 0, slots := 0, locals := 0 } : Room) s m #[(.ref x0)] below meth c s₁ [] 0 0 := Stand.of_body Bd
  have e0 : s₁.heap = h0 := by rw [← hh, Bd.state]; rfl
  have N0 := Fr.nil n0
  obtain ⟨sE, hsE⟩ : ∃ z, z = (s₁.setTop (entryFrame m #[(.ref x0)] 1)) := ⟨_, rfl⟩
  have st0 : Steps p.tables e below sE (s₁.setTop (mkF m 0 #[.val (.ref x0)] [])) := by rw [hsE]; exact castTop (ef_17 m x0) (Steps.refl _)
  have st1 : Steps p.tables e below sE (s₁.setTop (mkF m 1 #[.val (.ref x0)] [(.ref x0)])) := st0.trans (by
      show Steps _ _ _ (s₁.setTop (mkF m 0 #[.val (.ref x0)] [])) _
      refine XS.aloadN X0.here hx rfl (hb hby d17_0) rfl rfl ?_
      exact Steps.refl _)
  obtain ⟨T2, X2, e2, sr2⟩ := getF X0 hx hZ hown (host := "") (Or.inl (hw _ (List.mem_of_getElem? (i := 22) rfl))) Via.refl e0 F_v (g := (mkF m 1 #[.val (.ref x0)] [(.ref x0)])) rfl rfl (hb hby d17_1)
  have st3 : Steps p.tables e below sE (T2.setTop (mkF m 4 #[.val (.ref x0)] [(.ref b)])) := st1.trans (sr2 _ (Steps.refl _))
  obtain ⟨fs, hr, hrun, hended, hW, hsame⟩ := X2.leave (v := some (.ref b)) (fun h => by rw [Bd.returns] at h; cases h) hlk
  refine ⟨_, _, (own_ent hsE st3).trans ?_, hrun, hended, _, _, rfl, ?_, ⟨_, rfl⟩, hW, hsame.mono (by decide) (by decide)⟩
  · exact retOut X2 hx (t := (.array .byte)) Bd.returns rfl (Or.inr (Or.inr (Or.inr (Or.inr ⟨rfl, rfl, rfl⟩)))) (hb hby d17_4) hr
  · show Q17 Z x0 b h0 n0 _ T2.heap _
    rw [e2]
    exact ⟨rfl, N0, rfl⟩
theorem d19_0 : decode jdk_68_method_6_code 0 = .ok (.aload_n 0, 1) := by decide +kernel
theorem d19_1 : decode jdk_68_method_6_code 1 = .ok (.getfield 79, 3) := by decide +kernel
theorem d19_4 : decode jdk_68_method_6_code 4 = .ok (.ireturn, 1) := by decide +kernel
theorem ef_19 (m : MethodId) (x0 : Addr)  : entryFrame m #[(.ref x0)] 1 = mkF m 0 #[.val (.ref x0)] [] := by first | (simp [entryFrame, mkF, argsToLocals, Value.category]; done) | rfl
def Q19 (Z : State) (x0 : Addr) (cn : Int32) (h0 : Heap) (n0 : Nat) (vE : Option Value) (hE : Heap) (LE : List Loc) : Prop := vE = some (.int cn) ∧ Fr n0 LE ∧ hE = h0
set_option maxRecDepth 65536 in
set_option maxHeartbeats 40000000 in
theorem rm19 (l : Launch) (Z : State) (a0 : Array Value) (hw : ∀ d ∈ tables_1, d.before a0 Z = true) (ws : List Jvm.Cond) (x0 : Addr) (cn : Int32) (h0 : Heap) (n0 : Nat) (Z0 : n0 ≤ h0.size) (F_n : Fld Z h0 x0 "java/lang/AbstractStringBuilder" "count" "I" (.int cn)) :
    MetFree l (⟨"java/lang/AbstractStringBuilder", "length", "()I"⟩ : MethodName) (head1 (Jvm.Cond.code (⟨"java/lang/AbstractStringBuilder", "length", "()I"⟩ : MethodName) jdk_68_method_6_code 1 (some .int) :: ws) ({ frames := 0, cells := 0, slots := 0, locals := 0 } : Room)) (fun a U => a = #[(.ref x0)] ∧ Z.Warmed39 U.vm ∧ U.heap = h0) (fun _ _ _ _ _ => True) (fun _ U o U' => ∃ vE LE, o = .returned vE ∧ Q19 Z x0 cn h0 n0 vE U'.heap LE ∧ FrameEnd U o U' LE ({ frames := 0, cells := 0, slots := 0, locals := 0 } : Room).cells ({ frames := 0, cells := 0, slots := 0, locals := 0 } : Room).slots) := by
  refine MetFree.of_bodySF (plainFor_of_name pn_4) hisR ?_
  intro p e s m args below meth c s₁ Bd hml0 hP hK
  obtain ⟨rfl, hZ, hh⟩ := hP
  have hx := Bd.exec
  have hby := Bd.bytes
  have hml : c.maxLocals = 1 := hml0
  have hown : s.vm.findClass "java/lang/AbstractStringBuilder" = some m.cls := findClass_of_methodNamed Bd.named
  have hnm := (name_of_methodNamed Bd.named Bd.method).1
  have hlk : meth.locks = false := BodyLoose.notSynchronized Bd
  have X0 : Stand p l e ({ frames := 0, cells := 0, slots := 0, locals := 0 } : Room) s m #[(.ref x0)] below meth c s₁ [] 0 0 := Stand.of_body Bd
  have e0 : s₁.heap = h0 := by rw [← hh, Bd.state]; rfl
  have N0 := Fr.nil n0
  obtain ⟨sE, hsE⟩ : ∃ z, z = (s₁.setTop (entryFrame m #[(.ref x0)] 1)) := ⟨_, rfl⟩
  have st0 : Steps p.tables e below sE (s₁.setTop (mkF m 0 #[.val (.ref x0)] [])) := by rw [hsE]; exact castTop (ef_19 m x0) (Steps.refl _)
  have st1 : Steps p.tables e below sE (s₁.setTop (mkF m 1 #[.val (.ref x0)] [(.ref x0)])) := st0.trans (by
      show Steps _ _ _ (s₁.setTop (mkF m 0 #[.val (.ref x0)] [])) _
      refine XS.aloadN X0.here hx rfl (hb hby d19_0) rfl rfl ?_
      exact Steps.refl _)
  obtain ⟨T2, X2, e2, sr2⟩ := getF X0 hx hZ hown (host := "") (Or.inl (hw _ (List.mem_of_getElem? (i := 61) rfl))) Via.refl e0 F_n (g := (mkF m 1 #[.val (.ref x0)] [(.ref x0)])) rfl rfl (hb hby d19_1)
  have st3 : Steps p.tables e below sE (T2.setTop (mkF m 4 #[.val (.ref x0)] [(.int cn)])) := st1.trans (sr2 _ (Steps.refl _))
  obtain ⟨fs, hr, hrun, hended, hW, hsame⟩ := X2.leave (v := some (.int cn)) (fun h => by rw [Bd.returns] at h; cases h) hlk
  refine ⟨_, _, (own_ent hsE st3).trans ?_, hrun, hended, _, _, rfl, ?_, ⟨_, rfl⟩, hW, hsame.mono (by decide) (by decide)⟩
  · exact retI X2 hx Bd.returns (hb hby d19_4) hr
  · show Q19 Z x0 cn h0 n0 _ T2.heap _
    rw [e2]
    exact ⟨rfl, N0, rfl⟩
theorem pd_5 : parseMethodDescriptor "()I" = some ⟨[], some .int⟩ := by decide +kernel
theorem d18_0 : decode jdk_67_method_93_code 0 = .ok (.aload_n 0, 1) := by decide +kernel
theorem d18_1 : decode jdk_67_method_93_code 1 = .ok (.invokespecial 343, 3) := by decide +kernel
theorem d18_4 : decode jdk_67_method_93_code 4 = .ok (.ireturn, 1) := by decide +kernel
theorem pn_5 : plainName "java/lang/StringBuilder" = true := by first | (simp [plainName, overriddenIn]; done) | decide +kernel
theorem ef_18 (m : MethodId) (x0 : Addr)  : entryFrame m #[(.ref x0)] 1 = mkF m 0 #[.val (.ref x0)] [] := by first | (simp [entryFrame, mkF, argsToLocals, Value.category]; done) | rfl
def Q18 (Z : State) (x0 : Addr) (cn : Int32) (h0 : Heap) (n0 : Nat) (vE : Option Value) (hE : Heap) (LE : List Loc) : Prop := vE = some (.int cn) ∧ Fr n0 LE ∧ hE = h0
set_option maxRecDepth 65536 in
set_option maxHeartbeats 40000000 in
theorem rm18 (l : Launch) (Z : State) (a0 : Array Value) (hw : ∀ d ∈ tables_1, d.before a0 Z = true) (ws : List Jvm.Cond) (x0 : Addr) (cn : Int32) (h0 : Heap) (n0 : Nat) (Z0 : n0 ≤ h0.size) (E_x : Exa Z h0 x0 "java/lang/StringBuilder") (F_n : Fld Z h0 x0 "java/lang/AbstractStringBuilder" "count" "I" (.int cn)) :
    MetFree l (⟨"java/lang/StringBuilder", "length", "()I"⟩ : MethodName) (head1 (Jvm.Cond.code (⟨"java/lang/StringBuilder", "length", "()I"⟩ : MethodName) jdk_67_method_93_code 1 (some .int) :: ws) ({ frames := 1, cells := 0, slots := 0, locals := 12 } : Room)) (fun a U => a = #[(.ref x0)] ∧ Z.Warmed39 U.vm ∧ U.heap = h0) (fun _ _ _ _ _ => True) (fun _ U o U' => ∃ vE LE, o = .returned vE ∧ Q18 Z x0 cn h0 n0 vE U'.heap LE ∧ FrameEnd U o U' LE ({ frames := 1, cells := 0, slots := 0, locals := 12 } : Room).cells ({ frames := 1, cells := 0, slots := 0, locals := 12 } : Room).slots) := by
  refine MetFree.of_bodySF (plainFor_of_name pn_5) hisR ?_
  intro p e s m args below meth c s₁ Bd hml0 hP hK
  obtain ⟨rfl, hZ, hh⟩ := hP
  have hx := Bd.exec
  have hby := Bd.bytes
  have hml : c.maxLocals = 1 := hml0
  have hown : s.vm.findClass "java/lang/StringBuilder" = some m.cls := findClass_of_methodNamed Bd.named
  have hnm := (name_of_methodNamed Bd.named Bd.method).1
  have hlk : meth.locks = false := BodyLoose.notSynchronized Bd
  have X0 : Stand p l e ({ frames := 1, cells := 0, slots := 0, locals := 12 } : Room) s m #[(.ref x0)] below meth c s₁ [] 0 0 := Stand.of_body Bd
  have e0 : s₁.heap = h0 := by rw [← hh, Bd.state]; rfl
  have N0 := Fr.nil n0
  obtain ⟨sE, hsE⟩ : ∃ z, z = (s₁.setTop (entryFrame m #[(.ref x0)] 1)) := ⟨_, rfl⟩
  have st0 : Steps p.tables e below sE (s₁.setTop (mkF m 0 #[.val (.ref x0)] [])) := by rw [hsE]; exact castTop (ef_18 m x0) (Steps.refl _)
  have st1 : Steps p.tables e below sE (s₁.setTop (mkF m 1 #[.val (.ref x0)] [(.ref x0)])) := st0.trans (by
      show Steps _ _ _ (s₁.setTop (mkF m 0 #[.val (.ref x0)] [])) _
      refine XS.aloadN X0.here hx rfl (hb hby d18_0) rfl rfl ?_
      exact Steps.refl _)
  obtain ⟨_, _, ⟨T2, L2, k2, n2⟩, -, X2, ⟨Lc2, hQ2, l2, y2, z2⟩, sr2⟩ := superBack X0 hx hZ (y := (⟨"java/lang/AbstractStringBuilder", "length", "()I"⟩ : MethodName)) hown (hw _ (List.mem_of_getElem? (i := 114) rfl)) (own_same (y := (⟨"java/lang/AbstractStringBuilder", "length", "()I"⟩ : MethodName)) (z := (⟨"java/lang/AbstractStringBuilder", "ensureCapacityInternal", "(I)V"⟩ : MethodName)) rfl (notFace_of_selects (hw _ (List.mem_of_getElem? (i := 66) rfl))) (args' := a0) (hw _ (List.mem_of_getElem? (i := 64) rfl)) (by decide) (hw _ (List.mem_of_getElem? (i := 110) rfl))) (hw _ (List.mem_of_getElem? (i := 110) rfl)) (hw _ (List.mem_of_getElem? (i := 46) rfl)) (by decide) (backOf (W := 0) (rm19 l Z a0 hw [] x0 cn h0 n0 Z0 F_n) hZ (hw _ (List.mem_of_getElem? (i := 115) rfl)) (hw _ (List.mem_of_getElem? (i := 14) rfl)) (by decide) (by decide)) e0 (Ins.self E_x) (g := (mkF m 1 #[.val (.ref x0)] [(.ref x0)])) rfl (by rw [hml]; rfl) (hw _ (List.mem_of_getElem? (i := 115) rfl)) (argsL := []) (rest := []) (lenOf pd_5 rfl) rfl (by show 2 * 0 + _ ≤ _; exact Nat.le_of_eq rfl) (hb hby d18_1) (fun _ _ => ⟨rfl, e0, (by decide : 0 + 0 ≤ _), (by decide : 0 + 0 ≤ _)⟩)
  dsimp only [Pt.U, Pt.locs, Pt.cells, Pt.slots] at X2 l2 y2 z2 sr2 hQ2
  subst l2 y2 z2
  obtain ⟨rfl, N2q, hh2⟩ := hQ2
  have N2 := Fr.app N0 N2q
  obtain ⟨LL2, X2, N2⟩ := own_hide X2 N2
  have st3 : Steps p.tables e below sE (T2.setTop (mkF m 4 #[.val (.ref x0)] [(.int cn)])) := st1.trans (sr2)
  obtain ⟨fs, hr, hrun, hended, hW, hsame⟩ := X2.leave (v := some (.int cn)) (fun h => by rw [Bd.returns] at h; cases h) hlk
  refine ⟨_, _, (own_ent hsE st3).trans ?_, hrun, hended, _, _, rfl, ?_, ⟨_, rfl⟩, hW, hsame.mono (by decide) (by decide)⟩
  · exact retI X2 hx Bd.returns (hb hby d18_4) hr
  · show Q18 Z x0 cn h0 n0 _ T2.heap _
    rw [hh2]
    exact ⟨rfl, N2, rfl⟩
theorem d12_0 : decode jdk_68_method_71_code 0 = .ok (.getstatic 18, 3) := by decide +kernel
theorem d12_3 : decode jdk_68_method_71_code 3 = .ok (.ifCond .eq 18, 3) := by decide +kernel
theorem d12_6 : decode jdk_68_method_71_code 6 = .ok (.aload_n 0, 1) := by decide +kernel
theorem d12_7 : decode jdk_68_method_71_code 7 = .ok (.getfield 22, 3) := by decide +kernel
theorem d12_10 : decode jdk_68_method_71_code 10 = .ok (.aload_n 1, 1) := by decide +kernel
theorem d12_11 : decode jdk_68_method_71_code 11 = .ok (.invokevirtual 40, 3) := by decide +kernel
theorem d12_14 : decode jdk_68_method_71_code 14 = .ok (.if_icmp .eq 7, 3) := by decide +kernel
theorem d12_21 : decode jdk_68_method_71_code 21 = .ok (.return_, 1) := by decide +kernel
theorem ef_12 (m : MethodId) (x0 : Addr) (x1 : Addr)  : entryFrame m #[(.ref x0), (.ref x1)] 2 = mkF m 0 #[.val (.ref x0), .val (.ref x1)] [] := by first | (simp [entryFrame, mkF, argsToLocals, Value.category]; done) | rfl
def Q12 (Z : State) (x0 : Addr) (x1 : Addr) (cs : Int32) (h0 : Heap) (n0 : Nat) (vE : Option Value) (hE : Heap) (LE : List Loc) : Prop := vE = none ∧ Fr n0 LE ∧ hE = h0
set_option maxRecDepth 65536 in
set_option maxHeartbeats 40000000 in
theorem rm12 (l : Launch) (Z : State) (a0 : Array Value) (hw : ∀ d ∈ tables_1, d.before a0 Z = true) (ws : List Jvm.Cond) (x0 : Addr) (x1 : Addr) (cs : Int32) (h0 : Heap) (n0 : Nat) (Z0 : n0 ≤ h0.size) (S_c : Sta Z h0 "java/lang/String" "COMPACT_STRINGS" "Z" (.int cs)) (hcs : ¬ cs = (0 : Int32)) (F_c : Fld Z h0 x0 "java/lang/AbstractStringBuilder" "coder" "B" (.int (0 : Int32))) (E_1 : Exa Z h0 x1 "java/lang/String") (F_1 : Fld Z h0 x1 "java/lang/String" "coder" "B" (.int (0 : Int32))) :
    MetFree l (⟨"java/lang/AbstractStringBuilder", "inflateIfNeededFor", "(Ljava/lang/String;)V"⟩ : MethodName) (head1 (Jvm.Cond.code (⟨"java/lang/AbstractStringBuilder", "inflateIfNeededFor", "(Ljava/lang/String;)V"⟩ : MethodName) jdk_68_method_71_code 2 none :: ws) ({ frames := 1, cells := 0, slots := 0, locals := 13 } : Room)) (fun a U => a = #[(.ref x0), (.ref x1)] ∧ Z.Warmed39 U.vm ∧ U.heap = h0) (fun _ _ _ _ _ => True) (fun _ U o U' => ∃ vE LE, o = .returned vE ∧ Q12 Z x0 x1 cs h0 n0 vE U'.heap LE ∧ FrameEnd U o U' LE ({ frames := 1, cells := 0, slots := 0, locals := 13 } : Room).cells ({ frames := 1, cells := 0, slots := 0, locals := 13 } : Room).slots) := by
  refine MetFree.of_bodySF (plainFor_of_name pn_4) hisR ?_
  intro p e s m args below meth c s₁ Bd hml0 hP hK
  obtain ⟨rfl, hZ, hh⟩ := hP
  have hx := Bd.exec
  have hby := Bd.bytes
  have hml : c.maxLocals = 2 := hml0
  have hown : s.vm.findClass "java/lang/AbstractStringBuilder" = some m.cls := findClass_of_methodNamed Bd.named
  have hnm := (name_of_methodNamed Bd.named Bd.method).1
  have hlk : meth.locks = false := BodyLoose.notSynchronized Bd
  have X0 : Stand p l e ({ frames := 1, cells := 0, slots := 0, locals := 13 } : Room) s m #[(.ref x0), (.ref x1)] below meth c s₁ [] 0 0 := Stand.of_body Bd
  have e0 : s₁.heap = h0 := by rw [← hh, Bd.state]; rfl
  have N0 := Fr.nil n0
  obtain ⟨sE, hsE⟩ : ∃ z, z = (s₁.setTop (entryFrame m #[(.ref x0), (.ref x1)] 2)) := ⟨_, rfl⟩
  have st0 : Steps p.tables e below sE (s₁.setTop (mkF m 0 #[.val (.ref x0), .val (.ref x1)] [])) := by rw [hsE]; exact castTop (ef_12 m x0 x1) (Steps.refl _)
  obtain ⟨T1, X1, e1, sr1⟩ := getS2 X0 hx hZ hown (host := "") (Or.inl (hw _ (List.mem_of_getElem? (i := 19) rfl))) Via.refl e0 S_c (g := (mkF m 0 #[.val (.ref x0), .val (.ref x1)] [])) rfl (hb hby d12_0)
  have st2 : Steps p.tables e below sE (T1.setTop (mkF m 3 #[.val (.ref x0), .val (.ref x1)] [(.int cs)])) := st0.trans (sr1 _ (Steps.refl _))
  have hf3 : ¬ (cs = (0 : Int32)) := hcs
  have st4 : Steps p.tables e below sE (T1.setTop (mkF m 7 #[.val (.ref x0), .val (.ref x1)] [(.ref x0)])) := st2.trans (by
      show Steps _ _ _ (T1.setTop (mkF m 3 #[.val (.ref x0), .val (.ref x1)] [(.int cs)])) _
      refine XS.ifNo X1.here hx rfl (hb hby d12_3) rfl ((if0 _ _).trans (feq hf3).1) ?_
      show Steps _ _ _ (T1.setTop (mkF m 6 #[.val (.ref x0), .val (.ref x1)] [])) _
      refine XS.aloadN X1.here hx rfl (hb hby d12_6) rfl rfl ?_
      exact Steps.refl _)
  obtain ⟨T5, X5, e5, sr5⟩ := getF X1 hx hZ hown (host := "") (Or.inl (hw _ (List.mem_of_getElem? (i := 24) rfl))) Via.refl e1 F_c (g := (mkF m 7 #[.val (.ref x0), .val (.ref x1)] [(.ref x0)])) rfl rfl (hb hby d12_7)
  have st6 : Steps p.tables e below sE (T5.setTop (mkF m 10 #[.val (.ref x0), .val (.ref x1)] [(.int (0 : Int32))])) := st4.trans (sr5 _ (Steps.refl _))
  have st7 : Steps p.tables e below sE (T5.setTop (mkF m 11 #[.val (.ref x0), .val (.ref x1)] [(.ref x1), (.int (0 : Int32))])) := st6.trans (by
      show Steps _ _ _ (T5.setTop (mkF m 10 #[.val (.ref x0), .val (.ref x1)] [(.int (0 : Int32))])) _
      refine XS.aloadN X5.here hx rfl (hb hby d12_10) rfl rfl ?_
      exact Steps.refl _)
  obtain ⟨cq8, kq8, q8a, q8b, q8c⟩ := isOf hZ e5 E_1
  obtain ⟨_, _, ⟨T8, L8, k8, n8⟩, -, X8, ⟨Lc8, hQ8, l8, y8, z8⟩, sr8⟩ := X5.virtualBack hx (y := (⟨"java/lang/String", "coder", "()B"⟩ : MethodName)) (z := (⟨"java/lang/String", "coder", "()B"⟩ : MethodName)) hown (mvT hZ (hw _ (List.mem_of_getElem? (i := 78) rfl))) (mvT hZ (hw _ (List.mem_of_getElem? (i := 55) rfl))) (notFace_of_selects (args := #[]) (mvT hZ (hw _ (List.mem_of_getElem? (i := 57) rfl)))) (mvT hZ (hw _ (List.mem_of_getElem? (i := 57) rfl))) (mvT hZ (hw _ (List.mem_of_getElem? (i := 56) rfl))) (by decide) (backOf (W := 1) (rm9 l Z a0 hw [] x1 cs h0 n0 Z0 S_c hcs F_1) hZ (hw _ (List.mem_of_getElem? (i := 58) rfl)) (hw _ (List.mem_of_getElem? (i := 20) rfl)) (by decide) (by decide)) q8a q8c (g := (mkF m 11 #[.val (.ref x0), .val (.ref x1)] [(.ref x1), (.int (0 : Int32))])) rfl (by rw [hml]; rfl) (Steps.refl _) (argsL := []) (rest := [(.int (0 : Int32))]) (lenOf pd_0 rfl) rfl (by show 2 * 0 + _ ≤ _; exact Nat.le_of_eq rfl) (hb hby d12_11) (fun _ _ => ⟨rfl, e5, (by decide : 0 + 0 ≤ _), (by decide : 0 + 0 ≤ _)⟩)
  dsimp only [Pt.U, Pt.locs, Pt.cells, Pt.slots] at X8 l8 y8 z8 sr8 hQ8
  subst l8 y8 z8
  obtain ⟨rfl, N8q, hh8⟩ := hQ8
  have N8 := Fr.app N0 N8q
  obtain ⟨LL8, X8, N8⟩ := own_hide X8 N8
  have st9 : Steps p.tables e below sE (T8.setTop (mkF m 14 #[.val (.ref x0), .val (.ref x1)] [(.int (nar .byte (0 : Int32))), (.int (0 : Int32))])) := st7.trans (sr8)
  have hf10 : (0 : Int32) = (nar .byte (0 : Int32)) := rfl
  have st11 : Steps p.tables e below sE (T8.setTop (mkF m 21 #[.val (.ref x0), .val (.ref x1)] [])) := st9.trans (by
      show Steps _ _ _ (T8.setTop (mkF m 14 #[.val (.ref x0), .val (.ref x1)] [(.int (nar .byte (0 : Int32))), (.int (0 : Int32))])) _
      refine XS.icmpYes X8.here hx rfl (pc0 := 14) (pc' := 21) rfl (hb hby d12_14) rfl (teq hf10).1 (by decide) (by decide) ?_
      exact Steps.refl _)
  obtain ⟨fs, hr, hrun, hended, hW, hsame⟩ := X8.leave (v := none) (fun _ => rfl) hlk
  refine ⟨_, _, (own_ent hsE st11).trans ?_, hrun, hended, _, _, rfl, ?_, ⟨_, rfl⟩, hW, hsame.mono (by decide) (by decide)⟩
  · exact X8.returnOut hx Bd.returns (hb hby d12_21) hr
  · show Q12 Z x0 x1 cs h0 n0 _ T8.heap _
    rw [hh8]
    exact ⟨rfl, N8, rfl⟩
theorem d3_0 : decode jdk_68_method_2_code 0 = .ok (.aload_n 0, 1) := by decide +kernel
theorem d3_1 : decode jdk_68_method_2_code 1 = .ok (.invokespecial 3, 3) := by decide +kernel
theorem d3_4 : decode jdk_68_method_2_code 4 = .ok (.getstatic 18, 3) := by decide +kernel
theorem d3_7 : decode jdk_68_method_2_code 7 = .ok (.ifCond .eq 18, 3) := by decide +kernel
theorem d3_10 : decode jdk_68_method_2_code 10 = .ok (.aload_n 0, 1) := by decide +kernel
theorem d3_11 : decode jdk_68_method_2_code 11 = .ok (.iload_n 1, 1) := by decide +kernel
theorem d3_12 : decode jdk_68_method_2_code 12 = .ok (.newarray .byte, 2) := by decide +kernel
theorem d3_14 : decode jdk_68_method_2_code 14 = .ok (.putfield 15, 3) := by decide +kernel
theorem d3_17 : decode jdk_68_method_2_code 17 = .ok (.aload_n 0, 1) := by decide +kernel
theorem d3_18 : decode jdk_68_method_2_code 18 = .ok (.iconst 0, 1) := by decide +kernel
theorem d3_19 : decode jdk_68_method_2_code 19 = .ok (.putfield 22, 3) := by decide +kernel
theorem d3_22 : decode jdk_68_method_2_code 22 = .ok (.goto 16, 3) := by decide +kernel
theorem d3_38 : decode jdk_68_method_2_code 38 = .ok (.return_, 1) := by decide +kernel
theorem ef_3 (m : MethodId) (x0 : Addr)  : entryFrame m #[(.ref x0), (.int (16 : Int32))] 2 = mkF m 0 #[.val (.ref x0), .val (.int (16 : Int32))] [] := by first | (simp [entryFrame, mkF, argsToLocals, Value.category]; done) | rfl
def Q3 (Z : State) (x0 : Addr) (cs : Int32) (h0 : Heap) (n0 : Nat) (vE : Option Value) (hE : Heap) (LE : List Loc) : Prop := vE = none ∧ Fr n0 LE ∧ Keep h0 hE [x0] ∧ Exa Z hE x0 "java/lang/StringBuilder" ∧ Fld Z hE x0 "java/lang/AbstractStringBuilder" "coder" "B" (.int (0 : Int32)) ∧ Fld Z hE x0 "java/lang/AbstractStringBuilder" "count" "I" (.int (0 : Int32)) ∧ (∃ (aV : Addr) (kV : ClassId), Fld Z hE x0 "java/lang/AbstractStringBuilder" "value" "[B" (.ref aV) ∧ Exa Z hE aV "[B" ∧ Arv Z hE aV kV .byte (16 : Int32) [(.int (0 : Int32)), (.int (0 : Int32)), (.int (0 : Int32)), (.int (0 : Int32)), (.int (0 : Int32)), (.int (0 : Int32)), (.int (0 : Int32)), (.int (0 : Int32)), (.int (0 : Int32)), (.int (0 : Int32)), (.int (0 : Int32)), (.int (0 : Int32)), (.int (0 : Int32)), (.int (0 : Int32)), (.int (0 : Int32)), (.int (0 : Int32))] (.int (0 : Int32)) ∧ n0 ≤ aV ∧ x0 ≠ aV ∧ h0.size ≤ aV)
set_option maxRecDepth 65536 in
set_option maxHeartbeats 40000000 in
theorem rm3 (l : Launch) (Z : State) (a0 : Array Value) (hw : ∀ d ∈ tables_1, d.before a0 Z = true) (ws : List Jvm.Cond) (x0 : Addr) (cs : Int32) (h0 : Heap) (n0 : Nat) (Z0 : n0 ≤ h0.size) (S_c : Sta Z h0 "java/lang/String" "COMPACT_STRINGS" "Z" (.int cs)) (hcs : ¬ cs = (0 : Int32)) (E_x : Exa Z h0 x0 "java/lang/StringBuilder") (F_v : Fld Z h0 x0 "java/lang/AbstractStringBuilder" "value" "[B" .null) (F_c : Fld Z h0 x0 "java/lang/AbstractStringBuilder" "coder" "B" (.int (0 : Int32))) (F_n : Fld Z h0 x0 "java/lang/AbstractStringBuilder" "count" "I" (.int (0 : Int32))) (g_x : n0 ≤ x0) :
    MetFree l (⟨"java/lang/AbstractStringBuilder", "<init>", "(I)V"⟩ : MethodName) (head1 (Jvm.Cond.code (⟨"java/lang/AbstractStringBuilder", "<init>", "(I)V"⟩ : MethodName) jdk_68_method_2_code 2 none :: ws) ({ frames := 1, cells := 1, slots := 16, locals := 12 } : Room)) (fun a U => a = #[(.ref x0), (.int (16 : Int32))] ∧ Z.Warmed39 U.vm ∧ U.heap = h0) (fun _ _ _ _ _ => True) (fun _ U o U' => ∃ vE LE, o = .returned vE ∧ Q3 Z x0 cs h0 n0 vE U'.heap LE ∧ FrameEnd U o U' LE ({ frames := 1, cells := 1, slots := 16, locals := 12 } : Room).cells ({ frames := 1, cells := 1, slots := 16, locals := 12 } : Room).slots) := by
  refine MetFree.of_bodySF (plainFor_of_name pn_4) hisR ?_
  intro p e s m args below meth c s₁ Bd hml0 hP hK
  obtain ⟨rfl, hZ, hh⟩ := hP
  have hx := Bd.exec
  have hby := Bd.bytes
  have hml : c.maxLocals = 2 := hml0
  have hown : s.vm.findClass "java/lang/AbstractStringBuilder" = some m.cls := findClass_of_methodNamed Bd.named
  have hnm := (name_of_methodNamed Bd.named Bd.method).1
  have hlk : meth.locks = false := BodyLoose.notSynchronized Bd
  have X0 : Stand p l e ({ frames := 1, cells := 1, slots := 16, locals := 12 } : Room) s m #[(.ref x0), (.int (16 : Int32))] below meth c s₁ [] 0 0 := Stand.of_body Bd
  have e0 : s₁.heap = h0 := by rw [← hh, Bd.state]; rfl
  have N0 := Fr.nil n0
  obtain ⟨sE, hsE⟩ : ∃ z, z = (s₁.setTop (entryFrame m #[(.ref x0), (.int (16 : Int32))] 2)) := ⟨_, rfl⟩
  have st0 : Steps p.tables e below sE (s₁.setTop (mkF m 0 #[.val (.ref x0), .val (.int (16 : Int32))] [])) := by rw [hsE]; exact castTop (ef_3 m x0) (Steps.refl _)
  have K0 : Keep h0 h0 [x0] := Keep.refl _ _
  have st1 : Steps p.tables e below sE (s₁.setTop (mkF m 1 #[.val (.ref x0), .val (.int (16 : Int32))] [(.ref x0)])) := st0.trans (by
      show Steps _ _ _ (s₁.setTop (mkF m 0 #[.val (.ref x0), .val (.int (16 : Int32))] [])) _
      refine XS.aloadN X0.here hx rfl (hb hby d3_0) rfl rfl ?_
      exact Steps.refl _)
  obtain ⟨T2, X2, e2, sr2⟩ := initO X0 hx hZ hown (hw _ (List.mem_of_getElem? (i := 16) rfl)) (hw _ (List.mem_of_getElem? (i := 17) rfl)) (hw _ (List.mem_of_getElem? (i := 18) rfl)) e0 (g := (mkF m 1 #[.val (.ref x0), .val (.int (16 : Int32))] [(.ref x0)])) rfl (by rw [hml]; rfl) rfl (hb hby d3_1) (by decide) (W := 0) (by show 2 * 0 + _ ≤ _; exact Nat.le_of_eq rfl) (by decide)
  have st3 : Steps p.tables e below sE (T2.setTop (mkF m 4 #[.val (.ref x0), .val (.int (16 : Int32))] [])) := st1.trans (sr2 _ (Steps.refl _))
  obtain ⟨T4, X4, e4, sr4⟩ := getS2 X2 hx hZ hown (host := "") (Or.inl (hw _ (List.mem_of_getElem? (i := 19) rfl))) Via.refl e2 S_c (g := (mkF m 4 #[.val (.ref x0), .val (.int (16 : Int32))] [])) rfl (hb hby d3_4)
  have st5 : Steps p.tables e below sE (T4.setTop (mkF m 7 #[.val (.ref x0), .val (.int (16 : Int32))] [(.int cs)])) := st3.trans (sr4 _ (Steps.refl _))
  have hf6 : ¬ (cs = (0 : Int32)) := hcs
  have st7 : Steps p.tables e below sE (T4.setTop (mkF m 12 #[.val (.ref x0), .val (.int (16 : Int32))] [(.int (16 : Int32)), (.ref x0)])) := st5.trans (by
      show Steps _ _ _ (T4.setTop (mkF m 7 #[.val (.ref x0), .val (.int (16 : Int32))] [(.int cs)])) _
      refine XS.ifNo X4.here hx rfl (hb hby d3_7) rfl ((if0 _ _).trans (feq hf6).1) ?_
      show Steps _ _ _ (T4.setTop (mkF m 10 #[.val (.ref x0), .val (.int (16 : Int32))] [])) _
      refine XS.aloadN X4.here hx rfl (hb hby d3_10) rfl rfl ?_
      show Steps _ _ _ (T4.setTop (mkF m 11 #[.val (.ref x0), .val (.int (16 : Int32))] [(.ref x0)])) _
      refine XS.iloadN X4.here hx rfl (hb hby d3_11) rfl ?_
      exact Steps.refl _)
  obtain ⟨T8, h8, k8, X8, e8, E8, A8, Q8, sr8⟩ := newPE X4 hx hZ (hw _ (List.mem_of_getElem? (i := 21) rfl)) e4 (g := (mkF m 12 #[.val (.ref x0), .val (.int (16 : Int32))] [(.int (16 : Int32)), (.ref x0)])) rfl (hb hby d3_12) rfl (by decide) (cap := 16) (by decide) (by decide) (by decide) (by decide) (ad := "[B") (by decide)
  obtain ⟨b8, g8⟩ : ∃ z, z = h0.size := ⟨_, rfl⟩
  rw [← g8] at A8 Q8 sr8
  have g_b8 : n0 ≤ b8 := Nat.le_trans Z0 (Nat.le_of_eq g8.symm)
  have sz_b8 : h0.size ≤ b8 := Nat.le_trans K0.1 (Nat.le_of_eq g8.symm)
  have ne_x0_b8 : x0 ≠ b8 := Nat.ne_of_lt (Nat.lt_of_lt_of_le E_x.lt (Nat.le_of_eq g8.symm))
  have f9 : Sta Z h8 "java/lang/String" "COMPACT_STRINGS" "Z" (.int cs) := S_c.ext E8
  have f10 : Exa Z h8 x0 "java/lang/StringBuilder" := E_x.ext E8
  have f11 : Fld Z h8 x0 "java/lang/AbstractStringBuilder" "value" "[B" .null := F_v.ext E8
  have f12 : Fld Z h8 x0 "java/lang/AbstractStringBuilder" "coder" "B" (.int (0 : Int32)) := F_c.ext E8
  have f13 : Fld Z h8 x0 "java/lang/AbstractStringBuilder" "count" "I" (.int (0 : Int32)) := F_n.ext E8
  have K14 : Keep h0 h8 [x0] := K0.ext E8
  have f15 : Arv Z h8 b8 k8 .byte (16 : Int32) [(.int (0 : Int32)), (.int (0 : Int32)), (.int (0 : Int32)), (.int (0 : Int32)), (.int (0 : Int32)), (.int (0 : Int32)), (.int (0 : Int32)), (.int (0 : Int32)), (.int (0 : Int32)), (.int (0 : Int32)), (.int (0 : Int32)), (.int (0 : Int32)), (.int (0 : Int32)), (.int (0 : Int32)), (.int (0 : Int32)), (.int (0 : Int32))] (.int (0 : Int32)) := (Arv.new A8 (by decide)).pad (pad_rep [] (.int (0 : Int32)) 16)
  have Z8 : n0 ≤ h8.size := Nat.le_trans Z0 E8.1
  have st16 : Steps p.tables e below sE (T8.setTop (mkF m 14 #[.val (.ref x0), .val (.int (16 : Int32))] [(.ref b8), (.ref x0)])) := st7.trans (sr8 _ (Steps.refl _))
  obtain ⟨T17, h17, X17, e17, W17, sr17⟩ := putF X8 hx hZ hown (host := "") (Or.inl (hw _ (List.mem_of_getElem? (i := 22) rfl))) Via.refl e8 f11 f10 (Or.inl (hw _ (List.mem_of_getElem? (i := 23) rfl))) (hw _ (List.mem_of_getElem? (i := 5) rfl)) (ty := (.array .byte)) (by decide) rfl rfl (g := (mkF m 14 #[.val (.ref x0), .val (.int (16 : Int32))] [(.ref b8), (.ref x0)])) rfl rfl (hb hby d3_14)
  have f18 : Sta Z h17 "java/lang/String" "COMPACT_STRINGS" "Z" (.int cs) := f9.wr W17
  have f19 : Exa Z h17 x0 "java/lang/StringBuilder" := f10.wr W17
  have f20 : Fld Z h17 x0 "java/lang/AbstractStringBuilder" "coder" "B" (.int (0 : Int32)) := f12.other W17 (Or.inr (slot_ne (Or.inl (hw _ (List.mem_of_getElem? (i := 25) rfl))) (Or.inl (hw _ (List.mem_of_getElem? (i := 23) rfl))) (by decide) (t := .byte) (t' := (.array .byte)) (by decide) (by decide)))
  have f21 : Fld Z h17 x0 "java/lang/AbstractStringBuilder" "count" "I" (.int (0 : Int32)) := f13.other W17 (Or.inr (slot_ne (Or.inl (hw _ (List.mem_of_getElem? (i := 62) rfl))) (Or.inl (hw _ (List.mem_of_getElem? (i := 23) rfl))) (by decide) (t := .int) (t' := (.array .byte)) (by decide) (by decide)))
  have f22 : Arv Z h17 b8 k8 .byte (16 : Int32) [(.int (0 : Int32)), (.int (0 : Int32)), (.int (0 : Int32)), (.int (0 : Int32)), (.int (0 : Int32)), (.int (0 : Int32)), (.int (0 : Int32)), (.int (0 : Int32)), (.int (0 : Int32)), (.int (0 : Int32)), (.int (0 : Int32)), (.int (0 : Int32)), (.int (0 : Int32)), (.int (0 : Int32)), (.int (0 : Int32)), (.int (0 : Int32))] (.int (0 : Int32)) := f15.other W17 (Ne.symm ne_x0_b8)
  have f23 : Exa Z h17 b8 "[B" := Q8.wr W17
  have f24 : Fld Z h17 x0 "java/lang/AbstractStringBuilder" "value" "[B" (.ref b8) := f11.same W17
  have K25 : Keep h0 h17 [x0] := K14.wr W17 (Or.inl (List.mem_of_getElem? (i := 0) rfl))
  have Z17 : n0 ≤ h17.size := Nat.le_trans Z8 (Keep.of_wr W17).1
  have N17 := Fr.snoc X17 N0 g_x
  obtain ⟨LL17, X17, N17⟩ := own_hide X17 N17
  have st26 : Steps p.tables e below sE (T17.setTop (mkF m 17 #[.val (.ref x0), .val (.int (16 : Int32))] [])) := st16.trans (sr17 _ (Steps.refl _))
  have st27 : Steps p.tables e below sE (T17.setTop (mkF m 19 #[.val (.ref x0), .val (.int (16 : Int32))] [(.int (0 : Int32)), (.ref x0)])) := st26.trans (by
      show Steps _ _ _ (T17.setTop (mkF m 17 #[.val (.ref x0), .val (.int (16 : Int32))] [])) _
      refine XS.aloadN X17.here hx rfl (hb hby d3_17) rfl rfl ?_
      show Steps _ _ _ (T17.setTop (mkF m 18 #[.val (.ref x0), .val (.int (16 : Int32))] [(.ref x0)])) _
      refine XS.iconst X17.here hx rfl (hb hby d3_18) ?_
      exact Steps.refl _)
  obtain ⟨T28, h28, X28, e28, W28, sr28⟩ := putF X17 hx hZ hown (host := "") (Or.inl (hw _ (List.mem_of_getElem? (i := 24) rfl))) Via.refl e17 f20 f19 (Or.inl (hw _ (List.mem_of_getElem? (i := 25) rfl))) (hw _ (List.mem_of_getElem? (i := 5) rfl)) (ty := .byte) (by decide) rfl rfl (g := (mkF m 19 #[.val (.ref x0), .val (.int (16 : Int32))] [(.int (0 : Int32)), (.ref x0)])) rfl rfl (hb hby d3_19)
  have f29 : Sta Z h28 "java/lang/String" "COMPACT_STRINGS" "Z" (.int cs) := f18.wr W28
  have f30 : Exa Z h28 x0 "java/lang/StringBuilder" := f19.wr W28
  have f31 : Fld Z h28 x0 "java/lang/AbstractStringBuilder" "count" "I" (.int (0 : Int32)) := f21.other W28 (Or.inr (slot_ne (Or.inl (hw _ (List.mem_of_getElem? (i := 62) rfl))) (Or.inl (hw _ (List.mem_of_getElem? (i := 25) rfl))) (by decide) (t := .int) (t' := .byte) (by decide) (by decide)))
  have f32 : Arv Z h28 b8 k8 .byte (16 : Int32) [(.int (0 : Int32)), (.int (0 : Int32)), (.int (0 : Int32)), (.int (0 : Int32)), (.int (0 : Int32)), (.int (0 : Int32)), (.int (0 : Int32)), (.int (0 : Int32)), (.int (0 : Int32)), (.int (0 : Int32)), (.int (0 : Int32)), (.int (0 : Int32)), (.int (0 : Int32)), (.int (0 : Int32)), (.int (0 : Int32)), (.int (0 : Int32))] (.int (0 : Int32)) := f22.other W28 (Ne.symm ne_x0_b8)
  have f33 : Exa Z h28 b8 "[B" := f23.wr W28
  have f34 : Fld Z h28 x0 "java/lang/AbstractStringBuilder" "value" "[B" (.ref b8) := f24.other W28 (Or.inr (slot_ne (Or.inl (hw _ (List.mem_of_getElem? (i := 23) rfl))) (Or.inl (hw _ (List.mem_of_getElem? (i := 25) rfl))) (by decide) (t := (.array .byte)) (t' := .byte) (by decide) (by decide)))
  have f35 : Fld Z h28 x0 "java/lang/AbstractStringBuilder" "coder" "B" (.int (0 : Int32)) := f20.same W28
  have K36 : Keep h0 h28 [x0] := K25.wr W28 (Or.inl (List.mem_of_getElem? (i := 0) rfl))
  have Z28 : n0 ≤ h28.size := Nat.le_trans Z17 (Keep.of_wr W28).1
  have N28 := Fr.snoc X28 N17 g_x
  obtain ⟨LL28, X28, N28⟩ := own_hide X28 N28
  have st37 : Steps p.tables e below sE (T28.setTop (mkF m 22 #[.val (.ref x0), .val (.int (16 : Int32))] [])) := st27.trans (sr28 _ (Steps.refl _))
  have st38 : Steps p.tables e below sE (T28.setTop (mkF m 38 #[.val (.ref x0), .val (.int (16 : Int32))] [])) := st37.trans (by
      show Steps _ _ _ (T28.setTop (mkF m 22 #[.val (.ref x0), .val (.int (16 : Int32))] [])) _
      refine XS.goto X28.here hx rfl (pc0 := 22) (pc' := 38) rfl (hb hby d3_22) (by decide) (by decide) ?_
      exact Steps.refl _)
  obtain ⟨fs, hr, hrun, hended, hW, hsame⟩ := X28.leave (v := none) (fun _ => rfl) hlk
  refine ⟨_, _, (own_ent hsE st38).trans ?_, hrun, hended, _, _, rfl, ?_, ⟨_, rfl⟩, hW, hsame.mono (by decide) (by decide)⟩
  · exact X28.returnOut hx Bd.returns (hb hby d3_38) hr
  · show Q3 Z x0 cs h0 n0 _ T28.heap _
    rw [e28]
    exact ⟨rfl, N28, K36, f30, f35, f31, ⟨b8, _, f34, f33, f32, g_b8, ne_x0_b8, sz_b8⟩⟩
theorem pd_6 : parseMethodDescriptor "(I)V" = some ⟨[.int], none⟩ := by decide +kernel
theorem d2_0 : decode jdk_67_method_1_code 0 = .ok (.aload_n 0, 1) := by decide +kernel
theorem d2_1 : decode jdk_67_method_1_code 1 = .ok (.bipush 16, 2) := by decide +kernel
theorem d2_3 : decode jdk_67_method_1_code 3 = .ok (.invokespecial 1, 3) := by decide +kernel
theorem d2_6 : decode jdk_67_method_1_code 6 = .ok (.return_, 1) := by decide +kernel
theorem ef_2 (m : MethodId) (x0 : Addr)  : entryFrame m #[(.ref x0)] 1 = mkF m 0 #[.val (.ref x0)] [] := by first | (simp [entryFrame, mkF, argsToLocals, Value.category]; done) | rfl
def Q2 (Z : State) (x0 : Addr) (cs : Int32) (h0 : Heap) (n0 : Nat) (vE : Option Value) (hE : Heap) (LE : List Loc) : Prop := vE = none ∧ Fr n0 LE ∧ Keep h0 hE [x0] ∧ Exa Z hE x0 "java/lang/StringBuilder" ∧ Fld Z hE x0 "java/lang/AbstractStringBuilder" "coder" "B" (.int (0 : Int32)) ∧ Fld Z hE x0 "java/lang/AbstractStringBuilder" "count" "I" (.int (0 : Int32)) ∧ (∃ (aV : Addr) (kV : ClassId), Fld Z hE x0 "java/lang/AbstractStringBuilder" "value" "[B" (.ref aV) ∧ Exa Z hE aV "[B" ∧ Arv Z hE aV kV .byte (16 : Int32) [(.int (0 : Int32)), (.int (0 : Int32)), (.int (0 : Int32)), (.int (0 : Int32)), (.int (0 : Int32)), (.int (0 : Int32)), (.int (0 : Int32)), (.int (0 : Int32)), (.int (0 : Int32)), (.int (0 : Int32)), (.int (0 : Int32)), (.int (0 : Int32)), (.int (0 : Int32)), (.int (0 : Int32)), (.int (0 : Int32)), (.int (0 : Int32))] (.int (0 : Int32)) ∧ n0 ≤ aV ∧ x0 ≠ aV ∧ h0.size ≤ aV)
set_option maxRecDepth 65536 in
set_option maxHeartbeats 40000000 in
theorem rm2 (l : Launch) (Z : State) (a0 : Array Value) (hw : ∀ d ∈ tables_1, d.before a0 Z = true) (ws : List Jvm.Cond) (x0 : Addr) (cs : Int32) (h0 : Heap) (n0 : Nat) (Z0 : n0 ≤ h0.size) (S_c : Sta Z h0 "java/lang/String" "COMPACT_STRINGS" "Z" (.int cs)) (hcs : ¬ cs = (0 : Int32)) (E_x : Exa Z h0 x0 "java/lang/StringBuilder") (F_v : Fld Z h0 x0 "java/lang/AbstractStringBuilder" "value" "[B" .null) (F_c : Fld Z h0 x0 "java/lang/AbstractStringBuilder" "coder" "B" (.int (0 : Int32))) (F_n : Fld Z h0 x0 "java/lang/AbstractStringBuilder" "count" "I" (.int (0 : Int32))) (g_x : n0 ≤ x0) :
    MetFree l (⟨"java/lang/StringBuilder", "<init>", "()V"⟩ : MethodName) (head1 (Jvm.Cond.code (⟨"java/lang/StringBuilder", "<init>", "()V"⟩ : MethodName) jdk_67_method_1_code 1 none :: ws) ({ frames := 2, cells := 1, slots := 16, locals := 25 } : Room)) (fun a U => a = #[(.ref x0)] ∧ Z.Warmed39 U.vm ∧ U.heap = h0) (fun _ _ _ _ _ => True) (fun _ U o U' => ∃ vE LE, o = .returned vE ∧ Q2 Z x0 cs h0 n0 vE U'.heap LE ∧ FrameEnd U o U' LE ({ frames := 2, cells := 1, slots := 16, locals := 25 } : Room).cells ({ frames := 2, cells := 1, slots := 16, locals := 25 } : Room).slots) := by
  refine MetFree.of_bodySF (plainFor_of_name pn_5) hisR ?_
  intro p e s m args below meth c s₁ Bd hml0 hP hK
  obtain ⟨rfl, hZ, hh⟩ := hP
  have hx := Bd.exec
  have hby := Bd.bytes
  have hml : c.maxLocals = 1 := hml0
  have hown : s.vm.findClass "java/lang/StringBuilder" = some m.cls := findClass_of_methodNamed Bd.named
  have hnm := (name_of_methodNamed Bd.named Bd.method).1
  have hlk : meth.locks = false := BodyLoose.notSynchronized Bd
  have X0 : Stand p l e ({ frames := 2, cells := 1, slots := 16, locals := 25 } : Room) s m #[(.ref x0)] below meth c s₁ [] 0 0 := Stand.of_body Bd
  have e0 : s₁.heap = h0 := by rw [← hh, Bd.state]; rfl
  have N0 := Fr.nil n0
  obtain ⟨sE, hsE⟩ : ∃ z, z = (s₁.setTop (entryFrame m #[(.ref x0)] 1)) := ⟨_, rfl⟩
  have st0 : Steps p.tables e below sE (s₁.setTop (mkF m 0 #[.val (.ref x0)] [])) := by rw [hsE]; exact castTop (ef_2 m x0) (Steps.refl _)
  have K0 : Keep h0 h0 [x0] := Keep.refl _ _
  have st1 : Steps p.tables e below sE (s₁.setTop (mkF m 3 #[.val (.ref x0)] [(.int (16 : Int32)), (.ref x0)])) := st0.trans (by
      show Steps _ _ _ (s₁.setTop (mkF m 0 #[.val (.ref x0)] [])) _
      refine XS.aloadN X0.here hx rfl (hb hby d2_0) rfl rfl ?_
      show Steps _ _ _ (s₁.setTop (mkF m 1 #[.val (.ref x0)] [(.ref x0)])) _
      refine XS.bipush X0.here hx rfl (hb hby d2_1) ?_
      exact Steps.refl _)
  obtain ⟨_, _, ⟨T2, L2, k2, n2⟩, -, X2, ⟨Lc2, hQ2, l2, y2, z2⟩, sr2⟩ := X0.specialBack hx (y := (⟨"java/lang/AbstractStringBuilder", "<init>", "(I)V"⟩ : MethodName)) rfl hown (mvT hZ (hw _ (List.mem_of_getElem? (i := 10) rfl))) (mvT hZ (hw _ (List.mem_of_getElem? (i := 11) rfl))) (mvT hZ (hw _ (List.mem_of_getElem? (i := 15) rfl))) (by decide) (backOf (W := 0) (rm3 l Z a0 hw [] x0 cs h0 n0 Z0 S_c hcs E_x F_v F_c F_n g_x) hZ (hw _ (List.mem_of_getElem? (i := 15) rfl)) (hw _ (List.mem_of_getElem? (i := 14) rfl)) (by decide) (by decide)) (g := (mkF m 3 #[.val (.ref x0)] [(.int (16 : Int32)), (.ref x0)])) rfl (by rw [hml]; rfl) (Steps.refl _) (a := x0) (argsL := [(.int (16 : Int32))]) (rest := []) (lenOf pd_6 rfl) rfl (by show 2 * 0 + _ ≤ _; exact Nat.le_of_eq rfl) (hb hby d2_3) (fun _ _ => ⟨rfl, e0, (by decide : 0 + 1 ≤ _), (by decide : 0 + 16 ≤ _)⟩)
  dsimp only [Pt.U, Pt.locs, Pt.cells, Pt.slots] at X2 l2 y2 z2 sr2 hQ2
  subst l2 y2 z2
  obtain ⟨rfl, N2q, K2c, f2_0, f2_1, f2_2, ⟨aV, kV, qv, qe, qa, qg, qn, sz_aV⟩⟩ := hQ2
  have N2 := Fr.app N0 N2q
  obtain ⟨LL2, X2, N2⟩ := own_hide X2 N2
  have f3 : Sta Z T2.heap "java/lang/String" "COMPACT_STRINGS" "Z" (.int cs) := own_sta_keep S_c K2c (allS (own_ns E_x) all0)
  have f4 : Exa Z T2.heap x0 "java/lang/StringBuilder" := E_x.keep K2c
  have K5 : Keep h0 T2.heap [x0] := K0.trans K2c (allS (Or.inl (List.mem_of_getElem? (i := 0) rfl)) all0)
  have Z6 : n0 ≤ T2.heap.size := Nat.le_trans Z0 K2c.1
  have st7 : Steps p.tables e below sE (T2.setTop (mkF m 6 #[.val (.ref x0)] [])) := st1.trans (sr2)
  obtain ⟨fs, hr, hrun, hended, hW, hsame⟩ := X2.leave (v := none) (fun _ => rfl) hlk
  refine ⟨_, _, (own_ent hsE st7).trans ?_, hrun, hended, _, _, rfl, ?_, ⟨_, rfl⟩, hW, hsame.mono (by decide) (by decide)⟩
  · exact X2.returnOut hx Bd.returns (hb hby d2_6) hr
  · show Q2 Z x0 cs h0 n0 _ T2.heap _
    exact ⟨rfl, N2, K5, f2_0, f2_1, f2_2, ⟨aV, _, qv, qe, qa, qg, qn, sz_aV⟩⟩
theorem pd_7 : parseMethodDescriptor "(II)I" = some ⟨[.int, .int], some .int⟩ := by decide +kernel
theorem d34_0 : decode jdk_48_method_27_code 0 = .ok (.iload_n 0, 1) := by decide +kernel
theorem d34_1 : decode jdk_48_method_27_code 1 = .ok (.iload_n 1, 1) := by decide +kernel
theorem d34_2 : decode jdk_48_method_27_code 2 = .ok (.iload_n 2, 1) := by decide +kernel
theorem d34_3 : decode jdk_48_method_27_code 3 = .ok (.invokestatic 194, 3) := by decide +kernel
theorem d34_6 : decode jdk_48_method_27_code 6 = .ok (.iadd, 1) := by decide +kernel
theorem d34_7 : decode jdk_48_method_27_code 7 = .ok (.istore_n 3, 1) := by decide +kernel
theorem d34_8 : decode jdk_48_method_27_code 8 = .ok (.iconst 0, 1) := by decide +kernel
theorem d34_9 : decode jdk_48_method_27_code 9 = .ok (.iload_n 3, 1) := by decide +kernel
theorem d34_10 : decode jdk_48_method_27_code 10 = .ok (.if_icmp .ge 11, 3) := by decide +kernel
theorem d34_13 : decode jdk_48_method_27_code 13 = .ok (.iload_n 3, 1) := by decide +kernel
theorem d34_14 : decode jdk_48_method_27_code 14 = .ok (.ldc 200, 2) := by decide +kernel
theorem d34_16 : decode jdk_48_method_27_code 16 = .ok (.if_icmp .gt 5, 3) := by decide +kernel
theorem d34_19 : decode jdk_48_method_27_code 19 = .ok (.iload_n 3, 1) := by decide +kernel
theorem d34_20 : decode jdk_48_method_27_code 20 = .ok (.ireturn, 1) := by decide +kernel
theorem pn_6 : plainName "jdk/internal/util/ArraysSupport" = true := by first | (simp [plainName, overriddenIn]; done) | decide +kernel
theorem ef_34 (m : MethodId) (x0 : Int32) (x1 : Int32) (x2 : Int32)  : entryFrame m #[(.int x0), (.int x1), (.int x2)] 4 = mkF m 0 #[.val (.int x0), .val (.int x1), .val (.int x2), .unset] [] := by first | (simp [entryFrame, mkF, argsToLocals, Value.category]; done) | rfl
def Q34 (Z : State) (x0 : Int32) (x1 : Int32) (x2 : Int32) (h0 : Heap) (n0 : Nat) (vE : Option Value) (hE : Heap) (LE : List Loc) : Prop := vE = some (.int (x0 + (F35 x1 x2))) ∧ Fr n0 LE ∧ hE = h0
set_option maxRecDepth 65536 in
set_option maxHeartbeats 40000000 in
theorem rm34 (l : Launch) (Z : State) (a0 : Array Value) (hw : ∀ d ∈ tables_1, d.before a0 Z = true) (ws : List Jvm.Cond) (x0 : Int32) (x1 : Int32) (x2 : Int32) (h0 : Heap) (n0 : Nat) (Z0 : n0 ≤ h0.size) (hpo : (0 : Int32) < (x0 + (F35 x1 x2))) (hsm : ¬ (2147483639 : Int32) < (x0 + (F35 x1 x2))) :
    MetFree l (⟨"jdk/internal/util/ArraysSupport", "newLength", "(III)I"⟩ : MethodName) (head1 (Jvm.Cond.code (⟨"jdk/internal/util/ArraysSupport", "newLength", "(III)I"⟩ : MethodName) jdk_48_method_27_code 4 (some .int) :: ws) ({ frames := 1, cells := 0, slots := 0, locals := 14 } : Room)) (fun a U => a = #[(.int x0), (.int x1), (.int x2)] ∧ Z.Warmed39 U.vm ∧ U.heap = h0) (fun _ _ _ _ _ => True) (fun _ U o U' => ∃ vE LE, o = .returned vE ∧ Q34 Z x0 x1 x2 h0 n0 vE U'.heap LE ∧ FrameEnd U o U' LE ({ frames := 1, cells := 0, slots := 0, locals := 14 } : Room).cells ({ frames := 1, cells := 0, slots := 0, locals := 14 } : Room).slots) := by
  refine MetFree.of_bodySF (plainFor_of_name pn_6) hisR ?_
  intro p e s m args below meth c s₁ Bd hml0 hP hK
  obtain ⟨rfl, hZ, hh⟩ := hP
  have hx := Bd.exec
  have hby := Bd.bytes
  have hml : c.maxLocals = 4 := hml0
  have hown : s.vm.findClass "jdk/internal/util/ArraysSupport" = some m.cls := findClass_of_methodNamed Bd.named
  have hnm := (name_of_methodNamed Bd.named Bd.method).1
  have hlk : meth.locks = false := BodyLoose.notSynchronized Bd
  have X0 : Stand p l e ({ frames := 1, cells := 0, slots := 0, locals := 14 } : Room) s m #[(.int x0), (.int x1), (.int x2)] below meth c s₁ [] 0 0 := Stand.of_body Bd
  have e0 : s₁.heap = h0 := by rw [← hh, Bd.state]; rfl
  have N0 := Fr.nil n0
  obtain ⟨sE, hsE⟩ : ∃ z, z = (s₁.setTop (entryFrame m #[(.int x0), (.int x1), (.int x2)] 4)) := ⟨_, rfl⟩
  have st0 : Steps p.tables e below sE (s₁.setTop (mkF m 0 #[.val (.int x0), .val (.int x1), .val (.int x2), .unset] [])) := by rw [hsE]; exact castTop (ef_34 m x0 x1 x2) (Steps.refl _)
  have st1 : Steps p.tables e below sE (s₁.setTop (mkF m 3 #[.val (.int x0), .val (.int x1), .val (.int x2), .unset] [(.int x2), (.int x1), (.int x0)])) := st0.trans (by
      show Steps _ _ _ (s₁.setTop (mkF m 0 #[.val (.int x0), .val (.int x1), .val (.int x2), .unset] [])) _
      refine XS.iloadN X0.here hx rfl (hb hby d34_0) rfl ?_
      show Steps _ _ _ (s₁.setTop (mkF m 1 #[.val (.int x0), .val (.int x1), .val (.int x2), .unset] [(.int x0)])) _
      refine XS.iloadN X0.here hx rfl (hb hby d34_1) rfl ?_
      show Steps _ _ _ (s₁.setTop (mkF m 2 #[.val (.int x0), .val (.int x1), .val (.int x2), .unset] [(.int x1), (.int x0)])) _
      refine XS.iloadN X0.here hx rfl (hb hby d34_2) rfl ?_
      exact Steps.refl _)
  obtain ⟨_, _, ⟨T2, L2, k2, n2⟩, -, X2, ⟨Lc2, hQ2, l2, y2, z2⟩, sr2⟩ := Jvm.LawKit.callS X0 hx (y := (⟨"java/lang/Math", "max", "(II)I"⟩ : MethodName)) hown (mvT hZ (hw _ (List.mem_of_getElem? (i := 181) rfl))) (mvT hZ (hw _ (List.mem_of_getElem? (i := 182) rfl))) (mvT hZ (hw _ (List.mem_of_getElem? (i := 133) rfl))) (mvT hZ (hw _ (List.mem_of_getElem? (i := 183) rfl))) (by decide) (backOf (W := 1) (rm35 l Z a0 hw [] x1 x2  h0 n0 Z0 ) hZ (hw _ (List.mem_of_getElem? (i := 183) rfl)) (hw _ (List.mem_of_getElem? (i := 133) rfl)) (by decide) (by decide)) (g := (mkF m 3 #[.val (.int x0), .val (.int x1), .val (.int x2), .unset] [(.int x2), (.int x1), (.int x0)])) rfl (by rw [hml]; rfl) (argsL := [(.int x1), (.int x2)]) (rest := [(.int x0)]) (lenOf pd_7 rfl) rfl (by show 2 * 0 + _ ≤ _; exact Nat.le_of_eq rfl) (hb hby d34_3) (fun _ _ => ⟨rfl, e0, (by decide : 0 + 0 ≤ _), (by decide : 0 + 0 ≤ _)⟩)
  dsimp only [Pt.U, Pt.locs, Pt.cells, Pt.slots] at X2 l2 y2 z2 sr2 hQ2
  subst l2 y2 z2
  obtain ⟨rfl, N2q, hh2⟩ := hQ2
  have N2 := Fr.app N0 N2q
  obtain ⟨LL2, X2, N2⟩ := own_hide X2 N2
  have st3 : Steps p.tables e below sE (T2.setTop (mkF m 6 #[.val (.int x0), .val (.int x1), .val (.int x2), .unset] [(.int (F35 x1 x2)), (.int x0)])) := st1.trans (sr2 _ (Steps.refl _))
  have st4 : Steps p.tables e below sE (T2.setTop (mkF m 10 #[.val (.int x0), .val (.int x1), .val (.int x2), .val (.int (x0 + (F35 x1 x2)))] [(.int (x0 + (F35 x1 x2))), (.int (0 : Int32))])) := st3.trans (by
      show Steps _ _ _ (T2.setTop (mkF m 6 #[.val (.int x0), .val (.int x1), .val (.int x2), .unset] [(.int (F35 x1 x2)), (.int x0)])) _
      refine XS.iadd X2.here hx rfl (hb hby d34_6) rfl ?_
      show Steps _ _ _ (T2.setTop (mkF m 7 #[.val (.int x0), .val (.int x1), .val (.int x2), .unset] [(.int (x0 + (F35 x1 x2)))])) _
      refine XS.istoreN X2.here hx rfl (hb hby d34_7) rfl (l' := #[.val (.int x0), .val (.int x1), .val (.int x2), .val (.int (x0 + (F35 x1 x2)))]) rfl ?_
      show Steps _ _ _ (T2.setTop (mkF m 8 #[.val (.int x0), .val (.int x1), .val (.int x2), .val (.int (x0 + (F35 x1 x2)))] [])) _
      refine XS.iconst X2.here hx rfl (hb hby d34_8) ?_
      show Steps _ _ _ (T2.setTop (mkF m 9 #[.val (.int x0), .val (.int x1), .val (.int x2), .val (.int (x0 + (F35 x1 x2)))] [(.int (0 : Int32))])) _
      refine XS.iloadN X2.here hx rfl (hb hby d34_9) rfl ?_
      exact Steps.refl _)
  have hf5 : (0 : Int32) < (x0 + (F35 x1 x2)) := hpo
  have st6 : Steps p.tables e below sE (T2.setTop (mkF m 16 #[.val (.int x0), .val (.int x1), .val (.int x2), .val (.int (x0 + (F35 x1 x2)))] [(.int (2147483639 : Int32)), (.int (x0 + (F35 x1 x2)))])) := st4.trans (by
      show Steps _ _ _ (T2.setTop (mkF m 10 #[.val (.int x0), .val (.int x1), .val (.int x2), .val (.int (x0 + (F35 x1 x2)))] [(.int (x0 + (F35 x1 x2))), (.int (0 : Int32))])) _
      refine XS.icmpNo X2.here hx rfl (hb hby d34_10) rfl (tlt hf5).2.1 ?_
      show Steps _ _ _ (T2.setTop (mkF m 13 #[.val (.int x0), .val (.int x1), .val (.int x2), .val (.int (x0 + (F35 x1 x2)))] [])) _
      refine XS.iloadN X2.here hx rfl (hb hby d34_13) rfl ?_
      show Steps _ _ _ (T2.setTop (mkF m 14 #[.val (.int x0), .val (.int x1), .val (.int x2), .val (.int (x0 + (F35 x1 x2)))] [(.int (x0 + (F35 x1 x2)))])) _
      refine X2.ldcInt hx hown (mvT hZ (hw _ (List.mem_of_getElem? (i := 184) rfl))) (g := (mkF m 14 #[.val (.int x0), .val (.int x1), .val (.int x2), .val (.int (x0 + (F35 x1 x2)))] [(.int (x0 + (F35 x1 x2)))])) rfl (hb hby d34_14) _ ?_
      exact Steps.refl _)
  have hf7 : ¬ ((2147483639 : Int32) < (x0 + (F35 x1 x2))) := hsm
  have st8 : Steps p.tables e below sE (T2.setTop (mkF m 20 #[.val (.int x0), .val (.int x1), .val (.int x2), .val (.int (x0 + (F35 x1 x2)))] [(.int (x0 + (F35 x1 x2)))])) := st6.trans (by
      show Steps _ _ _ (T2.setTop (mkF m 16 #[.val (.int x0), .val (.int x1), .val (.int x2), .val (.int (x0 + (F35 x1 x2)))] [(.int (2147483639 : Int32)), (.int (x0 + (F35 x1 x2)))])) _
      refine XS.icmpNo X2.here hx rfl (hb hby d34_16) rfl (flt hf7).2.2.1 ?_
      show Steps _ _ _ (T2.setTop (mkF m 19 #[.val (.int x0), .val (.int x1), .val (.int x2), .val (.int (x0 + (F35 x1 x2)))] [])) _
      refine XS.iloadN X2.here hx rfl (hb hby d34_19) rfl ?_
      exact Steps.refl _)
  obtain ⟨fs, hr, hrun, hended, hW, hsame⟩ := X2.leave (v := some (.int (x0 + (F35 x1 x2)))) (fun h => by rw [Bd.returns] at h; cases h) hlk
  refine ⟨_, _, (own_ent hsE st8).trans ?_, hrun, hended, _, _, rfl, ?_, ⟨_, rfl⟩, hW, hsame.mono (by decide) (by decide)⟩
  · exact retI X2 hx Bd.returns (hb hby d34_20) hr
  · show Q34 Z x0 x1 x2 h0 n0 _ T2.heap _
    rw [hh2]
    exact ⟨rfl, N2, rfl⟩
theorem own_nc (n x1 : Int32) (hn : 0 ≤ n.toInt ∧ n.toInt ≤ 6141) (hx : 0 ≤ x1.toInt ∧ x1.toInt ≤ 6142) (hg : (0 : Int32) < x1 - n) : (0 : Int32) < (n + (F35 (x1 - n) (n + (2 : Int32)))) ∧ ¬ (2147483639 : Int32) < (n + (F35 (x1 - n) (n + (2 : Int32)))) ∧ ¬ (n + (F35 (x1 - n) (n + (2 : Int32)))) = (2147483647 : Int32) ∧ x1.toInt ≤ ((n + (F35 (x1 - n) (n + (2 : Int32))))).toInt ∧ n.toInt < ((n + (F35 (x1 - n) (n + (2 : Int32))))).toInt ∧ ((n + (F35 (x1 - n) (n + (2 : Int32))))).toInt ≤ 12300 ∧ (((n + (F35 (x1 - n) (n + (2 : Int32))))).toInt = x1.toInt ∨ ((n + (F35 (x1 - n) (n + (2 : Int32))))).toInt = 2 * n.toInt + 2) := by
  have r1 := rng32 x1
  have e1 := c_isub x1 n
  have e2 := c_iadd n 2
  have r2 := rng32 (x1 - n)
  have r3 := rng32 (n + 2)
  rw [show (2 : Int32).toInt = 2 by decide] at e2
  have hg' := Int32.lt_iff_toInt_lt.mp hg
  rw [show (0 : Int32).toInt = 0 by decide] at hg'
  have hm : (F35 (x1 - n) (n + 2)).toInt = (x1 - n).toInt ∧ (n + 2).toInt ≤ (x1 - n).toInt ∨ (F35 (x1 - n) (n + 2)).toInt = (n + 2).toInt ∧ (x1 - n).toInt ≤ (n + 2).toInt := by
    unfold F35
    split
    · rename_i h; rw [Int32.lt_iff_toInt_lt] at h; exact Or.inr ⟨rfl, by omega⟩
    · rename_i h; rw [Int32.lt_iff_toInt_lt] at h; exact Or.inl ⟨rfl, by omega⟩
  generalize F35 (x1 - n) (n + 2) = M at *
  have e3 := c_iadd n M
  have r4 := rng32 (n + M)
  rw [Int32.lt_iff_toInt_lt, Int32.lt_iff_toInt_lt, show (0 : Int32).toInt = 0 by decide, show (2147483639 : Int32).toInt = 2147483639 by decide]
  refine ⟨by omega, by omega, fun q => ?_, by omega, by omega, by omega, by omega⟩
  have := congrArg Int32.toInt q
  rw [show (2147483647 : Int32).toInt = 2147483647 by decide] at this
  omega
theorem own_min (n x1 : Int32) (h : n.toInt < x1.toInt) : F24 n x1 = n := by
  unfold F24
  split
  · rename_i q; rw [Int32.lt_iff_toInt_lt] at q; omega
  · rfl
theorem own_tn (x : Int32) (h : 0 ≤ x.toInt) : (x.toNatClampNeg : Int) = x.toInt := by simp only [Int32.toNatClampNeg]; omega
theorem own_nn (x : Int32) (h : 0 ≤ x.toInt) : ¬ x < 0 := by rw [Int32.lt_iff_toInt_lt, show (0 : Int32).toInt = 0 by decide]; omega
theorem pd_8 : parseMethodDescriptor "(III)I" = some ⟨[.int, .int, .int], some .int⟩ := by decide +kernel
theorem d33_0 : decode jdk_68_method_10_code 0 = .ok (.aload_n 0, 1) := by decide +kernel
theorem d33_1 : decode jdk_68_method_10_code 1 = .ok (.getfield 15, 3) := by decide +kernel
theorem d33_4 : decode jdk_68_method_10_code 4 = .ok (.arraylength, 1) := by decide +kernel
theorem d33_5 : decode jdk_68_method_10_code 5 = .ok (.istore_n 2, 1) := by decide +kernel
theorem d33_6 : decode jdk_68_method_10_code 6 = .ok (.iload_n 1, 1) := by decide +kernel
theorem d33_7 : decode jdk_68_method_10_code 7 = .ok (.aload_n 0, 1) := by decide +kernel
theorem d33_8 : decode jdk_68_method_10_code 8 = .ok (.getfield 22, 3) := by decide +kernel
theorem d33_11 : decode jdk_68_method_10_code 11 = .ok (.ishl, 1) := by decide +kernel
theorem d33_12 : decode jdk_68_method_10_code 12 = .ok (.istore_n 3, 1) := by decide +kernel
theorem d33_13 : decode jdk_68_method_10_code 13 = .ok (.iload_n 3, 1) := by decide +kernel
theorem d33_14 : decode jdk_68_method_10_code 14 = .ok (.iload_n 2, 1) := by decide +kernel
theorem d33_15 : decode jdk_68_method_10_code 15 = .ok (.isub, 1) := by decide +kernel
theorem d33_16 : decode jdk_68_method_10_code 16 = .ok (.istore 4, 2) := by decide +kernel
theorem d33_18 : decode jdk_68_method_10_code 18 = .ok (.iload_n 2, 1) := by decide +kernel
theorem d33_19 : decode jdk_68_method_10_code 19 = .ok (.iload 4, 2) := by decide +kernel
theorem d33_21 : decode jdk_68_method_10_code 21 = .ok (.iload_n 2, 1) := by decide +kernel
theorem d33_22 : decode jdk_68_method_10_code 22 = .ok (.iconst 2, 1) := by decide +kernel
theorem d33_23 : decode jdk_68_method_10_code 23 = .ok (.aload_n 0, 1) := by decide +kernel
theorem d33_24 : decode jdk_68_method_10_code 24 = .ok (.getfield 22, 3) := by decide +kernel
theorem d33_27 : decode jdk_68_method_10_code 27 = .ok (.ishl, 1) := by decide +kernel
theorem d33_28 : decode jdk_68_method_10_code 28 = .ok (.iadd, 1) := by decide +kernel
theorem d33_29 : decode jdk_68_method_10_code 29 = .ok (.invokestatic 114, 3) := by decide +kernel
theorem d33_32 : decode jdk_68_method_10_code 32 = .ok (.istore 5, 2) := by decide +kernel
theorem d33_34 : decode jdk_68_method_10_code 34 = .ok (.iload 5, 2) := by decide +kernel
theorem d33_36 : decode jdk_68_method_10_code 36 = .ok (.ldc 39, 2) := by decide +kernel
theorem d33_38 : decode jdk_68_method_10_code 38 = .ok (.if_icmp .ne 13, 3) := by decide +kernel
theorem d33_51 : decode jdk_68_method_10_code 51 = .ok (.iload 5, 2) := by decide +kernel
theorem d33_53 : decode jdk_68_method_10_code 53 = .ok (.aload_n 0, 1) := by decide +kernel
theorem d33_54 : decode jdk_68_method_10_code 54 = .ok (.getfield 22, 3) := by decide +kernel
theorem d33_57 : decode jdk_68_method_10_code 57 = .ok (.ishr, 1) := by decide +kernel
theorem d33_58 : decode jdk_68_method_10_code 58 = .ok (.ireturn, 1) := by decide +kernel
theorem ef_33 (m : MethodId) (x0 : Addr) (x1 : Int32)  : entryFrame m #[(.ref x0), (.int x1)] 6 = mkF m 0 #[.val (.ref x0), .val (.int x1), .unset, .unset, .unset, .unset] [] := by first | (simp [entryFrame, mkF, argsToLocals, Value.category]; done) | rfl
def Q33 (Z : State) (x0 : Addr) (x1 : Int32) (b : Addr) (ka : ClassId) (n : Int32) (L : List Int32) (h0 : Heap) (n0 : Nat) (vE : Option Value) (hE : Heap) (LE : List Loc) : Prop := vE = some (.int (n + (F35 (x1 - n) (n + (2 : Int32))))) ∧ Fr n0 LE ∧ hE = h0
set_option maxRecDepth 65536 in
set_option maxHeartbeats 40000000 in
theorem rm33 (l : Launch) (Z : State) (a0 : Array Value) (hw : ∀ d ∈ tables_1, d.before a0 Z = true) (ws : List Jvm.Cond) (x0 : Addr) (x1 : Int32) (b : Addr) (ka : ClassId) (n : Int32) (L : List Int32) (h0 : Heap) (n0 : Nat) (Z0 : n0 ≤ h0.size) (F_v : Fld Z h0 x0 "java/lang/AbstractStringBuilder" "value" "[B" (.ref b)) (F_c : Fld Z h0 x0 "java/lang/AbstractStringBuilder" "coder" "B" (.int (0 : Int32))) (A_b : Arv Z h0 b ka .byte n (List.map Value.int L) (.int (0 : Int32))) (hpo : (0 : Int32) < (n + (F35 (x1 - n) (n + (2 : Int32))))) (hsm : ¬ (2147483639 : Int32) < (n + (F35 (x1 - n) (n + (2 : Int32))))) (hmx : ¬ (n + (F35 (x1 - n) (n + (2 : Int32)))) = (2147483647 : Int32)) :
    MetFree l (⟨"java/lang/AbstractStringBuilder", "newCapacity", "(I)I"⟩ : MethodName) (head1 (Jvm.Cond.code (⟨"java/lang/AbstractStringBuilder", "newCapacity", "(I)I"⟩ : MethodName) jdk_68_method_10_code 6 (some .int) :: ws) ({ frames := 2, cells := 0, slots := 0, locals := 29 } : Room)) (fun a U => a = #[(.ref x0), (.int x1)] ∧ Z.Warmed39 U.vm ∧ U.heap = h0) (fun _ _ _ _ _ => True) (fun _ U o U' => ∃ vE LE, o = .returned vE ∧ Q33 Z x0 x1 b ka n L h0 n0 vE U'.heap LE ∧ FrameEnd U o U' LE ({ frames := 2, cells := 0, slots := 0, locals := 29 } : Room).cells ({ frames := 2, cells := 0, slots := 0, locals := 29 } : Room).slots) := by
  refine MetFree.of_bodySF (plainFor_of_name pn_4) hisR ?_
  intro p e s m args below meth c s₁ Bd hml0 hP hK
  obtain ⟨rfl, hZ, hh⟩ := hP
  have hx := Bd.exec
  have hby := Bd.bytes
  have hml : c.maxLocals = 6 := hml0
  have hown : s.vm.findClass "java/lang/AbstractStringBuilder" = some m.cls := findClass_of_methodNamed Bd.named
  have hnm := (name_of_methodNamed Bd.named Bd.method).1
  have hlk : meth.locks = false := BodyLoose.notSynchronized Bd
  have X0 : Stand p l e ({ frames := 2, cells := 0, slots := 0, locals := 29 } : Room) s m #[(.ref x0), (.int x1)] below meth c s₁ [] 0 0 := Stand.of_body Bd
  have e0 : s₁.heap = h0 := by rw [← hh, Bd.state]; rfl
  have N0 := Fr.nil n0
  obtain ⟨sE, hsE⟩ : ∃ z, z = (s₁.setTop (entryFrame m #[(.ref x0), (.int x1)] 6)) := ⟨_, rfl⟩
  have st0 : Steps p.tables e below sE (s₁.setTop (mkF m 0 #[.val (.ref x0), .val (.int x1), .unset, .unset, .unset, .unset] [])) := by rw [hsE]; exact castTop (ef_33 m x0 x1) (Steps.refl _)
  have st1 : Steps p.tables e below sE (s₁.setTop (mkF m 1 #[.val (.ref x0), .val (.int x1), .unset, .unset, .unset, .unset] [(.ref x0)])) := st0.trans (by
      show Steps _ _ _ (s₁.setTop (mkF m 0 #[.val (.ref x0), .val (.int x1), .unset, .unset, .unset, .unset] [])) _
      refine XS.aloadN X0.here hx rfl (hb hby d33_0) rfl rfl ?_
      exact Steps.refl _)
  obtain ⟨T2, X2, e2, sr2⟩ := getF X0 hx hZ hown (host := "") (Or.inl (hw _ (List.mem_of_getElem? (i := 22) rfl))) Via.refl e0 F_v (g := (mkF m 1 #[.val (.ref x0), .val (.int x1), .unset, .unset, .unset, .unset] [(.ref x0)])) rfl rfl (hb hby d33_1)
  have st3 : Steps p.tables e below sE (T2.setTop (mkF m 4 #[.val (.ref x0), .val (.int x1), .unset, .unset, .unset, .unset] [(.ref b)])) := st1.trans (sr2 _ (Steps.refl _))
  obtain ⟨cl4, Ar4, -, S4, N4, -, -⟩ := id A_b
  have st5 : Steps p.tables e below sE (T2.setTop (mkF m 8 #[.val (.ref x0), .val (.int x1), .val (.int n), .unset, .unset, .unset] [(.ref x0), (.int x1)])) := st3.trans (by
      show Steps _ _ _ (T2.setTop (mkF m 4 #[.val (.ref x0), .val (.int x1), .unset, .unset, .unset, .unset] [(.ref b)])) _
      refine X2.arraylength hx (by rw [e2]; exact Ar4.1) (State.isArrayOf_alike hZ.alike Ar4.2.1) (g := (mkF m 4 #[.val (.ref x0), .val (.int x1), .unset, .unset, .unset, .unset] [(.ref b)])) rfl rfl (hb hby d33_4) _ ?_
      rw [len_of S4 N4]
      show Steps _ _ _ (T2.setTop (mkF m 5 #[.val (.ref x0), .val (.int x1), .unset, .unset, .unset, .unset] [(.int n)])) _
      refine XS.istoreN X2.here hx rfl (hb hby d33_5) rfl (l' := #[.val (.ref x0), .val (.int x1), .val (.int n), .unset, .unset, .unset]) rfl ?_
      show Steps _ _ _ (T2.setTop (mkF m 6 #[.val (.ref x0), .val (.int x1), .val (.int n), .unset, .unset, .unset] [])) _
      refine XS.iloadN X2.here hx rfl (hb hby d33_6) rfl ?_
      show Steps _ _ _ (T2.setTop (mkF m 7 #[.val (.ref x0), .val (.int x1), .val (.int n), .unset, .unset, .unset] [(.int x1)])) _
      refine XS.aloadN X2.here hx rfl (hb hby d33_7) rfl rfl ?_
      exact Steps.refl _)
  obtain ⟨T6, X6, e6, sr6⟩ := getF X2 hx hZ hown (host := "") (Or.inl (hw _ (List.mem_of_getElem? (i := 24) rfl))) Via.refl e2 F_c (g := (mkF m 8 #[.val (.ref x0), .val (.int x1), .val (.int n), .unset, .unset, .unset] [(.ref x0), (.int x1)])) rfl rfl (hb hby d33_8)
  have st7 : Steps p.tables e below sE (T6.setTop (mkF m 11 #[.val (.ref x0), .val (.int x1), .val (.int n), .unset, .unset, .unset] [(.int (0 : Int32)), (.int x1)])) := st5.trans (sr6 _ (Steps.refl _))
  have st8 : Steps p.tables e below sE (T6.setTop (mkF m 12 #[.val (.ref x0), .val (.int x1), .val (.int n), .unset, .unset, .unset] [(.int (x1 <<< ((0 : Int32) &&& 31)))])) := st7.trans (by
      show Steps _ _ _ (T6.setTop (mkF m 11 #[.val (.ref x0), .val (.int x1), .val (.int n), .unset, .unset, .unset] [(.int (0 : Int32)), (.int x1)])) _
      refine XS.ishl X6.here hx rfl (hb hby d33_11) rfl ?_
      exact Steps.refl _)
  have hw9 : (x1 <<< ((0 : Int32) &&& 31)) = x1 := own_sl x1
  rw [hw9] at st8
  have st10 : Steps p.tables e below sE (T6.setTop (mkF m 24 #[.val (.ref x0), .val (.int x1), .val (.int n), .val (.int x1), .val (.int (x1 - n)), .unset] [(.ref x0), (.int (2 : Int32)), (.int n), (.int (x1 - n)), (.int n)])) := st8.trans (by
      show Steps _ _ _ (T6.setTop (mkF m 12 #[.val (.ref x0), .val (.int x1), .val (.int n), .unset, .unset, .unset] [(.int x1)])) _
      refine XS.istoreN X6.here hx rfl (hb hby d33_12) rfl (l' := #[.val (.ref x0), .val (.int x1), .val (.int n), .val (.int x1), .unset, .unset]) rfl ?_
      show Steps _ _ _ (T6.setTop (mkF m 13 #[.val (.ref x0), .val (.int x1), .val (.int n), .val (.int x1), .unset, .unset] [])) _
      refine XS.iloadN X6.here hx rfl (hb hby d33_13) rfl ?_
      show Steps _ _ _ (T6.setTop (mkF m 14 #[.val (.ref x0), .val (.int x1), .val (.int n), .val (.int x1), .unset, .unset] [(.int x1)])) _
      refine XS.iloadN X6.here hx rfl (hb hby d33_14) rfl ?_
      show Steps _ _ _ (T6.setTop (mkF m 15 #[.val (.ref x0), .val (.int x1), .val (.int n), .val (.int x1), .unset, .unset] [(.int n), (.int x1)])) _
      refine XS.isub X6.here hx rfl (hb hby d33_15) rfl ?_
      show Steps _ _ _ (T6.setTop (mkF m 16 #[.val (.ref x0), .val (.int x1), .val (.int n), .val (.int x1), .unset, .unset] [(.int (x1 - n))])) _
      refine XS.istore X6.here hx rfl (hb hby d33_16) rfl (l' := #[.val (.ref x0), .val (.int x1), .val (.int n), .val (.int x1), .val (.int (x1 - n)), .unset]) rfl ?_
      show Steps _ _ _ (T6.setTop (mkF m 18 #[.val (.ref x0), .val (.int x1), .val (.int n), .val (.int x1), .val (.int (x1 - n)), .unset] [])) _
      refine XS.iloadN X6.here hx rfl (hb hby d33_18) rfl ?_
      show Steps _ _ _ (T6.setTop (mkF m 19 #[.val (.ref x0), .val (.int x1), .val (.int n), .val (.int x1), .val (.int (x1 - n)), .unset] [(.int n)])) _
      refine XS.iload X6.here hx rfl (hb hby d33_19) rfl ?_
      show Steps _ _ _ (T6.setTop (mkF m 21 #[.val (.ref x0), .val (.int x1), .val (.int n), .val (.int x1), .val (.int (x1 - n)), .unset] [(.int (x1 - n)), (.int n)])) _
      refine XS.iloadN X6.here hx rfl (hb hby d33_21) rfl ?_
      show Steps _ _ _ (T6.setTop (mkF m 22 #[.val (.ref x0), .val (.int x1), .val (.int n), .val (.int x1), .val (.int (x1 - n)), .unset] [(.int n), (.int (x1 - n)), (.int n)])) _
      refine XS.iconst X6.here hx rfl (hb hby d33_22) ?_
      show Steps _ _ _ (T6.setTop (mkF m 23 #[.val (.ref x0), .val (.int x1), .val (.int n), .val (.int x1), .val (.int (x1 - n)), .unset] [(.int (2 : Int32)), (.int n), (.int (x1 - n)), (.int n)])) _
      refine XS.aloadN X6.here hx rfl (hb hby d33_23) rfl rfl ?_
      exact Steps.refl _)
  obtain ⟨T11, X11, e11, sr11⟩ := getF X6 hx hZ hown (host := "") (Or.inl (hw _ (List.mem_of_getElem? (i := 24) rfl))) Via.refl e6 F_c (g := (mkF m 24 #[.val (.ref x0), .val (.int x1), .val (.int n), .val (.int x1), .val (.int (x1 - n)), .unset] [(.ref x0), (.int (2 : Int32)), (.int n), (.int (x1 - n)), (.int n)])) rfl rfl (hb hby d33_24)
  have st12 : Steps p.tables e below sE (T11.setTop (mkF m 27 #[.val (.ref x0), .val (.int x1), .val (.int n), .val (.int x1), .val (.int (x1 - n)), .unset] [(.int (0 : Int32)), (.int (2 : Int32)), (.int n), (.int (x1 - n)), (.int n)])) := st10.trans (sr11 _ (Steps.refl _))
  have st13 : Steps p.tables e below sE (T11.setTop (mkF m 28 #[.val (.ref x0), .val (.int x1), .val (.int n), .val (.int x1), .val (.int (x1 - n)), .unset] [(.int ((2 : Int32) <<< ((0 : Int32) &&& 31))), (.int n), (.int (x1 - n)), (.int n)])) := st12.trans (by
      show Steps _ _ _ (T11.setTop (mkF m 27 #[.val (.ref x0), .val (.int x1), .val (.int n), .val (.int x1), .val (.int (x1 - n)), .unset] [(.int (0 : Int32)), (.int (2 : Int32)), (.int n), (.int (x1 - n)), (.int n)])) _
      refine XS.ishl X11.here hx rfl (hb hby d33_27) rfl ?_
      exact Steps.refl _)
  have hw14 : ((2 : Int32) <<< ((0 : Int32) &&& 31)) = (2 : Int32) := own_sl (2 : Int32)
  rw [hw14] at st13
  have st15 : Steps p.tables e below sE (T11.setTop (mkF m 29 #[.val (.ref x0), .val (.int x1), .val (.int n), .val (.int x1), .val (.int (x1 - n)), .unset] [(.int (n + (2 : Int32))), (.int (x1 - n)), (.int n)])) := st13.trans (by
      show Steps _ _ _ (T11.setTop (mkF m 28 #[.val (.ref x0), .val (.int x1), .val (.int n), .val (.int x1), .val (.int (x1 - n)), .unset] [(.int (2 : Int32)), (.int n), (.int (x1 - n)), (.int n)])) _
      refine XS.iadd X11.here hx rfl (hb hby d33_28) rfl ?_
      exact Steps.refl _)
  obtain ⟨_, _, ⟨T16, L16, k16, n16⟩, -, X16, ⟨Lc16, hQ16, l16, y16, z16⟩, sr16⟩ := Jvm.LawKit.callS X11 hx (y := (⟨"jdk/internal/util/ArraysSupport", "newLength", "(III)I"⟩ : MethodName)) hown (mvT hZ (hw _ (List.mem_of_getElem? (i := 177) rfl))) (mvT hZ (hw _ (List.mem_of_getElem? (i := 178) rfl))) (mvT hZ (hw _ (List.mem_of_getElem? (i := 179) rfl))) (mvT hZ (hw _ (List.mem_of_getElem? (i := 180) rfl))) (by decide) (backOf (W := 0) (rm34 l Z a0 hw [] n (x1 - n) (n + (2 : Int32))  h0 n0 Z0 hpo hsm) hZ (hw _ (List.mem_of_getElem? (i := 180) rfl)) (hw _ (List.mem_of_getElem? (i := 179) rfl)) (by decide) (by decide)) (g := (mkF m 29 #[.val (.ref x0), .val (.int x1), .val (.int n), .val (.int x1), .val (.int (x1 - n)), .unset] [(.int (n + (2 : Int32))), (.int (x1 - n)), (.int n)])) rfl (by rw [hml]; rfl) (argsL := [(.int n), (.int (x1 - n)), (.int (n + (2 : Int32)))]) (rest := []) (lenOf pd_8 rfl) rfl (by show 2 * 0 + _ ≤ _; exact Nat.le_of_eq rfl) (hb hby d33_29) (fun _ _ => ⟨rfl, e11, (by decide : 0 + 0 ≤ _), (by decide : 0 + 0 ≤ _)⟩)
  dsimp only [Pt.U, Pt.locs, Pt.cells, Pt.slots] at X16 l16 y16 z16 sr16 hQ16
  subst l16 y16 z16
  obtain ⟨rfl, N16q, hh16⟩ := hQ16
  have N16 := Fr.app N0 N16q
  obtain ⟨LL16, X16, N16⟩ := own_hide X16 N16
  have st17 : Steps p.tables e below sE (T16.setTop (mkF m 32 #[.val (.ref x0), .val (.int x1), .val (.int n), .val (.int x1), .val (.int (x1 - n)), .unset] [(.int (n + (F35 (x1 - n) (n + (2 : Int32)))))])) := st15.trans (sr16 _ (Steps.refl _))
  have st18 : Steps p.tables e below sE (T16.setTop (mkF m 38 #[.val (.ref x0), .val (.int x1), .val (.int n), .val (.int x1), .val (.int (x1 - n)), .val (.int (n + (F35 (x1 - n) (n + (2 : Int32)))))] [(.int (2147483647 : Int32)), (.int (n + (F35 (x1 - n) (n + (2 : Int32)))))])) := st17.trans (by
      show Steps _ _ _ (T16.setTop (mkF m 32 #[.val (.ref x0), .val (.int x1), .val (.int n), .val (.int x1), .val (.int (x1 - n)), .unset] [(.int (n + (F35 (x1 - n) (n + (2 : Int32)))))])) _
      refine XS.istore X16.here hx rfl (hb hby d33_32) rfl (l' := #[.val (.ref x0), .val (.int x1), .val (.int n), .val (.int x1), .val (.int (x1 - n)), .val (.int (n + (F35 (x1 - n) (n + (2 : Int32)))))]) rfl ?_
      show Steps _ _ _ (T16.setTop (mkF m 34 #[.val (.ref x0), .val (.int x1), .val (.int n), .val (.int x1), .val (.int (x1 - n)), .val (.int (n + (F35 (x1 - n) (n + (2 : Int32)))))] [])) _
      refine XS.iload X16.here hx rfl (hb hby d33_34) rfl ?_
      show Steps _ _ _ (T16.setTop (mkF m 36 #[.val (.ref x0), .val (.int x1), .val (.int n), .val (.int x1), .val (.int (x1 - n)), .val (.int (n + (F35 (x1 - n) (n + (2 : Int32)))))] [(.int (n + (F35 (x1 - n) (n + (2 : Int32)))))])) _
      refine X16.ldcInt hx hown (mvT hZ (hw _ (List.mem_of_getElem? (i := 185) rfl))) (g := (mkF m 36 #[.val (.ref x0), .val (.int x1), .val (.int n), .val (.int x1), .val (.int (x1 - n)), .val (.int (n + (F35 (x1 - n) (n + (2 : Int32)))))] [(.int (n + (F35 (x1 - n) (n + (2 : Int32)))))])) rfl (hb hby d33_36) _ ?_
      exact Steps.refl _)
  have hf19 : ¬ ((n + (F35 (x1 - n) (n + (2 : Int32)))) = (2147483647 : Int32)) := hmx
  have st20 : Steps p.tables e below sE (T16.setTop (mkF m 54 #[.val (.ref x0), .val (.int x1), .val (.int n), .val (.int x1), .val (.int (x1 - n)), .val (.int (n + (F35 (x1 - n) (n + (2 : Int32)))))] [(.ref x0), (.int (n + (F35 (x1 - n) (n + (2 : Int32)))))])) := st18.trans (by
      show Steps _ _ _ (T16.setTop (mkF m 38 #[.val (.ref x0), .val (.int x1), .val (.int n), .val (.int x1), .val (.int (x1 - n)), .val (.int (n + (F35 (x1 - n) (n + (2 : Int32)))))] [(.int (2147483647 : Int32)), (.int (n + (F35 (x1 - n) (n + (2 : Int32)))))])) _
      refine XS.icmpYes X16.here hx rfl (pc0 := 38) (pc' := 51) rfl (hb hby d33_38) rfl (feq hf19).2 (by decide) (by decide) ?_
      show Steps _ _ _ (T16.setTop (mkF m 51 #[.val (.ref x0), .val (.int x1), .val (.int n), .val (.int x1), .val (.int (x1 - n)), .val (.int (n + (F35 (x1 - n) (n + (2 : Int32)))))] [])) _
      refine XS.iload X16.here hx rfl (hb hby d33_51) rfl ?_
      show Steps _ _ _ (T16.setTop (mkF m 53 #[.val (.ref x0), .val (.int x1), .val (.int n), .val (.int x1), .val (.int (x1 - n)), .val (.int (n + (F35 (x1 - n) (n + (2 : Int32)))))] [(.int (n + (F35 (x1 - n) (n + (2 : Int32)))))])) _
      refine XS.aloadN X16.here hx rfl (hb hby d33_53) rfl rfl ?_
      exact Steps.refl _)
  obtain ⟨T21, X21, e21, sr21⟩ := getF X16 hx hZ hown (host := "") (Or.inl (hw _ (List.mem_of_getElem? (i := 24) rfl))) Via.refl hh16 F_c (g := (mkF m 54 #[.val (.ref x0), .val (.int x1), .val (.int n), .val (.int x1), .val (.int (x1 - n)), .val (.int (n + (F35 (x1 - n) (n + (2 : Int32)))))] [(.ref x0), (.int (n + (F35 (x1 - n) (n + (2 : Int32)))))])) rfl rfl (hb hby d33_54)
  have st22 : Steps p.tables e below sE (T21.setTop (mkF m 57 #[.val (.ref x0), .val (.int x1), .val (.int n), .val (.int x1), .val (.int (x1 - n)), .val (.int (n + (F35 (x1 - n) (n + (2 : Int32)))))] [(.int (0 : Int32)), (.int (n + (F35 (x1 - n) (n + (2 : Int32)))))])) := st20.trans (sr21 _ (Steps.refl _))
  have st23 : Steps p.tables e below sE (T21.setTop (mkF m 58 #[.val (.ref x0), .val (.int x1), .val (.int n), .val (.int x1), .val (.int (x1 - n)), .val (.int (n + (F35 (x1 - n) (n + (2 : Int32)))))] [(.int ((n + (F35 (x1 - n) (n + (2 : Int32)))) >>> ((0 : Int32) &&& 31)))])) := st22.trans (by
      show Steps _ _ _ (T21.setTop (mkF m 57 #[.val (.ref x0), .val (.int x1), .val (.int n), .val (.int x1), .val (.int (x1 - n)), .val (.int (n + (F35 (x1 - n) (n + (2 : Int32)))))] [(.int (0 : Int32)), (.int (n + (F35 (x1 - n) (n + (2 : Int32)))))])) _
      refine XS.ishr X21.here hx rfl (hb hby d33_57) rfl ?_
      exact Steps.refl _)
  have hw24 : ((n + (F35 (x1 - n) (n + (2 : Int32)))) >>> ((0 : Int32) &&& 31)) = (n + (F35 (x1 - n) (n + (2 : Int32)))) := own_sr (n + (F35 (x1 - n) (n + (2 : Int32))))
  rw [hw24] at st23
  obtain ⟨fs, hr, hrun, hended, hW, hsame⟩ := X21.leave (v := some (.int (n + (F35 (x1 - n) (n + (2 : Int32)))))) (fun h => by rw [Bd.returns] at h; cases h) hlk
  refine ⟨_, _, (own_ent hsE st23).trans ?_, hrun, hended, _, _, rfl, ?_, ⟨_, rfl⟩, hW, hsame.mono (by decide) (by decide)⟩
  · exact retI X21 hx Bd.returns (hb hby d33_58) hr
  · show Q33 Z x0 x1 b ka n L h0 n0 _ T21.heap _
    rw [e21]
    exact ⟨rfl, N16, rfl⟩
theorem d36_0 : decode jdk_65_method_121_code 0 = .ok (.iload_n 1, 1) := by decide +kernel
theorem d36_1 : decode jdk_65_method_121_code 1 = .ok (.aload_n 0, 1) := by decide +kernel
theorem d36_2 : decode jdk_65_method_121_code 2 = .ok (.arraylength, 1) := by decide +kernel
theorem d36_3 : decode jdk_65_method_121_code 3 = .ok (.if_icmp .ne 11, 3) := by decide +kernel
theorem d36_14 : decode jdk_65_method_121_code 14 = .ok (.iload_n 1, 1) := by decide +kernel
theorem d36_15 : decode jdk_65_method_121_code 15 = .ok (.newarray .byte, 2) := by decide +kernel
theorem d36_17 : decode jdk_65_method_121_code 17 = .ok (.astore_n 2, 1) := by decide +kernel
theorem d36_18 : decode jdk_65_method_121_code 18 = .ok (.aload_n 0, 1) := by decide +kernel
theorem d36_19 : decode jdk_65_method_121_code 19 = .ok (.iconst 0, 1) := by decide +kernel
theorem d36_20 : decode jdk_65_method_121_code 20 = .ok (.aload_n 2, 1) := by decide +kernel
theorem d36_21 : decode jdk_65_method_121_code 21 = .ok (.iconst 0, 1) := by decide +kernel
theorem d36_22 : decode jdk_65_method_121_code 22 = .ok (.aload_n 0, 1) := by decide +kernel
theorem d36_23 : decode jdk_65_method_121_code 23 = .ok (.arraylength, 1) := by decide +kernel
theorem d36_24 : decode jdk_65_method_121_code 24 = .ok (.iload_n 1, 1) := by decide +kernel
theorem d36_25 : decode jdk_65_method_121_code 25 = .ok (.invokestatic 304, 3) := by decide +kernel
theorem d36_28 : decode jdk_65_method_121_code 28 = .ok (.invokestatic 150, 3) := by decide +kernel
theorem d36_31 : decode jdk_65_method_121_code 31 = .ok (.aload_n 2, 1) := by decide +kernel
theorem d36_32 : decode jdk_65_method_121_code 32 = .ok (.areturn, 1) := by decide +kernel
theorem pn_7 : plainName "java/util/Arrays" = true := by first | (simp [plainName, overriddenIn]; done) | decide +kernel
theorem ef_36 (m : MethodId) (x0 : Addr) (x1 : Int32)  : entryFrame m #[(.ref x0), (.int x1)] 3 = mkF m 0 #[.val (.ref x0), .val (.int x1), .unset] [] := by first | (simp [entryFrame, mkF, argsToLocals, Value.category]; done) | rfl
def Q36 (Z : State) (x0 : Addr) (x1 : Int32) (ka : ClassId) (n : Int32) (L : List Int32) (h0 : Heap) (n0 : Nat) (vE : Option Value) (hE : Heap) (LE : List Loc) : Prop := vE = some (.ref h0.size) ∧ Fr n0 LE ∧ Keep h0 hE [] ∧ (∃ kN : ClassId, Exa Z hE h0.size "[B" ∧ Arv Z hE h0.size kN .byte x1 (List.map Value.int (own_cp L (List.replicate (x1).toNatClampNeg (0 : Int32)) ((0 : Int32)).toNatClampNeg ((0 : Int32)).toNatClampNeg (n).toNatClampNeg)) (.int (0 : Int32)))
set_option maxRecDepth 65536 in
set_option maxHeartbeats 40000000 in
theorem rm36 (l : Launch) (Z : State) (a0 : Array Value) (hw : ∀ d ∈ tables_1, d.before a0 Z = true) (ws : List Jvm.Cond) (x0 : Addr) (x1 : Int32) (ka : ClassId) (n : Int32) (L : List Int32) (h0 : Heap) (n0 : Nat) (Z0 : n0 ≤ h0.size) (A_x : Arv Z h0 x0 ka .byte n (List.map Value.int L) (.int (0 : Int32))) (hn0 : 0 ≤ n.toInt) (hlt : n.toInt < x1.toInt) (hcp : x1.toInt ≤ 12300) (hnn : ¬ n < 0) :
    MetFree l (⟨"java/util/Arrays", "copyOf", "([BI)[B"⟩ : MethodName) (head1 (Jvm.Cond.code (⟨"java/util/Arrays", "copyOf", "([BI)[B"⟩ : MethodName) jdk_65_method_121_code 3 (some (.array .byte)) :: ws) ({ frames := 1, cells := 1, slots := 12300, locals := 18 } : Room)) (fun a U => a = #[(.ref x0), (.int x1)] ∧ Z.Warmed39 U.vm ∧ U.heap = h0) (fun _ _ _ _ _ => True) (fun _ U o U' => ∃ vE LE, o = .returned vE ∧ Q36 Z x0 x1 ka n L h0 n0 vE U'.heap LE ∧ FrameEnd U o U' LE ({ frames := 1, cells := 1, slots := 12300, locals := 18 } : Room).cells ({ frames := 1, cells := 1, slots := 12300, locals := 18 } : Room).slots) := by
  refine MetFree.of_bodySF (plainFor_of_name pn_7) hisR ?_
  intro p e s m args below meth c s₁ Bd hml0 hP hK
  obtain ⟨rfl, hZ, hh⟩ := hP
  have hx := Bd.exec
  have hby := Bd.bytes
  have hml : c.maxLocals = 3 := hml0
  have hown : s.vm.findClass "java/util/Arrays" = some m.cls := findClass_of_methodNamed Bd.named
  have hnm := (name_of_methodNamed Bd.named Bd.method).1
  have hlk : meth.locks = false := BodyLoose.notSynchronized Bd
  have X0 : Stand p l e ({ frames := 1, cells := 1, slots := 12300, locals := 18 } : Room) s m #[(.ref x0), (.int x1)] below meth c s₁ [] 0 0 := Stand.of_body Bd
  have e0 : s₁.heap = h0 := by rw [← hh, Bd.state]; rfl
  have N0 := Fr.nil n0
  obtain ⟨sE, hsE⟩ : ∃ z, z = (s₁.setTop (entryFrame m #[(.ref x0), (.int x1)] 3)) := ⟨_, rfl⟩
  have st0 : Steps p.tables e below sE (s₁.setTop (mkF m 0 #[.val (.ref x0), .val (.int x1), .unset] [])) := by rw [hsE]; exact castTop (ef_36 m x0 x1) (Steps.refl _)
  have K0 : Keep h0 h0 [] := Keep.refl _ _
  obtain ⟨cl1, Ar1, -, S1, N1, -, -⟩ := id A_x
  have st2 : Steps p.tables e below sE (s₁.setTop (mkF m 3 #[.val (.ref x0), .val (.int x1), .unset] [(.int n), (.int x1)])) := st0.trans (by
      show Steps _ _ _ (s₁.setTop (mkF m 0 #[.val (.ref x0), .val (.int x1), .unset] [])) _
      refine XS.iloadN X0.here hx rfl (hb hby d36_0) rfl ?_
      show Steps _ _ _ (s₁.setTop (mkF m 1 #[.val (.ref x0), .val (.int x1), .unset] [(.int x1)])) _
      refine XS.aloadN X0.here hx rfl (hb hby d36_1) rfl rfl ?_
      show Steps _ _ _ (s₁.setTop (mkF m 2 #[.val (.ref x0), .val (.int x1), .unset] [(.ref x0), (.int x1)])) _
      refine X0.arraylength hx (by rw [e0]; exact Ar1.1) (State.isArrayOf_alike hZ.alike Ar1.2.1) (g := (mkF m 2 #[.val (.ref x0), .val (.int x1), .unset] [(.ref x0), (.int x1)])) rfl rfl (hb hby d36_2) _ ?_
      rw [len_of S1 N1]
      exact Steps.refl _)
  have hf3 : ¬ (x1 = n) := (fun q => by rw [q] at hlt; omega)
  have st4 : Steps p.tables e below sE (s₁.setTop (mkF m 15 #[.val (.ref x0), .val (.int x1), .unset] [(.int x1)])) := st2.trans (by
      show Steps _ _ _ (s₁.setTop (mkF m 3 #[.val (.ref x0), .val (.int x1), .unset] [(.int n), (.int x1)])) _
      refine XS.icmpYes X0.here hx rfl (pc0 := 3) (pc' := 14) rfl (hb hby d36_3) rfl (feq hf3).2 (by decide) (by decide) ?_
      show Steps _ _ _ (s₁.setTop (mkF m 14 #[.val (.ref x0), .val (.int x1), .unset] [])) _
      refine XS.iloadN X0.here hx rfl (hb hby d36_14) rfl ?_
      exact Steps.refl _)
  obtain ⟨T5, h5, k5, X5, e5, E5, A5, Q5, sr5⟩ := newPE X0 hx hZ (hw _ (List.mem_of_getElem? (i := 21) rfl)) e0 (g := (mkF m 15 #[.val (.ref x0), .val (.int x1), .unset] [(.int x1)])) rfl (hb hby d36_15) rfl (own_nn x1 (by omega)) (cap := 12300) (by have := own_tn x1 (by omega); omega) (by decide) (by decide) (by decide) (ad := "[B") (by decide)
  obtain ⟨b5, g5⟩ : ∃ z, z = h0.size := ⟨_, rfl⟩
  rw [← g5] at A5 Q5 sr5
  have g_b5 : n0 ≤ b5 := Nat.le_trans Z0 (Nat.le_of_eq g5.symm)
  have sz_b5 : h0.size ≤ b5 := Nat.le_trans K0.1 (Nat.le_of_eq g5.symm)
  have ne_x0_b5 : x0 ≠ b5 := Nat.ne_of_lt (Nat.lt_of_lt_of_le A_x.lt (Nat.le_of_eq g5.symm))
  have f6 : Arv Z h5 x0 ka .byte n (List.map Value.int L) (.int (0 : Int32)) := A_x.ext E5
  have K7 : Keep h0 h5 [] := K0.ext E5
  have f8 : Arv Z h5 b5 k5 .byte x1 (List.map Value.int (List.replicate (x1).toNatClampNeg (0 : Int32))) (.int (0 : Int32)) := (Arv.new A5 (own_nn x1 (by omega))).pad (own_padz _)
  have Z5 : n0 ≤ h5.size := Nat.le_trans Z0 E5.1
  have st9 : Steps p.tables e below sE (T5.setTop (mkF m 17 #[.val (.ref x0), .val (.int x1), .unset] [(.ref b5)])) := st4.trans (sr5 _ (Steps.refl _))
  obtain ⟨cl10, Ar10, -, S10, N10, -, -⟩ := id f6
  have st11 : Steps p.tables e below sE (T5.setTop (mkF m 25 #[.val (.ref x0), .val (.int x1), .val (.ref b5)] [(.int x1), (.int n), (.int (0 : Int32)), (.ref b5), (.int (0 : Int32)), (.ref x0)])) := st9.trans (by
      show Steps _ _ _ (T5.setTop (mkF m 17 #[.val (.ref x0), .val (.int x1), .unset] [(.ref b5)])) _
      refine XS.astoreN X5.here hx rfl (hb hby d36_17) rfl rfl (l' := #[.val (.ref x0), .val (.int x1), .val (.ref b5)]) rfl ?_
      show Steps _ _ _ (T5.setTop (mkF m 18 #[.val (.ref x0), .val (.int x1), .val (.ref b5)] [])) _
      refine XS.aloadN X5.here hx rfl (hb hby d36_18) rfl rfl ?_
      show Steps _ _ _ (T5.setTop (mkF m 19 #[.val (.ref x0), .val (.int x1), .val (.ref b5)] [(.ref x0)])) _
      refine XS.iconst X5.here hx rfl (hb hby d36_19) ?_
      show Steps _ _ _ (T5.setTop (mkF m 20 #[.val (.ref x0), .val (.int x1), .val (.ref b5)] [(.int (0 : Int32)), (.ref x0)])) _
      refine XS.aloadN X5.here hx rfl (hb hby d36_20) rfl rfl ?_
      show Steps _ _ _ (T5.setTop (mkF m 21 #[.val (.ref x0), .val (.int x1), .val (.ref b5)] [(.ref b5), (.int (0 : Int32)), (.ref x0)])) _
      refine XS.iconst X5.here hx rfl (hb hby d36_21) ?_
      show Steps _ _ _ (T5.setTop (mkF m 22 #[.val (.ref x0), .val (.int x1), .val (.ref b5)] [(.int (0 : Int32)), (.ref b5), (.int (0 : Int32)), (.ref x0)])) _
      refine XS.aloadN X5.here hx rfl (hb hby d36_22) rfl rfl ?_
      show Steps _ _ _ (T5.setTop (mkF m 23 #[.val (.ref x0), .val (.int x1), .val (.ref b5)] [(.ref x0), (.int (0 : Int32)), (.ref b5), (.int (0 : Int32)), (.ref x0)])) _
      refine X5.arraylength hx (by rw [e5]; exact Ar10.1) (State.isArrayOf_alike hZ.alike Ar10.2.1) (g := (mkF m 23 #[.val (.ref x0), .val (.int x1), .val (.ref b5)] [(.ref x0), (.int (0 : Int32)), (.ref b5), (.int (0 : Int32)), (.ref x0)])) rfl rfl (hb hby d36_23) _ ?_
      rw [len_of S10 N10]
      show Steps _ _ _ (T5.setTop (mkF m 24 #[.val (.ref x0), .val (.int x1), .val (.ref b5)] [(.int n), (.int (0 : Int32)), (.ref b5), (.int (0 : Int32)), (.ref x0)])) _
      refine XS.iloadN X5.here hx rfl (hb hby d36_24) rfl ?_
      exact Steps.refl _)
  obtain ⟨_, _, ⟨T12, L12, k12, n12⟩, -, X12, ⟨Lc12, hQ12, l12, y12, z12⟩, sr12⟩ := Jvm.LawKit.callS X5 hx (y := (⟨"java/lang/Math", "min", "(II)I"⟩ : MethodName)) hown (mvT hZ (hw _ (List.mem_of_getElem? (i := 131) rfl))) (mvT hZ (hw _ (List.mem_of_getElem? (i := 132) rfl))) (mvT hZ (hw _ (List.mem_of_getElem? (i := 133) rfl))) (mvT hZ (hw _ (List.mem_of_getElem? (i := 134) rfl))) (by decide) (backOf (W := 4) (rm24 l Z a0 hw [] n x1  h5 n0 Z5 ) hZ (hw _ (List.mem_of_getElem? (i := 134) rfl)) (hw _ (List.mem_of_getElem? (i := 133) rfl)) (by decide) (by decide)) (g := (mkF m 25 #[.val (.ref x0), .val (.int x1), .val (.ref b5)] [(.int x1), (.int n), (.int (0 : Int32)), (.ref b5), (.int (0 : Int32)), (.ref x0)])) rfl (by rw [hml]; rfl) (argsL := [(.int n), (.int x1)]) (rest := [(.int (0 : Int32)), (.ref b5), (.int (0 : Int32)), (.ref x0)]) (lenOf pd_7 rfl) rfl (by show 2 * 0 + _ ≤ _; exact Nat.le_of_eq rfl) (hb hby d36_25) (fun _ _ => ⟨rfl, e5, (by decide : 1 + 0 ≤ _), (by decide : 12300 + 0 ≤ _)⟩)
  dsimp only [Pt.U, Pt.locs, Pt.cells, Pt.slots] at X12 l12 y12 z12 sr12 hQ12
  subst l12 y12 z12
  obtain ⟨rfl, N12q, hh12⟩ := hQ12
  have N12 := Fr.app N0 N12q
  obtain ⟨LL12, X12, N12⟩ := own_hide X12 N12
  have st13 : Steps p.tables e below sE (T12.setTop (mkF m 28 #[.val (.ref x0), .val (.int x1), .val (.ref b5)] [(.int (F24 n x1)), (.int (0 : Int32)), (.ref b5), (.int (0 : Int32)), (.ref x0)])) := st11.trans (sr12 _ (Steps.refl _))
  have hmn : (F24 n x1) = n := own_min n x1 hlt
  rw [hmn] at st13
  obtain ⟨T14, h14, LL14, X14, e14, N14, K14, V14, sr14⟩ := cpA X12 hx hZ hown (hw _ (List.mem_of_getElem? (i := 135) rfl)) (hw _ (List.mem_of_getElem? (i := 87) rfl)) (hw _ (List.mem_of_getElem? (i := 85) rfl)) (hw _ (List.mem_of_getElem? (i := 86) rfl)) hh12 f6 f8 (Or.inl ⟨rfl, rfl⟩) (by decide) (by decide) hnn (by show 0 + _ ≤ _; omega) (by show 0 + _ ≤ _; have := own_tn n (by omega); have := own_tn x1 (by omega); omega) rfl (by rw [List.length_map, List.length_replicate]; show 0 + _ ≤ _; have := own_tn n (by omega); have := own_tn x1 (by omega); omega) N12 g_b5 (g := (mkF m 28 #[.val (.ref x0), .val (.int x1), .val (.ref b5)] [(.int n), (.int (0 : Int32)), (.ref b5), (.int (0 : Int32)), (.ref x0)])) rfl (by rw [hml]; rfl) rfl (hb hby d36_28) (by decide) (W := 0) (by show 2 * 0 + _ ≤ _; exact Nat.le_of_eq rfl) (by decide)
  have f15 : Arv Z h14 x0 ka .byte n (List.map Value.int L) (.int (0 : Int32)) := f6.keep K14 (ninS ne_x0_b5 nin0)
  have f16 : Exa Z h14 b5 "[B" := Q5.keep K14
  have K17 : Keep h0 h14 [] := K7.trans K14 (allS (Or.inr sz_b5) all0)
  have Z18 : n0 ≤ h14.size := Nat.le_trans Z5 K14.1
  have f19 : Arv Z h14 b5 k5 .byte x1 (List.map Value.int (own_cp L (List.replicate (x1).toNatClampNeg (0 : Int32)) ((0 : Int32)).toNatClampNeg ((0 : Int32)).toNatClampNeg (n).toNatClampNeg)) (.int (0 : Int32)) := (by have q := V14; rw [own_cpv L _ _ _ _] at q; exact q)
  have st20 : Steps p.tables e below sE (T14.setTop (mkF m 31 #[.val (.ref x0), .val (.int x1), .val (.ref b5)] [])) := st13.trans (sr14 _ (Steps.refl _))
  have st21 : Steps p.tables e below sE (T14.setTop (mkF m 32 #[.val (.ref x0), .val (.int x1), .val (.ref b5)] [(.ref b5)])) := st20.trans (by
      show Steps _ _ _ (T14.setTop (mkF m 31 #[.val (.ref x0), .val (.int x1), .val (.ref b5)] [])) _
      refine XS.aloadN X14.here hx rfl (hb hby d36_31) rfl rfl ?_
      exact Steps.refl _)
  obtain ⟨fs, hr, hrun, hended, hW, hsame⟩ := X14.leave (v := some (.ref b5)) (fun h => by rw [Bd.returns] at h; cases h) hlk
  refine ⟨_, _, (own_ent hsE st21).trans ?_, hrun, hended, _, _, rfl, ?_, ⟨_, rfl⟩, hW, hsame.mono (by decide) (by decide)⟩
  · exact retOut X14 hx (t := (.array .byte)) Bd.returns rfl (Or.inr (Or.inr (Or.inr (Or.inr ⟨rfl, rfl, rfl⟩)))) (hb hby d36_32) hr
  · show Q36 Z x0 x1 ka n L h0 n0 _ T14.heap _
    rw [e14]
    exact ⟨by rw [g5], N14, K17, ⟨k5, by rw [← g5]; exact f16, by rw [← g5]; exact f19⟩⟩
theorem d10_0 : decode jdk_68_method_9_code 0 = .ok (.aload_n 0, 1) := by decide +kernel
theorem d10_1 : decode jdk_68_method_9_code 1 = .ok (.getfield 15, 3) := by decide +kernel
theorem d10_4 : decode jdk_68_method_9_code 4 = .ok (.arraylength, 1) := by decide +kernel
theorem d10_5 : decode jdk_68_method_9_code 5 = .ok (.aload_n 0, 1) := by decide +kernel
theorem d10_6 : decode jdk_68_method_9_code 6 = .ok (.getfield 22, 3) := by decide +kernel
theorem d10_9 : decode jdk_68_method_9_code 9 = .ok (.ishr, 1) := by decide +kernel
theorem d10_10 : decode jdk_68_method_9_code 10 = .ok (.istore_n 2, 1) := by decide +kernel
theorem d10_11 : decode jdk_68_method_9_code 11 = .ok (.iload_n 1, 1) := by decide +kernel
theorem d10_12 : decode jdk_68_method_9_code 12 = .ok (.iload_n 2, 1) := by decide +kernel
theorem d10_13 : decode jdk_68_method_9_code 13 = .ok (.isub, 1) := by decide +kernel
theorem d10_14 : decode jdk_68_method_9_code 14 = .ok (.ifCond .le 24, 3) := by decide +kernel
theorem d10_38 : decode jdk_68_method_9_code 38 = .ok (.return_, 1) := by decide +kernel
theorem ef_ecF (m : MethodId) (x0 : Addr) (x1 : Int32)  : entryFrame m #[(.ref x0), (.int x1)] 3 = mkF m 0 #[.val (.ref x0), .val (.int x1), .unset] [] := by first | (simp [entryFrame, mkF, argsToLocals, Value.category]; done) | rfl
def QecF (Z : State) (x0 : Addr) (x1 : Int32) (aV : Addr) (kV : ClassId) (n : Int32) (L : List Int32) (h0 : Heap) (n0 : Nat) (vE : Option Value) (hE : Heap) (LE : List Loc) : Prop := vE = none ∧ Fr n0 LE ∧ hE = h0
set_option maxRecDepth 65536 in
set_option maxHeartbeats 40000000 in
theorem rmecF (l : Launch) (Z : State) (a0 : Array Value) (hw : ∀ d ∈ tables_1, d.before a0 Z = true) (ws : List Jvm.Cond) (x0 : Addr) (x1 : Int32) (aV : Addr) (kV : ClassId) (n : Int32) (L : List Int32) (h0 : Heap) (n0 : Nat) (Z0 : n0 ≤ h0.size) (E_x : Exa Z h0 x0 "java/lang/StringBuilder") (F_v : Fld Z h0 x0 "java/lang/AbstractStringBuilder" "value" "[B" (.ref aV)) (F_c : Fld Z h0 x0 "java/lang/AbstractStringBuilder" "coder" "B" (.int (0 : Int32))) (E_v : Exa Z h0 aV "[B") (A_v : Arv Z h0 aV kV .byte n (List.map Value.int L) (.int (0 : Int32))) (hft : ¬ (0 : Int32) < (x1 - n)) :
    MetFree l (⟨"java/lang/AbstractStringBuilder", "ensureCapacityInternal", "(I)V"⟩ : MethodName) (head1 (Jvm.Cond.code (⟨"java/lang/AbstractStringBuilder", "ensureCapacityInternal", "(I)V"⟩ : MethodName) jdk_68_method_9_code 3 none :: ws) ({ frames := 0, cells := 0, slots := 0, locals := 0 } : Room)) (fun a U => a = #[(.ref x0), (.int x1)] ∧ Z.Warmed39 U.vm ∧ U.heap = h0) (fun _ _ _ _ _ => True) (fun _ U o U' => ∃ vE LE, o = .returned vE ∧ QecF Z x0 x1 aV kV n L h0 n0 vE U'.heap LE ∧ FrameEnd U o U' LE ({ frames := 0, cells := 0, slots := 0, locals := 0 } : Room).cells ({ frames := 0, cells := 0, slots := 0, locals := 0 } : Room).slots) := by
  refine MetFree.of_bodySF (plainFor_of_name pn_4) hisR ?_
  intro p e s m args below meth c s₁ Bd hml0 hP hK
  obtain ⟨rfl, hZ, hh⟩ := hP
  have hx := Bd.exec
  have hby := Bd.bytes
  have hml : c.maxLocals = 3 := hml0
  have hown : s.vm.findClass "java/lang/AbstractStringBuilder" = some m.cls := findClass_of_methodNamed Bd.named
  have hnm := (name_of_methodNamed Bd.named Bd.method).1
  have hlk : meth.locks = false := BodyLoose.notSynchronized Bd
  have X0 : Stand p l e ({ frames := 0, cells := 0, slots := 0, locals := 0 } : Room) s m #[(.ref x0), (.int x1)] below meth c s₁ [] 0 0 := Stand.of_body Bd
  have e0 : s₁.heap = h0 := by rw [← hh, Bd.state]; rfl
  have N0 := Fr.nil n0
  obtain ⟨sE, hsE⟩ : ∃ z, z = (s₁.setTop (entryFrame m #[(.ref x0), (.int x1)] 3)) := ⟨_, rfl⟩
  have st0 : Steps p.tables e below sE (s₁.setTop (mkF m 0 #[.val (.ref x0), .val (.int x1), .unset] [])) := by rw [hsE]; exact castTop (ef_ecF m x0 x1) (Steps.refl _)
  have st1 : Steps p.tables e below sE (s₁.setTop (mkF m 1 #[.val (.ref x0), .val (.int x1), .unset] [(.ref x0)])) := st0.trans (by
      show Steps _ _ _ (s₁.setTop (mkF m 0 #[.val (.ref x0), .val (.int x1), .unset] [])) _
      refine XS.aloadN X0.here hx rfl (hb hby d10_0) rfl rfl ?_
      exact Steps.refl _)
  obtain ⟨T2, X2, e2, sr2⟩ := getF X0 hx hZ hown (host := "") (Or.inl (hw _ (List.mem_of_getElem? (i := 22) rfl))) Via.refl e0 F_v (g := (mkF m 1 #[.val (.ref x0), .val (.int x1), .unset] [(.ref x0)])) rfl rfl (hb hby d10_1)
  have st3 : Steps p.tables e below sE (T2.setTop (mkF m 4 #[.val (.ref x0), .val (.int x1), .unset] [(.ref aV)])) := st1.trans (sr2 _ (Steps.refl _))
  obtain ⟨cl4, Ar4, -, S4, N4, -, -⟩ := id A_v
  have st5 : Steps p.tables e below sE (T2.setTop (mkF m 6 #[.val (.ref x0), .val (.int x1), .unset] [(.ref x0), (.int n)])) := st3.trans (by
      show Steps _ _ _ (T2.setTop (mkF m 4 #[.val (.ref x0), .val (.int x1), .unset] [(.ref aV)])) _
      refine X2.arraylength hx (by rw [e2]; exact Ar4.1) (State.isArrayOf_alike hZ.alike Ar4.2.1) (g := (mkF m 4 #[.val (.ref x0), .val (.int x1), .unset] [(.ref aV)])) rfl rfl (hb hby d10_4) _ ?_
      rw [len_of S4 N4]
      show Steps _ _ _ (T2.setTop (mkF m 5 #[.val (.ref x0), .val (.int x1), .unset] [(.int n)])) _
      refine XS.aloadN X2.here hx rfl (hb hby d10_5) rfl rfl ?_
      exact Steps.refl _)
  obtain ⟨T6, X6, e6, sr6⟩ := getF X2 hx hZ hown (host := "") (Or.inl (hw _ (List.mem_of_getElem? (i := 24) rfl))) Via.refl e2 F_c (g := (mkF m 6 #[.val (.ref x0), .val (.int x1), .unset] [(.ref x0), (.int n)])) rfl rfl (hb hby d10_6)
  have st7 : Steps p.tables e below sE (T6.setTop (mkF m 9 #[.val (.ref x0), .val (.int x1), .unset] [(.int (0 : Int32)), (.int n)])) := st5.trans (sr6 _ (Steps.refl _))
  have st8 : Steps p.tables e below sE (T6.setTop (mkF m 10 #[.val (.ref x0), .val (.int x1), .unset] [(.int (n >>> ((0 : Int32) &&& 31)))])) := st7.trans (by
      show Steps _ _ _ (T6.setTop (mkF m 9 #[.val (.ref x0), .val (.int x1), .unset] [(.int (0 : Int32)), (.int n)])) _
      refine XS.ishr X6.here hx rfl (hb hby d10_9) rfl ?_
      exact Steps.refl _)
  have hw9 : (n >>> ((0 : Int32) &&& 31)) = n := own_sr n
  rw [hw9] at st8
  have st10 : Steps p.tables e below sE (T6.setTop (mkF m 14 #[.val (.ref x0), .val (.int x1), .val (.int n)] [(.int (x1 - n))])) := st8.trans (by
      show Steps _ _ _ (T6.setTop (mkF m 10 #[.val (.ref x0), .val (.int x1), .unset] [(.int n)])) _
      refine XS.istoreN X6.here hx rfl (hb hby d10_10) rfl (l' := #[.val (.ref x0), .val (.int x1), .val (.int n)]) rfl ?_
      show Steps _ _ _ (T6.setTop (mkF m 11 #[.val (.ref x0), .val (.int x1), .val (.int n)] [])) _
      refine XS.iloadN X6.here hx rfl (hb hby d10_11) rfl ?_
      show Steps _ _ _ (T6.setTop (mkF m 12 #[.val (.ref x0), .val (.int x1), .val (.int n)] [(.int x1)])) _
      refine XS.iloadN X6.here hx rfl (hb hby d10_12) rfl ?_
      show Steps _ _ _ (T6.setTop (mkF m 13 #[.val (.ref x0), .val (.int x1), .val (.int n)] [(.int n), (.int x1)])) _
      refine XS.isub X6.here hx rfl (hb hby d10_13) rfl ?_
      exact Steps.refl _)
  have hf11 : ¬ ((0 : Int32) < (x1 - n)) := hft
  have st12 : Steps p.tables e below sE (T6.setTop (mkF m 38 #[.val (.ref x0), .val (.int x1), .val (.int n)] [])) := st10.trans (by
      show Steps _ _ _ (T6.setTop (mkF m 14 #[.val (.ref x0), .val (.int x1), .val (.int n)] [(.int (x1 - n))])) _
      refine XS.ifYes X6.here hx rfl (pc0 := 14) (pc' := 38) rfl (hb hby d10_14) rfl ((if0 _ _).trans (flt hf11).2.2.2) (by decide) (by decide) ?_
      exact Steps.refl _)
  obtain ⟨fs, hr, hrun, hended, hW, hsame⟩ := X6.leave (v := none) (fun _ => rfl) hlk
  refine ⟨_, _, (own_ent hsE st12).trans ?_, hrun, hended, _, _, rfl, ?_, ⟨_, rfl⟩, hW, hsame.mono (by decide) (by decide)⟩
  · exact X6.returnOut hx Bd.returns (hb hby d10_38) hr
  · show QecF Z x0 x1 aV kV n L h0 n0 _ T6.heap _
    rw [e6]
    exact ⟨rfl, N0, rfl⟩
theorem own_cp0 (L LD : List Int32) (i : Nat) {n : Nat} (hL : L.length = n) (hi : i < n) (hD : n ≤ LD.length) : (own_cp L LD ((0 : Int32)).toNatClampNeg ((0 : Int32)).toNatClampNeg n).getD i 0 = L.getD i 0 := by
  rw [show ((0 : Int32)).toNatClampNeg = 0 by decide, own_cpg _ _ _ _ _ _ (by omega), if_pos (by omega)]
  congr 1; omega
theorem pd_9 : parseMethodDescriptor "(I)I" = some ⟨[.int], some .int⟩ := by decide +kernel
theorem pd_10 : parseMethodDescriptor "([BI)[B" = some ⟨[(.array .byte), .int], some (.array .byte)⟩ := by decide +kernel
theorem d10_17 : decode jdk_68_method_9_code 17 = .ok (.aload_n 0, 1) := by decide +kernel
theorem d10_18 : decode jdk_68_method_9_code 18 = .ok (.aload_n 0, 1) := by decide +kernel
theorem d10_19 : decode jdk_68_method_9_code 19 = .ok (.getfield 15, 3) := by decide +kernel
theorem d10_22 : decode jdk_68_method_9_code 22 = .ok (.aload_n 0, 1) := by decide +kernel
theorem d10_23 : decode jdk_68_method_9_code 23 = .ok (.iload_n 1, 1) := by decide +kernel
theorem d10_24 : decode jdk_68_method_9_code 24 = .ok (.invokevirtual 104, 3) := by decide +kernel
theorem d10_27 : decode jdk_68_method_9_code 27 = .ok (.aload_n 0, 1) := by decide +kernel
theorem d10_28 : decode jdk_68_method_9_code 28 = .ok (.getfield 22, 3) := by decide +kernel
theorem d10_31 : decode jdk_68_method_9_code 31 = .ok (.ishl, 1) := by decide +kernel
theorem d10_32 : decode jdk_68_method_9_code 32 = .ok (.invokestatic 108, 3) := by decide +kernel
theorem d10_35 : decode jdk_68_method_9_code 35 = .ok (.putfield 15, 3) := by decide +kernel
def QecG (Z : State) (x0 : Addr) (x1 : Int32) (aV : Addr) (kV : ClassId) (n : Int32) (L : List Int32) (cn : Int32) (h0 : Heap) (n0 : Nat) (vE : Option Value) (hE : Heap) (LE : List Loc) : Prop := vE = none ∧ Fr n0 LE ∧ Keep h0 hE [x0] ∧ Exa Z hE x0 "java/lang/StringBuilder" ∧ Fld Z hE x0 "java/lang/AbstractStringBuilder" "coder" "B" (.int (0 : Int32)) ∧ Fld Z hE x0 "java/lang/AbstractStringBuilder" "count" "I" (.int cn) ∧ (∃ (aN : Addr) (kN : ClassId) (nz : Int32) (LN : List Int32), Fld Z hE x0 "java/lang/AbstractStringBuilder" "value" "[B" (.ref aN) ∧ Exa Z hE aN "[B" ∧ Arv Z hE aN kN .byte nz (List.map Value.int LN) (.int (0 : Int32)) ∧ LN.length = nz.toNatClampNeg ∧ x1.toInt ≤ nz.toInt ∧ 0 ≤ nz.toInt ∧ nz.toInt ≤ 12300 ∧ (nz.toInt = x1.toInt ∨ nz.toInt = 2 * n.toInt + 2) ∧ (∀ i, i < n.toNatClampNeg → LN.getD i 0 = L.getD i 0) ∧ n0 ≤ aN ∧ x0 ≠ aN ∧ h0.size ≤ aN)
set_option maxRecDepth 65536 in
set_option maxHeartbeats 40000000 in
theorem rmecG (l : Launch) (Z : State) (a0 : Array Value) (hw : ∀ d ∈ tables_1, d.before a0 Z = true) (ws : List Jvm.Cond) (x0 : Addr) (x1 : Int32) (aV : Addr) (kV : ClassId) (n : Int32) (L : List Int32) (cn : Int32) (h0 : Heap) (n0 : Nat) (Z0 : n0 ≤ h0.size) (E_x : Exa Z h0 x0 "java/lang/StringBuilder") (F_v : Fld Z h0 x0 "java/lang/AbstractStringBuilder" "value" "[B" (.ref aV)) (F_c : Fld Z h0 x0 "java/lang/AbstractStringBuilder" "coder" "B" (.int (0 : Int32))) (E_v : Exa Z h0 aV "[B") (A_v : Arv Z h0 aV kV .byte n (List.map Value.int L) (.int (0 : Int32))) (F_n : Fld Z h0 x0 "java/lang/AbstractStringBuilder" "count" "I" (.int cn)) (hgr : (0 : Int32) < (x1 - n)) (hnb : 0 ≤ n.toInt ∧ n.toInt ≤ 6141) (hxb : 0 ≤ x1.toInt ∧ x1.toInt ≤ 6142) (hLl : L.length = n.toNatClampNeg) (g_x : n0 ≤ x0) (ne_xv : x0 ≠ aV) :
    MetFree l (⟨"java/lang/AbstractStringBuilder", "ensureCapacityInternal", "(I)V"⟩ : MethodName) (head1 (Jvm.Cond.code (⟨"java/lang/AbstractStringBuilder", "ensureCapacityInternal", "(I)V"⟩ : MethodName) jdk_68_method_9_code 3 none :: ws) ({ frames := 3, cells := 1, slots := 12300, locals := 48 } : Room)) (fun a U => a = #[(.ref x0), (.int x1)] ∧ Z.Warmed39 U.vm ∧ U.heap = h0) (fun _ _ _ _ _ => True) (fun _ U o U' => ∃ vE LE, o = .returned vE ∧ QecG Z x0 x1 aV kV n L cn h0 n0 vE U'.heap LE ∧ FrameEnd U o U' LE ({ frames := 3, cells := 1, slots := 12300, locals := 48 } : Room).cells ({ frames := 3, cells := 1, slots := 12300, locals := 48 } : Room).slots) := by
  refine MetFree.of_bodySF (plainFor_of_name pn_4) hisR ?_
  intro p e s m args below meth c s₁ Bd hml0 hP hK
  obtain ⟨rfl, hZ, hh⟩ := hP
  have hx := Bd.exec
  have hby := Bd.bytes
  have hml : c.maxLocals = 3 := hml0
  have hown : s.vm.findClass "java/lang/AbstractStringBuilder" = some m.cls := findClass_of_methodNamed Bd.named
  have hnm := (name_of_methodNamed Bd.named Bd.method).1
  have hlk : meth.locks = false := BodyLoose.notSynchronized Bd
  have X0 : Stand p l e ({ frames := 3, cells := 1, slots := 12300, locals := 48 } : Room) s m #[(.ref x0), (.int x1)] below meth c s₁ [] 0 0 := Stand.of_body Bd
  have e0 : s₁.heap = h0 := by rw [← hh, Bd.state]; rfl
  have N0 := Fr.nil n0
  obtain ⟨sE, hsE⟩ : ∃ z, z = (s₁.setTop (entryFrame m #[(.ref x0), (.int x1)] 3)) := ⟨_, rfl⟩
  have st0 : Steps p.tables e below sE (s₁.setTop (mkF m 0 #[.val (.ref x0), .val (.int x1), .unset] [])) := by rw [hsE]; exact castTop (ef_ecF m x0 x1) (Steps.refl _)
  have K0 : Keep h0 h0 [x0] := Keep.refl _ _
  have st1 : Steps p.tables e below sE (s₁.setTop (mkF m 1 #[.val (.ref x0), .val (.int x1), .unset] [(.ref x0)])) := st0.trans (by
      show Steps _ _ _ (s₁.setTop (mkF m 0 #[.val (.ref x0), .val (.int x1), .unset] [])) _
      refine XS.aloadN X0.here hx rfl (hb hby d10_0) rfl rfl ?_
      exact Steps.refl _)
  obtain ⟨T2, X2, e2, sr2⟩ := getF X0 hx hZ hown (host := "") (Or.inl (hw _ (List.mem_of_getElem? (i := 22) rfl))) Via.refl e0 F_v (g := (mkF m 1 #[.val (.ref x0), .val (.int x1), .unset] [(.ref x0)])) rfl rfl (hb hby d10_1)
  have st3 : Steps p.tables e below sE (T2.setTop (mkF m 4 #[.val (.ref x0), .val (.int x1), .unset] [(.ref aV)])) := st1.trans (sr2 _ (Steps.refl _))
  obtain ⟨cl4, Ar4, -, S4, N4, -, -⟩ := id A_v
  have st5 : Steps p.tables e below sE (T2.setTop (mkF m 6 #[.val (.ref x0), .val (.int x1), .unset] [(.ref x0), (.int n)])) := st3.trans (by
      show Steps _ _ _ (T2.setTop (mkF m 4 #[.val (.ref x0), .val (.int x1), .unset] [(.ref aV)])) _
      refine X2.arraylength hx (by rw [e2]; exact Ar4.1) (State.isArrayOf_alike hZ.alike Ar4.2.1) (g := (mkF m 4 #[.val (.ref x0), .val (.int x1), .unset] [(.ref aV)])) rfl rfl (hb hby d10_4) _ ?_
      rw [len_of S4 N4]
      show Steps _ _ _ (T2.setTop (mkF m 5 #[.val (.ref x0), .val (.int x1), .unset] [(.int n)])) _
      refine XS.aloadN X2.here hx rfl (hb hby d10_5) rfl rfl ?_
      exact Steps.refl _)
  obtain ⟨T6, X6, e6, sr6⟩ := getF X2 hx hZ hown (host := "") (Or.inl (hw _ (List.mem_of_getElem? (i := 24) rfl))) Via.refl e2 F_c (g := (mkF m 6 #[.val (.ref x0), .val (.int x1), .unset] [(.ref x0), (.int n)])) rfl rfl (hb hby d10_6)
  have st7 : Steps p.tables e below sE (T6.setTop (mkF m 9 #[.val (.ref x0), .val (.int x1), .unset] [(.int (0 : Int32)), (.int n)])) := st5.trans (sr6 _ (Steps.refl _))
  have st8 : Steps p.tables e below sE (T6.setTop (mkF m 10 #[.val (.ref x0), .val (.int x1), .unset] [(.int (n >>> ((0 : Int32) &&& 31)))])) := st7.trans (by
      show Steps _ _ _ (T6.setTop (mkF m 9 #[.val (.ref x0), .val (.int x1), .unset] [(.int (0 : Int32)), (.int n)])) _
      refine XS.ishr X6.here hx rfl (hb hby d10_9) rfl ?_
      exact Steps.refl _)
  have hw9 : (n >>> ((0 : Int32) &&& 31)) = n := own_sr n
  rw [hw9] at st8
  have st10 : Steps p.tables e below sE (T6.setTop (mkF m 14 #[.val (.ref x0), .val (.int x1), .val (.int n)] [(.int (x1 - n))])) := st8.trans (by
      show Steps _ _ _ (T6.setTop (mkF m 10 #[.val (.ref x0), .val (.int x1), .unset] [(.int n)])) _
      refine XS.istoreN X6.here hx rfl (hb hby d10_10) rfl (l' := #[.val (.ref x0), .val (.int x1), .val (.int n)]) rfl ?_
      show Steps _ _ _ (T6.setTop (mkF m 11 #[.val (.ref x0), .val (.int x1), .val (.int n)] [])) _
      refine XS.iloadN X6.here hx rfl (hb hby d10_11) rfl ?_
      show Steps _ _ _ (T6.setTop (mkF m 12 #[.val (.ref x0), .val (.int x1), .val (.int n)] [(.int x1)])) _
      refine XS.iloadN X6.here hx rfl (hb hby d10_12) rfl ?_
      show Steps _ _ _ (T6.setTop (mkF m 13 #[.val (.ref x0), .val (.int x1), .val (.int n)] [(.int n), (.int x1)])) _
      refine XS.isub X6.here hx rfl (hb hby d10_13) rfl ?_
      exact Steps.refl _)
  have hf11 : (0 : Int32) < (x1 - n) := hgr
  have st12 : Steps p.tables e below sE (T6.setTop (mkF m 19 #[.val (.ref x0), .val (.int x1), .val (.int n)] [(.ref x0), (.ref x0)])) := st10.trans (by
      show Steps _ _ _ (T6.setTop (mkF m 14 #[.val (.ref x0), .val (.int x1), .val (.int n)] [(.int (x1 - n))])) _
      refine XS.ifNo X6.here hx rfl (hb hby d10_14) rfl ((if0 _ _).trans (tlt hf11).2.2.2) ?_
      show Steps _ _ _ (T6.setTop (mkF m 17 #[.val (.ref x0), .val (.int x1), .val (.int n)] [])) _
      refine XS.aloadN X6.here hx rfl (hb hby d10_17) rfl rfl ?_
      show Steps _ _ _ (T6.setTop (mkF m 18 #[.val (.ref x0), .val (.int x1), .val (.int n)] [(.ref x0)])) _
      refine XS.aloadN X6.here hx rfl (hb hby d10_18) rfl rfl ?_
      exact Steps.refl _)
  obtain ⟨T13, X13, e13, sr13⟩ := getF X6 hx hZ hown (host := "") (Or.inl (hw _ (List.mem_of_getElem? (i := 22) rfl))) Via.refl e6 F_v (g := (mkF m 19 #[.val (.ref x0), .val (.int x1), .val (.int n)] [(.ref x0), (.ref x0)])) rfl rfl (hb hby d10_19)
  have st14 : Steps p.tables e below sE (T13.setTop (mkF m 22 #[.val (.ref x0), .val (.int x1), .val (.int n)] [(.ref aV), (.ref x0)])) := st12.trans (sr13 _ (Steps.refl _))
  have st15 : Steps p.tables e below sE (T13.setTop (mkF m 24 #[.val (.ref x0), .val (.int x1), .val (.int n)] [(.int x1), (.ref x0), (.ref aV), (.ref x0)])) := st14.trans (by
      show Steps _ _ _ (T13.setTop (mkF m 22 #[.val (.ref x0), .val (.int x1), .val (.int n)] [(.ref aV), (.ref x0)])) _
      refine XS.aloadN X13.here hx rfl (hb hby d10_22) rfl rfl ?_
      show Steps _ _ _ (T13.setTop (mkF m 23 #[.val (.ref x0), .val (.int x1), .val (.int n)] [(.ref x0), (.ref aV), (.ref x0)])) _
      refine XS.iloadN X13.here hx rfl (hb hby d10_23) rfl ?_
      exact Steps.refl _)
  obtain ⟨cq16, q16, q16'⟩ := E_x.cell
  obtain ⟨_, _, ⟨T16, L16, k16, n16⟩, -, X16, ⟨Lc16, hQ16, l16, y16, z16⟩, sr16⟩ := X13.privateBack hx (y := (⟨"java/lang/AbstractStringBuilder", "newCapacity", "(I)I"⟩ : MethodName)) hown (mvT hZ (hw _ (List.mem_of_getElem? (i := 172) rfl))) (mvT hZ (hw _ (List.mem_of_getElem? (i := 173) rfl))) (own_selp (z := (⟨"java/lang/AbstractStringBuilder", "ensureCapacityInternal", "(I)V"⟩ : MethodName)) rfl (notFace_of_selects (args := #[]) (mvT hZ (hw _ (List.mem_of_getElem? (i := 66) rfl)))) (args' := #[]) (mvT hZ (hw _ (List.mem_of_getElem? (i := 64) rfl))) (Cond.privateMethod_at (mvP hZ (hw _ (List.mem_of_getElem? (i := 174) rfl)) (args := #[]))) (mvT hZ (hw _ (List.mem_of_getElem? (i := 173) rfl))) (by decide)) (Cond.privateMethod_at (mvP hZ (hw _ (List.mem_of_getElem? (i := 174) rfl)) (args := #[]))) (mvT hZ (hw _ (List.mem_of_getElem? (i := 176) rfl))) (by decide) (backOf (W := 2) (rm33 l Z a0 hw [] x0 x1 aV kV n L h0 n0 Z0 F_v F_c A_v (own_nc n x1 hnb hxb hgr).1 (own_nc n x1 hnb hxb hgr).2.1 (own_nc n x1 hnb hxb hgr).2.2.1) hZ (hw _ (List.mem_of_getElem? (i := 176) rfl)) (hw _ (List.mem_of_getElem? (i := 14) rfl)) (by decide) (by decide)) (g := (mkF m 24 #[.val (.ref x0), .val (.int x1), .val (.int n)] [(.int x1), (.ref x0), (.ref aV), (.ref x0)])) rfl (by rw [hml]; rfl) (Steps.refl _) (a := x0) (by rw [e13]; exact q16) q16' (argsL := [(.int x1)]) (rest := [(.ref aV), (.ref x0)]) (lenOf pd_9 rfl) rfl (by show 2 * 0 + _ ≤ _; exact Nat.le_of_eq rfl) (hb hby d10_24) (fun _ _ => ⟨rfl, e13, (by decide : 0 + 0 ≤ _), (by decide : 0 + 0 ≤ _)⟩)
  dsimp only [Pt.U, Pt.locs, Pt.cells, Pt.slots] at X16 l16 y16 z16 sr16 hQ16
  subst l16 y16 z16
  obtain ⟨rfl, N16q, hh16⟩ := hQ16
  have N16 := Fr.app N0 N16q
  obtain ⟨LL16, X16, N16⟩ := own_hide X16 N16
  have st17 : Steps p.tables e below sE (T16.setTop (mkF m 27 #[.val (.ref x0), .val (.int x1), .val (.int n)] [(.int (n + (F35 (x1 - n) (n + (2 : Int32))))), (.ref aV), (.ref x0)])) := st15.trans (sr16)
  have hnc := own_nc n x1 hnb hxb hgr
  obtain ⟨nz, e_nz⟩ : ∃ z, z = (n + (F35 (x1 - n) (n + (2 : Int32)))) := ⟨_, rfl⟩
  rw [← e_nz] at st17
  rw [← e_nz] at hnc
  have st18 : Steps p.tables e below sE (T16.setTop (mkF m 28 #[.val (.ref x0), .val (.int x1), .val (.int n)] [(.ref x0), (.int nz), (.ref aV), (.ref x0)])) := st17.trans (by
      show Steps _ _ _ (T16.setTop (mkF m 27 #[.val (.ref x0), .val (.int x1), .val (.int n)] [(.int nz), (.ref aV), (.ref x0)])) _
      refine XS.aloadN X16.here hx rfl (hb hby d10_27) rfl rfl ?_
      exact Steps.refl _)
  obtain ⟨T19, X19, e19, sr19⟩ := getF X16 hx hZ hown (host := "") (Or.inl (hw _ (List.mem_of_getElem? (i := 24) rfl))) Via.refl hh16 F_c (g := (mkF m 28 #[.val (.ref x0), .val (.int x1), .val (.int n)] [(.ref x0), (.int nz), (.ref aV), (.ref x0)])) rfl rfl (hb hby d10_28)
  have st20 : Steps p.tables e below sE (T19.setTop (mkF m 31 #[.val (.ref x0), .val (.int x1), .val (.int n)] [(.int (0 : Int32)), (.int nz), (.ref aV), (.ref x0)])) := st18.trans (sr19 _ (Steps.refl _))
  have st21 : Steps p.tables e below sE (T19.setTop (mkF m 32 #[.val (.ref x0), .val (.int x1), .val (.int n)] [(.int (nz <<< ((0 : Int32) &&& 31))), (.ref aV), (.ref x0)])) := st20.trans (by
      show Steps _ _ _ (T19.setTop (mkF m 31 #[.val (.ref x0), .val (.int x1), .val (.int n)] [(.int (0 : Int32)), (.int nz), (.ref aV), (.ref x0)])) _
      refine XS.ishl X19.here hx rfl (hb hby d10_31) rfl ?_
      exact Steps.refl _)
  have hw22 : (nz <<< ((0 : Int32) &&& 31)) = nz := own_sl nz
  rw [hw22] at st21
  obtain ⟨_, _, ⟨T23, L23, k23, n23⟩, -, X23, ⟨Lc23, hQ23, l23, y23, z23⟩, sr23⟩ := Jvm.LawKit.callS X19 hx (y := (⟨"java/util/Arrays", "copyOf", "([BI)[B"⟩ : MethodName)) hown (mvT hZ (hw _ (List.mem_of_getElem? (i := 186) rfl))) (mvT hZ (hw _ (List.mem_of_getElem? (i := 187) rfl))) (mvT hZ (hw _ (List.mem_of_getElem? (i := 123) rfl))) (mvT hZ (hw _ (List.mem_of_getElem? (i := 188) rfl))) (by decide) (backOf (W := 1) (rm36 l Z a0 hw [] aV nz kV n L h0 n0 Z0 A_v hnb.1 hnc.2.2.2.2.1 hnc.2.2.2.2.2.1 (own_nn n hnb.1)) hZ (hw _ (List.mem_of_getElem? (i := 188) rfl)) (hw _ (List.mem_of_getElem? (i := 123) rfl)) (by decide) (by decide)) (g := (mkF m 32 #[.val (.ref x0), .val (.int x1), .val (.int n)] [(.int nz), (.ref aV), (.ref x0)])) rfl (by rw [hml]; rfl) (argsL := [(.ref aV), (.int nz)]) (rest := [(.ref x0)]) (lenOf pd_10 rfl) rfl (by show 2 * 0 + _ ≤ _; exact Nat.le_of_eq rfl) (hb hby d10_32) (fun _ _ => ⟨rfl, e19, (by decide : 0 + 1 ≤ _), (by decide : 0 + 12300 ≤ _)⟩)
  dsimp only [Pt.U, Pt.locs, Pt.cells, Pt.slots] at X23 l23 y23 z23 sr23 hQ23
  subst l23 y23 z23
  obtain ⟨rfl, N23q, K23c, ⟨kN, qE, qA⟩⟩ := hQ23
  have N23 := Fr.app N16 N23q
  obtain ⟨LL23, X23, N23⟩ := own_hide X23 N23
  have f24 : Exa Z T23.heap x0 "java/lang/StringBuilder" := E_x.keep K23c
  have f25 : Fld Z T23.heap x0 "java/lang/AbstractStringBuilder" "value" "[B" (.ref aV) := F_v.keep K23c nin0
  have f26 : Fld Z T23.heap x0 "java/lang/AbstractStringBuilder" "coder" "B" (.int (0 : Int32)) := F_c.keep K23c nin0
  have f27 : Exa Z T23.heap aV "[B" := E_v.keep K23c
  have f28 : Arv Z T23.heap aV kV .byte n (List.map Value.int L) (.int (0 : Int32)) := A_v.keep K23c nin0
  have f29 : Fld Z T23.heap x0 "java/lang/AbstractStringBuilder" "count" "I" (.int cn) := F_n.keep K23c nin0
  have K30 : Keep h0 T23.heap [x0] := K0.trans K23c all0
  have Z31 : n0 ≤ T23.heap.size := Nat.le_trans Z0 K23c.1
  obtain ⟨aN, gaN⟩ : ∃ z, z = h0.size := ⟨_, rfl⟩
  rw [← gaN] at qE qA sr23
  have g_aN : n0 ≤ aN := Nat.le_trans Z0 (Nat.le_of_eq gaN.symm)
  have sz_aN : h0.size ≤ aN := Nat.le_trans K0.1 (Nat.le_of_eq gaN.symm)
  have ne_x0_aN : x0 ≠ aN := Nat.ne_of_lt (Nat.lt_of_lt_of_le E_x.lt (Nat.le_of_eq gaN.symm))
  have ne_aV_aN : aV ≠ aN := Nat.ne_of_lt (Nat.lt_of_lt_of_le E_v.lt (Nat.le_of_eq gaN.symm))
  have st32 : Steps p.tables e below sE (T23.setTop (mkF m 35 #[.val (.ref x0), .val (.int x1), .val (.int n)] [(.ref aN), (.ref x0)])) := st21.trans (sr23 _ (Steps.refl _))
  obtain ⟨T33, h33, X33, e33, W33, sr33⟩ := putF X23 hx hZ hown (host := "") (Or.inl (hw _ (List.mem_of_getElem? (i := 22) rfl))) Via.refl rfl f25 f24 (Or.inl (hw _ (List.mem_of_getElem? (i := 23) rfl))) (hw _ (List.mem_of_getElem? (i := 5) rfl)) (ty := (.array .byte)) (by decide) rfl rfl (g := (mkF m 35 #[.val (.ref x0), .val (.int x1), .val (.int n)] [(.ref aN), (.ref x0)])) rfl rfl (hb hby d10_35)
  have f34 : Exa Z h33 x0 "java/lang/StringBuilder" := f24.wr W33
  have f35 : Fld Z h33 x0 "java/lang/AbstractStringBuilder" "coder" "B" (.int (0 : Int32)) := f26.other W33 (Or.inr (slot_ne (Or.inl (hw _ (List.mem_of_getElem? (i := 25) rfl))) (Or.inl (hw _ (List.mem_of_getElem? (i := 23) rfl))) (by decide) (t := .byte) (t' := (.array .byte)) (by decide) (by decide)))
  have f36 : Exa Z h33 aV "[B" := f27.wr W33
  have f37 : Arv Z h33 aV kV .byte n (List.map Value.int L) (.int (0 : Int32)) := f28.other W33 (Ne.symm ne_xv)
  have f38 : Fld Z h33 x0 "java/lang/AbstractStringBuilder" "count" "I" (.int cn) := f29.other W33 (Or.inr (slot_ne (Or.inl (hw _ (List.mem_of_getElem? (i := 62) rfl))) (Or.inl (hw _ (List.mem_of_getElem? (i := 23) rfl))) (by decide) (t := .int) (t' := (.array .byte)) (by decide) (by decide)))
  have f39 : Arv Z h33 aN kN .byte nz (List.map Value.int (own_cp L (List.replicate (nz).toNatClampNeg (0 : Int32)) ((0 : Int32)).toNatClampNeg ((0 : Int32)).toNatClampNeg (n).toNatClampNeg)) (.int (0 : Int32)) := qA.other W33 (Ne.symm ne_x0_aN)
  have f40 : Exa Z h33 aN "[B" := qE.wr W33
  have f41 : Fld Z h33 x0 "java/lang/AbstractStringBuilder" "value" "[B" (.ref aN) := f25.same W33
  have K42 : Keep h0 h33 [x0] := K30.wr W33 (Or.inl (List.mem_of_getElem? (i := 0) rfl))
  have Z33 : n0 ≤ h33.size := Nat.le_trans Z31 (Keep.of_wr W33).1
  have N33 := Fr.snoc X33 N23 g_x
  obtain ⟨LL33, X33, N33⟩ := own_hide X33 N33
  have st43 : Steps p.tables e below sE (T33.setTop (mkF m 38 #[.val (.ref x0), .val (.int x1), .val (.int n)] [])) := st32.trans (sr33 _ (Steps.refl _))
  obtain ⟨fs, hr, hrun, hended, hW, hsame⟩ := X33.leave (v := none) (fun _ => rfl) hlk
  refine ⟨_, _, (own_ent hsE st43).trans ?_, hrun, hended, _, _, rfl, ?_, ⟨_, rfl⟩, hW, hsame.mono (by decide) (by decide)⟩
  · exact X33.returnOut hx Bd.returns (hb hby d10_38) hr
  · show QecG Z x0 x1 aV kV n L cn h0 n0 _ T33.heap _
    rw [e33]
    exact ⟨rfl, N33, K42, f34, f35, f38, ⟨aN, kN, nz, _, f41, f40, f39, by rw [own_cpl _ _ _ _ _ (by rw [List.length_replicate]; show 0 + _ ≤ _; have := own_tn n hnb.1; have := own_tn nz (by have := hnc.2.2.2.2.1; omega); have := hnc.2.2.2.2.1; omega), List.length_replicate], hnc.2.2.2.1, by have := hnc.2.2.2.2.1; omega, hnc.2.2.2.2.2.1, hnc.2.2.2.2.2.2, fun i hi => own_cp0 L _ i hLl hi (by rw [List.length_replicate]; have := own_tn n hnb.1; have := own_tn nz (by have := hnc.2.2.2.2.1; omega); have := hnc.2.2.2.2.1; omega), g_aN, ne_x0_aN, sz_aN⟩⟩
theorem d13_0 : decode jdk_42_method_147_code 0 = .ok (.aload_n 0, 1) := by decide +kernel
theorem d13_1 : decode jdk_42_method_147_code 1 = .ok (.invokevirtual 335, 3) := by decide +kernel
theorem d13_4 : decode jdk_42_method_147_code 4 = .ok (.iload_n 3, 1) := by decide +kernel
theorem d13_5 : decode jdk_42_method_147_code 5 = .ok (.if_icmp .ne 23, 3) := by decide +kernel
theorem d13_8 : decode jdk_42_method_147_code 8 = .ok (.aload_n 0, 1) := by decide +kernel
theorem d13_9 : decode jdk_42_method_147_code 9 = .ok (.getfield 9, 3) := by decide +kernel
theorem d13_12 : decode jdk_42_method_147_code 12 = .ok (.iconst 0, 1) := by decide +kernel
theorem d13_13 : decode jdk_42_method_147_code 13 = .ok (.aload_n 1, 1) := by decide +kernel
theorem d13_14 : decode jdk_42_method_147_code 14 = .ok (.iload_n 2, 1) := by decide +kernel
theorem d13_15 : decode jdk_42_method_147_code 15 = .ok (.iload_n 3, 1) := by decide +kernel
theorem d13_16 : decode jdk_42_method_147_code 16 = .ok (.ishl, 1) := by decide +kernel
theorem d13_17 : decode jdk_42_method_147_code 17 = .ok (.aload_n 0, 1) := by decide +kernel
theorem d13_18 : decode jdk_42_method_147_code 18 = .ok (.getfield 9, 3) := by decide +kernel
theorem d13_21 : decode jdk_42_method_147_code 21 = .ok (.arraylength, 1) := by decide +kernel
theorem d13_22 : decode jdk_42_method_147_code 22 = .ok (.invokestatic 212, 3) := by decide +kernel
theorem d13_25 : decode jdk_42_method_147_code 25 = .ok (.goto 18, 3) := by decide +kernel
theorem d13_43 : decode jdk_42_method_147_code 43 = .ok (.return_, 1) := by decide +kernel
theorem ef_13 (m : MethodId) (x0 : Addr) (x1 : Addr) (x2 : Int32)  : entryFrame m #[(.ref x0), (.ref x1), (.int x2), (.int (0 : Int32))] 4 = mkF m 0 #[.val (.ref x0), .val (.ref x1), .val (.int x2), .val (.int (0 : Int32))] [] := by first | (simp [entryFrame, mkF, argsToLocals, Value.category]; done) | rfl
def Q13 (Z : State) (x0 : Addr) (x1 : Addr) (x2 : Int32) (cs : Int32) (b : Addr) (ka : ClassId) (n : Int32) (L : List Int32) (kd : ClassId) (nd : Int32) (LD : List Int32) (h0 : Heap) (n0 : Nat) (vE : Option Value) (hE : Heap) (LE : List Loc) : Prop := vE = none ∧ Fr n0 LE ∧ Keep h0 hE [x1] ∧ Arv Z hE x1 kd .byte nd (List.map Value.int (own_cp L LD ((0 : Int32)).toNatClampNeg (x2).toNatClampNeg (n).toNatClampNeg)) (.int (0 : Int32))
set_option maxRecDepth 65536 in
set_option maxHeartbeats 40000000 in
theorem rm13 (l : Launch) (Z : State) (a0 : Array Value) (hw : ∀ d ∈ tables_1, d.before a0 Z = true) (ws : List Jvm.Cond) (x0 : Addr) (x1 : Addr) (x2 : Int32) (cs : Int32) (b : Addr) (ka : ClassId) (n : Int32) (L : List Int32) (kd : ClassId) (nd : Int32) (LD : List Int32) (h0 : Heap) (n0 : Nat) (Z0 : n0 ≤ h0.size) (S_c : Sta Z h0 "java/lang/String" "COMPACT_STRINGS" "Z" (.int cs)) (hcs : ¬ cs = (0 : Int32)) (E_x : Exa Z h0 x0 "java/lang/String") (F_v : Fld Z h0 x0 "java/lang/String" "value" "[B" (.ref b)) (F_c : Fld Z h0 x0 "java/lang/String" "coder" "B" (.int (0 : Int32))) (A_b : Arv Z h0 b ka .byte n (List.map Value.int L) (.int (0 : Int32))) (E_d : Exa Z h0 x1 "[B") (A_d : Arv Z h0 x1 kd .byte nd (List.map Value.int LD) (.int (0 : Int32))) (hat0 : ¬ x2 < 0) (hnn : ¬ n < 0) (hft : (x2).toNatClampNeg + (n).toNatClampNeg ≤ (nd).toNatClampNeg) (hLD : LD.length = nd.toNatClampNeg) (g_d : n0 ≤ x1) (ne_xd : x0 ≠ x1) (ne_bd : b ≠ x1) :
    MetFree l (⟨"java/lang/String", "getBytes", "([BIB)V"⟩ : MethodName) (head1 (Jvm.Cond.code (⟨"java/lang/String", "getBytes", "([BIB)V"⟩ : MethodName) jdk_42_method_147_code 4 none :: ws) ({ frames := 1, cells := 0, slots := 0, locals := 18 } : Room)) (fun a U => a = #[(.ref x0), (.ref x1), (.int x2), (.int (0 : Int32))] ∧ Z.Warmed39 U.vm ∧ U.heap = h0) (fun _ _ _ _ _ => True) (fun _ U o U' => ∃ vE LE, o = .returned vE ∧ Q13 Z x0 x1 x2 cs b ka n L kd nd LD h0 n0 vE U'.heap LE ∧ FrameEnd U o U' LE ({ frames := 1, cells := 0, slots := 0, locals := 18 } : Room).cells ({ frames := 1, cells := 0, slots := 0, locals := 18 } : Room).slots) := by
  refine MetFree.of_bodySF (plainFor_of_name pn_1) hisR ?_
  intro p e s m args below meth c s₁ Bd hml0 hP hK
  obtain ⟨rfl, hZ, hh⟩ := hP
  have hx := Bd.exec
  have hby := Bd.bytes
  have hml : c.maxLocals = 4 := hml0
  have hown : s.vm.findClass "java/lang/String" = some m.cls := findClass_of_methodNamed Bd.named
  have hnm := (name_of_methodNamed Bd.named Bd.method).1
  have hlk : meth.locks = false := BodyLoose.notSynchronized Bd
  have X0 : Stand p l e ({ frames := 1, cells := 0, slots := 0, locals := 18 } : Room) s m #[(.ref x0), (.ref x1), (.int x2), (.int (0 : Int32))] below meth c s₁ [] 0 0 := Stand.of_body Bd
  have e0 : s₁.heap = h0 := by rw [← hh, Bd.state]; rfl
  have N0 := Fr.nil n0
  obtain ⟨sE, hsE⟩ : ∃ z, z = (s₁.setTop (entryFrame m #[(.ref x0), (.ref x1), (.int x2), (.int (0 : Int32))] 4)) := ⟨_, rfl⟩
  have st0 : Steps p.tables e below sE (s₁.setTop (mkF m 0 #[.val (.ref x0), .val (.ref x1), .val (.int x2), .val (.int (0 : Int32))] [])) := by rw [hsE]; exact castTop (ef_13 m x0 x1 x2) (Steps.refl _)
  have K0 : Keep h0 h0 [x1] := Keep.refl _ _
  have st1 : Steps p.tables e below sE (s₁.setTop (mkF m 1 #[.val (.ref x0), .val (.ref x1), .val (.int x2), .val (.int (0 : Int32))] [(.ref x0)])) := st0.trans (by
      show Steps _ _ _ (s₁.setTop (mkF m 0 #[.val (.ref x0), .val (.ref x1), .val (.int x2), .val (.int (0 : Int32))] [])) _
      refine XS.aloadN X0.here hx rfl (hb hby d13_0) rfl rfl ?_
      exact Steps.refl _)
  obtain ⟨cq2, kq2, q2a, q2b, q2c⟩ := isOf hZ e0 E_x
  obtain ⟨_, _, ⟨T2, L2, k2, n2⟩, -, X2, ⟨Lc2, hQ2, l2, y2, z2⟩, sr2⟩ := X0.virtualBack hx (y := (⟨"java/lang/String", "coder", "()B"⟩ : MethodName)) (z := (⟨"java/lang/String", "coder", "()B"⟩ : MethodName)) hown (mvT hZ (hw _ (List.mem_of_getElem? (i := 54) rfl))) (mvT hZ (hw _ (List.mem_of_getElem? (i := 55) rfl))) (notFace_of_selects (args := #[]) (mvT hZ (hw _ (List.mem_of_getElem? (i := 57) rfl)))) (mvT hZ (hw _ (List.mem_of_getElem? (i := 57) rfl))) (mvT hZ (hw _ (List.mem_of_getElem? (i := 56) rfl))) (by decide) (backOf (W := 0) (rm9 l Z a0 hw [] x0 cs h0 n0 Z0 S_c hcs F_c) hZ (hw _ (List.mem_of_getElem? (i := 58) rfl)) (hw _ (List.mem_of_getElem? (i := 20) rfl)) (by decide) (by decide)) q2a q2c (g := (mkF m 1 #[.val (.ref x0), .val (.ref x1), .val (.int x2), .val (.int (0 : Int32))] [(.ref x0)])) rfl (by rw [hml]; rfl) (Steps.refl _) (argsL := []) (rest := []) (lenOf pd_0 rfl) rfl (by show 2 * 0 + _ ≤ _; exact Nat.le_of_eq rfl) (hb hby d13_1) (fun _ _ => ⟨rfl, e0, (by decide : 0 + 0 ≤ _), (by decide : 0 + 0 ≤ _)⟩)
  dsimp only [Pt.U, Pt.locs, Pt.cells, Pt.slots] at X2 l2 y2 z2 sr2 hQ2
  subst l2 y2 z2
  obtain ⟨rfl, N2q, hh2⟩ := hQ2
  have N2 := Fr.app N0 N2q
  obtain ⟨LL2, X2, N2⟩ := own_hide X2 N2
  have st3 : Steps p.tables e below sE (T2.setTop (mkF m 4 #[.val (.ref x0), .val (.ref x1), .val (.int x2), .val (.int (0 : Int32))] [(.int (nar .byte (0 : Int32)))])) := st1.trans (sr2)
  have st4 : Steps p.tables e below sE (T2.setTop (mkF m 5 #[.val (.ref x0), .val (.ref x1), .val (.int x2), .val (.int (0 : Int32))] [(.int (0 : Int32)), (.int (nar .byte (0 : Int32)))])) := st3.trans (by
      show Steps _ _ _ (T2.setTop (mkF m 4 #[.val (.ref x0), .val (.ref x1), .val (.int x2), .val (.int (0 : Int32))] [(.int (nar .byte (0 : Int32)))])) _
      refine XS.iloadN X2.here hx rfl (hb hby d13_4) rfl ?_
      exact Steps.refl _)
  have hf5 : (nar .byte (0 : Int32)) = (0 : Int32) := rfl
  have st6 : Steps p.tables e below sE (T2.setTop (mkF m 9 #[.val (.ref x0), .val (.ref x1), .val (.int x2), .val (.int (0 : Int32))] [(.ref x0)])) := st4.trans (by
      show Steps _ _ _ (T2.setTop (mkF m 5 #[.val (.ref x0), .val (.ref x1), .val (.int x2), .val (.int (0 : Int32))] [(.int (0 : Int32)), (.int (nar .byte (0 : Int32)))])) _
      refine XS.icmpNo X2.here hx rfl (hb hby d13_5) rfl (teq hf5).2 ?_
      show Steps _ _ _ (T2.setTop (mkF m 8 #[.val (.ref x0), .val (.ref x1), .val (.int x2), .val (.int (0 : Int32))] [])) _
      refine XS.aloadN X2.here hx rfl (hb hby d13_8) rfl rfl ?_
      exact Steps.refl _)
  obtain ⟨T7, X7, e7, sr7⟩ := getF X2 hx hZ hown (host := "") (Or.inl (hw _ (List.mem_of_getElem? (i := 37) rfl))) Via.refl hh2 F_v (g := (mkF m 9 #[.val (.ref x0), .val (.ref x1), .val (.int x2), .val (.int (0 : Int32))] [(.ref x0)])) rfl rfl (hb hby d13_9)
  have st8 : Steps p.tables e below sE (T7.setTop (mkF m 12 #[.val (.ref x0), .val (.ref x1), .val (.int x2), .val (.int (0 : Int32))] [(.ref b)])) := st6.trans (sr7 _ (Steps.refl _))
  have st9 : Steps p.tables e below sE (T7.setTop (mkF m 17 #[.val (.ref x0), .val (.ref x1), .val (.int x2), .val (.int (0 : Int32))] [(.int (x2 <<< ((0 : Int32) &&& 31))), (.ref x1), (.int (0 : Int32)), (.ref b)])) := st8.trans (by
      show Steps _ _ _ (T7.setTop (mkF m 12 #[.val (.ref x0), .val (.ref x1), .val (.int x2), .val (.int (0 : Int32))] [(.ref b)])) _
      refine XS.iconst X7.here hx rfl (hb hby d13_12) ?_
      show Steps _ _ _ (T7.setTop (mkF m 13 #[.val (.ref x0), .val (.ref x1), .val (.int x2), .val (.int (0 : Int32))] [(.int (0 : Int32)), (.ref b)])) _
      refine XS.aloadN X7.here hx rfl (hb hby d13_13) rfl rfl ?_
      show Steps _ _ _ (T7.setTop (mkF m 14 #[.val (.ref x0), .val (.ref x1), .val (.int x2), .val (.int (0 : Int32))] [(.ref x1), (.int (0 : Int32)), (.ref b)])) _
      refine XS.iloadN X7.here hx rfl (hb hby d13_14) rfl ?_
      show Steps _ _ _ (T7.setTop (mkF m 15 #[.val (.ref x0), .val (.ref x1), .val (.int x2), .val (.int (0 : Int32))] [(.int x2), (.ref x1), (.int (0 : Int32)), (.ref b)])) _
      refine XS.iloadN X7.here hx rfl (hb hby d13_15) rfl ?_
      show Steps _ _ _ (T7.setTop (mkF m 16 #[.val (.ref x0), .val (.ref x1), .val (.int x2), .val (.int (0 : Int32))] [(.int (0 : Int32)), (.int x2), (.ref x1), (.int (0 : Int32)), (.ref b)])) _
      refine XS.ishl X7.here hx rfl (hb hby d13_16) rfl ?_
      exact Steps.refl _)
  have hw10 : (x2 <<< ((0 : Int32) &&& 31)) = x2 := own_sl x2
  rw [hw10] at st9
  have st11 : Steps p.tables e below sE (T7.setTop (mkF m 18 #[.val (.ref x0), .val (.ref x1), .val (.int x2), .val (.int (0 : Int32))] [(.ref x0), (.int x2), (.ref x1), (.int (0 : Int32)), (.ref b)])) := st9.trans (by
      show Steps _ _ _ (T7.setTop (mkF m 17 #[.val (.ref x0), .val (.ref x1), .val (.int x2), .val (.int (0 : Int32))] [(.int x2), (.ref x1), (.int (0 : Int32)), (.ref b)])) _
      refine XS.aloadN X7.here hx rfl (hb hby d13_17) rfl rfl ?_
      exact Steps.refl _)
  obtain ⟨T12, X12, e12, sr12⟩ := getF X7 hx hZ hown (host := "") (Or.inl (hw _ (List.mem_of_getElem? (i := 37) rfl))) Via.refl e7 F_v (g := (mkF m 18 #[.val (.ref x0), .val (.ref x1), .val (.int x2), .val (.int (0 : Int32))] [(.ref x0), (.int x2), (.ref x1), (.int (0 : Int32)), (.ref b)])) rfl rfl (hb hby d13_18)
  have st13 : Steps p.tables e below sE (T12.setTop (mkF m 21 #[.val (.ref x0), .val (.ref x1), .val (.int x2), .val (.int (0 : Int32))] [(.ref b), (.int x2), (.ref x1), (.int (0 : Int32)), (.ref b)])) := st11.trans (sr12 _ (Steps.refl _))
  obtain ⟨cl14, Ar14, -, S14, N14, -, -⟩ := id A_b
  have st15 : Steps p.tables e below sE (T12.setTop (mkF m 22 #[.val (.ref x0), .val (.ref x1), .val (.int x2), .val (.int (0 : Int32))] [(.int n), (.int x2), (.ref x1), (.int (0 : Int32)), (.ref b)])) := st13.trans (by
      show Steps _ _ _ (T12.setTop (mkF m 21 #[.val (.ref x0), .val (.ref x1), .val (.int x2), .val (.int (0 : Int32))] [(.ref b), (.int x2), (.ref x1), (.int (0 : Int32)), (.ref b)])) _
      refine X12.arraylength hx (by rw [e12]; exact Ar14.1) (State.isArrayOf_alike hZ.alike Ar14.2.1) (g := (mkF m 21 #[.val (.ref x0), .val (.ref x1), .val (.int x2), .val (.int (0 : Int32))] [(.ref b), (.int x2), (.ref x1), (.int (0 : Int32)), (.ref b)])) rfl rfl (hb hby d13_21) _ ?_
      rw [len_of S14 N14]
      exact Steps.refl _)
  obtain ⟨T16, h16, LL16, X16, e16, N16, K16, V16, sr16⟩ := cpA X12 hx hZ hown (hw _ (List.mem_of_getElem? (i := 84) rfl)) (hw _ (List.mem_of_getElem? (i := 87) rfl)) (hw _ (List.mem_of_getElem? (i := 85) rfl)) (hw _ (List.mem_of_getElem? (i := 86) rfl)) e12 A_b A_d (Or.inl ⟨rfl, rfl⟩) (by decide) hat0 hnn (by show 0 + _ ≤ _; omega) hft rfl (by rw [List.length_map, hLD]; exact hft) N2 g_d (g := (mkF m 22 #[.val (.ref x0), .val (.ref x1), .val (.int x2), .val (.int (0 : Int32))] [(.int n), (.int x2), (.ref x1), (.int (0 : Int32)), (.ref b)])) rfl (by rw [hml]; rfl) rfl (hb hby d13_22) (by decide) (W := 0) (by show 2 * 0 + _ ≤ _; exact Nat.le_of_eq rfl) (by decide)
  have f17 : Sta Z h16 "java/lang/String" "COMPACT_STRINGS" "Z" (.int cs) := own_sta_keep S_c K16 (allS (own_ns E_d) all0)
  have f18 : Exa Z h16 x0 "java/lang/String" := E_x.keep K16
  have f19 : Fld Z h16 x0 "java/lang/String" "value" "[B" (.ref b) := F_v.keep K16 (ninS ne_xd nin0)
  have f20 : Fld Z h16 x0 "java/lang/String" "coder" "B" (.int (0 : Int32)) := F_c.keep K16 (ninS ne_xd nin0)
  have f21 : Arv Z h16 b ka .byte n (List.map Value.int L) (.int (0 : Int32)) := A_b.keep K16 (ninS ne_bd nin0)
  have f22 : Exa Z h16 x1 "[B" := E_d.keep K16
  have K23 : Keep h0 h16 [x1] := K0.trans K16 (allS (Or.inl (List.mem_of_getElem? (i := 0) rfl)) all0)
  have Z24 : n0 ≤ h16.size := Nat.le_trans Z0 K16.1
  have f25 : Arv Z h16 x1 kd .byte nd (List.map Value.int (own_cp L LD ((0 : Int32)).toNatClampNeg (x2).toNatClampNeg (n).toNatClampNeg)) (.int (0 : Int32)) := (by have q := V16; rw [own_cpv L LD _ _ _] at q; exact q)
  have st26 : Steps p.tables e below sE (T16.setTop (mkF m 25 #[.val (.ref x0), .val (.ref x1), .val (.int x2), .val (.int (0 : Int32))] [])) := st15.trans (sr16 _ (Steps.refl _))
  have st27 : Steps p.tables e below sE (T16.setTop (mkF m 43 #[.val (.ref x0), .val (.ref x1), .val (.int x2), .val (.int (0 : Int32))] [])) := st26.trans (by
      show Steps _ _ _ (T16.setTop (mkF m 25 #[.val (.ref x0), .val (.ref x1), .val (.int x2), .val (.int (0 : Int32))] [])) _
      refine XS.goto X16.here hx rfl (pc0 := 25) (pc' := 43) rfl (hb hby d13_25) (by decide) (by decide) ?_
      exact Steps.refl _)
  obtain ⟨fs, hr, hrun, hended, hW, hsame⟩ := X16.leave (v := none) (fun _ => rfl) hlk
  refine ⟨_, _, (own_ent hsE st27).trans ?_, hrun, hended, _, _, rfl, ?_, ⟨_, rfl⟩, hW, hsame.mono (by decide) (by decide)⟩
  · exact X16.returnOut hx Bd.returns (hb hby d13_43) hr
  · show Q13 Z x0 x1 x2 cs b ka n L kd nd LD h0 n0 _ T16.heap _
    rw [e16]
    exact ⟨rfl, N16, K23, f25⟩
def own_ch (i : Nat) : Int32 := if i % 3 = 0 then 63 else if i % 3 = 1 then 44 else 32
def own_bd (nd : Int32) (L : List Int32) (cn : Int32) (M : Int) : Prop := L.length = nd.toNatClampNeg ∧ 0 ≤ cn.toInt ∧ cn.toInt ≤ nd.toInt ∧ nd.toInt ≤ M ∧ ∀ i, i < cn.toNatClampNeg → L.getD i 0 = own_ch i
def own_st (n : Int32) (L : List Int32) (cn : Int32) : Prop := 0 ≤ n.toInt ∧ cn.toInt + n.toInt ≤ 6142 ∧ ∀ i, i < n.toNatClampNeg → L.getD i 0 = own_ch (cn.toNatClampNeg + i)
theorem own_sum {cn n : Int32} (hc : 0 ≤ cn.toInt) (hn : 0 ≤ n.toInt) (hs : cn.toInt + n.toInt ≤ 6142) : (cn + n).toInt = cn.toInt + n.toInt := by
  have e := c_iadd cn n
  have r := rng32 (cn + n)
  omega
theorem own_bdS {nd cn n : Int32} {LD L : List Int32} (h1 : LD.length = nd.toNatClampNeg) (hc : 0 ≤ cn.toInt) (hst : own_st n L cn) (hle : cn.toInt + n.toInt ≤ nd.toInt) (hM : nd.toInt ≤ 12300) (hD : ∀ i, i < cn.toNatClampNeg → LD.getD i 0 = own_ch i) : own_bd nd (own_cp L LD ((0 : Int32)).toNatClampNeg cn.toNatClampNeg n.toNatClampNeg) (cn + n) 12300 := by
  obtain ⟨hn, hs, hL⟩ := hst
  have e := own_sum hc hn hs
  have t1 := own_tn cn hc
  have t2 := own_tn n hn
  have t3 := own_tn nd (by omega)
  have t4 := own_tn (cn + n) (by omega)
  rw [show ((0 : Int32)).toNatClampNeg = 0 by decide]
  refine ⟨by rw [own_cpl _ _ _ _ _ (by omega), h1], by omega, by omega, hM, fun i hi => ?_⟩
  rw [own_cpg _ _ _ _ _ _ (by omega)]
  by_cases q : i < cn.toNatClampNeg
  · rw [if_neg (by omega)]; exact hD i q
  · rw [if_pos (by omega), Nat.zero_add, hL (i - cn.toNatClampNeg) (by omega)]
    congr 1; omega
theorem own_gr {nd cn n : Int32} (hc : 0 ≤ cn.toInt) (hn : 0 ≤ n.toInt) (hs : cn.toInt + n.toInt ≤ 6142) (hd : 0 ≤ nd.toInt) (h : ¬ (0 : Int32) < ((cn + n) - nd)) : cn.toInt + n.toInt ≤ nd.toInt := by
  have e := own_sum hc hn hs
  have e2 := c_isub (cn + n) nd
  have r := rng32 ((cn + n) - nd)
  have r2 := rng32 nd
  rw [Int32.lt_iff_toInt_lt, show (0 : Int32).toInt = 0 by decide] at h
  omega
theorem pd_11 : parseMethodDescriptor "(Ljava/lang/String;)V" = some ⟨[(.object "java/lang/String")], none⟩ := by decide +kernel
theorem pd_12 : parseMethodDescriptor "([BIB)V" = some ⟨[(.array .byte), .int, .byte], none⟩ := by decide +kernel
theorem d11_0 : decode jdk_68_method_73_code 0 = .ok (.aload_n 0, 1) := by decide +kernel
theorem d11_1 : decode jdk_68_method_73_code 1 = .ok (.aload_n 2, 1) := by decide +kernel
theorem d11_2 : decode jdk_68_method_73_code 2 = .ok (.invokevirtual 397, 3) := by decide +kernel
theorem d11_5 : decode jdk_68_method_73_code 5 = .ok (.aload_n 2, 1) := by decide +kernel
theorem d11_6 : decode jdk_68_method_73_code 6 = .ok (.aload_n 0, 1) := by decide +kernel
theorem d11_7 : decode jdk_68_method_73_code 7 = .ok (.getfield 15, 3) := by decide +kernel
theorem d11_10 : decode jdk_68_method_73_code 10 = .ok (.iload_n 1, 1) := by decide +kernel
theorem d11_11 : decode jdk_68_method_73_code 11 = .ok (.aload_n 0, 1) := by decide +kernel
theorem d11_12 : decode jdk_68_method_73_code 12 = .ok (.getfield 22, 3) := by decide +kernel
theorem d11_15 : decode jdk_68_method_73_code 15 = .ok (.invokevirtual 399, 3) := by decide +kernel
theorem d11_18 : decode jdk_68_method_73_code 18 = .ok (.return_, 1) := by decide +kernel
theorem ef_11 (m : MethodId) (x0 : Addr) (x1 : Int32) (x2 : Addr)  : entryFrame m #[(.ref x0), (.int x1), (.ref x2)] 3 = mkF m 0 #[.val (.ref x0), .val (.int x1), .val (.ref x2)] [] := by first | (simp [entryFrame, mkF, argsToLocals, Value.category]; done) | rfl
def Q11 (Z : State) (x0 : Addr) (x1 : Int32) (x2 : Addr) (cs : Int32) (b : Addr) (ka : ClassId) (n : Int32) (L : List Int32) (aV : Addr) (kV : ClassId) (nd : Int32) (LD : List Int32) (h0 : Heap) (n0 : Nat) (vE : Option Value) (hE : Heap) (LE : List Loc) : Prop := vE = none ∧ Fr n0 LE ∧ Keep h0 hE [aV] ∧ Arv Z hE aV kV .byte nd (List.map Value.int (own_cp L LD ((0 : Int32)).toNatClampNeg (x1).toNatClampNeg (n).toNatClampNeg)) (.int (0 : Int32))
set_option maxRecDepth 65536 in
set_option maxHeartbeats 40000000 in
theorem rm11 (l : Launch) (Z : State) (a0 : Array Value) (hw : ∀ d ∈ tables_1, d.before a0 Z = true) (ws : List Jvm.Cond) (x0 : Addr) (x1 : Int32) (x2 : Addr) (cs : Int32) (b : Addr) (ka : ClassId) (n : Int32) (L : List Int32) (aV : Addr) (kV : ClassId) (nd : Int32) (LD : List Int32) (h0 : Heap) (n0 : Nat) (Z0 : n0 ≤ h0.size) (S_c : Sta Z h0 "java/lang/String" "COMPACT_STRINGS" "Z" (.int cs)) (hcs : ¬ cs = (0 : Int32)) (E_x : Exa Z h0 x0 "java/lang/StringBuilder") (F_v : Fld Z h0 x0 "java/lang/AbstractStringBuilder" "value" "[B" (.ref aV)) (F_c : Fld Z h0 x0 "java/lang/AbstractStringBuilder" "coder" "B" (.int (0 : Int32))) (E_v : Exa Z h0 aV "[B") (A_v : Arv Z h0 aV kV .byte nd (List.map Value.int LD) (.int (0 : Int32))) (E_s : Exa Z h0 x2 "java/lang/String") (F_sv : Fld Z h0 x2 "java/lang/String" "value" "[B" (.ref b)) (F_sc : Fld Z h0 x2 "java/lang/String" "coder" "B" (.int (0 : Int32))) (A_b : Arv Z h0 b ka .byte n (List.map Value.int L) (.int (0 : Int32))) (hat0 : ¬ x1 < 0) (hnn : ¬ n < 0) (hft : (x1).toNatClampNeg + (n).toNatClampNeg ≤ (nd).toNatClampNeg) (hLD : LD.length = nd.toNatClampNeg) (g_v : n0 ≤ aV) (ne_xv : x0 ≠ aV) (ne_sv : x2 ≠ aV) (ne_bv : b ≠ aV) :
    MetFree l (⟨"java/lang/AbstractStringBuilder", "putStringAt", "(ILjava/lang/String;)V"⟩ : MethodName) (head1 (Jvm.Cond.code (⟨"java/lang/AbstractStringBuilder", "putStringAt", "(ILjava/lang/String;)V"⟩ : MethodName) jdk_68_method_73_code 3 none :: ws) ({ frames := 2, cells := 0, slots := 0, locals := 33 } : Room)) (fun a U => a = #[(.ref x0), (.int x1), (.ref x2)] ∧ Z.Warmed39 U.vm ∧ U.heap = h0) (fun _ _ _ _ _ => True) (fun _ U o U' => ∃ vE LE, o = .returned vE ∧ Q11 Z x0 x1 x2 cs b ka n L aV kV nd LD h0 n0 vE U'.heap LE ∧ FrameEnd U o U' LE ({ frames := 2, cells := 0, slots := 0, locals := 33 } : Room).cells ({ frames := 2, cells := 0, slots := 0, locals := 33 } : Room).slots) := by
  refine MetFree.of_bodySF (plainFor_of_name pn_4) hisR ?_
  intro p e s m args below meth c s₁ Bd hml0 hP hK
  obtain ⟨rfl, hZ, hh⟩ := hP
  have hx := Bd.exec
  have hby := Bd.bytes
  have hml : c.maxLocals = 3 := hml0
  have hown : s.vm.findClass "java/lang/AbstractStringBuilder" = some m.cls := findClass_of_methodNamed Bd.named
  have hnm := (name_of_methodNamed Bd.named Bd.method).1
  have hlk : meth.locks = false := BodyLoose.notSynchronized Bd
  have X0 : Stand p l e ({ frames := 2, cells := 0, slots := 0, locals := 33 } : Room) s m #[(.ref x0), (.int x1), (.ref x2)] below meth c s₁ [] 0 0 := Stand.of_body Bd
  have e0 : s₁.heap = h0 := by rw [← hh, Bd.state]; rfl
  have N0 := Fr.nil n0
  obtain ⟨sE, hsE⟩ : ∃ z, z = (s₁.setTop (entryFrame m #[(.ref x0), (.int x1), (.ref x2)] 3)) := ⟨_, rfl⟩
  have st0 : Steps p.tables e below sE (s₁.setTop (mkF m 0 #[.val (.ref x0), .val (.int x1), .val (.ref x2)] [])) := by rw [hsE]; exact castTop (ef_11 m x0 x1 x2) (Steps.refl _)
  have K0 : Keep h0 h0 [aV] := Keep.refl _ _
  have st1 : Steps p.tables e below sE (s₁.setTop (mkF m 2 #[.val (.ref x0), .val (.int x1), .val (.ref x2)] [(.ref x2), (.ref x0)])) := st0.trans (by
      show Steps _ _ _ (s₁.setTop (mkF m 0 #[.val (.ref x0), .val (.int x1), .val (.ref x2)] [])) _
      refine XS.aloadN X0.here hx rfl (hb hby d11_0) rfl rfl ?_
      show Steps _ _ _ (s₁.setTop (mkF m 1 #[.val (.ref x0), .val (.int x1), .val (.ref x2)] [(.ref x0)])) _
      refine XS.aloadN X0.here hx rfl (hb hby d11_1) rfl rfl ?_
      exact Steps.refl _)
  obtain ⟨cq2, q2, q2'⟩ := E_x.cell
  obtain ⟨_, _, ⟨T2, L2, k2, n2⟩, -, X2, ⟨Lc2, hQ2, l2, y2, z2⟩, sr2⟩ := X0.privateBack hx (y := (⟨"java/lang/AbstractStringBuilder", "inflateIfNeededFor", "(Ljava/lang/String;)V"⟩ : MethodName)) hown (mvT hZ (hw _ (List.mem_of_getElem? (i := 73) rfl))) (mvT hZ (hw _ (List.mem_of_getElem? (i := 74) rfl))) (own_selp (z := (⟨"java/lang/AbstractStringBuilder", "ensureCapacityInternal", "(I)V"⟩ : MethodName)) rfl (notFace_of_selects (args := #[]) (mvT hZ (hw _ (List.mem_of_getElem? (i := 66) rfl)))) (args' := #[]) (mvT hZ (hw _ (List.mem_of_getElem? (i := 64) rfl))) (Cond.privateMethod_at (mvP hZ (hw _ (List.mem_of_getElem? (i := 75) rfl)) (args := #[]))) (mvT hZ (hw _ (List.mem_of_getElem? (i := 74) rfl))) (by decide)) (Cond.privateMethod_at (mvP hZ (hw _ (List.mem_of_getElem? (i := 75) rfl)) (args := #[]))) (mvT hZ (hw _ (List.mem_of_getElem? (i := 77) rfl))) (by decide) (backOf (W := 0) (rm12 l Z a0 hw [] x0 x2 cs h0 n0 Z0 S_c hcs F_c E_s F_sc) hZ (hw _ (List.mem_of_getElem? (i := 77) rfl)) (hw _ (List.mem_of_getElem? (i := 14) rfl)) (by decide) (by decide)) (g := (mkF m 2 #[.val (.ref x0), .val (.int x1), .val (.ref x2)] [(.ref x2), (.ref x0)])) rfl (by rw [hml]; rfl) (Steps.refl _) (a := x0) (by rw [e0]; exact q2) q2' (argsL := [(.ref x2)]) (rest := []) (lenOf pd_11 rfl) rfl (by show 2 * 0 + _ ≤ _; exact Nat.le_of_eq rfl) (hb hby d11_2) (fun _ _ => ⟨rfl, e0, (by decide : 0 + 0 ≤ _), (by decide : 0 + 0 ≤ _)⟩)
  dsimp only [Pt.U, Pt.locs, Pt.cells, Pt.slots] at X2 l2 y2 z2 sr2 hQ2
  subst l2 y2 z2
  obtain ⟨rfl, N2q, hh2⟩ := hQ2
  have N2 := Fr.app N0 N2q
  obtain ⟨LL2, X2, N2⟩ := own_hide X2 N2
  have st3 : Steps p.tables e below sE (T2.setTop (mkF m 5 #[.val (.ref x0), .val (.int x1), .val (.ref x2)] [])) := st1.trans (sr2)
  have st4 : Steps p.tables e below sE (T2.setTop (mkF m 7 #[.val (.ref x0), .val (.int x1), .val (.ref x2)] [(.ref x0), (.ref x2)])) := st3.trans (by
      show Steps _ _ _ (T2.setTop (mkF m 5 #[.val (.ref x0), .val (.int x1), .val (.ref x2)] [])) _
      refine XS.aloadN X2.here hx rfl (hb hby d11_5) rfl rfl ?_
      show Steps _ _ _ (T2.setTop (mkF m 6 #[.val (.ref x0), .val (.int x1), .val (.ref x2)] [(.ref x2)])) _
      refine XS.aloadN X2.here hx rfl (hb hby d11_6) rfl rfl ?_
      exact Steps.refl _)
  obtain ⟨T5, X5, e5, sr5⟩ := getF X2 hx hZ hown (host := "") (Or.inl (hw _ (List.mem_of_getElem? (i := 22) rfl))) Via.refl hh2 F_v (g := (mkF m 7 #[.val (.ref x0), .val (.int x1), .val (.ref x2)] [(.ref x0), (.ref x2)])) rfl rfl (hb hby d11_7)
  have st6 : Steps p.tables e below sE (T5.setTop (mkF m 10 #[.val (.ref x0), .val (.int x1), .val (.ref x2)] [(.ref aV), (.ref x2)])) := st4.trans (sr5 _ (Steps.refl _))
  have st7 : Steps p.tables e below sE (T5.setTop (mkF m 12 #[.val (.ref x0), .val (.int x1), .val (.ref x2)] [(.ref x0), (.int x1), (.ref aV), (.ref x2)])) := st6.trans (by
      show Steps _ _ _ (T5.setTop (mkF m 10 #[.val (.ref x0), .val (.int x1), .val (.ref x2)] [(.ref aV), (.ref x2)])) _
      refine XS.iloadN X5.here hx rfl (hb hby d11_10) rfl ?_
      show Steps _ _ _ (T5.setTop (mkF m 11 #[.val (.ref x0), .val (.int x1), .val (.ref x2)] [(.int x1), (.ref aV), (.ref x2)])) _
      refine XS.aloadN X5.here hx rfl (hb hby d11_11) rfl rfl ?_
      exact Steps.refl _)
  obtain ⟨T8, X8, e8, sr8⟩ := getF X5 hx hZ hown (host := "") (Or.inl (hw _ (List.mem_of_getElem? (i := 24) rfl))) Via.refl e5 F_c (g := (mkF m 12 #[.val (.ref x0), .val (.int x1), .val (.ref x2)] [(.ref x0), (.int x1), (.ref aV), (.ref x2)])) rfl rfl (hb hby d11_12)
  have st9 : Steps p.tables e below sE (T8.setTop (mkF m 15 #[.val (.ref x0), .val (.int x1), .val (.ref x2)] [(.int (0 : Int32)), (.int x1), (.ref aV), (.ref x2)])) := st7.trans (sr8 _ (Steps.refl _))
  obtain ⟨cq10, kq10, q10a, q10b, q10c⟩ := isOf hZ e8 E_s
  obtain ⟨_, _, ⟨T10, L10, k10, n10⟩, -, X10, ⟨Lc10, hQ10, l10, y10, z10⟩, sr10⟩ := X8.virtualBack hx (y := (⟨"java/lang/String", "getBytes", "([BIB)V"⟩ : MethodName)) (z := (⟨"java/lang/String", "getBytes", "([BIB)V"⟩ : MethodName)) hown (mvT hZ (hw _ (List.mem_of_getElem? (i := 79) rfl))) (mvT hZ (hw _ (List.mem_of_getElem? (i := 80) rfl))) (notFace_of_selects (args := #[]) (mvT hZ (hw _ (List.mem_of_getElem? (i := 82) rfl)))) (mvT hZ (hw _ (List.mem_of_getElem? (i := 82) rfl))) (mvT hZ (hw _ (List.mem_of_getElem? (i := 81) rfl))) (by decide) (backOf (W := 0) (rm13 l Z a0 hw [] x2 aV x1 cs b ka n L kV nd LD h0 n0 Z0 S_c hcs E_s F_sv F_sc A_b E_v A_v hat0 hnn hft hLD g_v ne_sv ne_bv) hZ (hw _ (List.mem_of_getElem? (i := 83) rfl)) (hw _ (List.mem_of_getElem? (i := 20) rfl)) (by decide) (by decide)) q10a q10c (g := (mkF m 15 #[.val (.ref x0), .val (.int x1), .val (.ref x2)] [(.int (0 : Int32)), (.int x1), (.ref aV), (.ref x2)])) rfl (by rw [hml]; rfl) (Steps.refl _) (argsL := [(.ref aV), (.int x1), (.int (0 : Int32))]) (rest := []) (lenOf pd_12 rfl) rfl (by show 2 * 0 + _ ≤ _; exact Nat.le_of_eq rfl) (hb hby d11_15) (fun _ _ => ⟨rfl, e8, (by decide : 0 + 0 ≤ _), (by decide : 0 + 0 ≤ _)⟩)
  dsimp only [Pt.U, Pt.locs, Pt.cells, Pt.slots] at X10 l10 y10 z10 sr10 hQ10
  subst l10 y10 z10
  obtain ⟨rfl, N10q, K10c, f10_0⟩ := hQ10
  have N10 := Fr.app N2 N10q
  obtain ⟨LL10, X10, N10⟩ := own_hide X10 N10
  have f11 : Sta Z T10.heap "java/lang/String" "COMPACT_STRINGS" "Z" (.int cs) := own_sta_keep S_c K10c (allS (own_ns E_v) all0)
  have f12 : Exa Z T10.heap x0 "java/lang/StringBuilder" := E_x.keep K10c
  have f13 : Fld Z T10.heap x0 "java/lang/AbstractStringBuilder" "value" "[B" (.ref aV) := F_v.keep K10c (ninS ne_xv nin0)
  have f14 : Fld Z T10.heap x0 "java/lang/AbstractStringBuilder" "coder" "B" (.int (0 : Int32)) := F_c.keep K10c (ninS ne_xv nin0)
  have f15 : Exa Z T10.heap aV "[B" := E_v.keep K10c
  have f16 : Exa Z T10.heap x2 "java/lang/String" := E_s.keep K10c
  have f17 : Fld Z T10.heap x2 "java/lang/String" "value" "[B" (.ref b) := F_sv.keep K10c (ninS ne_sv nin0)
  have f18 : Fld Z T10.heap x2 "java/lang/String" "coder" "B" (.int (0 : Int32)) := F_sc.keep K10c (ninS ne_sv nin0)
  have f19 : Arv Z T10.heap b ka .byte n (List.map Value.int L) (.int (0 : Int32)) := A_b.keep K10c (ninS ne_bv nin0)
  have K20 : Keep h0 T10.heap [aV] := K0.trans K10c (allS (Or.inl (List.mem_of_getElem? (i := 0) rfl)) all0)
  have Z21 : n0 ≤ T10.heap.size := Nat.le_trans Z0 K10c.1
  have st22 : Steps p.tables e below sE (T10.setTop (mkF m 18 #[.val (.ref x0), .val (.int x1), .val (.ref x2)] [])) := st9.trans (sr10)
  obtain ⟨fs, hr, hrun, hended, hW, hsame⟩ := X10.leave (v := none) (fun _ => rfl) hlk
  refine ⟨_, _, (own_ent hsE st22).trans ?_, hrun, hended, _, _, rfl, ?_, ⟨_, rfl⟩, hW, hsame.mono (by decide) (by decide)⟩
  · exact X10.returnOut hx Bd.returns (hb hby d11_18) hr
  · show Q11 Z x0 x1 x2 cs b ka n L aV kV nd LD h0 n0 _ T10.heap _
    exact ⟨rfl, N10, K20, f10_0⟩
theorem pd_13 : parseMethodDescriptor "(ILjava/lang/String;)V" = some ⟨[.int, (.object "java/lang/String")], none⟩ := by decide +kernel
theorem d7_0 : decode jdk_68_method_22_code 0 = .ok (.aload_n 1, 1) := by decide +kernel
theorem d7_1 : decode jdk_68_method_22_code 1 = .ok (.ifnonnull 8, 3) := by decide +kernel
theorem d7_9 : decode jdk_68_method_22_code 9 = .ok (.aload_n 1, 1) := by decide +kernel
theorem d7_10 : decode jdk_68_method_22_code 10 = .ok (.invokevirtual 32, 3) := by decide +kernel
theorem d7_13 : decode jdk_68_method_22_code 13 = .ok (.istore_n 2, 1) := by decide +kernel
theorem d7_14 : decode jdk_68_method_22_code 14 = .ok (.aload_n 0, 1) := by decide +kernel
theorem d7_15 : decode jdk_68_method_22_code 15 = .ok (.aload_n 0, 1) := by decide +kernel
theorem d7_16 : decode jdk_68_method_22_code 16 = .ok (.getfield 79, 3) := by decide +kernel
theorem d7_19 : decode jdk_68_method_22_code 19 = .ok (.iload_n 2, 1) := by decide +kernel
theorem d7_20 : decode jdk_68_method_22_code 20 = .ok (.iadd, 1) := by decide +kernel
theorem d7_21 : decode jdk_68_method_22_code 21 = .ok (.invokevirtual 100, 3) := by decide +kernel
theorem d7_24 : decode jdk_68_method_22_code 24 = .ok (.aload_n 0, 1) := by decide +kernel
theorem d7_25 : decode jdk_68_method_22_code 25 = .ok (.aload_n 0, 1) := by decide +kernel
theorem d7_26 : decode jdk_68_method_22_code 26 = .ok (.getfield 79, 3) := by decide +kernel
theorem d7_29 : decode jdk_68_method_22_code 29 = .ok (.aload_n 1, 1) := by decide +kernel
theorem d7_30 : decode jdk_68_method_22_code 30 = .ok (.invokevirtual 208, 3) := by decide +kernel
theorem d7_33 : decode jdk_68_method_22_code 33 = .ok (.aload_n 0, 1) := by decide +kernel
theorem d7_34 : decode jdk_68_method_22_code 34 = .ok (.dup, 1) := by decide +kernel
theorem d7_35 : decode jdk_68_method_22_code 35 = .ok (.getfield 79, 3) := by decide +kernel
theorem d7_38 : decode jdk_68_method_22_code 38 = .ok (.iload_n 2, 1) := by decide +kernel
theorem d7_39 : decode jdk_68_method_22_code 39 = .ok (.iadd, 1) := by decide +kernel
theorem d7_40 : decode jdk_68_method_22_code 40 = .ok (.putfield 79, 3) := by decide +kernel
theorem d7_43 : decode jdk_68_method_22_code 43 = .ok (.aload_n 0, 1) := by decide +kernel
theorem d7_44 : decode jdk_68_method_22_code 44 = .ok (.areturn, 1) := by decide +kernel
theorem ef_7 (m : MethodId) (x0 : Addr) (x1 : Addr)  : entryFrame m #[(.ref x0), (.ref x1)] 3 = mkF m 0 #[.val (.ref x0), .val (.ref x1), .unset] [] := by first | (simp [entryFrame, mkF, argsToLocals, Value.category]; done) | rfl
def Q7 (Z : State) (x0 : Addr) (x1 : Addr) (cs : Int32) (b : Addr) (ka : ClassId) (n : Int32) (L : List Int32) (aV : Addr) (kV : ClassId) (nd : Int32) (LD : List Int32) (cn : Int32) (h0 : Heap) (n0 : Nat) (vE : Option Value) (hE : Heap) (LE : List Loc) : Prop := vE = some (.ref x0) ∧ Fr n0 LE ∧ Keep h0 hE [x0, aV] ∧ Exa Z hE x0 "java/lang/StringBuilder" ∧ Fld Z hE x0 "java/lang/AbstractStringBuilder" "coder" "B" (.int (0 : Int32)) ∧ Fld Z hE x0 "java/lang/AbstractStringBuilder" "count" "I" (.int (cn + n)) ∧ (∃ (aN : Addr) (kN : ClassId) (nw : Int32) (LN : List Int32), Fld Z hE x0 "java/lang/AbstractStringBuilder" "value" "[B" (.ref aN) ∧ Exa Z hE aN "[B" ∧ Arv Z hE aN kN .byte nw (List.map Value.int LN) (.int (0 : Int32)) ∧ own_bd nw LN (cn + n) 12300 ∧ (nw.toInt = nd.toInt ∨ nw.toInt = cn.toInt + n.toInt ∨ nw.toInt = 2 * nd.toInt + 2) ∧ n0 ≤ aN ∧ x0 ≠ aN ∧ (aN = aV ∨ h0.size ≤ aN))
set_option maxRecDepth 65536 in
set_option maxHeartbeats 40000000 in
theorem rm7 (l : Launch) (Z : State) (a0 : Array Value) (hw : ∀ d ∈ tables_1, d.before a0 Z = true) (ws : List Jvm.Cond) (x0 : Addr) (x1 : Addr) (cs : Int32) (b : Addr) (ka : ClassId) (n : Int32) (L : List Int32) (aV : Addr) (kV : ClassId) (nd : Int32) (LD : List Int32) (cn : Int32) (h0 : Heap) (n0 : Nat) (Z0 : n0 ≤ h0.size) (S_c : Sta Z h0 "java/lang/String" "COMPACT_STRINGS" "Z" (.int cs)) (hcs : ¬ cs = (0 : Int32)) (E_x : Exa Z h0 x0 "java/lang/StringBuilder") (F_v : Fld Z h0 x0 "java/lang/AbstractStringBuilder" "value" "[B" (.ref aV)) (F_c : Fld Z h0 x0 "java/lang/AbstractStringBuilder" "coder" "B" (.int (0 : Int32))) (E_v : Exa Z h0 aV "[B") (A_v : Arv Z h0 aV kV .byte nd (List.map Value.int LD) (.int (0 : Int32))) (F_n : Fld Z h0 x0 "java/lang/AbstractStringBuilder" "count" "I" (.int cn)) (E_s : Exa Z h0 x1 "java/lang/String") (F_sv : Fld Z h0 x1 "java/lang/String" "value" "[B" (.ref b)) (F_sc : Fld Z h0 x1 "java/lang/String" "coder" "B" (.int (0 : Int32))) (A_b : Arv Z h0 b ka .byte n (List.map Value.int L) (.int (0 : Int32))) (hbd : own_bd nd LD cn 6141) (hst : own_st n L cn) (g_x : n0 ≤ x0) (g_v : n0 ≤ aV) (ne_xv : x0 ≠ aV) (ne_sv : x1 ≠ aV) (ne_bv : b ≠ aV) (ne_xs : x0 ≠ x1) (ne_xb : x0 ≠ b) :
    MetFree l (⟨"java/lang/AbstractStringBuilder", "append", "(Ljava/lang/String;)Ljava/lang/AbstractStringBuilder;"⟩ : MethodName) (head1 (Jvm.Cond.code (⟨"java/lang/AbstractStringBuilder", "append", "(Ljava/lang/String;)Ljava/lang/AbstractStringBuilder;"⟩ : MethodName) jdk_68_method_22_code 3 (some (.object "java/lang/AbstractStringBuilder")) :: ws) ({ frames := 4, cells := 1, slots := 12300, locals := 62 } : Room)) (fun a U => a = #[(.ref x0), (.ref x1)] ∧ Z.Warmed39 U.vm ∧ U.heap = h0) (fun _ _ _ _ _ => True) (fun _ U o U' => ∃ vE LE, o = .returned vE ∧ Q7 Z x0 x1 cs b ka n L aV kV nd LD cn h0 n0 vE U'.heap LE ∧ FrameEnd U o U' LE ({ frames := 4, cells := 1, slots := 12300, locals := 62 } : Room).cells ({ frames := 4, cells := 1, slots := 12300, locals := 62 } : Room).slots) := by
  refine MetFree.of_bodySF (plainFor_of_name pn_4) hisR ?_
  intro p e s m args below meth c s₁ Bd hml0 hP hK
  obtain ⟨rfl, hZ, hh⟩ := hP
  have hx := Bd.exec
  have hby := Bd.bytes
  have hml : c.maxLocals = 3 := hml0
  have hown : s.vm.findClass "java/lang/AbstractStringBuilder" = some m.cls := findClass_of_methodNamed Bd.named
  have hnm := (name_of_methodNamed Bd.named Bd.method).1
  have hlk : meth.locks = false := BodyLoose.notSynchronized Bd
  have X0 : Stand p l e ({ frames := 4, cells := 1, slots := 12300, locals := 62 } : Room) s m #[(.ref x0), (.ref x1)] below meth c s₁ [] 0 0 := Stand.of_body Bd
  have e0 : s₁.heap = h0 := by rw [← hh, Bd.state]; rfl
  have N0 := Fr.nil n0
  obtain ⟨sE, hsE⟩ : ∃ z, z = (s₁.setTop (entryFrame m #[(.ref x0), (.ref x1)] 3)) := ⟨_, rfl⟩
  have st0 : Steps p.tables e below sE (s₁.setTop (mkF m 0 #[.val (.ref x0), .val (.ref x1), .unset] [])) := by rw [hsE]; exact castTop (ef_7 m x0 x1) (Steps.refl _)
  have K0 : Keep h0 h0 [x0, aV] := Keep.refl _ _
  have st1 : Steps p.tables e below sE (s₁.setTop (mkF m 10 #[.val (.ref x0), .val (.ref x1), .unset] [(.ref x1)])) := st0.trans (by
      show Steps _ _ _ (s₁.setTop (mkF m 0 #[.val (.ref x0), .val (.ref x1), .unset] [])) _
      refine XS.aloadN X0.here hx rfl (hb hby d7_0) rfl rfl ?_
      show Steps _ _ _ (s₁.setTop (mkF m 1 #[.val (.ref x0), .val (.ref x1), .unset] [(.ref x1)])) _
      refine XS.ifnonnullYes X0.here hx rfl (pc0 := 1) (pc' := 9) rfl (hb hby d7_1) rfl (by decide) (by decide) ?_
      show Steps _ _ _ (s₁.setTop (mkF m 9 #[.val (.ref x0), .val (.ref x1), .unset] [])) _
      refine XS.aloadN X0.here hx rfl (hb hby d7_9) rfl rfl ?_
      exact Steps.refl _)
  obtain ⟨cq2, kq2, q2a, q2b, q2c⟩ := isOf hZ e0 E_s
  obtain ⟨_, _, ⟨T2, L2, k2, n2⟩, -, X2, ⟨Lc2, hQ2, l2, y2, z2⟩, sr2⟩ := X0.virtualBack hx (y := (⟨"java/lang/String", "length", "()I"⟩ : MethodName)) (z := (⟨"java/lang/String", "length", "()I"⟩ : MethodName)) hown (mvT hZ (hw _ (List.mem_of_getElem? (i := 49) rfl))) (mvT hZ (hw _ (List.mem_of_getElem? (i := 50) rfl))) (notFace_of_selects (args := #[]) (mvT hZ (hw _ (List.mem_of_getElem? (i := 52) rfl)))) (mvT hZ (hw _ (List.mem_of_getElem? (i := 52) rfl))) (mvT hZ (hw _ (List.mem_of_getElem? (i := 51) rfl))) (by decide) (backOf (W := 0) (rm8 l Z a0 hw [] x1 cs b ka n L h0 n0 Z0 S_c hcs E_s F_sv F_sc A_b) hZ (hw _ (List.mem_of_getElem? (i := 53) rfl)) (hw _ (List.mem_of_getElem? (i := 20) rfl)) (by decide) (by decide)) q2a q2c (g := (mkF m 10 #[.val (.ref x0), .val (.ref x1), .unset] [(.ref x1)])) rfl (by rw [hml]; rfl) (Steps.refl _) (argsL := []) (rest := []) (lenOf pd_5 rfl) rfl (by show 2 * 0 + _ ≤ _; exact Nat.le_of_eq rfl) (hb hby d7_10) (fun _ _ => ⟨rfl, e0, (by decide : 0 + 0 ≤ _), (by decide : 0 + 0 ≤ _)⟩)
  dsimp only [Pt.U, Pt.locs, Pt.cells, Pt.slots] at X2 l2 y2 z2 sr2 hQ2
  subst l2 y2 z2
  obtain ⟨rfl, N2q, hh2⟩ := hQ2
  have N2 := Fr.app N0 N2q
  obtain ⟨LL2, X2, N2⟩ := own_hide X2 N2
  have st3 : Steps p.tables e below sE (T2.setTop (mkF m 13 #[.val (.ref x0), .val (.ref x1), .unset] [(.int n)])) := st1.trans (sr2)
  have st4 : Steps p.tables e below sE (T2.setTop (mkF m 16 #[.val (.ref x0), .val (.ref x1), .val (.int n)] [(.ref x0), (.ref x0)])) := st3.trans (by
      show Steps _ _ _ (T2.setTop (mkF m 13 #[.val (.ref x0), .val (.ref x1), .unset] [(.int n)])) _
      refine XS.istoreN X2.here hx rfl (hb hby d7_13) rfl (l' := #[.val (.ref x0), .val (.ref x1), .val (.int n)]) rfl ?_
      show Steps _ _ _ (T2.setTop (mkF m 14 #[.val (.ref x0), .val (.ref x1), .val (.int n)] [])) _
      refine XS.aloadN X2.here hx rfl (hb hby d7_14) rfl rfl ?_
      show Steps _ _ _ (T2.setTop (mkF m 15 #[.val (.ref x0), .val (.ref x1), .val (.int n)] [(.ref x0)])) _
      refine XS.aloadN X2.here hx rfl (hb hby d7_15) rfl rfl ?_
      exact Steps.refl _)
  obtain ⟨T5, X5, e5, sr5⟩ := getF X2 hx hZ hown (host := "") (Or.inl (hw _ (List.mem_of_getElem? (i := 61) rfl))) Via.refl hh2 F_n (g := (mkF m 16 #[.val (.ref x0), .val (.ref x1), .val (.int n)] [(.ref x0), (.ref x0)])) rfl rfl (hb hby d7_16)
  have st6 : Steps p.tables e below sE (T5.setTop (mkF m 19 #[.val (.ref x0), .val (.ref x1), .val (.int n)] [(.int cn), (.ref x0)])) := st4.trans (sr5 _ (Steps.refl _))
  have st7 : Steps p.tables e below sE (T5.setTop (mkF m 21 #[.val (.ref x0), .val (.ref x1), .val (.int n)] [(.int (cn + n)), (.ref x0)])) := st6.trans (by
      show Steps _ _ _ (T5.setTop (mkF m 19 #[.val (.ref x0), .val (.ref x1), .val (.int n)] [(.int cn), (.ref x0)])) _
      refine XS.iloadN X5.here hx rfl (hb hby d7_19) rfl ?_
      show Steps _ _ _ (T5.setTop (mkF m 20 #[.val (.ref x0), .val (.ref x1), .val (.int n)] [(.int n), (.int cn), (.ref x0)])) _
      refine XS.iadd X5.here hx rfl (hb hby d7_20) rfl ?_
      exact Steps.refl _)
  by_cases hc8 : (0 : Int32) < ((cn + n) - nd)
  · 
    obtain ⟨cq9, q9, q9'⟩ := E_x.cell
    obtain ⟨_, _, ⟨T9, L9, k9, n9⟩, -, X9, ⟨Lc9, hQ9, l9, y9, z9⟩, sr9⟩ := X5.privateBack hx (y := (⟨"java/lang/AbstractStringBuilder", "ensureCapacityInternal", "(I)V"⟩ : MethodName)) hown (mvT hZ (hw _ (List.mem_of_getElem? (i := 63) rfl))) (mvT hZ (hw _ (List.mem_of_getElem? (i := 64) rfl))) (own_selp (z := (⟨"java/lang/AbstractStringBuilder", "ensureCapacityInternal", "(I)V"⟩ : MethodName)) rfl (notFace_of_selects (args := #[]) (mvT hZ (hw _ (List.mem_of_getElem? (i := 66) rfl)))) (args' := #[]) (mvT hZ (hw _ (List.mem_of_getElem? (i := 64) rfl))) (Cond.privateMethod_at (mvP hZ (hw _ (List.mem_of_getElem? (i := 65) rfl)) (args := #[]))) (mvT hZ (hw _ (List.mem_of_getElem? (i := 64) rfl))) (by decide)) (Cond.privateMethod_at (mvP hZ (hw _ (List.mem_of_getElem? (i := 65) rfl)) (args := #[]))) (mvT hZ (hw _ (List.mem_of_getElem? (i := 67) rfl))) (by decide) (backOf (W := 0) (rmecG l Z a0 hw [] x0 (cn + n) aV kV nd LD cn h0 n0 Z0 E_x F_v F_c E_v A_v F_n hc8 ⟨by have := hbd.2.1; have := hbd.2.2.1; omega, hbd.2.2.2.1⟩ (by rw [own_sum hbd.2.1 hst.1 hst.2.1]; have := hbd.2.1; have := hst.1; have := hst.2.1; omega) hbd.1 g_x ne_xv) hZ (hw _ (List.mem_of_getElem? (i := 67) rfl)) (hw _ (List.mem_of_getElem? (i := 14) rfl)) (by decide) (by decide)) (g := (mkF m 21 #[.val (.ref x0), .val (.ref x1), .val (.int n)] [(.int (cn + n)), (.ref x0)])) rfl (by rw [hml]; rfl) (Steps.refl _) (a := x0) (by rw [e5]; exact q9) q9' (argsL := [(.int (cn + n))]) (rest := []) (lenOf pd_6 rfl) rfl (by show 2 * 0 + _ ≤ _; exact Nat.le_of_eq rfl) (hb hby d7_21) (fun _ _ => ⟨rfl, e5, (by decide : 0 + 1 ≤ _), (by decide : 0 + 12300 ≤ _)⟩)
    dsimp only [Pt.U, Pt.locs, Pt.cells, Pt.slots] at X9 l9 y9 z9 sr9 hQ9
    subst l9 y9 z9
    obtain ⟨rfl, N9q, K9c, f9_0, f9_1, f9_2, ⟨aN, kN, nw, LN, qv, qe, qa, hNl, hN1, hN0, hNM, hNw, hNg, g_aN, -, szN⟩⟩ := hQ9
    have N9 := Fr.app N2 N9q
    obtain ⟨LL9, X9, N9⟩ := own_hide X9 N9
    have f10 : Sta Z T9.heap "java/lang/String" "COMPACT_STRINGS" "Z" (.int cs) := own_sta_keep S_c K9c (allS (own_ns E_x) all0)
    have f11 : Exa Z T9.heap x0 "java/lang/StringBuilder" := E_x.keep K9c
    have f12 : Exa Z T9.heap aV "[B" := E_v.keep K9c
    have f13 : Arv Z T9.heap aV kV .byte nd (List.map Value.int LD) (.int (0 : Int32)) := A_v.keep K9c (ninS (Ne.symm ne_xv) nin0)
    have f14 : Exa Z T9.heap x1 "java/lang/String" := E_s.keep K9c
    have f15 : Fld Z T9.heap x1 "java/lang/String" "value" "[B" (.ref b) := F_sv.keep K9c (ninS (Ne.symm ne_xs) nin0)
    have f16 : Fld Z T9.heap x1 "java/lang/String" "coder" "B" (.int (0 : Int32)) := F_sc.keep K9c (ninS (Ne.symm ne_xs) nin0)
    have f17 : Arv Z T9.heap b ka .byte n (List.map Value.int L) (.int (0 : Int32)) := A_b.keep K9c (ninS (Ne.symm ne_xb) nin0)
    have K18 : Keep h0 T9.heap [x0, aV] := K0.trans K9c (allS (Or.inl (List.mem_of_getElem? (i := 0) rfl)) all0)
    have Z19 : n0 ≤ T9.heap.size := Nat.le_trans Z0 K9c.1
    have sz_aN : h0.size ≤ aN := Nat.le_trans K0.1 szN
    have ne_x0_aN : x0 ≠ aN := Nat.ne_of_lt (Nat.lt_of_lt_of_le E_x.lt szN)
    have ne_aV_aN : aV ≠ aN := Nat.ne_of_lt (Nat.lt_of_lt_of_le E_v.lt szN)
    have ne_x1_aN : x1 ≠ aN := Nat.ne_of_lt (Nat.lt_of_lt_of_le E_s.lt szN)
    have ne_b_aN : b ≠ aN := Nat.ne_of_lt (Nat.lt_of_lt_of_le A_b.lt szN)
    have st20 : Steps p.tables e below sE (T9.setTop (mkF m 24 #[.val (.ref x0), .val (.ref x1), .val (.int n)] [])) := st7.trans (sr9)
    have st21 : Steps p.tables e below sE (T9.setTop (mkF m 26 #[.val (.ref x0), .val (.ref x1), .val (.int n)] [(.ref x0), (.ref x0)])) := st20.trans (by
        show Steps _ _ _ (T9.setTop (mkF m 24 #[.val (.ref x0), .val (.ref x1), .val (.int n)] [])) _
        refine XS.aloadN X9.here hx rfl (hb hby d7_24) rfl rfl ?_
        show Steps _ _ _ (T9.setTop (mkF m 25 #[.val (.ref x0), .val (.ref x1), .val (.int n)] [(.ref x0)])) _
        refine XS.aloadN X9.here hx rfl (hb hby d7_25) rfl rfl ?_
        exact Steps.refl _)
    obtain ⟨T22, X22, e22, sr22⟩ := getF X9 hx hZ hown (host := "") (Or.inl (hw _ (List.mem_of_getElem? (i := 61) rfl))) Via.refl rfl f9_2 (g := (mkF m 26 #[.val (.ref x0), .val (.ref x1), .val (.int n)] [(.ref x0), (.ref x0)])) rfl rfl (hb hby d7_26)
    have st23 : Steps p.tables e below sE (T22.setTop (mkF m 29 #[.val (.ref x0), .val (.ref x1), .val (.int n)] [(.int cn), (.ref x0)])) := st21.trans (sr22 _ (Steps.refl _))
    have st24 : Steps p.tables e below sE (T22.setTop (mkF m 30 #[.val (.ref x0), .val (.ref x1), .val (.int n)] [(.ref x1), (.int cn), (.ref x0)])) := st23.trans (by
        show Steps _ _ _ (T22.setTop (mkF m 29 #[.val (.ref x0), .val (.ref x1), .val (.int n)] [(.int cn), (.ref x0)])) _
        refine XS.aloadN X22.here hx rfl (hb hby d7_29) rfl rfl ?_
        exact Steps.refl _)
    have hle := (show cn.toInt + n.toInt ≤ nw.toInt by have := own_sum hbd.2.1 hst.1 hst.2.1; omega)
    obtain ⟨cq25, q25, q25'⟩ := f9_0.cell
    obtain ⟨_, _, ⟨T25, L25, k25, n25⟩, -, X25, ⟨Lc25, hQ25, l25, y25, z25⟩, sr25⟩ := X22.privateBack hx (y := (⟨"java/lang/AbstractStringBuilder", "putStringAt", "(ILjava/lang/String;)V"⟩ : MethodName)) hown (mvT hZ (hw _ (List.mem_of_getElem? (i := 68) rfl))) (mvT hZ (hw _ (List.mem_of_getElem? (i := 69) rfl))) (own_selp (z := (⟨"java/lang/AbstractStringBuilder", "ensureCapacityInternal", "(I)V"⟩ : MethodName)) rfl (notFace_of_selects (args := #[]) (mvT hZ (hw _ (List.mem_of_getElem? (i := 66) rfl)))) (args' := #[]) (mvT hZ (hw _ (List.mem_of_getElem? (i := 64) rfl))) (Cond.privateMethod_at (mvP hZ (hw _ (List.mem_of_getElem? (i := 70) rfl)) (args := #[]))) (mvT hZ (hw _ (List.mem_of_getElem? (i := 69) rfl))) (by decide)) (Cond.privateMethod_at (mvP hZ (hw _ (List.mem_of_getElem? (i := 70) rfl)) (args := #[]))) (mvT hZ (hw _ (List.mem_of_getElem? (i := 72) rfl))) (by decide) (backOf (W := 0) (rm11 l Z a0 hw [] x0 cn x1 cs b ka n L aN kN nw LN T9.heap n0 Z19 f10 hcs f9_0 qv f9_1 qe qa f14 f15 f16 f17 (own_nn cn hbd.2.1) (own_nn n hst.1) (by have := own_tn cn hbd.2.1; have := own_tn n hst.1; have := own_tn nw (by have := hbd.2.1; have := hst.1; omega); have := hbd.2.1; have := hst.1; omega) hNl g_aN ne_x0_aN ne_x1_aN ne_b_aN) hZ (hw _ (List.mem_of_getElem? (i := 72) rfl)) (hw _ (List.mem_of_getElem? (i := 14) rfl)) (by decide) (by decide)) (g := (mkF m 30 #[.val (.ref x0), .val (.ref x1), .val (.int n)] [(.ref x1), (.int cn), (.ref x0)])) rfl (by rw [hml]; rfl) (Steps.refl _) (a := x0) (by rw [e22]; exact q25) q25' (argsL := [(.int cn), (.ref x1)]) (rest := []) (lenOf pd_13 rfl) rfl (by show 2 * 0 + _ ≤ _; exact Nat.le_of_eq rfl) (hb hby d7_30) (fun _ _ => ⟨rfl, e22, (by decide : 1 + 0 ≤ _), (by decide : 12300 + 0 ≤ _)⟩)
    dsimp only [Pt.U, Pt.locs, Pt.cells, Pt.slots] at X25 l25 y25 z25 sr25 hQ25
    subst l25 y25 z25
    obtain ⟨rfl, N25q, K25c, f25_0⟩ := hQ25
    have N25 := Fr.app N9 N25q
    obtain ⟨LL25, X25, N25⟩ := own_hide X25 N25
    have f26 : Sta Z T25.heap "java/lang/String" "COMPACT_STRINGS" "Z" (.int cs) := own_sta_keep f10 K25c (allS (own_ns qe) all0)
    have f27 : Exa Z T25.heap x0 "java/lang/StringBuilder" := f9_0.keep K25c
    have f28 : Exa Z T25.heap aV "[B" := f12.keep K25c
    have f29 : Arv Z T25.heap aV kV .byte nd (List.map Value.int LD) (.int (0 : Int32)) := f13.keep K25c (ninS ne_aV_aN nin0)
    have f30 : Exa Z T25.heap x1 "java/lang/String" := f14.keep K25c
    have f31 : Fld Z T25.heap x1 "java/lang/String" "value" "[B" (.ref b) := f15.keep K25c (ninS ne_x1_aN nin0)
    have f32 : Fld Z T25.heap x1 "java/lang/String" "coder" "B" (.int (0 : Int32)) := f16.keep K25c (ninS ne_x1_aN nin0)
    have f33 : Arv Z T25.heap b ka .byte n (List.map Value.int L) (.int (0 : Int32)) := f17.keep K25c (ninS ne_b_aN nin0)
    have f34 : Fld Z T25.heap x0 "java/lang/AbstractStringBuilder" "coder" "B" (.int (0 : Int32)) := f9_1.keep K25c (ninS ne_x0_aN nin0)
    have f35 : Fld Z T25.heap x0 "java/lang/AbstractStringBuilder" "count" "I" (.int cn) := f9_2.keep K25c (ninS ne_x0_aN nin0)
    have f36 : Fld Z T25.heap x0 "java/lang/AbstractStringBuilder" "value" "[B" (.ref aN) := qv.keep K25c (ninS ne_x0_aN nin0)
    have f37 : Exa Z T25.heap aN "[B" := qe.keep K25c
    have K38 : Keep h0 T25.heap [x0, aV] := K18.trans K25c (allS (Or.inr sz_aN) all0)
    have Z39 : n0 ≤ T25.heap.size := Nat.le_trans Z19 K25c.1
    have st40 : Steps p.tables e below sE (T25.setTop (mkF m 33 #[.val (.ref x0), .val (.ref x1), .val (.int n)] [])) := st24.trans (sr25)
    have st41 : Steps p.tables e below sE (T25.setTop (mkF m 35 #[.val (.ref x0), .val (.ref x1), .val (.int n)] [(.ref x0), (.ref x0)])) := st40.trans (by
        show Steps _ _ _ (T25.setTop (mkF m 33 #[.val (.ref x0), .val (.ref x1), .val (.int n)] [])) _
        refine XS.aloadN X25.here hx rfl (hb hby d7_33) rfl rfl ?_
        show Steps _ _ _ (T25.setTop (mkF m 34 #[.val (.ref x0), .val (.ref x1), .val (.int n)] [(.ref x0)])) _
        refine XS.dup X25.here hx rfl (hb hby d7_34) rfl rfl ?_
        exact Steps.refl _)
    obtain ⟨T42, X42, e42, sr42⟩ := getF X25 hx hZ hown (host := "") (Or.inl (hw _ (List.mem_of_getElem? (i := 61) rfl))) Via.refl rfl f35 (g := (mkF m 35 #[.val (.ref x0), .val (.ref x1), .val (.int n)] [(.ref x0), (.ref x0)])) rfl rfl (hb hby d7_35)
    have st43 : Steps p.tables e below sE (T42.setTop (mkF m 38 #[.val (.ref x0), .val (.ref x1), .val (.int n)] [(.int cn), (.ref x0)])) := st41.trans (sr42 _ (Steps.refl _))
    have st44 : Steps p.tables e below sE (T42.setTop (mkF m 40 #[.val (.ref x0), .val (.ref x1), .val (.int n)] [(.int (cn + n)), (.ref x0)])) := st43.trans (by
        show Steps _ _ _ (T42.setTop (mkF m 38 #[.val (.ref x0), .val (.ref x1), .val (.int n)] [(.int cn), (.ref x0)])) _
        refine XS.iloadN X42.here hx rfl (hb hby d7_38) rfl ?_
        show Steps _ _ _ (T42.setTop (mkF m 39 #[.val (.ref x0), .val (.ref x1), .val (.int n)] [(.int n), (.int cn), (.ref x0)])) _
        refine XS.iadd X42.here hx rfl (hb hby d7_39) rfl ?_
        exact Steps.refl _)
    obtain ⟨T45, h45, X45, e45, W45, sr45⟩ := putF X42 hx hZ hown (host := "") (Or.inl (hw _ (List.mem_of_getElem? (i := 61) rfl))) Via.refl e42 f35 f27 (Or.inl (hw _ (List.mem_of_getElem? (i := 62) rfl))) (hw _ (List.mem_of_getElem? (i := 5) rfl)) (ty := .int) (by decide) rfl rfl (g := (mkF m 40 #[.val (.ref x0), .val (.ref x1), .val (.int n)] [(.int (cn + n)), (.ref x0)])) rfl rfl (hb hby d7_40)
    have f46 : Sta Z h45 "java/lang/String" "COMPACT_STRINGS" "Z" (.int cs) := f26.wr W45
    have f47 : Exa Z h45 x0 "java/lang/StringBuilder" := f27.wr W45
    have f48 : Exa Z h45 aV "[B" := f28.wr W45
    have f49 : Arv Z h45 aV kV .byte nd (List.map Value.int LD) (.int (0 : Int32)) := f29.other W45 (Ne.symm ne_xv)
    have f50 : Exa Z h45 x1 "java/lang/String" := f30.wr W45
    have f51 : Fld Z h45 x1 "java/lang/String" "value" "[B" (.ref b) := f31.other W45 (Or.inl (Ne.symm ne_xs))
    have f52 : Fld Z h45 x1 "java/lang/String" "coder" "B" (.int (0 : Int32)) := f32.other W45 (Or.inl (Ne.symm ne_xs))
    have f53 : Arv Z h45 b ka .byte n (List.map Value.int L) (.int (0 : Int32)) := f33.other W45 (Ne.symm ne_xb)
    have f54 : Fld Z h45 x0 "java/lang/AbstractStringBuilder" "coder" "B" (.int (0 : Int32)) := f34.other W45 (Or.inr (slot_ne (Or.inl (hw _ (List.mem_of_getElem? (i := 25) rfl))) (Or.inl (hw _ (List.mem_of_getElem? (i := 62) rfl))) (by decide) (t := .byte) (t' := .int) (by decide) (by decide)))
    have f55 : Fld Z h45 x0 "java/lang/AbstractStringBuilder" "value" "[B" (.ref aN) := f36.other W45 (Or.inr (slot_ne (Or.inl (hw _ (List.mem_of_getElem? (i := 23) rfl))) (Or.inl (hw _ (List.mem_of_getElem? (i := 62) rfl))) (by decide) (t := (.array .byte)) (t' := .int) (by decide) (by decide)))
    have f56 : Exa Z h45 aN "[B" := f37.wr W45
    have f57 : Arv Z h45 aN kN .byte nw (List.map Value.int (own_cp L LN ((0 : Int32)).toNatClampNeg (cn).toNatClampNeg (n).toNatClampNeg)) (.int (0 : Int32)) := f25_0.other W45 (Ne.symm ne_x0_aN)
    have f58 : Fld Z h45 x0 "java/lang/AbstractStringBuilder" "count" "I" (.int (cn + n)) := f35.same W45
    have K59 : Keep h0 h45 [x0, aV] := K38.wr W45 (Or.inl (List.mem_of_getElem? (i := 0) rfl))
    have Z45 : n0 ≤ h45.size := Nat.le_trans Z39 (Keep.of_wr W45).1
    have N45 := Fr.snoc X45 N25 g_x
    obtain ⟨LL45, X45, N45⟩ := own_hide X45 N45
    have st60 : Steps p.tables e below sE (T45.setTop (mkF m 43 #[.val (.ref x0), .val (.ref x1), .val (.int n)] [])) := st44.trans (sr45 _ (Steps.refl _))
    have st61 : Steps p.tables e below sE (T45.setTop (mkF m 44 #[.val (.ref x0), .val (.ref x1), .val (.int n)] [(.ref x0)])) := st60.trans (by
        show Steps _ _ _ (T45.setTop (mkF m 43 #[.val (.ref x0), .val (.ref x1), .val (.int n)] [])) _
        refine XS.aloadN X45.here hx rfl (hb hby d7_43) rfl rfl ?_
        exact Steps.refl _)
    obtain ⟨fs, hr, hrun, hended, hW, hsame⟩ := X45.leave (v := some (.ref x0)) (fun h => by rw [Bd.returns] at h; cases h) hlk
    refine ⟨_, _, (own_ent hsE st61).trans ?_, hrun, hended, _, _, rfl, ?_, ⟨_, rfl⟩, hW, hsame.mono (by decide) (by decide)⟩
    · exact retOut X45 hx (t := (.object "java/lang/AbstractStringBuilder")) Bd.returns rfl (Or.inr (Or.inr (Or.inr (Or.inr ⟨rfl, rfl, rfl⟩)))) (hb hby d7_44) hr
    · show Q7 Z x0 x1 cs b ka n L aV kV nd LD cn h0 n0 _ T45.heap _
      rw [e45]
      exact ⟨rfl, N45, K59, f47, f54, f58, ⟨aN, _, _, _, f55, f56, f57, own_bdS hNl hbd.2.1 hst hle hNM (fun i hi => by rw [hNg i (by have := own_tn cn hbd.2.1; have := own_tn nd (by have := hbd.2.1; have := hbd.2.2.1; omega); have := hbd.2.2.1; omega)]; exact hbd.2.2.2.2 i hi), Or.inr (hNw.imp (fun q => by rw [q]; exact own_sum hbd.2.1 hst.1 hst.2.1) id), g_aN, ne_x0_aN, Or.inr sz_aN⟩⟩
  · 
    obtain ⟨cq62, q62, q62'⟩ := E_x.cell
    obtain ⟨_, _, ⟨T62, L62, k62, n62⟩, -, X62, ⟨Lc62, hQ62, l62, y62, z62⟩, sr62⟩ := X5.privateBack hx (y := (⟨"java/lang/AbstractStringBuilder", "ensureCapacityInternal", "(I)V"⟩ : MethodName)) hown (mvT hZ (hw _ (List.mem_of_getElem? (i := 63) rfl))) (mvT hZ (hw _ (List.mem_of_getElem? (i := 64) rfl))) (own_selp (z := (⟨"java/lang/AbstractStringBuilder", "ensureCapacityInternal", "(I)V"⟩ : MethodName)) rfl (notFace_of_selects (args := #[]) (mvT hZ (hw _ (List.mem_of_getElem? (i := 66) rfl)))) (args' := #[]) (mvT hZ (hw _ (List.mem_of_getElem? (i := 64) rfl))) (Cond.privateMethod_at (mvP hZ (hw _ (List.mem_of_getElem? (i := 65) rfl)) (args := #[]))) (mvT hZ (hw _ (List.mem_of_getElem? (i := 64) rfl))) (by decide)) (Cond.privateMethod_at (mvP hZ (hw _ (List.mem_of_getElem? (i := 65) rfl)) (args := #[]))) (mvT hZ (hw _ (List.mem_of_getElem? (i := 67) rfl))) (by decide) (backOf (W := 0) (rmecF l Z a0 hw [] x0 (cn + n) aV kV nd LD h0 n0 Z0 E_x F_v F_c E_v A_v hc8) hZ (hw _ (List.mem_of_getElem? (i := 67) rfl)) (hw _ (List.mem_of_getElem? (i := 14) rfl)) (by decide) (by decide)) (g := (mkF m 21 #[.val (.ref x0), .val (.ref x1), .val (.int n)] [(.int (cn + n)), (.ref x0)])) rfl (by rw [hml]; rfl) (Steps.refl _) (a := x0) (by rw [e5]; exact q62) q62' (argsL := [(.int (cn + n))]) (rest := []) (lenOf pd_6 rfl) rfl (by show 2 * 0 + _ ≤ _; exact Nat.le_of_eq rfl) (hb hby d7_21) (fun _ _ => ⟨rfl, e5, (by decide : 0 + 0 ≤ _), (by decide : 0 + 0 ≤ _)⟩)
    dsimp only [Pt.U, Pt.locs, Pt.cells, Pt.slots] at X62 l62 y62 z62 sr62 hQ62
    subst l62 y62 z62
    obtain ⟨rfl, N62q, hh62⟩ := hQ62
    have N62 := Fr.app N2 N62q
    obtain ⟨LL62, X62, N62⟩ := own_hide X62 N62
    have st63 : Steps p.tables e below sE (T62.setTop (mkF m 24 #[.val (.ref x0), .val (.ref x1), .val (.int n)] [])) := st7.trans (sr62)
    have st64 : Steps p.tables e below sE (T62.setTop (mkF m 26 #[.val (.ref x0), .val (.ref x1), .val (.int n)] [(.ref x0), (.ref x0)])) := st63.trans (by
        show Steps _ _ _ (T62.setTop (mkF m 24 #[.val (.ref x0), .val (.ref x1), .val (.int n)] [])) _
        refine XS.aloadN X62.here hx rfl (hb hby d7_24) rfl rfl ?_
        show Steps _ _ _ (T62.setTop (mkF m 25 #[.val (.ref x0), .val (.ref x1), .val (.int n)] [(.ref x0)])) _
        refine XS.aloadN X62.here hx rfl (hb hby d7_25) rfl rfl ?_
        exact Steps.refl _)
    obtain ⟨T65, X65, e65, sr65⟩ := getF X62 hx hZ hown (host := "") (Or.inl (hw _ (List.mem_of_getElem? (i := 61) rfl))) Via.refl hh62 F_n (g := (mkF m 26 #[.val (.ref x0), .val (.ref x1), .val (.int n)] [(.ref x0), (.ref x0)])) rfl rfl (hb hby d7_26)
    have st66 : Steps p.tables e below sE (T65.setTop (mkF m 29 #[.val (.ref x0), .val (.ref x1), .val (.int n)] [(.int cn), (.ref x0)])) := st64.trans (sr65 _ (Steps.refl _))
    have st67 : Steps p.tables e below sE (T65.setTop (mkF m 30 #[.val (.ref x0), .val (.ref x1), .val (.int n)] [(.ref x1), (.int cn), (.ref x0)])) := st66.trans (by
        show Steps _ _ _ (T65.setTop (mkF m 29 #[.val (.ref x0), .val (.ref x1), .val (.int n)] [(.int cn), (.ref x0)])) _
        refine XS.aloadN X65.here hx rfl (hb hby d7_29) rfl rfl ?_
        exact Steps.refl _)
    have hle := (own_gr hbd.2.1 hst.1 hst.2.1 (by have := hbd.2.1; have := hbd.2.2.1; omega) hc8)
    obtain ⟨cq68, q68, q68'⟩ := E_x.cell
    obtain ⟨_, _, ⟨T68, L68, k68, n68⟩, -, X68, ⟨Lc68, hQ68, l68, y68, z68⟩, sr68⟩ := X65.privateBack hx (y := (⟨"java/lang/AbstractStringBuilder", "putStringAt", "(ILjava/lang/String;)V"⟩ : MethodName)) hown (mvT hZ (hw _ (List.mem_of_getElem? (i := 68) rfl))) (mvT hZ (hw _ (List.mem_of_getElem? (i := 69) rfl))) (own_selp (z := (⟨"java/lang/AbstractStringBuilder", "ensureCapacityInternal", "(I)V"⟩ : MethodName)) rfl (notFace_of_selects (args := #[]) (mvT hZ (hw _ (List.mem_of_getElem? (i := 66) rfl)))) (args' := #[]) (mvT hZ (hw _ (List.mem_of_getElem? (i := 64) rfl))) (Cond.privateMethod_at (mvP hZ (hw _ (List.mem_of_getElem? (i := 70) rfl)) (args := #[]))) (mvT hZ (hw _ (List.mem_of_getElem? (i := 69) rfl))) (by decide)) (Cond.privateMethod_at (mvP hZ (hw _ (List.mem_of_getElem? (i := 70) rfl)) (args := #[]))) (mvT hZ (hw _ (List.mem_of_getElem? (i := 72) rfl))) (by decide) (backOf (W := 0) (rm11 l Z a0 hw [] x0 cn x1 cs b ka n L aV kV nd LD h0 n0 Z0 S_c hcs E_x F_v F_c E_v A_v E_s F_sv F_sc A_b (own_nn cn hbd.2.1) (own_nn n hst.1) (by have := own_tn cn hbd.2.1; have := own_tn n hst.1; have := own_tn nd (by have := hbd.2.1; have := hst.1; omega); have := hbd.2.1; have := hst.1; omega) hbd.1 g_v ne_xv ne_sv ne_bv) hZ (hw _ (List.mem_of_getElem? (i := 72) rfl)) (hw _ (List.mem_of_getElem? (i := 14) rfl)) (by decide) (by decide)) (g := (mkF m 30 #[.val (.ref x0), .val (.ref x1), .val (.int n)] [(.ref x1), (.int cn), (.ref x0)])) rfl (by rw [hml]; rfl) (Steps.refl _) (a := x0) (by rw [e65]; exact q68) q68' (argsL := [(.int cn), (.ref x1)]) (rest := []) (lenOf pd_13 rfl) rfl (by show 2 * 0 + _ ≤ _; exact Nat.le_of_eq rfl) (hb hby d7_30) (fun _ _ => ⟨rfl, e65, (by decide : 0 + 0 ≤ _), (by decide : 0 + 0 ≤ _)⟩)
    dsimp only [Pt.U, Pt.locs, Pt.cells, Pt.slots] at X68 l68 y68 z68 sr68 hQ68
    subst l68 y68 z68
    obtain ⟨rfl, N68q, K68c, f68_0⟩ := hQ68
    have N68 := Fr.app N62 N68q
    obtain ⟨LL68, X68, N68⟩ := own_hide X68 N68
    have f69 : Sta Z T68.heap "java/lang/String" "COMPACT_STRINGS" "Z" (.int cs) := own_sta_keep S_c K68c (allS (own_ns E_v) all0)
    have f70 : Exa Z T68.heap x0 "java/lang/StringBuilder" := E_x.keep K68c
    have f71 : Fld Z T68.heap x0 "java/lang/AbstractStringBuilder" "value" "[B" (.ref aV) := F_v.keep K68c (ninS ne_xv nin0)
    have f72 : Fld Z T68.heap x0 "java/lang/AbstractStringBuilder" "coder" "B" (.int (0 : Int32)) := F_c.keep K68c (ninS ne_xv nin0)
    have f73 : Exa Z T68.heap aV "[B" := E_v.keep K68c
    have f74 : Fld Z T68.heap x0 "java/lang/AbstractStringBuilder" "count" "I" (.int cn) := F_n.keep K68c (ninS ne_xv nin0)
    have f75 : Exa Z T68.heap x1 "java/lang/String" := E_s.keep K68c
    have f76 : Fld Z T68.heap x1 "java/lang/String" "value" "[B" (.ref b) := F_sv.keep K68c (ninS ne_sv nin0)
    have f77 : Fld Z T68.heap x1 "java/lang/String" "coder" "B" (.int (0 : Int32)) := F_sc.keep K68c (ninS ne_sv nin0)
    have f78 : Arv Z T68.heap b ka .byte n (List.map Value.int L) (.int (0 : Int32)) := A_b.keep K68c (ninS ne_bv nin0)
    have K79 : Keep h0 T68.heap [x0, aV] := K0.trans K68c (allS (Or.inl (List.mem_of_getElem? (i := 1) rfl)) all0)
    have Z80 : n0 ≤ T68.heap.size := Nat.le_trans Z0 K68c.1
    have st81 : Steps p.tables e below sE (T68.setTop (mkF m 33 #[.val (.ref x0), .val (.ref x1), .val (.int n)] [])) := st67.trans (sr68)
    have st82 : Steps p.tables e below sE (T68.setTop (mkF m 35 #[.val (.ref x0), .val (.ref x1), .val (.int n)] [(.ref x0), (.ref x0)])) := st81.trans (by
        show Steps _ _ _ (T68.setTop (mkF m 33 #[.val (.ref x0), .val (.ref x1), .val (.int n)] [])) _
        refine XS.aloadN X68.here hx rfl (hb hby d7_33) rfl rfl ?_
        show Steps _ _ _ (T68.setTop (mkF m 34 #[.val (.ref x0), .val (.ref x1), .val (.int n)] [(.ref x0)])) _
        refine XS.dup X68.here hx rfl (hb hby d7_34) rfl rfl ?_
        exact Steps.refl _)
    obtain ⟨T83, X83, e83, sr83⟩ := getF X68 hx hZ hown (host := "") (Or.inl (hw _ (List.mem_of_getElem? (i := 61) rfl))) Via.refl rfl f74 (g := (mkF m 35 #[.val (.ref x0), .val (.ref x1), .val (.int n)] [(.ref x0), (.ref x0)])) rfl rfl (hb hby d7_35)
    have st84 : Steps p.tables e below sE (T83.setTop (mkF m 38 #[.val (.ref x0), .val (.ref x1), .val (.int n)] [(.int cn), (.ref x0)])) := st82.trans (sr83 _ (Steps.refl _))
    have st85 : Steps p.tables e below sE (T83.setTop (mkF m 40 #[.val (.ref x0), .val (.ref x1), .val (.int n)] [(.int (cn + n)), (.ref x0)])) := st84.trans (by
        show Steps _ _ _ (T83.setTop (mkF m 38 #[.val (.ref x0), .val (.ref x1), .val (.int n)] [(.int cn), (.ref x0)])) _
        refine XS.iloadN X83.here hx rfl (hb hby d7_38) rfl ?_
        show Steps _ _ _ (T83.setTop (mkF m 39 #[.val (.ref x0), .val (.ref x1), .val (.int n)] [(.int n), (.int cn), (.ref x0)])) _
        refine XS.iadd X83.here hx rfl (hb hby d7_39) rfl ?_
        exact Steps.refl _)
    obtain ⟨T86, h86, X86, e86, W86, sr86⟩ := putF X83 hx hZ hown (host := "") (Or.inl (hw _ (List.mem_of_getElem? (i := 61) rfl))) Via.refl e83 f74 f70 (Or.inl (hw _ (List.mem_of_getElem? (i := 62) rfl))) (hw _ (List.mem_of_getElem? (i := 5) rfl)) (ty := .int) (by decide) rfl rfl (g := (mkF m 40 #[.val (.ref x0), .val (.ref x1), .val (.int n)] [(.int (cn + n)), (.ref x0)])) rfl rfl (hb hby d7_40)
    have f87 : Sta Z h86 "java/lang/String" "COMPACT_STRINGS" "Z" (.int cs) := f69.wr W86
    have f88 : Exa Z h86 x0 "java/lang/StringBuilder" := f70.wr W86
    have f89 : Fld Z h86 x0 "java/lang/AbstractStringBuilder" "value" "[B" (.ref aV) := f71.other W86 (Or.inr (slot_ne (Or.inl (hw _ (List.mem_of_getElem? (i := 23) rfl))) (Or.inl (hw _ (List.mem_of_getElem? (i := 62) rfl))) (by decide) (t := (.array .byte)) (t' := .int) (by decide) (by decide)))
    have f90 : Fld Z h86 x0 "java/lang/AbstractStringBuilder" "coder" "B" (.int (0 : Int32)) := f72.other W86 (Or.inr (slot_ne (Or.inl (hw _ (List.mem_of_getElem? (i := 25) rfl))) (Or.inl (hw _ (List.mem_of_getElem? (i := 62) rfl))) (by decide) (t := .byte) (t' := .int) (by decide) (by decide)))
    have f91 : Exa Z h86 aV "[B" := f73.wr W86
    have f92 : Exa Z h86 x1 "java/lang/String" := f75.wr W86
    have f93 : Fld Z h86 x1 "java/lang/String" "value" "[B" (.ref b) := f76.other W86 (Or.inl (Ne.symm ne_xs))
    have f94 : Fld Z h86 x1 "java/lang/String" "coder" "B" (.int (0 : Int32)) := f77.other W86 (Or.inl (Ne.symm ne_xs))
    have f95 : Arv Z h86 b ka .byte n (List.map Value.int L) (.int (0 : Int32)) := f78.other W86 (Ne.symm ne_xb)
    have f96 : Arv Z h86 aV kV .byte nd (List.map Value.int (own_cp L LD ((0 : Int32)).toNatClampNeg (cn).toNatClampNeg (n).toNatClampNeg)) (.int (0 : Int32)) := f68_0.other W86 (Ne.symm ne_xv)
    have f97 : Fld Z h86 x0 "java/lang/AbstractStringBuilder" "count" "I" (.int (cn + n)) := f74.same W86
    have K98 : Keep h0 h86 [x0, aV] := K79.wr W86 (Or.inl (List.mem_of_getElem? (i := 0) rfl))
    have Z86 : n0 ≤ h86.size := Nat.le_trans Z80 (Keep.of_wr W86).1
    have N86 := Fr.snoc X86 N68 g_x
    obtain ⟨LL86, X86, N86⟩ := own_hide X86 N86
    have st99 : Steps p.tables e below sE (T86.setTop (mkF m 43 #[.val (.ref x0), .val (.ref x1), .val (.int n)] [])) := st85.trans (sr86 _ (Steps.refl _))
    have st100 : Steps p.tables e below sE (T86.setTop (mkF m 44 #[.val (.ref x0), .val (.ref x1), .val (.int n)] [(.ref x0)])) := st99.trans (by
        show Steps _ _ _ (T86.setTop (mkF m 43 #[.val (.ref x0), .val (.ref x1), .val (.int n)] [])) _
        refine XS.aloadN X86.here hx rfl (hb hby d7_43) rfl rfl ?_
        exact Steps.refl _)
    obtain ⟨fs, hr, hrun, hended, hW, hsame⟩ := X86.leave (v := some (.ref x0)) (fun h => by rw [Bd.returns] at h; cases h) hlk
    refine ⟨_, _, (own_ent hsE st100).trans ?_, hrun, hended, _, _, rfl, ?_, ⟨_, rfl⟩, hW, hsame.mono (by decide) (by decide)⟩
    · exact retOut X86 hx (t := (.object "java/lang/AbstractStringBuilder")) Bd.returns rfl (Or.inr (Or.inr (Or.inr (Or.inr ⟨rfl, rfl, rfl⟩)))) (hb hby d7_44) hr
    · show Q7 Z x0 x1 cs b ka n L aV kV nd LD cn h0 n0 _ T86.heap _
      rw [e86]
      exact ⟨rfl, N86, K98, f88, f90, f97, ⟨aV, _, _, _, f89, f91, f96, own_bdS hbd.1 hbd.2.1 hst hle (by have := hbd.2.2.2.1; omega) hbd.2.2.2.2, Or.inl rfl, g_v, ne_xv, Or.inl rfl⟩⟩
theorem pd_14 : parseMethodDescriptor "(Ljava/lang/String;)Ljava/lang/AbstractStringBuilder;" = some ⟨[(.object "java/lang/String")], some (.object "java/lang/AbstractStringBuilder")⟩ := by decide +kernel
theorem d6_0 : decode jdk_67_method_7_code 0 = .ok (.aload_n 0, 1) := by decide +kernel
theorem d6_1 : decode jdk_67_method_7_code 1 = .ok (.aload_n 1, 1) := by decide +kernel
theorem d6_2 : decode jdk_67_method_7_code 2 = .ok (.invokespecial 29, 3) := by decide +kernel
theorem d6_5 : decode jdk_67_method_7_code 5 = .ok (.pop, 1) := by decide +kernel
theorem d6_6 : decode jdk_67_method_7_code 6 = .ok (.aload_n 0, 1) := by decide +kernel
theorem d6_7 : decode jdk_67_method_7_code 7 = .ok (.areturn, 1) := by decide +kernel
theorem ef_6 (m : MethodId) (x0 : Addr) (x1 : Addr)  : entryFrame m #[(.ref x0), (.ref x1)] 2 = mkF m 0 #[.val (.ref x0), .val (.ref x1)] [] := by first | (simp [entryFrame, mkF, argsToLocals, Value.category]; done) | rfl
def Q6 (Z : State) (x0 : Addr) (x1 : Addr) (cs : Int32) (b : Addr) (ka : ClassId) (n : Int32) (L : List Int32) (aV : Addr) (kV : ClassId) (nd : Int32) (LD : List Int32) (cn : Int32) (h0 : Heap) (n0 : Nat) (vE : Option Value) (hE : Heap) (LE : List Loc) : Prop := vE = some (.ref x0) ∧ Fr n0 LE ∧ Keep h0 hE [x0, aV] ∧ Exa Z hE x0 "java/lang/StringBuilder" ∧ Fld Z hE x0 "java/lang/AbstractStringBuilder" "coder" "B" (.int (0 : Int32)) ∧ Fld Z hE x0 "java/lang/AbstractStringBuilder" "count" "I" (.int (cn + n)) ∧ (∃ (aN : Addr) (kN : ClassId) (nw : Int32) (LN : List Int32), Fld Z hE x0 "java/lang/AbstractStringBuilder" "value" "[B" (.ref aN) ∧ Exa Z hE aN "[B" ∧ Arv Z hE aN kN .byte nw (List.map Value.int LN) (.int (0 : Int32)) ∧ own_bd nw LN (cn + n) 12300 ∧ (nw.toInt = nd.toInt ∨ nw.toInt = cn.toInt + n.toInt ∨ nw.toInt = 2 * nd.toInt + 2) ∧ n0 ≤ aN ∧ x0 ≠ aN ∧ (aN = aV ∨ h0.size ≤ aN))
set_option maxRecDepth 65536 in
set_option maxHeartbeats 40000000 in
theorem rm6 (l : Launch) (Z : State) (a0 : Array Value) (hw : ∀ d ∈ tables_1, d.before a0 Z = true) (ws : List Jvm.Cond) (x0 : Addr) (x1 : Addr) (cs : Int32) (b : Addr) (ka : ClassId) (n : Int32) (L : List Int32) (aV : Addr) (kV : ClassId) (nd : Int32) (LD : List Int32) (cn : Int32) (h0 : Heap) (n0 : Nat) (Z0 : n0 ≤ h0.size) (S_c : Sta Z h0 "java/lang/String" "COMPACT_STRINGS" "Z" (.int cs)) (hcs : ¬ cs = (0 : Int32)) (E_x : Exa Z h0 x0 "java/lang/StringBuilder") (F_v : Fld Z h0 x0 "java/lang/AbstractStringBuilder" "value" "[B" (.ref aV)) (F_c : Fld Z h0 x0 "java/lang/AbstractStringBuilder" "coder" "B" (.int (0 : Int32))) (E_v : Exa Z h0 aV "[B") (A_v : Arv Z h0 aV kV .byte nd (List.map Value.int LD) (.int (0 : Int32))) (F_n : Fld Z h0 x0 "java/lang/AbstractStringBuilder" "count" "I" (.int cn)) (E_s : Exa Z h0 x1 "java/lang/String") (F_sv : Fld Z h0 x1 "java/lang/String" "value" "[B" (.ref b)) (F_sc : Fld Z h0 x1 "java/lang/String" "coder" "B" (.int (0 : Int32))) (A_b : Arv Z h0 b ka .byte n (List.map Value.int L) (.int (0 : Int32))) (hbd : own_bd nd LD cn 6141) (hst : own_st n L cn) (g_x : n0 ≤ x0) (g_v : n0 ≤ aV) (ne_xv : x0 ≠ aV) (ne_sv : x1 ≠ aV) (ne_bv : b ≠ aV) (ne_xs : x0 ≠ x1) (ne_xb : x0 ≠ b) :
    MetFree l (⟨"java/lang/StringBuilder", "append", "(Ljava/lang/String;)Ljava/lang/StringBuilder;"⟩ : MethodName) (head1 (Jvm.Cond.code (⟨"java/lang/StringBuilder", "append", "(Ljava/lang/String;)Ljava/lang/StringBuilder;"⟩ : MethodName) jdk_67_method_7_code 2 (some (.object "java/lang/StringBuilder")) :: ws) ({ frames := 5, cells := 1, slots := 12300, locals := 76 } : Room)) (fun a U => a = #[(.ref x0), (.ref x1)] ∧ Z.Warmed39 U.vm ∧ U.heap = h0) (fun _ _ _ _ _ => True) (fun _ U o U' => ∃ vE LE, o = .returned vE ∧ Q6 Z x0 x1 cs b ka n L aV kV nd LD cn h0 n0 vE U'.heap LE ∧ FrameEnd U o U' LE ({ frames := 5, cells := 1, slots := 12300, locals := 76 } : Room).cells ({ frames := 5, cells := 1, slots := 12300, locals := 76 } : Room).slots) := by
  refine MetFree.of_bodySF (plainFor_of_name pn_5) hisR ?_
  intro p e s m args below meth c s₁ Bd hml0 hP hK
  obtain ⟨rfl, hZ, hh⟩ := hP
  have hx := Bd.exec
  have hby := Bd.bytes
  have hml : c.maxLocals = 2 := hml0
  have hown : s.vm.findClass "java/lang/StringBuilder" = some m.cls := findClass_of_methodNamed Bd.named
  have hnm := (name_of_methodNamed Bd.named Bd.method).1
  have hlk : meth.locks = false := BodyLoose.notSynchronized Bd
  have X0 : Stand p l e ({ frames := 5, cells := 1, slots := 12300, locals := 76 } : Room) s m #[(.ref x0), (.ref x1)] below meth c s₁ [] 0 0 := Stand.of_body Bd
  have e0 : s₁.heap = h0 := by rw [← hh, Bd.state]; rfl
  have N0 := Fr.nil n0
  obtain ⟨sE, hsE⟩ : ∃ z, z = (s₁.setTop (entryFrame m #[(.ref x0), (.ref x1)] 2)) := ⟨_, rfl⟩
  have st0 : Steps p.tables e below sE (s₁.setTop (mkF m 0 #[.val (.ref x0), .val (.ref x1)] [])) := by rw [hsE]; exact castTop (ef_6 m x0 x1) (Steps.refl _)
  have K0 : Keep h0 h0 [x0, aV] := Keep.refl _ _
  have st1 : Steps p.tables e below sE (s₁.setTop (mkF m 2 #[.val (.ref x0), .val (.ref x1)] [(.ref x1), (.ref x0)])) := st0.trans (by
      show Steps _ _ _ (s₁.setTop (mkF m 0 #[.val (.ref x0), .val (.ref x1)] [])) _
      refine XS.aloadN X0.here hx rfl (hb hby d6_0) rfl rfl ?_
      show Steps _ _ _ (s₁.setTop (mkF m 1 #[.val (.ref x0), .val (.ref x1)] [(.ref x0)])) _
      refine XS.aloadN X0.here hx rfl (hb hby d6_1) rfl rfl ?_
      exact Steps.refl _)
  obtain ⟨_, _, ⟨T2, L2, k2, n2⟩, -, X2, ⟨Lc2, hQ2, l2, y2, z2⟩, sr2⟩ := superBack X0 hx hZ (y := (⟨"java/lang/AbstractStringBuilder", "append", "(Ljava/lang/String;)Ljava/lang/AbstractStringBuilder;"⟩ : MethodName)) hown (hw _ (List.mem_of_getElem? (i := 44) rfl)) (own_same (y := (⟨"java/lang/AbstractStringBuilder", "append", "(Ljava/lang/String;)Ljava/lang/AbstractStringBuilder;"⟩ : MethodName)) (z := (⟨"java/lang/AbstractStringBuilder", "ensureCapacityInternal", "(I)V"⟩ : MethodName)) rfl (notFace_of_selects (hw _ (List.mem_of_getElem? (i := 66) rfl))) (args' := a0) (hw _ (List.mem_of_getElem? (i := 64) rfl)) (by decide) (hw _ (List.mem_of_getElem? (i := 45) rfl))) (hw _ (List.mem_of_getElem? (i := 45) rfl)) (hw _ (List.mem_of_getElem? (i := 46) rfl)) (by decide) (backOf (W := 0) (rm7 l Z a0 hw [] x0 x1 cs b ka n L aV kV nd LD cn h0 n0 Z0 S_c hcs E_x F_v F_c E_v A_v F_n E_s F_sv F_sc A_b hbd hst g_x g_v ne_xv ne_sv ne_bv ne_xs ne_xb) hZ (hw _ (List.mem_of_getElem? (i := 48) rfl)) (hw _ (List.mem_of_getElem? (i := 14) rfl)) (by decide) (by decide)) e0 (Ins.self E_x) (g := (mkF m 2 #[.val (.ref x0), .val (.ref x1)] [(.ref x1), (.ref x0)])) rfl (by rw [hml]; rfl) (hw _ (List.mem_of_getElem? (i := 48) rfl)) (argsL := [(.ref x1)]) (rest := []) (lenOf pd_14 rfl) rfl (by show 2 * 0 + _ ≤ _; exact Nat.le_of_eq rfl) (hb hby d6_2) (fun _ _ => ⟨rfl, e0, (by decide : 0 + 1 ≤ _), (by decide : 0 + 12300 ≤ _)⟩)
  dsimp only [Pt.U, Pt.locs, Pt.cells, Pt.slots] at X2 l2 y2 z2 sr2 hQ2
  subst l2 y2 z2
  obtain ⟨rfl, N2q, K2c, f2_0, f2_1, f2_2, ⟨aN, kN, nw, LN, qv, qe, qa, hbN, hwN, g_aN, nxN, hoN⟩⟩ := hQ2
  have N2 := Fr.app N0 N2q
  obtain ⟨LL2, X2, N2⟩ := own_hide X2 N2
  have f3 : Sta Z T2.heap "java/lang/String" "COMPACT_STRINGS" "Z" (.int cs) := own_sta_keep S_c K2c (allS (own_ns E_x) (allS (own_ns E_v) all0))
  have f4 : Exa Z T2.heap x0 "java/lang/StringBuilder" := E_x.keep K2c
  have f5 : Exa Z T2.heap aV "[B" := E_v.keep K2c
  have f6 : Exa Z T2.heap x1 "java/lang/String" := E_s.keep K2c
  have f7 : Fld Z T2.heap x1 "java/lang/String" "value" "[B" (.ref b) := F_sv.keep K2c (ninS (Ne.symm ne_xs) (ninS ne_sv nin0))
  have f8 : Fld Z T2.heap x1 "java/lang/String" "coder" "B" (.int (0 : Int32)) := F_sc.keep K2c (ninS (Ne.symm ne_xs) (ninS ne_sv nin0))
  have f9 : Arv Z T2.heap b ka .byte n (List.map Value.int L) (.int (0 : Int32)) := A_b.keep K2c (ninS (Ne.symm ne_xb) (ninS ne_bv nin0))
  have K10 : Keep h0 T2.heap [x0, aV] := K0.trans K2c (allS (Or.inl (List.mem_of_getElem? (i := 0) rfl)) (allS (Or.inl (List.mem_of_getElem? (i := 1) rfl)) all0))
  have Z11 : n0 ≤ T2.heap.size := Nat.le_trans Z0 K2c.1
  have st12 : Steps p.tables e below sE (T2.setTop (mkF m 5 #[.val (.ref x0), .val (.ref x1)] [(.ref x0)])) := st1.trans (sr2)
  have st13 : Steps p.tables e below sE (T2.setTop (mkF m 7 #[.val (.ref x0), .val (.ref x1)] [(.ref x0)])) := st12.trans (by
      show Steps _ _ _ (T2.setTop (mkF m 5 #[.val (.ref x0), .val (.ref x1)] [(.ref x0)])) _
      refine XS.pop X2.here hx rfl (hb hby d6_5) rfl rfl ?_
      show Steps _ _ _ (T2.setTop (mkF m 6 #[.val (.ref x0), .val (.ref x1)] [])) _
      refine XS.aloadN X2.here hx rfl (hb hby d6_6) rfl rfl ?_
      exact Steps.refl _)
  obtain ⟨fs, hr, hrun, hended, hW, hsame⟩ := X2.leave (v := some (.ref x0)) (fun h => by rw [Bd.returns] at h; cases h) hlk
  refine ⟨_, _, (own_ent hsE st13).trans ?_, hrun, hended, _, _, rfl, ?_, ⟨_, rfl⟩, hW, hsame.mono (by decide) (by decide)⟩
  · exact retOut X2 hx (t := (.object "java/lang/StringBuilder")) Bd.returns rfl (Or.inr (Or.inr (Or.inr (Or.inr ⟨rfl, rfl, rfl⟩)))) (hb hby d6_7) hr
  · show Q6 Z x0 x1 cs b ka n L aV kV nd LD cn h0 n0 _ T2.heap _
    exact ⟨rfl, N2, K10, f2_0, f2_1, f2_2, ⟨aN, kN, nw, LN, qv, qe, qa, hbN, hwN, g_aN, nxN, hoN⟩⟩
theorem d23_0 : decode jdk_65_method_131_code 0 = .ok (.iload_n 1, 1) := by decide +kernel
theorem d23_1 : decode jdk_65_method_131_code 1 = .ok (.iload_n 0, 1) := by decide +kernel
theorem d23_2 : decode jdk_65_method_131_code 2 = .ok (.if_icmp .ge 35, 3) := by decide +kernel
theorem d23_37 : decode jdk_65_method_131_code 37 = .ok (.return_, 1) := by decide +kernel
theorem ef_23 (m : MethodId) (x0 : Int32) (x1 : Int32)  : entryFrame m #[(.int x0), (.int x1)] 2 = mkF m 0 #[.val (.int x0), .val (.int x1)] [] := by first | (simp [entryFrame, mkF, argsToLocals, Value.category]; done) | rfl
def Q23 (Z : State) (x0 : Int32) (x1 : Int32) (h0 : Heap) (n0 : Nat) (vE : Option Value) (hE : Heap) (LE : List Loc) : Prop := vE = none ∧ Fr n0 LE ∧ hE = h0
set_option maxRecDepth 65536 in
set_option maxHeartbeats 40000000 in
theorem rm23 (l : Launch) (Z : State) (a0 : Array Value) (hw : ∀ d ∈ tables_1, d.before a0 Z = true) (ws : List Jvm.Cond) (x0 : Int32) (x1 : Int32) (h0 : Heap) (n0 : Nat) (Z0 : n0 ≤ h0.size) (hck : ¬ x1 < x0) :
    MetFree l (⟨"java/util/Arrays", "checkLength", "(II)V"⟩ : MethodName) (head1 (Jvm.Cond.code (⟨"java/util/Arrays", "checkLength", "(II)V"⟩ : MethodName) jdk_65_method_131_code 2 none :: ws) ({ frames := 0, cells := 0, slots := 0, locals := 0 } : Room)) (fun a U => a = #[(.int x0), (.int x1)] ∧ Z.Warmed39 U.vm ∧ U.heap = h0) (fun _ _ _ _ _ => True) (fun _ U o U' => ∃ vE LE, o = .returned vE ∧ Q23 Z x0 x1 h0 n0 vE U'.heap LE ∧ FrameEnd U o U' LE ({ frames := 0, cells := 0, slots := 0, locals := 0 } : Room).cells ({ frames := 0, cells := 0, slots := 0, locals := 0 } : Room).slots) := by
  refine MetFree.of_bodySF (plainFor_of_name pn_7) hisR ?_
  intro p e s m args below meth c s₁ Bd hml0 hP hK
  obtain ⟨rfl, hZ, hh⟩ := hP
  have hx := Bd.exec
  have hby := Bd.bytes
  have hml : c.maxLocals = 2 := hml0
  have hown : s.vm.findClass "java/util/Arrays" = some m.cls := findClass_of_methodNamed Bd.named
  have hnm := (name_of_methodNamed Bd.named Bd.method).1
  have hlk : meth.locks = false := BodyLoose.notSynchronized Bd
  have X0 : Stand p l e ({ frames := 0, cells := 0, slots := 0, locals := 0 } : Room) s m #[(.int x0), (.int x1)] below meth c s₁ [] 0 0 := Stand.of_body Bd
  have e0 : s₁.heap = h0 := by rw [← hh, Bd.state]; rfl
  have N0 := Fr.nil n0
  obtain ⟨sE, hsE⟩ : ∃ z, z = (s₁.setTop (entryFrame m #[(.int x0), (.int x1)] 2)) := ⟨_, rfl⟩
  have st0 : Steps p.tables e below sE (s₁.setTop (mkF m 0 #[.val (.int x0), .val (.int x1)] [])) := by rw [hsE]; exact castTop (ef_23 m x0 x1) (Steps.refl _)
  have st1 : Steps p.tables e below sE (s₁.setTop (mkF m 2 #[.val (.int x0), .val (.int x1)] [(.int x0), (.int x1)])) := st0.trans (by
      show Steps _ _ _ (s₁.setTop (mkF m 0 #[.val (.int x0), .val (.int x1)] [])) _
      refine XS.iloadN X0.here hx rfl (hb hby d23_0) rfl ?_
      show Steps _ _ _ (s₁.setTop (mkF m 1 #[.val (.int x0), .val (.int x1)] [(.int x1)])) _
      refine XS.iloadN X0.here hx rfl (hb hby d23_1) rfl ?_
      exact Steps.refl _)
  have hf2 : ¬ (x1 < x0) := hck
  have st3 : Steps p.tables e below sE (s₁.setTop (mkF m 37 #[.val (.int x0), .val (.int x1)] [])) := st1.trans (by
      show Steps _ _ _ (s₁.setTop (mkF m 2 #[.val (.int x0), .val (.int x1)] [(.int x0), (.int x1)])) _
      refine XS.icmpYes X0.here hx rfl (pc0 := 2) (pc' := 37) rfl (hb hby d23_2) rfl (flt hf2).2.1 (by decide) (by decide) ?_
      exact Steps.refl _)
  obtain ⟨fs, hr, hrun, hended, hW, hsame⟩ := X0.leave (v := none) (fun _ => rfl) hlk
  refine ⟨_, _, (own_ent hsE st3).trans ?_, hrun, hended, _, _, rfl, ?_, ⟨_, rfl⟩, hW, hsame.mono (by decide) (by decide)⟩
  · exact X0.returnOut hx Bd.returns (hb hby d23_37) hr
  · show Q23 Z x0 x1 h0 n0 _ s₁.heap _
    rw [e0]
    exact ⟨rfl, N0, rfl⟩
theorem own_min2 (n x : Int32) (h : x.toInt < n.toInt) : F24 n x = x := by
  unfold F24
  split
  · rfl
  · rename_i q; rw [Int32.lt_iff_toInt_lt] at q; omega
theorem own_sb0 (x : Int32) : x - (0 : Int32) = x := by
  have e := c_isub x 0
  have r := rng32 x
  have r2 := rng32 (x - 0)
  rw [show (0 : Int32).toInt = 0 by decide] at e
  apply Int32.toInt_inj.mp; omega
theorem d22_0 : decode jdk_65_method_133_code 0 = .ok (.iload_n 1, 1) := by decide +kernel
theorem d22_1 : decode jdk_65_method_133_code 1 = .ok (.iload_n 2, 1) := by decide +kernel
theorem d22_2 : decode jdk_65_method_133_code 2 = .ok (.invokestatic 343, 3) := by decide +kernel
theorem d22_5 : decode jdk_65_method_133_code 5 = .ok (.iload_n 2, 1) := by decide +kernel
theorem d22_6 : decode jdk_65_method_133_code 6 = .ok (.iload_n 1, 1) := by decide +kernel
theorem d22_7 : decode jdk_65_method_133_code 7 = .ok (.isub, 1) := by decide +kernel
theorem d22_8 : decode jdk_65_method_133_code 8 = .ok (.istore_n 3, 1) := by decide +kernel
theorem d22_9 : decode jdk_65_method_133_code 9 = .ok (.iload_n 3, 1) := by decide +kernel
theorem d22_10 : decode jdk_65_method_133_code 10 = .ok (.newarray .byte, 2) := by decide +kernel
theorem d22_12 : decode jdk_65_method_133_code 12 = .ok (.astore 4, 2) := by decide +kernel
theorem d22_14 : decode jdk_65_method_133_code 14 = .ok (.aload_n 0, 1) := by decide +kernel
theorem d22_15 : decode jdk_65_method_133_code 15 = .ok (.iload_n 1, 1) := by decide +kernel
theorem d22_16 : decode jdk_65_method_133_code 16 = .ok (.aload 4, 2) := by decide +kernel
theorem d22_18 : decode jdk_65_method_133_code 18 = .ok (.iconst 0, 1) := by decide +kernel
theorem d22_19 : decode jdk_65_method_133_code 19 = .ok (.aload_n 0, 1) := by decide +kernel
theorem d22_20 : decode jdk_65_method_133_code 20 = .ok (.arraylength, 1) := by decide +kernel
theorem d22_21 : decode jdk_65_method_133_code 21 = .ok (.iload_n 1, 1) := by decide +kernel
theorem d22_22 : decode jdk_65_method_133_code 22 = .ok (.isub, 1) := by decide +kernel
theorem d22_23 : decode jdk_65_method_133_code 23 = .ok (.iload_n 3, 1) := by decide +kernel
theorem d22_24 : decode jdk_65_method_133_code 24 = .ok (.invokestatic 304, 3) := by decide +kernel
theorem d22_27 : decode jdk_65_method_133_code 27 = .ok (.invokestatic 150, 3) := by decide +kernel
theorem d22_30 : decode jdk_65_method_133_code 30 = .ok (.aload 4, 2) := by decide +kernel
theorem d22_32 : decode jdk_65_method_133_code 32 = .ok (.areturn, 1) := by decide +kernel
theorem ef_22 (m : MethodId) (x0 : Addr) (x2 : Int32)  : entryFrame m #[(.ref x0), (.int (0 : Int32)), (.int x2)] 5 = mkF m 0 #[.val (.ref x0), .val (.int (0 : Int32)), .val (.int x2), .unset, .unset] [] := by first | (simp [entryFrame, mkF, argsToLocals, Value.category]; done) | rfl
def Q22 (Z : State) (x0 : Addr) (x2 : Int32) (ka : ClassId) (n : Int32) (L : List Int32) (h0 : Heap) (n0 : Nat) (vE : Option Value) (hE : Heap) (LE : List Loc) : Prop := vE = some (.ref h0.size) ∧ Fr n0 LE ∧ Keep h0 hE [] ∧ (∃ kN : ClassId, Exa Z hE h0.size "[B" ∧ Arv Z hE h0.size kN .byte x2 (List.map Value.int (own_cp L (List.replicate (x2).toNatClampNeg (0 : Int32)) ((0 : Int32)).toNatClampNeg ((0 : Int32)).toNatClampNeg (x2).toNatClampNeg)) (.int (0 : Int32)))
set_option maxRecDepth 65536 in
set_option maxHeartbeats 40000000 in
theorem rm22 (l : Launch) (Z : State) (a0 : Array Value) (hw : ∀ d ∈ tables_1, d.before a0 Z = true) (ws : List Jvm.Cond) (x0 : Addr) (x2 : Int32) (ka : ClassId) (n : Int32) (L : List Int32) (h0 : Heap) (n0 : Nat) (Z0 : n0 ≤ h0.size) (A_x : Arv Z h0 x0 ka .byte n (List.map Value.int L) (.int (0 : Int32))) (hx0 : 0 ≤ x2.toInt) (hlt : x2.toInt < n.toInt) (hcp : x2.toInt ≤ 6142) :
    MetFree l (⟨"java/util/Arrays", "copyOfRangeByte", "([BII)[B"⟩ : MethodName) (head1 (Jvm.Cond.code (⟨"java/util/Arrays", "copyOfRangeByte", "([BII)[B"⟩ : MethodName) jdk_65_method_133_code 5 (some (.array .byte)) :: ws) ({ frames := 1, cells := 1, slots := 6142, locals := 18 } : Room)) (fun a U => a = #[(.ref x0), (.int (0 : Int32)), (.int x2)] ∧ Z.Warmed39 U.vm ∧ U.heap = h0) (fun _ _ _ _ _ => True) (fun _ U o U' => ∃ vE LE, o = .returned vE ∧ Q22 Z x0 x2 ka n L h0 n0 vE U'.heap LE ∧ FrameEnd U o U' LE ({ frames := 1, cells := 1, slots := 6142, locals := 18 } : Room).cells ({ frames := 1, cells := 1, slots := 6142, locals := 18 } : Room).slots) := by
  refine MetFree.of_bodySF (plainFor_of_name pn_7) hisR ?_
  intro p e s m args below meth c s₁ Bd hml0 hP hK
  obtain ⟨rfl, hZ, hh⟩ := hP
  have hx := Bd.exec
  have hby := Bd.bytes
  have hml : c.maxLocals = 5 := hml0
  have hown : s.vm.findClass "java/util/Arrays" = some m.cls := findClass_of_methodNamed Bd.named
  have hnm := (name_of_methodNamed Bd.named Bd.method).1
  have hlk : meth.locks = false := BodyLoose.notSynchronized Bd
  have X0 : Stand p l e ({ frames := 1, cells := 1, slots := 6142, locals := 18 } : Room) s m #[(.ref x0), (.int (0 : Int32)), (.int x2)] below meth c s₁ [] 0 0 := Stand.of_body Bd
  have e0 : s₁.heap = h0 := by rw [← hh, Bd.state]; rfl
  have N0 := Fr.nil n0
  obtain ⟨sE, hsE⟩ : ∃ z, z = (s₁.setTop (entryFrame m #[(.ref x0), (.int (0 : Int32)), (.int x2)] 5)) := ⟨_, rfl⟩
  have st0 : Steps p.tables e below sE (s₁.setTop (mkF m 0 #[.val (.ref x0), .val (.int (0 : Int32)), .val (.int x2), .unset, .unset] [])) := by rw [hsE]; exact castTop (ef_22 m x0 x2) (Steps.refl _)
  have K0 : Keep h0 h0 [] := Keep.refl _ _
  have st1 : Steps p.tables e below sE (s₁.setTop (mkF m 2 #[.val (.ref x0), .val (.int (0 : Int32)), .val (.int x2), .unset, .unset] [(.int x2), (.int (0 : Int32))])) := st0.trans (by
      show Steps _ _ _ (s₁.setTop (mkF m 0 #[.val (.ref x0), .val (.int (0 : Int32)), .val (.int x2), .unset, .unset] [])) _
      refine XS.iloadN X0.here hx rfl (hb hby d22_0) rfl ?_
      show Steps _ _ _ (s₁.setTop (mkF m 1 #[.val (.ref x0), .val (.int (0 : Int32)), .val (.int x2), .unset, .unset] [(.int (0 : Int32))])) _
      refine XS.iloadN X0.here hx rfl (hb hby d22_1) rfl ?_
      exact Steps.refl _)
  obtain ⟨_, _, ⟨T2, L2, k2, n2⟩, -, X2, ⟨Lc2, hQ2, l2, y2, z2⟩, sr2⟩ := Jvm.LawKit.callS X0 hx (y := (⟨"java/util/Arrays", "checkLength", "(II)V"⟩ : MethodName)) hown (mvT hZ (hw _ (List.mem_of_getElem? (i := 128) rfl))) (mvT hZ (hw _ (List.mem_of_getElem? (i := 129) rfl))) (mvT hZ (hw _ (List.mem_of_getElem? (i := 123) rfl))) (mvT hZ (hw _ (List.mem_of_getElem? (i := 130) rfl))) (by decide) (backOf (W := 0) (rm23 l Z a0 hw [] (0 : Int32) x2  h0 n0 Z0 (own_nn x2 hx0)) hZ (hw _ (List.mem_of_getElem? (i := 130) rfl)) (hw _ (List.mem_of_getElem? (i := 123) rfl)) (by decide) (by decide)) (g := (mkF m 2 #[.val (.ref x0), .val (.int (0 : Int32)), .val (.int x2), .unset, .unset] [(.int x2), (.int (0 : Int32))])) rfl (by rw [hml]; rfl) (argsL := [(.int (0 : Int32)), (.int x2)]) (rest := []) (lenOf pd_2 rfl) rfl (by show 2 * 0 + _ ≤ _; exact Nat.le_of_eq rfl) (hb hby d22_2) (fun _ _ => ⟨rfl, e0, (by decide : 0 + 0 ≤ _), (by decide : 0 + 0 ≤ _)⟩)
  dsimp only [Pt.U, Pt.locs, Pt.cells, Pt.slots] at X2 l2 y2 z2 sr2 hQ2
  subst l2 y2 z2
  obtain ⟨rfl, N2q, hh2⟩ := hQ2
  have N2 := Fr.app N0 N2q
  obtain ⟨LL2, X2, N2⟩ := own_hide X2 N2
  have st3 : Steps p.tables e below sE (T2.setTop (mkF m 5 #[.val (.ref x0), .val (.int (0 : Int32)), .val (.int x2), .unset, .unset] [])) := st1.trans (sr2 _ (Steps.refl _))
  have st4 : Steps p.tables e below sE (T2.setTop (mkF m 8 #[.val (.ref x0), .val (.int (0 : Int32)), .val (.int x2), .unset, .unset] [(.int (x2 - (0 : Int32)))])) := st3.trans (by
      show Steps _ _ _ (T2.setTop (mkF m 5 #[.val (.ref x0), .val (.int (0 : Int32)), .val (.int x2), .unset, .unset] [])) _
      refine XS.iloadN X2.here hx rfl (hb hby d22_5) rfl ?_
      show Steps _ _ _ (T2.setTop (mkF m 6 #[.val (.ref x0), .val (.int (0 : Int32)), .val (.int x2), .unset, .unset] [(.int x2)])) _
      refine XS.iloadN X2.here hx rfl (hb hby d22_6) rfl ?_
      show Steps _ _ _ (T2.setTop (mkF m 7 #[.val (.ref x0), .val (.int (0 : Int32)), .val (.int x2), .unset, .unset] [(.int (0 : Int32)), (.int x2)])) _
      refine XS.isub X2.here hx rfl (hb hby d22_7) rfl ?_
      exact Steps.refl _)
  have hw5 : (x2 - (0 : Int32)) = x2 := own_sb0 x2
  rw [hw5] at st4
  have st6 : Steps p.tables e below sE (T2.setTop (mkF m 10 #[.val (.ref x0), .val (.int (0 : Int32)), .val (.int x2), .val (.int x2), .unset] [(.int x2)])) := st4.trans (by
      show Steps _ _ _ (T2.setTop (mkF m 8 #[.val (.ref x0), .val (.int (0 : Int32)), .val (.int x2), .unset, .unset] [(.int x2)])) _
      refine XS.istoreN X2.here hx rfl (hb hby d22_8) rfl (l' := #[.val (.ref x0), .val (.int (0 : Int32)), .val (.int x2), .val (.int x2), .unset]) rfl ?_
      show Steps _ _ _ (T2.setTop (mkF m 9 #[.val (.ref x0), .val (.int (0 : Int32)), .val (.int x2), .val (.int x2), .unset] [])) _
      refine XS.iloadN X2.here hx rfl (hb hby d22_9) rfl ?_
      exact Steps.refl _)
  obtain ⟨T7, h7, k7, X7, e7, E7, A7, Q7, sr7⟩ := newPE X2 hx hZ (hw _ (List.mem_of_getElem? (i := 21) rfl)) hh2 (g := (mkF m 10 #[.val (.ref x0), .val (.int (0 : Int32)), .val (.int x2), .val (.int x2), .unset] [(.int x2)])) rfl (hb hby d22_10) rfl (own_nn x2 hx0) (cap := 6142) (by have := own_tn x2 hx0; omega) (by decide) (by decide) (by decide) (ad := "[B") (by decide)
  obtain ⟨b7, g7⟩ : ∃ z, z = h0.size := ⟨_, rfl⟩
  rw [← g7] at A7 Q7 sr7
  have g_b7 : n0 ≤ b7 := Nat.le_trans Z0 (Nat.le_of_eq g7.symm)
  have sz_b7 : h0.size ≤ b7 := Nat.le_trans K0.1 (Nat.le_of_eq g7.symm)
  have ne_x0_b7 : x0 ≠ b7 := Nat.ne_of_lt (Nat.lt_of_lt_of_le A_x.lt (Nat.le_of_eq g7.symm))
  have f8 : Arv Z h7 x0 ka .byte n (List.map Value.int L) (.int (0 : Int32)) := A_x.ext E7
  have K9 : Keep h0 h7 [] := K0.ext E7
  have f10 : Arv Z h7 b7 k7 .byte x2 (List.map Value.int (List.replicate (x2).toNatClampNeg (0 : Int32))) (.int (0 : Int32)) := (Arv.new A7 (own_nn x2 hx0)).pad (own_padz _)
  have Z7 : n0 ≤ h7.size := Nat.le_trans Z0 E7.1
  have st11 : Steps p.tables e below sE (T7.setTop (mkF m 12 #[.val (.ref x0), .val (.int (0 : Int32)), .val (.int x2), .val (.int x2), .unset] [(.ref b7)])) := st6.trans (sr7 _ (Steps.refl _))
  obtain ⟨cl12, Ar12, -, S12, N12, -, -⟩ := id f8
  have st13 : Steps p.tables e below sE (T7.setTop (mkF m 23 #[.val (.ref x0), .val (.int (0 : Int32)), .val (.int x2), .val (.int x2), .val (.ref b7)] [(.int (n - (0 : Int32))), (.int (0 : Int32)), (.ref b7), (.int (0 : Int32)), (.ref x0)])) := st11.trans (by
      show Steps _ _ _ (T7.setTop (mkF m 12 #[.val (.ref x0), .val (.int (0 : Int32)), .val (.int x2), .val (.int x2), .unset] [(.ref b7)])) _
      refine XS.astore X7.here hx rfl (hb hby d22_12) rfl rfl (l' := #[.val (.ref x0), .val (.int (0 : Int32)), .val (.int x2), .val (.int x2), .val (.ref b7)]) rfl ?_
      show Steps _ _ _ (T7.setTop (mkF m 14 #[.val (.ref x0), .val (.int (0 : Int32)), .val (.int x2), .val (.int x2), .val (.ref b7)] [])) _
      refine XS.aloadN X7.here hx rfl (hb hby d22_14) rfl rfl ?_
      show Steps _ _ _ (T7.setTop (mkF m 15 #[.val (.ref x0), .val (.int (0 : Int32)), .val (.int x2), .val (.int x2), .val (.ref b7)] [(.ref x0)])) _
      refine XS.iloadN X7.here hx rfl (hb hby d22_15) rfl ?_
      show Steps _ _ _ (T7.setTop (mkF m 16 #[.val (.ref x0), .val (.int (0 : Int32)), .val (.int x2), .val (.int x2), .val (.ref b7)] [(.int (0 : Int32)), (.ref x0)])) _
      refine XS.aload X7.here hx rfl (hb hby d22_16) rfl rfl ?_
      show Steps _ _ _ (T7.setTop (mkF m 18 #[.val (.ref x0), .val (.int (0 : Int32)), .val (.int x2), .val (.int x2), .val (.ref b7)] [(.ref b7), (.int (0 : Int32)), (.ref x0)])) _
      refine XS.iconst X7.here hx rfl (hb hby d22_18) ?_
      show Steps _ _ _ (T7.setTop (mkF m 19 #[.val (.ref x0), .val (.int (0 : Int32)), .val (.int x2), .val (.int x2), .val (.ref b7)] [(.int (0 : Int32)), (.ref b7), (.int (0 : Int32)), (.ref x0)])) _
      refine XS.aloadN X7.here hx rfl (hb hby d22_19) rfl rfl ?_
      show Steps _ _ _ (T7.setTop (mkF m 20 #[.val (.ref x0), .val (.int (0 : Int32)), .val (.int x2), .val (.int x2), .val (.ref b7)] [(.ref x0), (.int (0 : Int32)), (.ref b7), (.int (0 : Int32)), (.ref x0)])) _
      refine X7.arraylength hx (by rw [e7]; exact Ar12.1) (State.isArrayOf_alike hZ.alike Ar12.2.1) (g := (mkF m 20 #[.val (.ref x0), .val (.int (0 : Int32)), .val (.int x2), .val (.int x2), .val (.ref b7)] [(.ref x0), (.int (0 : Int32)), (.ref b7), (.int (0 : Int32)), (.ref x0)])) rfl rfl (hb hby d22_20) _ ?_
      rw [len_of S12 N12]
      show Steps _ _ _ (T7.setTop (mkF m 21 #[.val (.ref x0), .val (.int (0 : Int32)), .val (.int x2), .val (.int x2), .val (.ref b7)] [(.int n), (.int (0 : Int32)), (.ref b7), (.int (0 : Int32)), (.ref x0)])) _
      refine XS.iloadN X7.here hx rfl (hb hby d22_21) rfl ?_
      show Steps _ _ _ (T7.setTop (mkF m 22 #[.val (.ref x0), .val (.int (0 : Int32)), .val (.int x2), .val (.int x2), .val (.ref b7)] [(.int (0 : Int32)), (.int n), (.int (0 : Int32)), (.ref b7), (.int (0 : Int32)), (.ref x0)])) _
      refine XS.isub X7.here hx rfl (hb hby d22_22) rfl ?_
      exact Steps.refl _)
  have hw14 : (n - (0 : Int32)) = n := own_sb0 n
  rw [hw14] at st13
  have st15 : Steps p.tables e below sE (T7.setTop (mkF m 24 #[.val (.ref x0), .val (.int (0 : Int32)), .val (.int x2), .val (.int x2), .val (.ref b7)] [(.int x2), (.int n), (.int (0 : Int32)), (.ref b7), (.int (0 : Int32)), (.ref x0)])) := st13.trans (by
      show Steps _ _ _ (T7.setTop (mkF m 23 #[.val (.ref x0), .val (.int (0 : Int32)), .val (.int x2), .val (.int x2), .val (.ref b7)] [(.int n), (.int (0 : Int32)), (.ref b7), (.int (0 : Int32)), (.ref x0)])) _
      refine XS.iloadN X7.here hx rfl (hb hby d22_23) rfl ?_
      exact Steps.refl _)
  obtain ⟨_, _, ⟨T16, L16, k16, n16⟩, -, X16, ⟨Lc16, hQ16, l16, y16, z16⟩, sr16⟩ := Jvm.LawKit.callS X7 hx (y := (⟨"java/lang/Math", "min", "(II)I"⟩ : MethodName)) hown (mvT hZ (hw _ (List.mem_of_getElem? (i := 131) rfl))) (mvT hZ (hw _ (List.mem_of_getElem? (i := 132) rfl))) (mvT hZ (hw _ (List.mem_of_getElem? (i := 133) rfl))) (mvT hZ (hw _ (List.mem_of_getElem? (i := 134) rfl))) (by decide) (backOf (W := 4) (rm24 l Z a0 hw [] n x2  h7 n0 Z7 ) hZ (hw _ (List.mem_of_getElem? (i := 134) rfl)) (hw _ (List.mem_of_getElem? (i := 133) rfl)) (by decide) (by decide)) (g := (mkF m 24 #[.val (.ref x0), .val (.int (0 : Int32)), .val (.int x2), .val (.int x2), .val (.ref b7)] [(.int x2), (.int n), (.int (0 : Int32)), (.ref b7), (.int (0 : Int32)), (.ref x0)])) rfl (by rw [hml]; rfl) (argsL := [(.int n), (.int x2)]) (rest := [(.int (0 : Int32)), (.ref b7), (.int (0 : Int32)), (.ref x0)]) (lenOf pd_7 rfl) rfl (by show 2 * 0 + _ ≤ _; exact Nat.le_of_eq rfl) (hb hby d22_24) (fun _ _ => ⟨rfl, e7, (by decide : 1 + 0 ≤ _), (by decide : 6142 + 0 ≤ _)⟩)
  dsimp only [Pt.U, Pt.locs, Pt.cells, Pt.slots] at X16 l16 y16 z16 sr16 hQ16
  subst l16 y16 z16
  obtain ⟨rfl, N16q, hh16⟩ := hQ16
  have N16 := Fr.app N2 N16q
  obtain ⟨LL16, X16, N16⟩ := own_hide X16 N16
  have st17 : Steps p.tables e below sE (T16.setTop (mkF m 27 #[.val (.ref x0), .val (.int (0 : Int32)), .val (.int x2), .val (.int x2), .val (.ref b7)] [(.int (F24 n x2)), (.int (0 : Int32)), (.ref b7), (.int (0 : Int32)), (.ref x0)])) := st15.trans (sr16 _ (Steps.refl _))
  have hw18 : (F24 n x2) = x2 := own_min2 n x2 hlt
  rw [hw18] at st17
  obtain ⟨T19, h19, LL19, X19, e19, N19, K19, V19, sr19⟩ := cpA X16 hx hZ hown (hw _ (List.mem_of_getElem? (i := 135) rfl)) (hw _ (List.mem_of_getElem? (i := 87) rfl)) (hw _ (List.mem_of_getElem? (i := 85) rfl)) (hw _ (List.mem_of_getElem? (i := 86) rfl)) hh16 f8 f10 (Or.inl ⟨rfl, rfl⟩) (by decide) (by decide) (own_nn x2 hx0) (by show 0 + _ ≤ _; have := own_tn n (by omega); have := own_tn x2 hx0; omega) (by show 0 + _ ≤ _; omega) rfl (by rw [List.length_map, List.length_replicate]; show 0 + _ ≤ _; omega) N16 g_b7 (g := (mkF m 27 #[.val (.ref x0), .val (.int (0 : Int32)), .val (.int x2), .val (.int x2), .val (.ref b7)] [(.int x2), (.int (0 : Int32)), (.ref b7), (.int (0 : Int32)), (.ref x0)])) rfl (by rw [hml]; rfl) rfl (hb hby d22_27) (by decide) (W := 0) (by show 2 * 0 + _ ≤ _; exact Nat.le_of_eq rfl) (by decide)
  have f20 : Arv Z h19 x0 ka .byte n (List.map Value.int L) (.int (0 : Int32)) := f8.keep K19 (ninS ne_x0_b7 nin0)
  have f21 : Exa Z h19 b7 "[B" := Q7.keep K19
  have K22 : Keep h0 h19 [] := K9.trans K19 (allS (Or.inr sz_b7) all0)
  have Z23 : n0 ≤ h19.size := Nat.le_trans Z7 K19.1
  have f24 : Arv Z h19 b7 k7 .byte x2 (List.map Value.int (own_cp L (List.replicate (x2).toNatClampNeg (0 : Int32)) ((0 : Int32)).toNatClampNeg ((0 : Int32)).toNatClampNeg (x2).toNatClampNeg)) (.int (0 : Int32)) := (by have q := V19; rw [own_cpv L _ _ _ _] at q; exact q)
  have st25 : Steps p.tables e below sE (T19.setTop (mkF m 30 #[.val (.ref x0), .val (.int (0 : Int32)), .val (.int x2), .val (.int x2), .val (.ref b7)] [])) := st17.trans (sr19 _ (Steps.refl _))
  have st26 : Steps p.tables e below sE (T19.setTop (mkF m 32 #[.val (.ref x0), .val (.int (0 : Int32)), .val (.int x2), .val (.int x2), .val (.ref b7)] [(.ref b7)])) := st25.trans (by
      show Steps _ _ _ (T19.setTop (mkF m 30 #[.val (.ref x0), .val (.int (0 : Int32)), .val (.int x2), .val (.int x2), .val (.ref b7)] [])) _
      refine XS.aload X19.here hx rfl (hb hby d22_30) rfl rfl ?_
      exact Steps.refl _)
  obtain ⟨fs, hr, hrun, hended, hW, hsame⟩ := X19.leave (v := some (.ref b7)) (fun h => by rw [Bd.returns] at h; cases h) hlk
  refine ⟨_, _, (own_ent hsE st26).trans ?_, hrun, hended, _, _, rfl, ?_, ⟨_, rfl⟩, hW, hsame.mono (by decide) (by decide)⟩
  · exact retOut X19 hx (t := (.array .byte)) Bd.returns rfl (Or.inr (Or.inr (Or.inr (Or.inr ⟨rfl, rfl, rfl⟩)))) (hb hby d22_32) hr
  · show Q22 Z x0 x2 ka n L h0 n0 _ T19.heap _
    rw [e19]
    exact ⟨by rw [g7], N19, K22, ⟨k7, by rw [← g7]; exact f21, by rw [← g7]; exact f24⟩⟩
theorem own_ltn {x n : Int32} (h : ¬ x = n) (hl : x.toInt ≤ n.toInt) : x.toInt < n.toInt := by
  have : ¬ x.toInt = n.toInt := fun q => h (Int32.toInt_inj.mp q)
  omega
theorem own_cpx (L LD : List Int32) (i : Nat) {n : Nat} (hi : i < n) (hD : n ≤ LD.length) : (own_cp L LD ((0 : Int32)).toNatClampNeg ((0 : Int32)).toNatClampNeg n).getD i 0 = L.getD i 0 := by
  rw [show ((0 : Int32)).toNatClampNeg = 0 by decide, own_cpg _ _ _ _ _ _ (by omega), if_pos (by omega)]
  congr 1; omega
theorem pd_15 : parseMethodDescriptor "([BII)[B" = some ⟨[(.array .byte), .int, .int], some (.array .byte)⟩ := by decide +kernel
theorem d21_0 : decode jdk_65_method_132_code 0 = .ok (.iload_n 1, 1) := by decide +kernel
theorem d21_1 : decode jdk_65_method_132_code 1 = .ok (.ifCond .ne 9, 3) := by decide +kernel
theorem d21_4 : decode jdk_65_method_132_code 4 = .ok (.iload_n 2, 1) := by decide +kernel
theorem d21_5 : decode jdk_65_method_132_code 5 = .ok (.aload_n 0, 1) := by decide +kernel
theorem d21_6 : decode jdk_65_method_132_code 6 = .ok (.arraylength, 1) := by decide +kernel
theorem d21_7 : decode jdk_65_method_132_code 7 = .ok (.if_icmp .eq 10, 3) := by decide +kernel
theorem d21_10 : decode jdk_65_method_132_code 10 = .ok (.aload_n 0, 1) := by decide +kernel
theorem d21_11 : decode jdk_65_method_132_code 11 = .ok (.iload_n 1, 1) := by decide +kernel
theorem d21_12 : decode jdk_65_method_132_code 12 = .ok (.iload_n 2, 1) := by decide +kernel
theorem d21_13 : decode jdk_65_method_132_code 13 = .ok (.invokestatic 339, 3) := by decide +kernel
theorem d21_16 : decode jdk_65_method_132_code 16 = .ok (.areturn, 1) := by decide +kernel
theorem d21_17 : decode jdk_65_method_132_code 17 = .ok (.aload_n 0, 1) := by decide +kernel
theorem d21_18 : decode jdk_65_method_132_code 18 = .ok (.invokevirtual 310, 3) := by decide +kernel
theorem d21_21 : decode jdk_65_method_132_code 21 = .ok (.checkcast 311, 3) := by decide +kernel
theorem d21_24 : decode jdk_65_method_132_code 24 = .ok (.areturn, 1) := by decide +kernel
theorem ef_21 (m : MethodId) (x0 : Addr) (x2 : Int32)  : entryFrame m #[(.ref x0), (.int (0 : Int32)), (.int x2)] 3 = mkF m 0 #[.val (.ref x0), .val (.int (0 : Int32)), .val (.int x2)] [] := by first | (simp [entryFrame, mkF, argsToLocals, Value.category]; done) | rfl
def Q21 (Z : State) (x0 : Addr) (x2 : Int32) (ka : ClassId) (n : Int32) (L : List Int32) (h0 : Heap) (n0 : Nat) (vE : Option Value) (hE : Heap) (LE : List Loc) : Prop := vE = some (.ref h0.size) ∧ Fr n0 LE ∧ Keep h0 hE [] ∧ (∃ (kN : ClassId) (LN : List Int32), Exa Z hE h0.size "[B" ∧ Arv Z hE h0.size kN .byte x2 (List.map Value.int LN) (.int (0 : Int32)) ∧ ∀ i, i < x2.toNatClampNeg → LN.getD i 0 = L.getD i 0)
set_option maxRecDepth 65536 in
set_option maxHeartbeats 40000000 in
theorem rm21 (l : Launch) (Z : State) (a0 : Array Value) (hw : ∀ d ∈ tables_1, d.before a0 Z = true) (ws : List Jvm.Cond) (x0 : Addr) (x2 : Int32) (ka : ClassId) (n : Int32) (L : List Int32) (h0 : Heap) (n0 : Nat) (Z0 : n0 ≤ h0.size) (E_x : Exa Z h0 x0 "[B") (A_x : Arv Z h0 x0 ka .byte n (List.map Value.int L) (.int (0 : Int32))) (hx0 : 0 ≤ x2.toInt) (hle : x2.toInt ≤ n.toInt) (hcp : x2.toInt ≤ 6142) :
    MetFree l (⟨"java/util/Arrays", "copyOfRange", "([BII)[B"⟩ : MethodName) (head1 (Jvm.Cond.code (⟨"java/util/Arrays", "copyOfRange", "([BII)[B"⟩ : MethodName) jdk_65_method_132_code 3 (some (.array .byte)) :: ws) ({ frames := 2, cells := 1, slots := 6142, locals := 34 } : Room)) (fun a U => a = #[(.ref x0), (.int (0 : Int32)), (.int x2)] ∧ Z.Warmed39 U.vm ∧ U.heap = h0) (fun _ _ _ _ _ => True) (fun _ U o U' => ∃ vE LE, o = .returned vE ∧ Q21 Z x0 x2 ka n L h0 n0 vE U'.heap LE ∧ FrameEnd U o U' LE ({ frames := 2, cells := 1, slots := 6142, locals := 34 } : Room).cells ({ frames := 2, cells := 1, slots := 6142, locals := 34 } : Room).slots) := by
  refine MetFree.of_bodySF (plainFor_of_name pn_7) hisR ?_
  intro p e s m args below meth c s₁ Bd hml0 hP hK
  obtain ⟨rfl, hZ, hh⟩ := hP
  have hx := Bd.exec
  have hby := Bd.bytes
  have hml : c.maxLocals = 3 := hml0
  have hown : s.vm.findClass "java/util/Arrays" = some m.cls := findClass_of_methodNamed Bd.named
  have hnm := (name_of_methodNamed Bd.named Bd.method).1
  have hlk : meth.locks = false := BodyLoose.notSynchronized Bd
  have X0 : Stand p l e ({ frames := 2, cells := 1, slots := 6142, locals := 34 } : Room) s m #[(.ref x0), (.int (0 : Int32)), (.int x2)] below meth c s₁ [] 0 0 := Stand.of_body Bd
  have e0 : s₁.heap = h0 := by rw [← hh, Bd.state]; rfl
  have N0 := Fr.nil n0
  obtain ⟨sE, hsE⟩ : ∃ z, z = (s₁.setTop (entryFrame m #[(.ref x0), (.int (0 : Int32)), (.int x2)] 3)) := ⟨_, rfl⟩
  have st0 : Steps p.tables e below sE (s₁.setTop (mkF m 0 #[.val (.ref x0), .val (.int (0 : Int32)), .val (.int x2)] [])) := by rw [hsE]; exact castTop (ef_21 m x0 x2) (Steps.refl _)
  have K0 : Keep h0 h0 [] := Keep.refl _ _
  have st1 : Steps p.tables e below sE (s₁.setTop (mkF m 1 #[.val (.ref x0), .val (.int (0 : Int32)), .val (.int x2)] [(.int (0 : Int32))])) := st0.trans (by
      show Steps _ _ _ (s₁.setTop (mkF m 0 #[.val (.ref x0), .val (.int (0 : Int32)), .val (.int x2)] [])) _
      refine XS.iloadN X0.here hx rfl (hb hby d21_0) rfl ?_
      exact Steps.refl _)
  have hf2 : (0 : Int32) = (0 : Int32) := by decide
  obtain ⟨cl3, Ar3, -, S3, N3, -, -⟩ := id A_x
  have st4 : Steps p.tables e below sE (s₁.setTop (mkF m 7 #[.val (.ref x0), .val (.int (0 : Int32)), .val (.int x2)] [(.int n), (.int x2)])) := st1.trans (by
      show Steps _ _ _ (s₁.setTop (mkF m 1 #[.val (.ref x0), .val (.int (0 : Int32)), .val (.int x2)] [(.int (0 : Int32))])) _
      refine XS.ifNo X0.here hx rfl (hb hby d21_1) rfl ((if0 _ _).trans (teq hf2).2) ?_
      show Steps _ _ _ (s₁.setTop (mkF m 4 #[.val (.ref x0), .val (.int (0 : Int32)), .val (.int x2)] [])) _
      refine XS.iloadN X0.here hx rfl (hb hby d21_4) rfl ?_
      show Steps _ _ _ (s₁.setTop (mkF m 5 #[.val (.ref x0), .val (.int (0 : Int32)), .val (.int x2)] [(.int x2)])) _
      refine XS.aloadN X0.here hx rfl (hb hby d21_5) rfl rfl ?_
      show Steps _ _ _ (s₁.setTop (mkF m 6 #[.val (.ref x0), .val (.int (0 : Int32)), .val (.int x2)] [(.ref x0), (.int x2)])) _
      refine X0.arraylength hx (by rw [e0]; exact Ar3.1) (State.isArrayOf_alike hZ.alike Ar3.2.1) (g := (mkF m 6 #[.val (.ref x0), .val (.int (0 : Int32)), .val (.int x2)] [(.ref x0), (.int x2)])) rfl rfl (hb hby d21_6) _ ?_
      rw [len_of S3 N3]
      exact Steps.refl _)
  by_cases hc5 : x2 = n
  · have st6 : Steps p.tables e below sE (s₁.setTop (mkF m 18 #[.val (.ref x0), .val (.int (0 : Int32)), .val (.int x2)] [(.ref x0)])) := st4.trans (by
        show Steps _ _ _ (s₁.setTop (mkF m 7 #[.val (.ref x0), .val (.int (0 : Int32)), .val (.int x2)] [(.int n), (.int x2)])) _
        refine XS.icmpYes X0.here hx rfl (pc0 := 7) (pc' := 17) rfl (hb hby d21_7) rfl (teq hc5).1 (by decide) (by decide) ?_
        show Steps _ _ _ (s₁.setTop (mkF m 17 #[.val (.ref x0), .val (.int (0 : Int32)), .val (.int x2)] [])) _
        refine XS.aloadN X0.here hx rfl (hb hby d21_17) rfl rfl ?_
        exact Steps.refl _)
    obtain ⟨T7, h7, X7, e7, E7, A7, Q7, sr7⟩ := cloneH X0 hx hZ hown (hw _ (List.mem_of_getElem? (i := 189) rfl)) (hw _ (List.mem_of_getElem? (i := 190) rfl)) (hw _ (List.mem_of_getElem? (i := 194) rfl)) (hw _ (List.mem_of_getElem? (i := 192) rfl)) (hw _ (List.mem_of_getElem? (i := 193) rfl)) (hw _ (List.mem_of_getElem? (i := 195) rfl)) e0 A_x.arh E_x (g := (mkF m 18 #[.val (.ref x0), .val (.int (0 : Int32)), .val (.int x2)] [(.ref x0)])) rfl (by rw [hml]; rfl) rfl (hb hby d21_18) (by decide) (W := 0) (cap := 6142) (by show 2 * 0 + _ ≤ _; exact Nat.le_of_eq rfl) (by decide) (by rw [← hc5]; have := own_tn x2 hx0; omega) (by decide) (by decide)
    obtain ⟨b7, g7⟩ : ∃ z, z = h0.size := ⟨_, rfl⟩
    rw [← g7] at A7 Q7 sr7
    have A7 : Arv Z h7 b7 ka .byte n (List.map Value.int L) (.int (0 : Int32)) := A7
    have g_b7 : n0 ≤ b7 := Nat.le_trans Z0 (Nat.le_of_eq g7.symm)
    have sz_b7 : h0.size ≤ b7 := Nat.le_trans K0.1 (Nat.le_of_eq g7.symm)
    have ne_x0_b7 : x0 ≠ b7 := Nat.ne_of_lt (Nat.lt_of_lt_of_le E_x.lt (Nat.le_of_eq g7.symm))
    have f8 : Exa Z h7 x0 "[B" := E_x.ext E7
    have f9 : Arv Z h7 x0 ka .byte n (List.map Value.int L) (.int (0 : Int32)) := A_x.ext E7
    have K10 : Keep h0 h7 [] := K0.ext E7
    have Z7 : n0 ≤ h7.size := Nat.le_trans Z0 E7.1
    have st11 : Steps p.tables e below sE (T7.setTop (mkF m 21 #[.val (.ref x0), .val (.int (0 : Int32)), .val (.int x2)] [(.ref b7)])) := st6.trans (sr7 _ (Steps.refl _))
    obtain ⟨T12, X12, e12, sr12⟩ := castY X7 hx hZ hown (hw _ (List.mem_of_getElem? (i := 196) rfl)) e7 (Ins.self Q7) (g := (mkF m 21 #[.val (.ref x0), .val (.int (0 : Int32)), .val (.int x2)] [(.ref b7)])) rfl rfl (hb hby d21_21)
    have st13 : Steps p.tables e below sE (T12.setTop (mkF m 24 #[.val (.ref x0), .val (.int (0 : Int32)), .val (.int x2)] [(.ref b7)])) := st11.trans (sr12 _ (Steps.refl _))
    obtain ⟨fs, hr, hrun, hended, hW, hsame⟩ := X12.leave (v := some (.ref b7)) (fun h => by rw [Bd.returns] at h; cases h) hlk
    refine ⟨_, _, (own_ent hsE st13).trans ?_, hrun, hended, _, _, rfl, ?_, ⟨_, rfl⟩, hW, hsame.mono (by decide) (by decide)⟩
    · exact retOut X12 hx (t := (.array .byte)) Bd.returns rfl (Or.inr (Or.inr (Or.inr (Or.inr ⟨rfl, rfl, rfl⟩)))) (hb hby d21_24) hr
    · show Q21 Z x0 x2 ka n L h0 n0 _ T12.heap _
      rw [e12]
      exact ⟨by rw [g7], N0, K10, ⟨ka, L, by rw [← g7]; exact Q7, by rw [← g7, hc5]; exact A7, fun i _ => rfl⟩⟩
  · have st14 : Steps p.tables e below sE (s₁.setTop (mkF m 13 #[.val (.ref x0), .val (.int (0 : Int32)), .val (.int x2)] [(.int x2), (.int (0 : Int32)), (.ref x0)])) := st4.trans (by
        show Steps _ _ _ (s₁.setTop (mkF m 7 #[.val (.ref x0), .val (.int (0 : Int32)), .val (.int x2)] [(.int n), (.int x2)])) _
        refine XS.icmpNo X0.here hx rfl (hb hby d21_7) rfl (feq hc5).1 ?_
        show Steps _ _ _ (s₁.setTop (mkF m 10 #[.val (.ref x0), .val (.int (0 : Int32)), .val (.int x2)] [])) _
        refine XS.aloadN X0.here hx rfl (hb hby d21_10) rfl rfl ?_
        show Steps _ _ _ (s₁.setTop (mkF m 11 #[.val (.ref x0), .val (.int (0 : Int32)), .val (.int x2)] [(.ref x0)])) _
        refine XS.iloadN X0.here hx rfl (hb hby d21_11) rfl ?_
        show Steps _ _ _ (s₁.setTop (mkF m 12 #[.val (.ref x0), .val (.int (0 : Int32)), .val (.int x2)] [(.int (0 : Int32)), (.ref x0)])) _
        refine XS.iloadN X0.here hx rfl (hb hby d21_12) rfl ?_
        exact Steps.refl _)
    obtain ⟨_, _, ⟨T15, L15, k15, n15⟩, -, X15, ⟨Lc15, hQ15, l15, y15, z15⟩, sr15⟩ := Jvm.LawKit.callS X0 hx (y := (⟨"java/util/Arrays", "copyOfRangeByte", "([BII)[B"⟩ : MethodName)) hown (mvT hZ (hw _ (List.mem_of_getElem? (i := 125) rfl))) (mvT hZ (hw _ (List.mem_of_getElem? (i := 126) rfl))) (mvT hZ (hw _ (List.mem_of_getElem? (i := 123) rfl))) (mvT hZ (hw _ (List.mem_of_getElem? (i := 127) rfl))) (by decide) (backOf (W := 0) (rm22 l Z a0 hw [] x0 x2 ka n L h0 n0 Z0 A_x hx0 (own_ltn hc5 hle) hcp) hZ (hw _ (List.mem_of_getElem? (i := 127) rfl)) (hw _ (List.mem_of_getElem? (i := 123) rfl)) (by decide) (by decide)) (g := (mkF m 13 #[.val (.ref x0), .val (.int (0 : Int32)), .val (.int x2)] [(.int x2), (.int (0 : Int32)), (.ref x0)])) rfl (by rw [hml]; rfl) (argsL := [(.ref x0), (.int (0 : Int32)), (.int x2)]) (rest := []) (lenOf pd_15 rfl) rfl (by show 2 * 0 + _ ≤ _; exact Nat.le_of_eq rfl) (hb hby d21_13) (fun _ _ => ⟨rfl, e0, (by decide : 0 + 1 ≤ _), (by decide : 0 + 6142 ≤ _)⟩)
    dsimp only [Pt.U, Pt.locs, Pt.cells, Pt.slots] at X15 l15 y15 z15 sr15 hQ15
    subst l15 y15 z15
    obtain ⟨rfl, N15q, K15c, ⟨kN, qE, qA⟩⟩ := hQ15
    have N15 := Fr.app N0 N15q
    obtain ⟨LL15, X15, N15⟩ := own_hide X15 N15
    have f16 : Exa Z T15.heap x0 "[B" := E_x.keep K15c
    have f17 : Arv Z T15.heap x0 ka .byte n (List.map Value.int L) (.int (0 : Int32)) := A_x.keep K15c nin0
    have K18 : Keep h0 T15.heap [] := K0.trans K15c all0
    have Z19 : n0 ≤ T15.heap.size := Nat.le_trans Z0 K15c.1
    have st20 : Steps p.tables e below sE (T15.setTop (mkF m 16 #[.val (.ref x0), .val (.int (0 : Int32)), .val (.int x2)] [(.ref h0.size)])) := st14.trans (sr15 _ (Steps.refl _))
    obtain ⟨fs, hr, hrun, hended, hW, hsame⟩ := X15.leave (v := some (.ref h0.size)) (fun h => by rw [Bd.returns] at h; cases h) hlk
    refine ⟨_, _, (own_ent hsE st20).trans ?_, hrun, hended, _, _, rfl, ?_, ⟨_, rfl⟩, hW, hsame.mono (by decide) (by decide)⟩
    · exact retOut X15 hx (t := (.array .byte)) Bd.returns rfl (Or.inr (Or.inr (Or.inr (Or.inr ⟨rfl, rfl, rfl⟩)))) (hb hby d21_16) hr
    · show Q21 Z x0 x2 ka n L h0 n0 _ T15.heap _
      exact ⟨rfl, N15, K18, ⟨kN, _, qE, qA, fun i hi => own_cpx L _ i hi (by rw [List.length_replicate]; exact Nat.le_refl _)⟩⟩
theorem pd_16 : parseMethodDescriptor "()[B" = some ⟨[], some (.array .byte)⟩ := by decide +kernel
theorem d16_0 : decode jdk_42_method_150_code 0 = .ok (.aload_n 0, 1) := by decide +kernel
theorem d16_1 : decode jdk_42_method_150_code 1 = .ok (.invokespecial 1, 3) := by decide +kernel
theorem d16_4 : decode jdk_42_method_150_code 4 = .ok (.aload_n 1, 1) := by decide +kernel
theorem d16_5 : decode jdk_42_method_150_code 5 = .ok (.invokevirtual 552, 3) := by decide +kernel
theorem d16_8 : decode jdk_42_method_150_code 8 = .ok (.astore_n 3, 1) := by decide +kernel
theorem d16_9 : decode jdk_42_method_150_code 9 = .ok (.aload_n 1, 1) := by decide +kernel
theorem d16_10 : decode jdk_42_method_150_code 10 = .ok (.invokevirtual 549, 3) := by decide +kernel
theorem d16_13 : decode jdk_42_method_150_code 13 = .ok (.istore 4, 2) := by decide +kernel
theorem d16_15 : decode jdk_42_method_150_code 15 = .ok (.aload_n 1, 1) := by decide +kernel
theorem d16_16 : decode jdk_42_method_150_code 16 = .ok (.invokevirtual 1047, 3) := by decide +kernel
theorem d16_19 : decode jdk_42_method_150_code 19 = .ok (.ifCond .eq 22, 3) := by decide +kernel
theorem d16_22 : decode jdk_42_method_150_code 22 = .ok (.aload_n 0, 1) := by decide +kernel
theorem d16_23 : decode jdk_42_method_150_code 23 = .ok (.iconst 0, 1) := by decide +kernel
theorem d16_24 : decode jdk_42_method_150_code 24 = .ok (.putfield 15, 3) := by decide +kernel
theorem d16_27 : decode jdk_42_method_150_code 27 = .ok (.aload_n 0, 1) := by decide +kernel
theorem d16_28 : decode jdk_42_method_150_code 28 = .ok (.aload_n 3, 1) := by decide +kernel
theorem d16_29 : decode jdk_42_method_150_code 29 = .ok (.iconst 0, 1) := by decide +kernel
theorem d16_30 : decode jdk_42_method_150_code 30 = .ok (.iload 4, 2) := by decide +kernel
theorem d16_32 : decode jdk_42_method_150_code 32 = .ok (.invokestatic 54, 3) := by decide +kernel
theorem d16_35 : decode jdk_42_method_150_code 35 = .ok (.putfield 9, 3) := by decide +kernel
theorem d16_38 : decode jdk_42_method_150_code 38 = .ok (.goto 59, 3) := by decide +kernel
theorem d16_97 : decode jdk_42_method_150_code 97 = .ok (.return_, 1) := by decide +kernel
theorem ef_sia (m : MethodId) (x0 : Addr) (x1 : Addr)  : entryFrame m #[(.ref x0), (.ref x1), .null] 5 = mkF m 0 #[.val (.ref x0), .val (.ref x1), .val .null, .unset, .unset] [] := by first | (simp [entryFrame, mkF, argsToLocals, Value.category]; done) | rfl
def Qsia (Z : State) (x0 : Addr) (x1 : Addr) (cs : Int32) (aV : Addr) (kV : ClassId) (nd : Int32) (LD : List Int32) (cn : Int32) (h0 : Heap) (n0 : Nat) (vE : Option Value) (hE : Heap) (LE : List Loc) : Prop := vE = none ∧ Fr n0 LE ∧ Keep h0 hE [x0] ∧ Exa Z hE x0 "java/lang/String" ∧ Fld Z hE x0 "java/lang/String" "coder" "B" (.int (0 : Int32)) ∧ (∃ (aS : Addr) (kS' : ClassId) (LS' : List Int32), Fld Z hE x0 "java/lang/String" "value" "[B" (.ref aS) ∧ Arv Z hE aS kS' .byte cn (List.map Value.int LS') (.int (0 : Int32)) ∧ (∀ i, i < cn.toNatClampNeg → LS'.getD i 0 = own_ch i))
set_option maxRecDepth 65536 in
set_option maxHeartbeats 40000000 in
theorem rmsia (l : Launch) (Z : State) (a0 : Array Value) (hw : ∀ d ∈ tables_1, d.before a0 Z = true) (ws : List Jvm.Cond) (x0 : Addr) (x1 : Addr) (cs : Int32) (aV : Addr) (kV : ClassId) (nd : Int32) (LD : List Int32) (cn : Int32) (h0 : Heap) (n0 : Nat) (Z0 : n0 ≤ h0.size) (S_c : Sta Z h0 "java/lang/String" "COMPACT_STRINGS" "Z" (.int cs)) (hcs : ¬ cs = (0 : Int32)) (E_x : Exa Z h0 x0 "java/lang/String") (F_v : Fld Z h0 x0 "java/lang/String" "value" "[B" .null) (F_c : Fld Z h0 x0 "java/lang/String" "coder" "B" (.int (0 : Int32))) (E_1 : Exa Z h0 x1 "java/lang/StringBuilder") (F_1v : Fld Z h0 x1 "java/lang/AbstractStringBuilder" "value" "[B" (.ref aV)) (F_1c : Fld Z h0 x1 "java/lang/AbstractStringBuilder" "coder" "B" (.int (0 : Int32))) (F_1n : Fld Z h0 x1 "java/lang/AbstractStringBuilder" "count" "I" (.int cn)) (E_v : Exa Z h0 aV "[B") (A_v : Arv Z h0 aV kV .byte nd (List.map Value.int LD) (.int (0 : Int32))) (hbd : own_bd nd LD cn 12300) (hcm : cn.toInt ≤ 6142) (g_x : n0 ≤ x0) (ne_x1 : x0 ≠ x1) (ne_xv : x0 ≠ aV) :
    MetFree l (⟨"java/lang/String", "<init>", "(Ljava/lang/AbstractStringBuilder;Ljava/lang/Void;)V"⟩ : MethodName) (head1 (Jvm.Cond.code (⟨"java/lang/String", "<init>", "(Ljava/lang/AbstractStringBuilder;Ljava/lang/Void;)V"⟩ : MethodName) jdk_42_method_150_code 5 none :: ws) ({ frames := 3, cells := 1, slots := 6142, locals := 49 } : Room)) (fun a U => a = #[(.ref x0), (.ref x1), .null] ∧ Z.Warmed39 U.vm ∧ U.heap = h0) (fun _ _ _ _ _ => True) (fun _ U o U' => ∃ vE LE, o = .returned vE ∧ Qsia Z x0 x1 cs aV kV nd LD cn h0 n0 vE U'.heap LE ∧ FrameEnd U o U' LE ({ frames := 3, cells := 1, slots := 6142, locals := 49 } : Room).cells ({ frames := 3, cells := 1, slots := 6142, locals := 49 } : Room).slots) := by
  refine MetFree.of_bodySF (plainFor_of_name pn_1) hisR ?_
  intro p e s m args below meth c s₁ Bd hml0 hP hK
  obtain ⟨rfl, hZ, hh⟩ := hP
  have hx := Bd.exec
  have hby := Bd.bytes
  have hml : c.maxLocals = 5 := hml0
  have hown : s.vm.findClass "java/lang/String" = some m.cls := findClass_of_methodNamed Bd.named
  have hnm := (name_of_methodNamed Bd.named Bd.method).1
  have hlk : meth.locks = false := BodyLoose.notSynchronized Bd
  have X0 : Stand p l e ({ frames := 3, cells := 1, slots := 6142, locals := 49 } : Room) s m #[(.ref x0), (.ref x1), .null] below meth c s₁ [] 0 0 := Stand.of_body Bd
  have e0 : s₁.heap = h0 := by rw [← hh, Bd.state]; rfl
  have N0 := Fr.nil n0
  obtain ⟨sE, hsE⟩ : ∃ z, z = (s₁.setTop (entryFrame m #[(.ref x0), (.ref x1), .null] 5)) := ⟨_, rfl⟩
  have st0 : Steps p.tables e below sE (s₁.setTop (mkF m 0 #[.val (.ref x0), .val (.ref x1), .val .null, .unset, .unset] [])) := by rw [hsE]; exact castTop (ef_sia m x0 x1) (Steps.refl _)
  have K0 : Keep h0 h0 [x0] := Keep.refl _ _
  have st1 : Steps p.tables e below sE (s₁.setTop (mkF m 1 #[.val (.ref x0), .val (.ref x1), .val .null, .unset, .unset] [(.ref x0)])) := st0.trans (by
      show Steps _ _ _ (s₁.setTop (mkF m 0 #[.val (.ref x0), .val (.ref x1), .val .null, .unset, .unset] [])) _
      refine XS.aloadN X0.here hx rfl (hb hby d16_0) rfl rfl ?_
      exact Steps.refl _)
  obtain ⟨T2, X2, e2, sr2⟩ := initO X0 hx hZ hown (hw _ (List.mem_of_getElem? (i := 102) rfl)) (hw _ (List.mem_of_getElem? (i := 17) rfl)) (hw _ (List.mem_of_getElem? (i := 18) rfl)) e0 (g := (mkF m 1 #[.val (.ref x0), .val (.ref x1), .val .null, .unset, .unset] [(.ref x0)])) rfl (by rw [hml]; rfl) rfl (hb hby d16_1) (by decide) (W := 0) (by show 2 * 0 + _ ≤ _; exact Nat.le_of_eq rfl) (by decide)
  have st3 : Steps p.tables e below sE (T2.setTop (mkF m 4 #[.val (.ref x0), .val (.ref x1), .val .null, .unset, .unset] [])) := st1.trans (sr2 _ (Steps.refl _))
  have st4 : Steps p.tables e below sE (T2.setTop (mkF m 5 #[.val (.ref x0), .val (.ref x1), .val .null, .unset, .unset] [(.ref x1)])) := st3.trans (by
      show Steps _ _ _ (T2.setTop (mkF m 4 #[.val (.ref x0), .val (.ref x1), .val .null, .unset, .unset] [])) _
      refine XS.aloadN X2.here hx rfl (hb hby d16_4) rfl rfl ?_
      exact Steps.refl _)
  obtain ⟨cq5, kq5, q5a, q5b, q5c⟩ := isOf hZ e2 E_1
  obtain ⟨_, _, ⟨T5, L5, k5, n5⟩, -, X5, ⟨Lc5, hQ5, l5, y5, z5⟩, sr5⟩ := X2.virtualBack hx (y := (⟨"java/lang/AbstractStringBuilder", "getValue", "()[B"⟩ : MethodName)) (z := (⟨"java/lang/AbstractStringBuilder", "getValue", "()[B"⟩ : MethodName)) hown (mvT hZ (hw _ (List.mem_of_getElem? (i := 103) rfl))) (mvT hZ (hw _ (List.mem_of_getElem? (i := 104) rfl))) (notFace_of_selects (args := #[]) (mvT hZ (hw _ (List.mem_of_getElem? (i := 106) rfl)))) (mvT hZ (hw _ (List.mem_of_getElem? (i := 106) rfl))) (mvT hZ (hw _ (List.mem_of_getElem? (i := 105) rfl))) (by decide) (backOf (W := 0) (rm17 l Z a0 hw [] x1 aV h0 n0 Z0 F_1v) hZ (hw _ (List.mem_of_getElem? (i := 107) rfl)) (hw _ (List.mem_of_getElem? (i := 14) rfl)) (by decide) (by decide)) q5a q5c (g := (mkF m 5 #[.val (.ref x0), .val (.ref x1), .val .null, .unset, .unset] [(.ref x1)])) rfl (by rw [hml]; rfl) (Steps.refl _) (argsL := []) (rest := []) (lenOf pd_16 rfl) rfl (by show 2 * 0 + _ ≤ _; exact Nat.le_of_eq rfl) (hb hby d16_5) (fun _ _ => ⟨rfl, e2, (by decide : 0 + 0 ≤ _), (by decide : 0 + 0 ≤ _)⟩)
  dsimp only [Pt.U, Pt.locs, Pt.cells, Pt.slots] at X5 l5 y5 z5 sr5 hQ5
  subst l5 y5 z5
  obtain ⟨rfl, N5q, hh5⟩ := hQ5
  have N5 := Fr.app N0 N5q
  obtain ⟨LL5, X5, N5⟩ := own_hide X5 N5
  have st6 : Steps p.tables e below sE (T5.setTop (mkF m 8 #[.val (.ref x0), .val (.ref x1), .val .null, .unset, .unset] [(.ref aV)])) := st4.trans (sr5)
  have st7 : Steps p.tables e below sE (T5.setTop (mkF m 10 #[.val (.ref x0), .val (.ref x1), .val .null, .val (.ref aV), .unset] [(.ref x1)])) := st6.trans (by
      show Steps _ _ _ (T5.setTop (mkF m 8 #[.val (.ref x0), .val (.ref x1), .val .null, .unset, .unset] [(.ref aV)])) _
      refine XS.astoreN X5.here hx rfl (hb hby d16_8) rfl rfl (l' := #[.val (.ref x0), .val (.ref x1), .val .null, .val (.ref aV), .unset]) rfl ?_
      show Steps _ _ _ (T5.setTop (mkF m 9 #[.val (.ref x0), .val (.ref x1), .val .null, .val (.ref aV), .unset] [])) _
      refine XS.aloadN X5.here hx rfl (hb hby d16_9) rfl rfl ?_
      exact Steps.refl _)
  obtain ⟨cq8, kq8, q8a, q8b, q8c⟩ := isOf hZ hh5 E_1
  obtain ⟨_, _, ⟨T8, L8, k8, n8⟩, -, X8, ⟨Lc8, hQ8, l8, y8, z8⟩, sr8⟩ := X5.virtualBack hx (y := (⟨"java/lang/AbstractStringBuilder", "length", "()I"⟩ : MethodName)) (z := (⟨"java/lang/StringBuilder", "length", "()I"⟩ : MethodName)) hown (mvT hZ (hw _ (List.mem_of_getElem? (i := 108) rfl))) (mvT hZ (hw _ (List.mem_of_getElem? (i := 109) rfl))) (own_nf (z := (⟨"java/lang/AbstractStringBuilder", "ensureCapacityInternal", "(I)V"⟩ : MethodName)) rfl (notFace_of_selects (args := #[]) (mvT hZ (hw _ (List.mem_of_getElem? (i := 66) rfl)))) (args' := #[]) (mvT hZ (hw _ (List.mem_of_getElem? (i := 64) rfl)))) (mvT hZ (hw _ (List.mem_of_getElem? (i := 111) rfl))) (mvT hZ (hw _ (List.mem_of_getElem? (i := 112) rfl))) (by decide) (backOf (W := 0) (rm18 l Z a0 hw [] x1 cn h0 n0 Z0 E_1 F_1n) hZ (hw _ (List.mem_of_getElem? (i := 113) rfl)) (hw _ (List.mem_of_getElem? (i := 6) rfl)) (by decide) (by decide)) q8a q8c (g := (mkF m 10 #[.val (.ref x0), .val (.ref x1), .val .null, .val (.ref aV), .unset] [(.ref x1)])) rfl (by rw [hml]; rfl) (Steps.refl _) (argsL := []) (rest := []) (lenOf pd_5 rfl) rfl (by show 2 * 0 + _ ≤ _; exact Nat.le_of_eq rfl) (hb hby d16_10) (fun _ _ => ⟨rfl, hh5, (by decide : 0 + 0 ≤ _), (by decide : 0 + 0 ≤ _)⟩)
  dsimp only [Pt.U, Pt.locs, Pt.cells, Pt.slots] at X8 l8 y8 z8 sr8 hQ8
  subst l8 y8 z8
  obtain ⟨rfl, N8q, hh8⟩ := hQ8
  have N8 := Fr.app N5 N8q
  obtain ⟨LL8, X8, N8⟩ := own_hide X8 N8
  have st9 : Steps p.tables e below sE (T8.setTop (mkF m 13 #[.val (.ref x0), .val (.ref x1), .val .null, .val (.ref aV), .unset] [(.int cn)])) := st7.trans (sr8)
  have st10 : Steps p.tables e below sE (T8.setTop (mkF m 16 #[.val (.ref x0), .val (.ref x1), .val .null, .val (.ref aV), .val (.int cn)] [(.ref x1)])) := st9.trans (by
      show Steps _ _ _ (T8.setTop (mkF m 13 #[.val (.ref x0), .val (.ref x1), .val .null, .val (.ref aV), .unset] [(.int cn)])) _
      refine XS.istore X8.here hx rfl (hb hby d16_13) rfl (l' := #[.val (.ref x0), .val (.ref x1), .val .null, .val (.ref aV), .val (.int cn)]) rfl ?_
      show Steps _ _ _ (T8.setTop (mkF m 15 #[.val (.ref x0), .val (.ref x1), .val .null, .val (.ref aV), .val (.int cn)] [])) _
      refine XS.aloadN X8.here hx rfl (hb hby d16_15) rfl rfl ?_
      exact Steps.refl _)
  obtain ⟨cq11, kq11, q11a, q11b, q11c⟩ := isOf hZ hh8 E_1
  obtain ⟨_, _, ⟨T11, L11, k11, n11⟩, -, X11, ⟨Lc11, hQ11, l11, y11, z11⟩, sr11⟩ := X8.virtualBack hx (y := (⟨"java/lang/AbstractStringBuilder", "isLatin1", "()Z"⟩ : MethodName)) (z := (⟨"java/lang/AbstractStringBuilder", "isLatin1", "()Z"⟩ : MethodName)) hown (mvT hZ (hw _ (List.mem_of_getElem? (i := 116) rfl))) (mvT hZ (hw _ (List.mem_of_getElem? (i := 117) rfl))) (notFace_of_selects (args := #[]) (mvT hZ (hw _ (List.mem_of_getElem? (i := 119) rfl)))) (mvT hZ (hw _ (List.mem_of_getElem? (i := 119) rfl))) (mvT hZ (hw _ (List.mem_of_getElem? (i := 118) rfl))) (by decide) (backOf (W := 0) (rm20 l Z a0 hw [] x1 cs h0 n0 Z0 S_c hcs F_1c) hZ (hw _ (List.mem_of_getElem? (i := 120) rfl)) (hw _ (List.mem_of_getElem? (i := 14) rfl)) (by decide) (by decide)) q11a q11c (g := (mkF m 16 #[.val (.ref x0), .val (.ref x1), .val .null, .val (.ref aV), .val (.int cn)] [(.ref x1)])) rfl (by rw [hml]; rfl) (Steps.refl _) (argsL := []) (rest := []) (lenOf pd_3 rfl) rfl (by show 2 * 0 + _ ≤ _; exact Nat.le_of_eq rfl) (hb hby d16_16) (fun _ _ => ⟨rfl, hh8, (by decide : 0 + 0 ≤ _), (by decide : 0 + 0 ≤ _)⟩)
  dsimp only [Pt.U, Pt.locs, Pt.cells, Pt.slots] at X11 l11 y11 z11 sr11 hQ11
  subst l11 y11 z11
  obtain ⟨rfl, N11q, hh11⟩ := hQ11
  have N11 := Fr.app N8 N11q
  obtain ⟨LL11, X11, N11⟩ := own_hide X11 N11
  have st12 : Steps p.tables e below sE (T11.setTop (mkF m 19 #[.val (.ref x0), .val (.ref x1), .val .null, .val (.ref aV), .val (.int cn)] [(.int (1 : Int32))])) := st10.trans (sr11)
  have hf13 : ¬ ((1 : Int32) = (0 : Int32)) := by decide
  have st14 : Steps p.tables e below sE (T11.setTop (mkF m 24 #[.val (.ref x0), .val (.ref x1), .val .null, .val (.ref aV), .val (.int cn)] [(.int (0 : Int32)), (.ref x0)])) := st12.trans (by
      show Steps _ _ _ (T11.setTop (mkF m 19 #[.val (.ref x0), .val (.ref x1), .val .null, .val (.ref aV), .val (.int cn)] [(.int (1 : Int32))])) _
      refine XS.ifNo X11.here hx rfl (hb hby d16_19) rfl ((if0 _ _).trans (feq hf13).1) ?_
      show Steps _ _ _ (T11.setTop (mkF m 22 #[.val (.ref x0), .val (.ref x1), .val .null, .val (.ref aV), .val (.int cn)] [])) _
      refine XS.aloadN X11.here hx rfl (hb hby d16_22) rfl rfl ?_
      show Steps _ _ _ (T11.setTop (mkF m 23 #[.val (.ref x0), .val (.ref x1), .val .null, .val (.ref aV), .val (.int cn)] [(.ref x0)])) _
      refine XS.iconst X11.here hx rfl (hb hby d16_23) ?_
      exact Steps.refl _)
  obtain ⟨T15, h15, X15, e15, W15, sr15⟩ := putF X11 hx hZ hown (host := "") (Or.inl (hw _ (List.mem_of_getElem? (i := 60) rfl))) Via.refl hh11 F_c E_x (Or.inr ⟨(hw _ (List.mem_of_getElem? (i := 29) rfl)), rfl, hnm⟩) (hw _ (List.mem_of_getElem? (i := 27) rfl)) (ty := .byte) (by decide) rfl rfl (g := (mkF m 24 #[.val (.ref x0), .val (.ref x1), .val .null, .val (.ref aV), .val (.int cn)] [(.int (0 : Int32)), (.ref x0)])) rfl rfl (hb hby d16_24)
  have f16 : Sta Z h15 "java/lang/String" "COMPACT_STRINGS" "Z" (.int cs) := S_c.wr W15
  have f17 : Exa Z h15 x0 "java/lang/String" := E_x.wr W15
  have f18 : Fld Z h15 x0 "java/lang/String" "value" "[B" .null := F_v.other W15 (Or.inr (slot_ne (Or.inr (hw _ (List.mem_of_getElem? (i := 28) rfl))) (Or.inr (hw _ (List.mem_of_getElem? (i := 29) rfl))) (by decide) (t := (.array .byte)) (t' := .byte) (by decide) (by decide)))
  have f19 : Exa Z h15 x1 "java/lang/StringBuilder" := E_1.wr W15
  have f20 : Fld Z h15 x1 "java/lang/AbstractStringBuilder" "value" "[B" (.ref aV) := F_1v.other W15 (Or.inl (Ne.symm ne_x1))
  have f21 : Fld Z h15 x1 "java/lang/AbstractStringBuilder" "coder" "B" (.int (0 : Int32)) := F_1c.other W15 (Or.inl (Ne.symm ne_x1))
  have f22 : Fld Z h15 x1 "java/lang/AbstractStringBuilder" "count" "I" (.int cn) := F_1n.other W15 (Or.inl (Ne.symm ne_x1))
  have f23 : Exa Z h15 aV "[B" := E_v.wr W15
  have f24 : Arv Z h15 aV kV .byte nd (List.map Value.int LD) (.int (0 : Int32)) := A_v.other W15 (Ne.symm ne_xv)
  have f25 : Fld Z h15 x0 "java/lang/String" "coder" "B" (.int (0 : Int32)) := F_c.same W15
  have K26 : Keep h0 h15 [x0] := K0.wr W15 (Or.inl (List.mem_of_getElem? (i := 0) rfl))
  have Z15 : n0 ≤ h15.size := Nat.le_trans Z0 (Keep.of_wr W15).1
  have N15 := Fr.snoc X15 N11 g_x
  obtain ⟨LL15, X15, N15⟩ := own_hide X15 N15
  have st27 : Steps p.tables e below sE (T15.setTop (mkF m 27 #[.val (.ref x0), .val (.ref x1), .val .null, .val (.ref aV), .val (.int cn)] [])) := st14.trans (sr15 _ (Steps.refl _))
  have st28 : Steps p.tables e below sE (T15.setTop (mkF m 32 #[.val (.ref x0), .val (.ref x1), .val .null, .val (.ref aV), .val (.int cn)] [(.int cn), (.int (0 : Int32)), (.ref aV), (.ref x0)])) := st27.trans (by
      show Steps _ _ _ (T15.setTop (mkF m 27 #[.val (.ref x0), .val (.ref x1), .val .null, .val (.ref aV), .val (.int cn)] [])) _
      refine XS.aloadN X15.here hx rfl (hb hby d16_27) rfl rfl ?_
      show Steps _ _ _ (T15.setTop (mkF m 28 #[.val (.ref x0), .val (.ref x1), .val .null, .val (.ref aV), .val (.int cn)] [(.ref x0)])) _
      refine XS.aloadN X15.here hx rfl (hb hby d16_28) rfl rfl ?_
      show Steps _ _ _ (T15.setTop (mkF m 29 #[.val (.ref x0), .val (.ref x1), .val .null, .val (.ref aV), .val (.int cn)] [(.ref aV), (.ref x0)])) _
      refine XS.iconst X15.here hx rfl (hb hby d16_29) ?_
      show Steps _ _ _ (T15.setTop (mkF m 30 #[.val (.ref x0), .val (.ref x1), .val .null, .val (.ref aV), .val (.int cn)] [(.int (0 : Int32)), (.ref aV), (.ref x0)])) _
      refine XS.iload X15.here hx rfl (hb hby d16_30) rfl ?_
      exact Steps.refl _)
  obtain ⟨_, _, ⟨T29, L29, k29, n29⟩, -, X29, ⟨Lc29, hQ29, l29, y29, z29⟩, sr29⟩ := Jvm.LawKit.callS X15 hx (y := (⟨"java/util/Arrays", "copyOfRange", "([BII)[B"⟩ : MethodName)) hown (mvT hZ (hw _ (List.mem_of_getElem? (i := 121) rfl))) (mvT hZ (hw _ (List.mem_of_getElem? (i := 122) rfl))) (mvT hZ (hw _ (List.mem_of_getElem? (i := 123) rfl))) (mvT hZ (hw _ (List.mem_of_getElem? (i := 124) rfl))) (by decide) (backOf (W := 1) (rm21 l Z a0 hw [] aV cn kV nd LD h15 n0 Z15 f23 f24 hbd.2.1 hbd.2.2.1 hcm) hZ (hw _ (List.mem_of_getElem? (i := 124) rfl)) (hw _ (List.mem_of_getElem? (i := 123) rfl)) (by decide) (by decide)) (g := (mkF m 32 #[.val (.ref x0), .val (.ref x1), .val .null, .val (.ref aV), .val (.int cn)] [(.int cn), (.int (0 : Int32)), (.ref aV), (.ref x0)])) rfl (by rw [hml]; rfl) (argsL := [(.ref aV), (.int (0 : Int32)), (.int cn)]) (rest := [(.ref x0)]) (lenOf pd_15 rfl) rfl (by show 2 * 0 + _ ≤ _; exact Nat.le_of_eq rfl) (hb hby d16_32) (fun _ _ => ⟨rfl, e15, (by decide : 0 + 1 ≤ _), (by decide : 0 + 6142 ≤ _)⟩)
  dsimp only [Pt.U, Pt.locs, Pt.cells, Pt.slots] at X29 l29 y29 z29 sr29 hQ29
  subst l29 y29 z29
  obtain ⟨rfl, N29q, K29c, ⟨kN, LN, qE, qA, hLN⟩⟩ := hQ29
  have N29 := Fr.app N15 N29q
  obtain ⟨LL29, X29, N29⟩ := own_hide X29 N29
  have f30 : Sta Z T29.heap "java/lang/String" "COMPACT_STRINGS" "Z" (.int cs) := own_sta_keep f16 K29c all0
  have f31 : Exa Z T29.heap x0 "java/lang/String" := f17.keep K29c
  have f32 : Fld Z T29.heap x0 "java/lang/String" "value" "[B" .null := f18.keep K29c nin0
  have f33 : Exa Z T29.heap x1 "java/lang/StringBuilder" := f19.keep K29c
  have f34 : Fld Z T29.heap x1 "java/lang/AbstractStringBuilder" "value" "[B" (.ref aV) := f20.keep K29c nin0
  have f35 : Fld Z T29.heap x1 "java/lang/AbstractStringBuilder" "coder" "B" (.int (0 : Int32)) := f21.keep K29c nin0
  have f36 : Fld Z T29.heap x1 "java/lang/AbstractStringBuilder" "count" "I" (.int cn) := f22.keep K29c nin0
  have f37 : Exa Z T29.heap aV "[B" := f23.keep K29c
  have f38 : Arv Z T29.heap aV kV .byte nd (List.map Value.int LD) (.int (0 : Int32)) := f24.keep K29c nin0
  have f39 : Fld Z T29.heap x0 "java/lang/String" "coder" "B" (.int (0 : Int32)) := f25.keep K29c nin0
  have K40 : Keep h0 T29.heap [x0] := K26.trans K29c all0
  have Z41 : n0 ≤ T29.heap.size := Nat.le_trans Z15 K29c.1
  obtain ⟨aN, gaN⟩ : ∃ z, z = h15.size := ⟨_, rfl⟩
  rw [← gaN] at qE qA sr29
  have g_aN : n0 ≤ aN := Nat.le_trans Z15 (Nat.le_of_eq gaN.symm)
  have sz_aN : h0.size ≤ aN := Nat.le_trans K26.1 (Nat.le_of_eq gaN.symm)
  have ne_x0_aN : x0 ≠ aN := Nat.ne_of_lt (Nat.lt_of_lt_of_le f17.lt (Nat.le_of_eq gaN.symm))
  have ne_x1_aN : x1 ≠ aN := Nat.ne_of_lt (Nat.lt_of_lt_of_le f19.lt (Nat.le_of_eq gaN.symm))
  have ne_aV_aN : aV ≠ aN := Nat.ne_of_lt (Nat.lt_of_lt_of_le f23.lt (Nat.le_of_eq gaN.symm))
  have st42 : Steps p.tables e below sE (T29.setTop (mkF m 35 #[.val (.ref x0), .val (.ref x1), .val .null, .val (.ref aV), .val (.int cn)] [(.ref aN), (.ref x0)])) := st28.trans (sr29 _ (Steps.refl _))
  obtain ⟨T43, h43, X43, e43, W43, sr43⟩ := putF X29 hx hZ hown (host := "") (Or.inl (hw _ (List.mem_of_getElem? (i := 37) rfl))) Via.refl rfl f32 f31 (Or.inr ⟨(hw _ (List.mem_of_getElem? (i := 28) rfl)), rfl, hnm⟩) (hw _ (List.mem_of_getElem? (i := 27) rfl)) (ty := (.array .byte)) (by decide) rfl rfl (g := (mkF m 35 #[.val (.ref x0), .val (.ref x1), .val .null, .val (.ref aV), .val (.int cn)] [(.ref aN), (.ref x0)])) rfl rfl (hb hby d16_35)
  have f44 : Sta Z h43 "java/lang/String" "COMPACT_STRINGS" "Z" (.int cs) := f30.wr W43
  have f45 : Exa Z h43 x0 "java/lang/String" := f31.wr W43
  have f46 : Exa Z h43 x1 "java/lang/StringBuilder" := f33.wr W43
  have f47 : Fld Z h43 x1 "java/lang/AbstractStringBuilder" "value" "[B" (.ref aV) := f34.other W43 (Or.inl (Ne.symm ne_x1))
  have f48 : Fld Z h43 x1 "java/lang/AbstractStringBuilder" "coder" "B" (.int (0 : Int32)) := f35.other W43 (Or.inl (Ne.symm ne_x1))
  have f49 : Fld Z h43 x1 "java/lang/AbstractStringBuilder" "count" "I" (.int cn) := f36.other W43 (Or.inl (Ne.symm ne_x1))
  have f50 : Exa Z h43 aV "[B" := f37.wr W43
  have f51 : Arv Z h43 aV kV .byte nd (List.map Value.int LD) (.int (0 : Int32)) := f38.other W43 (Ne.symm ne_xv)
  have f52 : Fld Z h43 x0 "java/lang/String" "coder" "B" (.int (0 : Int32)) := f39.other W43 (Or.inr (slot_ne (Or.inr (hw _ (List.mem_of_getElem? (i := 29) rfl))) (Or.inr (hw _ (List.mem_of_getElem? (i := 28) rfl))) (by decide) (t := .byte) (t' := (.array .byte)) (by decide) (by decide)))
  have f53 : Arv Z h43 aN kN .byte cn (List.map Value.int LN) (.int (0 : Int32)) := qA.other W43 (Ne.symm ne_x0_aN)
  have f54 : Exa Z h43 aN "[B" := qE.wr W43
  have f55 : Fld Z h43 x0 "java/lang/String" "value" "[B" (.ref aN) := f32.same W43
  have K56 : Keep h0 h43 [x0] := K40.wr W43 (Or.inl (List.mem_of_getElem? (i := 0) rfl))
  have Z43 : n0 ≤ h43.size := Nat.le_trans Z41 (Keep.of_wr W43).1
  have N43 := Fr.snoc X43 N29 g_x
  obtain ⟨LL43, X43, N43⟩ := own_hide X43 N43
  have st57 : Steps p.tables e below sE (T43.setTop (mkF m 38 #[.val (.ref x0), .val (.ref x1), .val .null, .val (.ref aV), .val (.int cn)] [])) := st42.trans (sr43 _ (Steps.refl _))
  have st58 : Steps p.tables e below sE (T43.setTop (mkF m 97 #[.val (.ref x0), .val (.ref x1), .val .null, .val (.ref aV), .val (.int cn)] [])) := st57.trans (by
      show Steps _ _ _ (T43.setTop (mkF m 38 #[.val (.ref x0), .val (.ref x1), .val .null, .val (.ref aV), .val (.int cn)] [])) _
      refine XS.goto X43.here hx rfl (pc0 := 38) (pc' := 97) rfl (hb hby d16_38) (by decide) (by decide) ?_
      exact Steps.refl _)
  obtain ⟨fs, hr, hrun, hended, hW, hsame⟩ := X43.leave (v := none) (fun _ => rfl) hlk
  refine ⟨_, _, (own_ent hsE st58).trans ?_, hrun, hended, _, _, rfl, ?_, ⟨_, rfl⟩, hW, hsame.mono (by decide) (by decide)⟩
  · exact X43.returnOut hx Bd.returns (hb hby d16_97) hr
  · show Qsia Z x0 x1 cs aV kV nd LD cn h0 n0 _ T43.heap _
    rw [e43]
    exact ⟨rfl, N43, K56, f45, f52, ⟨aN, kN, LN, f55, f53, fun i hi => by rw [hLN i hi]; exact hbd.2.2.2.2 i hi⟩⟩
theorem pd_17 : parseMethodDescriptor "(Ljava/lang/AbstractStringBuilder;Ljava/lang/Void;)V" = some ⟨[(.object "java/lang/AbstractStringBuilder"), (.object "java/lang/Void")], none⟩ := by decide +kernel
theorem d15_0 : decode jdk_42_method_53_code 0 = .ok (.aload_n 0, 1) := by decide +kernel
theorem d15_1 : decode jdk_42_method_53_code 1 = .ok (.aload_n 1, 1) := by decide +kernel
theorem d15_2 : decode jdk_42_method_53_code 2 = .ok (.aconst_null, 1) := by decide +kernel
theorem d15_3 : decode jdk_42_method_53_code 3 = .ok (.invokespecial 489, 3) := by decide +kernel
theorem d15_6 : decode jdk_42_method_53_code 6 = .ok (.return_, 1) := by decide +kernel
theorem ef_sib (m : MethodId) (x0 : Addr) (x1 : Addr)  : entryFrame m #[(.ref x0), (.ref x1)] 2 = mkF m 0 #[.val (.ref x0), .val (.ref x1)] [] := by first | (simp [entryFrame, mkF, argsToLocals, Value.category]; done) | rfl
def Qsib (Z : State) (x0 : Addr) (x1 : Addr) (cs : Int32) (aV : Addr) (kV : ClassId) (nd : Int32) (LD : List Int32) (cn : Int32) (h0 : Heap) (n0 : Nat) (vE : Option Value) (hE : Heap) (LE : List Loc) : Prop := vE = none ∧ Fr n0 LE ∧ Keep h0 hE [x0] ∧ Exa Z hE x0 "java/lang/String" ∧ Fld Z hE x0 "java/lang/String" "coder" "B" (.int (0 : Int32)) ∧ (∃ (aS : Addr) (kS' : ClassId) (LS' : List Int32), Fld Z hE x0 "java/lang/String" "value" "[B" (.ref aS) ∧ Arv Z hE aS kS' .byte cn (List.map Value.int LS') (.int (0 : Int32)) ∧ (∀ i, i < cn.toNatClampNeg → LS'.getD i 0 = own_ch i))
set_option maxRecDepth 65536 in
set_option maxHeartbeats 40000000 in
theorem rmsib (l : Launch) (Z : State) (a0 : Array Value) (hw : ∀ d ∈ tables_1, d.before a0 Z = true) (ws : List Jvm.Cond) (x0 : Addr) (x1 : Addr) (cs : Int32) (aV : Addr) (kV : ClassId) (nd : Int32) (LD : List Int32) (cn : Int32) (h0 : Heap) (n0 : Nat) (Z0 : n0 ≤ h0.size) (S_c : Sta Z h0 "java/lang/String" "COMPACT_STRINGS" "Z" (.int cs)) (hcs : ¬ cs = (0 : Int32)) (E_x : Exa Z h0 x0 "java/lang/String") (F_v : Fld Z h0 x0 "java/lang/String" "value" "[B" .null) (F_c : Fld Z h0 x0 "java/lang/String" "coder" "B" (.int (0 : Int32))) (E_1 : Exa Z h0 x1 "java/lang/StringBuilder") (F_1v : Fld Z h0 x1 "java/lang/AbstractStringBuilder" "value" "[B" (.ref aV)) (F_1c : Fld Z h0 x1 "java/lang/AbstractStringBuilder" "coder" "B" (.int (0 : Int32))) (F_1n : Fld Z h0 x1 "java/lang/AbstractStringBuilder" "count" "I" (.int cn)) (E_v : Exa Z h0 aV "[B") (A_v : Arv Z h0 aV kV .byte nd (List.map Value.int LD) (.int (0 : Int32))) (hbd : own_bd nd LD cn 12300) (hcm : cn.toInt ≤ 6142) (g_x : n0 ≤ x0) (ne_x1 : x0 ≠ x1) (ne_xv : x0 ≠ aV) :
    MetFree l (⟨"java/lang/String", "<init>", "(Ljava/lang/StringBuilder;)V"⟩ : MethodName) (head1 (Jvm.Cond.code (⟨"java/lang/String", "<init>", "(Ljava/lang/StringBuilder;)V"⟩ : MethodName) jdk_42_method_53_code 2 none :: ws) ({ frames := 4, cells := 1, slots := 6142, locals := 65 } : Room)) (fun a U => a = #[(.ref x0), (.ref x1)] ∧ Z.Warmed39 U.vm ∧ U.heap = h0) (fun _ _ _ _ _ => True) (fun _ U o U' => ∃ vE LE, o = .returned vE ∧ Qsib Z x0 x1 cs aV kV nd LD cn h0 n0 vE U'.heap LE ∧ FrameEnd U o U' LE ({ frames := 4, cells := 1, slots := 6142, locals := 65 } : Room).cells ({ frames := 4, cells := 1, slots := 6142, locals := 65 } : Room).slots) := by
  refine MetFree.of_bodySF (plainFor_of_name pn_1) hisR ?_
  intro p e s m args below meth c s₁ Bd hml0 hP hK
  obtain ⟨rfl, hZ, hh⟩ := hP
  have hx := Bd.exec
  have hby := Bd.bytes
  have hml : c.maxLocals = 2 := hml0
  have hown : s.vm.findClass "java/lang/String" = some m.cls := findClass_of_methodNamed Bd.named
  have hnm := (name_of_methodNamed Bd.named Bd.method).1
  have hlk : meth.locks = false := BodyLoose.notSynchronized Bd
  have X0 : Stand p l e ({ frames := 4, cells := 1, slots := 6142, locals := 65 } : Room) s m #[(.ref x0), (.ref x1)] below meth c s₁ [] 0 0 := Stand.of_body Bd
  have e0 : s₁.heap = h0 := by rw [← hh, Bd.state]; rfl
  have N0 := Fr.nil n0
  obtain ⟨sE, hsE⟩ : ∃ z, z = (s₁.setTop (entryFrame m #[(.ref x0), (.ref x1)] 2)) := ⟨_, rfl⟩
  have st0 : Steps p.tables e below sE (s₁.setTop (mkF m 0 #[.val (.ref x0), .val (.ref x1)] [])) := by rw [hsE]; exact castTop (ef_sib m x0 x1) (Steps.refl _)
  have K0 : Keep h0 h0 [x0] := Keep.refl _ _
  have st1 : Steps p.tables e below sE (s₁.setTop (mkF m 3 #[.val (.ref x0), .val (.ref x1)] [.null, (.ref x1), (.ref x0)])) := st0.trans (by
      show Steps _ _ _ (s₁.setTop (mkF m 0 #[.val (.ref x0), .val (.ref x1)] [])) _
      refine XS.aloadN X0.here hx rfl (hb hby d15_0) rfl rfl ?_
      show Steps _ _ _ (s₁.setTop (mkF m 1 #[.val (.ref x0), .val (.ref x1)] [(.ref x0)])) _
      refine XS.aloadN X0.here hx rfl (hb hby d15_1) rfl rfl ?_
      show Steps _ _ _ (s₁.setTop (mkF m 2 #[.val (.ref x0), .val (.ref x1)] [(.ref x1), (.ref x0)])) _
      refine XS.aconstNull X0.here hx rfl (hb hby d15_2) ?_
      exact Steps.refl _)
  obtain ⟨_, _, ⟨T2, L2, k2, n2⟩, -, X2, ⟨Lc2, hQ2, l2, y2, z2⟩, sr2⟩ := X0.specialBack hx (y := (⟨"java/lang/String", "<init>", "(Ljava/lang/AbstractStringBuilder;Ljava/lang/Void;)V"⟩ : MethodName)) rfl hown (mvT hZ (hw _ (List.mem_of_getElem? (i := 99) rfl))) (mvT hZ (hw _ (List.mem_of_getElem? (i := 100) rfl))) (mvT hZ (hw _ (List.mem_of_getElem? (i := 101) rfl))) (by decide) (backOf (W := 0) (rmsia l Z a0 hw [] x0 x1 cs aV kV nd LD cn h0 n0 Z0 S_c hcs E_x F_v F_c E_1 F_1v F_1c F_1n E_v A_v hbd hcm g_x ne_x1 ne_xv) hZ (hw _ (List.mem_of_getElem? (i := 101) rfl)) (hw _ (List.mem_of_getElem? (i := 20) rfl)) (by decide) (by decide)) (g := (mkF m 3 #[.val (.ref x0), .val (.ref x1)] [.null, (.ref x1), (.ref x0)])) rfl (by rw [hml]; rfl) (Steps.refl _) (a := x0) (argsL := [(.ref x1), .null]) (rest := []) (lenOf pd_17 rfl) rfl (by show 2 * 0 + _ ≤ _; exact Nat.le_of_eq rfl) (hb hby d15_3) (fun _ _ => ⟨rfl, e0, (by decide : 0 + 1 ≤ _), (by decide : 0 + 6142 ≤ _)⟩)
  dsimp only [Pt.U, Pt.locs, Pt.cells, Pt.slots] at X2 l2 y2 z2 sr2 hQ2
  subst l2 y2 z2
  obtain ⟨rfl, N2q, K2c, f2_0, f2_1, ⟨aS, kS', LS', qv, qa, hLS⟩⟩ := hQ2
  have N2 := Fr.app N0 N2q
  obtain ⟨LL2, X2, N2⟩ := own_hide X2 N2
  have f3 : Sta Z T2.heap "java/lang/String" "COMPACT_STRINGS" "Z" (.int cs) := own_sta_keep S_c K2c (allS (own_ns E_x) all0)
  have f4 : Exa Z T2.heap x0 "java/lang/String" := E_x.keep K2c
  have f5 : Exa Z T2.heap x1 "java/lang/StringBuilder" := E_1.keep K2c
  have f6 : Fld Z T2.heap x1 "java/lang/AbstractStringBuilder" "value" "[B" (.ref aV) := F_1v.keep K2c (ninS (Ne.symm ne_x1) nin0)
  have f7 : Fld Z T2.heap x1 "java/lang/AbstractStringBuilder" "coder" "B" (.int (0 : Int32)) := F_1c.keep K2c (ninS (Ne.symm ne_x1) nin0)
  have f8 : Fld Z T2.heap x1 "java/lang/AbstractStringBuilder" "count" "I" (.int cn) := F_1n.keep K2c (ninS (Ne.symm ne_x1) nin0)
  have f9 : Exa Z T2.heap aV "[B" := E_v.keep K2c
  have f10 : Arv Z T2.heap aV kV .byte nd (List.map Value.int LD) (.int (0 : Int32)) := A_v.keep K2c (ninS (Ne.symm ne_xv) nin0)
  have K11 : Keep h0 T2.heap [x0] := K0.trans K2c (allS (Or.inl (List.mem_of_getElem? (i := 0) rfl)) all0)
  have Z12 : n0 ≤ T2.heap.size := Nat.le_trans Z0 K2c.1
  have st13 : Steps p.tables e below sE (T2.setTop (mkF m 6 #[.val (.ref x0), .val (.ref x1)] [])) := st1.trans (sr2)
  obtain ⟨fs, hr, hrun, hended, hW, hsame⟩ := X2.leave (v := none) (fun _ => rfl) hlk
  refine ⟨_, _, (own_ent hsE st13).trans ?_, hrun, hended, _, _, rfl, ?_, ⟨_, rfl⟩, hW, hsame.mono (by decide) (by decide)⟩
  · exact X2.returnOut hx Bd.returns (hb hby d15_6) hr
  · show Qsib Z x0 x1 cs aV kV nd LD cn h0 n0 _ T2.heap _
    exact ⟨rfl, N2, K11, f2_0, f2_1, ⟨aS, kS', LS', qv, qa, hLS⟩⟩
theorem pd_18 : parseMethodDescriptor "(Ljava/lang/StringBuilder;)V" = some ⟨[(.object "java/lang/StringBuilder")], none⟩ := by decide +kernel
theorem d14_0 : decode jdk_67_method_42_code 0 = .ok (.new 18, 3) := by decide +kernel
theorem d14_3 : decode jdk_67_method_42_code 3 = .ok (.dup, 1) := by decide +kernel
theorem d14_4 : decode jdk_67_method_42_code 4 = .ok (.aload_n 0, 1) := by decide +kernel
theorem d14_5 : decode jdk_67_method_42_code 5 = .ok (.invokespecial 137, 3) := by decide +kernel
theorem d14_8 : decode jdk_67_method_42_code 8 = .ok (.areturn, 1) := by decide +kernel
theorem ef_14 (m : MethodId) (x0 : Addr)  : entryFrame m #[(.ref x0)] 1 = mkF m 0 #[.val (.ref x0)] [] := by first | (simp [entryFrame, mkF, argsToLocals, Value.category]; done) | rfl
def Q14 (Z : State) (x0 : Addr) (cs : Int32) (aV : Addr) (kV : ClassId) (nd : Int32) (LD : List Int32) (cn : Int32) (h0 : Heap) (n0 : Nat) (vE : Option Value) (hE : Heap) (LE : List Loc) : Prop := vE = some (.ref h0.size) ∧ Fr n0 LE ∧ Keep h0 hE [] ∧ Exa Z hE h0.size "java/lang/String" ∧ Fld Z hE h0.size "java/lang/String" "coder" "B" (.int (0 : Int32)) ∧ (∃ (aS : Addr) (kS' : ClassId) (LS' : List Int32), Fld Z hE h0.size "java/lang/String" "value" "[B" (.ref aS) ∧ Arv Z hE aS kS' .byte cn (List.map Value.int LS') (.int (0 : Int32)) ∧ (∀ i, i < cn.toNatClampNeg → LS'.getD i 0 = own_ch i))
set_option maxRecDepth 65536 in
set_option maxHeartbeats 40000000 in
theorem rm14 (l : Launch) (Z : State) (a0 : Array Value) (hw : ∀ d ∈ tables_1, d.before a0 Z = true) (ws : List Jvm.Cond) (x0 : Addr) (cs : Int32) (aV : Addr) (kV : ClassId) (nd : Int32) (LD : List Int32) (cn : Int32) (h0 : Heap) (n0 : Nat) (Z0 : n0 ≤ h0.size) (S_c : Sta Z h0 "java/lang/String" "COMPACT_STRINGS" "Z" (.int cs)) (hcs : ¬ cs = (0 : Int32)) (E_1 : Exa Z h0 x0 "java/lang/StringBuilder") (F_1v : Fld Z h0 x0 "java/lang/AbstractStringBuilder" "value" "[B" (.ref aV)) (F_1c : Fld Z h0 x0 "java/lang/AbstractStringBuilder" "coder" "B" (.int (0 : Int32))) (F_1n : Fld Z h0 x0 "java/lang/AbstractStringBuilder" "count" "I" (.int cn)) (E_v : Exa Z h0 aV "[B") (A_v : Arv Z h0 aV kV .byte nd (List.map Value.int LD) (.int (0 : Int32))) (hbd : own_bd nd LD cn 12300) (hcm : cn.toInt ≤ 6142) :
    MetFree l (⟨"java/lang/StringBuilder", "toString", "()Ljava/lang/String;"⟩ : MethodName) (head1 (Jvm.Cond.code (⟨"java/lang/StringBuilder", "toString", "()Ljava/lang/String;"⟩ : MethodName) jdk_67_method_42_code 1 (some (.object "java/lang/String")) :: ws) ({ frames := 5, cells := 2, slots := 6146, locals := 79 } : Room)) (fun a U => a = #[(.ref x0)] ∧ Z.Warmed39 U.vm ∧ U.heap = h0) (fun _ _ _ _ _ => True) (fun _ U o U' => ∃ vE LE, o = .returned vE ∧ Q14 Z x0 cs aV kV nd LD cn h0 n0 vE U'.heap LE ∧ FrameEnd U o U' LE ({ frames := 5, cells := 2, slots := 6146, locals := 79 } : Room).cells ({ frames := 5, cells := 2, slots := 6146, locals := 79 } : Room).slots) := by
  refine MetFree.of_bodySF (plainFor_of_name pn_5) hisR ?_
  intro p e s m args below meth c s₁ Bd hml0 hP hK
  obtain ⟨rfl, hZ, hh⟩ := hP
  have hx := Bd.exec
  have hby := Bd.bytes
  have hml : c.maxLocals = 1 := hml0
  have hown : s.vm.findClass "java/lang/StringBuilder" = some m.cls := findClass_of_methodNamed Bd.named
  have hnm := (name_of_methodNamed Bd.named Bd.method).1
  have hlk : meth.locks = false := BodyLoose.notSynchronized Bd
  have X0 : Stand p l e ({ frames := 5, cells := 2, slots := 6146, locals := 79 } : Room) s m #[(.ref x0)] below meth c s₁ [] 0 0 := Stand.of_body Bd
  have e0 : s₁.heap = h0 := by rw [← hh, Bd.state]; rfl
  have N0 := Fr.nil n0
  obtain ⟨sE, hsE⟩ : ∃ z, z = (s₁.setTop (entryFrame m #[(.ref x0)] 1)) := ⟨_, rfl⟩
  have st0 : Steps p.tables e below sE (s₁.setTop (mkF m 0 #[.val (.ref x0)] [])) := by rw [hsE]; exact castTop (ef_14 m x0) (Steps.refl _)
  have K0 : Keep h0 h0 [] := Keep.refl _ _
  obtain ⟨T1, h1, X1, e1, E1, A1, D1, -, sr1⟩ := newO X0 hx hZ hown (hw _ (List.mem_of_getElem? (i := 94) rfl)) (hw _ (List.mem_of_getElem? (i := 27) rfl)) (hw _ (List.mem_of_getElem? (i := 20) rfl)) e0 (g := (mkF m 0 #[.val (.ref x0)] [])) rfl (hb hby d14_0) (by decide) (by decide)
  obtain ⟨b1, g1⟩ : ∃ z, z = h0.size := ⟨_, rfl⟩
  rw [← g1] at A1 D1 sr1
  have g_b1 : n0 ≤ b1 := Nat.le_trans Z0 (Nat.le_of_eq g1.symm)
  have sz_b1 : h0.size ≤ b1 := Nat.le_trans K0.1 (Nat.le_of_eq g1.symm)
  have ne_x0_b1 : x0 ≠ b1 := Nat.ne_of_lt (Nat.lt_of_lt_of_le E_1.lt (Nat.le_of_eq g1.symm))
  have ne_aV_b1 : aV ≠ b1 := Nat.ne_of_lt (Nat.lt_of_lt_of_le E_v.lt (Nat.le_of_eq g1.symm))
  have f2 : Sta Z h1 "java/lang/String" "COMPACT_STRINGS" "Z" (.int cs) := S_c.ext E1
  have f3 : Exa Z h1 x0 "java/lang/StringBuilder" := E_1.ext E1
  have f4 : Fld Z h1 x0 "java/lang/AbstractStringBuilder" "value" "[B" (.ref aV) := F_1v.ext E1
  have f5 : Fld Z h1 x0 "java/lang/AbstractStringBuilder" "coder" "B" (.int (0 : Int32)) := F_1c.ext E1
  have f6 : Fld Z h1 x0 "java/lang/AbstractStringBuilder" "count" "I" (.int cn) := F_1n.ext E1
  have f7 : Exa Z h1 aV "[B" := E_v.ext E1
  have f8 : Arv Z h1 aV kV .byte nd (List.map Value.int LD) (.int (0 : Int32)) := A_v.ext E1
  have K9 : Keep h0 h1 [] := K0.ext E1
  have f10 : Fld Z h1 b1 "java/lang/String" "value" "[B" .null := D1 (Or.inr (hw _ (List.mem_of_getElem? (i := 28) rfl))) (ty := (.array .byte)) (by decide)
  have f11 : Fld Z h1 b1 "java/lang/String" "coder" "B" (.int (0 : Int32)) := D1 (Or.inr (hw _ (List.mem_of_getElem? (i := 29) rfl))) (ty := .byte) (by decide)
  have Z1 : n0 ≤ h1.size := Nat.le_trans Z0 E1.1
  have st12 : Steps p.tables e below sE (T1.setTop (mkF m 3 #[.val (.ref x0)] [(.ref b1)])) := st0.trans (sr1 _ (Steps.refl _))
  have st13 : Steps p.tables e below sE (T1.setTop (mkF m 5 #[.val (.ref x0)] [(.ref x0), (.ref b1), (.ref b1)])) := st12.trans (by
      show Steps _ _ _ (T1.setTop (mkF m 3 #[.val (.ref x0)] [(.ref b1)])) _
      refine XS.dup X1.here hx rfl (hb hby d14_3) rfl rfl ?_
      show Steps _ _ _ (T1.setTop (mkF m 4 #[.val (.ref x0)] [(.ref b1), (.ref b1)])) _
      refine XS.aloadN X1.here hx rfl (hb hby d14_4) rfl rfl ?_
      exact Steps.refl _)
  obtain ⟨_, _, ⟨T14, L14, k14, n14⟩, -, X14, ⟨Lc14, hQ14, l14, y14, z14⟩, sr14⟩ := X1.specialBack hx (y := (⟨"java/lang/String", "<init>", "(Ljava/lang/StringBuilder;)V"⟩ : MethodName)) rfl hown (mvT hZ (hw _ (List.mem_of_getElem? (i := 95) rfl))) (mvT hZ (hw _ (List.mem_of_getElem? (i := 96) rfl))) (mvT hZ (hw _ (List.mem_of_getElem? (i := 98) rfl))) (by decide) (backOf (W := 1) (rmsib l Z a0 hw [] b1 x0 cs aV kV nd LD cn h1 n0 Z1 f2 hcs A1 f10 f11 f3 f4 f5 f6 f7 f8 hbd hcm g_b1 (Ne.symm ne_x0_b1) (Ne.symm ne_aV_b1)) hZ (hw _ (List.mem_of_getElem? (i := 98) rfl)) (hw _ (List.mem_of_getElem? (i := 20) rfl)) (by decide) (by decide)) (g := (mkF m 5 #[.val (.ref x0)] [(.ref x0), (.ref b1), (.ref b1)])) rfl (by rw [hml]; rfl) (Steps.refl _) (a := b1) (argsL := [(.ref x0)]) (rest := [(.ref b1)]) (lenOf pd_18 rfl) rfl (by show 2 * 0 + _ ≤ _; exact Nat.le_of_eq rfl) (hb hby d14_5) (fun _ _ => ⟨rfl, e1, (by decide : 1 + 1 ≤ _), (by decide : 4 + 6142 ≤ _)⟩)
  dsimp only [Pt.U, Pt.locs, Pt.cells, Pt.slots] at X14 l14 y14 z14 sr14 hQ14
  subst l14 y14 z14
  obtain ⟨rfl, N14q, K14c, f14_0, f14_1, ⟨aS, kS', LS', qv, qa, hLS⟩⟩ := hQ14
  have N14 := Fr.app N0 N14q
  obtain ⟨LL14, X14, N14⟩ := own_hide X14 N14
  have f15 : Sta Z T14.heap "java/lang/String" "COMPACT_STRINGS" "Z" (.int cs) := own_sta_keep f2 K14c (allS (own_ns A1) all0)
  have f16 : Exa Z T14.heap x0 "java/lang/StringBuilder" := f3.keep K14c
  have f17 : Fld Z T14.heap x0 "java/lang/AbstractStringBuilder" "value" "[B" (.ref aV) := f4.keep K14c (ninS ne_x0_b1 nin0)
  have f18 : Fld Z T14.heap x0 "java/lang/AbstractStringBuilder" "coder" "B" (.int (0 : Int32)) := f5.keep K14c (ninS ne_x0_b1 nin0)
  have f19 : Fld Z T14.heap x0 "java/lang/AbstractStringBuilder" "count" "I" (.int cn) := f6.keep K14c (ninS ne_x0_b1 nin0)
  have f20 : Exa Z T14.heap aV "[B" := f7.keep K14c
  have f21 : Arv Z T14.heap aV kV .byte nd (List.map Value.int LD) (.int (0 : Int32)) := f8.keep K14c (ninS ne_aV_b1 nin0)
  have f22 : Exa Z T14.heap b1 "java/lang/String" := A1.keep K14c
  have K23 : Keep h0 T14.heap [] := K9.trans K14c (allS (Or.inr sz_b1) all0)
  have Z24 : n0 ≤ T14.heap.size := Nat.le_trans Z1 K14c.1
  have st25 : Steps p.tables e below sE (T14.setTop (mkF m 8 #[.val (.ref x0)] [(.ref b1)])) := st13.trans (sr14)
  obtain ⟨fs, hr, hrun, hended, hW, hsame⟩ := X14.leave (v := some (.ref b1)) (fun h => by rw [Bd.returns] at h; cases h) hlk
  refine ⟨_, _, (own_ent hsE st25).trans ?_, hrun, hended, _, _, rfl, ?_, ⟨_, rfl⟩, hW, hsame.mono (by decide) (by decide)⟩
  · exact retOut X14 hx (t := (.object "java/lang/String")) Bd.returns rfl (Or.inr (Or.inr (Or.inr (Or.inr ⟨rfl, rfl, rfl⟩)))) (hb hby d14_8) hr
  · show Q14 Z x0 cs aV kV nd LD cn h0 n0 _ T14.heap _
    exact ⟨by rw [g1], N14, K23, ⟨by rw [← g1]; exact f14_0, by rw [← g1]; exact f14_1, aS, kS', LS', by rw [← g1]; exact qv, qa, hLS⟩⟩
theorem d32_0 : decode jdk_42_method_151_code 0 = .ok (.aload_n 0, 1) := by decide +kernel
theorem d32_1 : decode jdk_42_method_151_code 1 = .ok (.invokespecial 1, 3) := by decide +kernel
theorem d32_4 : decode jdk_42_method_151_code 4 = .ok (.aload_n 0, 1) := by decide +kernel
theorem d32_5 : decode jdk_42_method_151_code 5 = .ok (.aload_n 1, 1) := by decide +kernel
theorem d32_6 : decode jdk_42_method_151_code 6 = .ok (.putfield 9, 3) := by decide +kernel
theorem d32_9 : decode jdk_42_method_151_code 9 = .ok (.aload_n 0, 1) := by decide +kernel
theorem d32_10 : decode jdk_42_method_151_code 10 = .ok (.iload_n 2, 1) := by decide +kernel
theorem d32_11 : decode jdk_42_method_151_code 11 = .ok (.putfield 15, 3) := by decide +kernel
theorem d32_14 : decode jdk_42_method_151_code 14 = .ok (.return_, 1) := by decide +kernel
theorem ef_sbb (m : MethodId) (x0 : Addr) (x1 : Addr)  : entryFrame m #[(.ref x0), (.ref x1), (.int (0 : Int32))] 3 = mkF m 0 #[.val (.ref x0), .val (.ref x1), .val (.int (0 : Int32))] [] := by first | (simp [entryFrame, mkF, argsToLocals, Value.category]; done) | rfl
def Qsbb (Z : State) (x0 : Addr) (x1 : Addr) (h0 : Heap) (n0 : Nat) (vE : Option Value) (hE : Heap) (LE : List Loc) : Prop := vE = none ∧ Fr n0 LE ∧ Keep h0 hE [x0] ∧ Exa Z hE x0 "java/lang/String" ∧ Fld Z hE x0 "java/lang/String" "value" "[B" (.ref x1) ∧ Fld Z hE x0 "java/lang/String" "coder" "B" (.int (0 : Int32))
set_option maxRecDepth 65536 in
set_option maxHeartbeats 40000000 in
theorem rmsbb (l : Launch) (Z : State) (a0 : Array Value) (hw : ∀ d ∈ tables_1, d.before a0 Z = true) (ws : List Jvm.Cond) (x0 : Addr) (x1 : Addr) (h0 : Heap) (n0 : Nat) (Z0 : n0 ≤ h0.size) (E_x : Exa Z h0 x0 "java/lang/String") (F_v : Fld Z h0 x0 "java/lang/String" "value" "[B" .null) (F_c : Fld Z h0 x0 "java/lang/String" "coder" "B" (.int (0 : Int32))) (E_b : Exa Z h0 x1 "[B") (g_x : n0 ≤ x0) (ne_xb : x0 ≠ x1) :
    MetFree l (⟨"java/lang/String", "<init>", "([BB)V"⟩ : MethodName) (head1 (Jvm.Cond.code (⟨"java/lang/String", "<init>", "([BB)V"⟩ : MethodName) jdk_42_method_151_code 3 none :: ws) ({ frames := 1, cells := 0, slots := 0, locals := 12 } : Room)) (fun a U => a = #[(.ref x0), (.ref x1), (.int (0 : Int32))] ∧ Z.Warmed39 U.vm ∧ U.heap = h0) (fun _ _ _ _ _ => True) (fun _ U o U' => ∃ vE LE, o = .returned vE ∧ Qsbb Z x0 x1 h0 n0 vE U'.heap LE ∧ FrameEnd U o U' LE ({ frames := 1, cells := 0, slots := 0, locals := 12 } : Room).cells ({ frames := 1, cells := 0, slots := 0, locals := 12 } : Room).slots) := by
  refine MetFree.of_bodySF (plainFor_of_name pn_1) hisR ?_
  intro p e s m args below meth c s₁ Bd hml0 hP hK
  obtain ⟨rfl, hZ, hh⟩ := hP
  have hx := Bd.exec
  have hby := Bd.bytes
  have hml : c.maxLocals = 3 := hml0
  have hown : s.vm.findClass "java/lang/String" = some m.cls := findClass_of_methodNamed Bd.named
  have hnm := (name_of_methodNamed Bd.named Bd.method).1
  have hlk : meth.locks = false := BodyLoose.notSynchronized Bd
  have X0 : Stand p l e ({ frames := 1, cells := 0, slots := 0, locals := 12 } : Room) s m #[(.ref x0), (.ref x1), (.int (0 : Int32))] below meth c s₁ [] 0 0 := Stand.of_body Bd
  have e0 : s₁.heap = h0 := by rw [← hh, Bd.state]; rfl
  have N0 := Fr.nil n0
  obtain ⟨sE, hsE⟩ : ∃ z, z = (s₁.setTop (entryFrame m #[(.ref x0), (.ref x1), (.int (0 : Int32))] 3)) := ⟨_, rfl⟩
  have st0 : Steps p.tables e below sE (s₁.setTop (mkF m 0 #[.val (.ref x0), .val (.ref x1), .val (.int (0 : Int32))] [])) := by rw [hsE]; exact castTop (ef_sbb m x0 x1) (Steps.refl _)
  have K0 : Keep h0 h0 [x0] := Keep.refl _ _
  have st1 : Steps p.tables e below sE (s₁.setTop (mkF m 1 #[.val (.ref x0), .val (.ref x1), .val (.int (0 : Int32))] [(.ref x0)])) := st0.trans (by
      show Steps _ _ _ (s₁.setTop (mkF m 0 #[.val (.ref x0), .val (.ref x1), .val (.int (0 : Int32))] [])) _
      refine XS.aloadN X0.here hx rfl (hb hby d32_0) rfl rfl ?_
      exact Steps.refl _)
  obtain ⟨T2, X2, e2, sr2⟩ := initO X0 hx hZ hown (hw _ (List.mem_of_getElem? (i := 102) rfl)) (hw _ (List.mem_of_getElem? (i := 17) rfl)) (hw _ (List.mem_of_getElem? (i := 18) rfl)) e0 (g := (mkF m 1 #[.val (.ref x0), .val (.ref x1), .val (.int (0 : Int32))] [(.ref x0)])) rfl (by rw [hml]; rfl) rfl (hb hby d32_1) (by decide) (W := 0) (by show 2 * 0 + _ ≤ _; exact Nat.le_of_eq rfl) (by decide)
  have st3 : Steps p.tables e below sE (T2.setTop (mkF m 4 #[.val (.ref x0), .val (.ref x1), .val (.int (0 : Int32))] [])) := st1.trans (sr2 _ (Steps.refl _))
  have st4 : Steps p.tables e below sE (T2.setTop (mkF m 6 #[.val (.ref x0), .val (.ref x1), .val (.int (0 : Int32))] [(.ref x1), (.ref x0)])) := st3.trans (by
      show Steps _ _ _ (T2.setTop (mkF m 4 #[.val (.ref x0), .val (.ref x1), .val (.int (0 : Int32))] [])) _
      refine XS.aloadN X2.here hx rfl (hb hby d32_4) rfl rfl ?_
      show Steps _ _ _ (T2.setTop (mkF m 5 #[.val (.ref x0), .val (.ref x1), .val (.int (0 : Int32))] [(.ref x0)])) _
      refine XS.aloadN X2.here hx rfl (hb hby d32_5) rfl rfl ?_
      exact Steps.refl _)
  obtain ⟨T5, h5, X5, e5, W5, sr5⟩ := putF X2 hx hZ hown (host := "") (Or.inl (hw _ (List.mem_of_getElem? (i := 37) rfl))) Via.refl e2 F_v E_x (Or.inr ⟨(hw _ (List.mem_of_getElem? (i := 28) rfl)), rfl, hnm⟩) (hw _ (List.mem_of_getElem? (i := 27) rfl)) (ty := (.array .byte)) (by decide) rfl rfl (g := (mkF m 6 #[.val (.ref x0), .val (.ref x1), .val (.int (0 : Int32))] [(.ref x1), (.ref x0)])) rfl rfl (hb hby d32_6)
  have f6 : Exa Z h5 x0 "java/lang/String" := E_x.wr W5
  have f7 : Fld Z h5 x0 "java/lang/String" "coder" "B" (.int (0 : Int32)) := F_c.other W5 (Or.inr (slot_ne (Or.inr (hw _ (List.mem_of_getElem? (i := 29) rfl))) (Or.inr (hw _ (List.mem_of_getElem? (i := 28) rfl))) (by decide) (t := .byte) (t' := (.array .byte)) (by decide) (by decide)))
  have f8 : Exa Z h5 x1 "[B" := E_b.wr W5
  have f9 : Fld Z h5 x0 "java/lang/String" "value" "[B" (.ref x1) := F_v.same W5
  have K10 : Keep h0 h5 [x0] := K0.wr W5 (Or.inl (List.mem_of_getElem? (i := 0) rfl))
  have Z5 : n0 ≤ h5.size := Nat.le_trans Z0 (Keep.of_wr W5).1
  have N5 := Fr.snoc X5 N0 g_x
  obtain ⟨LL5, X5, N5⟩ := own_hide X5 N5
  have st11 : Steps p.tables e below sE (T5.setTop (mkF m 9 #[.val (.ref x0), .val (.ref x1), .val (.int (0 : Int32))] [])) := st4.trans (sr5 _ (Steps.refl _))
  have st12 : Steps p.tables e below sE (T5.setTop (mkF m 11 #[.val (.ref x0), .val (.ref x1), .val (.int (0 : Int32))] [(.int (0 : Int32)), (.ref x0)])) := st11.trans (by
      show Steps _ _ _ (T5.setTop (mkF m 9 #[.val (.ref x0), .val (.ref x1), .val (.int (0 : Int32))] [])) _
      refine XS.aloadN X5.here hx rfl (hb hby d32_9) rfl rfl ?_
      show Steps _ _ _ (T5.setTop (mkF m 10 #[.val (.ref x0), .val (.ref x1), .val (.int (0 : Int32))] [(.ref x0)])) _
      refine XS.iloadN X5.here hx rfl (hb hby d32_10) rfl ?_
      exact Steps.refl _)
  obtain ⟨T13, h13, X13, e13, W13, sr13⟩ := putF X5 hx hZ hown (host := "") (Or.inl (hw _ (List.mem_of_getElem? (i := 60) rfl))) Via.refl e5 f7 f6 (Or.inr ⟨(hw _ (List.mem_of_getElem? (i := 29) rfl)), rfl, hnm⟩) (hw _ (List.mem_of_getElem? (i := 27) rfl)) (ty := .byte) (by decide) rfl rfl (g := (mkF m 11 #[.val (.ref x0), .val (.ref x1), .val (.int (0 : Int32))] [(.int (0 : Int32)), (.ref x0)])) rfl rfl (hb hby d32_11)
  have f14 : Exa Z h13 x0 "java/lang/String" := f6.wr W13
  have f15 : Exa Z h13 x1 "[B" := f8.wr W13
  have f16 : Fld Z h13 x0 "java/lang/String" "value" "[B" (.ref x1) := f9.other W13 (Or.inr (slot_ne (Or.inr (hw _ (List.mem_of_getElem? (i := 28) rfl))) (Or.inr (hw _ (List.mem_of_getElem? (i := 29) rfl))) (by decide) (t := (.array .byte)) (t' := .byte) (by decide) (by decide)))
  have f17 : Fld Z h13 x0 "java/lang/String" "coder" "B" (.int (0 : Int32)) := f7.same W13
  have K18 : Keep h0 h13 [x0] := K10.wr W13 (Or.inl (List.mem_of_getElem? (i := 0) rfl))
  have Z13 : n0 ≤ h13.size := Nat.le_trans Z5 (Keep.of_wr W13).1
  have N13 := Fr.snoc X13 N5 g_x
  obtain ⟨LL13, X13, N13⟩ := own_hide X13 N13
  have st19 : Steps p.tables e below sE (T13.setTop (mkF m 14 #[.val (.ref x0), .val (.ref x1), .val (.int (0 : Int32))] [])) := st12.trans (sr13 _ (Steps.refl _))
  obtain ⟨fs, hr, hrun, hended, hW, hsame⟩ := X13.leave (v := none) (fun _ => rfl) hlk
  refine ⟨_, _, (own_ent hsE st19).trans ?_, hrun, hended, _, _, rfl, ?_, ⟨_, rfl⟩, hW, hsame.mono (by decide) (by decide)⟩
  · exact X13.returnOut hx Bd.returns (hb hby d32_14) hr
  · show Qsbb Z x0 x1 h0 n0 _ T13.heap _
    rw [e13]
    exact ⟨rfl, N13, K18, f14, f16, f17⟩
theorem d5_0 : decode jdk_42_method_145_code 0 = .ok (.iload_n 1, 1) := by decide +kernel
theorem d5_1 : decode jdk_42_method_145_code 1 = .ok (.ifCond .ge 31, 3) := by decide +kernel
theorem d5_32 : decode jdk_42_method_145_code 32 = .ok (.iload_n 1, 1) := by decide +kernel
theorem d5_33 : decode jdk_42_method_145_code 33 = .ok (.iconst 1, 1) := by decide +kernel
theorem d5_34 : decode jdk_42_method_145_code 34 = .ok (.if_icmp .ne 5, 3) := by decide +kernel
theorem d5_37 : decode jdk_42_method_145_code 37 = .ok (.aload_n 0, 1) := by decide +kernel
theorem d5_38 : decode jdk_42_method_145_code 38 = .ok (.areturn, 1) := by decide +kernel
theorem ef_rp1 (m : MethodId) (x0 : Addr)  : entryFrame m #[(.ref x0), (.int (1 : Int32))] 5 = mkF m 0 #[.val (.ref x0), .val (.int (1 : Int32)), .unset, .unset, .unset] [] := by first | (simp [entryFrame, mkF, argsToLocals, Value.category]; done) | rfl
def Qrp1 (Z : State) (x0 : Addr) (h0 : Heap) (n0 : Nat) (vE : Option Value) (hE : Heap) (LE : List Loc) : Prop := vE = some (.ref x0) ∧ Fr n0 LE ∧ hE = h0
set_option maxRecDepth 65536 in
set_option maxHeartbeats 40000000 in
theorem rmrp1 (l : Launch) (Z : State) (a0 : Array Value) (hw : ∀ d ∈ tables_1, d.before a0 Z = true) (ws : List Jvm.Cond) (x0 : Addr) (h0 : Heap) (n0 : Nat) (Z0 : n0 ≤ h0.size) :
    MetFree l (⟨"java/lang/String", "repeat", "(I)Ljava/lang/String;"⟩ : MethodName) (head1 (Jvm.Cond.code (⟨"java/lang/String", "repeat", "(I)Ljava/lang/String;"⟩ : MethodName) jdk_42_method_145_code 5 (some (.object "java/lang/String")) :: ws) ({ frames := 0, cells := 0, slots := 0, locals := 0 } : Room)) (fun a U => a = #[(.ref x0), (.int (1 : Int32))] ∧ Z.Warmed39 U.vm ∧ U.heap = h0) (fun _ _ _ _ _ => True) (fun _ U o U' => ∃ vE LE, o = .returned vE ∧ Qrp1 Z x0 h0 n0 vE U'.heap LE ∧ FrameEnd U o U' LE ({ frames := 0, cells := 0, slots := 0, locals := 0 } : Room).cells ({ frames := 0, cells := 0, slots := 0, locals := 0 } : Room).slots) := by
  refine MetFree.of_bodySF (plainFor_of_name pn_1) hisR ?_
  intro p e s m args below meth c s₁ Bd hml0 hP hK
  obtain ⟨rfl, hZ, hh⟩ := hP
  have hx := Bd.exec
  have hby := Bd.bytes
  have hml : c.maxLocals = 5 := hml0
  have hown : s.vm.findClass "java/lang/String" = some m.cls := findClass_of_methodNamed Bd.named
  have hnm := (name_of_methodNamed Bd.named Bd.method).1
  have hlk : meth.locks = false := BodyLoose.notSynchronized Bd
  have X0 : Stand p l e ({ frames := 0, cells := 0, slots := 0, locals := 0 } : Room) s m #[(.ref x0), (.int (1 : Int32))] below meth c s₁ [] 0 0 := Stand.of_body Bd
  have e0 : s₁.heap = h0 := by rw [← hh, Bd.state]; rfl
  have N0 := Fr.nil n0
  obtain ⟨sE, hsE⟩ : ∃ z, z = (s₁.setTop (entryFrame m #[(.ref x0), (.int (1 : Int32))] 5)) := ⟨_, rfl⟩
  have st0 : Steps p.tables e below sE (s₁.setTop (mkF m 0 #[.val (.ref x0), .val (.int (1 : Int32)), .unset, .unset, .unset] [])) := by rw [hsE]; exact castTop (ef_rp1 m x0) (Steps.refl _)
  have st1 : Steps p.tables e below sE (s₁.setTop (mkF m 1 #[.val (.ref x0), .val (.int (1 : Int32)), .unset, .unset, .unset] [(.int (1 : Int32))])) := st0.trans (by
      show Steps _ _ _ (s₁.setTop (mkF m 0 #[.val (.ref x0), .val (.int (1 : Int32)), .unset, .unset, .unset] [])) _
      refine XS.iloadN X0.here hx rfl (hb hby d5_0) rfl ?_
      exact Steps.refl _)
  have hf2 : ¬ ((1 : Int32) < (0 : Int32)) := by decide
  have st3 : Steps p.tables e below sE (s₁.setTop (mkF m 34 #[.val (.ref x0), .val (.int (1 : Int32)), .unset, .unset, .unset] [(.int (1 : Int32)), (.int (1 : Int32))])) := st1.trans (by
      show Steps _ _ _ (s₁.setTop (mkF m 1 #[.val (.ref x0), .val (.int (1 : Int32)), .unset, .unset, .unset] [(.int (1 : Int32))])) _
      refine XS.ifYes X0.here hx rfl (pc0 := 1) (pc' := 32) rfl (hb hby d5_1) rfl ((if0 _ _).trans (flt hf2).2.1) (by decide) (by decide) ?_
      show Steps _ _ _ (s₁.setTop (mkF m 32 #[.val (.ref x0), .val (.int (1 : Int32)), .unset, .unset, .unset] [])) _
      refine XS.iloadN X0.here hx rfl (hb hby d5_32) rfl ?_
      show Steps _ _ _ (s₁.setTop (mkF m 33 #[.val (.ref x0), .val (.int (1 : Int32)), .unset, .unset, .unset] [(.int (1 : Int32))])) _
      refine XS.iconst X0.here hx rfl (hb hby d5_33) ?_
      exact Steps.refl _)
  have hf4 : (1 : Int32) = (1 : Int32) := by decide
  have st5 : Steps p.tables e below sE (s₁.setTop (mkF m 38 #[.val (.ref x0), .val (.int (1 : Int32)), .unset, .unset, .unset] [(.ref x0)])) := st3.trans (by
      show Steps _ _ _ (s₁.setTop (mkF m 34 #[.val (.ref x0), .val (.int (1 : Int32)), .unset, .unset, .unset] [(.int (1 : Int32)), (.int (1 : Int32))])) _
      refine XS.icmpNo X0.here hx rfl (hb hby d5_34) rfl (teq hf4).2 ?_
      show Steps _ _ _ (s₁.setTop (mkF m 37 #[.val (.ref x0), .val (.int (1 : Int32)), .unset, .unset, .unset] [])) _
      refine XS.aloadN X0.here hx rfl (hb hby d5_37) rfl rfl ?_
      exact Steps.refl _)
  obtain ⟨fs, hr, hrun, hended, hW, hsame⟩ := X0.leave (v := some (.ref x0)) (fun h => by rw [Bd.returns] at h; cases h) hlk
  refine ⟨_, _, (own_ent hsE st5).trans ?_, hrun, hended, _, _, rfl, ?_, ⟨_, rfl⟩, hW, hsame.mono (by decide) (by decide)⟩
  · exact retOut X0 hx (t := (.object "java/lang/String")) Bd.returns rfl (Or.inr (Or.inr (Or.inr (Or.inr ⟨rfl, rfl, rfl⟩)))) (hb hby d5_38) hr
  · show Qrp1 Z x0 h0 n0 _ s₁.heap _
    rw [e0]
    exact ⟨rfl, N0, rfl⟩
theorem own_rp (x : Int32) (h : 2 ≤ x.toInt ∧ x.toInt ≤ 2047) : ¬ x < 0 ∧ ¬ x = (1 : Int32) ∧ ¬ x = (0 : Int32) ∧ ¬ ((2147483647 : Int32) / x) < (3 : Int32) ∧ ((3 : Int32) * x).toInt = 3 * x.toInt := by
  have e1 := c_imul 3 x
  have r1 := rng32 (3 * x)
  rw [show (3 : Int32).toInt = 3 by decide] at e1
  refine ⟨own_nn x (by omega), fun q => by rw [q] at h; exact absurd h (by decide), fun q => by rw [q] at h; exact absurd h (by decide), fun q => ?_, by omega⟩
  rw [Int32.lt_iff_toInt_lt, Int32.toInt_div_of_ne_left _ _ (by decide), show (2147483647 : Int32).toInt = 2147483647 by decide, show (3 : Int32).toInt = 3 by decide] at q
  have hd : (2147483647 : Int).tdiv x.toInt = 2147483647 / x.toInt := Int.tdiv_eq_ediv_of_nonneg (by decide)
  rw [hd] at q
  have : x.toInt * 3 ≤ 2147483647 := by omega
  have := Int.le_ediv_of_mul_le (show 0 < x.toInt by omega) (show 3 * x.toInt ≤ 2147483647 by omega)
  omega
theorem own_ofn (x : Int32) (h : 0 ≤ x.toInt) : Int32.ofNat x.toNatClampNeg = x := by
  apply Int32.toInt_inj.mp
  have r := rng32 x
  rw [Int32.toInt_ofNat_small (by simp only [Int32.toNatClampNeg]; omega)]
  simp only [Int32.toNatClampNeg]; omega
theorem own_c3 (LD : List Int32) (h : 3 ≤ LD.length) (i : Nat) : (own_cp ([(63 : Int32), (44 : Int32), (32 : Int32)] : List Int32) LD ((0 : Int32)).toNatClampNeg ((0 : Int32)).toNatClampNeg ((3 : Int32)).toNatClampNeg).getD (i % 3) 0 = own_ch i := by
  have hi : i % 3 < 3 := Nat.mod_lt _ (by decide)
  rw [show ((0 : Int32)).toNatClampNeg = 0 by decide, show ((3 : Int32)).toNatClampNeg = 3 by decide, own_cpg _ _ _ _ _ _ (by omega), if_pos (by omega)]
  unfold own_ch
  have : i % 3 = 0 ∨ i % 3 = 1 ∨ i % 3 = 2 := by omega
  rcases this with q | q | q <;> rw [q] <;> rfl
theorem pd_19 : parseMethodDescriptor "([BB)V" = some ⟨[(.array .byte), .byte], none⟩ := by decide +kernel
theorem d5_39 : decode jdk_42_method_145_code 39 = .ok (.aload_n 0, 1) := by decide +kernel
theorem d5_40 : decode jdk_42_method_145_code 40 = .ok (.getfield 9, 3) := by decide +kernel
theorem d5_43 : decode jdk_42_method_145_code 43 = .ok (.arraylength, 1) := by decide +kernel
theorem d5_44 : decode jdk_42_method_145_code 44 = .ok (.istore_n 2, 1) := by decide +kernel
theorem d5_45 : decode jdk_42_method_145_code 45 = .ok (.iload_n 2, 1) := by decide +kernel
theorem d5_46 : decode jdk_42_method_145_code 46 = .ok (.ifCond .eq 7, 3) := by decide +kernel
theorem d5_49 : decode jdk_42_method_145_code 49 = .ok (.iload_n 1, 1) := by decide +kernel
theorem d5_50 : decode jdk_42_method_145_code 50 = .ok (.ifCond .ne 6, 3) := by decide +kernel
theorem d5_56 : decode jdk_42_method_145_code 56 = .ok (.ldc_w 943, 3) := by decide +kernel
theorem d5_59 : decode jdk_42_method_145_code 59 = .ok (.iload_n 1, 1) := by decide +kernel
theorem d5_60 : decode jdk_42_method_145_code 60 = .ok (.idiv, 1) := by decide +kernel
theorem d5_61 : decode jdk_42_method_145_code 61 = .ok (.iload_n 2, 1) := by decide +kernel
theorem d5_62 : decode jdk_42_method_145_code 62 = .ok (.if_icmp .ge 14, 3) := by decide +kernel
theorem d5_76 : decode jdk_42_method_145_code 76 = .ok (.iload_n 2, 1) := by decide +kernel
theorem d5_77 : decode jdk_42_method_145_code 77 = .ok (.iconst 1, 1) := by decide +kernel
theorem d5_78 : decode jdk_42_method_145_code 78 = .ok (.if_icmp .ne 30, 3) := by decide +kernel
theorem d5_108 : decode jdk_42_method_145_code 108 = .ok (.iload_n 2, 1) := by decide +kernel
theorem d5_109 : decode jdk_42_method_145_code 109 = .ok (.iload_n 1, 1) := by decide +kernel
theorem d5_110 : decode jdk_42_method_145_code 110 = .ok (.imul, 1) := by decide +kernel
theorem d5_111 : decode jdk_42_method_145_code 111 = .ok (.istore_n 3, 1) := by decide +kernel
theorem d5_112 : decode jdk_42_method_145_code 112 = .ok (.iload_n 3, 1) := by decide +kernel
theorem d5_113 : decode jdk_42_method_145_code 113 = .ok (.newarray .byte, 2) := by decide +kernel
theorem d5_115 : decode jdk_42_method_145_code 115 = .ok (.astore 4, 2) := by decide +kernel
theorem d5_117 : decode jdk_42_method_145_code 117 = .ok (.aload_n 0, 1) := by decide +kernel
theorem d5_118 : decode jdk_42_method_145_code 118 = .ok (.getfield 9, 3) := by decide +kernel
theorem d5_121 : decode jdk_42_method_145_code 121 = .ok (.iconst 0, 1) := by decide +kernel
theorem d5_122 : decode jdk_42_method_145_code 122 = .ok (.aload 4, 2) := by decide +kernel
theorem d5_124 : decode jdk_42_method_145_code 124 = .ok (.iconst 0, 1) := by decide +kernel
theorem d5_125 : decode jdk_42_method_145_code 125 = .ok (.iload_n 2, 1) := by decide +kernel
theorem d5_126 : decode jdk_42_method_145_code 126 = .ok (.invokestatic 212, 3) := by decide +kernel
theorem d5_129 : decode jdk_42_method_145_code 129 = .ok (.aload 4, 2) := by decide +kernel
theorem d5_131 : decode jdk_42_method_145_code 131 = .ok (.iconst 0, 1) := by decide +kernel
theorem d5_132 : decode jdk_42_method_145_code 132 = .ok (.iload_n 3, 1) := by decide +kernel
theorem d5_133 : decode jdk_42_method_145_code 133 = .ok (.iload_n 2, 1) := by decide +kernel
theorem d5_134 : decode jdk_42_method_145_code 134 = .ok (.invokestatic 1044, 3) := by decide +kernel
theorem d5_137 : decode jdk_42_method_145_code 137 = .ok (.new 10, 3) := by decide +kernel
theorem d5_140 : decode jdk_42_method_145_code 140 = .ok (.dup, 1) := by decide +kernel
theorem d5_141 : decode jdk_42_method_145_code 141 = .ok (.aload 4, 2) := by decide +kernel
theorem d5_143 : decode jdk_42_method_145_code 143 = .ok (.aload_n 0, 1) := by decide +kernel
theorem d5_144 : decode jdk_42_method_145_code 144 = .ok (.getfield 15, 3) := by decide +kernel
theorem d5_147 : decode jdk_42_method_145_code 147 = .ok (.invokespecial 209, 3) := by decide +kernel
theorem d5_150 : decode jdk_42_method_145_code 150 = .ok (.areturn, 1) := by decide +kernel
theorem ef_rpN (m : MethodId) (x0 : Addr) (x1 : Int32)  : entryFrame m #[(.ref x0), (.int x1)] 5 = mkF m 0 #[.val (.ref x0), .val (.int x1), .unset, .unset, .unset] [] := by first | (simp [entryFrame, mkF, argsToLocals, Value.category]; done) | rfl
def QrpN (Z : State) (x0 : Addr) (x1 : Int32) (b : Addr) (ka : ClassId) (h0 : Heap) (n0 : Nat) (vE : Option Value) (hE : Heap) (LE : List Loc) : Prop := ∃ rE : Addr, vE = some (.ref rE) ∧ Fr n0 LE ∧ Keep h0 hE [] ∧ (∃ (bN : Addr) (kN : ClassId) (LN : List Int32), Exa Z hE rE "java/lang/String" ∧ Fld Z hE rE "java/lang/String" "coder" "B" (.int (0 : Int32)) ∧ Fld Z hE rE "java/lang/String" "value" "[B" (.ref bN) ∧ Arv Z hE bN kN .byte ((3 : Int32) * x1) (List.map Value.int LN) (.int (0 : Int32)) ∧ (∀ i, i < ((3 : Int32) * x1).toNatClampNeg → LN.getD i 0 = own_ch i) ∧ n0 ≤ rE ∧ n0 ≤ bN ∧ h0.size ≤ rE ∧ h0.size ≤ bN)
set_option maxRecDepth 65536 in
set_option maxHeartbeats 40000000 in
theorem rmrpN (l : Launch) (Z : State) (a0 : Array Value) (hw : ∀ d ∈ tables_1, d.before a0 Z = true) (ws : List Jvm.Cond) (x0 : Addr) (x1 : Int32) (b : Addr) (ka : ClassId) (h0 : Heap) (n0 : Nat) (Z0 : n0 ≤ h0.size) (E_x : Exa Z h0 x0 "java/lang/String") (F_v : Fld Z h0 x0 "java/lang/String" "value" "[B" (.ref b)) (F_c : Fld Z h0 x0 "java/lang/String" "coder" "B" (.int (0 : Int32))) (A_b : Arv Z h0 b ka .byte (3 : Int32) [(.int (63 : Int32)), (.int (44 : Int32)), (.int (32 : Int32))] (.int (0 : Int32))) (hxc : 2 ≤ x1.toInt ∧ x1.toInt ≤ 2047) :
    MetFree l (⟨"java/lang/String", "repeat", "(I)Ljava/lang/String;"⟩ : MethodName) (head1 (Jvm.Cond.code (⟨"java/lang/String", "repeat", "(I)Ljava/lang/String;"⟩ : MethodName) jdk_42_method_145_code 5 (some (.object "java/lang/String")) :: ws) ({ frames := 3, cells := 2, slots := 6145, locals := 95 } : Room)) (fun a U => a = #[(.ref x0), (.int x1)] ∧ Z.Warmed39 U.vm ∧ U.heap = h0) (fun _ _ _ _ _ => True) (fun _ U o U' => ∃ vE LE, o = .returned vE ∧ QrpN Z x0 x1 b ka h0 n0 vE U'.heap LE ∧ FrameEnd U o U' LE ({ frames := 3, cells := 2, slots := 6145, locals := 95 } : Room).cells ({ frames := 3, cells := 2, slots := 6145, locals := 95 } : Room).slots) := by
  refine MetFree.of_bodySF (plainFor_of_name pn_1) hisR ?_
  intro p e s m args below meth c s₁ Bd hml0 hP hK
  obtain ⟨rfl, hZ, hh⟩ := hP
  have hx := Bd.exec
  have hby := Bd.bytes
  have hml : c.maxLocals = 5 := hml0
  have hown : s.vm.findClass "java/lang/String" = some m.cls := findClass_of_methodNamed Bd.named
  have hnm := (name_of_methodNamed Bd.named Bd.method).1
  have hlk : meth.locks = false := BodyLoose.notSynchronized Bd
  have X0 : Stand p l e ({ frames := 3, cells := 2, slots := 6145, locals := 95 } : Room) s m #[(.ref x0), (.int x1)] below meth c s₁ [] 0 0 := Stand.of_body Bd
  have e0 : s₁.heap = h0 := by rw [← hh, Bd.state]; rfl
  have N0 := Fr.nil n0
  obtain ⟨sE, hsE⟩ : ∃ z, z = (s₁.setTop (entryFrame m #[(.ref x0), (.int x1)] 5)) := ⟨_, rfl⟩
  have st0 : Steps p.tables e below sE (s₁.setTop (mkF m 0 #[.val (.ref x0), .val (.int x1), .unset, .unset, .unset] [])) := by rw [hsE]; exact castTop (ef_rpN m x0 x1) (Steps.refl _)
  have K0 : Keep h0 h0 [] := Keep.refl _ _
  have st1 : Steps p.tables e below sE (s₁.setTop (mkF m 1 #[.val (.ref x0), .val (.int x1), .unset, .unset, .unset] [(.int x1)])) := st0.trans (by
      show Steps _ _ _ (s₁.setTop (mkF m 0 #[.val (.ref x0), .val (.int x1), .unset, .unset, .unset] [])) _
      refine XS.iloadN X0.here hx rfl (hb hby d5_0) rfl ?_
      exact Steps.refl _)
  have hf2 : ¬ (x1 < (0 : Int32)) := (own_rp x1 hxc).1
  have st3 : Steps p.tables e below sE (s₁.setTop (mkF m 34 #[.val (.ref x0), .val (.int x1), .unset, .unset, .unset] [(.int (1 : Int32)), (.int x1)])) := st1.trans (by
      show Steps _ _ _ (s₁.setTop (mkF m 1 #[.val (.ref x0), .val (.int x1), .unset, .unset, .unset] [(.int x1)])) _
      refine XS.ifYes X0.here hx rfl (pc0 := 1) (pc' := 32) rfl (hb hby d5_1) rfl ((if0 _ _).trans (flt hf2).2.1) (by decide) (by decide) ?_
      show Steps _ _ _ (s₁.setTop (mkF m 32 #[.val (.ref x0), .val (.int x1), .unset, .unset, .unset] [])) _
      refine XS.iloadN X0.here hx rfl (hb hby d5_32) rfl ?_
      show Steps _ _ _ (s₁.setTop (mkF m 33 #[.val (.ref x0), .val (.int x1), .unset, .unset, .unset] [(.int x1)])) _
      refine XS.iconst X0.here hx rfl (hb hby d5_33) ?_
      exact Steps.refl _)
  have hf4 : ¬ (x1 = (1 : Int32)) := (own_rp x1 hxc).2.1
  have st5 : Steps p.tables e below sE (s₁.setTop (mkF m 40 #[.val (.ref x0), .val (.int x1), .unset, .unset, .unset] [(.ref x0)])) := st3.trans (by
      show Steps _ _ _ (s₁.setTop (mkF m 34 #[.val (.ref x0), .val (.int x1), .unset, .unset, .unset] [(.int (1 : Int32)), (.int x1)])) _
      refine XS.icmpYes X0.here hx rfl (pc0 := 34) (pc' := 39) rfl (hb hby d5_34) rfl (feq hf4).2 (by decide) (by decide) ?_
      show Steps _ _ _ (s₁.setTop (mkF m 39 #[.val (.ref x0), .val (.int x1), .unset, .unset, .unset] [])) _
      refine XS.aloadN X0.here hx rfl (hb hby d5_39) rfl rfl ?_
      exact Steps.refl _)
  obtain ⟨T6, X6, e6, sr6⟩ := getF X0 hx hZ hown (host := "") (Or.inl (hw _ (List.mem_of_getElem? (i := 37) rfl))) Via.refl e0 F_v (g := (mkF m 40 #[.val (.ref x0), .val (.int x1), .unset, .unset, .unset] [(.ref x0)])) rfl rfl (hb hby d5_40)
  have st7 : Steps p.tables e below sE (T6.setTop (mkF m 43 #[.val (.ref x0), .val (.int x1), .unset, .unset, .unset] [(.ref b)])) := st5.trans (sr6 _ (Steps.refl _))
  obtain ⟨cl8, Ar8, -, S8, N8, -, -⟩ := id A_b
  have st9 : Steps p.tables e below sE (T6.setTop (mkF m 46 #[.val (.ref x0), .val (.int x1), .val (.int (3 : Int32)), .unset, .unset] [(.int (3 : Int32))])) := st7.trans (by
      show Steps _ _ _ (T6.setTop (mkF m 43 #[.val (.ref x0), .val (.int x1), .unset, .unset, .unset] [(.ref b)])) _
      refine X6.arraylength hx (by rw [e6]; exact Ar8.1) (State.isArrayOf_alike hZ.alike Ar8.2.1) (g := (mkF m 43 #[.val (.ref x0), .val (.int x1), .unset, .unset, .unset] [(.ref b)])) rfl rfl (hb hby d5_43) _ ?_
      rw [len_of S8 N8]
      show Steps _ _ _ (T6.setTop (mkF m 44 #[.val (.ref x0), .val (.int x1), .unset, .unset, .unset] [(.int (3 : Int32))])) _
      refine XS.istoreN X6.here hx rfl (hb hby d5_44) rfl (l' := #[.val (.ref x0), .val (.int x1), .val (.int (3 : Int32)), .unset, .unset]) rfl ?_
      show Steps _ _ _ (T6.setTop (mkF m 45 #[.val (.ref x0), .val (.int x1), .val (.int (3 : Int32)), .unset, .unset] [])) _
      refine XS.iloadN X6.here hx rfl (hb hby d5_45) rfl ?_
      exact Steps.refl _)
  have hf10 : ¬ ((3 : Int32) = (0 : Int32)) := by decide
  have st11 : Steps p.tables e below sE (T6.setTop (mkF m 50 #[.val (.ref x0), .val (.int x1), .val (.int (3 : Int32)), .unset, .unset] [(.int x1)])) := st9.trans (by
      show Steps _ _ _ (T6.setTop (mkF m 46 #[.val (.ref x0), .val (.int x1), .val (.int (3 : Int32)), .unset, .unset] [(.int (3 : Int32))])) _
      refine XS.ifNo X6.here hx rfl (hb hby d5_46) rfl ((if0 _ _).trans (feq hf10).1) ?_
      show Steps _ _ _ (T6.setTop (mkF m 49 #[.val (.ref x0), .val (.int x1), .val (.int (3 : Int32)), .unset, .unset] [])) _
      refine XS.iloadN X6.here hx rfl (hb hby d5_49) rfl ?_
      exact Steps.refl _)
  have hf12 : ¬ (x1 = (0 : Int32)) := (own_rp x1 hxc).2.2.1
  have st13 : Steps p.tables e below sE (T6.setTop (mkF m 62 #[.val (.ref x0), .val (.int x1), .val (.int (3 : Int32)), .unset, .unset] [(.int (3 : Int32)), (.int ((2147483647 : Int32) / x1))])) := st11.trans (by
      show Steps _ _ _ (T6.setTop (mkF m 50 #[.val (.ref x0), .val (.int x1), .val (.int (3 : Int32)), .unset, .unset] [(.int x1)])) _
      refine XS.ifYes X6.here hx rfl (pc0 := 50) (pc' := 56) rfl (hb hby d5_50) rfl ((if0 _ _).trans (feq hf12).2) (by decide) (by decide) ?_
      show Steps _ _ _ (T6.setTop (mkF m 56 #[.val (.ref x0), .val (.int x1), .val (.int (3 : Int32)), .unset, .unset] [])) _
      refine X6.ldcwInt hx hown (mvT hZ (hw _ (List.mem_of_getElem? (i := 164) rfl))) (g := (mkF m 56 #[.val (.ref x0), .val (.int x1), .val (.int (3 : Int32)), .unset, .unset] [])) rfl (hb hby d5_56) _ ?_
      show Steps _ _ _ (T6.setTop (mkF m 59 #[.val (.ref x0), .val (.int x1), .val (.int (3 : Int32)), .unset, .unset] [(.int (2147483647 : Int32))])) _
      refine XS.iloadN X6.here hx rfl (hb hby d5_59) rfl ?_
      show Steps _ _ _ (T6.setTop (mkF m 60 #[.val (.ref x0), .val (.int x1), .val (.int (3 : Int32)), .unset, .unset] [(.int x1), (.int (2147483647 : Int32))])) _
      refine XS.idiv X6.here hx rfl (hb hby d5_60) rfl (own_rp x1 hxc).2.2.1 ?_
      show Steps _ _ _ (T6.setTop (mkF m 61 #[.val (.ref x0), .val (.int x1), .val (.int (3 : Int32)), .unset, .unset] [(.int ((2147483647 : Int32) / x1))])) _
      refine XS.iloadN X6.here hx rfl (hb hby d5_61) rfl ?_
      exact Steps.refl _)
  have hf14 : ¬ (((2147483647 : Int32) / x1) < (3 : Int32)) := (own_rp x1 hxc).2.2.2.1
  have st15 : Steps p.tables e below sE (T6.setTop (mkF m 78 #[.val (.ref x0), .val (.int x1), .val (.int (3 : Int32)), .unset, .unset] [(.int (1 : Int32)), (.int (3 : Int32))])) := st13.trans (by
      show Steps _ _ _ (T6.setTop (mkF m 62 #[.val (.ref x0), .val (.int x1), .val (.int (3 : Int32)), .unset, .unset] [(.int (3 : Int32)), (.int ((2147483647 : Int32) / x1))])) _
      refine XS.icmpYes X6.here hx rfl (pc0 := 62) (pc' := 76) rfl (hb hby d5_62) rfl (flt hf14).2.1 (by decide) (by decide) ?_
      show Steps _ _ _ (T6.setTop (mkF m 76 #[.val (.ref x0), .val (.int x1), .val (.int (3 : Int32)), .unset, .unset] [])) _
      refine XS.iloadN X6.here hx rfl (hb hby d5_76) rfl ?_
      show Steps _ _ _ (T6.setTop (mkF m 77 #[.val (.ref x0), .val (.int x1), .val (.int (3 : Int32)), .unset, .unset] [(.int (3 : Int32))])) _
      refine XS.iconst X6.here hx rfl (hb hby d5_77) ?_
      exact Steps.refl _)
  have hf16 : ¬ ((3 : Int32) = (1 : Int32)) := by decide
  have st17 : Steps p.tables e below sE (T6.setTop (mkF m 111 #[.val (.ref x0), .val (.int x1), .val (.int (3 : Int32)), .unset, .unset] [(.int ((3 : Int32) * x1))])) := st15.trans (by
      show Steps _ _ _ (T6.setTop (mkF m 78 #[.val (.ref x0), .val (.int x1), .val (.int (3 : Int32)), .unset, .unset] [(.int (1 : Int32)), (.int (3 : Int32))])) _
      refine XS.icmpYes X6.here hx rfl (pc0 := 78) (pc' := 108) rfl (hb hby d5_78) rfl (feq hf16).2 (by decide) (by decide) ?_
      show Steps _ _ _ (T6.setTop (mkF m 108 #[.val (.ref x0), .val (.int x1), .val (.int (3 : Int32)), .unset, .unset] [])) _
      refine XS.iloadN X6.here hx rfl (hb hby d5_108) rfl ?_
      show Steps _ _ _ (T6.setTop (mkF m 109 #[.val (.ref x0), .val (.int x1), .val (.int (3 : Int32)), .unset, .unset] [(.int (3 : Int32))])) _
      refine XS.iloadN X6.here hx rfl (hb hby d5_109) rfl ?_
      show Steps _ _ _ (T6.setTop (mkF m 110 #[.val (.ref x0), .val (.int x1), .val (.int (3 : Int32)), .unset, .unset] [(.int x1), (.int (3 : Int32))])) _
      refine XS.imul X6.here hx rfl (hb hby d5_110) rfl ?_
      exact Steps.refl _)
  have hrp := own_rp x1 hxc
  obtain ⟨lim, e_lim⟩ : ∃ z, z = ((3 : Int32) * x1) := ⟨_, rfl⟩
  rw [← e_lim] at st17
  have hlm : lim.toInt = 3 * x1.toInt := by rw [e_lim]; exact hrp.2.2.2.2
  have hl0 : ¬ lim < 0 := own_nn lim (by omega)
  have hlt := own_tn lim (by omega)
  have hlo : lim = Int32.ofNat lim.toNatClampNeg := (own_ofn lim (by omega)).symm
  have st18 : Steps p.tables e below sE (T6.setTop (mkF m 113 #[.val (.ref x0), .val (.int x1), .val (.int (3 : Int32)), .val (.int lim), .unset] [(.int lim)])) := st17.trans (by
      show Steps _ _ _ (T6.setTop (mkF m 111 #[.val (.ref x0), .val (.int x1), .val (.int (3 : Int32)), .unset, .unset] [(.int lim)])) _
      refine XS.istoreN X6.here hx rfl (hb hby d5_111) rfl (l' := #[.val (.ref x0), .val (.int x1), .val (.int (3 : Int32)), .val (.int lim), .unset]) rfl ?_
      show Steps _ _ _ (T6.setTop (mkF m 112 #[.val (.ref x0), .val (.int x1), .val (.int (3 : Int32)), .val (.int lim), .unset] [])) _
      refine XS.iloadN X6.here hx rfl (hb hby d5_112) rfl ?_
      exact Steps.refl _)
  obtain ⟨T19, h19, k19, X19, e19, E19, A19, Q19, sr19⟩ := newPE X6 hx hZ (hw _ (List.mem_of_getElem? (i := 21) rfl)) e6 (g := (mkF m 113 #[.val (.ref x0), .val (.int x1), .val (.int (3 : Int32)), .val (.int lim), .unset] [(.int lim)])) rfl (hb hby d5_113) rfl hl0 (cap := 6141) (by omega) (by decide) (by decide) (by decide) (ad := "[B") (by decide)
  obtain ⟨b19, g19⟩ : ∃ z, z = h0.size := ⟨_, rfl⟩
  rw [← g19] at A19 Q19 sr19
  have g_b19 : n0 ≤ b19 := Nat.le_trans Z0 (Nat.le_of_eq g19.symm)
  have sz_b19 : h0.size ≤ b19 := Nat.le_trans K0.1 (Nat.le_of_eq g19.symm)
  have ne_x0_b19 : x0 ≠ b19 := Nat.ne_of_lt (Nat.lt_of_lt_of_le E_x.lt (Nat.le_of_eq g19.symm))
  have ne_b_b19 : b ≠ b19 := Nat.ne_of_lt (Nat.lt_of_lt_of_le A_b.lt (Nat.le_of_eq g19.symm))
  have f20 : Exa Z h19 x0 "java/lang/String" := E_x.ext E19
  have f21 : Fld Z h19 x0 "java/lang/String" "value" "[B" (.ref b) := F_v.ext E19
  have f22 : Fld Z h19 x0 "java/lang/String" "coder" "B" (.int (0 : Int32)) := F_c.ext E19
  have f23 : Arv Z h19 b ka .byte (3 : Int32) [(.int (63 : Int32)), (.int (44 : Int32)), (.int (32 : Int32))] (.int (0 : Int32)) := A_b.ext E19
  have K24 : Keep h0 h19 [] := K0.ext E19
  have f25 : Arv Z h19 b19 k19 .byte lim (List.map Value.int (List.replicate (lim).toNatClampNeg (0 : Int32))) (.int (0 : Int32)) := (Arv.new A19 hl0).pad (own_padz _)
  have Z19 : n0 ≤ h19.size := Nat.le_trans Z0 E19.1
  have st26 : Steps p.tables e below sE (T19.setTop (mkF m 115 #[.val (.ref x0), .val (.int x1), .val (.int (3 : Int32)), .val (.int lim), .unset] [(.ref b19)])) := st18.trans (sr19 _ (Steps.refl _))
  have st27 : Steps p.tables e below sE (T19.setTop (mkF m 118 #[.val (.ref x0), .val (.int x1), .val (.int (3 : Int32)), .val (.int lim), .val (.ref b19)] [(.ref x0)])) := st26.trans (by
      show Steps _ _ _ (T19.setTop (mkF m 115 #[.val (.ref x0), .val (.int x1), .val (.int (3 : Int32)), .val (.int lim), .unset] [(.ref b19)])) _
      refine XS.astore X19.here hx rfl (hb hby d5_115) rfl rfl (l' := #[.val (.ref x0), .val (.int x1), .val (.int (3 : Int32)), .val (.int lim), .val (.ref b19)]) rfl ?_
      show Steps _ _ _ (T19.setTop (mkF m 117 #[.val (.ref x0), .val (.int x1), .val (.int (3 : Int32)), .val (.int lim), .val (.ref b19)] [])) _
      refine XS.aloadN X19.here hx rfl (hb hby d5_117) rfl rfl ?_
      exact Steps.refl _)
  obtain ⟨T28, X28, e28, sr28⟩ := getF X19 hx hZ hown (host := "") (Or.inl (hw _ (List.mem_of_getElem? (i := 37) rfl))) Via.refl e19 f21 (g := (mkF m 118 #[.val (.ref x0), .val (.int x1), .val (.int (3 : Int32)), .val (.int lim), .val (.ref b19)] [(.ref x0)])) rfl rfl (hb hby d5_118)
  have st29 : Steps p.tables e below sE (T28.setTop (mkF m 121 #[.val (.ref x0), .val (.int x1), .val (.int (3 : Int32)), .val (.int lim), .val (.ref b19)] [(.ref b)])) := st27.trans (sr28 _ (Steps.refl _))
  have st30 : Steps p.tables e below sE (T28.setTop (mkF m 126 #[.val (.ref x0), .val (.int x1), .val (.int (3 : Int32)), .val (.int lim), .val (.ref b19)] [(.int (3 : Int32)), (.int (0 : Int32)), (.ref b19), (.int (0 : Int32)), (.ref b)])) := st29.trans (by
      show Steps _ _ _ (T28.setTop (mkF m 121 #[.val (.ref x0), .val (.int x1), .val (.int (3 : Int32)), .val (.int lim), .val (.ref b19)] [(.ref b)])) _
      refine XS.iconst X28.here hx rfl (hb hby d5_121) ?_
      show Steps _ _ _ (T28.setTop (mkF m 122 #[.val (.ref x0), .val (.int x1), .val (.int (3 : Int32)), .val (.int lim), .val (.ref b19)] [(.int (0 : Int32)), (.ref b)])) _
      refine XS.aload X28.here hx rfl (hb hby d5_122) rfl rfl ?_
      show Steps _ _ _ (T28.setTop (mkF m 124 #[.val (.ref x0), .val (.int x1), .val (.int (3 : Int32)), .val (.int lim), .val (.ref b19)] [(.ref b19), (.int (0 : Int32)), (.ref b)])) _
      refine XS.iconst X28.here hx rfl (hb hby d5_124) ?_
      show Steps _ _ _ (T28.setTop (mkF m 125 #[.val (.ref x0), .val (.int x1), .val (.int (3 : Int32)), .val (.int lim), .val (.ref b19)] [(.int (0 : Int32)), (.ref b19), (.int (0 : Int32)), (.ref b)])) _
      refine XS.iloadN X28.here hx rfl (hb hby d5_125) rfl ?_
      exact Steps.refl _)
  obtain ⟨T31, h31, LL31, X31, e31, N31, K31, V31, sr31⟩ := cpA X28 hx hZ hown (hw _ (List.mem_of_getElem? (i := 84) rfl)) (hw _ (List.mem_of_getElem? (i := 87) rfl)) (hw _ (List.mem_of_getElem? (i := 85) rfl)) (hw _ (List.mem_of_getElem? (i := 86) rfl)) e28 f23 f25 (Or.inl ⟨rfl, rfl⟩) (by decide) (by decide) (by decide) (by decide) (by show 0 + 3 ≤ _; omega) rfl (by rw [List.length_map, List.length_replicate]; show 0 + 3 ≤ _; omega) N0 g_b19 (g := (mkF m 126 #[.val (.ref x0), .val (.int x1), .val (.int (3 : Int32)), .val (.int lim), .val (.ref b19)] [(.int (3 : Int32)), (.int (0 : Int32)), (.ref b19), (.int (0 : Int32)), (.ref b)])) rfl (by rw [hml]; rfl) rfl (hb hby d5_126) (by decide) (W := 0) (by show 2 * 0 + _ ≤ _; exact Nat.le_of_eq rfl) (by decide)
  have f32 : Exa Z h31 x0 "java/lang/String" := f20.keep K31
  have f33 : Fld Z h31 x0 "java/lang/String" "value" "[B" (.ref b) := f21.keep K31 (ninS ne_x0_b19 nin0)
  have f34 : Fld Z h31 x0 "java/lang/String" "coder" "B" (.int (0 : Int32)) := f22.keep K31 (ninS ne_x0_b19 nin0)
  have f35 : Arv Z h31 b ka .byte (3 : Int32) [(.int (63 : Int32)), (.int (44 : Int32)), (.int (32 : Int32))] (.int (0 : Int32)) := f23.keep K31 (ninS ne_b_b19 nin0)
  have f36 : Exa Z h31 b19 "[B" := Q19.keep K31
  have K37 : Keep h0 h31 [] := K24.trans K31 (allS (Or.inr sz_b19) all0)
  have Z38 : n0 ≤ h31.size := Nat.le_trans Z19 K31.1
  have f39 : Arv Z h31 b19 k19 .byte lim (List.map Value.int (own_cp ([(63 : Int32), (44 : Int32), (32 : Int32)] : List Int32) (List.replicate (lim).toNatClampNeg (0 : Int32)) ((0 : Int32)).toNatClampNeg ((0 : Int32)).toNatClampNeg ((3 : Int32)).toNatClampNeg)) (.int (0 : Int32)) := (by rw [← own_cpv]; exact V31)
  have st40 : Steps p.tables e below sE (T31.setTop (mkF m 129 #[.val (.ref x0), .val (.int x1), .val (.int (3 : Int32)), .val (.int lim), .val (.ref b19)] [])) := st30.trans (sr31 _ (Steps.refl _))
  have st41 : Steps p.tables e below sE (T31.setTop (mkF m 134 #[.val (.ref x0), .val (.int x1), .val (.int (3 : Int32)), .val (.int lim), .val (.ref b19)] [(.int (3 : Int32)), (.int lim), (.int (0 : Int32)), (.ref b19)])) := st40.trans (by
      show Steps _ _ _ (T31.setTop (mkF m 129 #[.val (.ref x0), .val (.int x1), .val (.int (3 : Int32)), .val (.int lim), .val (.ref b19)] [])) _
      refine XS.aload X31.here hx rfl (hb hby d5_129) rfl rfl ?_
      show Steps _ _ _ (T31.setTop (mkF m 131 #[.val (.ref x0), .val (.int x1), .val (.int (3 : Int32)), .val (.int lim), .val (.ref b19)] [(.ref b19)])) _
      refine XS.iconst X31.here hx rfl (hb hby d5_131) ?_
      show Steps _ _ _ (T31.setTop (mkF m 132 #[.val (.ref x0), .val (.int x1), .val (.int (3 : Int32)), .val (.int lim), .val (.ref b19)] [(.int (0 : Int32)), (.ref b19)])) _
      refine XS.iloadN X31.here hx rfl (hb hby d5_132) rfl ?_
      show Steps _ _ _ (T31.setTop (mkF m 133 #[.val (.ref x0), .val (.int x1), .val (.int (3 : Int32)), .val (.int lim), .val (.ref b19)] [(.int lim), (.int (0 : Int32)), (.ref b19)])) _
      refine XS.iloadN X31.here hx rfl (hb hby d5_133) rfl ?_
      exact Steps.refl _)
  obtain ⟨T42, h42, LL42, LR, X42, e42, N42, K42, V42, hLR, sr42⟩ := own_rcr X31 hx hZ hown (hw _ (List.mem_of_getElem? (i := 165) rfl)) (hw _ (List.mem_of_getElem? (i := 166) rfl)) (hw _ (List.mem_of_getElem? (i := 167) rfl)) (hw _ (List.mem_of_getElem? (i := 20) rfl)) (hw _ (List.mem_of_getElem? (i := 84) rfl)) (hw _ (List.mem_of_getElem? (i := 87) rfl)) (hw _ (List.mem_of_getElem? (i := 85) rfl)) (hw _ (List.mem_of_getElem? (i := 86) rfl)) e31 f39 (lim := lim.toNatClampNeg) (len := 3) rfl (by decide) (by omega) N31 g_b19 (g := (mkF m 134 #[.val (.ref x0), .val (.int x1), .val (.int (3 : Int32)), .val (.int lim), .val (.ref b19)] [(.int (3 : Int32)), (.int lim), (.int (0 : Int32)), (.ref b19)])) rfl (by rw [hml]; rfl) (rest := []) (by rw [← hlo]; rfl) (hb hby d5_134) (by decide) (W := 0) (by show 2 * 0 + _ ≤ _; exact Nat.le_of_eq rfl) (by decide) (by decide) (by decide)
  have f43 : Exa Z h42 x0 "java/lang/String" := f32.keep K42
  have f44 : Fld Z h42 x0 "java/lang/String" "value" "[B" (.ref b) := f33.keep K42 (ninS ne_x0_b19 nin0)
  have f45 : Fld Z h42 x0 "java/lang/String" "coder" "B" (.int (0 : Int32)) := f34.keep K42 (ninS ne_x0_b19 nin0)
  have f46 : Arv Z h42 b ka .byte (3 : Int32) [(.int (63 : Int32)), (.int (44 : Int32)), (.int (32 : Int32))] (.int (0 : Int32)) := f35.keep K42 (ninS ne_b_b19 nin0)
  have f47 : Exa Z h42 b19 "[B" := f36.keep K42
  have K48 : Keep h0 h42 [] := K37.trans K42 (allS (Or.inr sz_b19) all0)
  have Z49 : n0 ≤ h42.size := Nat.le_trans Z38 K42.1
  have st50 : Steps p.tables e below sE (T42.setTop (mkF m 137 #[.val (.ref x0), .val (.int x1), .val (.int (3 : Int32)), .val (.int lim), .val (.ref b19)] [])) := st41.trans (sr42 _ (Steps.refl _))
  obtain ⟨T51, h51, X51, e51, E51, A51, D51, -, sr51⟩ := newO X42 hx hZ hown (hw _ (List.mem_of_getElem? (i := 168) rfl)) (hw _ (List.mem_of_getElem? (i := 27) rfl)) (hw _ (List.mem_of_getElem? (i := 20) rfl)) e42 (g := (mkF m 137 #[.val (.ref x0), .val (.int x1), .val (.int (3 : Int32)), .val (.int lim), .val (.ref b19)] [])) rfl (hb hby d5_137) (by decide) (by decide)
  obtain ⟨b51, g51⟩ : ∃ z, z = h42.size := ⟨_, rfl⟩
  rw [← g51] at A51 D51 sr51
  have g_b51 : n0 ≤ b51 := Nat.le_trans Z49 (Nat.le_of_eq g51.symm)
  have sz_b51 : h0.size ≤ b51 := Nat.le_trans K48.1 (Nat.le_of_eq g51.symm)
  have ne_x0_b51 : x0 ≠ b51 := Nat.ne_of_lt (Nat.lt_of_lt_of_le f43.lt (Nat.le_of_eq g51.symm))
  have ne_b_b51 : b ≠ b51 := Nat.ne_of_lt (Nat.lt_of_lt_of_le f46.lt (Nat.le_of_eq g51.symm))
  have ne_b19_b51 : b19 ≠ b51 := Nat.ne_of_lt (Nat.lt_of_lt_of_le f47.lt (Nat.le_of_eq g51.symm))
  have f52 : Exa Z h51 x0 "java/lang/String" := f43.ext E51
  have f53 : Fld Z h51 x0 "java/lang/String" "value" "[B" (.ref b) := f44.ext E51
  have f54 : Fld Z h51 x0 "java/lang/String" "coder" "B" (.int (0 : Int32)) := f45.ext E51
  have f55 : Arv Z h51 b ka .byte (3 : Int32) [(.int (63 : Int32)), (.int (44 : Int32)), (.int (32 : Int32))] (.int (0 : Int32)) := f46.ext E51
  have f56 : Exa Z h51 b19 "[B" := f47.ext E51
  have f57 : Arv Z h51 b19 k19 .byte lim (List.map Value.int LR) (.int (0 : Int32)) := V42.ext E51
  have K58 : Keep h0 h51 [] := K48.ext E51
  have f59 : Fld Z h51 b51 "java/lang/String" "value" "[B" .null := D51 (Or.inr (hw _ (List.mem_of_getElem? (i := 28) rfl))) (ty := (.array .byte)) (by decide)
  have f60 : Fld Z h51 b51 "java/lang/String" "coder" "B" (.int (0 : Int32)) := D51 (Or.inr (hw _ (List.mem_of_getElem? (i := 29) rfl))) (ty := .byte) (by decide)
  have Z51 : n0 ≤ h51.size := Nat.le_trans Z49 E51.1
  have st61 : Steps p.tables e below sE (T51.setTop (mkF m 140 #[.val (.ref x0), .val (.int x1), .val (.int (3 : Int32)), .val (.int lim), .val (.ref b19)] [(.ref b51)])) := st50.trans (sr51 _ (Steps.refl _))
  have st62 : Steps p.tables e below sE (T51.setTop (mkF m 144 #[.val (.ref x0), .val (.int x1), .val (.int (3 : Int32)), .val (.int lim), .val (.ref b19)] [(.ref x0), (.ref b19), (.ref b51), (.ref b51)])) := st61.trans (by
      show Steps _ _ _ (T51.setTop (mkF m 140 #[.val (.ref x0), .val (.int x1), .val (.int (3 : Int32)), .val (.int lim), .val (.ref b19)] [(.ref b51)])) _
      refine XS.dup X51.here hx rfl (hb hby d5_140) rfl rfl ?_
      show Steps _ _ _ (T51.setTop (mkF m 141 #[.val (.ref x0), .val (.int x1), .val (.int (3 : Int32)), .val (.int lim), .val (.ref b19)] [(.ref b51), (.ref b51)])) _
      refine XS.aload X51.here hx rfl (hb hby d5_141) rfl rfl ?_
      show Steps _ _ _ (T51.setTop (mkF m 143 #[.val (.ref x0), .val (.int x1), .val (.int (3 : Int32)), .val (.int lim), .val (.ref b19)] [(.ref b19), (.ref b51), (.ref b51)])) _
      refine XS.aloadN X51.here hx rfl (hb hby d5_143) rfl rfl ?_
      exact Steps.refl _)
  obtain ⟨T63, X63, e63, sr63⟩ := getF X51 hx hZ hown (host := "") (Or.inl (hw _ (List.mem_of_getElem? (i := 60) rfl))) Via.refl e51 f54 (g := (mkF m 144 #[.val (.ref x0), .val (.int x1), .val (.int (3 : Int32)), .val (.int lim), .val (.ref b19)] [(.ref x0), (.ref b19), (.ref b51), (.ref b51)])) rfl rfl (hb hby d5_144)
  have st64 : Steps p.tables e below sE (T63.setTop (mkF m 147 #[.val (.ref x0), .val (.int x1), .val (.int (3 : Int32)), .val (.int lim), .val (.ref b19)] [(.int (0 : Int32)), (.ref b19), (.ref b51), (.ref b51)])) := st62.trans (sr63 _ (Steps.refl _))
  obtain ⟨_, _, ⟨T65, L65, k65, n65⟩, -, X65, ⟨Lc65, hQ65, l65, y65, z65⟩, sr65⟩ := X63.specialBack hx (y := (⟨"java/lang/String", "<init>", "([BB)V"⟩ : MethodName)) rfl hown (mvT hZ (hw _ (List.mem_of_getElem? (i := 169) rfl))) (mvT hZ (hw _ (List.mem_of_getElem? (i := 170) rfl))) (mvT hZ (hw _ (List.mem_of_getElem? (i := 171) rfl))) (by decide) (backOf (W := 1) (rmsbb l Z a0 hw [] b51 b19  h51 n0 Z51 A51 f59 f60 f56 g_b51 (Ne.symm ne_b19_b51)) hZ (hw _ (List.mem_of_getElem? (i := 171) rfl)) (hw _ (List.mem_of_getElem? (i := 20) rfl)) (by decide) (by decide)) (g := (mkF m 147 #[.val (.ref x0), .val (.int x1), .val (.int (3 : Int32)), .val (.int lim), .val (.ref b19)] [(.int (0 : Int32)), (.ref b19), (.ref b51), (.ref b51)])) rfl (by rw [hml]; rfl) (Steps.refl _) (a := b51) (argsL := [(.ref b19), (.int (0 : Int32))]) (rest := [(.ref b51)]) (lenOf pd_19 rfl) rfl (by show 2 * 0 + _ ≤ _; exact Nat.le_of_eq rfl) (hb hby d5_147) (fun _ _ => ⟨rfl, e63, (by decide : 2 + 0 ≤ _), (by decide : 6145 + 0 ≤ _)⟩)
  dsimp only [Pt.U, Pt.locs, Pt.cells, Pt.slots] at X65 l65 y65 z65 sr65 hQ65
  subst l65 y65 z65
  obtain ⟨rfl, N65q, K65c, f65_0, f65_1, f65_2⟩ := hQ65
  have N65 := Fr.app N42 N65q
  obtain ⟨LL65, X65, N65⟩ := own_hide X65 N65
  have f66 : Exa Z T65.heap x0 "java/lang/String" := f52.keep K65c
  have f67 : Fld Z T65.heap x0 "java/lang/String" "value" "[B" (.ref b) := f53.keep K65c (ninS ne_x0_b51 nin0)
  have f68 : Fld Z T65.heap x0 "java/lang/String" "coder" "B" (.int (0 : Int32)) := f54.keep K65c (ninS ne_x0_b51 nin0)
  have f69 : Arv Z T65.heap b ka .byte (3 : Int32) [(.int (63 : Int32)), (.int (44 : Int32)), (.int (32 : Int32))] (.int (0 : Int32)) := f55.keep K65c (ninS ne_b_b51 nin0)
  have f70 : Exa Z T65.heap b19 "[B" := f56.keep K65c
  have f71 : Arv Z T65.heap b19 k19 .byte lim (List.map Value.int LR) (.int (0 : Int32)) := f57.keep K65c (ninS ne_b19_b51 nin0)
  have f72 : Exa Z T65.heap b51 "java/lang/String" := A51.keep K65c
  have K73 : Keep h0 T65.heap [] := K58.trans K65c (allS (Or.inr sz_b51) all0)
  have Z74 : n0 ≤ T65.heap.size := Nat.le_trans Z51 K65c.1
  have st75 : Steps p.tables e below sE (T65.setTop (mkF m 150 #[.val (.ref x0), .val (.int x1), .val (.int (3 : Int32)), .val (.int lim), .val (.ref b19)] [(.ref b51)])) := st64.trans (sr65)
  obtain ⟨fs, hr, hrun, hended, hW, hsame⟩ := X65.leave (v := some (.ref b51)) (fun h => by rw [Bd.returns] at h; cases h) hlk
  refine ⟨_, _, (own_ent hsE st75).trans ?_, hrun, hended, _, _, rfl, ?_, ⟨_, rfl⟩, hW, hsame.mono (by decide) (by decide)⟩
  · exact retOut X65 hx (t := (.object "java/lang/String")) Bd.returns rfl (Or.inr (Or.inr (Or.inr (Or.inr ⟨rfl, rfl, rfl⟩)))) (hb hby d5_150) hr
  · show QrpN Z x0 x1 b ka h0 n0 _ T65.heap _
    exact ⟨b51, rfl, N65, K73, ⟨b19, _, LR, f65_0, f65_2, f65_1, by rw [← e_lim]; exact f71, by rw [← e_lim]; exact fun i hi => by rw [hLR i hi]; exact own_c3 _ (by rw [List.length_replicate]; omega) i, g_b51, g_b19, sz_b51, sz_b19⟩⟩
theorem own_wS {Z : State} {a0 : Array Value} (hw : ∀ d ∈ tables_1, d.before a0 Z = true) : ∀ a ∈ Bundle.stringAtoms, a.before a0 Z = true := fun a ha => by
  simp only [Bundle.stringAtoms, List.mem_cons, List.not_mem_nil, or_false] at ha
  rcases ha with rfl | rfl | rfl | rfl | rfl | rfl | rfl
  · exact (hw _ (List.mem_of_getElem? (i := 20) rfl))
  · exact (hw _ (List.mem_of_getElem? (i := 27) rfl))
  · exact (hw _ (List.mem_of_getElem? (i := 21) rfl))
  · exact (hw _ (List.mem_of_getElem? (i := 28) rfl))
  · exact (hw _ (List.mem_of_getElem? (i := 29) rfl))
  · exact (hw _ (List.mem_of_getElem? (i := 30) rfl))
  · exact (hw _ (List.mem_of_getElem? (i := 31) rfl))
theorem d5_53 : decode jdk_42_method_145_code 53 = .ok (.ldc 7, 2) := by decide +kernel
theorem d5_55 : decode jdk_42_method_145_code 55 = .ok (.areturn, 1) := by decide +kernel
theorem ef_rp0 (m : MethodId) (x0 : Addr)  : entryFrame m #[(.ref x0), (.int (0 : Int32))] 5 = mkF m 0 #[.val (.ref x0), .val (.int (0 : Int32)), .unset, .unset, .unset] [] := by first | (simp [entryFrame, mkF, argsToLocals, Value.category]; done) | rfl
def Qrp0 (Z : State) (x0 : Addr) (b : Addr) (ka : ClassId) (h0 : Heap) (n0 : Nat) (vE : Option Value) (hE : Heap) (LE : List Loc) : Prop := ∃ rE : Addr, vE = some (.ref rE) ∧ Fr n0 LE ∧ Keep h0 hE [] ∧ (∃ (bN : Addr) (kN : ClassId), Exa Z hE rE "java/lang/String" ∧ Fld Z hE rE "java/lang/String" "coder" "B" (.int (0 : Int32)) ∧ Fld Z hE rE "java/lang/String" "value" "[B" (.ref bN) ∧ Arv Z hE bN kN .byte (0 : Int32) [] (.int (0 : Int32)))
set_option maxRecDepth 65536 in
set_option maxHeartbeats 40000000 in
theorem rmrp0 (l : Launch) (Z : State) (a0 : Array Value) (hw : ∀ d ∈ tables_1, d.before a0 Z = true) (ws : List Jvm.Cond) (x0 : Addr) (b : Addr) (ka : ClassId) (h0 : Heap) (n0 : Nat) (Z0 : n0 ≤ h0.size) (E_x : Exa Z h0 x0 "java/lang/String") (F_v : Fld Z h0 x0 "java/lang/String" "value" "[B" (.ref b)) (F_c : Fld Z h0 x0 "java/lang/String" "coder" "B" (.int (0 : Int32))) (A_b : Arv Z h0 b ka .byte (3 : Int32) [(.int (63 : Int32)), (.int (44 : Int32)), (.int (32 : Int32))] (.int (0 : Int32))) (hcw : Jvm.Lit.compactW.before a0 Z = true) (hkp : ∀ (b : Addr) (cl : Cell), Z.heap[b]? = some cl → h0[b]? = some cl) (hhe : Jvm.Lit.constHeld Z "java/lang/String" 7) :
    MetFree l (⟨"java/lang/String", "repeat", "(I)Ljava/lang/String;"⟩ : MethodName) (head1 (Jvm.Cond.code (⟨"java/lang/String", "repeat", "(I)Ljava/lang/String;"⟩ : MethodName) jdk_42_method_145_code 5 (some (.object "java/lang/String")) :: ws) ({ frames := 0, cells := 2, slots := 4, locals := 0 } : Room)) (fun a U => a = #[(.ref x0), (.int (0 : Int32))] ∧ (Z.Warmed39 U.vm ∧ IB Z U.vm ["?, "]) ∧ U.heap = h0) (fun _ _ _ _ _ => True) (fun _ U o U' => ∃ vE LE, o = .returned vE ∧ (Qrp0 Z x0 b ka h0 n0 vE U'.heap LE ∧ IB Z U'.vm ["", "?, "]) ∧ ReturnedEndW U o U' LE ({ frames := 0, cells := 2, slots := 4, locals := 0 } : Room).cells ({ frames := 0, cells := 2, slots := 4, locals := 0 } : Room).slots) := by
  refine MetFree.of_bodySF (plainFor_of_name pn_1) hisR ?_
  intro p e s m args below meth c s₁ Bd hml0 hP hK
  obtain ⟨rfl, ⟨hZ, hI⟩, hh⟩ := hP
  have hx := Bd.exec
  have hby := Bd.bytes
  have hml : c.maxLocals = 5 := hml0
  have hown : s.vm.findClass "java/lang/String" = some m.cls := findClass_of_methodNamed Bd.named
  have hnm := (name_of_methodNamed Bd.named Bd.method).1
  have hlk : meth.locks = false := BodyLoose.notSynchronized Bd
  have X0 : Stand p l e ({ frames := 0, cells := 2, slots := 4, locals := 0 } : Room) s m #[(.ref x0), (.int (0 : Int32))] below meth c s₁ [] 0 0 := Stand.of_body Bd
  have e0 : s₁.heap = h0 := by rw [← hh, Bd.state]; rfl
  have N0 := Fr.nil n0
  obtain ⟨sE, hsE⟩ : ∃ z, z = (s₁.setTop (entryFrame m #[(.ref x0), (.int (0 : Int32))] 5)) := ⟨_, rfl⟩
  have st0 : Steps p.tables e below sE (s₁.setTop (mkF m 0 #[.val (.ref x0), .val (.int (0 : Int32)), .unset, .unset, .unset] [])) := by rw [hsE]; exact castTop (ef_rp0 m x0) (Steps.refl _)
  have hI : IB Z (s.setVm s.vm).vm ["?, "] := hI
  have X0 : Stand p l e ({ frames := 0, cells := 2, slots := 4, locals := 0 } : Room) (s.setVm s.vm) m #[(.ref x0), (.int (0 : Int32))] below meth c s₁ [] 0 0 := X0
  have hZ : Z.Warmed39 (s.setVm s.vm).vm := hZ
  have hown : (s.setVm s.vm).vm.findClass "java/lang/String" = some m.cls := hown
  obtain ⟨kS, ekS⟩ : ∃ k : Nat, k = 0 := ⟨_, rfl⟩
  have hS : s.Since s.vm kS := (State.WarmedH.refl s).since kS
  have hk : kS ≤ h0.size := by rw [ekS]; exact Nat.zero_le _
  have K0 : Keep h0 h0 [] := Keep.refl _ _
  have st1 : Steps p.tables e below sE (s₁.setTop (mkF m 1 #[.val (.ref x0), .val (.int (0 : Int32)), .unset, .unset, .unset] [(.int (0 : Int32))])) := st0.trans (by
      show Steps _ _ _ (s₁.setTop (mkF m 0 #[.val (.ref x0), .val (.int (0 : Int32)), .unset, .unset, .unset] [])) _
      refine XS.iloadN X0.here hx rfl (hb hby d5_0) rfl ?_
      exact Steps.refl _)
  have hf2 : ¬ ((0 : Int32) < (0 : Int32)) := by decide
  have st3 : Steps p.tables e below sE (s₁.setTop (mkF m 34 #[.val (.ref x0), .val (.int (0 : Int32)), .unset, .unset, .unset] [(.int (1 : Int32)), (.int (0 : Int32))])) := st1.trans (by
      show Steps _ _ _ (s₁.setTop (mkF m 1 #[.val (.ref x0), .val (.int (0 : Int32)), .unset, .unset, .unset] [(.int (0 : Int32))])) _
      refine XS.ifYes X0.here hx rfl (pc0 := 1) (pc' := 32) rfl (hb hby d5_1) rfl ((if0 _ _).trans (flt hf2).2.1) (by decide) (by decide) ?_
      show Steps _ _ _ (s₁.setTop (mkF m 32 #[.val (.ref x0), .val (.int (0 : Int32)), .unset, .unset, .unset] [])) _
      refine XS.iloadN X0.here hx rfl (hb hby d5_32) rfl ?_
      show Steps _ _ _ (s₁.setTop (mkF m 33 #[.val (.ref x0), .val (.int (0 : Int32)), .unset, .unset, .unset] [(.int (0 : Int32))])) _
      refine XS.iconst X0.here hx rfl (hb hby d5_33) ?_
      exact Steps.refl _)
  have hf4 : ¬ ((0 : Int32) = (1 : Int32)) := by decide
  have st5 : Steps p.tables e below sE (s₁.setTop (mkF m 40 #[.val (.ref x0), .val (.int (0 : Int32)), .unset, .unset, .unset] [(.ref x0)])) := st3.trans (by
      show Steps _ _ _ (s₁.setTop (mkF m 34 #[.val (.ref x0), .val (.int (0 : Int32)), .unset, .unset, .unset] [(.int (1 : Int32)), (.int (0 : Int32))])) _
      refine XS.icmpYes X0.here hx rfl (pc0 := 34) (pc' := 39) rfl (hb hby d5_34) rfl (feq hf4).2 (by decide) (by decide) ?_
      show Steps _ _ _ (s₁.setTop (mkF m 39 #[.val (.ref x0), .val (.int (0 : Int32)), .unset, .unset, .unset] [])) _
      refine XS.aloadN X0.here hx rfl (hb hby d5_39) rfl rfl ?_
      exact Steps.refl _)
  obtain ⟨T6, X6, e6, sr6⟩ := getF X0 hx hZ hown (host := "") (Or.inl (hw _ (List.mem_of_getElem? (i := 37) rfl))) Via.refl e0 F_v (g := (mkF m 40 #[.val (.ref x0), .val (.int (0 : Int32)), .unset, .unset, .unset] [(.ref x0)])) rfl rfl (hb hby d5_40)
  have st7 : Steps p.tables e below sE (T6.setTop (mkF m 43 #[.val (.ref x0), .val (.int (0 : Int32)), .unset, .unset, .unset] [(.ref b)])) := st5.trans (sr6 _ (Steps.refl _))
  obtain ⟨cl8, Ar8, -, S8, N8, -, -⟩ := id A_b
  have st9 : Steps p.tables e below sE (T6.setTop (mkF m 46 #[.val (.ref x0), .val (.int (0 : Int32)), .val (.int (3 : Int32)), .unset, .unset] [(.int (3 : Int32))])) := st7.trans (by
      show Steps _ _ _ (T6.setTop (mkF m 43 #[.val (.ref x0), .val (.int (0 : Int32)), .unset, .unset, .unset] [(.ref b)])) _
      refine X6.arraylength hx (by rw [e6]; exact Ar8.1) (State.isArrayOf_alike hZ.alike Ar8.2.1) (g := (mkF m 43 #[.val (.ref x0), .val (.int (0 : Int32)), .unset, .unset, .unset] [(.ref b)])) rfl rfl (hb hby d5_43) _ ?_
      rw [len_of S8 N8]
      show Steps _ _ _ (T6.setTop (mkF m 44 #[.val (.ref x0), .val (.int (0 : Int32)), .unset, .unset, .unset] [(.int (3 : Int32))])) _
      refine XS.istoreN X6.here hx rfl (hb hby d5_44) rfl (l' := #[.val (.ref x0), .val (.int (0 : Int32)), .val (.int (3 : Int32)), .unset, .unset]) rfl ?_
      show Steps _ _ _ (T6.setTop (mkF m 45 #[.val (.ref x0), .val (.int (0 : Int32)), .val (.int (3 : Int32)), .unset, .unset] [])) _
      refine XS.iloadN X6.here hx rfl (hb hby d5_45) rfl ?_
      exact Steps.refl _)
  have hf10 : ¬ ((3 : Int32) = (0 : Int32)) := by decide
  have st11 : Steps p.tables e below sE (T6.setTop (mkF m 50 #[.val (.ref x0), .val (.int (0 : Int32)), .val (.int (3 : Int32)), .unset, .unset] [(.int (0 : Int32))])) := st9.trans (by
      show Steps _ _ _ (T6.setTop (mkF m 46 #[.val (.ref x0), .val (.int (0 : Int32)), .val (.int (3 : Int32)), .unset, .unset] [(.int (3 : Int32))])) _
      refine XS.ifNo X6.here hx rfl (hb hby d5_46) rfl ((if0 _ _).trans (feq hf10).1) ?_
      show Steps _ _ _ (T6.setTop (mkF m 49 #[.val (.ref x0), .val (.int (0 : Int32)), .val (.int (3 : Int32)), .unset, .unset] [])) _
      refine XS.iloadN X6.here hx rfl (hb hby d5_49) rfl ?_
      exact Steps.refl _)
  have hf12 : (0 : Int32) = (0 : Int32) := by decide
  have st13 : Steps p.tables e below sE (T6.setTop (mkF m 53 #[.val (.ref x0), .val (.int (0 : Int32)), .val (.int (3 : Int32)), .unset, .unset] [])) := st11.trans (by
      show Steps _ _ _ (T6.setTop (mkF m 50 #[.val (.ref x0), .val (.int (0 : Int32)), .val (.int (3 : Int32)), .unset, .unset] [(.int (0 : Int32))])) _
      refine XS.ifNo X6.here hx rfl (hb hby d5_50) rfl ((if0 _ _).trans (teq hf12).2) ?_
      exact Steps.refl _)
  obtain ⟨a14, T14, h14, kS, b14, k14, X14, e14, E14, hS, hk, hZ, hown, qe14, qc14, qv14, qa14, -, -, hI, -, ql14, sr14⟩ := ldcSVd (s := s) X6 hx hZ hown (hw _ (List.mem_of_getElem? (i := 38) rfl)) (own_wS hw) e6 hS hk (Fr.nil _) (by rw [hh]; exact hkp) hI (by decide) hhe hcw (vs := []) (z := (0 : Int32)) (by decide) (by decide) (by decide) (g := (mkF m 53 #[.val (.ref x0), .val (.int (0 : Int32)), .val (.int (3 : Int32)), .unset, .unset] [])) rfl (hb hby d5_53) (n := 0) (by decide) (by decide) (by decide) (by decide)
  have f15 : Exa Z h14 x0 "java/lang/String" := E_x.ext E14
  have f16 : Fld Z h14 x0 "java/lang/String" "value" "[B" (.ref b) := F_v.ext E14
  have f17 : Fld Z h14 x0 "java/lang/String" "coder" "B" (.int (0 : Int32)) := F_c.ext E14
  have f18 : Arv Z h14 b ka .byte (3 : Int32) [(.int (63 : Int32)), (.int (44 : Int32)), (.int (32 : Int32))] (.int (0 : Int32)) := A_b.ext E14
  have K19 : Keep h0 h14 [] := K0.ext E14
  have Z14 : n0 ≤ h14.size := Nat.le_trans Z0 E14.1
  have st20 : Steps p.tables e below sE (T14.setTop (mkF m 55 #[.val (.ref x0), .val (.int (0 : Int32)), .val (.int (3 : Int32)), .unset, .unset] [(.ref a14)])) := st13.trans (sr14 _ (Steps.refl _))
  obtain ⟨fs, hr, hrun, hended, hEW⟩ := X14.leaveW hS (by rw [e14]; exact hk) (v := some (.ref a14)) (fun h => by rw [Bd.returns] at h; cases h) hlk
  have hIe := own_ibw X14 hI
  refine ⟨_, _, (own_ent hsE st20).trans ?_, hrun, hended, _, _, rfl, ⟨?_, hIe⟩, hEW.1, hEW.2.1, hEW.2.2.1, hEW.2.2.2.mono (by decide) (by decide)⟩
  · exact retOut X14 hx (t := (.object "java/lang/String")) Bd.returns rfl (Or.inr (Or.inr (Or.inr (Or.inr ⟨rfl, rfl, rfl⟩)))) (hb hby d5_55) hr
  · show Qrp0 Z x0 b ka h0 n0 _ T14.heap _
    rw [e14]
    exact ⟨a14, rfl, N0, K19, ⟨b14, _, qe14, qc14, qv14, qa14⟩⟩
theorem own_frm {a b : Nat} {L : List Loc} (N : Fr b L) (h : a ≤ b) : Fr a L := fun y hy => Nat.le_trans h (N y hy)
theorem own_ibm {Z : State} {vm : Vm} {Ts Ts' : List String} (I : IB Z vm Ts) (h : ∀ t ∈ Ts, t ∈ Ts') : IB Z vm Ts' := by
  obtain ⟨more, h1, h2⟩ := I
  exact ⟨more, h1, fun q hq => by obtain ⟨t, ht, e⟩ := h2 q hq; exact ⟨t, h t ht, e⟩⟩
theorem own_neL {Z : State} {h : Heap} {a b : Addr} {k k' : ClassId} {ty ty' : FieldType} {n n' : Int32} {vs vs' : List Value} {d d' : Value} (A : Arv Z h a k ty n vs d) (B : Arv Z h b k' ty' n' vs' d') (hn : n.toNatClampNeg ≠ n'.toNatClampNeg) : a ≠ b := fun q => by
  subst q
  obtain ⟨c1, ⟨e1, -⟩, -, s1, -⟩ := A
  obtain ⟨c2, ⟨e2, -⟩, -, s2, -⟩ := B
  cases e1.symm.trans e2
  exact hn (s1.symm.trans s2)
theorem own_kk (x : Int32) (h : 1 ≤ x.toInt ∧ x.toInt ≤ 2048) (h1 : ¬ x = (1 : Int32)) (h2 : ¬ x = (2 : Int32)) : 2 ≤ (x - (1 : Int32)).toInt ∧ (x - (1 : Int32)).toInt ≤ 2047 ∧ ((0 : Int32) + ((3 : Int32) * (x - (1 : Int32)))).toInt = 3 * x.toInt - 3 ∧ ((3 : Int32) * (x - (1 : Int32))).toInt = 3 * x.toInt - 3 := by
  have q1 : ¬ x.toInt = 1 := fun q => h1 (Int32.toInt_inj.mp (by rw [q]; decide))
  have q2 : ¬ x.toInt = 2 := fun q => h2 (Int32.toInt_inj.mp (by rw [q]; decide))
  have e1 := c_isub x 1
  rw [show (1 : Int32).toInt = 1 by decide] at e1
  generalize x - (1 : Int32) = k at *
  have e2 := c_imul 3 k
  rw [show (3 : Int32).toInt = 3 by decide] at e2
  generalize (3 : Int32) * k = m at *
  have e3 := c_iadd 0 m
  rw [show (0 : Int32).toInt = 0 by decide] at e3
  generalize (0 : Int32) + m = z at *
  have r1 := rng32 k
  have r2 := rng32 m
  have r3 := rng32 z
  have k1 : k.toInt = x.toInt - 1 := by omega
  have k2 : m.toInt = 3 * k.toInt := by omega
  have k3 : z.toInt = m.toInt := by omega
  omega
theorem own_st0 : own_st (0 : Int32) [] (0 : Int32) := ⟨by decide, by decide, fun i hi => absurd hi (by rw [show ((0 : Int32)).toNatClampNeg = 0 by decide]; exact Nat.not_lt_zero i)⟩
theorem own_st3 : own_st (3 : Int32) ([(63 : Int32), (44 : Int32), (32 : Int32)] : List Int32) (0 : Int32) := ⟨by decide, by decide, fun i hi => by
  rw [show ((3 : Int32)).toNatClampNeg = 3 by decide] at hi
  rw [show ((0 : Int32)).toNatClampNeg = 0 by decide, Nat.zero_add]
  match i, hi with
  | 0, _ => rfl
  | 1, _ => rfl
  | 2, _ => rfl⟩
theorem own_stk {n : Int32} {L : List Int32} (h0 : 0 ≤ n.toInt) (hm : n.toInt ≤ 6141) (hL : ∀ i, i < n.toNatClampNeg → L.getD i 0 = own_ch i) : own_st n L (0 : Int32) := ⟨h0, by rw [show (0 : Int32).toInt = 0 by decide]; omega, fun i hi => by
  rw [show ((0 : Int32)).toNatClampNeg = 0 by decide, Nat.zero_add]; exact hL i hi⟩
theorem own_st1 {x c1 : Int32} (hx : 1 ≤ x.toInt ∧ x.toInt ≤ 2048) (hc : c1.toInt = 3 * x.toInt - 3) : own_st (1 : Int32) ([(63 : Int32)] : List Int32) c1 := ⟨by decide, by rw [show (1 : Int32).toInt = 1 by decide]; omega, fun i hi => by
  rw [show ((1 : Int32)).toNatClampNeg = 1 by decide] at hi
  obtain rfl : i = 0 := by omega
  have t := own_tn c1 (by omega)
  unfold own_ch
  rw [if_pos (by omega)]; rfl⟩
theorem own_bd16 : own_bd (16 : Int32) ([(0 : Int32), (0 : Int32), (0 : Int32), (0 : Int32), (0 : Int32), (0 : Int32), (0 : Int32), (0 : Int32), (0 : Int32), (0 : Int32), (0 : Int32), (0 : Int32), (0 : Int32), (0 : Int32), (0 : Int32), (0 : Int32)] : List Int32) (0 : Int32) 6141 := ⟨rfl, by decide, by decide, by decide, fun i hi => absurd hi (by rw [show ((0 : Int32)).toNatClampNeg = 0 by decide]; exact Nat.not_lt_zero i)⟩
theorem own_bdW {nw c1 n : Int32} {LN : List Int32} (hb : own_bd nw LN c1 12300) (hw : nw.toInt = (16 : Int32).toInt ∨ nw.toInt = (0 : Int32).toInt + n.toInt ∨ nw.toInt = 2 * (16 : Int32).toInt + 2) (hn : n.toInt ≤ 6141) : own_bd nw LN c1 6141 := by
  rw [show (16 : Int32).toInt = 16 by decide, show (0 : Int32).toInt = 0 by decide] at hw
  exact ⟨hb.1, hb.2.1, hb.2.2.1, by omega, hb.2.2.2.2⟩
theorem own_c2 {x c1 : Int32} (hx : 1 ≤ x.toInt ∧ x.toInt ≤ 2048) (hc : c1.toInt = 3 * x.toInt - 3) : (c1 + (1 : Int32)).toInt = 3 * x.toInt - 2 := by
  have e := c_iadd c1 1
  rw [show (1 : Int32).toInt = 1 by decide] at e
  have r := rng32 (c1 + 1)
  omega
theorem pd_20 : parseMethodDescriptor "()V" = some ⟨[], none⟩ := by decide +kernel
theorem pd_21 : parseMethodDescriptor "(I)Ljava/lang/String;" = some ⟨[.int], some (.object "java/lang/String")⟩ := by decide +kernel
theorem pd_22 : parseMethodDescriptor "(Ljava/lang/String;)Ljava/lang/StringBuilder;" = some ⟨[(.object "java/lang/String")], some (.object "java/lang/StringBuilder")⟩ := by decide +kernel
theorem pd_23 : parseMethodDescriptor "()Ljava/lang/String;" = some ⟨[], some (.object "java/lang/String")⟩ := by decide +kernel
theorem d1_0 : decode prog_43_method_2_code 0 = .ok (.new 7, 3) := by decide +kernel
theorem d1_3 : decode prog_43_method_2_code 3 = .ok (.dup, 1) := by decide +kernel
theorem d1_4 : decode prog_43_method_2_code 4 = .ok (.invokespecial 9, 3) := by decide +kernel
theorem d1_7 : decode prog_43_method_2_code 7 = .ok (.ldc 10, 2) := by decide +kernel
theorem d1_9 : decode prog_43_method_2_code 9 = .ok (.iload_n 0, 1) := by decide +kernel
theorem d1_10 : decode prog_43_method_2_code 10 = .ok (.iconst 1, 1) := by decide +kernel
theorem d1_11 : decode prog_43_method_2_code 11 = .ok (.isub, 1) := by decide +kernel
theorem d1_12 : decode prog_43_method_2_code 12 = .ok (.invokevirtual 12, 3) := by decide +kernel
theorem d1_15 : decode prog_43_method_2_code 15 = .ok (.invokevirtual 18, 3) := by decide +kernel
theorem d1_18 : decode prog_43_method_2_code 18 = .ok (.ldc 22, 2) := by decide +kernel
theorem d1_20 : decode prog_43_method_2_code 20 = .ok (.invokevirtual 18, 3) := by decide +kernel
theorem d1_23 : decode prog_43_method_2_code 23 = .ok (.invokevirtual 24, 3) := by decide +kernel
theorem d1_26 : decode prog_43_method_2_code 26 = .ok (.areturn, 1) := by decide +kernel
theorem pn_8 : plainName "com/example/persephone/persephone/store/SqlLists" = true := by first | (simp [plainName, overriddenIn]; done) | decide +kernel
theorem ef_1 (m : MethodId) (x0 : Int32)  : entryFrame m #[(.int x0)] 1 = mkF m 0 #[.val (.int x0)] [] := by first | (simp [entryFrame, mkF, argsToLocals, Value.category]; done) | rfl
def Q1 (Z : State) (x0 : Int32) (cs : Int32) (h0 : Heap) (n0 : Nat) (vE : Option Value) (hE : Heap) (LE : List Loc) : Prop := ∃ rE : Addr, vE = some (.ref rE) ∧ Fr n0 LE ∧ Keep h0 hE [] ∧ (∃ (bN : Addr) (kN : ClassId) (nL : Int32) (LN : List Int32), Exa Z hE rE "java/lang/String" ∧ Fld Z hE rE "java/lang/String" "coder" "B" (.int (0 : Int32)) ∧ Fld Z hE rE "java/lang/String" "value" "[B" (.ref bN) ∧ Arv Z hE bN kN .byte nL (List.map Value.int LN) (.int (0 : Int32)) ∧ nL.toInt = 3 * x0.toInt - 2 ∧ (∀ i, i < nL.toNatClampNeg → LN.getD i 0 = own_ch i))
set_option maxRecDepth 65536 in
set_option maxHeartbeats 40000000 in
theorem rm1 (l : Launch) (Z : State) (a0 : Array Value) (hw : ∀ d ∈ tables_1, d.before a0 Z = true) (ws : List Jvm.Cond) (x0 : Int32) (cs : Int32) (h0 : Heap) (n0 : Nat) (Z0 : n0 ≤ h0.size) (S_c : Sta Z h0 "java/lang/String" "COMPACT_STRINGS" "Z" (.int cs)) (hcs : ¬ cs = (0 : Int32)) (hcw : Jvm.Lit.compactW.before a0 Z = true) (hkp : ∀ (b : Addr) (cl : Cell), Z.heap[b]? = some cl → h0[b]? = some cl) (hn0 : h0.size ≤ n0) (hc10 : Jvm.Lit.constHeld Z "com/example/persephone/persephone/store/SqlLists" 10) (hc22 : Jvm.Lit.constHeld Z "com/example/persephone/persephone/store/SqlLists" 22) (hc7 : Jvm.Lit.constHeld Z "java/lang/String" 7) (hxb : 1 ≤ x0.toInt ∧ x0.toInt ≤ 2048) :
    MetFree l (⟨"com/example/persephone/persephone/store/SqlLists", "placeholders", "(I)Ljava/lang/String;"⟩ : MethodName) (head1 (Jvm.Cond.code (⟨"com/example/persephone/persephone/store/SqlLists", "placeholders", "(I)Ljava/lang/String;"⟩ : MethodName) prog_43_method_2_code 1 (some (.object "java/lang/String")) :: ws) ({ frames := 6, cells := 12, slots := 36935, locals := 112 } : Room)) (fun a U => a = #[(.int x0)] ∧ (Z.Warmed39 U.vm ∧ IB Z U.vm ([] : List String)) ∧ U.heap = h0) (fun _ _ _ _ _ => True) (fun _ U o U' => ∃ vE LE, o = .returned vE ∧ (Q1 Z x0 cs h0 n0 vE U'.heap LE ∧ IB Z U'.vm ["?", "", "?, "]) ∧ ReturnedEndW U o U' LE ({ frames := 6, cells := 12, slots := 36935, locals := 112 } : Room).cells ({ frames := 6, cells := 12, slots := 36935, locals := 112 } : Room).slots) := by
  refine MetFree.of_bodySF (plainFor_of_name pn_8) hisR ?_
  intro p e s m args below meth c s₁ Bd hml0 hP hK
  obtain ⟨rfl, ⟨hZ, hI⟩, hh⟩ := hP
  have hx := Bd.exec
  have hby := Bd.bytes
  have hml : c.maxLocals = 1 := hml0
  have hown : s.vm.findClass "com/example/persephone/persephone/store/SqlLists" = some m.cls := findClass_of_methodNamed Bd.named
  have hnm := (name_of_methodNamed Bd.named Bd.method).1
  have hlk : meth.locks = false := BodyLoose.notSynchronized Bd
  have X0 : Stand p l e ({ frames := 6, cells := 12, slots := 36935, locals := 112 } : Room) s m #[(.int x0)] below meth c s₁ [] 0 0 := Stand.of_body Bd
  have e0 : s₁.heap = h0 := by rw [← hh, Bd.state]; rfl
  have N0 := Fr.nil n0
  obtain ⟨sE, hsE⟩ : ∃ z, z = (s₁.setTop (entryFrame m #[(.int x0)] 1)) := ⟨_, rfl⟩
  have st0 : Steps p.tables e below sE (s₁.setTop (mkF m 0 #[.val (.int x0)] [])) := by rw [hsE]; exact castTop (ef_1 m x0) (Steps.refl _)
  have hI : IB Z (s.setVm s.vm).vm ([] : List String) := hI
  have X0 : Stand p l e ({ frames := 6, cells := 12, slots := 36935, locals := 112 } : Room) (s.setVm s.vm) m #[(.int x0)] below meth c s₁ [] 0 0 := X0
  have hZ : Z.Warmed39 (s.setVm s.vm).vm := hZ
  have hown : (s.setVm s.vm).vm.findClass "com/example/persephone/persephone/store/SqlLists" = some m.cls := hown
  obtain ⟨kS, ekS⟩ : ∃ k : Nat, k = 0 := ⟨_, rfl⟩
  have hS : s.Since s.vm kS := (State.WarmedH.refl s).since kS
  have hk : kS ≤ h0.size := by rw [ekS]; exact Nat.zero_le _
  have K0 : Keep h0 h0 [] := Keep.refl _ _
  obtain ⟨T1, h1, X1, e1, E1, A1, D1, -, sr1⟩ := newO X0 hx hZ hown (hw _ (List.mem_of_getElem? (i := 4) rfl)) (hw _ (List.mem_of_getElem? (i := 5) rfl)) (hw _ (List.mem_of_getElem? (i := 6) rfl)) e0 (g := (mkF m 0 #[.val (.int x0)] [])) rfl (hb hby d1_0) (by decide) (by decide)
  obtain ⟨b1, g1⟩ : ∃ z, z = h0.size := ⟨_, rfl⟩
  rw [← g1] at A1 D1 sr1
  have g_b1 : n0 ≤ b1 := Nat.le_trans Z0 (Nat.le_of_eq g1.symm)
  have sz_b1 : h0.size ≤ b1 := Nat.le_trans K0.1 (Nat.le_of_eq g1.symm)
  have f2 : Sta Z h1 "java/lang/String" "COMPACT_STRINGS" "Z" (.int cs) := S_c.ext E1
  have K3 : Keep h0 h1 [] := K0.ext E1
  have f4 : Fld Z h1 b1 "java/lang/AbstractStringBuilder" "value" "[B" .null := D1 (Or.inl (hw _ (List.mem_of_getElem? (i := 23) rfl))) (ty := (.array .byte)) (by decide)
  have f5 : Fld Z h1 b1 "java/lang/AbstractStringBuilder" "coder" "B" (.int (0 : Int32)) := D1 (Or.inl (hw _ (List.mem_of_getElem? (i := 25) rfl))) (ty := .byte) (by decide)
  have f6 : Fld Z h1 b1 "java/lang/AbstractStringBuilder" "count" "I" (.int (0 : Int32)) := D1 (Or.inl (hw _ (List.mem_of_getElem? (i := 62) rfl))) (ty := .int) (by decide)
  have Z1 : n0 ≤ h1.size := Nat.le_trans Z0 E1.1
  have hk : kS ≤ h1.size := Nat.le_trans hk E1.1
  have st7 : Steps p.tables e below sE (T1.setTop (mkF m 3 #[.val (.int x0)] [(.ref b1)])) := st0.trans (sr1 _ (Steps.refl _))
  have st8 : Steps p.tables e below sE (T1.setTop (mkF m 4 #[.val (.int x0)] [(.ref b1), (.ref b1)])) := st7.trans (by
      show Steps _ _ _ (T1.setTop (mkF m 3 #[.val (.int x0)] [(.ref b1)])) _
      refine XS.dup X1.here hx rfl (hb hby d1_3) rfl rfl ?_
      exact Steps.refl _)
  obtain ⟨_, _, ⟨T9, L9, k9, n9⟩, -, X9, ⟨Lc9, hQ9, l9, y9, z9⟩, sr9⟩ := X1.specialBack hx (y := (⟨"java/lang/StringBuilder", "<init>", "()V"⟩ : MethodName)) rfl hown (mvT hZ (hw _ (List.mem_of_getElem? (i := 7) rfl))) (mvT hZ (hw _ (List.mem_of_getElem? (i := 8) rfl))) (mvT hZ (hw _ (List.mem_of_getElem? (i := 9) rfl))) (by decide) (backOf (W := 1) (rm2 l Z a0 hw [] b1 cs h1 n0 Z1 f2 hcs A1 f4 f5 f6 g_b1) hZ (hw _ (List.mem_of_getElem? (i := 9) rfl)) (hw _ (List.mem_of_getElem? (i := 6) rfl)) (by decide) (by decide)) (g := (mkF m 4 #[.val (.int x0)] [(.ref b1), (.ref b1)])) rfl (by rw [hml]; rfl) (Steps.refl _) (a := b1) (argsL := []) (rest := [(.ref b1)]) (lenOf pd_20 rfl) rfl (by show 2 * 0 + _ ≤ _; exact Nat.le_of_eq rfl) (hb hby d1_4) (fun _ _ => ⟨rfl, e1, (by decide : 1 + 1 ≤ _), (by decide : 4 + 16 ≤ _)⟩)
  dsimp only [Pt.U, Pt.locs, Pt.cells, Pt.slots] at X9 l9 y9 z9 sr9 hQ9
  subst l9 y9 z9
  obtain ⟨rfl, N9q, K9c, f9_0, f9_1, f9_2, ⟨aV, kV, qv, qe, qa, qg, qn, szq⟩⟩ := hQ9
  have N9 := Fr.app N0 N9q
  obtain ⟨LL9, X9, N9⟩ := own_hide X9 N9
  have f10 : Sta Z T9.heap "java/lang/String" "COMPACT_STRINGS" "Z" (.int cs) := own_sta_keep f2 K9c (allS (own_ns A1) all0)
  have f11 : Exa Z T9.heap b1 "java/lang/StringBuilder" := A1.keep K9c
  have K12 : Keep h0 T9.heap [] := K3.trans K9c (allS (Or.inr sz_b1) all0)
  have Z13 : n0 ≤ T9.heap.size := Nat.le_trans Z1 K9c.1
  have hk : kS ≤ T9.heap.size := Nat.le_trans hk K9c.1
  have sz_aV : h0.size ≤ aV := Nat.le_trans K3.1 szq
  have st14 : Steps p.tables e below sE (T9.setTop (mkF m 7 #[.val (.int x0)] [(.ref b1)])) := st8.trans (sr9)
  obtain ⟨a15, T15, h15, kS, b15, k15, X15, e15, E15, hS, hk, hZ, hown, qe15, qc15, qv15, qa15, -, -, hI, -, ql15, sr15⟩ := ldcSVd (s := s) X9 hx hZ hown (hw _ (List.mem_of_getElem? (i := 26) rfl)) (own_wS hw) rfl hS hk (own_frm N9 (by rw [hh]; exact hn0)) (by rw [hh]; exact hkp) hI (by decide) hc10 hcw (vs := [(.int (63 : Int32)), (.int (44 : Int32)), (.int (32 : Int32))]) (z := (3 : Int32)) (by decide) (by decide) (by decide) (g := (mkF m 7 #[.val (.int x0)] [(.ref b1)])) rfl (hb hby d1_7) (n := 12) (by decide) (by decide) (by decide) (by decide)
  rw [hh] at ql15
  have ne_b1_a15 : b1 ≠ a15 := ql15.elim (fun q => Nat.ne_of_gt (Nat.lt_of_lt_of_le q.1 sz_b1)) (fun q => Nat.ne_of_lt (Nat.lt_of_lt_of_le f9_0.lt q.1))
  have ne_b1_b15 : b1 ≠ b15 := ql15.elim (fun q => Nat.ne_of_gt (Nat.lt_of_lt_of_le q.2 sz_b1)) (fun q => Nat.ne_of_lt (Nat.lt_of_lt_of_le f9_0.lt q.2))
  have ne_aV_a15 : aV ≠ a15 := ql15.elim (fun q => Nat.ne_of_gt (Nat.lt_of_lt_of_le q.1 sz_aV)) (fun q => Nat.ne_of_lt (Nat.lt_of_lt_of_le qe.lt q.1))
  have ne_aV_b15 : aV ≠ b15 := ql15.elim (fun q => Nat.ne_of_gt (Nat.lt_of_lt_of_le q.2 sz_aV)) (fun q => Nat.ne_of_lt (Nat.lt_of_lt_of_le qe.lt q.2))
  have f16 : Sta Z h15 "java/lang/String" "COMPACT_STRINGS" "Z" (.int cs) := f10.ext E15
  have f17 : Exa Z h15 b1 "java/lang/StringBuilder" := f9_0.ext E15
  have f18 : Fld Z h15 b1 "java/lang/AbstractStringBuilder" "coder" "B" (.int (0 : Int32)) := f9_1.ext E15
  have f19 : Fld Z h15 b1 "java/lang/AbstractStringBuilder" "count" "I" (.int (0 : Int32)) := f9_2.ext E15
  have f20 : Fld Z h15 b1 "java/lang/AbstractStringBuilder" "value" "[B" (.ref aV) := qv.ext E15
  have f21 : Exa Z h15 aV "[B" := qe.ext E15
  have f22 : Arv Z h15 aV kV .byte (16 : Int32) [(.int (0 : Int32)), (.int (0 : Int32)), (.int (0 : Int32)), (.int (0 : Int32)), (.int (0 : Int32)), (.int (0 : Int32)), (.int (0 : Int32)), (.int (0 : Int32)), (.int (0 : Int32)), (.int (0 : Int32)), (.int (0 : Int32)), (.int (0 : Int32)), (.int (0 : Int32)), (.int (0 : Int32)), (.int (0 : Int32)), (.int (0 : Int32))] (.int (0 : Int32)) := qa.ext E15
  have K23 : Keep h0 h15 [] := K12.ext E15
  have Z15 : n0 ≤ h15.size := Nat.le_trans Z13 E15.1
  have st24 : Steps p.tables e below sE (T15.setTop (mkF m 9 #[.val (.int x0)] [(.ref a15), (.ref b1)])) := st14.trans (sr15 _ (Steps.refl _))
  have st25 : Steps p.tables e below sE (T15.setTop (mkF m 12 #[.val (.int x0)] [(.int (x0 - (1 : Int32))), (.ref a15), (.ref b1)])) := st24.trans (by
      show Steps _ _ _ (T15.setTop (mkF m 9 #[.val (.int x0)] [(.ref a15), (.ref b1)])) _
      refine XS.iloadN X15.here hx rfl (hb hby d1_9) rfl ?_
      show Steps _ _ _ (T15.setTop (mkF m 10 #[.val (.int x0)] [(.int x0), (.ref a15), (.ref b1)])) _
      refine XS.iconst X15.here hx rfl (hb hby d1_10) ?_
      show Steps _ _ _ (T15.setTop (mkF m 11 #[.val (.int x0)] [(.int (1 : Int32)), (.int x0), (.ref a15), (.ref b1)])) _
      refine XS.isub X15.here hx rfl (hb hby d1_11) rfl ?_
      exact Steps.refl _)
  by_cases hc26 : x0 = (1 : Int32)
  · have hw27 : (x0 - (1 : Int32)) = (0 : Int32) := by rw [hc26]; decide
    rw [hw27] at st25
    obtain ⟨cq28, kq28, q28a, q28b, q28c⟩ := isOf hZ e15 qe15
    obtain ⟨_, _, ⟨T28, L28, k28, n28⟩, -, X28, hSn28, hgn28, ⟨Lc28, hQ28, l28, y28, z28⟩, sr28⟩ := X15.virtualBackS hx (y := (⟨"java/lang/String", "repeat", "(I)Ljava/lang/String;"⟩ : MethodName)) (z := (⟨"java/lang/String", "repeat", "(I)Ljava/lang/String;"⟩ : MethodName)) hown (mvT hZ (hw _ (List.mem_of_getElem? (i := 32) rfl))) (mvT hZ (hw _ (List.mem_of_getElem? (i := 33) rfl))) (notFace_of_selects (args := #[]) (mvT hZ (hw _ (List.mem_of_getElem? (i := 35) rfl)))) (mvT hZ (hw _ (List.mem_of_getElem? (i := 35) rfl))) (mvT hZ (hw _ (List.mem_of_getElem? (i := 34) rfl))) (by decide) (own_backSI (W := 1) (rmrp0 l Z a0 hw [] a15 b15 k15 h15 n0 Z15 qe15 qv15 qc15 qa15 hcw (fun b cl q => K23.2.1 b cl (hkp b cl q) (by simp)) hc7) hZ hI (hw _ (List.mem_of_getElem? (i := 36) rfl)) (hw _ (List.mem_of_getElem? (i := 20) rfl)) (by decide) (by decide)) q28a q28c (g := (mkF m 12 #[.val (.int x0)] [(.int (0 : Int32)), (.ref a15), (.ref b1)])) rfl (by rw [hml]; rfl) (Steps.refl _) (argsL := [(.int (0 : Int32))]) (rest := [(.ref b1)]) (lenOf pd_21 rfl) rfl (by show 2 * 0 + _ ≤ _; exact Nat.le_of_eq rfl) (hb hby d1_12) (fun _ _ => ⟨rfl, e15, (by decide : 4 + 2 ≤ _), (by decide : 36 + 4 ≤ _)⟩)
    dsimp only [Pt.U, Pt.locs, Pt.cells, Pt.slots] at X28 l28 y28 z28 sr28 hQ28 hSn28 hgn28
    obtain ⟨X28, hS, hZ, hown⟩ := rebS hS (by rw [e15]; exact hk) X28 hSn28 hgn28 hZ hown
    have hk := Nat.le_refl T28.heap.size
    obtain ⟨kS, ekS⟩ : ∃ z, z = T28.heap.size := ⟨_, rfl⟩
    rw [← ekS] at hS
    have hk : kS ≤ T28.heap.size := Nat.le_of_eq ekS
    subst l28 y28 z28
    obtain ⟨hQ28, hI⟩ := hQ28
    obtain ⟨rE28, rfl, N28q, K28c, ⟨bN, kN, qE, qC, qV, qA⟩⟩ := hQ28
    have N28 := Fr.app N9 N28q
    obtain ⟨LL28, X28, N28⟩ := own_hide X28 N28
    have f29 : Sta Z T28.heap "java/lang/String" "COMPACT_STRINGS" "Z" (.int cs) := own_sta_keep f16 K28c all0
    have f30 : Exa Z T28.heap b1 "java/lang/StringBuilder" := f17.keep K28c
    have f31 : Fld Z T28.heap b1 "java/lang/AbstractStringBuilder" "coder" "B" (.int (0 : Int32)) := f18.keep K28c nin0
    have f32 : Fld Z T28.heap b1 "java/lang/AbstractStringBuilder" "count" "I" (.int (0 : Int32)) := f19.keep K28c nin0
    have f33 : Fld Z T28.heap b1 "java/lang/AbstractStringBuilder" "value" "[B" (.ref aV) := f20.keep K28c nin0
    have f34 : Exa Z T28.heap aV "[B" := f21.keep K28c
    have f35 : Arv Z T28.heap aV kV .byte (16 : Int32) [(.int (0 : Int32)), (.int (0 : Int32)), (.int (0 : Int32)), (.int (0 : Int32)), (.int (0 : Int32)), (.int (0 : Int32)), (.int (0 : Int32)), (.int (0 : Int32)), (.int (0 : Int32)), (.int (0 : Int32)), (.int (0 : Int32)), (.int (0 : Int32)), (.int (0 : Int32)), (.int (0 : Int32)), (.int (0 : Int32)), (.int (0 : Int32))] (.int (0 : Int32)) := f22.keep K28c nin0
    have f36 : Exa Z T28.heap a15 "java/lang/String" := qe15.keep K28c
    have f37 : Fld Z T28.heap a15 "java/lang/String" "coder" "B" (.int (0 : Int32)) := qc15.keep K28c nin0
    have f38 : Fld Z T28.heap a15 "java/lang/String" "value" "[B" (.ref b15) := qv15.keep K28c nin0
    have f39 : Arv Z T28.heap b15 k15 .byte (3 : Int32) [(.int (63 : Int32)), (.int (44 : Int32)), (.int (32 : Int32))] (.int (0 : Int32)) := qa15.keep K28c nin0
    have K40 : Keep h0 T28.heap [] := K23.trans K28c all0
    have Z41 : n0 ≤ T28.heap.size := Nat.le_trans Z15 K28c.1
    have ne_b1_rE28 : b1 ≠ rE28 := Exa.ne f30 qE (by decide)
    have ne_b1_bN : b1 ≠ bN := Exa.neArv f30 qA (hw _ (List.mem_of_getElem? (i := 5) rfl))
    have ne_aV_rE28 : aV ≠ rE28 := Exa.ne f34 qE (by decide)
    have ne_aV_bN : aV ≠ bN := own_neL f35 qA (by decide)
    have st42 : Steps p.tables e below sE (T28.setTop (mkF m 15 #[.val (.int x0)] [(.ref rE28), (.ref b1)])) := st25.trans (sr28)
    obtain ⟨cq43, kq43, q43a, q43b, q43c⟩ := isOf hZ rfl f30
    obtain ⟨_, _, ⟨T43, L43, k43, n43⟩, -, X43, ⟨Lc43, hQ43, l43, y43, z43⟩, sr43⟩ := X28.virtualBack hx (y := (⟨"java/lang/StringBuilder", "append", "(Ljava/lang/String;)Ljava/lang/StringBuilder;"⟩ : MethodName)) (z := (⟨"java/lang/StringBuilder", "append", "(Ljava/lang/String;)Ljava/lang/StringBuilder;"⟩ : MethodName)) hown (mvT hZ (hw _ (List.mem_of_getElem? (i := 39) rfl))) (mvT hZ (hw _ (List.mem_of_getElem? (i := 40) rfl))) (notFace_of_selects (args := #[]) (mvT hZ (hw _ (List.mem_of_getElem? (i := 42) rfl)))) (mvT hZ (hw _ (List.mem_of_getElem? (i := 42) rfl))) (mvT hZ (hw _ (List.mem_of_getElem? (i := 41) rfl))) (by decide) (backOf (W := 0) (rm6 l Z a0 hw [] b1 rE28 cs bN kN (0 : Int32) ([] : List Int32) aV kV (16 : Int32) ([(0 : Int32), (0 : Int32), (0 : Int32), (0 : Int32), (0 : Int32), (0 : Int32), (0 : Int32), (0 : Int32), (0 : Int32), (0 : Int32), (0 : Int32), (0 : Int32), (0 : Int32), (0 : Int32), (0 : Int32), (0 : Int32)] : List Int32) (0 : Int32) T28.heap n0 Z41 f29 hcs f30 f33 f31 f34 f35 f32 qE qV qC qA own_bd16 own_st0 g_b1 qg qn (Ne.symm ne_aV_rE28) (Ne.symm ne_aV_bN) ne_b1_rE28 ne_b1_bN) hZ (hw _ (List.mem_of_getElem? (i := 43) rfl)) (hw _ (List.mem_of_getElem? (i := 6) rfl)) (by decide) (by decide)) q43a q43c (g := (mkF m 15 #[.val (.int x0)] [(.ref rE28), (.ref b1)])) rfl (by rw [hml]; rfl) (Steps.refl _) (argsL := [(.ref rE28)]) (rest := []) (lenOf pd_22 rfl) rfl (by show 2 * 0 + _ ≤ _; exact Nat.le_of_eq rfl) (hb hby d1_15) (fun _ _ => ⟨rfl, rfl, (by decide : 6 + 1 ≤ _), (by decide : 40 + 12300 ≤ _)⟩)
    dsimp only [Pt.U, Pt.locs, Pt.cells, Pt.slots] at X43 l43 y43 z43 sr43 hQ43
    subst l43 y43 z43
    obtain ⟨rfl, N43q, K43c, f43_0, f43_1, f43_2, ⟨aP, kP, nwP, LP, qvP, qeP, qaP, hbP, hwP, g_aP, nxP, hoP⟩⟩ := hQ43
    have N43 := Fr.app N28 N43q
    obtain ⟨LL43, X43, N43⟩ := own_hide X43 N43
    have f44 : Sta Z T43.heap "java/lang/String" "COMPACT_STRINGS" "Z" (.int cs) := own_sta_keep f29 K43c (allS (own_ns f30) (allS (own_ns f34) all0))
    have f45 : Exa Z T43.heap b1 "java/lang/StringBuilder" := f30.keep K43c
    have f46 : Exa Z T43.heap aV "[B" := f34.keep K43c
    have f47 : Exa Z T43.heap a15 "java/lang/String" := f36.keep K43c
    have f48 : Fld Z T43.heap a15 "java/lang/String" "coder" "B" (.int (0 : Int32)) := f37.keep K43c (ninS (Ne.symm ne_b1_a15) (ninS (Ne.symm ne_aV_a15) nin0))
    have f49 : Fld Z T43.heap a15 "java/lang/String" "value" "[B" (.ref b15) := f38.keep K43c (ninS (Ne.symm ne_b1_a15) (ninS (Ne.symm ne_aV_a15) nin0))
    have f50 : Arv Z T43.heap b15 k15 .byte (3 : Int32) [(.int (63 : Int32)), (.int (44 : Int32)), (.int (32 : Int32))] (.int (0 : Int32)) := f39.keep K43c (ninS (Ne.symm ne_b1_b15) (ninS (Ne.symm ne_aV_b15) nin0))
    have f51 : Exa Z T43.heap rE28 "java/lang/String" := qE.keep K43c
    have f52 : Fld Z T43.heap rE28 "java/lang/String" "coder" "B" (.int (0 : Int32)) := qC.keep K43c (ninS (Ne.symm ne_b1_rE28) (ninS (Ne.symm ne_aV_rE28) nin0))
    have f53 : Fld Z T43.heap rE28 "java/lang/String" "value" "[B" (.ref bN) := qV.keep K43c (ninS (Ne.symm ne_b1_rE28) (ninS (Ne.symm ne_aV_rE28) nin0))
    have f54 : Arv Z T43.heap bN kN .byte (0 : Int32) [] (.int (0 : Int32)) := qA.keep K43c (ninS (Ne.symm ne_b1_bN) (ninS (Ne.symm ne_aV_bN) nin0))
    have K55 : Keep h0 T43.heap [] := K40.trans K43c (allS (Or.inr sz_b1) (allS (Or.inr sz_aV) all0))
    have Z56 : n0 ≤ T43.heap.size := Nat.le_trans Z41 K43c.1
    have hk : kS ≤ T43.heap.size := Nat.le_trans hk K43c.1
    obtain ⟨c1, e_c1⟩ : ∃ z, z = ((0 : Int32) + (0 : Int32)) := ⟨_, rfl⟩
    rw [← e_c1] at hbP f43_2
    have hc1 : c1.toInt = 3 * x0.toInt - 3 := by rw [e_c1, hc26]; decide
    have hbP := own_bdW hbP hwP (by decide)
    have sz_aP : h0.size ≤ aP := hoP.elim (fun q => by rw [q]; exact sz_aV) (fun q => Nat.le_trans K40.1 q)
    have st57 : Steps p.tables e below sE (T43.setTop (mkF m 18 #[.val (.int x0)] [(.ref b1)])) := st42.trans (sr43)
    obtain ⟨a58, T58, h58, kS, b58, k58, X58, e58, E58, hS, hk, hZ, hown, qe58, qc58, qv58, qa58, -, -, hI, -, ql58, sr58⟩ := ldcSVd (s := s) X43 hx hZ hown (hw _ (List.mem_of_getElem? (i := 88) rfl)) (own_wS hw) rfl hS hk (own_frm N43 (by rw [hh]; exact hn0)) (by rw [hh]; exact hkp) hI (by decide) hc22 hcw (vs := [(.int (63 : Int32))]) (z := (1 : Int32)) (by decide) (by decide) (by decide) (g := (mkF m 18 #[.val (.int x0)] [(.ref b1)])) rfl (hb hby d1_18) (n := 4) (by decide) (by decide) (by decide) (by decide)
    rw [hh] at ql58
    have ne_b1_a58 : b1 ≠ a58 := ql58.elim (fun q => Nat.ne_of_gt (Nat.lt_of_lt_of_le q.1 sz_b1)) (fun q => Nat.ne_of_lt (Nat.lt_of_lt_of_le f43_0.lt q.1))
    have ne_b1_b58 : b1 ≠ b58 := ql58.elim (fun q => Nat.ne_of_gt (Nat.lt_of_lt_of_le q.2 sz_b1)) (fun q => Nat.ne_of_lt (Nat.lt_of_lt_of_le f43_0.lt q.2))
    have ne_aP_a58 : aP ≠ a58 := ql58.elim (fun q => Nat.ne_of_gt (Nat.lt_of_lt_of_le q.1 sz_aP)) (fun q => Nat.ne_of_lt (Nat.lt_of_lt_of_le qeP.lt q.1))
    have ne_aP_b58 : aP ≠ b58 := ql58.elim (fun q => Nat.ne_of_gt (Nat.lt_of_lt_of_le q.2 sz_aP)) (fun q => Nat.ne_of_lt (Nat.lt_of_lt_of_le qeP.lt q.2))
    have f59 : Sta Z h58 "java/lang/String" "COMPACT_STRINGS" "Z" (.int cs) := f44.ext E58
    have f60 : Exa Z h58 b1 "java/lang/StringBuilder" := f43_0.ext E58
    have f61 : Fld Z h58 b1 "java/lang/AbstractStringBuilder" "coder" "B" (.int (0 : Int32)) := f43_1.ext E58
    have f62 : Fld Z h58 b1 "java/lang/AbstractStringBuilder" "count" "I" (.int c1) := f43_2.ext E58
    have f63 : Fld Z h58 b1 "java/lang/AbstractStringBuilder" "value" "[B" (.ref aP) := qvP.ext E58
    have f64 : Exa Z h58 aP "[B" := qeP.ext E58
    have f65 : Arv Z h58 aP kP .byte nwP (List.map Value.int LP) (.int (0 : Int32)) := qaP.ext E58
    have K66 : Keep h0 h58 [] := K55.ext E58
    have Z58 : n0 ≤ h58.size := Nat.le_trans Z56 E58.1
    have st67 : Steps p.tables e below sE (T58.setTop (mkF m 20 #[.val (.int x0)] [(.ref a58), (.ref b1)])) := st57.trans (sr58 _ (Steps.refl _))
    obtain ⟨cq68, kq68, q68a, q68b, q68c⟩ := isOf hZ e58 f60
    obtain ⟨_, _, ⟨T68, L68, k68, n68⟩, -, X68, ⟨Lc68, hQ68, l68, y68, z68⟩, sr68⟩ := X58.virtualBack hx (y := (⟨"java/lang/StringBuilder", "append", "(Ljava/lang/String;)Ljava/lang/StringBuilder;"⟩ : MethodName)) (z := (⟨"java/lang/StringBuilder", "append", "(Ljava/lang/String;)Ljava/lang/StringBuilder;"⟩ : MethodName)) hown (mvT hZ (hw _ (List.mem_of_getElem? (i := 39) rfl))) (mvT hZ (hw _ (List.mem_of_getElem? (i := 40) rfl))) (notFace_of_selects (args := #[]) (mvT hZ (hw _ (List.mem_of_getElem? (i := 42) rfl)))) (mvT hZ (hw _ (List.mem_of_getElem? (i := 42) rfl))) (mvT hZ (hw _ (List.mem_of_getElem? (i := 41) rfl))) (by decide) (backOf (W := 0) (rm6 l Z a0 hw [] b1 a58 cs b58 k58 (1 : Int32) ([(63 : Int32)] : List Int32) aP kP nwP LP c1 h58 n0 Z58 f59 hcs f60 f63 f61 f64 f65 f62 qe58 qv58 qc58 qa58 hbP (own_st1 hxb hc1) g_b1 g_aP nxP (Ne.symm ne_aP_a58) (Ne.symm ne_aP_b58) ne_b1_a58 ne_b1_b58) hZ (hw _ (List.mem_of_getElem? (i := 43) rfl)) (hw _ (List.mem_of_getElem? (i := 6) rfl)) (by decide) (by decide)) q68a q68c (g := (mkF m 20 #[.val (.int x0)] [(.ref a58), (.ref b1)])) rfl (by rw [hml]; rfl) (Steps.refl _) (argsL := [(.ref a58)]) (rest := []) (lenOf pd_22 rfl) rfl (by show 2 * 0 + _ ≤ _; exact Nat.le_of_eq rfl) (hb hby d1_20) (fun _ _ => ⟨rfl, e58, (by decide : 9 + 1 ≤ _), (by decide : 12348 + 12300 ≤ _)⟩)
    dsimp only [Pt.U, Pt.locs, Pt.cells, Pt.slots] at X68 l68 y68 z68 sr68 hQ68
    subst l68 y68 z68
    obtain ⟨rfl, N68q, K68c, f68_0, f68_1, f68_2, ⟨aQ, kQ, nwQ, LQ, qvQ, qeQ, qaQ, hbQ, -, g_aQ, nxQ, -⟩⟩ := hQ68
    have N68 := Fr.app N43 N68q
    obtain ⟨LL68, X68, N68⟩ := own_hide X68 N68
    have f69 : Sta Z T68.heap "java/lang/String" "COMPACT_STRINGS" "Z" (.int cs) := own_sta_keep f59 K68c (allS (own_ns f60) (allS (own_ns f64) all0))
    have f70 : Exa Z T68.heap b1 "java/lang/StringBuilder" := f60.keep K68c
    have f71 : Exa Z T68.heap aP "[B" := f64.keep K68c
    have f72 : Exa Z T68.heap a58 "java/lang/String" := qe58.keep K68c
    have f73 : Fld Z T68.heap a58 "java/lang/String" "coder" "B" (.int (0 : Int32)) := qc58.keep K68c (ninS (Ne.symm ne_b1_a58) (ninS (Ne.symm ne_aP_a58) nin0))
    have f74 : Fld Z T68.heap a58 "java/lang/String" "value" "[B" (.ref b58) := qv58.keep K68c (ninS (Ne.symm ne_b1_a58) (ninS (Ne.symm ne_aP_a58) nin0))
    have f75 : Arv Z T68.heap b58 k58 .byte (1 : Int32) [(.int (63 : Int32))] (.int (0 : Int32)) := qa58.keep K68c (ninS (Ne.symm ne_b1_b58) (ninS (Ne.symm ne_aP_b58) nin0))
    have K76 : Keep h0 T68.heap [] := K66.trans K68c (allS (Or.inr sz_b1) (allS (Or.inr sz_aP) all0))
    have Z77 : n0 ≤ T68.heap.size := Nat.le_trans Z58 K68c.1
    have hk : kS ≤ T68.heap.size := Nat.le_trans hk K68c.1
    have st78 : Steps p.tables e below sE (T68.setTop (mkF m 23 #[.val (.int x0)] [(.ref b1)])) := st67.trans (sr68)
    obtain ⟨cq79, kq79, q79a, q79b, q79c⟩ := isOf hZ rfl f68_0
    obtain ⟨_, _, ⟨T79, L79, k79, n79⟩, -, X79, ⟨Lc79, hQ79, l79, y79, z79⟩, sr79⟩ := X68.virtualBack hx (y := (⟨"java/lang/StringBuilder", "toString", "()Ljava/lang/String;"⟩ : MethodName)) (z := (⟨"java/lang/StringBuilder", "toString", "()Ljava/lang/String;"⟩ : MethodName)) hown (mvT hZ (hw _ (List.mem_of_getElem? (i := 89) rfl))) (mvT hZ (hw _ (List.mem_of_getElem? (i := 90) rfl))) (notFace_of_selects (args := #[]) (mvT hZ (hw _ (List.mem_of_getElem? (i := 92) rfl)))) (mvT hZ (hw _ (List.mem_of_getElem? (i := 92) rfl))) (mvT hZ (hw _ (List.mem_of_getElem? (i := 91) rfl))) (by decide) (backOf (W := 0) (rm14 l Z a0 hw [] b1 cs aQ kQ nwQ LQ (c1 + (1 : Int32)) T68.heap n0 Z77 f69 hcs f68_0 qvQ f68_1 f68_2 qeQ qaQ hbQ (by rw [own_c2 hxb hc1]; omega)) hZ (hw _ (List.mem_of_getElem? (i := 93) rfl)) (hw _ (List.mem_of_getElem? (i := 6) rfl)) (by decide) (by decide)) q79a q79c (g := (mkF m 23 #[.val (.int x0)] [(.ref b1)])) rfl (by rw [hml]; rfl) (Steps.refl _) (argsL := []) (rest := []) (lenOf pd_23 rfl) rfl (by show 2 * 0 + _ ≤ _; exact Nat.le_of_eq rfl) (hb hby d1_23) (fun _ _ => ⟨rfl, rfl, (by decide : 10 + 2 ≤ _), (by decide : 24648 + 6146 ≤ _)⟩)
    dsimp only [Pt.U, Pt.locs, Pt.cells, Pt.slots] at X79 l79 y79 z79 sr79 hQ79
    subst l79 y79 z79
    obtain ⟨rfl, N79q, K79c, ⟨qES, qCS, aS, kS', LS', qVS, qAS, hLS⟩⟩ := hQ79
    have N79 := Fr.app N68 N79q
    obtain ⟨LL79, X79, N79⟩ := own_hide X79 N79
    have f80 : Sta Z T79.heap "java/lang/String" "COMPACT_STRINGS" "Z" (.int cs) := own_sta_keep f69 K79c all0
    have f81 : Exa Z T79.heap b1 "java/lang/StringBuilder" := f68_0.keep K79c
    have f82 : Fld Z T79.heap b1 "java/lang/AbstractStringBuilder" "coder" "B" (.int (0 : Int32)) := f68_1.keep K79c nin0
    have f83 : Fld Z T79.heap b1 "java/lang/AbstractStringBuilder" "count" "I" (.int (c1 + (1 : Int32))) := f68_2.keep K79c nin0
    have f84 : Fld Z T79.heap b1 "java/lang/AbstractStringBuilder" "value" "[B" (.ref aQ) := qvQ.keep K79c nin0
    have f85 : Exa Z T79.heap aQ "[B" := qeQ.keep K79c
    have f86 : Arv Z T79.heap aQ kQ .byte nwQ (List.map Value.int LQ) (.int (0 : Int32)) := qaQ.keep K79c nin0
    have K87 : Keep h0 T79.heap [] := K76.trans K79c all0
    have Z88 : n0 ≤ T79.heap.size := Nat.le_trans Z77 K79c.1
    have hk : kS ≤ T79.heap.size := Nat.le_trans hk K79c.1
    obtain ⟨rS, grS⟩ : ∃ z, z = T68.heap.size := ⟨_, rfl⟩
    rw [← grS] at qES qCS qVS sr79
    have st89 : Steps p.tables e below sE (T79.setTop (mkF m 26 #[.val (.int x0)] [(.ref rS)])) := st78.trans (sr79)
    obtain ⟨fs, hr, hrun, hended, hEW⟩ := X79.leaveW hS hk (v := some (.ref rS)) (fun h => by rw [Bd.returns] at h; cases h) hlk
    have hIe := own_ibw X79 hI
    refine ⟨_, _, (own_ent hsE st89).trans ?_, hrun, hended, _, _, rfl, ⟨?_, hIe⟩, hEW.1, hEW.2.1, hEW.2.2.1, hEW.2.2.2.mono (by decide) (by decide)⟩
    · exact retOut X79 hx (t := (.object "java/lang/String")) Bd.returns rfl (Or.inr (Or.inr (Or.inr (Or.inr ⟨rfl, rfl, rfl⟩)))) (hb hby d1_26) hr
    · show Q1 Z x0 cs h0 n0 _ T79.heap _
      exact ⟨rS, rfl, N79, K87, ⟨aS, kS', _, LS', qES, qCS, qVS, qAS, own_c2 hxb hc1, hLS⟩⟩
  · by_cases hc90 : x0 = (2 : Int32)
    · have hw91 : (x0 - (1 : Int32)) = (1 : Int32) := by rw [hc90]; decide
      rw [hw91] at st25
      have hI := own_ibm (Ts' := ["", "?, "]) hI (by simp)
      obtain ⟨cq92, kq92, q92a, q92b, q92c⟩ := isOf hZ e15 qe15
      obtain ⟨_, _, ⟨T92, L92, k92, n92⟩, -, X92, ⟨Lc92, hQ92, l92, y92, z92⟩, sr92⟩ := X15.virtualBack hx (y := (⟨"java/lang/String", "repeat", "(I)Ljava/lang/String;"⟩ : MethodName)) (z := (⟨"java/lang/String", "repeat", "(I)Ljava/lang/String;"⟩ : MethodName)) hown (mvT hZ (hw _ (List.mem_of_getElem? (i := 32) rfl))) (mvT hZ (hw _ (List.mem_of_getElem? (i := 33) rfl))) (notFace_of_selects (args := #[]) (mvT hZ (hw _ (List.mem_of_getElem? (i := 35) rfl)))) (mvT hZ (hw _ (List.mem_of_getElem? (i := 35) rfl))) (mvT hZ (hw _ (List.mem_of_getElem? (i := 34) rfl))) (by decide) (backOf (W := 1) (rmrp1 l Z a0 hw [] a15  h15 n0 Z15 ) hZ (hw _ (List.mem_of_getElem? (i := 36) rfl)) (hw _ (List.mem_of_getElem? (i := 20) rfl)) (by decide) (by decide)) q92a q92c (g := (mkF m 12 #[.val (.int x0)] [(.int (1 : Int32)), (.ref a15), (.ref b1)])) rfl (by rw [hml]; rfl) (Steps.refl _) (argsL := [(.int (1 : Int32))]) (rest := [(.ref b1)]) (lenOf pd_21 rfl) rfl (by show 2 * 0 + _ ≤ _; exact Nat.le_of_eq rfl) (hb hby d1_12) (fun _ _ => ⟨rfl, e15, (by decide : 4 + 0 ≤ _), (by decide : 36 + 0 ≤ _)⟩)
      dsimp only [Pt.U, Pt.locs, Pt.cells, Pt.slots] at X92 l92 y92 z92 sr92 hQ92
      subst l92 y92 z92
      obtain ⟨rfl, N92q, hh92⟩ := hQ92
      have N92 := Fr.app N9 N92q
      obtain ⟨LL92, X92, N92⟩ := own_hide X92 N92
      have st93 : Steps p.tables e below sE (T92.setTop (mkF m 15 #[.val (.int x0)] [(.ref a15), (.ref b1)])) := st25.trans (sr92)
      obtain ⟨cq94, kq94, q94a, q94b, q94c⟩ := isOf hZ hh92 f17
      obtain ⟨_, _, ⟨T94, L94, k94, n94⟩, -, X94, ⟨Lc94, hQ94, l94, y94, z94⟩, sr94⟩ := X92.virtualBack hx (y := (⟨"java/lang/StringBuilder", "append", "(Ljava/lang/String;)Ljava/lang/StringBuilder;"⟩ : MethodName)) (z := (⟨"java/lang/StringBuilder", "append", "(Ljava/lang/String;)Ljava/lang/StringBuilder;"⟩ : MethodName)) hown (mvT hZ (hw _ (List.mem_of_getElem? (i := 39) rfl))) (mvT hZ (hw _ (List.mem_of_getElem? (i := 40) rfl))) (notFace_of_selects (args := #[]) (mvT hZ (hw _ (List.mem_of_getElem? (i := 42) rfl)))) (mvT hZ (hw _ (List.mem_of_getElem? (i := 42) rfl))) (mvT hZ (hw _ (List.mem_of_getElem? (i := 41) rfl))) (by decide) (backOf (W := 0) (rm6 l Z a0 hw [] b1 a15 cs b15 k15 (3 : Int32) ([(63 : Int32), (44 : Int32), (32 : Int32)] : List Int32) aV kV (16 : Int32) ([(0 : Int32), (0 : Int32), (0 : Int32), (0 : Int32), (0 : Int32), (0 : Int32), (0 : Int32), (0 : Int32), (0 : Int32), (0 : Int32), (0 : Int32), (0 : Int32), (0 : Int32), (0 : Int32), (0 : Int32), (0 : Int32)] : List Int32) (0 : Int32) h15 n0 Z15 f16 hcs f17 f20 f18 f21 f22 f19 qe15 qv15 qc15 qa15 own_bd16 own_st3 g_b1 qg qn (Ne.symm ne_aV_a15) (Ne.symm ne_aV_b15) ne_b1_a15 ne_b1_b15) hZ (hw _ (List.mem_of_getElem? (i := 43) rfl)) (hw _ (List.mem_of_getElem? (i := 6) rfl)) (by decide) (by decide)) q94a q94c (g := (mkF m 15 #[.val (.int x0)] [(.ref a15), (.ref b1)])) rfl (by rw [hml]; rfl) (Steps.refl _) (argsL := [(.ref a15)]) (rest := []) (lenOf pd_22 rfl) rfl (by show 2 * 0 + _ ≤ _; exact Nat.le_of_eq rfl) (hb hby d1_15) (fun _ _ => ⟨rfl, hh92, (by decide : 4 + 1 ≤ _), (by decide : 36 + 12300 ≤ _)⟩)
      dsimp only [Pt.U, Pt.locs, Pt.cells, Pt.slots] at X94 l94 y94 z94 sr94 hQ94
      subst l94 y94 z94
      obtain ⟨rfl, N94q, K94c, f94_0, f94_1, f94_2, ⟨aP, kP, nwP, LP, qvP, qeP, qaP, hbP, hwP, g_aP, nxP, hoP⟩⟩ := hQ94
      have N94 := Fr.app N92 N94q
      obtain ⟨LL94, X94, N94⟩ := own_hide X94 N94
      have f95 : Sta Z T94.heap "java/lang/String" "COMPACT_STRINGS" "Z" (.int cs) := own_sta_keep f16 K94c (allS (own_ns f17) (allS (own_ns f21) all0))
      have f96 : Exa Z T94.heap b1 "java/lang/StringBuilder" := f17.keep K94c
      have f97 : Exa Z T94.heap aV "[B" := f21.keep K94c
      have f98 : Exa Z T94.heap a15 "java/lang/String" := qe15.keep K94c
      have f99 : Fld Z T94.heap a15 "java/lang/String" "coder" "B" (.int (0 : Int32)) := qc15.keep K94c (ninS (Ne.symm ne_b1_a15) (ninS (Ne.symm ne_aV_a15) nin0))
      have f100 : Fld Z T94.heap a15 "java/lang/String" "value" "[B" (.ref b15) := qv15.keep K94c (ninS (Ne.symm ne_b1_a15) (ninS (Ne.symm ne_aV_a15) nin0))
      have f101 : Arv Z T94.heap b15 k15 .byte (3 : Int32) [(.int (63 : Int32)), (.int (44 : Int32)), (.int (32 : Int32))] (.int (0 : Int32)) := qa15.keep K94c (ninS (Ne.symm ne_b1_b15) (ninS (Ne.symm ne_aV_b15) nin0))
      have K102 : Keep h0 T94.heap [] := K23.trans K94c (allS (Or.inr sz_b1) (allS (Or.inr sz_aV) all0))
      have Z103 : n0 ≤ T94.heap.size := Nat.le_trans Z15 K94c.1
      have hk : kS ≤ T94.heap.size := Nat.le_trans hk K94c.1
      obtain ⟨c1, e_c1⟩ : ∃ z, z = ((0 : Int32) + (3 : Int32)) := ⟨_, rfl⟩
      rw [← e_c1] at hbP f94_2
      have hc1 : c1.toInt = 3 * x0.toInt - 3 := by rw [e_c1, hc90]; decide
      have hbP := own_bdW hbP hwP (by decide)
      have sz_aP : h0.size ≤ aP := hoP.elim (fun q => by rw [q]; exact sz_aV) (fun q => Nat.le_trans K23.1 q)
      have st104 : Steps p.tables e below sE (T94.setTop (mkF m 18 #[.val (.int x0)] [(.ref b1)])) := st93.trans (sr94)
      obtain ⟨a105, T105, h105, kS, b105, k105, X105, e105, E105, hS, hk, hZ, hown, qe105, qc105, qv105, qa105, -, -, hI, -, ql105, sr105⟩ := ldcSVd (s := s) X94 hx hZ hown (hw _ (List.mem_of_getElem? (i := 88) rfl)) (own_wS hw) rfl hS hk (own_frm N94 (by rw [hh]; exact hn0)) (by rw [hh]; exact hkp) hI (by decide) hc22 hcw (vs := [(.int (63 : Int32))]) (z := (1 : Int32)) (by decide) (by decide) (by decide) (g := (mkF m 18 #[.val (.int x0)] [(.ref b1)])) rfl (hb hby d1_18) (n := 4) (by decide) (by decide) (by decide) (by decide)
      rw [hh] at ql105
      have ne_b1_a105 : b1 ≠ a105 := ql105.elim (fun q => Nat.ne_of_gt (Nat.lt_of_lt_of_le q.1 sz_b1)) (fun q => Nat.ne_of_lt (Nat.lt_of_lt_of_le f94_0.lt q.1))
      have ne_b1_b105 : b1 ≠ b105 := ql105.elim (fun q => Nat.ne_of_gt (Nat.lt_of_lt_of_le q.2 sz_b1)) (fun q => Nat.ne_of_lt (Nat.lt_of_lt_of_le f94_0.lt q.2))
      have ne_aP_a105 : aP ≠ a105 := ql105.elim (fun q => Nat.ne_of_gt (Nat.lt_of_lt_of_le q.1 sz_aP)) (fun q => Nat.ne_of_lt (Nat.lt_of_lt_of_le qeP.lt q.1))
      have ne_aP_b105 : aP ≠ b105 := ql105.elim (fun q => Nat.ne_of_gt (Nat.lt_of_lt_of_le q.2 sz_aP)) (fun q => Nat.ne_of_lt (Nat.lt_of_lt_of_le qeP.lt q.2))
      have f106 : Sta Z h105 "java/lang/String" "COMPACT_STRINGS" "Z" (.int cs) := f95.ext E105
      have f107 : Exa Z h105 b1 "java/lang/StringBuilder" := f94_0.ext E105
      have f108 : Fld Z h105 b1 "java/lang/AbstractStringBuilder" "coder" "B" (.int (0 : Int32)) := f94_1.ext E105
      have f109 : Fld Z h105 b1 "java/lang/AbstractStringBuilder" "count" "I" (.int c1) := f94_2.ext E105
      have f110 : Fld Z h105 b1 "java/lang/AbstractStringBuilder" "value" "[B" (.ref aP) := qvP.ext E105
      have f111 : Exa Z h105 aP "[B" := qeP.ext E105
      have f112 : Arv Z h105 aP kP .byte nwP (List.map Value.int LP) (.int (0 : Int32)) := qaP.ext E105
      have K113 : Keep h0 h105 [] := K102.ext E105
      have Z105 : n0 ≤ h105.size := Nat.le_trans Z103 E105.1
      have st114 : Steps p.tables e below sE (T105.setTop (mkF m 20 #[.val (.int x0)] [(.ref a105), (.ref b1)])) := st104.trans (sr105 _ (Steps.refl _))
      obtain ⟨cq115, kq115, q115a, q115b, q115c⟩ := isOf hZ e105 f107
      obtain ⟨_, _, ⟨T115, L115, k115, n115⟩, -, X115, ⟨Lc115, hQ115, l115, y115, z115⟩, sr115⟩ := X105.virtualBack hx (y := (⟨"java/lang/StringBuilder", "append", "(Ljava/lang/String;)Ljava/lang/StringBuilder;"⟩ : MethodName)) (z := (⟨"java/lang/StringBuilder", "append", "(Ljava/lang/String;)Ljava/lang/StringBuilder;"⟩ : MethodName)) hown (mvT hZ (hw _ (List.mem_of_getElem? (i := 39) rfl))) (mvT hZ (hw _ (List.mem_of_getElem? (i := 40) rfl))) (notFace_of_selects (args := #[]) (mvT hZ (hw _ (List.mem_of_getElem? (i := 42) rfl)))) (mvT hZ (hw _ (List.mem_of_getElem? (i := 42) rfl))) (mvT hZ (hw _ (List.mem_of_getElem? (i := 41) rfl))) (by decide) (backOf (W := 0) (rm6 l Z a0 hw [] b1 a105 cs b105 k105 (1 : Int32) ([(63 : Int32)] : List Int32) aP kP nwP LP c1 h105 n0 Z105 f106 hcs f107 f110 f108 f111 f112 f109 qe105 qv105 qc105 qa105 hbP (own_st1 hxb hc1) g_b1 g_aP nxP (Ne.symm ne_aP_a105) (Ne.symm ne_aP_b105) ne_b1_a105 ne_b1_b105) hZ (hw _ (List.mem_of_getElem? (i := 43) rfl)) (hw _ (List.mem_of_getElem? (i := 6) rfl)) (by decide) (by decide)) q115a q115c (g := (mkF m 20 #[.val (.int x0)] [(.ref a105), (.ref b1)])) rfl (by rw [hml]; rfl) (Steps.refl _) (argsL := [(.ref a105)]) (rest := []) (lenOf pd_22 rfl) rfl (by show 2 * 0 + _ ≤ _; exact Nat.le_of_eq rfl) (hb hby d1_20) (fun _ _ => ⟨rfl, e105, (by decide : 7 + 1 ≤ _), (by decide : 12344 + 12300 ≤ _)⟩)
      dsimp only [Pt.U, Pt.locs, Pt.cells, Pt.slots] at X115 l115 y115 z115 sr115 hQ115
      subst l115 y115 z115
      obtain ⟨rfl, N115q, K115c, f115_0, f115_1, f115_2, ⟨aQ, kQ, nwQ, LQ, qvQ, qeQ, qaQ, hbQ, -, g_aQ, nxQ, -⟩⟩ := hQ115
      have N115 := Fr.app N94 N115q
      obtain ⟨LL115, X115, N115⟩ := own_hide X115 N115
      have f116 : Sta Z T115.heap "java/lang/String" "COMPACT_STRINGS" "Z" (.int cs) := own_sta_keep f106 K115c (allS (own_ns f107) (allS (own_ns f111) all0))
      have f117 : Exa Z T115.heap b1 "java/lang/StringBuilder" := f107.keep K115c
      have f118 : Exa Z T115.heap aP "[B" := f111.keep K115c
      have f119 : Exa Z T115.heap a105 "java/lang/String" := qe105.keep K115c
      have f120 : Fld Z T115.heap a105 "java/lang/String" "coder" "B" (.int (0 : Int32)) := qc105.keep K115c (ninS (Ne.symm ne_b1_a105) (ninS (Ne.symm ne_aP_a105) nin0))
      have f121 : Fld Z T115.heap a105 "java/lang/String" "value" "[B" (.ref b105) := qv105.keep K115c (ninS (Ne.symm ne_b1_a105) (ninS (Ne.symm ne_aP_a105) nin0))
      have f122 : Arv Z T115.heap b105 k105 .byte (1 : Int32) [(.int (63 : Int32))] (.int (0 : Int32)) := qa105.keep K115c (ninS (Ne.symm ne_b1_b105) (ninS (Ne.symm ne_aP_b105) nin0))
      have K123 : Keep h0 T115.heap [] := K113.trans K115c (allS (Or.inr sz_b1) (allS (Or.inr sz_aP) all0))
      have Z124 : n0 ≤ T115.heap.size := Nat.le_trans Z105 K115c.1
      have hk : kS ≤ T115.heap.size := Nat.le_trans hk K115c.1
      have st125 : Steps p.tables e below sE (T115.setTop (mkF m 23 #[.val (.int x0)] [(.ref b1)])) := st114.trans (sr115)
      obtain ⟨cq126, kq126, q126a, q126b, q126c⟩ := isOf hZ rfl f115_0
      obtain ⟨_, _, ⟨T126, L126, k126, n126⟩, -, X126, ⟨Lc126, hQ126, l126, y126, z126⟩, sr126⟩ := X115.virtualBack hx (y := (⟨"java/lang/StringBuilder", "toString", "()Ljava/lang/String;"⟩ : MethodName)) (z := (⟨"java/lang/StringBuilder", "toString", "()Ljava/lang/String;"⟩ : MethodName)) hown (mvT hZ (hw _ (List.mem_of_getElem? (i := 89) rfl))) (mvT hZ (hw _ (List.mem_of_getElem? (i := 90) rfl))) (notFace_of_selects (args := #[]) (mvT hZ (hw _ (List.mem_of_getElem? (i := 92) rfl)))) (mvT hZ (hw _ (List.mem_of_getElem? (i := 92) rfl))) (mvT hZ (hw _ (List.mem_of_getElem? (i := 91) rfl))) (by decide) (backOf (W := 0) (rm14 l Z a0 hw [] b1 cs aQ kQ nwQ LQ (c1 + (1 : Int32)) T115.heap n0 Z124 f116 hcs f115_0 qvQ f115_1 f115_2 qeQ qaQ hbQ (by rw [own_c2 hxb hc1]; omega)) hZ (hw _ (List.mem_of_getElem? (i := 93) rfl)) (hw _ (List.mem_of_getElem? (i := 6) rfl)) (by decide) (by decide)) q126a q126c (g := (mkF m 23 #[.val (.int x0)] [(.ref b1)])) rfl (by rw [hml]; rfl) (Steps.refl _) (argsL := []) (rest := []) (lenOf pd_23 rfl) rfl (by show 2 * 0 + _ ≤ _; exact Nat.le_of_eq rfl) (hb hby d1_23) (fun _ _ => ⟨rfl, rfl, (by decide : 8 + 2 ≤ _), (by decide : 24644 + 6146 ≤ _)⟩)
      dsimp only [Pt.U, Pt.locs, Pt.cells, Pt.slots] at X126 l126 y126 z126 sr126 hQ126
      subst l126 y126 z126
      obtain ⟨rfl, N126q, K126c, ⟨qES, qCS, aS, kS', LS', qVS, qAS, hLS⟩⟩ := hQ126
      have N126 := Fr.app N115 N126q
      obtain ⟨LL126, X126, N126⟩ := own_hide X126 N126
      have f127 : Sta Z T126.heap "java/lang/String" "COMPACT_STRINGS" "Z" (.int cs) := own_sta_keep f116 K126c all0
      have f128 : Exa Z T126.heap b1 "java/lang/StringBuilder" := f115_0.keep K126c
      have f129 : Fld Z T126.heap b1 "java/lang/AbstractStringBuilder" "coder" "B" (.int (0 : Int32)) := f115_1.keep K126c nin0
      have f130 : Fld Z T126.heap b1 "java/lang/AbstractStringBuilder" "count" "I" (.int (c1 + (1 : Int32))) := f115_2.keep K126c nin0
      have f131 : Fld Z T126.heap b1 "java/lang/AbstractStringBuilder" "value" "[B" (.ref aQ) := qvQ.keep K126c nin0
      have f132 : Exa Z T126.heap aQ "[B" := qeQ.keep K126c
      have f133 : Arv Z T126.heap aQ kQ .byte nwQ (List.map Value.int LQ) (.int (0 : Int32)) := qaQ.keep K126c nin0
      have K134 : Keep h0 T126.heap [] := K123.trans K126c all0
      have Z135 : n0 ≤ T126.heap.size := Nat.le_trans Z124 K126c.1
      have hk : kS ≤ T126.heap.size := Nat.le_trans hk K126c.1
      obtain ⟨rS, grS⟩ : ∃ z, z = T115.heap.size := ⟨_, rfl⟩
      rw [← grS] at qES qCS qVS sr126
      have st136 : Steps p.tables e below sE (T126.setTop (mkF m 26 #[.val (.int x0)] [(.ref rS)])) := st125.trans (sr126)
      obtain ⟨fs, hr, hrun, hended, hEW⟩ := X126.leaveW hS hk (v := some (.ref rS)) (fun h => by rw [Bd.returns] at h; cases h) hlk
      have hIe := own_ibw X126 hI
      refine ⟨_, _, (own_ent hsE st136).trans ?_, hrun, hended, _, _, rfl, ⟨?_, hIe⟩, hEW.1, hEW.2.1, hEW.2.2.1, hEW.2.2.2.mono (by decide) (by decide)⟩
      · exact retOut X126 hx (t := (.object "java/lang/String")) Bd.returns rfl (Or.inr (Or.inr (Or.inr (Or.inr ⟨rfl, rfl, rfl⟩)))) (hb hby d1_26) hr
      · show Q1 Z x0 cs h0 n0 _ T126.heap _
        exact ⟨rS, rfl, N126, K134, ⟨aS, kS', _, LS', qES, qCS, qVS, qAS, own_c2 hxb hc1, hLS⟩⟩
    · obtain ⟨kk, e_kk⟩ : ∃ z, z = (x0 - (1 : Int32)) := ⟨_, rfl⟩
      rw [← e_kk] at st25
      have hkk := own_kk x0 hxb hc26 hc90
      rw [← e_kk] at hkk
      obtain ⟨hk1, hk2, hk3, hk4⟩ := hkk
      have hI := own_ibm (Ts' := ["", "?, "]) hI (by simp)
      obtain ⟨cq137, kq137, q137a, q137b, q137c⟩ := isOf hZ e15 qe15
      obtain ⟨_, _, ⟨T137, L137, k137, n137⟩, -, X137, ⟨Lc137, hQ137, l137, y137, z137⟩, sr137⟩ := X15.virtualBack hx (y := (⟨"java/lang/String", "repeat", "(I)Ljava/lang/String;"⟩ : MethodName)) (z := (⟨"java/lang/String", "repeat", "(I)Ljava/lang/String;"⟩ : MethodName)) hown (mvT hZ (hw _ (List.mem_of_getElem? (i := 32) rfl))) (mvT hZ (hw _ (List.mem_of_getElem? (i := 33) rfl))) (notFace_of_selects (args := #[]) (mvT hZ (hw _ (List.mem_of_getElem? (i := 35) rfl)))) (mvT hZ (hw _ (List.mem_of_getElem? (i := 35) rfl))) (mvT hZ (hw _ (List.mem_of_getElem? (i := 34) rfl))) (by decide) (backOf (W := 1) (rmrpN l Z a0 hw [] a15 kk b15 k15 h15 n0 Z15 qe15 qv15 qc15 qa15 ⟨hk1, hk2⟩) hZ (hw _ (List.mem_of_getElem? (i := 36) rfl)) (hw _ (List.mem_of_getElem? (i := 20) rfl)) (by decide) (by decide)) q137a q137c (g := (mkF m 12 #[.val (.int x0)] [(.int kk), (.ref a15), (.ref b1)])) rfl (by rw [hml]; rfl) (Steps.refl _) (argsL := [(.int kk)]) (rest := [(.ref b1)]) (lenOf pd_21 rfl) rfl (by show 2 * 0 + _ ≤ _; exact Nat.le_of_eq rfl) (hb hby d1_12) (fun _ _ => ⟨rfl, e15, (by decide : 4 + 2 ≤ _), (by decide : 36 + 6145 ≤ _)⟩)
      dsimp only [Pt.U, Pt.locs, Pt.cells, Pt.slots] at X137 l137 y137 z137 sr137 hQ137
      subst l137 y137 z137
      obtain ⟨rE137, rfl, N137q, K137c, ⟨bN, kN, LN, qE, qC, qV, qA, hLN, -, -, s_r, s_b⟩⟩ := hQ137
      have N137 := Fr.app N9 N137q
      obtain ⟨LL137, X137, N137⟩ := own_hide X137 N137
      have f138 : Sta Z T137.heap "java/lang/String" "COMPACT_STRINGS" "Z" (.int cs) := own_sta_keep f16 K137c all0
      have f139 : Exa Z T137.heap b1 "java/lang/StringBuilder" := f17.keep K137c
      have f140 : Fld Z T137.heap b1 "java/lang/AbstractStringBuilder" "coder" "B" (.int (0 : Int32)) := f18.keep K137c nin0
      have f141 : Fld Z T137.heap b1 "java/lang/AbstractStringBuilder" "count" "I" (.int (0 : Int32)) := f19.keep K137c nin0
      have f142 : Fld Z T137.heap b1 "java/lang/AbstractStringBuilder" "value" "[B" (.ref aV) := f20.keep K137c nin0
      have f143 : Exa Z T137.heap aV "[B" := f21.keep K137c
      have f144 : Arv Z T137.heap aV kV .byte (16 : Int32) [(.int (0 : Int32)), (.int (0 : Int32)), (.int (0 : Int32)), (.int (0 : Int32)), (.int (0 : Int32)), (.int (0 : Int32)), (.int (0 : Int32)), (.int (0 : Int32)), (.int (0 : Int32)), (.int (0 : Int32)), (.int (0 : Int32)), (.int (0 : Int32)), (.int (0 : Int32)), (.int (0 : Int32)), (.int (0 : Int32)), (.int (0 : Int32))] (.int (0 : Int32)) := f22.keep K137c nin0
      have f145 : Exa Z T137.heap a15 "java/lang/String" := qe15.keep K137c
      have f146 : Fld Z T137.heap a15 "java/lang/String" "coder" "B" (.int (0 : Int32)) := qc15.keep K137c nin0
      have f147 : Fld Z T137.heap a15 "java/lang/String" "value" "[B" (.ref b15) := qv15.keep K137c nin0
      have f148 : Arv Z T137.heap b15 k15 .byte (3 : Int32) [(.int (63 : Int32)), (.int (44 : Int32)), (.int (32 : Int32))] (.int (0 : Int32)) := qa15.keep K137c nin0
      have K149 : Keep h0 T137.heap [] := K23.trans K137c all0
      have Z150 : n0 ≤ T137.heap.size := Nat.le_trans Z15 K137c.1
      have hk : kS ≤ T137.heap.size := Nat.le_trans hk K137c.1
      have ne_b1_rE137 : b1 ≠ rE137 := Nat.ne_of_lt (Nat.lt_of_lt_of_le f17.lt s_r)
      have ne_b1_bN : b1 ≠ bN := Nat.ne_of_lt (Nat.lt_of_lt_of_le f17.lt s_b)
      have ne_aV_rE137 : aV ≠ rE137 := Nat.ne_of_lt (Nat.lt_of_lt_of_le f21.lt s_r)
      have ne_aV_bN : aV ≠ bN := Nat.ne_of_lt (Nat.lt_of_lt_of_le f21.lt s_b)
      have st151 : Steps p.tables e below sE (T137.setTop (mkF m 15 #[.val (.int x0)] [(.ref rE137), (.ref b1)])) := st25.trans (sr137)
      obtain ⟨cq152, kq152, q152a, q152b, q152c⟩ := isOf hZ rfl f139
      obtain ⟨_, _, ⟨T152, L152, k152, n152⟩, -, X152, ⟨Lc152, hQ152, l152, y152, z152⟩, sr152⟩ := X137.virtualBack hx (y := (⟨"java/lang/StringBuilder", "append", "(Ljava/lang/String;)Ljava/lang/StringBuilder;"⟩ : MethodName)) (z := (⟨"java/lang/StringBuilder", "append", "(Ljava/lang/String;)Ljava/lang/StringBuilder;"⟩ : MethodName)) hown (mvT hZ (hw _ (List.mem_of_getElem? (i := 39) rfl))) (mvT hZ (hw _ (List.mem_of_getElem? (i := 40) rfl))) (notFace_of_selects (args := #[]) (mvT hZ (hw _ (List.mem_of_getElem? (i := 42) rfl)))) (mvT hZ (hw _ (List.mem_of_getElem? (i := 42) rfl))) (mvT hZ (hw _ (List.mem_of_getElem? (i := 41) rfl))) (by decide) (backOf (W := 0) (rm6 l Z a0 hw [] b1 rE137 cs bN kN ((3 : Int32) * kk) LN aV kV (16 : Int32) ([(0 : Int32), (0 : Int32), (0 : Int32), (0 : Int32), (0 : Int32), (0 : Int32), (0 : Int32), (0 : Int32), (0 : Int32), (0 : Int32), (0 : Int32), (0 : Int32), (0 : Int32), (0 : Int32), (0 : Int32), (0 : Int32)] : List Int32) (0 : Int32) T137.heap n0 Z150 f138 hcs f139 f142 f140 f143 f144 f141 qE qV qC qA own_bd16 (own_stk (by omega) (by omega) hLN) g_b1 qg qn (Ne.symm ne_aV_rE137) (Ne.symm ne_aV_bN) ne_b1_rE137 ne_b1_bN) hZ (hw _ (List.mem_of_getElem? (i := 43) rfl)) (hw _ (List.mem_of_getElem? (i := 6) rfl)) (by decide) (by decide)) q152a q152c (g := (mkF m 15 #[.val (.int x0)] [(.ref rE137), (.ref b1)])) rfl (by rw [hml]; rfl) (Steps.refl _) (argsL := [(.ref rE137)]) (rest := []) (lenOf pd_22 rfl) rfl (by show 2 * 0 + _ ≤ _; exact Nat.le_of_eq rfl) (hb hby d1_15) (fun _ _ => ⟨rfl, rfl, (by decide : 6 + 1 ≤ _), (by decide : 6181 + 12300 ≤ _)⟩)
      dsimp only [Pt.U, Pt.locs, Pt.cells, Pt.slots] at X152 l152 y152 z152 sr152 hQ152
      subst l152 y152 z152
      obtain ⟨rfl, N152q, K152c, f152_0, f152_1, f152_2, ⟨aP, kP, nwP, LP, qvP, qeP, qaP, hbP, hwP, g_aP, nxP, hoP⟩⟩ := hQ152
      have N152 := Fr.app N137 N152q
      obtain ⟨LL152, X152, N152⟩ := own_hide X152 N152
      have f153 : Sta Z T152.heap "java/lang/String" "COMPACT_STRINGS" "Z" (.int cs) := own_sta_keep f138 K152c (allS (own_ns f139) (allS (own_ns f143) all0))
      have f154 : Exa Z T152.heap b1 "java/lang/StringBuilder" := f139.keep K152c
      have f155 : Exa Z T152.heap aV "[B" := f143.keep K152c
      have f156 : Exa Z T152.heap a15 "java/lang/String" := f145.keep K152c
      have f157 : Fld Z T152.heap a15 "java/lang/String" "coder" "B" (.int (0 : Int32)) := f146.keep K152c (ninS (Ne.symm ne_b1_a15) (ninS (Ne.symm ne_aV_a15) nin0))
      have f158 : Fld Z T152.heap a15 "java/lang/String" "value" "[B" (.ref b15) := f147.keep K152c (ninS (Ne.symm ne_b1_a15) (ninS (Ne.symm ne_aV_a15) nin0))
      have f159 : Arv Z T152.heap b15 k15 .byte (3 : Int32) [(.int (63 : Int32)), (.int (44 : Int32)), (.int (32 : Int32))] (.int (0 : Int32)) := f148.keep K152c (ninS (Ne.symm ne_b1_b15) (ninS (Ne.symm ne_aV_b15) nin0))
      have f160 : Exa Z T152.heap rE137 "java/lang/String" := qE.keep K152c
      have f161 : Fld Z T152.heap rE137 "java/lang/String" "coder" "B" (.int (0 : Int32)) := qC.keep K152c (ninS (Ne.symm ne_b1_rE137) (ninS (Ne.symm ne_aV_rE137) nin0))
      have f162 : Fld Z T152.heap rE137 "java/lang/String" "value" "[B" (.ref bN) := qV.keep K152c (ninS (Ne.symm ne_b1_rE137) (ninS (Ne.symm ne_aV_rE137) nin0))
      have f163 : Arv Z T152.heap bN kN .byte ((3 : Int32) * kk) (List.map Value.int LN) (.int (0 : Int32)) := qA.keep K152c (ninS (Ne.symm ne_b1_bN) (ninS (Ne.symm ne_aV_bN) nin0))
      have K164 : Keep h0 T152.heap [] := K149.trans K152c (allS (Or.inr sz_b1) (allS (Or.inr sz_aV) all0))
      have Z165 : n0 ≤ T152.heap.size := Nat.le_trans Z150 K152c.1
      have hk : kS ≤ T152.heap.size := Nat.le_trans hk K152c.1
      obtain ⟨c1, e_c1⟩ : ∃ z, z = ((0 : Int32) + ((3 : Int32) * kk)) := ⟨_, rfl⟩
      rw [← e_c1] at hbP f152_2
      have hc1 : c1.toInt = 3 * x0.toInt - 3 := by rw [e_c1]; exact hk3
      have hbP := own_bdW hbP hwP (by omega)
      have sz_aP : h0.size ≤ aP := hoP.elim (fun q => by rw [q]; exact sz_aV) (fun q => Nat.le_trans K149.1 q)
      have st166 : Steps p.tables e below sE (T152.setTop (mkF m 18 #[.val (.int x0)] [(.ref b1)])) := st151.trans (sr152)
      obtain ⟨a167, T167, h167, kS, b167, k167, X167, e167, E167, hS, hk, hZ, hown, qe167, qc167, qv167, qa167, -, -, hI, -, ql167, sr167⟩ := ldcSVd (s := s) X152 hx hZ hown (hw _ (List.mem_of_getElem? (i := 88) rfl)) (own_wS hw) rfl hS hk (own_frm N152 (by rw [hh]; exact hn0)) (by rw [hh]; exact hkp) hI (by decide) hc22 hcw (vs := [(.int (63 : Int32))]) (z := (1 : Int32)) (by decide) (by decide) (by decide) (g := (mkF m 18 #[.val (.int x0)] [(.ref b1)])) rfl (hb hby d1_18) (n := 4) (by decide) (by decide) (by decide) (by decide)
      rw [hh] at ql167
      have ne_b1_a167 : b1 ≠ a167 := ql167.elim (fun q => Nat.ne_of_gt (Nat.lt_of_lt_of_le q.1 sz_b1)) (fun q => Nat.ne_of_lt (Nat.lt_of_lt_of_le f152_0.lt q.1))
      have ne_b1_b167 : b1 ≠ b167 := ql167.elim (fun q => Nat.ne_of_gt (Nat.lt_of_lt_of_le q.2 sz_b1)) (fun q => Nat.ne_of_lt (Nat.lt_of_lt_of_le f152_0.lt q.2))
      have ne_aP_a167 : aP ≠ a167 := ql167.elim (fun q => Nat.ne_of_gt (Nat.lt_of_lt_of_le q.1 sz_aP)) (fun q => Nat.ne_of_lt (Nat.lt_of_lt_of_le qeP.lt q.1))
      have ne_aP_b167 : aP ≠ b167 := ql167.elim (fun q => Nat.ne_of_gt (Nat.lt_of_lt_of_le q.2 sz_aP)) (fun q => Nat.ne_of_lt (Nat.lt_of_lt_of_le qeP.lt q.2))
      have f168 : Sta Z h167 "java/lang/String" "COMPACT_STRINGS" "Z" (.int cs) := f153.ext E167
      have f169 : Exa Z h167 b1 "java/lang/StringBuilder" := f152_0.ext E167
      have f170 : Fld Z h167 b1 "java/lang/AbstractStringBuilder" "coder" "B" (.int (0 : Int32)) := f152_1.ext E167
      have f171 : Fld Z h167 b1 "java/lang/AbstractStringBuilder" "count" "I" (.int c1) := f152_2.ext E167
      have f172 : Fld Z h167 b1 "java/lang/AbstractStringBuilder" "value" "[B" (.ref aP) := qvP.ext E167
      have f173 : Exa Z h167 aP "[B" := qeP.ext E167
      have f174 : Arv Z h167 aP kP .byte nwP (List.map Value.int LP) (.int (0 : Int32)) := qaP.ext E167
      have K175 : Keep h0 h167 [] := K164.ext E167
      have Z167 : n0 ≤ h167.size := Nat.le_trans Z165 E167.1
      have st176 : Steps p.tables e below sE (T167.setTop (mkF m 20 #[.val (.int x0)] [(.ref a167), (.ref b1)])) := st166.trans (sr167 _ (Steps.refl _))
      obtain ⟨cq177, kq177, q177a, q177b, q177c⟩ := isOf hZ e167 f169
      obtain ⟨_, _, ⟨T177, L177, k177, n177⟩, -, X177, ⟨Lc177, hQ177, l177, y177, z177⟩, sr177⟩ := X167.virtualBack hx (y := (⟨"java/lang/StringBuilder", "append", "(Ljava/lang/String;)Ljava/lang/StringBuilder;"⟩ : MethodName)) (z := (⟨"java/lang/StringBuilder", "append", "(Ljava/lang/String;)Ljava/lang/StringBuilder;"⟩ : MethodName)) hown (mvT hZ (hw _ (List.mem_of_getElem? (i := 39) rfl))) (mvT hZ (hw _ (List.mem_of_getElem? (i := 40) rfl))) (notFace_of_selects (args := #[]) (mvT hZ (hw _ (List.mem_of_getElem? (i := 42) rfl)))) (mvT hZ (hw _ (List.mem_of_getElem? (i := 42) rfl))) (mvT hZ (hw _ (List.mem_of_getElem? (i := 41) rfl))) (by decide) (backOf (W := 0) (rm6 l Z a0 hw [] b1 a167 cs b167 k167 (1 : Int32) ([(63 : Int32)] : List Int32) aP kP nwP LP c1 h167 n0 Z167 f168 hcs f169 f172 f170 f173 f174 f171 qe167 qv167 qc167 qa167 hbP (own_st1 hxb hc1) g_b1 g_aP nxP (Ne.symm ne_aP_a167) (Ne.symm ne_aP_b167) ne_b1_a167 ne_b1_b167) hZ (hw _ (List.mem_of_getElem? (i := 43) rfl)) (hw _ (List.mem_of_getElem? (i := 6) rfl)) (by decide) (by decide)) q177a q177c (g := (mkF m 20 #[.val (.int x0)] [(.ref a167), (.ref b1)])) rfl (by rw [hml]; rfl) (Steps.refl _) (argsL := [(.ref a167)]) (rest := []) (lenOf pd_22 rfl) rfl (by show 2 * 0 + _ ≤ _; exact Nat.le_of_eq rfl) (hb hby d1_20) (fun _ _ => ⟨rfl, e167, (by decide : 9 + 1 ≤ _), (by decide : 18489 + 12300 ≤ _)⟩)
      dsimp only [Pt.U, Pt.locs, Pt.cells, Pt.slots] at X177 l177 y177 z177 sr177 hQ177
      subst l177 y177 z177
      obtain ⟨rfl, N177q, K177c, f177_0, f177_1, f177_2, ⟨aQ, kQ, nwQ, LQ, qvQ, qeQ, qaQ, hbQ, -, g_aQ, nxQ, -⟩⟩ := hQ177
      have N177 := Fr.app N152 N177q
      obtain ⟨LL177, X177, N177⟩ := own_hide X177 N177
      have f178 : Sta Z T177.heap "java/lang/String" "COMPACT_STRINGS" "Z" (.int cs) := own_sta_keep f168 K177c (allS (own_ns f169) (allS (own_ns f173) all0))
      have f179 : Exa Z T177.heap b1 "java/lang/StringBuilder" := f169.keep K177c
      have f180 : Exa Z T177.heap aP "[B" := f173.keep K177c
      have f181 : Exa Z T177.heap a167 "java/lang/String" := qe167.keep K177c
      have f182 : Fld Z T177.heap a167 "java/lang/String" "coder" "B" (.int (0 : Int32)) := qc167.keep K177c (ninS (Ne.symm ne_b1_a167) (ninS (Ne.symm ne_aP_a167) nin0))
      have f183 : Fld Z T177.heap a167 "java/lang/String" "value" "[B" (.ref b167) := qv167.keep K177c (ninS (Ne.symm ne_b1_a167) (ninS (Ne.symm ne_aP_a167) nin0))
      have f184 : Arv Z T177.heap b167 k167 .byte (1 : Int32) [(.int (63 : Int32))] (.int (0 : Int32)) := qa167.keep K177c (ninS (Ne.symm ne_b1_b167) (ninS (Ne.symm ne_aP_b167) nin0))
      have K185 : Keep h0 T177.heap [] := K175.trans K177c (allS (Or.inr sz_b1) (allS (Or.inr sz_aP) all0))
      have Z186 : n0 ≤ T177.heap.size := Nat.le_trans Z167 K177c.1
      have hk : kS ≤ T177.heap.size := Nat.le_trans hk K177c.1
      have st187 : Steps p.tables e below sE (T177.setTop (mkF m 23 #[.val (.int x0)] [(.ref b1)])) := st176.trans (sr177)
      obtain ⟨cq188, kq188, q188a, q188b, q188c⟩ := isOf hZ rfl f177_0
      obtain ⟨_, _, ⟨T188, L188, k188, n188⟩, -, X188, ⟨Lc188, hQ188, l188, y188, z188⟩, sr188⟩ := X177.virtualBack hx (y := (⟨"java/lang/StringBuilder", "toString", "()Ljava/lang/String;"⟩ : MethodName)) (z := (⟨"java/lang/StringBuilder", "toString", "()Ljava/lang/String;"⟩ : MethodName)) hown (mvT hZ (hw _ (List.mem_of_getElem? (i := 89) rfl))) (mvT hZ (hw _ (List.mem_of_getElem? (i := 90) rfl))) (notFace_of_selects (args := #[]) (mvT hZ (hw _ (List.mem_of_getElem? (i := 92) rfl)))) (mvT hZ (hw _ (List.mem_of_getElem? (i := 92) rfl))) (mvT hZ (hw _ (List.mem_of_getElem? (i := 91) rfl))) (by decide) (backOf (W := 0) (rm14 l Z a0 hw [] b1 cs aQ kQ nwQ LQ (c1 + (1 : Int32)) T177.heap n0 Z186 f178 hcs f177_0 qvQ f177_1 f177_2 qeQ qaQ hbQ (by rw [own_c2 hxb hc1]; omega)) hZ (hw _ (List.mem_of_getElem? (i := 93) rfl)) (hw _ (List.mem_of_getElem? (i := 6) rfl)) (by decide) (by decide)) q188a q188c (g := (mkF m 23 #[.val (.int x0)] [(.ref b1)])) rfl (by rw [hml]; rfl) (Steps.refl _) (argsL := []) (rest := []) (lenOf pd_23 rfl) rfl (by show 2 * 0 + _ ≤ _; exact Nat.le_of_eq rfl) (hb hby d1_23) (fun _ _ => ⟨rfl, rfl, (by decide : 10 + 2 ≤ _), (by decide : 30789 + 6146 ≤ _)⟩)
      dsimp only [Pt.U, Pt.locs, Pt.cells, Pt.slots] at X188 l188 y188 z188 sr188 hQ188
      subst l188 y188 z188
      obtain ⟨rfl, N188q, K188c, ⟨qES, qCS, aS, kS', LS', qVS, qAS, hLS⟩⟩ := hQ188
      have N188 := Fr.app N177 N188q
      obtain ⟨LL188, X188, N188⟩ := own_hide X188 N188
      have f189 : Sta Z T188.heap "java/lang/String" "COMPACT_STRINGS" "Z" (.int cs) := own_sta_keep f178 K188c all0
      have f190 : Exa Z T188.heap b1 "java/lang/StringBuilder" := f177_0.keep K188c
      have f191 : Fld Z T188.heap b1 "java/lang/AbstractStringBuilder" "coder" "B" (.int (0 : Int32)) := f177_1.keep K188c nin0
      have f192 : Fld Z T188.heap b1 "java/lang/AbstractStringBuilder" "count" "I" (.int (c1 + (1 : Int32))) := f177_2.keep K188c nin0
      have f193 : Fld Z T188.heap b1 "java/lang/AbstractStringBuilder" "value" "[B" (.ref aQ) := qvQ.keep K188c nin0
      have f194 : Exa Z T188.heap aQ "[B" := qeQ.keep K188c
      have f195 : Arv Z T188.heap aQ kQ .byte nwQ (List.map Value.int LQ) (.int (0 : Int32)) := qaQ.keep K188c nin0
      have K196 : Keep h0 T188.heap [] := K185.trans K188c all0
      have Z197 : n0 ≤ T188.heap.size := Nat.le_trans Z186 K188c.1
      have hk : kS ≤ T188.heap.size := Nat.le_trans hk K188c.1
      obtain ⟨rS, grS⟩ : ∃ z, z = T177.heap.size := ⟨_, rfl⟩
      rw [← grS] at qES qCS qVS sr188
      have st198 : Steps p.tables e below sE (T188.setTop (mkF m 26 #[.val (.int x0)] [(.ref rS)])) := st187.trans (sr188)
      obtain ⟨fs, hr, hrun, hended, hEW⟩ := X188.leaveW hS hk (v := some (.ref rS)) (fun h => by rw [Bd.returns] at h; cases h) hlk
      have hIe := own_ibw X188 hI
      refine ⟨_, _, (own_ent hsE st198).trans ?_, hrun, hended, _, _, rfl, ⟨?_, hIe⟩, hEW.1, hEW.2.1, hEW.2.2.1, hEW.2.2.2.mono (by decide) (by decide)⟩
      · exact retOut X188 hx (t := (.object "java/lang/String")) Bd.returns rfl (Or.inr (Or.inr (Or.inr (Or.inr ⟨rfl, rfl, rfl⟩)))) (hb hby d1_26) hr
      · show Q1 Z x0 cs h0 n0 _ T188.heap _
        exact ⟨rS, rfl, N188, K196, ⟨aS, kS', _, LS', qES, qCS, qVS, qAS, own_c2 hxb hc1, hLS⟩⟩
theorem own_nq (x : Int32) : 1 ≤ ((x &&& (2047 : Int32)) + (1 : Int32)).toInt ∧ ((x &&& (2047 : Int32)) + (1 : Int32)).toInt ≤ 2048 := by
  have e1 : (x &&& 2047).toInt = x.toInt % (2 ^ 11 : Nat) := c_mask x 2047 11 (by decide) (by decide)
  have e2 := c_iadd (x &&& 2047) 1
  rw [show (1 : Int32).toInt = 1 by decide] at e2
  have r := rng32 ((x &&& 2047) + 1)
  omega
theorem own_len {n L : Int32} (hx : 1 ≤ n.toInt ∧ n.toInt ≤ 2048) (h : L.toInt = 3 * n.toInt - 2) : L = (((3 : Int32) * n) - (2 : Int32)) := by
  apply Int32.toInt_inj.mp
  have e1 := c_imul 3 n
  rw [show (3 : Int32).toInt = 3 by decide] at e1
  have r1 := rng32 (3 * n)
  have e2 := c_isub (3 * n) 2
  rw [show (2 : Int32).toInt = 2 by decide] at e2
  have r2 := rng32 (3 * n - 2)
  omega
theorem own_nz0 {n L : Int32} (hx : 1 ≤ n.toInt ∧ n.toInt ≤ 2048) (h : L.toInt = 3 * n.toInt - 2) : ¬ L = (0 : Int32) := fun q => by
  rw [q, show (0 : Int32).toInt = 0 by decide] at h; omega
theorem own_ik (x L : Int32) (h : 0 < L.toInt) : 0 ≤ ((x &&& (2147483647 : Int32)) % L).toInt ∧ ((x &&& (2147483647 : Int32)) % L).toInt < L.toInt := by
  have e1 : (x &&& 2147483647).toInt = x.toInt % (2 ^ 31 : Nat) := c_mask x 2147483647 31 (by decide) (by decide)
  have q := (c_iremV (x &&& 2147483647) L).1 (by omega) h
  exact ⟨q.1, q.2.1⟩
theorem own_l1 {n L : Int32} (hx : 1 ≤ n.toInt ∧ n.toInt ≤ 2048) (h : L.toInt = 3 * n.toInt - 2) : (L - (1 : Int32)).toInt = 3 * n.toInt - 3 := by
  have e2 := c_isub L 1
  rw [show (1 : Int32).toInt = 1 by decide] at e2
  have r2 := rng32 (L - 1)
  omega
theorem own_hi {k n : Int32} (h0 : 0 ≤ k.toInt) (h1 : k.toInt < n.toInt) : ¬ k < 0 ∧ k < n := ⟨own_nn k h0, Int32.lt_iff_toInt_lt.mpr h1⟩
theorem own_ca {k n : Int32} {L : List Int32} (hL : ∀ i, i < n.toNatClampNeg → L.getD i 0 = own_ch i) (h0 : 0 ≤ k.toInt) (h1 : k.toInt < n.toInt) : F25 k L = F30 k := by
  have t1 := own_tn k h0
  have t2 := own_tn n (by omega)
  unfold F25 F27 F30
  rw [hL k.toNatClampNeg (by omega)]
  have e := (c_irem k 3 3 (by decide)).1 h0
  have q : ∀ z : Int32, (k % 3 = z) ↔ k.toInt % 3 = z.toInt := fun z => by rw [← e]; exact Int32.toInt_inj.symm
  unfold own_ch
  by_cases c0 : k.toInt % 3 = 0
  · rw [if_pos ((q 0).mpr c0), if_pos (show k.toNatClampNeg % 3 = 0 by omega)]; decide
  · by_cases c1 : k.toInt % 3 = 1
    · rw [if_neg (fun w => c0 ((q 0).mp w)), if_pos ((q 1).mpr c1), if_neg (show ¬ k.toNatClampNeg % 3 = 0 by omega), if_pos (show k.toNatClampNeg % 3 = 1 by omega)]; decide
    · rw [if_neg (fun w => c0 ((q 0).mp w)), if_neg (fun w => c1 ((q 1).mp w)), if_neg (show ¬ k.toNatClampNeg % 3 = 0 by omega), if_neg (show ¬ k.toNatClampNeg % 3 = 1 by omega)]; decide
theorem own_q0 {k n : Int32} {L : List Int32} (hL : ∀ i, i < n.toNatClampNeg → L.getD i 0 = own_ch i) (h0 : 0 ≤ k.toInt) (h1 : k.toInt < n.toInt) (hm : k.toInt % 3 = 0) : F25 k L = (63 : Int32) := by
  rw [own_ca hL h0 h1]
  unfold F30
  rw [if_pos]
  apply Int32.toInt_inj.mp
  rw [(c_irem k 3 3 (by decide)).1 h0, hm]; decide
theorem pd_24 : parseMethodDescriptor "(I)C" = some ⟨[.int], some .char⟩ := by decide +kernel
theorem ef_0 (m : MethodId) (x0 : Int32) (x1 : Int32) (x2 : Int32)  : entryFrame m #[(.int x0), (.int x1), (.int x2)] maxLocals = mkF m 0 #[.val (.int x0), .val (.int x1), .val (.int x2), .unset, .unset, .unset, .unset, .unset] [] := by first | (simp [entryFrame, mkF, argsToLocals, Value.category, maxLocals]; done) | rfl
def Q0 (Z : State) (x0 : Int32) (x1 : Int32) (x2 : Int32) (cs : Int32) (sf : Value) (h0 : Heap) (n0 : Nat) (vE : Option Value) (hE : Heap) (LE : List Loc) : Prop := vE = some (.int (1 : Int32)) ∧ Fr n0 LE
set_option maxRecDepth 65536 in
set_option maxHeartbeats 40000000 in
theorem rm0 (l : Launch) (Z : State) (a0 : Array Value) (hw : ∀ d ∈ tables_1, d.before a0 Z = true) (ws : List Jvm.Cond) (x0 : Int32) (x1 : Int32) (x2 : Int32) (cs : Int32) (sf : Value) (h0 : Heap) (n0 : Nat) (Z0 : n0 ≤ h0.size) (S_c : Sta Z h0 "java/lang/String" "COMPACT_STRINGS" "Z" (.int cs)) (hcs : ¬ cs = (0 : Int32)) (S_f : Sta Z h0 "jdk/internal/util/Preconditions" "SIOOBE_FORMATTER" "Ljava/util/function/BiFunction;" sf) (hsf : sf.isRef = true) (hcw : Jvm.Lit.compactW.before a0 Z = true) (hkp : ∀ (b : Addr) (cl : Cell), Z.heap[b]? = some cl → h0[b]? = some cl) (hn0 : h0.size ≤ n0) (hc10 : Jvm.Lit.constHeld Z "com/example/persephone/persephone/store/SqlLists" 10) (hc22 : Jvm.Lit.constHeld Z "com/example/persephone/persephone/store/SqlLists" 22) (hc7 : Jvm.Lit.constHeld Z "java/lang/String" 7) :
    MetFree l x (head1 (Jvm.Cond.code x code maxLocals ret :: ws) room_1) (fun a U => a = #[(.int x0), (.int x1), (.int x2)] ∧ (Z.Warmed39 U.vm ∧ IB Z U.vm ([] : List String)) ∧ U.heap = h0) (fun _ _ _ _ _ => True) (fun _ U o U' => ∃ vE LE, o = .returned vE ∧ (Q0 Z x0 x1 x2 cs sf h0 n0 vE U'.heap LE ∧ IB Z U'.vm ["?", "", "?, "]) ∧ ReturnedEndW U o U' LE room_1.cells room_1.slots) := by
  refine MetFree.of_bodySF (plainFor_of_name pn_0) hisR ?_
  intro p e s m args below meth c s₁ Bd hml0 hP hK
  obtain ⟨rfl, ⟨hZ, hI⟩, hh⟩ := hP
  have hx := Bd.exec
  have hby := Bd.bytes
  have hml : c.maxLocals = 8 := hml0
  have hown : s.vm.findClass "com/example/persephone/persephone/store/SqlListsPlaceholdersPinLaw" = some m.cls := findClass_of_methodNamed Bd.named
  have hnm := (name_of_methodNamed Bd.named Bd.method).1
  have hlk : meth.locks = false := BodyLoose.notSynchronized Bd
  have X0 : Stand p l e room_1 s m #[(.int x0), (.int x1), (.int x2)] below meth c s₁ [] 0 0 := Stand.of_body Bd
  have e0 : s₁.heap = h0 := by rw [← hh, Bd.state]; rfl
  have N0 := Fr.nil n0
  obtain ⟨sE, hsE⟩ : ∃ z, z = (s₁.setTop (entryFrame m #[(.int x0), (.int x1), (.int x2)] maxLocals)) := ⟨_, rfl⟩
  have st0 : Steps p.tables e below sE (s₁.setTop (mkF m 0 #[.val (.int x0), .val (.int x1), .val (.int x2), .unset, .unset, .unset, .unset, .unset] [])) := by rw [hsE]; exact castTop (ef_0 m x0 x1 x2) (Steps.refl _)
  have hI : IB Z (s.setVm s.vm).vm ([] : List String) := hI
  have X0 : Stand p l e room_1 (s.setVm s.vm) m #[(.int x0), (.int x1), (.int x2)] below meth c s₁ [] 0 0 := X0
  have hZ : Z.Warmed39 (s.setVm s.vm).vm := hZ
  have hown : (s.setVm s.vm).vm.findClass "com/example/persephone/persephone/store/SqlListsPlaceholdersPinLaw" = some m.cls := hown
  obtain ⟨kS, ekS⟩ : ∃ k : Nat, k = 0 := ⟨_, rfl⟩
  have hS : s.Since s.vm kS := (State.WarmedH.refl s).since kS
  have hk : kS ≤ h0.size := by rw [ekS]; exact Nat.zero_le _
  have K0 : Keep h0 h0 [] := Keep.refl _ _
  have st1 : Steps p.tables e below sE (s₁.setTop (mkF m 7 #[.val (.int x0), .val (.int x1), .val (.int x2), .unset, .unset, .unset, .unset, .unset] [(.int ((x0 &&& (2047 : Int32)) + (1 : Int32)))])) := st0.trans (by
      show Steps _ _ _ (s₁.setTop (mkF m 0 #[.val (.int x0), .val (.int x1), .val (.int x2), .unset, .unset, .unset, .unset, .unset] [])) _
      refine XS.iloadN X0.here hx rfl (hb hby at_0) rfl ?_
      show Steps _ _ _ (s₁.setTop (mkF m 1 #[.val (.int x0), .val (.int x1), .val (.int x2), .unset, .unset, .unset, .unset, .unset] [(.int x0)])) _
      refine XS.sipush X0.here hx rfl (hb hby at_1) ?_
      show Steps _ _ _ (s₁.setTop (mkF m 4 #[.val (.int x0), .val (.int x1), .val (.int x2), .unset, .unset, .unset, .unset, .unset] [(.int (2047 : Int32)), (.int x0)])) _
      refine XS.iand X0.here hx rfl (hb hby at_4) rfl ?_
      show Steps _ _ _ (s₁.setTop (mkF m 5 #[.val (.int x0), .val (.int x1), .val (.int x2), .unset, .unset, .unset, .unset, .unset] [(.int (x0 &&& (2047 : Int32)))])) _
      refine XS.iconst X0.here hx rfl (hb hby at_5) ?_
      show Steps _ _ _ (s₁.setTop (mkF m 6 #[.val (.int x0), .val (.int x1), .val (.int x2), .unset, .unset, .unset, .unset, .unset] [(.int (1 : Int32)), (.int (x0 &&& (2047 : Int32)))])) _
      refine XS.iadd X0.here hx rfl (hb hby at_6) rfl ?_
      exact Steps.refl _)
  obtain ⟨nq, e_nq⟩ : ∃ z, z = ((x0 &&& (2047 : Int32)) + (1 : Int32)) := ⟨_, rfl⟩
  rw [← e_nq] at st1
  have hnq := own_nq x0
  rw [← e_nq] at hnq
  have st2 : Steps p.tables e below sE (s₁.setTop (mkF m 9 #[.val (.int x0), .val (.int x1), .val (.int x2), .val (.int nq), .unset, .unset, .unset, .unset] [(.int nq)])) := st1.trans (by
      show Steps _ _ _ (s₁.setTop (mkF m 7 #[.val (.int x0), .val (.int x1), .val (.int x2), .unset, .unset, .unset, .unset, .unset] [(.int nq)])) _
      refine XS.istoreN X0.here hx rfl (hb hby at_7) rfl (l' := #[.val (.int x0), .val (.int x1), .val (.int x2), .val (.int nq), .unset, .unset, .unset, .unset]) rfl ?_
      show Steps _ _ _ (s₁.setTop (mkF m 8 #[.val (.int x0), .val (.int x1), .val (.int x2), .val (.int nq), .unset, .unset, .unset, .unset] [])) _
      refine XS.iloadN X0.here hx rfl (hb hby at_8) rfl ?_
      exact Steps.refl _)
  obtain ⟨_, _, ⟨T3, L3, k3, n3⟩, -, X3, hSn3, hgn3, ⟨Lc3, hQ3, l3, y3, z3⟩, sr3⟩ := callSS X0 hx (y := (⟨"com/example/persephone/persephone/store/SqlLists", "placeholders", "(I)Ljava/lang/String;"⟩ : MethodName)) hown (mvT hZ (hw _ (List.mem_of_getElem? (i := 0) rfl))) (mvT hZ (hw _ (List.mem_of_getElem? (i := 1) rfl))) (mvT hZ (hw _ (List.mem_of_getElem? (i := 2) rfl))) (mvT hZ (hw _ (List.mem_of_getElem? (i := 3) rfl))) (by decide) (own_backSI (W := 0) (rm1 l Z a0 hw [] nq cs h0 n0 Z0 S_c hcs hcw hkp hn0 hc10 hc22 hc7 hnq) hZ hI (hw _ (List.mem_of_getElem? (i := 3) rfl)) (hw _ (List.mem_of_getElem? (i := 2) rfl)) (by decide) (by decide)) (g := (mkF m 9 #[.val (.int x0), .val (.int x1), .val (.int x2), .val (.int nq), .unset, .unset, .unset, .unset] [(.int nq)])) rfl (by rw [hml]; rfl) (argsL := [(.int nq)]) (rest := []) (lenOf pd_21 rfl) rfl (by show 2 * 0 + _ ≤ _; exact Nat.le_of_eq rfl) (hb hby at_9) (fun _ _ => ⟨rfl, e0, (by decide : 0 + 12 ≤ _), (by decide : 0 + 36935 ≤ _)⟩)
  dsimp only [Pt.U, Pt.locs, Pt.cells, Pt.slots] at X3 l3 y3 z3 sr3 hQ3 hSn3 hgn3
  obtain ⟨X3, hS, hZ, hown⟩ := rebS hS (by rw [e0]; exact hk) X3 hSn3 hgn3 hZ hown
  have hk := Nat.le_refl T3.heap.size
  obtain ⟨kS, ekS⟩ : ∃ z, z = T3.heap.size := ⟨_, rfl⟩
  rw [← ekS] at hS
  have hk : kS ≤ T3.heap.size := Nat.le_of_eq ekS
  subst l3 y3 z3
  obtain ⟨hQ3, hI⟩ := hQ3
  obtain ⟨rE3, rfl, N3q, K3c, ⟨bN, kN, nL, LN, qE, qC, qV, qA, hnL, hLN⟩⟩ := hQ3
  have N3 := Fr.app N0 N3q
  obtain ⟨LL3, X3, N3⟩ := own_hide X3 N3
  have f4 : Sta Z T3.heap "java/lang/String" "COMPACT_STRINGS" "Z" (.int cs) := own_sta_keep S_c K3c all0
  have f5 : Sta Z T3.heap "jdk/internal/util/Preconditions" "SIOOBE_FORMATTER" "Ljava/util/function/BiFunction;" sf := own_sta_keep S_f K3c all0
  have K6 : Keep h0 T3.heap [] := K0.trans K3c all0
  have Z7 : n0 ≤ T3.heap.size := Nat.le_trans Z0 K3c.1
  have st8 : Steps p.tables e below sE (T3.setTop (mkF m 12 #[.val (.int x0), .val (.int x1), .val (.int x2), .val (.int nq), .unset, .unset, .unset, .unset] [(.ref rE3)])) := st2.trans (sr3)
  have st9 : Steps p.tables e below sE (T3.setTop (mkF m 16 #[.val (.int x0), .val (.int x1), .val (.int x2), .val (.int nq), .val (.ref rE3), .unset, .unset, .unset] [(.ref rE3)])) := st8.trans (by
      show Steps _ _ _ (T3.setTop (mkF m 12 #[.val (.int x0), .val (.int x1), .val (.int x2), .val (.int nq), .unset, .unset, .unset, .unset] [(.ref rE3)])) _
      refine XS.astore X3.here hx rfl (hb hby at_12) rfl rfl (l' := #[.val (.int x0), .val (.int x1), .val (.int x2), .val (.int nq), .val (.ref rE3), .unset, .unset, .unset]) rfl ?_
      show Steps _ _ _ (T3.setTop (mkF m 14 #[.val (.int x0), .val (.int x1), .val (.int x2), .val (.int nq), .val (.ref rE3), .unset, .unset, .unset] [])) _
      refine XS.aload X3.here hx rfl (hb hby at_14) rfl rfl ?_
      exact Steps.refl _)
  obtain ⟨cq10, kq10, q10a, q10b, q10c⟩ := isOf hZ rfl qE
  obtain ⟨_, _, ⟨T10, L10, k10, n10⟩, -, X10, ⟨Lc10, hQ10, l10, y10, z10⟩, sr10⟩ := X3.virtualBack hx (y := (⟨"java/lang/String", "length", "()I"⟩ : MethodName)) (z := (⟨"java/lang/String", "length", "()I"⟩ : MethodName)) hown (mvT hZ (hw _ (List.mem_of_getElem? (i := 136) rfl))) (mvT hZ (hw _ (List.mem_of_getElem? (i := 50) rfl))) (notFace_of_selects (args := #[]) (mvT hZ (hw _ (List.mem_of_getElem? (i := 52) rfl)))) (mvT hZ (hw _ (List.mem_of_getElem? (i := 52) rfl))) (mvT hZ (hw _ (List.mem_of_getElem? (i := 51) rfl))) (by decide) (backOf (W := 0) (rm8 l Z a0 hw [] rE3 cs bN kN nL LN T3.heap n0 Z7 f4 hcs qE qV qC qA) hZ (hw _ (List.mem_of_getElem? (i := 53) rfl)) (hw _ (List.mem_of_getElem? (i := 20) rfl)) (by decide) (by decide)) q10a q10c (g := (mkF m 16 #[.val (.int x0), .val (.int x1), .val (.int x2), .val (.int nq), .val (.ref rE3), .unset, .unset, .unset] [(.ref rE3)])) rfl (by rw [hml]; rfl) (Steps.refl _) (argsL := []) (rest := []) (lenOf pd_5 rfl) rfl (by show 2 * 0 + _ ≤ _; exact Nat.le_of_eq rfl) (hb hby at_16) (fun _ _ => ⟨rfl, rfl, (by decide : 12 + 0 ≤ _), (by decide : 36935 + 0 ≤ _)⟩)
  dsimp only [Pt.U, Pt.locs, Pt.cells, Pt.slots] at X10 l10 y10 z10 sr10 hQ10
  subst l10 y10 z10
  obtain ⟨rfl, N10q, hh10⟩ := hQ10
  have N10 := Fr.app N3 N10q
  obtain ⟨LL10, X10, N10⟩ := own_hide X10 N10
  have st11 : Steps p.tables e below sE (T10.setTop (mkF m 19 #[.val (.int x0), .val (.int x1), .val (.int x2), .val (.int nq), .val (.ref rE3), .unset, .unset, .unset] [(.int nL)])) := st9.trans (sr10)
  have st12 : Steps p.tables e below sE (T10.setTop (mkF m 28 #[.val (.int x0), .val (.int x1), .val (.int x2), .val (.int nq), .val (.ref rE3), .val (.int nL), .unset, .unset] [(.int (((3 : Int32) * nq) - (2 : Int32))), (.int nL)])) := st11.trans (by
      show Steps _ _ _ (T10.setTop (mkF m 19 #[.val (.int x0), .val (.int x1), .val (.int x2), .val (.int nq), .val (.ref rE3), .unset, .unset, .unset] [(.int nL)])) _
      refine XS.istore X10.here hx rfl (hb hby at_19) rfl (l' := #[.val (.int x0), .val (.int x1), .val (.int x2), .val (.int nq), .val (.ref rE3), .val (.int nL), .unset, .unset]) rfl ?_
      show Steps _ _ _ (T10.setTop (mkF m 21 #[.val (.int x0), .val (.int x1), .val (.int x2), .val (.int nq), .val (.ref rE3), .val (.int nL), .unset, .unset] [])) _
      refine XS.iload X10.here hx rfl (hb hby at_21) rfl ?_
      show Steps _ _ _ (T10.setTop (mkF m 23 #[.val (.int x0), .val (.int x1), .val (.int x2), .val (.int nq), .val (.ref rE3), .val (.int nL), .unset, .unset] [(.int nL)])) _
      refine XS.iconst X10.here hx rfl (hb hby at_23) ?_
      show Steps _ _ _ (T10.setTop (mkF m 24 #[.val (.int x0), .val (.int x1), .val (.int x2), .val (.int nq), .val (.ref rE3), .val (.int nL), .unset, .unset] [(.int (3 : Int32)), (.int nL)])) _
      refine XS.iloadN X10.here hx rfl (hb hby at_24) rfl ?_
      show Steps _ _ _ (T10.setTop (mkF m 25 #[.val (.int x0), .val (.int x1), .val (.int x2), .val (.int nq), .val (.ref rE3), .val (.int nL), .unset, .unset] [(.int nq), (.int (3 : Int32)), (.int nL)])) _
      refine XS.imul X10.here hx rfl (hb hby at_25) rfl ?_
      show Steps _ _ _ (T10.setTop (mkF m 26 #[.val (.int x0), .val (.int x1), .val (.int x2), .val (.int nq), .val (.ref rE3), .val (.int nL), .unset, .unset] [(.int ((3 : Int32) * nq)), (.int nL)])) _
      refine XS.iconst X10.here hx rfl (hb hby at_26) ?_
      show Steps _ _ _ (T10.setTop (mkF m 27 #[.val (.int x0), .val (.int x1), .val (.int x2), .val (.int nq), .val (.ref rE3), .val (.int nL), .unset, .unset] [(.int (2 : Int32)), (.int ((3 : Int32) * nq)), (.int nL)])) _
      refine XS.isub X10.here hx rfl (hb hby at_27) rfl ?_
      exact Steps.refl _)
  have hf13 : nL = (((3 : Int32) * nq) - (2 : Int32)) := own_len hnq hnL
  have st14 : Steps p.tables e below sE (T10.setTop (mkF m 40 #[.val (.int x0), .val (.int x1), .val (.int x2), .val (.int nq), .val (.ref rE3), .val (.int nL), .unset, .unset] [(.int ((x1 &&& (2147483647 : Int32)) % nL))])) := st12.trans (by
      show Steps _ _ _ (T10.setTop (mkF m 28 #[.val (.int x0), .val (.int x1), .val (.int x2), .val (.int nq), .val (.ref rE3), .val (.int nL), .unset, .unset] [(.int (((3 : Int32) * nq) - (2 : Int32))), (.int nL)])) _
      refine XS.icmpYes X10.here hx rfl (pc0 := 28) (pc' := 33) rfl (hb hby at_28) rfl (teq hf13).1 (by decide) (by decide) ?_
      show Steps _ _ _ (T10.setTop (mkF m 33 #[.val (.int x0), .val (.int x1), .val (.int x2), .val (.int nq), .val (.ref rE3), .val (.int nL), .unset, .unset] [])) _
      refine XS.iloadN X10.here hx rfl (hb hby at_33) rfl ?_
      show Steps _ _ _ (T10.setTop (mkF m 34 #[.val (.int x0), .val (.int x1), .val (.int x2), .val (.int nq), .val (.ref rE3), .val (.int nL), .unset, .unset] [(.int x1)])) _
      refine X10.ldcInt hx hown (mvT hZ (hw _ (List.mem_of_getElem? (i := 137) rfl))) (g := (mkF m 34 #[.val (.int x0), .val (.int x1), .val (.int x2), .val (.int nq), .val (.ref rE3), .val (.int nL), .unset, .unset] [(.int x1)])) rfl (hb hby at_34) _ ?_
      show Steps _ _ _ (T10.setTop (mkF m 36 #[.val (.int x0), .val (.int x1), .val (.int x2), .val (.int nq), .val (.ref rE3), .val (.int nL), .unset, .unset] [(.int (2147483647 : Int32)), (.int x1)])) _
      refine XS.iand X10.here hx rfl (hb hby at_36) rfl ?_
      show Steps _ _ _ (T10.setTop (mkF m 37 #[.val (.int x0), .val (.int x1), .val (.int x2), .val (.int nq), .val (.ref rE3), .val (.int nL), .unset, .unset] [(.int (x1 &&& (2147483647 : Int32)))])) _
      refine XS.iload X10.here hx rfl (hb hby at_37) rfl ?_
      show Steps _ _ _ (T10.setTop (mkF m 39 #[.val (.int x0), .val (.int x1), .val (.int x2), .val (.int nq), .val (.ref rE3), .val (.int nL), .unset, .unset] [(.int nL), (.int (x1 &&& (2147483647 : Int32)))])) _
      refine iremM X10 hx rfl (hb hby at_39) rfl (own_nz0 hnq hnL) ?_
      exact Steps.refl _)
  obtain ⟨ki, e_ki⟩ : ∃ z, z = ((x1 &&& (2147483647 : Int32)) % nL) := ⟨_, rfl⟩
  rw [← e_ki] at st14
  have h_ki := own_ik x1 nL (by omega)
  rw [← e_ki] at h_ki
  have st15 : Steps p.tables e below sE (T10.setTop (mkF m 49 #[.val (.int x0), .val (.int x1), .val (.int x2), .val (.int nq), .val (.ref rE3), .val (.int nL), .val (.int ki), .unset] [(.int ((x2 &&& (2147483647 : Int32)) % nL))])) := st14.trans (by
      show Steps _ _ _ (T10.setTop (mkF m 40 #[.val (.int x0), .val (.int x1), .val (.int x2), .val (.int nq), .val (.ref rE3), .val (.int nL), .unset, .unset] [(.int ki)])) _
      refine XS.istore X10.here hx rfl (hb hby at_40) rfl (l' := #[.val (.int x0), .val (.int x1), .val (.int x2), .val (.int nq), .val (.ref rE3), .val (.int nL), .val (.int ki), .unset]) rfl ?_
      show Steps _ _ _ (T10.setTop (mkF m 42 #[.val (.int x0), .val (.int x1), .val (.int x2), .val (.int nq), .val (.ref rE3), .val (.int nL), .val (.int ki), .unset] [])) _
      refine XS.iloadN X10.here hx rfl (hb hby at_42) rfl ?_
      show Steps _ _ _ (T10.setTop (mkF m 43 #[.val (.int x0), .val (.int x1), .val (.int x2), .val (.int nq), .val (.ref rE3), .val (.int nL), .val (.int ki), .unset] [(.int x2)])) _
      refine X10.ldcInt hx hown (mvT hZ (hw _ (List.mem_of_getElem? (i := 137) rfl))) (g := (mkF m 43 #[.val (.int x0), .val (.int x1), .val (.int x2), .val (.int nq), .val (.ref rE3), .val (.int nL), .val (.int ki), .unset] [(.int x2)])) rfl (hb hby at_43) _ ?_
      show Steps _ _ _ (T10.setTop (mkF m 45 #[.val (.int x0), .val (.int x1), .val (.int x2), .val (.int nq), .val (.ref rE3), .val (.int nL), .val (.int ki), .unset] [(.int (2147483647 : Int32)), (.int x2)])) _
      refine XS.iand X10.here hx rfl (hb hby at_45) rfl ?_
      show Steps _ _ _ (T10.setTop (mkF m 46 #[.val (.int x0), .val (.int x1), .val (.int x2), .val (.int nq), .val (.ref rE3), .val (.int nL), .val (.int ki), .unset] [(.int (x2 &&& (2147483647 : Int32)))])) _
      refine XS.iload X10.here hx rfl (hb hby at_46) rfl ?_
      show Steps _ _ _ (T10.setTop (mkF m 48 #[.val (.int x0), .val (.int x1), .val (.int x2), .val (.int nq), .val (.ref rE3), .val (.int nL), .val (.int ki), .unset] [(.int nL), (.int (x2 &&& (2147483647 : Int32)))])) _
      refine iremM X10 hx rfl (hb hby at_48) rfl (own_nz0 hnq hnL) ?_
      exact Steps.refl _)
  obtain ⟨mi, e_mi⟩ : ∃ z, z = ((x2 &&& (2147483647 : Int32)) % nL) := ⟨_, rfl⟩
  rw [← e_mi] at st15
  have h_mi := own_ik x2 nL (by omega)
  rw [← e_mi] at h_mi
  have st16 : Steps p.tables e below sE (T10.setTop (mkF m 54 #[.val (.int x0), .val (.int x1), .val (.int x2), .val (.int nq), .val (.ref rE3), .val (.int nL), .val (.int ki), .val (.int mi)] [(.int (0 : Int32)), (.ref rE3)])) := st15.trans (by
      show Steps _ _ _ (T10.setTop (mkF m 49 #[.val (.int x0), .val (.int x1), .val (.int x2), .val (.int nq), .val (.ref rE3), .val (.int nL), .val (.int ki), .unset] [(.int mi)])) _
      refine XS.istore X10.here hx rfl (hb hby at_49) rfl (l' := #[.val (.int x0), .val (.int x1), .val (.int x2), .val (.int nq), .val (.ref rE3), .val (.int nL), .val (.int ki), .val (.int mi)]) rfl ?_
      show Steps _ _ _ (T10.setTop (mkF m 51 #[.val (.int x0), .val (.int x1), .val (.int x2), .val (.int nq), .val (.ref rE3), .val (.int nL), .val (.int ki), .val (.int mi)] [])) _
      refine XS.aload X10.here hx rfl (hb hby at_51) rfl rfl ?_
      show Steps _ _ _ (T10.setTop (mkF m 53 #[.val (.int x0), .val (.int x1), .val (.int x2), .val (.int nq), .val (.ref rE3), .val (.int nL), .val (.int ki), .val (.int mi)] [(.ref rE3)])) _
      refine XS.iconst X10.here hx rfl (hb hby at_53) ?_
      exact Steps.refl _)
  obtain ⟨cq17, kq17, q17a, q17b, q17c⟩ := isOf hZ hh10 qE
  obtain ⟨_, _, ⟨T17, L17, k17, n17⟩, -, X17, ⟨Lc17, hQ17, l17, y17, z17⟩, sr17⟩ := X10.virtualBack hx (y := (⟨"java/lang/String", "charAt", "(I)C"⟩ : MethodName)) (z := (⟨"java/lang/String", "charAt", "(I)C"⟩ : MethodName)) hown (mvT hZ (hw _ (List.mem_of_getElem? (i := 138) rfl))) (mvT hZ (hw _ (List.mem_of_getElem? (i := 139) rfl))) (notFace_of_selects (args := #[]) (mvT hZ (hw _ (List.mem_of_getElem? (i := 141) rfl)))) (mvT hZ (hw _ (List.mem_of_getElem? (i := 141) rfl))) (mvT hZ (hw _ (List.mem_of_getElem? (i := 140) rfl))) (by decide) (backOf (W := 0) (rm25 l Z a0 hw [] rE3 (0 : Int32) cs sf bN kN nL LN T3.heap n0 Z7 f4 hcs f5 hsf qE qV qC qA (own_hi (by decide) (by rw [show (0 : Int32).toInt = 0 by decide]; omega))) hZ (hw _ (List.mem_of_getElem? (i := 142) rfl)) (hw _ (List.mem_of_getElem? (i := 20) rfl)) (by decide) (by decide)) q17a q17c (g := (mkF m 54 #[.val (.int x0), .val (.int x1), .val (.int x2), .val (.int nq), .val (.ref rE3), .val (.int nL), .val (.int ki), .val (.int mi)] [(.int (0 : Int32)), (.ref rE3)])) rfl (by rw [hml]; rfl) (Steps.refl _) (argsL := [(.int (0 : Int32))]) (rest := []) (lenOf pd_24 rfl) rfl (by show 2 * 0 + _ ≤ _; exact Nat.le_of_eq rfl) (hb hby at_54) (fun _ _ => ⟨rfl, hh10, (by decide : 12 + 0 ≤ _), (by decide : 36935 + 0 ≤ _)⟩)
  dsimp only [Pt.U, Pt.locs, Pt.cells, Pt.slots] at X17 l17 y17 z17 sr17 hQ17
  subst l17 y17 z17
  obtain ⟨rfl, N17q, hh17⟩ := hQ17
  have N17 := Fr.app N10 N17q
  obtain ⟨LL17, X17, N17⟩ := own_hide X17 N17
  have st18 : Steps p.tables e below sE (T17.setTop (mkF m 57 #[.val (.int x0), .val (.int x1), .val (.int x2), .val (.int nq), .val (.ref rE3), .val (.int nL), .val (.int ki), .val (.int mi)] [(.int (F25 (0 : Int32) LN))])) := st16.trans (sr17)
  have st19 : Steps p.tables e below sE (T17.setTop (mkF m 59 #[.val (.int x0), .val (.int x1), .val (.int x2), .val (.int nq), .val (.ref rE3), .val (.int nL), .val (.int ki), .val (.int mi)] [(.int (63 : Int32)), (.int (F25 (0 : Int32) LN))])) := st18.trans (by
      show Steps _ _ _ (T17.setTop (mkF m 57 #[.val (.int x0), .val (.int x1), .val (.int x2), .val (.int nq), .val (.ref rE3), .val (.int nL), .val (.int ki), .val (.int mi)] [(.int (F25 (0 : Int32) LN))])) _
      refine XS.bipush X17.here hx rfl (hb hby at_57) ?_
      exact Steps.refl _)
  have hf20 : (F25 (0 : Int32) LN) = (63 : Int32) := own_q0 hLN (by decide) (by rw [show (0 : Int32).toInt = 0 by decide]; omega) (by decide)
  have st21 : Steps p.tables e below sE (T17.setTop (mkF m 70 #[.val (.int x0), .val (.int x1), .val (.int x2), .val (.int nq), .val (.ref rE3), .val (.int nL), .val (.int ki), .val (.int mi)] [(.int (nL - (1 : Int32))), (.ref rE3)])) := st19.trans (by
      show Steps _ _ _ (T17.setTop (mkF m 59 #[.val (.int x0), .val (.int x1), .val (.int x2), .val (.int nq), .val (.ref rE3), .val (.int nL), .val (.int ki), .val (.int mi)] [(.int (63 : Int32)), (.int (F25 (0 : Int32) LN))])) _
      refine XS.icmpYes X17.here hx rfl (pc0 := 59) (pc' := 64) rfl (hb hby at_59) rfl (teq hf20).1 (by decide) (by decide) ?_
      show Steps _ _ _ (T17.setTop (mkF m 64 #[.val (.int x0), .val (.int x1), .val (.int x2), .val (.int nq), .val (.ref rE3), .val (.int nL), .val (.int ki), .val (.int mi)] [])) _
      refine XS.aload X17.here hx rfl (hb hby at_64) rfl rfl ?_
      show Steps _ _ _ (T17.setTop (mkF m 66 #[.val (.int x0), .val (.int x1), .val (.int x2), .val (.int nq), .val (.ref rE3), .val (.int nL), .val (.int ki), .val (.int mi)] [(.ref rE3)])) _
      refine XS.iload X17.here hx rfl (hb hby at_66) rfl ?_
      show Steps _ _ _ (T17.setTop (mkF m 68 #[.val (.int x0), .val (.int x1), .val (.int x2), .val (.int nq), .val (.ref rE3), .val (.int nL), .val (.int ki), .val (.int mi)] [(.int nL), (.ref rE3)])) _
      refine XS.iconst X17.here hx rfl (hb hby at_68) ?_
      show Steps _ _ _ (T17.setTop (mkF m 69 #[.val (.int x0), .val (.int x1), .val (.int x2), .val (.int nq), .val (.ref rE3), .val (.int nL), .val (.int ki), .val (.int mi)] [(.int (1 : Int32)), (.int nL), (.ref rE3)])) _
      refine XS.isub X17.here hx rfl (hb hby at_69) rfl ?_
      exact Steps.refl _)
  obtain ⟨ll, e_ll⟩ : ∃ z, z = (nL - (1 : Int32)) := ⟨_, rfl⟩
  rw [← e_ll] at st21
  have h_ll := own_l1 hnq hnL
  rw [← e_ll] at h_ll
  obtain ⟨cq22, kq22, q22a, q22b, q22c⟩ := isOf hZ hh17 qE
  obtain ⟨_, _, ⟨T22, L22, k22, n22⟩, -, X22, ⟨Lc22, hQ22, l22, y22, z22⟩, sr22⟩ := X17.virtualBack hx (y := (⟨"java/lang/String", "charAt", "(I)C"⟩ : MethodName)) (z := (⟨"java/lang/String", "charAt", "(I)C"⟩ : MethodName)) hown (mvT hZ (hw _ (List.mem_of_getElem? (i := 138) rfl))) (mvT hZ (hw _ (List.mem_of_getElem? (i := 139) rfl))) (notFace_of_selects (args := #[]) (mvT hZ (hw _ (List.mem_of_getElem? (i := 141) rfl)))) (mvT hZ (hw _ (List.mem_of_getElem? (i := 141) rfl))) (mvT hZ (hw _ (List.mem_of_getElem? (i := 140) rfl))) (by decide) (backOf (W := 0) (rm25 l Z a0 hw [] rE3 ll cs sf bN kN nL LN T3.heap n0 Z7 f4 hcs f5 hsf qE qV qC qA (own_hi (k := ll) (by omega) (by omega))) hZ (hw _ (List.mem_of_getElem? (i := 142) rfl)) (hw _ (List.mem_of_getElem? (i := 20) rfl)) (by decide) (by decide)) q22a q22c (g := (mkF m 70 #[.val (.int x0), .val (.int x1), .val (.int x2), .val (.int nq), .val (.ref rE3), .val (.int nL), .val (.int ki), .val (.int mi)] [(.int ll), (.ref rE3)])) rfl (by rw [hml]; rfl) (Steps.refl _) (argsL := [(.int ll)]) (rest := []) (lenOf pd_24 rfl) rfl (by show 2 * 0 + _ ≤ _; exact Nat.le_of_eq rfl) (hb hby at_70) (fun _ _ => ⟨rfl, hh17, (by decide : 12 + 0 ≤ _), (by decide : 36935 + 0 ≤ _)⟩)
  dsimp only [Pt.U, Pt.locs, Pt.cells, Pt.slots] at X22 l22 y22 z22 sr22 hQ22
  subst l22 y22 z22
  obtain ⟨rfl, N22q, hh22⟩ := hQ22
  have N22 := Fr.app N17 N22q
  obtain ⟨LL22, X22, N22⟩ := own_hide X22 N22
  have st23 : Steps p.tables e below sE (T22.setTop (mkF m 73 #[.val (.int x0), .val (.int x1), .val (.int x2), .val (.int nq), .val (.ref rE3), .val (.int nL), .val (.int ki), .val (.int mi)] [(.int (F25 ll LN))])) := st21.trans (sr22)
  have st24 : Steps p.tables e below sE (T22.setTop (mkF m 75 #[.val (.int x0), .val (.int x1), .val (.int x2), .val (.int nq), .val (.ref rE3), .val (.int nL), .val (.int ki), .val (.int mi)] [(.int (63 : Int32)), (.int (F25 ll LN))])) := st23.trans (by
      show Steps _ _ _ (T22.setTop (mkF m 73 #[.val (.int x0), .val (.int x1), .val (.int x2), .val (.int nq), .val (.ref rE3), .val (.int nL), .val (.int ki), .val (.int mi)] [(.int (F25 ll LN))])) _
      refine XS.bipush X22.here hx rfl (hb hby at_73) ?_
      exact Steps.refl _)
  have hf25 : (F25 ll LN) = (63 : Int32) := own_q0 hLN (k := ll) (by omega) (by omega) (by omega)
  have st26 : Steps p.tables e below sE (T22.setTop (mkF m 84 #[.val (.int x0), .val (.int x1), .val (.int x2), .val (.int nq), .val (.ref rE3), .val (.int nL), .val (.int ki), .val (.int mi)] [(.int ki), (.ref rE3)])) := st24.trans (by
      show Steps _ _ _ (T22.setTop (mkF m 75 #[.val (.int x0), .val (.int x1), .val (.int x2), .val (.int nq), .val (.ref rE3), .val (.int nL), .val (.int ki), .val (.int mi)] [(.int (63 : Int32)), (.int (F25 ll LN))])) _
      refine XS.icmpYes X22.here hx rfl (pc0 := 75) (pc' := 80) rfl (hb hby at_75) rfl (teq hf25).1 (by decide) (by decide) ?_
      show Steps _ _ _ (T22.setTop (mkF m 80 #[.val (.int x0), .val (.int x1), .val (.int x2), .val (.int nq), .val (.ref rE3), .val (.int nL), .val (.int ki), .val (.int mi)] [])) _
      refine XS.aload X22.here hx rfl (hb hby at_80) rfl rfl ?_
      show Steps _ _ _ (T22.setTop (mkF m 82 #[.val (.int x0), .val (.int x1), .val (.int x2), .val (.int nq), .val (.ref rE3), .val (.int nL), .val (.int ki), .val (.int mi)] [(.ref rE3)])) _
      refine XS.iload X22.here hx rfl (hb hby at_82) rfl ?_
      exact Steps.refl _)
  obtain ⟨cq27, kq27, q27a, q27b, q27c⟩ := isOf hZ hh22 qE
  obtain ⟨_, _, ⟨T27, L27, k27, n27⟩, -, X27, ⟨Lc27, hQ27, l27, y27, z27⟩, sr27⟩ := X22.virtualBack hx (y := (⟨"java/lang/String", "charAt", "(I)C"⟩ : MethodName)) (z := (⟨"java/lang/String", "charAt", "(I)C"⟩ : MethodName)) hown (mvT hZ (hw _ (List.mem_of_getElem? (i := 138) rfl))) (mvT hZ (hw _ (List.mem_of_getElem? (i := 139) rfl))) (notFace_of_selects (args := #[]) (mvT hZ (hw _ (List.mem_of_getElem? (i := 141) rfl)))) (mvT hZ (hw _ (List.mem_of_getElem? (i := 141) rfl))) (mvT hZ (hw _ (List.mem_of_getElem? (i := 140) rfl))) (by decide) (backOf (W := 0) (rm25 l Z a0 hw [] rE3 ki cs sf bN kN nL LN T3.heap n0 Z7 f4 hcs f5 hsf qE qV qC qA (own_hi h_ki.1 h_ki.2)) hZ (hw _ (List.mem_of_getElem? (i := 142) rfl)) (hw _ (List.mem_of_getElem? (i := 20) rfl)) (by decide) (by decide)) q27a q27c (g := (mkF m 84 #[.val (.int x0), .val (.int x1), .val (.int x2), .val (.int nq), .val (.ref rE3), .val (.int nL), .val (.int ki), .val (.int mi)] [(.int ki), (.ref rE3)])) rfl (by rw [hml]; rfl) (Steps.refl _) (argsL := [(.int ki)]) (rest := []) (lenOf pd_24 rfl) rfl (by show 2 * 0 + _ ≤ _; exact Nat.le_of_eq rfl) (hb hby at_84) (fun _ _ => ⟨rfl, hh22, (by decide : 12 + 0 ≤ _), (by decide : 36935 + 0 ≤ _)⟩)
  dsimp only [Pt.U, Pt.locs, Pt.cells, Pt.slots] at X27 l27 y27 z27 sr27 hQ27
  subst l27 y27 z27
  obtain ⟨rfl, N27q, hh27⟩ := hQ27
  have N27 := Fr.app N22 N27q
  obtain ⟨LL27, X27, N27⟩ := own_hide X27 N27
  have st28 : Steps p.tables e below sE (T27.setTop (mkF m 87 #[.val (.int x0), .val (.int x1), .val (.int x2), .val (.int nq), .val (.ref rE3), .val (.int nL), .val (.int ki), .val (.int mi)] [(.int (F25 ki LN))])) := st26.trans (sr27)
  have st29 : Steps p.tables e below sE (T27.setTop (mkF m 89 #[.val (.int x0), .val (.int x1), .val (.int x2), .val (.int nq), .val (.ref rE3), .val (.int nL), .val (.int ki), .val (.int mi)] [(.int ki), (.int (F25 ki LN))])) := st28.trans (by
      show Steps _ _ _ (T27.setTop (mkF m 87 #[.val (.int x0), .val (.int x1), .val (.int x2), .val (.int nq), .val (.ref rE3), .val (.int nL), .val (.int ki), .val (.int mi)] [(.int (F25 ki LN))])) _
      refine XS.iload X27.here hx rfl (hb hby at_87) rfl ?_
      exact Steps.refl _)
  obtain ⟨_, _, ⟨T30, L30, k30, n30⟩, -, X30, ⟨Lc30, hQ30, l30, y30, z30⟩, sr30⟩ := Jvm.LawKit.callS X27 hx (y := (⟨"com/example/persephone/persephone/store/SqlListsPlaceholdersPinLaw", "expectedAt", "(I)C"⟩ : MethodName)) hown (mvT hZ (hw _ (List.mem_of_getElem? (i := 160) rfl))) (mvT hZ (hw _ (List.mem_of_getElem? (i := 161) rfl))) (mvT hZ (hw _ (List.mem_of_getElem? (i := 162) rfl))) (mvT hZ (hw _ (List.mem_of_getElem? (i := 163) rfl))) (by decide) (backOf (W := 1) (rm30 l Z a0 hw [] ki  T3.heap n0 Z7 ) hZ (hw _ (List.mem_of_getElem? (i := 163) rfl)) (hw _ (List.mem_of_getElem? (i := 162) rfl)) (by decide) (by decide)) (g := (mkF m 89 #[.val (.int x0), .val (.int x1), .val (.int x2), .val (.int nq), .val (.ref rE3), .val (.int nL), .val (.int ki), .val (.int mi)] [(.int ki), (.int (F25 ki LN))])) rfl (by rw [hml]; rfl) (argsL := [(.int ki)]) (rest := [(.int (F25 ki LN))]) (lenOf pd_24 rfl) rfl (by show 2 * 0 + _ ≤ _; exact Nat.le_of_eq rfl) (hb hby at_89) (fun _ _ => ⟨rfl, hh27, (by decide : 12 + 0 ≤ _), (by decide : 36935 + 0 ≤ _)⟩)
  dsimp only [Pt.U, Pt.locs, Pt.cells, Pt.slots] at X30 l30 y30 z30 sr30 hQ30
  subst l30 y30 z30
  obtain ⟨rfl, N30q, hh30⟩ := hQ30
  have N30 := Fr.app N27 N30q
  obtain ⟨LL30, X30, N30⟩ := own_hide X30 N30
  have st31 : Steps p.tables e below sE (T30.setTop (mkF m 92 #[.val (.int x0), .val (.int x1), .val (.int x2), .val (.int nq), .val (.ref rE3), .val (.int nL), .val (.int ki), .val (.int mi)] [(.int (F30 ki)), (.int (F25 ki LN))])) := st29.trans (sr30 _ (Steps.refl _))
  have hf32 : (F25 ki LN) = (F30 ki) := own_ca hLN h_ki.1 h_ki.2
  have st33 : Steps p.tables e below sE (T30.setTop (mkF m 99 #[.val (.int x0), .val (.int x1), .val (.int x2), .val (.int nq), .val (.ref rE3), .val (.int nL), .val (.int ki), .val (.int mi)] [(.int mi), (.ref rE3)])) := st31.trans (by
      show Steps _ _ _ (T30.setTop (mkF m 92 #[.val (.int x0), .val (.int x1), .val (.int x2), .val (.int nq), .val (.ref rE3), .val (.int nL), .val (.int ki), .val (.int mi)] [(.int (F30 ki)), (.int (F25 ki LN))])) _
      refine XS.icmpNo X30.here hx rfl (hb hby at_92) rfl (teq hf32).2 ?_
      show Steps _ _ _ (T30.setTop (mkF m 95 #[.val (.int x0), .val (.int x1), .val (.int x2), .val (.int nq), .val (.ref rE3), .val (.int nL), .val (.int ki), .val (.int mi)] [])) _
      refine XS.aload X30.here hx rfl (hb hby at_95) rfl rfl ?_
      show Steps _ _ _ (T30.setTop (mkF m 97 #[.val (.int x0), .val (.int x1), .val (.int x2), .val (.int nq), .val (.ref rE3), .val (.int nL), .val (.int ki), .val (.int mi)] [(.ref rE3)])) _
      refine XS.iload X30.here hx rfl (hb hby at_97) rfl ?_
      exact Steps.refl _)
  obtain ⟨cq34, kq34, q34a, q34b, q34c⟩ := isOf hZ hh30 qE
  obtain ⟨_, _, ⟨T34, L34, k34, n34⟩, -, X34, ⟨Lc34, hQ34, l34, y34, z34⟩, sr34⟩ := X30.virtualBack hx (y := (⟨"java/lang/String", "charAt", "(I)C"⟩ : MethodName)) (z := (⟨"java/lang/String", "charAt", "(I)C"⟩ : MethodName)) hown (mvT hZ (hw _ (List.mem_of_getElem? (i := 138) rfl))) (mvT hZ (hw _ (List.mem_of_getElem? (i := 139) rfl))) (notFace_of_selects (args := #[]) (mvT hZ (hw _ (List.mem_of_getElem? (i := 141) rfl)))) (mvT hZ (hw _ (List.mem_of_getElem? (i := 141) rfl))) (mvT hZ (hw _ (List.mem_of_getElem? (i := 140) rfl))) (by decide) (backOf (W := 0) (rm25 l Z a0 hw [] rE3 mi cs sf bN kN nL LN T3.heap n0 Z7 f4 hcs f5 hsf qE qV qC qA (own_hi h_mi.1 h_mi.2)) hZ (hw _ (List.mem_of_getElem? (i := 142) rfl)) (hw _ (List.mem_of_getElem? (i := 20) rfl)) (by decide) (by decide)) q34a q34c (g := (mkF m 99 #[.val (.int x0), .val (.int x1), .val (.int x2), .val (.int nq), .val (.ref rE3), .val (.int nL), .val (.int ki), .val (.int mi)] [(.int mi), (.ref rE3)])) rfl (by rw [hml]; rfl) (Steps.refl _) (argsL := [(.int mi)]) (rest := []) (lenOf pd_24 rfl) rfl (by show 2 * 0 + _ ≤ _; exact Nat.le_of_eq rfl) (hb hby at_99) (fun _ _ => ⟨rfl, hh30, (by decide : 12 + 0 ≤ _), (by decide : 36935 + 0 ≤ _)⟩)
  dsimp only [Pt.U, Pt.locs, Pt.cells, Pt.slots] at X34 l34 y34 z34 sr34 hQ34
  subst l34 y34 z34
  obtain ⟨rfl, N34q, hh34⟩ := hQ34
  have N34 := Fr.app N30 N34q
  obtain ⟨LL34, X34, N34⟩ := own_hide X34 N34
  have st35 : Steps p.tables e below sE (T34.setTop (mkF m 102 #[.val (.int x0), .val (.int x1), .val (.int x2), .val (.int nq), .val (.ref rE3), .val (.int nL), .val (.int ki), .val (.int mi)] [(.int (F25 mi LN))])) := st33.trans (sr34)
  have st36 : Steps p.tables e below sE (T34.setTop (mkF m 104 #[.val (.int x0), .val (.int x1), .val (.int x2), .val (.int nq), .val (.ref rE3), .val (.int nL), .val (.int ki), .val (.int mi)] [(.int mi), (.int (F25 mi LN))])) := st35.trans (by
      show Steps _ _ _ (T34.setTop (mkF m 102 #[.val (.int x0), .val (.int x1), .val (.int x2), .val (.int nq), .val (.ref rE3), .val (.int nL), .val (.int ki), .val (.int mi)] [(.int (F25 mi LN))])) _
      refine XS.iload X34.here hx rfl (hb hby at_102) rfl ?_
      exact Steps.refl _)
  obtain ⟨_, _, ⟨T37, L37, k37, n37⟩, -, X37, ⟨Lc37, hQ37, l37, y37, z37⟩, sr37⟩ := Jvm.LawKit.callS X34 hx (y := (⟨"com/example/persephone/persephone/store/SqlListsPlaceholdersPinLaw", "expectedAt", "(I)C"⟩ : MethodName)) hown (mvT hZ (hw _ (List.mem_of_getElem? (i := 160) rfl))) (mvT hZ (hw _ (List.mem_of_getElem? (i := 161) rfl))) (mvT hZ (hw _ (List.mem_of_getElem? (i := 162) rfl))) (mvT hZ (hw _ (List.mem_of_getElem? (i := 163) rfl))) (by decide) (backOf (W := 1) (rm30 l Z a0 hw [] mi  T3.heap n0 Z7 ) hZ (hw _ (List.mem_of_getElem? (i := 163) rfl)) (hw _ (List.mem_of_getElem? (i := 162) rfl)) (by decide) (by decide)) (g := (mkF m 104 #[.val (.int x0), .val (.int x1), .val (.int x2), .val (.int nq), .val (.ref rE3), .val (.int nL), .val (.int ki), .val (.int mi)] [(.int mi), (.int (F25 mi LN))])) rfl (by rw [hml]; rfl) (argsL := [(.int mi)]) (rest := [(.int (F25 mi LN))]) (lenOf pd_24 rfl) rfl (by show 2 * 0 + _ ≤ _; exact Nat.le_of_eq rfl) (hb hby at_104) (fun _ _ => ⟨rfl, hh34, (by decide : 12 + 0 ≤ _), (by decide : 36935 + 0 ≤ _)⟩)
  dsimp only [Pt.U, Pt.locs, Pt.cells, Pt.slots] at X37 l37 y37 z37 sr37 hQ37
  subst l37 y37 z37
  obtain ⟨rfl, N37q, hh37⟩ := hQ37
  have N37 := Fr.app N34 N37q
  obtain ⟨LL37, X37, N37⟩ := own_hide X37 N37
  have st38 : Steps p.tables e below sE (T37.setTop (mkF m 107 #[.val (.int x0), .val (.int x1), .val (.int x2), .val (.int nq), .val (.ref rE3), .val (.int nL), .val (.int ki), .val (.int mi)] [(.int (F30 mi)), (.int (F25 mi LN))])) := st36.trans (sr37 _ (Steps.refl _))
  have hf39 : (F25 mi LN) = (F30 mi) := own_ca hLN h_mi.1 h_mi.2
  have st40 : Steps p.tables e below sE (T37.setTop (mkF m 115 #[.val (.int x0), .val (.int x1), .val (.int x2), .val (.int nq), .val (.ref rE3), .val (.int nL), .val (.int ki), .val (.int mi)] [(.int (1 : Int32))])) := st38.trans (by
      show Steps _ _ _ (T37.setTop (mkF m 107 #[.val (.int x0), .val (.int x1), .val (.int x2), .val (.int nq), .val (.ref rE3), .val (.int nL), .val (.int ki), .val (.int mi)] [(.int (F30 mi)), (.int (F25 mi LN))])) _
      refine XS.icmpNo X37.here hx rfl (hb hby at_107) rfl (teq hf39).2 ?_
      show Steps _ _ _ (T37.setTop (mkF m 110 #[.val (.int x0), .val (.int x1), .val (.int x2), .val (.int nq), .val (.ref rE3), .val (.int nL), .val (.int ki), .val (.int mi)] [])) _
      refine XS.iconst X37.here hx rfl (hb hby at_110) ?_
      show Steps _ _ _ (T37.setTop (mkF m 111 #[.val (.int x0), .val (.int x1), .val (.int x2), .val (.int nq), .val (.ref rE3), .val (.int nL), .val (.int ki), .val (.int mi)] [(.int (1 : Int32))])) _
      refine XS.goto X37.here hx rfl (pc0 := 111) (pc' := 115) rfl (hb hby at_111) (by decide) (by decide) ?_
      exact Steps.refl _)
  obtain ⟨fs, hr, hrun, hended, hEW⟩ := X37.leaveW hS (by rw [hh37]; exact hk) (v := some (.int (1 : Int32))) (fun h => by rw [Bd.returns] at h; cases h) hlk
  have hIe := own_ibw X37 hI
  refine ⟨_, _, (own_ent hsE st40).trans ?_, hrun, hended, _, _, rfl, ⟨?_, hIe⟩, hEW.1, hEW.2.1, hEW.2.2.1, hEW.2.2.2.mono (by decide) (by decide)⟩
  · exact retN X37 hx (t := .boolean) Bd.returns (by simp) (hb hby at_115) hr
  · show Q0 Z x0 x1 x2 cs sf h0 n0 _ T37.heap _
    rw [hh37]
    exact ⟨rfl, N37⟩
set_option maxRecDepth 65536 in
set_option maxHeartbeats 40000000 in
theorem comes_1 {Post : Tables → Env → Array Value → State → Outcome → State → Prop} (hpost : ∀ tb e args s v u, (limb_1_1.after args s (.returned v) u = true ∧ limb_1_2.after args s (.returned v) u = true ∧ True) → ReturnedEndW s (.returned v) u (Jvm.fieldLocs frame_1_writes args s ++ Jvm.arrayLocs frame_1_arrays args s ++ Jvm.staticLocs frame_1_statics s) 32 64640 → Post tb e args s (.returned v) u) :
    ArmFor flags0 classFile x code maxLocals ret World_1 tables_1 room_1 Calls_1 rest_1 Pre_1 Post := by
  intro l hfl _ _ p e ha hc hk s m args below hf hA hF happ hP
  obtain ⟨hcalls, hrest, hpre⟩ := hP
  obtain ⟨-, -, -, hnamed, -, -, -, hat⟩ := (Spec.applies_iff hf).mp happ
  obtain ⟨hg, hn⟩ := and_e (Cond.before_iff.mp (show (Jvm.Cond.and given_1 narrow_1).before args s = true from hpre))
  obtain ⟨g1, g2⟩ := and_e hg
  obtain ⟨g3, g4⟩ := and_e g2
  obtain ⟨g5, g6⟩ := and_e g4
  obtain ⟨w0, w1, w2, rfl⟩ : ∃ w0 w1 w2 : Value, args = #[w0, w1, w2] := by
    have hs : args.size = 3 := by simpa [Cond.value, given_1] using g1
    obtain ⟨L⟩ := args
    match L, hs with
    | [w0, w1, w2], _ => exact ⟨w0, w1, w2, rfl⟩
  have hw := fun d (hd : d ∈ tables_1) => atoms_spec (ws := Jvm.Cond.code x code maxLocals ret :: tables_1) hat d (List.mem_cons_of_mem _ hd)
  have hfit : Fit s := fun {y c} hc i hi => by
    obtain ⟨ha, rfl⟩ := Array.getElem?_eq_some_iff.mp hc
    have q := List.all_eq_true.mp ((Array.all_eq_true_iff_forall_mem.mp hF) _ (Array.getElem_mem ha)) i (List.mem_range.mpr hi)
    simpa [Array.getElem?_eq_getElem hi] using q
  obtain ⟨hsets, hown0⟩ := atoms_of _ (rest_1_c_eq ▸ (show rest_1_c.before _ s = true from hrest))
  have hr0 := Cond.before_iff.mp hown0
  obtain ⟨i0, ei0⟩ := is_v g3
  obtain rfl : w0 = (.int i0) := Option.some.inj ei0
  obtain ⟨i1, ei1⟩ := is_v g5
  obtain rfl : w1 = (.int i1) := Option.some.inj ei1
  obtain ⟨i2, ei2⟩ := is_v g6
  obtain rfl : w2 = (.int i2) := Option.some.inj ei2
  obtain ⟨cs, ecs⟩ := is_v (Cond.before_iff.mp (hsets _ (List.mem_of_getElem? (i := 1) rfl)))
  have S_c := Sta.start ecs (Or.inl (hsets _ (List.mem_of_getElem? (i := 0) rfl)))
  have hcw := hsets _ (List.mem_of_getElem? (i := 2) rfl)
  have hcs := gotF (Cond.eq_ints ecs (Term.int_eval 0)) (not_v (Cond.before_iff.mp hcw))
  obtain ⟨sf, esf, hsf⟩ := isR_v (Cond.before_iff.mp (hsets _ (List.mem_of_getElem? (i := 8) rfl)))
  have S_f := Sta.start esf (Or.inl (hsets _ (List.mem_of_getElem? (i := 7) rfl)))
  have hc10 := hcalls.1 ("com/example/persephone/persephone/store/SqlLists", 10) (by simp [consts_1])
  have hc22 := hcalls.1 ("com/example/persephone/persephone/store/SqlLists", 22) (by simp [consts_1])
  have hc7 := hcalls.1 ("java/lang/String", 7) (by simp [consts_1])
  obtain ⟨n, o, h1, h2, h3, _, L, rfl, ⟨⟨hv, N⟩, -⟩, hq⟩ := rm0 l s _ hw tables_1 i0 i1 i2 cs sf s.heap s.heap.size (Nat.le_refl _) S_c hcs S_f hsf hcw (fun _ _ q => q) (Nat.le_refl _) hc10 hc22 hc7 p e ha hc hk s m _ below hf ((Spec.applies_iff_loose hf).mp happ).1 ⟨rfl, ⟨State.Warmed39.refl s, IB.start⟩, rfl⟩ trivial
  subst hv
  refine ⟨n, _, h1, h2, h3, hpost _ _ _ _ _ _ ⟨Cond.after_iff.mpr rfl, Cond.after_iff.mpr (eq_i res_at (Term.int_eval (1)) rfl), trivial⟩ ⟨hq.1, hq.2.1, hq.2.2.1, (hq.2.2.2.sift fun y hy => Or.inr (N y hy)).mono (by decide) (by decide)⟩⟩
theorem main_1_1 : Claimed_1_1 := comes_1 fun _ _ _ _ _ _ h hF => ⟨h.1, hF⟩
theorem main_1_2 : Claimed_1_2 := comes_1 fun _ _ _ _ _ _ h hF => ⟨h.2.1, hF⟩
end Jvm.Pilot.@@N@@
namespace Jvm.Pilot.@@N@@
open Jvm Jvm.ClassFile Sem Op Lib Jvm.Free Jvm.Stand Jvm.Pilot.@@N@@.Jvm.D
/-! MADE BY PROGRAM (witnessworld.py) out of the Statement's table words and the real class files: 23 classes; the members and pool entries that the words name. The judged class is class 1, her method 2. -/
namespace start1
open Jvm.ClassFile
def u (s : String) : CpInfo := .utf8 (stringToUtf16 s)
/-- a pool by its gaps: so many unusable entries, then the entry; so many at the end -/
def gap : Nat → List CpInfo → List CpInfo
  | 0, r => r
  | n + 1, r => .unusable :: gap n r
def poolList (es : List (Nat × CpInfo)) (last : Nat) : List CpInfo := es.foldr (fun e r => gap e.1 (e.2 :: r)) (gap last [])
def pool (es : List (Nat × CpInfo)) (last : Nat) : Array CpInfo := ⟨poolList es last⟩
def fileOf (pool : Array CpInfo) (this : Nat) (attrs : Array Attribute := #[]) (ms : Array MethodInfo := #[]) (fl : Nat := 33) (sup : Nat := 0) (ifs : Array Nat := #[]) (fds : Array FieldInfo := #[]) : ClassFile where
  minorVersion := 0
  majorVersion := 65
  constantPool := pool
  accessFlags := fl
  thisClass := this
  superClass := sup
  interfaces := ifs
  fields := fds
  methods := ms
  attributes := attrs
def plain (name : String) (sup : Option ClassId) : Class where
  name := name
  kind := .ordinary
  loader := none
  accessFlags := 33
  super := sup
  interfaces := #[]
  cf := none
  fields := #[]
  methods := #[]
  instanceTypes := #[]
  staticTypes := #[]
  resolved := #[]
  callSites := []
  init := .initialized
  statics := none
  mirror := none

def pool0 : Array CpInfo := pool [(5, u "<init>"), (0, u "()V"), (1, .class_ 10), (1, u "java/lang/Object"), (85, u "clone"), (0, u "()Ljava/lang/Object;")] 26

def k0c0 : Code := { maxStack := 0, maxLocals := 1, code := object_method_1_code, exceptionTable := #[], attributes := #[] }
def k0m0 : Method := { name := "<init>", desc := "()V", sig := { parameters := [], returnType := none }, accessFlags := 1, code := some k0c0 }
def k0m1 : Method := { name := "clone", desc := "()Ljava/lang/Object;", sig := { parameters := [], returnType := some (.object "java/lang/Object") }, accessFlags := 260, code := none }
/-- java/lang/Object -/
def k0 : Class := { plain "java/lang/Object" none with
  accessFlags := 33
  interfaces := #[]
  cf := some (fileOf pool0 8 #[] #[{ accessFlags := 1, nameIndex := 5, descriptorIndex := 6, attributes := #[] }, { accessFlags := 260, nameIndex := 96, descriptorIndex := 97, attributes := #[] }] 33 0 #[] #[])
  fields := #[]
  methods := #[k0m0, k0m1]
  instanceTypes := #[]
  staticTypes := #[]
  resolved := Array.replicate 124 none
  statics := none }

def pool1 : Array CpInfo := pool [(2, .class_ 4), (1, u "java/lang/Object"), (0, u "<init>"), (0, u "()V"), (0, .methodref 8 9), (0, .class_ 10), (0, .nameAndType 11 12), (0, u "com/example/persephone/persephone/store/SqlLists"), (0, u "placeholders"), (0, u "(I)Ljava/lang/String;"), (0, .methodref 14 15), (0, .class_ 16), (0, .nameAndType 17 18), (0, u "java/lang/String"), (0, u "length"), (0, u "()I"), (0, .integer 2147483647), (0, .methodref 14 21), (0, .nameAndType 22 23), (0, u "charAt"), (0, u "(I)C"), (0, .methodref 25 26), (0, .class_ 27), (0, .nameAndType 28 23), (0, u "com/example/persephone/persephone/store/SqlListsPlaceholdersPinLaw"), (0, u "expectedAt"), (3, u "law"), (0, u "(III)Z")] 2

def k1m0 : Method := { name := "<init>", desc := "()V", sig := { parameters := [], returnType := none }, accessFlags := 1, code := none }
def k1c1 : Code := { maxStack := 2, maxLocals := 2, code := method_2_code, exceptionTable := #[], attributes := #[] }
def k1m1 : Method := { name := "expectedAt", desc := "(I)C", sig := { parameters := [.int], returnType := some .char }, accessFlags := 10, code := some k1c1 }
def k1c2 : Code := { maxStack := 3, maxLocals := 8, code := code, exceptionTable := #[], attributes := #[] }
def k1m2 : Method := { name := "law", desc := "(III)Z", sig := { parameters := [.int, .int, .int], returnType := some .boolean }, accessFlags := 9, code := some k1c2 }
/-- com/example/persephone/persephone/store/SqlListsPlaceholdersPinLaw -/
def k1 : Class := { plain "com/example/persephone/persephone/store/SqlListsPlaceholdersPinLaw" (some 0) with
  accessFlags := 49
  interfaces := #[]
  cf := some (fileOf pool1 25 #[] #[{ accessFlags := 1, nameIndex := 5, descriptorIndex := 6, attributes := #[] }, { accessFlags := 10, nameIndex := 28, descriptorIndex := 23, attributes := #[] }, { accessFlags := 9, nameIndex := 32, descriptorIndex := 33, attributes := #[] }] 49 2 #[] #[])
  fields := #[]
  methods := #[k1m0, k1m1, k1m2]
  instanceTypes := #[]
  staticTypes := #[]
  resolved := Array.replicate 36 none
  statics := none }

def pool2 : Array CpInfo := pool [(2, .class_ 4), (0, .nameAndType 5 6), (0, u "java/lang/Object"), (0, u "<init>"), (0, u "()V"), (0, .class_ 8), (0, u "java/lang/StringBuilder"), (0, .methodref 7 3), (0, .string 11), (0, u "?, "), (0, .methodref 13 14), (0, .class_ 15), (0, .nameAndType 16 17), (0, u "java/lang/String"), (0, u "repeat"), (0, u "(I)Ljava/lang/String;"), (0, .methodref 7 19), (0, .nameAndType 20 21), (0, u "append"), (0, u "(Ljava/lang/String;)Ljava/lang/StringBuilder;"), (0, .string 23), (0, u "?"), (0, .methodref 7 25), (0, .nameAndType 26 27), (0, u "toString"), (0, u "()Ljava/lang/String;"), (3, .class_ 33), (1, u "com/example/persephone/persephone/store/SqlLists"), (0, u "placeholders"), (52, .class_ 89), (1, u "com/example/persephone/persephone/store/SqlLists$Leading"), (41, .class_ 133), (1, u "com/example/persephone/persephone/store/SqlLists$RowReader"), (17, u "PIECE"), (0, u "I")] 24

def k2m0 : Method := { name := "<init>", desc := "()V", sig := { parameters := [], returnType := none }, accessFlags := 2, code := none }
def k2c1 : Code := { maxStack := 4, maxLocals := 1, code := prog_43_method_2_code, exceptionTable := #[], attributes := #[] }
def k2m1 : Method := { name := "placeholders", desc := "(I)Ljava/lang/String;", sig := { parameters := [.int], returnType := some (.object "java/lang/String") }, accessFlags := 9, code := some k2c1 }
/-- com/example/persephone/persephone/store/SqlLists -/
def k2 : Class := { plain "com/example/persephone/persephone/store/SqlLists" (some 0) with
  accessFlags := 49
  interfaces := #[]
  cf := some (fileOf pool2 31 #[.nestMembers #[131, 87]] #[{ accessFlags := 2, nameIndex := 5, descriptorIndex := 6, attributes := #[] }, { accessFlags := 9, nameIndex := 34, descriptorIndex := 17, attributes := #[] }] 49 2 #[] #[{ accessFlags := 25, nameIndex := 151, descriptorIndex := 152, attributes := #[] }])
  fields := #[{ name := "PIECE", type := .int, accessFlags := 25, slot := 0, constantValue := 0 }]
  methods := #[k2m0, k2m1]
  instanceTypes := #[]
  staticTypes := #[.int]
  resolved := Array.replicate 177 none
  statics := none }

def pool3 : Array CpInfo := pool [(1, .class_ 2), (0, u "java/lang/Appendable"), (0, .class_ 4), (0, u "java/lang/Object")] 9

/-- java/lang/Appendable -/
def k3 : Class := { plain "java/lang/Appendable" (some 0) with
  accessFlags := 1537
  interfaces := #[]
  cf := some (fileOf pool3 1 #[] #[] 1537 3 #[] #[])
  fields := #[]
  methods := #[]
  instanceTypes := #[]
  staticTypes := #[]
  resolved := Array.replicate 14 none
  statics := none }

def pool4 : Array CpInfo := pool [(2, .class_ 4), (1, u "java/lang/CharSequence"), (42, .class_ 48), (0, u "java/lang/CharSequence$1CodePointIterator"), (10, .class_ 60), (0, u "java/lang/CharSequence$1CharIterator"), (5, .class_ 67), (0, u "java/lang/Object")] 63

/-- java/lang/CharSequence -/
def k4 : Class := { plain "java/lang/CharSequence" (some 0) with
  accessFlags := 1537
  interfaces := #[]
  cf := some (fileOf pool4 2 #[.nestMembers #[47, 59]] #[] 1537 66 #[] #[])
  fields := #[]
  methods := #[]
  instanceTypes := #[]
  staticTypes := #[]
  resolved := Array.replicate 131 none
  statics := none }

def pool5 : Array CpInfo := pool [(1, .class_ 2), (0, u "java/lang/String"), (0, .methodref 4 5), (0, .class_ 6), (0, .nameAndType 7 8), (0, u "java/lang/Object"), (0, u "<init>"), (0, u "()V"), (1, .class_ 12), (1, u "java/lang/AbstractStringBuilder"), (0, u "EMPTYVALUE"), (0, u "[B"), (0, .fieldref 10 16), (0, .nameAndType 17 14), (0, u "value"), (0, .fieldref 1 19), (0, .nameAndType 20 21), (0, u "COMPACT_STRINGS"), (0, u "Z"), (0, .fieldref 10 23), (0, .nameAndType 24 25), (0, u "coder"), (0, u "B"), (6, .methodref 1 33), (0, .nameAndType 34 35), (0, u "length"), (0, u "()I"), (3, .integer 2147483647), (0, .methodref 1 41), (0, .nameAndType 24 42), (0, u "()B"), (2, u "append"), (0, u "(Ljava/lang/String;)Ljava/lang/AbstractStringBuilder;"), (1, .class_ 49), (0, u "java/lang/CharSequence"), (19, u "(Ljava/lang/String;)V"), (5, u "maybeLatin1"), (3, .fieldref 10 80), (0, .nameAndType 81 82), (0, u "count"), (0, u "I"), (2, u "isLatin1"), (0, u "()Z"), (13, .methodref 10 101), (0, .nameAndType 102 103), (0, u "ensureCapacityInternal"), (0, u "(I)V"), (0, .methodref 10 105), (0, .nameAndType 106 107), (0, u "newCapacity"), (0, u "(I)I"), (0, .methodref 109 110), (0, .class_ 111), (0, .nameAndType 112 113), (0, u "java/util/Arrays"), (0, u "copyOf"), (0, u "([BI)[B"), (0, .methodref 115 116), (0, .class_ 117), (0, .nameAndType 118 119), (0, u "jdk/internal/util/ArraysSupport"), (0, u "newLength"), (0, u "(III)I"), (88, .methodref 10 209), (0, .nameAndType 210 211), (0, u "putStringAt"), (0, u "(ILjava/lang/String;)V"), (5, u "inflateIfNeededFor"), (2, .nameAndType 221 222), (0, u "getBytes"), (0, u "([BIB)V"), (174, .methodref 10 398), (0, .nameAndType 217 69), (0, .methodref 1 220), (3, u "()[B"), (40, .class_ 445), (0, u "java/lang/Appendable"), (106, u "getValue")] 56

def k5m0 : Method := { name := "<init>", desc := "()V", sig := { parameters := [], returnType := none }, accessFlags := 0, code := none }
def k5c1 : Code := { maxStack := 2, maxLocals := 2, code := jdk_68_method_2_code, exceptionTable := #[], attributes := #[] }
def k5m1 : Method := { name := "<init>", desc := "(I)V", sig := { parameters := [.int], returnType := none }, accessFlags := 0, code := some k5c1 }
def k5c2 : Code := { maxStack := 1, maxLocals := 1, code := jdk_68_method_6_code, exceptionTable := #[], attributes := #[] }
def k5m2 : Method := { name := "length", desc := "()I", sig := { parameters := [], returnType := some .int }, accessFlags := 1, code := some k5c2 }
def k5c3 : Code := { maxStack := 4, maxLocals := 3, code := jdk_68_method_9_code, exceptionTable := #[], attributes := #[] }
def k5m3 : Method := { name := "ensureCapacityInternal", desc := "(I)V", sig := { parameters := [.int], returnType := none }, accessFlags := 2, code := some k5c3 }
def k5c4 : Code := { maxStack := 5, maxLocals := 6, code := jdk_68_method_10_code, exceptionTable := #[], attributes := #[] }
def k5m4 : Method := { name := "newCapacity", desc := "(I)I", sig := { parameters := [.int], returnType := some .int }, accessFlags := 2, code := some k5c4 }
def k5c5 : Code := { maxStack := 3, maxLocals := 3, code := jdk_68_method_22_code, exceptionTable := #[], attributes := #[] }
def k5m5 : Method := { name := "append", desc := "(Ljava/lang/String;)Ljava/lang/AbstractStringBuilder;", sig := { parameters := [(.object "java/lang/String")], returnType := some (.object "java/lang/AbstractStringBuilder") }, accessFlags := 1, code := some k5c5 }
def k5c6 : Code := { maxStack := 1, maxLocals := 1, code := jdk_68_method_64_code, exceptionTable := #[], attributes := #[] }
def k5m6 : Method := { name := "getValue", desc := "()[B", sig := { parameters := [], returnType := some (.array .byte) }, accessFlags := 16, code := some k5c6 }
def k5c7 : Code := { maxStack := 1, maxLocals := 1, code := jdk_68_method_68_code, exceptionTable := #[], attributes := #[] }
def k5m7 : Method := { name := "isLatin1", desc := "()Z", sig := { parameters := [], returnType := some .boolean }, accessFlags := 16, code := some k5c7 }
def k5c8 : Code := { maxStack := 2, maxLocals := 2, code := jdk_68_method_71_code, exceptionTable := #[], attributes := #[] }
def k5m8 : Method := { name := "inflateIfNeededFor", desc := "(Ljava/lang/String;)V", sig := { parameters := [(.object "java/lang/String")], returnType := none }, accessFlags := 2, code := some k5c8 }
def k5c9 : Code := { maxStack := 4, maxLocals := 3, code := jdk_68_method_73_code, exceptionTable := #[], attributes := #[] }
def k5m9 : Method := { name := "putStringAt", desc := "(ILjava/lang/String;)V", sig := { parameters := [.int, (.object "java/lang/String")], returnType := none }, accessFlags := 2, code := some k5c9 }
/-- java/lang/AbstractStringBuilder -/
def k5 : Class := { plain "java/lang/AbstractStringBuilder" (some 0) with
  accessFlags := 1056
  interfaces := #[3, 4]
  cf := some (fileOf pool5 10 #[] #[{ accessFlags := 0, nameIndex := 7, descriptorIndex := 8, attributes := #[] }, { accessFlags := 0, nameIndex := 7, descriptorIndex := 103, attributes := #[] }, { accessFlags := 1, nameIndex := 34, descriptorIndex := 35, attributes := #[] }, { accessFlags := 2, nameIndex := 102, descriptorIndex := 103, attributes := #[] }, { accessFlags := 2, nameIndex := 106, descriptorIndex := 107, attributes := #[] }, { accessFlags := 1, nameIndex := 45, descriptorIndex := 46, attributes := #[] }, { accessFlags := 16, nameIndex := 552, descriptorIndex := 403, attributes := #[] }, { accessFlags := 16, nameIndex := 85, descriptorIndex := 86, attributes := #[] }, { accessFlags := 2, nameIndex := 217, descriptorIndex := 69, attributes := #[] }, { accessFlags := 2, nameIndex := 210, descriptorIndex := 211, attributes := #[] }] 1056 4 #[444, 48] #[{ accessFlags := 0, nameIndex := 17, descriptorIndex := 14, attributes := #[] }, { accessFlags := 0, nameIndex := 24, descriptorIndex := 25, attributes := #[] }, { accessFlags := 0, nameIndex := 75, descriptorIndex := 21, attributes := #[] }, { accessFlags := 0, nameIndex := 81, descriptorIndex := 82, attributes := #[] }, { accessFlags := 26, nameIndex := 13, descriptorIndex := 14, attributes := #[] }])
  fields := #[{ name := "value", type := (.array .byte), accessFlags := 0, slot := 0, constantValue := 0 }, { name := "coder", type := .byte, accessFlags := 0, slot := 1, constantValue := 0 }, { name := "maybeLatin1", type := .boolean, accessFlags := 0, slot := 2, constantValue := 0 }, { name := "count", type := .int, accessFlags := 0, slot := 3, constantValue := 0 }, { name := "EMPTYVALUE", type := (.array .byte), accessFlags := 26, slot := 0, constantValue := 0 }]
  methods := #[k5m0, k5m1, k5m2, k5m3, k5m4, k5m5, k5m6, k5m7, k5m8, k5m9]
  instanceTypes := #[(.array .byte), .byte, .boolean, .int]
  staticTypes := #[(.array .byte)]
  resolved := Array.replicate 609 none
  statics := none }

def pool6 : Array CpInfo := pool [(1, .class_ 2), (0, u "java/io/Serializable"), (0, .class_ 4), (0, u "java/lang/Object")] 2

/-- java/io/Serializable -/
def k6 : Class := { plain "java/io/Serializable" (some 0) with
  accessFlags := 1537
  interfaces := #[]
  cf := some (fileOf pool6 1 #[] #[] 1537 3 #[] #[])
  fields := #[]
  methods := #[]
  instanceTypes := #[]
  staticTypes := #[]
  resolved := Array.replicate 7 none
  statics := none }

def pool7 : Array CpInfo := pool [(1, .class_ 2), (0, u "java/lang/Comparable"), (0, .class_ 4), (0, u "java/lang/Object")] 7

/-- java/lang/Comparable -/
def k7 : Class := { plain "java/lang/Comparable" (some 0) with
  accessFlags := 1537
  interfaces := #[]
  cf := some (fileOf pool7 1 #[] #[] 1537 3 #[] #[])
  fields := #[]
  methods := #[]
  instanceTypes := #[]
  staticTypes := #[]
  resolved := Array.replicate 12 none
  statics := none }

def pool8 : Array CpInfo := pool [(1, .methodref 2 3), (0, .class_ 4), (0, .nameAndType 5 6), (0, u "java/lang/AbstractStringBuilder"), (0, u "<init>"), (0, u "(I)V"), (11, .class_ 20), (1, u "java/lang/String"), (3, .class_ 26), (1, u "java/lang/StringBuilder"), (0, u "append"), (0, u "(Ljava/lang/String;)Ljava/lang/StringBuilder;"), (0, .methodref 2 30), (0, .nameAndType 27 31), (0, u "(Ljava/lang/String;)Ljava/lang/AbstractStringBuilder;"), (105, .methodref 18 138), (0, .nameAndType 5 139), (0, u "(Ljava/lang/StringBuilder;)V"), (5, u "()V"), (10, u "()I"), (186, .methodref 2 344), (0, .nameAndType 345 156), (0, u "length"), (3, .class_ 350), (0, u "java/lang/Appendable"), (0, .class_ 352), (0, u "java/io/Serializable"), (0, .class_ 354), (0, u "java/lang/Comparable"), (0, .class_ 356), (0, u "java/lang/CharSequence"), (0, u "serialVersionUID"), (0, u "J"), (40, u "toString"), (0, u "()Ljava/lang/String;")] 21

def k8c0 : Code := { maxStack := 2, maxLocals := 1, code := jdk_67_method_1_code, exceptionTable := #[], attributes := #[] }
def k8m0 : Method := { name := "<init>", desc := "()V", sig := { parameters := [], returnType := none }, accessFlags := 1, code := some k8c0 }
def k8c1 : Code := { maxStack := 2, maxLocals := 2, code := jdk_67_method_7_code, exceptionTable := #[], attributes := #[] }
def k8m1 : Method := { name := "append", desc := "(Ljava/lang/String;)Ljava/lang/StringBuilder;", sig := { parameters := [(.object "java/lang/String")], returnType := some (.object "java/lang/StringBuilder") }, accessFlags := 1, code := some k8c1 }
def k8c2 : Code := { maxStack := 3, maxLocals := 1, code := jdk_67_method_42_code, exceptionTable := #[], attributes := #[] }
def k8m2 : Method := { name := "toString", desc := "()Ljava/lang/String;", sig := { parameters := [], returnType := some (.object "java/lang/String") }, accessFlags := 1, code := some k8c2 }
def k8c3 : Code := { maxStack := 1, maxLocals := 1, code := jdk_67_method_93_code, exceptionTable := #[], attributes := #[] }
def k8m3 : Method := { name := "length", desc := "()I", sig := { parameters := [], returnType := some .int }, accessFlags := 4161, code := some k8c3 }
/-- java/lang/StringBuilder -/
def k8 : Class := { plain "java/lang/StringBuilder" (some 5) with
  accessFlags := 49
  interfaces := #[3, 6, 7, 4]
  cf := some (fileOf pool8 24 #[] #[{ accessFlags := 1, nameIndex := 5, descriptorIndex := 145, attributes := #[] }, { accessFlags := 1, nameIndex := 27, descriptorIndex := 28, attributes := #[] }, { accessFlags := 1, nameIndex := 399, descriptorIndex := 400, attributes := #[] }, { accessFlags := 4161, nameIndex := 345, descriptorIndex := 156, attributes := #[] }] 49 2 #[349, 351, 353, 355] #[{ accessFlags := 24, nameIndex := 357, descriptorIndex := 358, attributes := #[] }])
  fields := #[{ name := "serialVersionUID", type := .long, accessFlags := 24, slot := 0, constantValue := 0 }]
  methods := #[k8m0, k8m1, k8m2, k8m3]
  instanceTypes := #[(.array .byte), .byte, .boolean, .int]
  staticTypes := #[.long]
  resolved := Array.replicate 422 none
  statics := none }

def pool9 : Array CpInfo := pool [(1, .class_ 2), (0, u "java/lang/constant/Constable"), (0, .class_ 4), (0, u "java/lang/Object")] 6

/-- java/lang/constant/Constable -/
def k9 : Class := { plain "java/lang/constant/Constable" (some 0) with
  accessFlags := 1537
  interfaces := #[]
  cf := some (fileOf pool9 1 #[] #[] 1537 3 #[] #[])
  fields := #[]
  methods := #[]
  instanceTypes := #[]
  staticTypes := #[]
  resolved := Array.replicate 11 none
  statics := none }

def pool10 : Array CpInfo := pool [(1, .class_ 2), (0, u "java/lang/constant/ConstantDesc"), (0, .class_ 4), (0, u "java/lang/Object")] 32

/-- java/lang/constant/ConstantDesc -/
def k10 : Class := { plain "java/lang/constant/ConstantDesc" (some 0) with
  accessFlags := 1537
  interfaces := #[]
  cf := some (fileOf pool10 1 #[] #[] 1537 3 #[] #[])
  fields := #[]
  methods := #[]
  instanceTypes := #[]
  staticTypes := #[]
  resolved := Array.replicate 37 none
  statics := none }

def pool11 : Array CpInfo := pool [(1, .methodref 2 3), (0, .class_ 4), (0, .nameAndType 5 6), (0, u "java/lang/Object"), (0, u "<init>"), (0, u "()V"), (0, .string 8), (0, u ""), (0, .fieldref 10 11), (0, .class_ 12), (0, .nameAndType 13 14), (0, u "java/lang/String"), (0, u "value"), (0, u "[B"), (0, .fieldref 10 16), (0, .nameAndType 17 18), (0, u "coder"), (0, u "B"), (2, u "hash"), (0, u "I"), (2, u "hashIsZero"), (0, u "Z"), (11, .fieldref 10 39), (0, .nameAndType 40 26), (0, u "COMPACT_STRINGS"), (13, .methodref 55 56), (0, .class_ 57), (0, .nameAndType 58 59), (0, u "java/util/Arrays"), (0, u "copyOfRange"), (0, u "([BII)[B"), (10, u "([BIII)V"), (36, .class_ 109), (1, u "java/lang/StringLatin1"), (32, u "()Z"), (50, .class_ 195), (1, u "java/lang/System"), (13, .methodref 10 210), (0, .nameAndType 5 211), (0, u "([BB)V"), (0, .methodref 193 213), (0, .nameAndType 214 215), (0, u "arraycopy"), (0, u "(Ljava/lang/Object;ILjava/lang/Object;II)V"), (118, u "()I"), (0, .methodref 10 336), (0, .nameAndType 17 337), (0, u "()B"), (2, u "()[B"), (22, u "([BI)C"), (27, u "(II)V"), (35, u "(I)C"), (61, .methodref 10 490), (0, .nameAndType 5 491), (0, u "(Ljava/lang/AbstractStringBuilder;Ljava/lang/Void;)V"), (0, .methodref 10 493), (0, .nameAndType 494 142), (0, u "isLatin1"), (0, .methodref 107 496), (0, .nameAndType 497 363), (0, u "charAt"), (3, u "checkIndex"), (4, .nameAndType 507 334), (0, u "length"), (24, u "getBytes"), (16, .methodref 550 506), (0, .class_ 551), (0, u "java/lang/AbstractStringBuilder"), (0, .methodref 550 553), (0, .nameAndType 554 340), (0, u "getValue"), (20, .class_ 576), (0, u "java/lang/CharSequence"), (22, u "CASE_INSENSITIVE_ORDER"), (0, u "Ljava/util/Comparator;"), (220, u "([BIB)V"), (69, u "repeat"), (0, u "(I)Ljava/lang/String;"), (50, .integer 2147483647), (100, .methodref 10 1045), (0, .nameAndType 1046 70), (0, u "repeatCopyRest"), (0, .methodref 550 493), (5, .fieldref 1054 1055), (0, .class_ 1056), (0, .nameAndType 1057 1058), (0, u "jdk/internal/util/Preconditions"), (0, u "SIOOBE_FORMATTER"), (0, u "Ljava/util/function/BiFunction;"), (0, .methodref 1054 1060), (0, .nameAndType 501 1061), (0, u "(IILjava/util/function/BiFunction;)I"), (39, u "serialPersistentFields"), (0, u "[Ljava/io/ObjectStreamField;"), (0, .class_ 1104), (0, u "java/lang/String$CaseInsensitiveComparator"), (1, .class_ 1107), (0, u "java/io/Serializable"), (0, .class_ 1109), (0, u "java/lang/Comparable"), (0, .class_ 1111), (0, u "java/lang/constant/Constable"), (0, .class_ 1113), (0, u "java/lang/constant/ConstantDesc"), (2, u "serialVersionUID"), (0, u "J"), (3, u "REPL"), (0, u "C"), (2, u "LATIN1"), (1, u "UTF16"), (105, u "(Ljava/lang/StringBuilder;)V")] 217

def k11m0 : Method := { name := "<init>", desc := "()V", sig := { parameters := [], returnType := none }, accessFlags := 1, code := none }
def k11c1 : Code := { maxStack := 3, maxLocals := 2, code := jdk_42_method_53_code, exceptionTable := #[], attributes := #[] }
def k11m1 : Method := { name := "<init>", desc := "(Ljava/lang/StringBuilder;)V", sig := { parameters := [(.object "java/lang/StringBuilder")], returnType := none }, accessFlags := 1, code := some k11c1 }
def k11c2 : Code := { maxStack := 2, maxLocals := 1, code := jdk_42_method_54_code, exceptionTable := #[], attributes := #[] }
def k11m2 : Method := { name := "length", desc := "()I", sig := { parameters := [], returnType := some .int }, accessFlags := 1, code := some k11c2 }
def k11c3 : Code := { maxStack := 2, maxLocals := 2, code := jdk_42_method_56_code, exceptionTable := #[], attributes := #[] }
def k11m3 : Method := { name := "charAt", desc := "(I)C", sig := { parameters := [.int], returnType := some .char }, accessFlags := 1, code := some k11c3 }
def k11c4 : Code := { maxStack := 5, maxLocals := 5, code := jdk_42_method_145_code, exceptionTable := #[], attributes := #[] }
def k11m4 : Method := { name := "repeat", desc := "(I)Ljava/lang/String;", sig := { parameters := [.int], returnType := some (.object "java/lang/String") }, accessFlags := 1, code := some k11c4 }
def k11c5 : Code := { maxStack := 6, maxLocals := 4, code := jdk_42_method_146_code, exceptionTable := #[], attributes := #[] }
def k11m5 : Method := { name := "repeatCopyRest", desc := "([BIII)V", sig := { parameters := [(.array .byte), .int, .int, .int], returnType := none }, accessFlags := 8, code := some k11c5 }
def k11c6 : Code := { maxStack := 5, maxLocals := 4, code := jdk_42_method_147_code, exceptionTable := #[], attributes := #[] }
def k11m6 : Method := { name := "getBytes", desc := "([BIB)V", sig := { parameters := [(.array .byte), .int, .byte], returnType := none }, accessFlags := 0, code := some k11c6 }
def k11c7 : Code := { maxStack := 5, maxLocals := 5, code := jdk_42_method_150_code, exceptionTable := #[], attributes := #[] }
def k11m7 : Method := { name := "<init>", desc := "(Ljava/lang/AbstractStringBuilder;Ljava/lang/Void;)V", sig := { parameters := [(.object "java/lang/AbstractStringBuilder"), (.object "java/lang/Void")], returnType := none }, accessFlags := 0, code := some k11c7 }
def k11c8 : Code := { maxStack := 2, maxLocals := 3, code := jdk_42_method_151_code, exceptionTable := #[], attributes := #[] }
def k11m8 : Method := { name := "<init>", desc := "([BB)V", sig := { parameters := [(.array .byte), .byte], returnType := none }, accessFlags := 0, code := some k11c8 }
def k11c9 : Code := { maxStack := 1, maxLocals := 1, code := jdk_42_method_152_code, exceptionTable := #[], attributes := #[] }
def k11m9 : Method := { name := "coder", desc := "()B", sig := { parameters := [], returnType := some .byte }, accessFlags := 0, code := some k11c9 }
def k11c10 : Code := { maxStack := 1, maxLocals := 1, code := jdk_42_method_154_code, exceptionTable := #[], attributes := #[] }
def k11m10 : Method := { name := "isLatin1", desc := "()Z", sig := { parameters := [], returnType := some .boolean }, accessFlags := 0, code := some k11c10 }
def k11c11 : Code := { maxStack := 3, maxLocals := 2, code := jdk_42_method_155_code, exceptionTable := #[], attributes := #[] }
def k11m11 : Method := { name := "checkIndex", desc := "(II)V", sig := { parameters := [.int, .int], returnType := none }, accessFlags := 8, code := some k11c11 }
/-- java/lang/String -/
def k11 : Class := { plain "java/lang/String" (some 0) with
  accessFlags := 49
  interfaces := #[6, 7, 4, 9, 10]
  cf := some (fileOf pool11 10 #[.nestMembers #[1103]] #[{ accessFlags := 1, nameIndex := 5, descriptorIndex := 6, attributes := #[] }, { accessFlags := 1, nameIndex := 5, descriptorIndex := 1233, attributes := #[] }, { accessFlags := 1, nameIndex := 507, descriptorIndex := 334, attributes := #[] }, { accessFlags := 1, nameIndex := 497, descriptorIndex := 427, attributes := #[] }, { accessFlags := 1, nameIndex := 891, descriptorIndex := 892, attributes := #[] }, { accessFlags := 8, nameIndex := 1046, descriptorIndex := 70, attributes := #[] }, { accessFlags := 0, nameIndex := 532, descriptorIndex := 821, attributes := #[] }, { accessFlags := 0, nameIndex := 5, descriptorIndex := 491, attributes := #[] }, { accessFlags := 0, nameIndex := 5, descriptorIndex := 211, attributes := #[] }, { accessFlags := 0, nameIndex := 17, descriptorIndex := 337, attributes := #[] }, { accessFlags := 0, nameIndex := 494, descriptorIndex := 142, attributes := #[] }, { accessFlags := 8, nameIndex := 501, descriptorIndex := 391, attributes := #[] }] 49 2 #[1106, 1108, 575, 1110, 1112] #[{ accessFlags := 18, nameIndex := 13, descriptorIndex := 14, attributes := #[] }, { accessFlags := 18, nameIndex := 17, descriptorIndex := 18, attributes := #[] }, { accessFlags := 2, nameIndex := 21, descriptorIndex := 22, attributes := #[] }, { accessFlags := 2, nameIndex := 25, descriptorIndex := 26, attributes := #[] }, { accessFlags := 26, nameIndex := 1116, descriptorIndex := 1117, attributes := #[] }, { accessFlags := 24, nameIndex := 40, descriptorIndex := 26, attributes := #[] }, { accessFlags := 26, nameIndex := 1101, descriptorIndex := 1102, attributes := #[] }, { accessFlags := 26, nameIndex := 1121, descriptorIndex := 1122, attributes := #[] }, { accessFlags := 25, nameIndex := 599, descriptorIndex := 600, attributes := #[] }, { accessFlags := 24, nameIndex := 1125, descriptorIndex := 18, attributes := #[] }, { accessFlags := 24, nameIndex := 1127, descriptorIndex := 18, attributes := #[] }])
  fields := #[{ name := "value", type := (.array .byte), accessFlags := 18, slot := 0, constantValue := 0 }, { name := "coder", type := .byte, accessFlags := 18, slot := 1, constantValue := 0 }, { name := "hash", type := .int, accessFlags := 2, slot := 2, constantValue := 0 }, { name := "hashIsZero", type := .boolean, accessFlags := 2, slot := 3, constantValue := 0 }, { name := "serialVersionUID", type := .long, accessFlags := 26, slot := 0, constantValue := 0 }, { name := "COMPACT_STRINGS", type := .boolean, accessFlags := 24, slot := 1, constantValue := 0 }, { name := "serialPersistentFields", type := (.array (.object "java/io/ObjectStreamField")), accessFlags := 26, slot := 2, constantValue := 0 }, { name := "REPL", type := .char, accessFlags := 26, slot := 3, constantValue := 0 }, { name := "CASE_INSENSITIVE_ORDER", type := (.object "java/util/Comparator"), accessFlags := 25, slot := 4, constantValue := 0 }, { name := "LATIN1", type := .byte, accessFlags := 24, slot := 5, constantValue := 0 }, { name := "UTF16", type := .byte, accessFlags := 24, slot := 6, constantValue := 0 }]
  methods := #[k11m0, k11m1, k11m2, k11m3, k11m4, k11m5, k11m6, k11m7, k11m8, k11m9, k11m10, k11m11]
  instanceTypes := #[(.array .byte), .byte, .int, .boolean]
  staticTypes := #[.long, .boolean, (.array (.object "java/io/ObjectStreamField")), .char, (.object "java/util/Comparator"), .byte, .byte]
  resolved := Array.replicate 1451 none
  statics := some 0 }

def pool12 : Array CpInfo := pool [(2, .class_ 4), (1, u "java/lang/Object"), (0, u "<init>"), (0, u "()V"), (1, .class_ 10), (1, u "java/lang/System"), (0, u "allowSecurityManager"), (0, u "I"), (16, u "cons"), (0, u "Ljava/io/Console;"), (77, .class_ 110), (1, u "java/lang/System$CallersHolder"), (43, u "initialErrStream"), (0, u "Ljava/io/PrintStream;"), (19, u "security"), (0, u "Ljava/lang/SecurityManager;"), (31, .class_ 209), (0, u "java/lang/System$1"), (7, u "props"), (0, u "Ljava/util/Properties;"), (2, u "lineSeparator"), (0, u "Ljava/lang/String;"), (96, .class_ 321), (1, u "java/lang/System$LoggerFinder"), (5, .class_ 328), (0, u "java/lang/System$Logger"), (67, u "err"), (2, u "out"), (91, u "notSupportedJnuEncoding"), (15, u "in"), (17, u "initialIn"), (0, u "Ljava/io/InputStream;"), (35, u "bootLayer"), (0, u "Ljava/lang/ModuleLayer;"), (99, .class_ 664), (0, u "java/lang/System$2"), (9, u "NEVER"), (2, u "MAYBE"), (49, u "arraycopy"), (0, u "(Ljava/lang/Object;ILjava/lang/Object;II)V"), (72, .class_ 802), (0, u "java/lang/System$Logger$Level")] 31

def k12m0 : Method := { name := "<init>", desc := "()V", sig := { parameters := [], returnType := none }, accessFlags := 2, code := none }
def k12m1 : Method := { name := "arraycopy", desc := "(Ljava/lang/Object;ILjava/lang/Object;II)V", sig := { parameters := [(.object "java/lang/Object"), .int, (.object "java/lang/Object"), .int, .int], returnType := none }, accessFlags := 265, code := none }
/-- java/lang/System -/
def k12 : Class := { plain "java/lang/System" (some 0) with
  accessFlags := 49
  interfaces := #[]
  cf := some (fileOf pool12 8 #[.nestMembers #[319, 327, 801, 108, 663, 208]] #[{ accessFlags := 2, nameIndex := 5, descriptorIndex := 6, attributes := #[] }, { accessFlags := 265, nameIndex := 727, descriptorIndex := 728, attributes := #[] }] 49 2 #[] #[{ accessFlags := 25, nameIndex := 507, descriptorIndex := 526, attributes := #[] }, { accessFlags := 25, nameIndex := 399, descriptorIndex := 155, attributes := #[] }, { accessFlags := 25, nameIndex := 396, descriptorIndex := 155, attributes := #[] }, { accessFlags := 10, nameIndex := 525, descriptorIndex := 526, attributes := #[] }, { accessFlags := 26, nameIndex := 674, descriptorIndex := 12, attributes := #[] }, { accessFlags := 26, nameIndex := 677, descriptorIndex := 12, attributes := #[] }, { accessFlags := 10, nameIndex := 11, descriptorIndex := 12, attributes := #[] }, { accessFlags := 74, nameIndex := 175, descriptorIndex := 176, attributes := #[] }, { accessFlags := 10, nameIndex := 491, descriptorIndex := 222, attributes := #[] }, { accessFlags := 74, nameIndex := 29, descriptorIndex := 30, attributes := #[] }, { accessFlags := 74, nameIndex := 154, descriptorIndex := 155, attributes := #[] }, { accessFlags := 10, nameIndex := 217, descriptorIndex := 218, attributes := #[] }, { accessFlags := 10, nameIndex := 221, descriptorIndex := 222, attributes := #[] }, { accessFlags := 8, nameIndex := 562, descriptorIndex := 563, attributes := #[] }])
  fields := #[{ name := "in", type := (.object "java/io/InputStream"), accessFlags := 25, slot := 0, constantValue := 0 }, { name := "out", type := (.object "java/io/PrintStream"), accessFlags := 25, slot := 1, constantValue := 0 }, { name := "err", type := (.object "java/io/PrintStream"), accessFlags := 25, slot := 2, constantValue := 0 }, { name := "initialIn", type := (.object "java/io/InputStream"), accessFlags := 10, slot := 3, constantValue := 0 }, { name := "NEVER", type := .int, accessFlags := 26, slot := 4, constantValue := 0 }, { name := "MAYBE", type := .int, accessFlags := 26, slot := 5, constantValue := 0 }, { name := "allowSecurityManager", type := .int, accessFlags := 10, slot := 6, constantValue := 0 }, { name := "security", type := (.object "java/lang/SecurityManager"), accessFlags := 74, slot := 7, constantValue := 0 }, { name := "notSupportedJnuEncoding", type := (.object "java/lang/String"), accessFlags := 10, slot := 8, constantValue := 0 }, { name := "cons", type := (.object "java/io/Console"), accessFlags := 74, slot := 9, constantValue := 0 }, { name := "initialErrStream", type := (.object "java/io/PrintStream"), accessFlags := 74, slot := 10, constantValue := 0 }, { name := "props", type := (.object "java/util/Properties"), accessFlags := 10, slot := 11, constantValue := 0 }, { name := "lineSeparator", type := (.object "java/lang/String"), accessFlags := 10, slot := 12, constantValue := 0 }, { name := "bootLayer", type := (.object "java/lang/ModuleLayer"), accessFlags := 8, slot := 13, constantValue := 0 }]
  methods := #[k12m0, k12m1]
  instanceTypes := #[]
  staticTypes := #[(.object "java/io/InputStream"), (.object "java/io/PrintStream"), (.object "java/io/PrintStream"), (.object "java/io/InputStream"), .int, .int, .int, (.object "java/lang/SecurityManager"), (.object "java/lang/String"), (.object "java/io/Console"), (.object "java/io/PrintStream"), (.object "java/util/Properties"), (.object "java/lang/String"), (.object "java/lang/ModuleLayer")]
  resolved := Array.replicate 834 none
  statics := none }

def pool13 : Array CpInfo := pool [(2, .class_ 4), (1, u "java/lang/Object"), (0, u "<init>"), (0, u "()V"), (7, .class_ 16), (1, u "java/util/Arrays"), (57, .class_ 76), (1, u "java/util/Arrays$NaturalOrder"), (32, u "()Ljava/lang/Object;"), (3, .class_ 115), (1, u "java/util/Arrays$LegacyMergeSort"), (1, u "Z"), (10, .nameAndType 129 109), (0, u "clone"), (9, u "copyOfRange"), (10, .methodref 151 152), (0, .class_ 153), (0, .nameAndType 154 155), (0, u "java/lang/System"), (0, u "arraycopy"), (0, u "(Ljava/lang/Object;ILjava/lang/Object;II)V"), (146, u "copyOf"), (1, .methodref 305 306), (0, .class_ 307), (0, .nameAndType 308 309), (0, u "java/lang/Math"), (0, u "min"), (0, u "(II)I"), (0, .methodref 311 128), (0, .class_ 312), (0, u "[B"), (26, .methodref 14 340), (0, .nameAndType 341 342), (0, u "copyOfRangeByte"), (0, u "([BII)[B"), (0, .methodref 14 344), (0, .nameAndType 345 346), (0, u "checkLength"), (0, u "(II)V"), (28, .class_ 376), (0, u "java/util/Arrays$ArrayList"), (68, u "$assertionsDisabled"), (269, u "MIN_ARRAY_SORT_GRAN"), (0, u "I"), (2, u "INSERTIONSORT_THRESHOLD"), (149, u "([BI)[B"), (105, .class_ 976), (0, u "java/util/Arrays$ArrayItr")] 52

def k13m0 : Method := { name := "<init>", desc := "()V", sig := { parameters := [], returnType := none }, accessFlags := 2, code := none }
def k13c1 : Code := { maxStack := 6, maxLocals := 3, code := jdk_65_method_121_code, exceptionTable := #[], attributes := #[] }
def k13m1 : Method := { name := "copyOf", desc := "([BI)[B", sig := { parameters := [(.array .byte), .int], returnType := some (.array .byte) }, accessFlags := 9, code := some k13c1 }
def k13c2 : Code := { maxStack := 4, maxLocals := 2, code := jdk_65_method_131_code, exceptionTable := #[], attributes := #[] }
def k13m2 : Method := { name := "checkLength", desc := "(II)V", sig := { parameters := [.int, .int], returnType := none }, accessFlags := 10, code := some k13c2 }
def k13c3 : Code := { maxStack := 3, maxLocals := 3, code := jdk_65_method_132_code, exceptionTable := #[], attributes := #[] }
def k13m3 : Method := { name := "copyOfRange", desc := "([BII)[B", sig := { parameters := [(.array .byte), .int, .int], returnType := some (.array .byte) }, accessFlags := 9, code := some k13c3 }
def k13c4 : Code := { maxStack := 6, maxLocals := 5, code := jdk_65_method_133_code, exceptionTable := #[], attributes := #[] }
def k13m4 : Method := { name := "copyOfRangeByte", desc := "([BII)[B", sig := { parameters := [(.array .byte), .int, .int], returnType := some (.array .byte) }, accessFlags := 10, code := some k13c4 }
/-- java/util/Arrays -/
def k13 : Class := { plain "java/util/Arrays" (some 0) with
  accessFlags := 49
  interfaces := #[]
  cf := some (fileOf pool13 14 #[.nestMembers #[975, 375, 113, 74]] #[{ accessFlags := 2, nameIndex := 5, descriptorIndex := 6, attributes := #[] }, { accessFlags := 9, nameIndex := 302, descriptorIndex := 869, attributes := #[] }, { accessFlags := 10, nameIndex := 345, descriptorIndex := 346, attributes := #[] }, { accessFlags := 9, nameIndex := 139, descriptorIndex := 342, attributes := #[] }, { accessFlags := 10, nameIndex := 341, descriptorIndex := 342, attributes := #[] }] 49 2 #[] #[{ accessFlags := 26, nameIndex := 715, descriptorIndex := 716, attributes := #[] }, { accessFlags := 26, nameIndex := 719, descriptorIndex := 716, attributes := #[] }, { accessFlags := 4120, nameIndex := 445, descriptorIndex := 117, attributes := #[] }])
  fields := #[{ name := "MIN_ARRAY_SORT_GRAN", type := .int, accessFlags := 26, slot := 0, constantValue := 0 }, { name := "INSERTIONSORT_THRESHOLD", type := .int, accessFlags := 26, slot := 1, constantValue := 0 }, { name := "$assertionsDisabled", type := .boolean, accessFlags := 4120, slot := 2, constantValue := 0 }]
  methods := #[k13m0, k13m1, k13m2, k13m3, k13m4]
  instanceTypes := #[]
  staticTypes := #[.int, .int, .boolean]
  resolved := Array.replicate 1029 none
  statics := none }

def pool14 : Array CpInfo := pool [(1, .class_ 2), (0, u "java/lang/Math"), (1, .class_ 6), (1, u "java/lang/Object"), (0, u "<init>"), (0, u "()V"), (89, .class_ 100), (1, u "java/lang/Math$RandomNumberGeneratorHolder"), (71, u "negativeZeroFloatBits"), (0, u "J"), (2, u "negativeZeroDoubleBits"), (21, u "max"), (2, u "min"), (43, u "$assertionsDisabled"), (0, u "Z"), (88, u "(II)I"), (2, u "twoToTheDoubleScaleDown"), (0, u "D"), (4, u "twoToTheDoubleScaleUp"), (9, u "E"), (3, u "PI"), (2, u "TAU"), (2, u "DEGREES_TO_RADIANS"), (0, u "RADIANS_TO_DEGREES")] 94

def k14m0 : Method := { name := "<init>", desc := "()V", sig := { parameters := [], returnType := none }, accessFlags := 2, code := none }
def k14c1 : Code := { maxStack := 2, maxLocals := 2, code := jdk_29_method_65_code, exceptionTable := #[], attributes := #[] }
def k14m1 : Method := { name := "max", desc := "(II)I", sig := { parameters := [.int, .int], returnType := some .int }, accessFlags := 9, code := some k14c1 }
def k14c2 : Code := { maxStack := 2, maxLocals := 2, code := jdk_29_method_69_code, exceptionTable := #[], attributes := #[] }
def k14m2 : Method := { name := "min", desc := "(II)I", sig := { parameters := [.int, .int], returnType := some .int }, accessFlags := 9, code := some k14c2 }
/-- java/lang/Math -/
def k14 : Class := { plain "java/lang/Math" (some 0) with
  accessFlags := 49
  interfaces := #[]
  cf := some (fileOf pool14 1 #[.nestMembers #[98]] #[{ accessFlags := 2, nameIndex := 7, descriptorIndex := 8, attributes := #[] }, { accessFlags := 9, nameIndex := 198, descriptorIndex := 335, attributes := #[] }, { accessFlags := 9, nameIndex := 201, descriptorIndex := 335, attributes := #[] }] 49 4 #[] #[{ accessFlags := 25, nameIndex := 354, descriptorIndex := 339, attributes := #[] }, { accessFlags := 25, nameIndex := 358, descriptorIndex := 339, attributes := #[] }, { accessFlags := 25, nameIndex := 361, descriptorIndex := 339, attributes := #[] }, { accessFlags := 26, nameIndex := 364, descriptorIndex := 339, attributes := #[] }, { accessFlags := 26, nameIndex := 365, descriptorIndex := 339, attributes := #[] }, { accessFlags := 26, nameIndex := 172, descriptorIndex := 173, attributes := #[] }, { accessFlags := 26, nameIndex := 176, descriptorIndex := 173, attributes := #[] }, { accessFlags := 8, nameIndex := 344, descriptorIndex := 339, attributes := #[] }, { accessFlags := 8, nameIndex := 338, descriptorIndex := 339, attributes := #[] }, { accessFlags := 4120, nameIndex := 245, descriptorIndex := 246, attributes := #[] }])
  fields := #[{ name := "E", type := .double, accessFlags := 25, slot := 0, constantValue := 0 }, { name := "PI", type := .double, accessFlags := 25, slot := 1, constantValue := 0 }, { name := "TAU", type := .double, accessFlags := 25, slot := 2, constantValue := 0 }, { name := "DEGREES_TO_RADIANS", type := .double, accessFlags := 26, slot := 3, constantValue := 0 }, { name := "RADIANS_TO_DEGREES", type := .double, accessFlags := 26, slot := 4, constantValue := 0 }, { name := "negativeZeroFloatBits", type := .long, accessFlags := 26, slot := 5, constantValue := 0 }, { name := "negativeZeroDoubleBits", type := .long, accessFlags := 26, slot := 6, constantValue := 0 }, { name := "twoToTheDoubleScaleUp", type := .double, accessFlags := 8, slot := 7, constantValue := 0 }, { name := "twoToTheDoubleScaleDown", type := .double, accessFlags := 8, slot := 8, constantValue := 0 }, { name := "$assertionsDisabled", type := .boolean, accessFlags := 4120, slot := 9, constantValue := 0 }]
  methods := #[k14m0, k14m1, k14m2]
  instanceTypes := #[]
  staticTypes := #[.double, .double, .double, .double, .double, .long, .long, .double, .double, .boolean]
  resolved := Array.replicate 460 none
  statics := none }

def pool15 : Array CpInfo := pool [(1, .class_ 2), (0, u "java/lang/String"), (1, .class_ 6), (1, u "java/lang/Object"), (0, u "<init>"), (0, u "()V"), (0, .methodref 1 10), (0, .nameAndType 11 12), (0, u "checkIndex"), (0, u "(II)V"), (1, .class_ 16), (1, u "java/lang/StringLatin1"), (36, u "([BI)C"), (67, u "$assertionsDisabled"), (0, u "Z"), (98, .class_ 223), (1, u "java/lang/StringLatin1$LinesSpliterator"), (28, u "charAt"), (137, .class_ 391), (0, u "java/lang/StringLatin1$CharsSpliterator")] 3

def k15m0 : Method := { name := "<init>", desc := "()V", sig := { parameters := [], returnType := none }, accessFlags := 0, code := none }
def k15c1 : Code := { maxStack := 2, maxLocals := 2, code := jdk_43_method_2_code, exceptionTable := #[], attributes := #[] }
def k15m1 : Method := { name := "charAt", desc := "([BI)C", sig := { parameters := [(.array .byte), .int], returnType := some .char }, accessFlags := 9, code := some k15c1 }
/-- java/lang/StringLatin1 -/
def k15 : Class := { plain "java/lang/StringLatin1" (some 0) with
  accessFlags := 48
  interfaces := #[]
  cf := some (fileOf pool15 14 #[.nestMembers #[390, 221]] #[{ accessFlags := 0, nameIndex := 7, descriptorIndex := 8, attributes := #[] }, { accessFlags := 9, nameIndex := 252, descriptorIndex := 53, attributes := #[] }] 48 4 #[] #[{ accessFlags := 4120, nameIndex := 121, descriptorIndex := 122, attributes := #[] }])
  fields := #[{ name := "$assertionsDisabled", type := .boolean, accessFlags := 4120, slot := 0, constantValue := 0 }]
  methods := #[k15m0, k15m1]
  instanceTypes := #[]
  staticTypes := #[.boolean]
  resolved := Array.replicate 395 none
  statics := none }

def pool16 : Array CpInfo := pool [(2, .class_ 4), (1, u "java/lang/Object"), (0, u "<init>"), (0, u "()V"), (17, .class_ 26), (1, u "jdk/internal/util/Preconditions"), (6, u "checkIndex"), (21, .class_ 56), (0, u "jdk/internal/util/Preconditions$4"), (57, .class_ 115), (0, u "jdk/internal/util/Preconditions$1"), (7, u "SIOOBE_FORMATTER"), (0, u "Ljava/util/function/BiFunction;"), (0, .class_ 126), (0, u "jdk/internal/util/Preconditions$2"), (3, u "AIOOBE_FORMATTER"), (0, .class_ 132), (0, u "jdk/internal/util/Preconditions$3"), (3, u "IOOBE_FORMATTER"), (41, u "(IILjava/util/function/BiFunction;)I")] 15

def k16m0 : Method := { name := "<init>", desc := "()V", sig := { parameters := [], returnType := none }, accessFlags := 1, code := none }
def k16c1 : Code := { maxStack := 3, maxLocals := 3, code := jdk_41_method_11_code, exceptionTable := #[], attributes := #[] }
def k16m1 : Method := { name := "checkIndex", desc := "(IILjava/util/function/BiFunction;)I", sig := { parameters := [.int, .int, (.object "java/util/function/BiFunction")], returnType := some .int }, accessFlags := 9, code := some k16c1 }
/-- jdk/internal/util/Preconditions -/
def k16 : Class := { plain "jdk/internal/util/Preconditions" (some 0) with
  accessFlags := 33
  interfaces := #[]
  cf := some (fileOf pool16 24 #[.nestMembers #[55, 131, 125, 114]] #[{ accessFlags := 1, nameIndex := 5, descriptorIndex := 6, attributes := #[] }, { accessFlags := 9, nameIndex := 33, descriptorIndex := 178, attributes := #[] }] 33 2 #[] #[{ accessFlags := 25, nameIndex := 123, descriptorIndex := 124, attributes := #[] }, { accessFlags := 25, nameIndex := 130, descriptorIndex := 124, attributes := #[] }, { accessFlags := 25, nameIndex := 136, descriptorIndex := 124, attributes := #[] }])
  fields := #[{ name := "SIOOBE_FORMATTER", type := (.object "java/util/function/BiFunction"), accessFlags := 25, slot := 0, constantValue := 0 }, { name := "AIOOBE_FORMATTER", type := (.object "java/util/function/BiFunction"), accessFlags := 25, slot := 1, constantValue := 0 }, { name := "IOOBE_FORMATTER", type := (.object "java/util/function/BiFunction"), accessFlags := 25, slot := 2, constantValue := 0 }]
  methods := #[k16m0, k16m1]
  instanceTypes := #[]
  staticTypes := #[(.object "java/util/function/BiFunction"), (.object "java/util/function/BiFunction"), (.object "java/util/function/BiFunction")]
  resolved := Array.replicate 194 none
  statics := some 1 }

def pool17 : Array CpInfo := pool [(9, u "<init>"), (6, .class_ 18), (1, u "java/lang/Object"), (0, u "()V"), (1, .class_ 23), (1, u "jdk/internal/util/ArraysSupport"), (0, u "LOG2_ARRAY_LONG_INDEX_SCALE"), (0, u "I"), (2, u "U"), (0, u "Ljdk/internal/misc/Unsafe;"), (8, u "BIG_ENDIAN"), (0, u "Z"), (8, u "LOG2_BYTE_BIT_SIZE"), (4, u "LOG2_ARRAY_INT_INDEX_SCALE"), (54, u "JLA"), (0, u "Ljdk/internal/access/JavaLangAccess;"), (11, u "LOG2_ARRAY_BOOLEAN_INDEX_SCALE"), (9, u "LOG2_ARRAY_BYTE_INDEX_SCALE"), (5, u "LOG2_ARRAY_CHAR_INDEX_SCALE"), (5, u "LOG2_ARRAY_SHORT_INDEX_SCALE"), (18, u "LOG2_ARRAY_FLOAT_INDEX_SCALE"), (24, u "LOG2_ARRAY_DOUBLE_INDEX_SCALE"), (6, .methodref 195 196), (0, .class_ 197), (0, .nameAndType 198 199), (0, u "java/lang/Math"), (0, u "max"), (0, u "(II)I"), (0, .integer 2147483639), (76, u "T_BOOLEAN"), (2, u "T_CHAR"), (1, u "T_FLOAT"), (1, u "T_DOUBLE"), (1, u "T_BYTE"), (1, u "T_SHORT"), (1, u "T_INT"), (1, u "T_LONG"), (1, u "SOFT_MAX_ARRAY_LENGTH"), (56, u "newLength"), (0, u "(III)I")] 25

def k17m0 : Method := { name := "<init>", desc := "()V", sig := { parameters := [], returnType := none }, accessFlags := 2, code := none }
def k17c1 : Code := { maxStack := 3, maxLocals := 4, code := jdk_48_method_27_code, exceptionTable := #[], attributes := #[] }
def k17m1 : Method := { name := "newLength", desc := "(III)I", sig := { parameters := [.int, .int, .int], returnType := some .int }, accessFlags := 9, code := some k17c1 }
/-- jdk/internal/util/ArraysSupport -/
def k17 : Class := { plain "jdk/internal/util/ArraysSupport" (some 0) with
  accessFlags := 33
  interfaces := #[]
  cf := some (fileOf pool17 21 #[] #[{ accessFlags := 2, nameIndex := 9, descriptorIndex := 19, attributes := #[] }, { accessFlags := 9, nameIndex := 351, descriptorIndex := 352, attributes := #[] }] 33 16 #[] #[{ accessFlags := 24, nameIndex := 28, descriptorIndex := 29, attributes := #[] }, { accessFlags := 26, nameIndex := 38, descriptorIndex := 39, attributes := #[] }, { accessFlags := 25, nameIndex := 121, descriptorIndex := 25, attributes := #[] }, { accessFlags := 25, nameIndex := 131, descriptorIndex := 25, attributes := #[] }, { accessFlags := 25, nameIndex := 137, descriptorIndex := 25, attributes := #[] }, { accessFlags := 25, nameIndex := 143, descriptorIndex := 25, attributes := #[] }, { accessFlags := 25, nameIndex := 53, descriptorIndex := 25, attributes := #[] }, { accessFlags := 25, nameIndex := 24, descriptorIndex := 25, attributes := #[] }, { accessFlags := 25, nameIndex := 162, descriptorIndex := 25, attributes := #[] }, { accessFlags := 25, nameIndex := 187, descriptorIndex := 25, attributes := #[] }, { accessFlags := 26, nameIndex := 48, descriptorIndex := 25, attributes := #[] }, { accessFlags := 25, nameIndex := 277, descriptorIndex := 25, attributes := #[] }, { accessFlags := 25, nameIndex := 280, descriptorIndex := 25, attributes := #[] }, { accessFlags := 25, nameIndex := 282, descriptorIndex := 25, attributes := #[] }, { accessFlags := 25, nameIndex := 284, descriptorIndex := 25, attributes := #[] }, { accessFlags := 25, nameIndex := 286, descriptorIndex := 25, attributes := #[] }, { accessFlags := 25, nameIndex := 288, descriptorIndex := 25, attributes := #[] }, { accessFlags := 25, nameIndex := 290, descriptorIndex := 25, attributes := #[] }, { accessFlags := 25, nameIndex := 292, descriptorIndex := 25, attributes := #[] }, { accessFlags := 26, nameIndex := 108, descriptorIndex := 109, attributes := #[] }, { accessFlags := 25, nameIndex := 294, descriptorIndex := 25, attributes := #[] }])
  fields := #[{ name := "U", type := (.object "jdk/internal/misc/Unsafe"), accessFlags := 24, slot := 0, constantValue := 0 }, { name := "BIG_ENDIAN", type := .boolean, accessFlags := 26, slot := 1, constantValue := 0 }, { name := "LOG2_ARRAY_BOOLEAN_INDEX_SCALE", type := .int, accessFlags := 25, slot := 2, constantValue := 0 }, { name := "LOG2_ARRAY_BYTE_INDEX_SCALE", type := .int, accessFlags := 25, slot := 3, constantValue := 0 }, { name := "LOG2_ARRAY_CHAR_INDEX_SCALE", type := .int, accessFlags := 25, slot := 4, constantValue := 0 }, { name := "LOG2_ARRAY_SHORT_INDEX_SCALE", type := .int, accessFlags := 25, slot := 5, constantValue := 0 }, { name := "LOG2_ARRAY_INT_INDEX_SCALE", type := .int, accessFlags := 25, slot := 6, constantValue := 0 }, { name := "LOG2_ARRAY_LONG_INDEX_SCALE", type := .int, accessFlags := 25, slot := 7, constantValue := 0 }, { name := "LOG2_ARRAY_FLOAT_INDEX_SCALE", type := .int, accessFlags := 25, slot := 8, constantValue := 0 }, { name := "LOG2_ARRAY_DOUBLE_INDEX_SCALE", type := .int, accessFlags := 25, slot := 9, constantValue := 0 }, { name := "LOG2_BYTE_BIT_SIZE", type := .int, accessFlags := 26, slot := 10, constantValue := 0 }, { name := "T_BOOLEAN", type := .int, accessFlags := 25, slot := 11, constantValue := 0 }, { name := "T_CHAR", type := .int, accessFlags := 25, slot := 12, constantValue := 0 }, { name := "T_FLOAT", type := .int, accessFlags := 25, slot := 13, constantValue := 0 }, { name := "T_DOUBLE", type := .int, accessFlags := 25, slot := 14, constantValue := 0 }, { name := "T_BYTE", type := .int, accessFlags := 25, slot := 15, constantValue := 0 }, { name := "T_SHORT", type := .int, accessFlags := 25, slot := 16, constantValue := 0 }, { name := "T_INT", type := .int, accessFlags := 25, slot := 17, constantValue := 0 }, { name := "T_LONG", type := .int, accessFlags := 25, slot := 18, constantValue := 0 }, { name := "JLA", type := (.object "jdk/internal/access/JavaLangAccess"), accessFlags := 26, slot := 19, constantValue := 0 }, { name := "SOFT_MAX_ARRAY_LENGTH", type := .int, accessFlags := 25, slot := 20, constantValue := 0 }]
  methods := #[k17m0, k17m1]
  instanceTypes := #[]
  staticTypes := #[(.object "jdk/internal/misc/Unsafe"), .boolean, .int, .int, .int, .int, .int, .int, .int, .int, .int, .int, .int, .int, .int, .int, .int, .int, .int, (.object "jdk/internal/access/JavaLangAccess"), .int]
  resolved := Array.replicate 378 none
  statics := none }

def pool18 : Array CpInfo := pool [(1, .class_ 2), (0, u "java/lang/Cloneable"), (0, .class_ 4), (0, u "java/lang/Object")] 2

/-- java/lang/Cloneable -/
def k18 : Class := { plain "java/lang/Cloneable" (some 0) with
  accessFlags := 1537
  interfaces := #[]
  cf := some (fileOf pool18 1 #[] #[] 1537 3 #[] #[])
  fields := #[]
  methods := #[]
  instanceTypes := #[]
  staticTypes := #[]
  resolved := Array.replicate 7 none
  statics := none }

/-- the primitive byte -/
def k19 : Class := { plain "byte" none with kind := .primitive 'B', accessFlags := 0x411 }
/-- [B -/
def k20 : Class := { plain "[B" (some 0) with kind := .array 19 .byte, interfaces := #[18, 6], accessFlags := 1041 }

/-- the primitive int -/
def k21 : Class := { plain "int" none with kind := .primitive 'I', accessFlags := 0x411 }
/-- [I -/
def k22 : Class := { plain "[I" (some 0) with kind := .array 21 .int, interfaces := #[18, 6], accessFlags := 1041 }

def heap : Heap := #[{ cls := 11, slots := #[.long 0, .int 1, .null, .int 0, .null, .int 0, .int 0], vm := .statics 11 },
  { cls := 16, slots := #[.null, .null, .null], vm := .statics 16 },
  { cls := 11, slots := #[.ref 3, .int 0, .int 0, .int 0], vm := .none },
  { cls := 20, slots := #[.int 63], vm := .none }]
def classes : Array Class := #[k0, k1, k2, k3, k4, k5, k6, k7, k8, k9, k10, k11, k12, k13, k14, k15, k16, k17, k18, k19, k20, k21, k22]
def interned : List (Array UInt16 × Addr) := [(#[63], 2)]
def slotsUsed : Nat := 15
def theMethod : MethodId := ⟨1, 2⟩
def args0 : Array Value := #[.int 5, .int 7, .int 9]
def aboutOver (below : List Frame) : State where
  vm := { classes := classes, interned := interned.toArray }
  heap := heap
  slotsUsed := slotsUsed
  threads := #[{ frames := .invoking theMethod args0 :: below }]
def below0 : List Frame := [.native { method := ⟨0, 0⟩, args := #[] }]
def about1 : State := aboutOver below0
def p0 : Program := .bare "" "" ""
def e0 : Env := launch0.env 0 0 0
theorem w_frames : about1.frames = Frame.invoking theMethod args0 :: below0 := rfl
set_option maxRecDepth 65536 in
theorem w_args : argsFit about1.vm theMethod args0 = true := by decide +kernel
set_option maxRecDepth 65536 in
theorem w_heap : heapFits about1 = true := by decide +kernel
set_option maxRecDepth 65536 in
theorem w_runnable : about1.curStatus? = some .runnable := by decide +kernel
set_option maxRecDepth 65536 in
theorem w_alone : about1.alone = true := by decide +kernel
set_option maxRecDepth 65536 in
theorem w_named : about1.methodNamed? x = some theMethod := by decide +kernel
set_option maxRecDepth 65536 in
theorem w_hears : about1.hears theMethod below0 = true := by decide +kernel
set_option maxRecDepth 65536 in
theorem w_ripe : about1.ripe theMethod args0 below0 = true := by decide +kernel
theorem w_running : about1.status = .running := rfl
set_option maxRecDepth 65536 in
theorem w_room : about1.hasRoom e0.platform room_1 = true :=
  launch0.hasRoom_least _ room_1 (by decide +kernel) (by decide +kernel) (by decide +kernel) (by decide +kernel) (by decide +kernel) (by decide +kernel)
theorem allAtoms_all (ts : List Jvm.Cond) (a : Array Jvm.Value) (st : Jvm.State) : (allAtoms ts).before a st = ts.all (fun c => c.before a st) := by
  induction ts with
  | nil => rfl
  | cons c t ih =>
    show (Jvm.Cond.and c (allAtoms t)).before a st = _
    rw [Jvm.Cond.before_and, ih, List.all_cons]
def words1 : List Jvm.Cond := Jvm.Cond.code x code maxLocals ret :: tables_1
/-- a 'code' word, met by the world's own term for the bytes: nothing is compared byte by byte -/
theorem code_word {y : MethodName} {bytes : ByteArray} {mx : Nat} {rt : Option FieldType} {a : Array Value} {s : State} {m : MethodId} {meth : Method} {c : Code} (h1 : s.methodNamed? y = some m) (h2 : s.vm.method? m = some meth) (h3 : meth.code = some c) (h4 : c.code = bytes)
    (h5 : (c.maxLocals == mx && c.exceptionTable.isEmpty && decide (c.maxStack ≤ mostOperands) && decide (meth.sig.returnType = rt) && !meth.locks && decide (parseMethodDescriptor y.desc = some meth.sig)) = true) : (Jvm.Cond.code y bytes mx rt).before a s = true := by
  simp only [Bool.and_eq_true, beq_iff_eq, Bool.not_eq_true', decide_eq_true_eq] at h5
  obtain ⟨⟨⟨⟨⟨g1, g2⟩, g3⟩, g4⟩, g5⟩, g6⟩ := h5
  simp [Cond.before, Cond.holds, Cond.value, h1, h2, h3, h4, g1, g2, g3, g4, g5, g6]
def isCode : Jvm.Cond → Bool
  | .code _ _ _ _ => true
  | _ => false
theorem all_split {L : List Jvm.Cond} {P : Jvm.Cond → Bool} (h1 : L.all (fun c => isCode c || P c) = true) (h2 : ∀ c ∈ L.filter isCode, P c = true) : L.all P = true := by
  refine List.all_eq_true.mpr fun c hc => ?_
  have h := List.all_eq_true.mp h1 c hc
  rcases Bool.eq_false_or_eq_true (isCode c) with hi | hi
  · exact h2 c (List.mem_filter.mpr ⟨hc, hi⟩)
  · simpa [hi] using h
set_option maxRecDepth 65536 in
theorem w_c0 : (Jvm.Cond.code x code maxLocals ret).before args0 about1 = true := code_word (m := ⟨1, 2⟩) (meth := k1m2) (c := k1c2) (by decide +kernel) rfl rfl rfl (by decide +kernel)
set_option maxRecDepth 65536 in
theorem w_c1 : (Jvm.Cond.code ({ cls := "com/example/persephone/persephone/store/SqlLists", name := "placeholders", desc := "(I)Ljava/lang/String;" } : Jvm.MethodName) prog_43_method_2_code (1 : Nat) (Option.some (Jvm.ClassFile.FieldType.object "java/lang/String"))).before args0 about1 = true := code_word (m := ⟨2, 1⟩) (meth := k2m1) (c := k2c1) (by decide +kernel) rfl rfl rfl (by decide +kernel)
set_option maxRecDepth 65536 in
theorem w_c2 : (Jvm.Cond.code ({ cls := "java/lang/StringBuilder", name := "<init>", desc := "()V" } : Jvm.MethodName) jdk_67_method_1_code (1 : Nat) (Option.none : Option Jvm.ClassFile.FieldType)).before args0 about1 = true := code_word (m := ⟨8, 0⟩) (meth := k8m0) (c := k8c0) (by decide +kernel) rfl rfl rfl (by decide +kernel)
set_option maxRecDepth 65536 in
theorem w_c3 : (Jvm.Cond.code ({ cls := "java/lang/AbstractStringBuilder", name := "<init>", desc := "(I)V" } : Jvm.MethodName) jdk_68_method_2_code (2 : Nat) (Option.none : Option Jvm.ClassFile.FieldType)).before args0 about1 = true := code_word (m := ⟨5, 1⟩) (meth := k5m1) (c := k5c1) (by decide +kernel) rfl rfl rfl (by decide +kernel)
set_option maxRecDepth 65536 in
theorem w_c4 : (Jvm.Cond.code ({ cls := "java/lang/Object", name := "<init>", desc := "()V" } : Jvm.MethodName) object_method_1_code (1 : Nat) (Option.none : Option Jvm.ClassFile.FieldType)).before args0 about1 = true := code_word (m := ⟨0, 0⟩) (meth := k0m0) (c := k0c0) (by decide +kernel) rfl rfl rfl (by decide +kernel)
set_option maxRecDepth 65536 in
theorem w_c5 : (Jvm.Cond.code ({ cls := "java/lang/String", name := "repeat", desc := "(I)Ljava/lang/String;" } : Jvm.MethodName) jdk_42_method_145_code (5 : Nat) (Option.some (Jvm.ClassFile.FieldType.object "java/lang/String"))).before args0 about1 = true := code_word (m := ⟨11, 4⟩) (meth := k11m4) (c := k11c4) (by decide +kernel) rfl rfl rfl (by decide +kernel)
set_option maxRecDepth 65536 in
theorem w_c6 : (Jvm.Cond.code ({ cls := "java/lang/StringBuilder", name := "append", desc := "(Ljava/lang/String;)Ljava/lang/StringBuilder;" } : Jvm.MethodName) jdk_67_method_7_code (2 : Nat) (Option.some (Jvm.ClassFile.FieldType.object "java/lang/StringBuilder"))).before args0 about1 = true := code_word (m := ⟨8, 1⟩) (meth := k8m1) (c := k8c1) (by decide +kernel) rfl rfl rfl (by decide +kernel)
set_option maxRecDepth 65536 in
theorem w_c7 : (Jvm.Cond.code ({ cls := "java/lang/AbstractStringBuilder", name := "append", desc := "(Ljava/lang/String;)Ljava/lang/AbstractStringBuilder;" } : Jvm.MethodName) jdk_68_method_22_code (3 : Nat) (Option.some (Jvm.ClassFile.FieldType.object "java/lang/AbstractStringBuilder"))).before args0 about1 = true := code_word (m := ⟨5, 5⟩) (meth := k5m5) (c := k5c5) (by decide +kernel) rfl rfl rfl (by decide +kernel)
set_option maxRecDepth 65536 in
theorem w_c8 : (Jvm.Cond.code ({ cls := "java/lang/String", name := "length", desc := "()I" } : Jvm.MethodName) jdk_42_method_54_code (1 : Nat) (Option.some Jvm.ClassFile.FieldType.int)).before args0 about1 = true := code_word (m := ⟨11, 2⟩) (meth := k11m2) (c := k11c2) (by decide +kernel) rfl rfl rfl (by decide +kernel)
set_option maxRecDepth 65536 in
theorem w_c9 : (Jvm.Cond.code ({ cls := "java/lang/String", name := "coder", desc := "()B" } : Jvm.MethodName) jdk_42_method_152_code (1 : Nat) (Option.some Jvm.ClassFile.FieldType.byte)).before args0 about1 = true := code_word (m := ⟨11, 9⟩) (meth := k11m9) (c := k11c9) (by decide +kernel) rfl rfl rfl (by decide +kernel)
set_option maxRecDepth 65536 in
theorem w_c10 : (Jvm.Cond.code ({ cls := "java/lang/AbstractStringBuilder", name := "ensureCapacityInternal", desc := "(I)V" } : Jvm.MethodName) jdk_68_method_9_code (3 : Nat) (Option.none : Option Jvm.ClassFile.FieldType)).before args0 about1 = true := code_word (m := ⟨5, 3⟩) (meth := k5m3) (c := k5c3) (by decide +kernel) rfl rfl rfl (by decide +kernel)
set_option maxRecDepth 65536 in
theorem w_c11 : (Jvm.Cond.code ({ cls := "java/lang/AbstractStringBuilder", name := "putStringAt", desc := "(ILjava/lang/String;)V" } : Jvm.MethodName) jdk_68_method_73_code (3 : Nat) (Option.none : Option Jvm.ClassFile.FieldType)).before args0 about1 = true := code_word (m := ⟨5, 9⟩) (meth := k5m9) (c := k5c9) (by decide +kernel) rfl rfl rfl (by decide +kernel)
set_option maxRecDepth 65536 in
theorem w_c12 : (Jvm.Cond.code ({ cls := "java/lang/AbstractStringBuilder", name := "inflateIfNeededFor", desc := "(Ljava/lang/String;)V" } : Jvm.MethodName) jdk_68_method_71_code (2 : Nat) (Option.none : Option Jvm.ClassFile.FieldType)).before args0 about1 = true := code_word (m := ⟨5, 8⟩) (meth := k5m8) (c := k5c8) (by decide +kernel) rfl rfl rfl (by decide +kernel)
set_option maxRecDepth 65536 in
theorem w_c13 : (Jvm.Cond.code ({ cls := "java/lang/String", name := "getBytes", desc := "([BIB)V" } : Jvm.MethodName) jdk_42_method_147_code (4 : Nat) (Option.none : Option Jvm.ClassFile.FieldType)).before args0 about1 = true := code_word (m := ⟨11, 6⟩) (meth := k11m6) (c := k11c6) (by decide +kernel) rfl rfl rfl (by decide +kernel)
set_option maxRecDepth 65536 in
theorem w_c14 : (Jvm.Cond.code ({ cls := "java/lang/StringBuilder", name := "toString", desc := "()Ljava/lang/String;" } : Jvm.MethodName) jdk_67_method_42_code (1 : Nat) (Option.some (Jvm.ClassFile.FieldType.object "java/lang/String"))).before args0 about1 = true := code_word (m := ⟨8, 2⟩) (meth := k8m2) (c := k8c2) (by decide +kernel) rfl rfl rfl (by decide +kernel)
set_option maxRecDepth 65536 in
theorem w_c15 : (Jvm.Cond.code ({ cls := "java/lang/String", name := "<init>", desc := "(Ljava/lang/StringBuilder;)V" } : Jvm.MethodName) jdk_42_method_53_code (2 : Nat) (Option.none : Option Jvm.ClassFile.FieldType)).before args0 about1 = true := code_word (m := ⟨11, 1⟩) (meth := k11m1) (c := k11c1) (by decide +kernel) rfl rfl rfl (by decide +kernel)
set_option maxRecDepth 65536 in
theorem w_c16 : (Jvm.Cond.code ({ cls := "java/lang/String", name := "<init>", desc := "(Ljava/lang/AbstractStringBuilder;Ljava/lang/Void;)V" } : Jvm.MethodName) jdk_42_method_150_code (5 : Nat) (Option.none : Option Jvm.ClassFile.FieldType)).before args0 about1 = true := code_word (m := ⟨11, 7⟩) (meth := k11m7) (c := k11c7) (by decide +kernel) rfl rfl rfl (by decide +kernel)
set_option maxRecDepth 65536 in
theorem w_c17 : (Jvm.Cond.code ({ cls := "java/lang/AbstractStringBuilder", name := "getValue", desc := "()[B" } : Jvm.MethodName) jdk_68_method_64_code (1 : Nat) (Option.some (Jvm.ClassFile.FieldType.array Jvm.ClassFile.FieldType.byte))).before args0 about1 = true := code_word (m := ⟨5, 6⟩) (meth := k5m6) (c := k5c6) (by decide +kernel) rfl rfl rfl (by decide +kernel)
set_option maxRecDepth 65536 in
theorem w_c18 : (Jvm.Cond.code ({ cls := "java/lang/StringBuilder", name := "length", desc := "()I" } : Jvm.MethodName) jdk_67_method_93_code (1 : Nat) (Option.some Jvm.ClassFile.FieldType.int)).before args0 about1 = true := code_word (m := ⟨8, 3⟩) (meth := k8m3) (c := k8c3) (by decide +kernel) rfl rfl rfl (by decide +kernel)
set_option maxRecDepth 65536 in
theorem w_c19 : (Jvm.Cond.code ({ cls := "java/lang/AbstractStringBuilder", name := "length", desc := "()I" } : Jvm.MethodName) jdk_68_method_6_code (1 : Nat) (Option.some Jvm.ClassFile.FieldType.int)).before args0 about1 = true := code_word (m := ⟨5, 2⟩) (meth := k5m2) (c := k5c2) (by decide +kernel) rfl rfl rfl (by decide +kernel)
set_option maxRecDepth 65536 in
theorem w_c20 : (Jvm.Cond.code ({ cls := "java/lang/AbstractStringBuilder", name := "isLatin1", desc := "()Z" } : Jvm.MethodName) jdk_68_method_68_code (1 : Nat) (Option.some Jvm.ClassFile.FieldType.boolean)).before args0 about1 = true := code_word (m := ⟨5, 7⟩) (meth := k5m7) (c := k5c7) (by decide +kernel) rfl rfl rfl (by decide +kernel)
set_option maxRecDepth 65536 in
theorem w_c21 : (Jvm.Cond.code ({ cls := "java/util/Arrays", name := "copyOfRange", desc := "([BII)[B" } : Jvm.MethodName) jdk_65_method_132_code (3 : Nat) (Option.some (Jvm.ClassFile.FieldType.array Jvm.ClassFile.FieldType.byte))).before args0 about1 = true := code_word (m := ⟨13, 3⟩) (meth := k13m3) (c := k13c3) (by decide +kernel) rfl rfl rfl (by decide +kernel)
set_option maxRecDepth 65536 in
theorem w_c22 : (Jvm.Cond.code ({ cls := "java/util/Arrays", name := "copyOfRangeByte", desc := "([BII)[B" } : Jvm.MethodName) jdk_65_method_133_code (5 : Nat) (Option.some (Jvm.ClassFile.FieldType.array Jvm.ClassFile.FieldType.byte))).before args0 about1 = true := code_word (m := ⟨13, 4⟩) (meth := k13m4) (c := k13c4) (by decide +kernel) rfl rfl rfl (by decide +kernel)
set_option maxRecDepth 65536 in
theorem w_c23 : (Jvm.Cond.code ({ cls := "java/util/Arrays", name := "checkLength", desc := "(II)V" } : Jvm.MethodName) jdk_65_method_131_code (2 : Nat) (Option.none : Option Jvm.ClassFile.FieldType)).before args0 about1 = true := code_word (m := ⟨13, 2⟩) (meth := k13m2) (c := k13c2) (by decide +kernel) rfl rfl rfl (by decide +kernel)
set_option maxRecDepth 65536 in
theorem w_c24 : (Jvm.Cond.code ({ cls := "java/lang/Math", name := "min", desc := "(II)I" } : Jvm.MethodName) jdk_29_method_69_code (2 : Nat) (Option.some Jvm.ClassFile.FieldType.int)).before args0 about1 = true := code_word (m := ⟨14, 2⟩) (meth := k14m2) (c := k14c2) (by decide +kernel) rfl rfl rfl (by decide +kernel)
set_option maxRecDepth 65536 in
theorem w_c25 : (Jvm.Cond.code ({ cls := "java/lang/String", name := "charAt", desc := "(I)C" } : Jvm.MethodName) jdk_42_method_56_code (2 : Nat) (Option.some Jvm.ClassFile.FieldType.char)).before args0 about1 = true := code_word (m := ⟨11, 3⟩) (meth := k11m3) (c := k11c3) (by decide +kernel) rfl rfl rfl (by decide +kernel)
set_option maxRecDepth 65536 in
theorem w_c26 : (Jvm.Cond.code ({ cls := "java/lang/String", name := "isLatin1", desc := "()Z" } : Jvm.MethodName) jdk_42_method_154_code (1 : Nat) (Option.some Jvm.ClassFile.FieldType.boolean)).before args0 about1 = true := code_word (m := ⟨11, 10⟩) (meth := k11m10) (c := k11c10) (by decide +kernel) rfl rfl rfl (by decide +kernel)
set_option maxRecDepth 65536 in
theorem w_c27 : (Jvm.Cond.code ({ cls := "java/lang/StringLatin1", name := "charAt", desc := "([BI)C" } : Jvm.MethodName) jdk_43_method_2_code (2 : Nat) (Option.some Jvm.ClassFile.FieldType.char)).before args0 about1 = true := code_word (m := ⟨15, 1⟩) (meth := k15m1) (c := k15c1) (by decide +kernel) rfl rfl rfl (by decide +kernel)
set_option maxRecDepth 65536 in
theorem w_c28 : (Jvm.Cond.code ({ cls := "java/lang/String", name := "checkIndex", desc := "(II)V" } : Jvm.MethodName) jdk_42_method_155_code (2 : Nat) (Option.none : Option Jvm.ClassFile.FieldType)).before args0 about1 = true := code_word (m := ⟨11, 11⟩) (meth := k11m11) (c := k11c11) (by decide +kernel) rfl rfl rfl (by decide +kernel)
set_option maxRecDepth 65536 in
theorem w_c29 : (Jvm.Cond.code ({ cls := "jdk/internal/util/Preconditions", name := "checkIndex", desc := "(IILjava/util/function/BiFunction;)I" } : Jvm.MethodName) jdk_41_method_11_code (3 : Nat) (Option.some Jvm.ClassFile.FieldType.int)).before args0 about1 = true := code_word (m := ⟨16, 1⟩) (meth := k16m1) (c := k16c1) (by decide +kernel) rfl rfl rfl (by decide +kernel)
set_option maxRecDepth 65536 in
theorem w_c30 : (Jvm.Cond.code ({ cls := "com/example/persephone/persephone/store/SqlListsPlaceholdersPinLaw", name := "expectedAt", desc := "(I)C" } : Jvm.MethodName) method_2_code (2 : Nat) (Option.some Jvm.ClassFile.FieldType.char)).before args0 about1 = true := code_word (m := ⟨1, 1⟩) (meth := k1m1) (c := k1c1) (by decide +kernel) rfl rfl rfl (by decide +kernel)
set_option maxRecDepth 65536 in
theorem w_c31 : (Jvm.Cond.code ({ cls := "java/lang/String", name := "repeatCopyRest", desc := "([BIII)V" } : Jvm.MethodName) jdk_42_method_146_code (4 : Nat) (Option.none : Option Jvm.ClassFile.FieldType)).before args0 about1 = true := code_word (m := ⟨11, 5⟩) (meth := k11m5) (c := k11c5) (by decide +kernel) rfl rfl rfl (by decide +kernel)
set_option maxRecDepth 65536 in
theorem w_c32 : (Jvm.Cond.code ({ cls := "java/lang/String", name := "<init>", desc := "([BB)V" } : Jvm.MethodName) jdk_42_method_151_code (3 : Nat) (Option.none : Option Jvm.ClassFile.FieldType)).before args0 about1 = true := code_word (m := ⟨11, 8⟩) (meth := k11m8) (c := k11c8) (by decide +kernel) rfl rfl rfl (by decide +kernel)
set_option maxRecDepth 65536 in
theorem w_c33 : (Jvm.Cond.code ({ cls := "java/lang/AbstractStringBuilder", name := "newCapacity", desc := "(I)I" } : Jvm.MethodName) jdk_68_method_10_code (6 : Nat) (Option.some Jvm.ClassFile.FieldType.int)).before args0 about1 = true := code_word (m := ⟨5, 4⟩) (meth := k5m4) (c := k5c4) (by decide +kernel) rfl rfl rfl (by decide +kernel)
set_option maxRecDepth 65536 in
theorem w_c34 : (Jvm.Cond.code ({ cls := "jdk/internal/util/ArraysSupport", name := "newLength", desc := "(III)I" } : Jvm.MethodName) jdk_48_method_27_code (4 : Nat) (Option.some Jvm.ClassFile.FieldType.int)).before args0 about1 = true := code_word (m := ⟨17, 1⟩) (meth := k17m1) (c := k17c1) (by decide +kernel) rfl rfl rfl (by decide +kernel)
set_option maxRecDepth 65536 in
theorem w_c35 : (Jvm.Cond.code ({ cls := "java/lang/Math", name := "max", desc := "(II)I" } : Jvm.MethodName) jdk_29_method_65_code (2 : Nat) (Option.some Jvm.ClassFile.FieldType.int)).before args0 about1 = true := code_word (m := ⟨14, 1⟩) (meth := k14m1) (c := k14c1) (by decide +kernel) rfl rfl rfl (by decide +kernel)
set_option maxRecDepth 65536 in
theorem w_c36 : (Jvm.Cond.code ({ cls := "java/util/Arrays", name := "copyOf", desc := "([BI)[B" } : Jvm.MethodName) jdk_65_method_121_code (3 : Nat) (Option.some (Jvm.ClassFile.FieldType.array Jvm.ClassFile.FieldType.byte))).before args0 about1 = true := code_word (m := ⟨13, 1⟩) (meth := k13m1) (c := k13c1) (by decide +kernel) rfl rfl rfl (by decide +kernel)
def codes1 : List Jvm.Cond := [Jvm.Cond.code x code maxLocals ret, Jvm.Cond.code ({ cls := "com/example/persephone/persephone/store/SqlLists", name := "placeholders", desc := "(I)Ljava/lang/String;" } : Jvm.MethodName) prog_43_method_2_code (1 : Nat) (Option.some (Jvm.ClassFile.FieldType.object "java/lang/String")), Jvm.Cond.code ({ cls := "java/lang/StringBuilder", name := "<init>", desc := "()V" } : Jvm.MethodName) jdk_67_method_1_code (1 : Nat) (Option.none : Option Jvm.ClassFile.FieldType), Jvm.Cond.code ({ cls := "java/lang/AbstractStringBuilder", name := "<init>", desc := "(I)V" } : Jvm.MethodName) jdk_68_method_2_code (2 : Nat) (Option.none : Option Jvm.ClassFile.FieldType), Jvm.Cond.code ({ cls := "java/lang/Object", name := "<init>", desc := "()V" } : Jvm.MethodName) object_method_1_code (1 : Nat) (Option.none : Option Jvm.ClassFile.FieldType), Jvm.Cond.code ({ cls := "java/lang/String", name := "repeat", desc := "(I)Ljava/lang/String;" } : Jvm.MethodName) jdk_42_method_145_code (5 : Nat) (Option.some (Jvm.ClassFile.FieldType.object "java/lang/String")), Jvm.Cond.code ({ cls := "java/lang/StringBuilder", name := "append", desc := "(Ljava/lang/String;)Ljava/lang/StringBuilder;" } : Jvm.MethodName) jdk_67_method_7_code (2 : Nat) (Option.some (Jvm.ClassFile.FieldType.object "java/lang/StringBuilder")), Jvm.Cond.code ({ cls := "java/lang/AbstractStringBuilder", name := "append", desc := "(Ljava/lang/String;)Ljava/lang/AbstractStringBuilder;" } : Jvm.MethodName) jdk_68_method_22_code (3 : Nat) (Option.some (Jvm.ClassFile.FieldType.object "java/lang/AbstractStringBuilder")), Jvm.Cond.code ({ cls := "java/lang/String", name := "length", desc := "()I" } : Jvm.MethodName) jdk_42_method_54_code (1 : Nat) (Option.some Jvm.ClassFile.FieldType.int), Jvm.Cond.code ({ cls := "java/lang/String", name := "coder", desc := "()B" } : Jvm.MethodName) jdk_42_method_152_code (1 : Nat) (Option.some Jvm.ClassFile.FieldType.byte), Jvm.Cond.code ({ cls := "java/lang/AbstractStringBuilder", name := "ensureCapacityInternal", desc := "(I)V" } : Jvm.MethodName) jdk_68_method_9_code (3 : Nat) (Option.none : Option Jvm.ClassFile.FieldType), Jvm.Cond.code ({ cls := "java/lang/AbstractStringBuilder", name := "putStringAt", desc := "(ILjava/lang/String;)V" } : Jvm.MethodName) jdk_68_method_73_code (3 : Nat) (Option.none : Option Jvm.ClassFile.FieldType), Jvm.Cond.code ({ cls := "java/lang/AbstractStringBuilder", name := "inflateIfNeededFor", desc := "(Ljava/lang/String;)V" } : Jvm.MethodName) jdk_68_method_71_code (2 : Nat) (Option.none : Option Jvm.ClassFile.FieldType), Jvm.Cond.code ({ cls := "java/lang/String", name := "getBytes", desc := "([BIB)V" } : Jvm.MethodName) jdk_42_method_147_code (4 : Nat) (Option.none : Option Jvm.ClassFile.FieldType), Jvm.Cond.code ({ cls := "java/lang/StringBuilder", name := "toString", desc := "()Ljava/lang/String;" } : Jvm.MethodName) jdk_67_method_42_code (1 : Nat) (Option.some (Jvm.ClassFile.FieldType.object "java/lang/String")), Jvm.Cond.code ({ cls := "java/lang/String", name := "<init>", desc := "(Ljava/lang/StringBuilder;)V" } : Jvm.MethodName) jdk_42_method_53_code (2 : Nat) (Option.none : Option Jvm.ClassFile.FieldType), Jvm.Cond.code ({ cls := "java/lang/String", name := "<init>", desc := "(Ljava/lang/AbstractStringBuilder;Ljava/lang/Void;)V" } : Jvm.MethodName) jdk_42_method_150_code (5 : Nat) (Option.none : Option Jvm.ClassFile.FieldType), Jvm.Cond.code ({ cls := "java/lang/AbstractStringBuilder", name := "getValue", desc := "()[B" } : Jvm.MethodName) jdk_68_method_64_code (1 : Nat) (Option.some (Jvm.ClassFile.FieldType.array Jvm.ClassFile.FieldType.byte)), Jvm.Cond.code ({ cls := "java/lang/StringBuilder", name := "length", desc := "()I" } : Jvm.MethodName) jdk_67_method_93_code (1 : Nat) (Option.some Jvm.ClassFile.FieldType.int), Jvm.Cond.code ({ cls := "java/lang/AbstractStringBuilder", name := "length", desc := "()I" } : Jvm.MethodName) jdk_68_method_6_code (1 : Nat) (Option.some Jvm.ClassFile.FieldType.int), Jvm.Cond.code ({ cls := "java/lang/AbstractStringBuilder", name := "isLatin1", desc := "()Z" } : Jvm.MethodName) jdk_68_method_68_code (1 : Nat) (Option.some Jvm.ClassFile.FieldType.boolean), Jvm.Cond.code ({ cls := "java/util/Arrays", name := "copyOfRange", desc := "([BII)[B" } : Jvm.MethodName) jdk_65_method_132_code (3 : Nat) (Option.some (Jvm.ClassFile.FieldType.array Jvm.ClassFile.FieldType.byte)), Jvm.Cond.code ({ cls := "java/util/Arrays", name := "copyOfRangeByte", desc := "([BII)[B" } : Jvm.MethodName) jdk_65_method_133_code (5 : Nat) (Option.some (Jvm.ClassFile.FieldType.array Jvm.ClassFile.FieldType.byte)), Jvm.Cond.code ({ cls := "java/util/Arrays", name := "checkLength", desc := "(II)V" } : Jvm.MethodName) jdk_65_method_131_code (2 : Nat) (Option.none : Option Jvm.ClassFile.FieldType), Jvm.Cond.code ({ cls := "java/lang/Math", name := "min", desc := "(II)I" } : Jvm.MethodName) jdk_29_method_69_code (2 : Nat) (Option.some Jvm.ClassFile.FieldType.int), Jvm.Cond.code ({ cls := "java/lang/String", name := "charAt", desc := "(I)C" } : Jvm.MethodName) jdk_42_method_56_code (2 : Nat) (Option.some Jvm.ClassFile.FieldType.char), Jvm.Cond.code ({ cls := "java/lang/String", name := "isLatin1", desc := "()Z" } : Jvm.MethodName) jdk_42_method_154_code (1 : Nat) (Option.some Jvm.ClassFile.FieldType.boolean), Jvm.Cond.code ({ cls := "java/lang/StringLatin1", name := "charAt", desc := "([BI)C" } : Jvm.MethodName) jdk_43_method_2_code (2 : Nat) (Option.some Jvm.ClassFile.FieldType.char), Jvm.Cond.code ({ cls := "java/lang/String", name := "checkIndex", desc := "(II)V" } : Jvm.MethodName) jdk_42_method_155_code (2 : Nat) (Option.none : Option Jvm.ClassFile.FieldType), Jvm.Cond.code ({ cls := "jdk/internal/util/Preconditions", name := "checkIndex", desc := "(IILjava/util/function/BiFunction;)I" } : Jvm.MethodName) jdk_41_method_11_code (3 : Nat) (Option.some Jvm.ClassFile.FieldType.int), Jvm.Cond.code ({ cls := "com/example/persephone/persephone/store/SqlListsPlaceholdersPinLaw", name := "expectedAt", desc := "(I)C" } : Jvm.MethodName) method_2_code (2 : Nat) (Option.some Jvm.ClassFile.FieldType.char), Jvm.Cond.code ({ cls := "java/lang/String", name := "repeatCopyRest", desc := "([BIII)V" } : Jvm.MethodName) jdk_42_method_146_code (4 : Nat) (Option.none : Option Jvm.ClassFile.FieldType), Jvm.Cond.code ({ cls := "java/lang/String", name := "<init>", desc := "([BB)V" } : Jvm.MethodName) jdk_42_method_151_code (3 : Nat) (Option.none : Option Jvm.ClassFile.FieldType), Jvm.Cond.code ({ cls := "java/lang/AbstractStringBuilder", name := "newCapacity", desc := "(I)I" } : Jvm.MethodName) jdk_68_method_10_code (6 : Nat) (Option.some Jvm.ClassFile.FieldType.int), Jvm.Cond.code ({ cls := "jdk/internal/util/ArraysSupport", name := "newLength", desc := "(III)I" } : Jvm.MethodName) jdk_48_method_27_code (4 : Nat) (Option.some Jvm.ClassFile.FieldType.int), Jvm.Cond.code ({ cls := "java/lang/Math", name := "max", desc := "(II)I" } : Jvm.MethodName) jdk_29_method_65_code (2 : Nat) (Option.some Jvm.ClassFile.FieldType.int), Jvm.Cond.code ({ cls := "java/util/Arrays", name := "copyOf", desc := "([BI)[B" } : Jvm.MethodName) jdk_65_method_121_code (3 : Nat) (Option.some (Jvm.ClassFile.FieldType.array Jvm.ClassFile.FieldType.byte))]
set_option maxRecDepth 65536 in
theorem codes_eq : words1.filter isCode = codes1 := rfl
theorem w_codes : ∀ c ∈ words1.filter isCode, c.before args0 about1 = true := by
  rw [codes_eq]
  intro c hc
  simp only [codes1, List.mem_cons, List.not_mem_nil, or_false] at hc
  rcases hc with rfl | rfl | rfl | rfl | rfl | rfl | rfl | rfl | rfl | rfl | rfl | rfl | rfl | rfl | rfl | rfl | rfl | rfl | rfl | rfl | rfl | rfl | rfl | rfl | rfl | rfl | rfl | rfl | rfl | rfl | rfl | rfl | rfl | rfl | rfl | rfl | rfl
  · exact w_c0
  · exact w_c1
  · exact w_c2
  · exact w_c3
  · exact w_c4
  · exact w_c5
  · exact w_c6
  · exact w_c7
  · exact w_c8
  · exact w_c9
  · exact w_c10
  · exact w_c11
  · exact w_c12
  · exact w_c13
  · exact w_c14
  · exact w_c15
  · exact w_c16
  · exact w_c17
  · exact w_c18
  · exact w_c19
  · exact w_c20
  · exact w_c21
  · exact w_c22
  · exact w_c23
  · exact w_c24
  · exact w_c25
  · exact w_c26
  · exact w_c27
  · exact w_c28
  · exact w_c29
  · exact w_c30
  · exact w_c31
  · exact w_c32
  · exact w_c33
  · exact w_c34
  · exact w_c35
  · exact w_c36
set_option maxRecDepth 65536 in
theorem w_t1 : (words1.take 24).all (fun c => isCode c || c.before args0 about1) = true := by decide +kernel
set_option maxRecDepth 65536 in
theorem w_t2 : ((words1.drop 24).take 24).all (fun c => isCode c || c.before args0 about1) = true := by decide +kernel
set_option maxRecDepth 65536 in
theorem w_t3 : (((words1.drop 24).drop 24).take 24).all (fun c => isCode c || c.before args0 about1) = true := by decide +kernel
set_option maxRecDepth 65536 in
theorem w_t4 : ((((words1.drop 24).drop 24).drop 24).take 24).all (fun c => isCode c || c.before args0 about1) = true := by decide +kernel
set_option maxRecDepth 65536 in
theorem w_t5 : (((((words1.drop 24).drop 24).drop 24).drop 24).take 24).all (fun c => isCode c || c.before args0 about1) = true := by decide +kernel
set_option maxRecDepth 65536 in
theorem w_t6 : ((((((words1.drop 24).drop 24).drop 24).drop 24).drop 24).take 24).all (fun c => isCode c || c.before args0 about1) = true := by decide +kernel
set_option maxRecDepth 65536 in
theorem w_t7 : (((((((words1.drop 24).drop 24).drop 24).drop 24).drop 24).drop 24).take 24).all (fun c => isCode c || c.before args0 about1) = true := by decide +kernel
set_option maxRecDepth 65536 in
theorem w_t8 : ((((((((words1.drop 24).drop 24).drop 24).drop 24).drop 24).drop 24).drop 24).take 24).all (fun c => isCode c || c.before args0 about1) = true := by decide +kernel
set_option maxRecDepth 65536 in
theorem w_t9 : ((((((((words1.drop 24).drop 24).drop 24).drop 24).drop 24).drop 24).drop 24).drop 24).all (fun c => isCode c || c.before args0 about1) = true := by decide +kernel
theorem w_tables : (allAtoms (Jvm.Cond.code x code maxLocals ret :: tables_1)).before args0 about1 = true := by
  rw [allAtoms_all]
  show words1.all (fun c => c.before args0 about1) = true
  refine all_split ?_ w_codes
  rw [← List.take_append_drop 24 words1, List.all_append, w_t1, ← List.take_append_drop 24 (words1.drop 24), List.all_append, w_t2, ← List.take_append_drop 24 ((words1.drop 24).drop 24), List.all_append, w_t3, ← List.take_append_drop 24 (((words1.drop 24).drop 24).drop 24), List.all_append, w_t4, ← List.take_append_drop 24 ((((words1.drop 24).drop 24).drop 24).drop 24), List.all_append, w_t5, ← List.take_append_drop 24 (((((words1.drop 24).drop 24).drop 24).drop 24).drop 24), List.all_append, w_t6, ← List.take_append_drop 24 ((((((words1.drop 24).drop 24).drop 24).drop 24).drop 24).drop 24), List.all_append, w_t7, ← List.take_append_drop 24 (((((((words1.drop 24).drop 24).drop 24).drop 24).drop 24).drop 24).drop 24), List.all_append, w_t8, w_t9]
  rfl
set_option maxRecDepth 65536 in
theorem w_rest : rest_1_c.before args0 about1 = true := by decide +kernel
set_option maxRecDepth 65536 in
theorem w_case : (Jvm.Cond.and given_1 narrow_1).before args0 about1 = true := by decide +kernel
set_option maxRecDepth 65536 in
theorem w_consts : constsHeld consts_1 about1 := Jvm.Lit.constsHeldB_iff.mp (by decide +kernel)
theorem w_applies : (headSpec (Jvm.Cond.code x code maxLocals ret :: tables_1) room_1).applies x e0.platform about1 = true :=
  (Spec.applies_iff w_frames).mpr ⟨w_running, w_runnable, w_alone, w_named, w_hears, w_ripe, w_room, w_tables⟩
theorem atStart : AtStart classFile x code maxLocals ret World_1 tables_1 room_1 Calls_1 rest_1 Pre_1 launch0 p0 e0 about1 theMethod args0 below0 :=
  ⟨lists_1, trivial, launch0.admits_env _ _ _, launch0.least_env, fairChoices_fair.cas, fairChoices_fair.clock, w_frames, w_args, w_heap, w_applies, ⟨w_consts, trivial⟩, w_rest, w_case⟩
end start1
theorem witness_1 : WitnessClaimed_1 := ⟨start1.p0, start1.e0, start1.about1, start1.theMethod, start1.args0, start1.below0, start1.atStart⟩
end Jvm.Pilot.@@N@@
