import JvmDerived
import JvmDerived.Pilot.@@N@@Statement
import JvmDerived.Pilot.@@N@@Code
set_option linter.unusedVariables false
set_option linter.unusedSimpArgs false
namespace Jvm.RoadKit
open Sem ClassFile Op Lib Jvm.Stand Jvm.Free Jvm.LawKit
section New
variable {p : Program} {l : Launch} {e : Env} {R : Room} {s : State} {m : MethodId} {args : Array Value} {below : List Frame} {meth : Method} {c : Code} {T : State} {locs : List Loc} {cells slots : Nat}
theorem retI (X : Stand p l e R s m args below meth c T locs cells slots) (hx : p.tables.exec = Jvm.exec) {pc : Nat} {Ls : Array Slot} {z : Int32} {rest : List Value} (hret : meth.sig.returnType = some .int) (hd : decode c.code pc = .ok (.ireturn, 1)) {fs : List Frame}
    (hl : ∀ (f : JFrame) (acts : List Action), f.method = m → f.locked = none → f.entered = [] → (doReturn e (T.setTop f) acts (some (.int z))).1 = T.setFrames fs) : Steps p.tables e below (T.setTop (mkF m pc Ls (.int z :: rest))) (T.setFrames fs) := by
  have hm' : T.vm.method? m = some meth := X.method'
  have hn : narrow .int (.int z) = .int z := rfl
  show Steps p.tables e below (T.setTop { method := m, pc := pc, locals := Ls, stack := _ :: rest, locked := none }) _
  jvm_step X.here [X.here.top, hx, hd, hm', hret, hn]
  first | (intro acts; rw [hl _ acts rfl rfl rfl]) | rw [hl _ _ rfl rfl rfl]
  exact Steps.refl _
end New
end Jvm.RoadKit
namespace Jvm.Pilot.@@N@@
open Jvm Jvm.ClassFile Sem Op Lib Jvm.Free Jvm.Stand Jvm.LawKit Jvm.RoadKit Bundle Jvm.Pilot.@@N@@.Jvm.D
theorem own_eqint {t : Term} {n : Int32} {args : Array Value} {s : State} (h : (Cond.eq t (.int n)).value args s none s [] = some true) : t.eval args s none [] s = some (.int n) := by
  obtain ⟨x, y, h1, h2, k1, k2⟩ := cmp_v (Or.inl h)
  cases h2
  obtain ⟨z, rfl⟩ := k2
  have := gotT (P := z = n) (by simp [Cond.value, h1, Term.eval]) h
  rw [h1, this]
theorem own_ne {t u : Term} {C f d : String} {i j : Int32} {a b : Addr} {args : Array Value} {s : State} (ea : t.eval args s none [] s = some (.ref a)) (eb : u.eval args s none [] s = some (.ref b)) (ha : (Term.field t C f d).eval args s none [] s = some (.int i)) (hb : (Term.field u C f d).eval args s none [] s = some (.int j)) (hij : i ≠ j) : ¬ (a = b) := fun e => by
  rw [fld_at ea] at ha; rw [fld_at eb] at hb; rw [e, hb] at ha; cases ha; exact hij rfl
theorem own_and (x : Int32) : 0 ≤ (x &&& 2147483647).toInt := by
  have h : (x &&& 2147483647).toBitVec = x.toBitVec &&& 2147483647#32 := rfl
  show 0 ≤ (x &&& 2147483647).toBitVec.toInt
  rw [h]
  have : (x.toBitVec &&& 2147483647#32).msb = false := by
    rw [BitVec.msb_and, show (2147483647#32).msb = false from by decide, Bool.and_false]
  rw [BitVec.toInt_eq_toNat_of_msb this]; omega
theorem own_rem (x n : Int32) (hn : 0 < n.toInt) : 0 ≤ ((x &&& 2147483647) % n).toInt ∧ ((x &&& 2147483647) % n).toInt < n.toInt := by
  rw [Int32.toInt_mod]
  have := own_and x
  exact ⟨Int.tmod_nonneg _ this, Int.tmod_lt_of_pos _ hn⟩
theorem own_fin (x n : Int32) (k : Nat) (hn : n.toInt = k) (hk : 0 < k) : ∃ j : Fin k, (x &&& 2147483647) % n = Int32.ofInt (j.val : Int) := by
  have := own_rem x n (by omega)
  generalize (x &&& 2147483647) % n = i at *
  refine ⟨⟨i.toInt.toNat, by omega⟩, ?_⟩
  show i = Int32.ofInt ((i.toInt.toNat : Nat) : Int)
  rw [Int.toNat_of_nonneg this.1, Int32.ofInt_toInt]
theorem d1_0 : decode method_2_code 0 = .ok (.iload_n 0, 1) := by decide +kernel
theorem d1_1 : decode method_2_code 1 = .ok (.ifCond .ne 7, 3) := by decide +kernel
theorem d1_4 : decode method_2_code 4 = .ok (.getstatic 7, 3) := by decide +kernel
theorem d1_7 : decode method_2_code 7 = .ok (.areturn, 1) := by decide +kernel
theorem pn_1 : plainName "com/example/sluice/sluice/xpath/AxisIsReversePinLaw" = true := by first | (simp [plainName, overriddenIn]; done) | decide +kernel
theorem ef_1 (m : MethodId) (x0 : Int32) : entryFrame m #[(.int x0)] 1 = mkF m 0 #[.val (.int x0)] [] := by first | (simp [entryFrame, mkF, argsToLocals, Value.category]; done) | rfl
theorem d1_8 : decode method_2_code 8 = .ok (.iload_n 0, 1) := by decide +kernel
theorem d1_9 : decode method_2_code 9 = .ok (.iconst 1, 1) := by decide +kernel
theorem d1_10 : decode method_2_code 10 = .ok (.if_icmp .ne 7, 3) := by decide +kernel
theorem d1_13 : decode method_2_code 13 = .ok (.getstatic 13, 3) := by decide +kernel
theorem d1_16 : decode method_2_code 16 = .ok (.areturn, 1) := by decide +kernel
theorem d1_17 : decode method_2_code 17 = .ok (.iload_n 0, 1) := by decide +kernel
theorem d1_18 : decode method_2_code 18 = .ok (.iconst 2, 1) := by decide +kernel
theorem d1_19 : decode method_2_code 19 = .ok (.if_icmp .ne 7, 3) := by decide +kernel
theorem d1_22 : decode method_2_code 22 = .ok (.getstatic 16, 3) := by decide +kernel
theorem d1_25 : decode method_2_code 25 = .ok (.areturn, 1) := by decide +kernel
theorem d1_26 : decode method_2_code 26 = .ok (.iload_n 0, 1) := by decide +kernel
theorem d1_27 : decode method_2_code 27 = .ok (.iconst 3, 1) := by decide +kernel
theorem d1_28 : decode method_2_code 28 = .ok (.if_icmp .ne 7, 3) := by decide +kernel
theorem d1_31 : decode method_2_code 31 = .ok (.getstatic 19, 3) := by decide +kernel
theorem d1_34 : decode method_2_code 34 = .ok (.areturn, 1) := by decide +kernel
theorem d1_35 : decode method_2_code 35 = .ok (.iload_n 0, 1) := by decide +kernel
theorem d1_36 : decode method_2_code 36 = .ok (.iconst 4, 1) := by decide +kernel
theorem d1_37 : decode method_2_code 37 = .ok (.if_icmp .ne 7, 3) := by decide +kernel
theorem d1_40 : decode method_2_code 40 = .ok (.getstatic 22, 3) := by decide +kernel
theorem d1_43 : decode method_2_code 43 = .ok (.areturn, 1) := by decide +kernel
theorem d1_44 : decode method_2_code 44 = .ok (.iload_n 0, 1) := by decide +kernel
theorem d1_45 : decode method_2_code 45 = .ok (.iconst 5, 1) := by decide +kernel
theorem d1_46 : decode method_2_code 46 = .ok (.if_icmp .ne 7, 3) := by decide +kernel
theorem d1_49 : decode method_2_code 49 = .ok (.getstatic 25, 3) := by decide +kernel
theorem d1_52 : decode method_2_code 52 = .ok (.areturn, 1) := by decide +kernel
theorem d1_53 : decode method_2_code 53 = .ok (.iload_n 0, 1) := by decide +kernel
theorem d1_54 : decode method_2_code 54 = .ok (.bipush 6, 2) := by decide +kernel
theorem d1_56 : decode method_2_code 56 = .ok (.if_icmp .ne 7, 3) := by decide +kernel
theorem d1_59 : decode method_2_code 59 = .ok (.getstatic 28, 3) := by decide +kernel
theorem d1_62 : decode method_2_code 62 = .ok (.areturn, 1) := by decide +kernel
theorem d1_63 : decode method_2_code 63 = .ok (.iload_n 0, 1) := by decide +kernel
theorem d1_64 : decode method_2_code 64 = .ok (.bipush 7, 2) := by decide +kernel
theorem d1_66 : decode method_2_code 66 = .ok (.if_icmp .ne 7, 3) := by decide +kernel
theorem d1_69 : decode method_2_code 69 = .ok (.getstatic 31, 3) := by decide +kernel
theorem d1_72 : decode method_2_code 72 = .ok (.areturn, 1) := by decide +kernel
theorem d1_73 : decode method_2_code 73 = .ok (.iload_n 0, 1) := by decide +kernel
theorem d1_74 : decode method_2_code 74 = .ok (.bipush 8, 2) := by decide +kernel
theorem d1_76 : decode method_2_code 76 = .ok (.if_icmp .ne 7, 3) := by decide +kernel
theorem d1_79 : decode method_2_code 79 = .ok (.getstatic 34, 3) := by decide +kernel
theorem d1_82 : decode method_2_code 82 = .ok (.areturn, 1) := by decide +kernel
theorem d1_83 : decode method_2_code 83 = .ok (.iload_n 0, 1) := by decide +kernel
theorem d1_84 : decode method_2_code 84 = .ok (.bipush 9, 2) := by decide +kernel
theorem d1_86 : decode method_2_code 86 = .ok (.if_icmp .ne 7, 3) := by decide +kernel
theorem d1_89 : decode method_2_code 89 = .ok (.getstatic 37, 3) := by decide +kernel
theorem d1_92 : decode method_2_code 92 = .ok (.areturn, 1) := by decide +kernel
theorem d1_93 : decode method_2_code 93 = .ok (.iload_n 0, 1) := by decide +kernel
theorem d1_94 : decode method_2_code 94 = .ok (.bipush 10, 2) := by decide +kernel
theorem d1_96 : decode method_2_code 96 = .ok (.if_icmp .ne 7, 3) := by decide +kernel
theorem d1_99 : decode method_2_code 99 = .ok (.getstatic 40, 3) := by decide +kernel
theorem d1_102 : decode method_2_code 102 = .ok (.areturn, 1) := by decide +kernel
theorem d1_103 : decode method_2_code 103 = .ok (.iload_n 0, 1) := by decide +kernel
theorem d1_104 : decode method_2_code 104 = .ok (.bipush 11, 2) := by decide +kernel
theorem d1_106 : decode method_2_code 106 = .ok (.if_icmp .ne 7, 3) := by decide +kernel
theorem d1_109 : decode method_2_code 109 = .ok (.getstatic 43, 3) := by decide +kernel
theorem d1_112 : decode method_2_code 112 = .ok (.areturn, 1) := by decide +kernel
theorem d1_113 : decode method_2_code 113 = .ok (.getstatic 46, 3) := by decide +kernel
theorem d1_116 : decode method_2_code 116 = .ok (.areturn, 1) := by decide +kernel
def QP (r : Value) (h0 : Heap) (n0 : Nat) (v : Option Value) (h : Heap) (L : List Loc) : Prop := v = some r ∧ Fr n0 L ∧ h = h0
set_option maxRecDepth 65536 in
set_option maxHeartbeats 40000000 in
theorem rm1_f (l : Launch) (Z : State) (a0 : Array Value) (hw : ∀ d ∈ tables_1, d.before a0 Z = true) (ws : List Jvm.Cond) (p1 : Int32) (w_CHILD : Addr) (h0 : Heap) (n0 : Nat) (Z0 : n0 ≤ h0.size) (S_CHILD : Sta Z h0 "com/example/sluice/sluice/xpath/Axis" "CHILD" "Lcom/example/sluice/sluice/xpath/Axis;" (.ref w_CHILD)) (hc1 : p1 = (0 : Int32)) :
    MetFree l (⟨"com/example/sluice/sluice/xpath/AxisIsReversePinLaw", "axisAt", "(I)Lcom/example/sluice/sluice/xpath/Axis;"⟩ : MethodName) (head1 (Jvm.Cond.code (⟨"com/example/sluice/sluice/xpath/AxisIsReversePinLaw", "axisAt", "(I)Lcom/example/sluice/sluice/xpath/Axis;"⟩ : MethodName) method_2_code 1 (some (.object "com/example/sluice/sluice/xpath/Axis")) :: ws) ({ frames := 0, cells := 0, slots := 0, locals := 0 } : Room)) (fun a U => a = #[(.int p1)] ∧ Z.Warmed39 U.vm ∧ U.heap = h0) (fun _ _ _ _ _ => True) (fun _ U o U' => ∃ v L, o = .returned v ∧ QP (.ref w_CHILD) h0 n0 v U'.heap L ∧ FrameEnd U o U' L ({ frames := 0, cells := 0, slots := 0, locals := 0 } : Room).cells ({ frames := 0, cells := 0, slots := 0, locals := 0 } : Room).slots) := by
  refine MetFree.of_bodySF (plainFor_of_name pn_1) hisR ?_
  intro p e s m args below meth c s₁ Bd hml0 hP hK
  obtain ⟨rfl, hZ, hh⟩ := hP
  have hx := Bd.exec
  have hby := Bd.bytes
  have hml : c.maxLocals = 1 := hml0
  have hown : s.vm.findClass "com/example/sluice/sluice/xpath/AxisIsReversePinLaw" = some m.cls := findClass_of_methodNamed Bd.named
  have hnm := (name_of_methodNamed Bd.named Bd.method).1
  have X0 : Stand p l e ({ frames := 0, cells := 0, slots := 0, locals := 0 } : Room) s m #[(.int p1)] below meth c s₁ [] 0 0 := Stand.of_body Bd
  have e0 : s₁.heap = h0 := by rw [← hh, Bd.state]; rfl
  have N0 := Fr.nil n0
  have pre0 : ∀ t, Steps p.tables e below (s₁.setTop (mkF m 0 #[.val (.int p1)] [])) t → Steps p.tables e below (s₁.setTop (entryFrame m #[(.int p1)] 1)) t := fun t k => castTop (ef_1 m p1) k
  obtain ⟨T2, X2, e2, st2⟩ := getS2 X0 hx hZ hown (host := "") (Or.inl (hw _ (List.mem_of_getElem? (i := 5) rfl))) Via.refl e0 S_CHILD (g := (mkF m 4 #[.val (.int p1)] [])) rfl (hb hby d1_4)
  obtain ⟨fs, hr, hrun, hended, hW, hsame⟩ := X2.leave (v := some (.ref w_CHILD)) (fun h => by rw [Bd.returns] at h; cases h)
  refine ⟨_, _, pre0 _ ?_, hrun, hended, _, _, rfl, ?_, ⟨_, rfl⟩, hW, hsame.mono (by decide) (by decide)⟩
  · show Steps p.tables e below (s₁.setTop (mkF m 0 #[.val (.int p1)] [])) _
    refine XS.iloadN X0.here hx rfl (hb hby d1_0) rfl ?_
    show Steps p.tables e below (s₁.setTop (mkF m 1 #[.val (.int p1)] [(.int p1)])) _
    refine XS.ifNo X0.here hx rfl (hb hby d1_1) rfl ((if0 _ _).trans (teq hc1).2) ?_
    show Steps p.tables e below (s₁.setTop (mkF m 4 #[.val (.int p1)] [])) _
    refine st2 _ ?_
    show Steps p.tables e below (T2.setTop (mkF m 7 #[.val (.int p1)] [(.ref w_CHILD)])) _
    jvm_step X2.here [X2.here.top, hx, (hb hby d1_7), X2.method', Bd.returns, Value.isRef, FieldType.isReference]
    first | (intro acts; rw [hr _ acts rfl rfl rfl]) | rw [hr _ _ rfl rfl rfl]
    exact Steps.refl _
  · show QP (.ref w_CHILD) h0 n0 _ T2.heap _
    rw [e2]
    exact ⟨rfl, N0, rfl⟩
set_option maxRecDepth 65536 in
set_option maxHeartbeats 40000000 in
theorem rm1_tf (l : Launch) (Z : State) (a0 : Array Value) (hw : ∀ d ∈ tables_1, d.before a0 Z = true) (ws : List Jvm.Cond) (p1 : Int32) (w_DESCENDANT : Addr) (h0 : Heap) (n0 : Nat) (Z0 : n0 ≤ h0.size) (S_DESCENDANT : Sta Z h0 "com/example/sluice/sluice/xpath/Axis" "DESCENDANT" "Lcom/example/sluice/sluice/xpath/Axis;" (.ref w_DESCENDANT)) (hc1 : ¬ (p1 = (0 : Int32))) (hc10 : p1 = (1 : Int32)) :
    MetFree l (⟨"com/example/sluice/sluice/xpath/AxisIsReversePinLaw", "axisAt", "(I)Lcom/example/sluice/sluice/xpath/Axis;"⟩ : MethodName) (head1 (Jvm.Cond.code (⟨"com/example/sluice/sluice/xpath/AxisIsReversePinLaw", "axisAt", "(I)Lcom/example/sluice/sluice/xpath/Axis;"⟩ : MethodName) method_2_code 1 (some (.object "com/example/sluice/sluice/xpath/Axis")) :: ws) ({ frames := 0, cells := 0, slots := 0, locals := 0 } : Room)) (fun a U => a = #[(.int p1)] ∧ Z.Warmed39 U.vm ∧ U.heap = h0) (fun _ _ _ _ _ => True) (fun _ U o U' => ∃ v L, o = .returned v ∧ QP (.ref w_DESCENDANT) h0 n0 v U'.heap L ∧ FrameEnd U o U' L ({ frames := 0, cells := 0, slots := 0, locals := 0 } : Room).cells ({ frames := 0, cells := 0, slots := 0, locals := 0 } : Room).slots) := by
  refine MetFree.of_bodySF (plainFor_of_name pn_1) hisR ?_
  intro p e s m args below meth c s₁ Bd hml0 hP hK
  obtain ⟨rfl, hZ, hh⟩ := hP
  have hx := Bd.exec
  have hby := Bd.bytes
  have hml : c.maxLocals = 1 := hml0
  have hown : s.vm.findClass "com/example/sluice/sluice/xpath/AxisIsReversePinLaw" = some m.cls := findClass_of_methodNamed Bd.named
  have hnm := (name_of_methodNamed Bd.named Bd.method).1
  have X0 : Stand p l e ({ frames := 0, cells := 0, slots := 0, locals := 0 } : Room) s m #[(.int p1)] below meth c s₁ [] 0 0 := Stand.of_body Bd
  have e0 : s₁.heap = h0 := by rw [← hh, Bd.state]; rfl
  have N0 := Fr.nil n0
  have pre0 : ∀ t, Steps p.tables e below (s₁.setTop (mkF m 0 #[.val (.int p1)] [])) t → Steps p.tables e below (s₁.setTop (entryFrame m #[(.int p1)] 1)) t := fun t k => castTop (ef_1 m p1) k
  obtain ⟨T2, X2, e2, st2⟩ := getS2 X0 hx hZ hown (host := "") (Or.inl (hw _ (List.mem_of_getElem? (i := 35) rfl))) Via.refl e0 S_DESCENDANT (g := (mkF m 13 #[.val (.int p1)] [])) rfl (hb hby d1_13)
  obtain ⟨fs, hr, hrun, hended, hW, hsame⟩ := X2.leave (v := some (.ref w_DESCENDANT)) (fun h => by rw [Bd.returns] at h; cases h)
  refine ⟨_, _, pre0 _ ?_, hrun, hended, _, _, rfl, ?_, ⟨_, rfl⟩, hW, hsame.mono (by decide) (by decide)⟩
  · show Steps p.tables e below (s₁.setTop (mkF m 0 #[.val (.int p1)] [])) _
    refine XS.iloadN X0.here hx rfl (hb hby d1_0) rfl ?_
    show Steps p.tables e below (s₁.setTop (mkF m 1 #[.val (.int p1)] [(.int p1)])) _
    refine XS.ifYes X0.here hx rfl (pc0 := 1) (pc' := 8) rfl (hb hby d1_1) rfl ((if0 _ _).trans (feq hc1).2) (by decide) (by decide) ?_
    show Steps p.tables e below (s₁.setTop (mkF m 8 #[.val (.int p1)] [])) _
    refine XS.iloadN X0.here hx rfl (hb hby d1_8) rfl ?_
    show Steps p.tables e below (s₁.setTop (mkF m 9 #[.val (.int p1)] [(.int p1)])) _
    refine XS.iconst X0.here hx rfl (hb hby d1_9) ?_
    show Steps p.tables e below (s₁.setTop (mkF m 10 #[.val (.int p1)] [(.int (1 : Int32)), (.int p1)])) _
    refine XS.icmpNo X0.here hx rfl (hb hby d1_10) rfl (teq hc10).2 ?_
    show Steps p.tables e below (s₁.setTop (mkF m 13 #[.val (.int p1)] [])) _
    refine st2 _ ?_
    show Steps p.tables e below (T2.setTop (mkF m 16 #[.val (.int p1)] [(.ref w_DESCENDANT)])) _
    jvm_step X2.here [X2.here.top, hx, (hb hby d1_16), X2.method', Bd.returns, Value.isRef, FieldType.isReference]
    first | (intro acts; rw [hr _ acts rfl rfl rfl]) | rw [hr _ _ rfl rfl rfl]
    exact Steps.refl _
  · show QP (.ref w_DESCENDANT) h0 n0 _ T2.heap _
    rw [e2]
    exact ⟨rfl, N0, rfl⟩
set_option maxRecDepth 65536 in
set_option maxHeartbeats 40000000 in
theorem rm1_ttf (l : Launch) (Z : State) (a0 : Array Value) (hw : ∀ d ∈ tables_1, d.before a0 Z = true) (ws : List Jvm.Cond) (p1 : Int32) (w_ATTRIBUTE : Addr) (h0 : Heap) (n0 : Nat) (Z0 : n0 ≤ h0.size) (S_ATTRIBUTE : Sta Z h0 "com/example/sluice/sluice/xpath/Axis" "ATTRIBUTE" "Lcom/example/sluice/sluice/xpath/Axis;" (.ref w_ATTRIBUTE)) (hc1 : ¬ (p1 = (0 : Int32))) (hc10 : ¬ (p1 = (1 : Int32))) (hc19 : p1 = (2 : Int32)) :
    MetFree l (⟨"com/example/sluice/sluice/xpath/AxisIsReversePinLaw", "axisAt", "(I)Lcom/example/sluice/sluice/xpath/Axis;"⟩ : MethodName) (head1 (Jvm.Cond.code (⟨"com/example/sluice/sluice/xpath/AxisIsReversePinLaw", "axisAt", "(I)Lcom/example/sluice/sluice/xpath/Axis;"⟩ : MethodName) method_2_code 1 (some (.object "com/example/sluice/sluice/xpath/Axis")) :: ws) ({ frames := 0, cells := 0, slots := 0, locals := 0 } : Room)) (fun a U => a = #[(.int p1)] ∧ Z.Warmed39 U.vm ∧ U.heap = h0) (fun _ _ _ _ _ => True) (fun _ U o U' => ∃ v L, o = .returned v ∧ QP (.ref w_ATTRIBUTE) h0 n0 v U'.heap L ∧ FrameEnd U o U' L ({ frames := 0, cells := 0, slots := 0, locals := 0 } : Room).cells ({ frames := 0, cells := 0, slots := 0, locals := 0 } : Room).slots) := by
  refine MetFree.of_bodySF (plainFor_of_name pn_1) hisR ?_
  intro p e s m args below meth c s₁ Bd hml0 hP hK
  obtain ⟨rfl, hZ, hh⟩ := hP
  have hx := Bd.exec
  have hby := Bd.bytes
  have hml : c.maxLocals = 1 := hml0
  have hown : s.vm.findClass "com/example/sluice/sluice/xpath/AxisIsReversePinLaw" = some m.cls := findClass_of_methodNamed Bd.named
  have hnm := (name_of_methodNamed Bd.named Bd.method).1
  have X0 : Stand p l e ({ frames := 0, cells := 0, slots := 0, locals := 0 } : Room) s m #[(.int p1)] below meth c s₁ [] 0 0 := Stand.of_body Bd
  have e0 : s₁.heap = h0 := by rw [← hh, Bd.state]; rfl
  have N0 := Fr.nil n0
  have pre0 : ∀ t, Steps p.tables e below (s₁.setTop (mkF m 0 #[.val (.int p1)] [])) t → Steps p.tables e below (s₁.setTop (entryFrame m #[(.int p1)] 1)) t := fun t k => castTop (ef_1 m p1) k
  obtain ⟨T2, X2, e2, st2⟩ := getS2 X0 hx hZ hown (host := "") (Or.inl (hw _ (List.mem_of_getElem? (i := 32) rfl))) Via.refl e0 S_ATTRIBUTE (g := (mkF m 22 #[.val (.int p1)] [])) rfl (hb hby d1_22)
  obtain ⟨fs, hr, hrun, hended, hW, hsame⟩ := X2.leave (v := some (.ref w_ATTRIBUTE)) (fun h => by rw [Bd.returns] at h; cases h)
  refine ⟨_, _, pre0 _ ?_, hrun, hended, _, _, rfl, ?_, ⟨_, rfl⟩, hW, hsame.mono (by decide) (by decide)⟩
  · show Steps p.tables e below (s₁.setTop (mkF m 0 #[.val (.int p1)] [])) _
    refine XS.iloadN X0.here hx rfl (hb hby d1_0) rfl ?_
    show Steps p.tables e below (s₁.setTop (mkF m 1 #[.val (.int p1)] [(.int p1)])) _
    refine XS.ifYes X0.here hx rfl (pc0 := 1) (pc' := 8) rfl (hb hby d1_1) rfl ((if0 _ _).trans (feq hc1).2) (by decide) (by decide) ?_
    show Steps p.tables e below (s₁.setTop (mkF m 8 #[.val (.int p1)] [])) _
    refine XS.iloadN X0.here hx rfl (hb hby d1_8) rfl ?_
    show Steps p.tables e below (s₁.setTop (mkF m 9 #[.val (.int p1)] [(.int p1)])) _
    refine XS.iconst X0.here hx rfl (hb hby d1_9) ?_
    show Steps p.tables e below (s₁.setTop (mkF m 10 #[.val (.int p1)] [(.int (1 : Int32)), (.int p1)])) _
    refine XS.icmpYes X0.here hx rfl (pc0 := 10) (pc' := 17) rfl (hb hby d1_10) rfl (feq hc10).2 (by decide) (by decide) ?_
    show Steps p.tables e below (s₁.setTop (mkF m 17 #[.val (.int p1)] [])) _
    refine XS.iloadN X0.here hx rfl (hb hby d1_17) rfl ?_
    show Steps p.tables e below (s₁.setTop (mkF m 18 #[.val (.int p1)] [(.int p1)])) _
    refine XS.iconst X0.here hx rfl (hb hby d1_18) ?_
    show Steps p.tables e below (s₁.setTop (mkF m 19 #[.val (.int p1)] [(.int (2 : Int32)), (.int p1)])) _
    refine XS.icmpNo X0.here hx rfl (hb hby d1_19) rfl (teq hc19).2 ?_
    show Steps p.tables e below (s₁.setTop (mkF m 22 #[.val (.int p1)] [])) _
    refine st2 _ ?_
    show Steps p.tables e below (T2.setTop (mkF m 25 #[.val (.int p1)] [(.ref w_ATTRIBUTE)])) _
    jvm_step X2.here [X2.here.top, hx, (hb hby d1_25), X2.method', Bd.returns, Value.isRef, FieldType.isReference]
    first | (intro acts; rw [hr _ acts rfl rfl rfl]) | rw [hr _ _ rfl rfl rfl]
    exact Steps.refl _
  · show QP (.ref w_ATTRIBUTE) h0 n0 _ T2.heap _
    rw [e2]
    exact ⟨rfl, N0, rfl⟩
set_option maxRecDepth 65536 in
set_option maxHeartbeats 40000000 in
theorem rm1_tttf (l : Launch) (Z : State) (a0 : Array Value) (hw : ∀ d ∈ tables_1, d.before a0 Z = true) (ws : List Jvm.Cond) (p1 : Int32) (w_SELF : Addr) (h0 : Heap) (n0 : Nat) (Z0 : n0 ≤ h0.size) (S_SELF : Sta Z h0 "com/example/sluice/sluice/xpath/Axis" "SELF" "Lcom/example/sluice/sluice/xpath/Axis;" (.ref w_SELF)) (hc1 : ¬ (p1 = (0 : Int32))) (hc10 : ¬ (p1 = (1 : Int32))) (hc19 : ¬ (p1 = (2 : Int32))) (hc28 : p1 = (3 : Int32)) :
    MetFree l (⟨"com/example/sluice/sluice/xpath/AxisIsReversePinLaw", "axisAt", "(I)Lcom/example/sluice/sluice/xpath/Axis;"⟩ : MethodName) (head1 (Jvm.Cond.code (⟨"com/example/sluice/sluice/xpath/AxisIsReversePinLaw", "axisAt", "(I)Lcom/example/sluice/sluice/xpath/Axis;"⟩ : MethodName) method_2_code 1 (some (.object "com/example/sluice/sluice/xpath/Axis")) :: ws) ({ frames := 0, cells := 0, slots := 0, locals := 0 } : Room)) (fun a U => a = #[(.int p1)] ∧ Z.Warmed39 U.vm ∧ U.heap = h0) (fun _ _ _ _ _ => True) (fun _ U o U' => ∃ v L, o = .returned v ∧ QP (.ref w_SELF) h0 n0 v U'.heap L ∧ FrameEnd U o U' L ({ frames := 0, cells := 0, slots := 0, locals := 0 } : Room).cells ({ frames := 0, cells := 0, slots := 0, locals := 0 } : Room).slots) := by
  refine MetFree.of_bodySF (plainFor_of_name pn_1) hisR ?_
  intro p e s m args below meth c s₁ Bd hml0 hP hK
  obtain ⟨rfl, hZ, hh⟩ := hP
  have hx := Bd.exec
  have hby := Bd.bytes
  have hml : c.maxLocals = 1 := hml0
  have hown : s.vm.findClass "com/example/sluice/sluice/xpath/AxisIsReversePinLaw" = some m.cls := findClass_of_methodNamed Bd.named
  have hnm := (name_of_methodNamed Bd.named Bd.method).1
  have X0 : Stand p l e ({ frames := 0, cells := 0, slots := 0, locals := 0 } : Room) s m #[(.int p1)] below meth c s₁ [] 0 0 := Stand.of_body Bd
  have e0 : s₁.heap = h0 := by rw [← hh, Bd.state]; rfl
  have N0 := Fr.nil n0
  have pre0 : ∀ t, Steps p.tables e below (s₁.setTop (mkF m 0 #[.val (.int p1)] [])) t → Steps p.tables e below (s₁.setTop (entryFrame m #[(.int p1)] 1)) t := fun t k => castTop (ef_1 m p1) k
  obtain ⟨T2, X2, e2, st2⟩ := getS2 X0 hx hZ hown (host := "") (Or.inl (hw _ (List.mem_of_getElem? (i := 23) rfl))) Via.refl e0 S_SELF (g := (mkF m 31 #[.val (.int p1)] [])) rfl (hb hby d1_31)
  obtain ⟨fs, hr, hrun, hended, hW, hsame⟩ := X2.leave (v := some (.ref w_SELF)) (fun h => by rw [Bd.returns] at h; cases h)
  refine ⟨_, _, pre0 _ ?_, hrun, hended, _, _, rfl, ?_, ⟨_, rfl⟩, hW, hsame.mono (by decide) (by decide)⟩
  · show Steps p.tables e below (s₁.setTop (mkF m 0 #[.val (.int p1)] [])) _
    refine XS.iloadN X0.here hx rfl (hb hby d1_0) rfl ?_
    show Steps p.tables e below (s₁.setTop (mkF m 1 #[.val (.int p1)] [(.int p1)])) _
    refine XS.ifYes X0.here hx rfl (pc0 := 1) (pc' := 8) rfl (hb hby d1_1) rfl ((if0 _ _).trans (feq hc1).2) (by decide) (by decide) ?_
    show Steps p.tables e below (s₁.setTop (mkF m 8 #[.val (.int p1)] [])) _
    refine XS.iloadN X0.here hx rfl (hb hby d1_8) rfl ?_
    show Steps p.tables e below (s₁.setTop (mkF m 9 #[.val (.int p1)] [(.int p1)])) _
    refine XS.iconst X0.here hx rfl (hb hby d1_9) ?_
    show Steps p.tables e below (s₁.setTop (mkF m 10 #[.val (.int p1)] [(.int (1 : Int32)), (.int p1)])) _
    refine XS.icmpYes X0.here hx rfl (pc0 := 10) (pc' := 17) rfl (hb hby d1_10) rfl (feq hc10).2 (by decide) (by decide) ?_
    show Steps p.tables e below (s₁.setTop (mkF m 17 #[.val (.int p1)] [])) _
    refine XS.iloadN X0.here hx rfl (hb hby d1_17) rfl ?_
    show Steps p.tables e below (s₁.setTop (mkF m 18 #[.val (.int p1)] [(.int p1)])) _
    refine XS.iconst X0.here hx rfl (hb hby d1_18) ?_
    show Steps p.tables e below (s₁.setTop (mkF m 19 #[.val (.int p1)] [(.int (2 : Int32)), (.int p1)])) _
    refine XS.icmpYes X0.here hx rfl (pc0 := 19) (pc' := 26) rfl (hb hby d1_19) rfl (feq hc19).2 (by decide) (by decide) ?_
    show Steps p.tables e below (s₁.setTop (mkF m 26 #[.val (.int p1)] [])) _
    refine XS.iloadN X0.here hx rfl (hb hby d1_26) rfl ?_
    show Steps p.tables e below (s₁.setTop (mkF m 27 #[.val (.int p1)] [(.int p1)])) _
    refine XS.iconst X0.here hx rfl (hb hby d1_27) ?_
    show Steps p.tables e below (s₁.setTop (mkF m 28 #[.val (.int p1)] [(.int (3 : Int32)), (.int p1)])) _
    refine XS.icmpNo X0.here hx rfl (hb hby d1_28) rfl (teq hc28).2 ?_
    show Steps p.tables e below (s₁.setTop (mkF m 31 #[.val (.int p1)] [])) _
    refine st2 _ ?_
    show Steps p.tables e below (T2.setTop (mkF m 34 #[.val (.int p1)] [(.ref w_SELF)])) _
    jvm_step X2.here [X2.here.top, hx, (hb hby d1_34), X2.method', Bd.returns, Value.isRef, FieldType.isReference]
    first | (intro acts; rw [hr _ acts rfl rfl rfl]) | rw [hr _ _ rfl rfl rfl]
    exact Steps.refl _
  · show QP (.ref w_SELF) h0 n0 _ T2.heap _
    rw [e2]
    exact ⟨rfl, N0, rfl⟩
set_option maxRecDepth 65536 in
set_option maxHeartbeats 40000000 in
theorem rm1_ttttf (l : Launch) (Z : State) (a0 : Array Value) (hw : ∀ d ∈ tables_1, d.before a0 Z = true) (ws : List Jvm.Cond) (p1 : Int32) (w_DESCENDANT_OR_SELF : Addr) (h0 : Heap) (n0 : Nat) (Z0 : n0 ≤ h0.size) (S_DESCENDANT_OR_SELF : Sta Z h0 "com/example/sluice/sluice/xpath/Axis" "DESCENDANT_OR_SELF" "Lcom/example/sluice/sluice/xpath/Axis;" (.ref w_DESCENDANT_OR_SELF)) (hc1 : ¬ (p1 = (0 : Int32))) (hc10 : ¬ (p1 = (1 : Int32))) (hc19 : ¬ (p1 = (2 : Int32))) (hc28 : ¬ (p1 = (3 : Int32))) (hc37 : p1 = (4 : Int32)) :
    MetFree l (⟨"com/example/sluice/sluice/xpath/AxisIsReversePinLaw", "axisAt", "(I)Lcom/example/sluice/sluice/xpath/Axis;"⟩ : MethodName) (head1 (Jvm.Cond.code (⟨"com/example/sluice/sluice/xpath/AxisIsReversePinLaw", "axisAt", "(I)Lcom/example/sluice/sluice/xpath/Axis;"⟩ : MethodName) method_2_code 1 (some (.object "com/example/sluice/sluice/xpath/Axis")) :: ws) ({ frames := 0, cells := 0, slots := 0, locals := 0 } : Room)) (fun a U => a = #[(.int p1)] ∧ Z.Warmed39 U.vm ∧ U.heap = h0) (fun _ _ _ _ _ => True) (fun _ U o U' => ∃ v L, o = .returned v ∧ QP (.ref w_DESCENDANT_OR_SELF) h0 n0 v U'.heap L ∧ FrameEnd U o U' L ({ frames := 0, cells := 0, slots := 0, locals := 0 } : Room).cells ({ frames := 0, cells := 0, slots := 0, locals := 0 } : Room).slots) := by
  refine MetFree.of_bodySF (plainFor_of_name pn_1) hisR ?_
  intro p e s m args below meth c s₁ Bd hml0 hP hK
  obtain ⟨rfl, hZ, hh⟩ := hP
  have hx := Bd.exec
  have hby := Bd.bytes
  have hml : c.maxLocals = 1 := hml0
  have hown : s.vm.findClass "com/example/sluice/sluice/xpath/AxisIsReversePinLaw" = some m.cls := findClass_of_methodNamed Bd.named
  have hnm := (name_of_methodNamed Bd.named Bd.method).1
  have X0 : Stand p l e ({ frames := 0, cells := 0, slots := 0, locals := 0 } : Room) s m #[(.int p1)] below meth c s₁ [] 0 0 := Stand.of_body Bd
  have e0 : s₁.heap = h0 := by rw [← hh, Bd.state]; rfl
  have N0 := Fr.nil n0
  have pre0 : ∀ t, Steps p.tables e below (s₁.setTop (mkF m 0 #[.val (.int p1)] [])) t → Steps p.tables e below (s₁.setTop (entryFrame m #[(.int p1)] 1)) t := fun t k => castTop (ef_1 m p1) k
  obtain ⟨T2, X2, e2, st2⟩ := getS2 X0 hx hZ hown (host := "") (Or.inl (hw _ (List.mem_of_getElem? (i := 40) rfl))) Via.refl e0 S_DESCENDANT_OR_SELF (g := (mkF m 40 #[.val (.int p1)] [])) rfl (hb hby d1_40)
  obtain ⟨fs, hr, hrun, hended, hW, hsame⟩ := X2.leave (v := some (.ref w_DESCENDANT_OR_SELF)) (fun h => by rw [Bd.returns] at h; cases h)
  refine ⟨_, _, pre0 _ ?_, hrun, hended, _, _, rfl, ?_, ⟨_, rfl⟩, hW, hsame.mono (by decide) (by decide)⟩
  · show Steps p.tables e below (s₁.setTop (mkF m 0 #[.val (.int p1)] [])) _
    refine XS.iloadN X0.here hx rfl (hb hby d1_0) rfl ?_
    show Steps p.tables e below (s₁.setTop (mkF m 1 #[.val (.int p1)] [(.int p1)])) _
    refine XS.ifYes X0.here hx rfl (pc0 := 1) (pc' := 8) rfl (hb hby d1_1) rfl ((if0 _ _).trans (feq hc1).2) (by decide) (by decide) ?_
    show Steps p.tables e below (s₁.setTop (mkF m 8 #[.val (.int p1)] [])) _
    refine XS.iloadN X0.here hx rfl (hb hby d1_8) rfl ?_
    show Steps p.tables e below (s₁.setTop (mkF m 9 #[.val (.int p1)] [(.int p1)])) _
    refine XS.iconst X0.here hx rfl (hb hby d1_9) ?_
    show Steps p.tables e below (s₁.setTop (mkF m 10 #[.val (.int p1)] [(.int (1 : Int32)), (.int p1)])) _
    refine XS.icmpYes X0.here hx rfl (pc0 := 10) (pc' := 17) rfl (hb hby d1_10) rfl (feq hc10).2 (by decide) (by decide) ?_
    show Steps p.tables e below (s₁.setTop (mkF m 17 #[.val (.int p1)] [])) _
    refine XS.iloadN X0.here hx rfl (hb hby d1_17) rfl ?_
    show Steps p.tables e below (s₁.setTop (mkF m 18 #[.val (.int p1)] [(.int p1)])) _
    refine XS.iconst X0.here hx rfl (hb hby d1_18) ?_
    show Steps p.tables e below (s₁.setTop (mkF m 19 #[.val (.int p1)] [(.int (2 : Int32)), (.int p1)])) _
    refine XS.icmpYes X0.here hx rfl (pc0 := 19) (pc' := 26) rfl (hb hby d1_19) rfl (feq hc19).2 (by decide) (by decide) ?_
    show Steps p.tables e below (s₁.setTop (mkF m 26 #[.val (.int p1)] [])) _
    refine XS.iloadN X0.here hx rfl (hb hby d1_26) rfl ?_
    show Steps p.tables e below (s₁.setTop (mkF m 27 #[.val (.int p1)] [(.int p1)])) _
    refine XS.iconst X0.here hx rfl (hb hby d1_27) ?_
    show Steps p.tables e below (s₁.setTop (mkF m 28 #[.val (.int p1)] [(.int (3 : Int32)), (.int p1)])) _
    refine XS.icmpYes X0.here hx rfl (pc0 := 28) (pc' := 35) rfl (hb hby d1_28) rfl (feq hc28).2 (by decide) (by decide) ?_
    show Steps p.tables e below (s₁.setTop (mkF m 35 #[.val (.int p1)] [])) _
    refine XS.iloadN X0.here hx rfl (hb hby d1_35) rfl ?_
    show Steps p.tables e below (s₁.setTop (mkF m 36 #[.val (.int p1)] [(.int p1)])) _
    refine XS.iconst X0.here hx rfl (hb hby d1_36) ?_
    show Steps p.tables e below (s₁.setTop (mkF m 37 #[.val (.int p1)] [(.int (4 : Int32)), (.int p1)])) _
    refine XS.icmpNo X0.here hx rfl (hb hby d1_37) rfl (teq hc37).2 ?_
    show Steps p.tables e below (s₁.setTop (mkF m 40 #[.val (.int p1)] [])) _
    refine st2 _ ?_
    show Steps p.tables e below (T2.setTop (mkF m 43 #[.val (.int p1)] [(.ref w_DESCENDANT_OR_SELF)])) _
    jvm_step X2.here [X2.here.top, hx, (hb hby d1_43), X2.method', Bd.returns, Value.isRef, FieldType.isReference]
    first | (intro acts; rw [hr _ acts rfl rfl rfl]) | rw [hr _ _ rfl rfl rfl]
    exact Steps.refl _
  · show QP (.ref w_DESCENDANT_OR_SELF) h0 n0 _ T2.heap _
    rw [e2]
    exact ⟨rfl, N0, rfl⟩
set_option maxRecDepth 65536 in
set_option maxHeartbeats 40000000 in
theorem rm1_tttttf (l : Launch) (Z : State) (a0 : Array Value) (hw : ∀ d ∈ tables_1, d.before a0 Z = true) (ws : List Jvm.Cond) (p1 : Int32) (w_FOLLOWING_SIBLING : Addr) (h0 : Heap) (n0 : Nat) (Z0 : n0 ≤ h0.size) (S_FOLLOWING_SIBLING : Sta Z h0 "com/example/sluice/sluice/xpath/Axis" "FOLLOWING_SIBLING" "Lcom/example/sluice/sluice/xpath/Axis;" (.ref w_FOLLOWING_SIBLING)) (hc1 : ¬ (p1 = (0 : Int32))) (hc10 : ¬ (p1 = (1 : Int32))) (hc19 : ¬ (p1 = (2 : Int32))) (hc28 : ¬ (p1 = (3 : Int32))) (hc37 : ¬ (p1 = (4 : Int32))) (hc46 : p1 = (5 : Int32)) :
    MetFree l (⟨"com/example/sluice/sluice/xpath/AxisIsReversePinLaw", "axisAt", "(I)Lcom/example/sluice/sluice/xpath/Axis;"⟩ : MethodName) (head1 (Jvm.Cond.code (⟨"com/example/sluice/sluice/xpath/AxisIsReversePinLaw", "axisAt", "(I)Lcom/example/sluice/sluice/xpath/Axis;"⟩ : MethodName) method_2_code 1 (some (.object "com/example/sluice/sluice/xpath/Axis")) :: ws) ({ frames := 0, cells := 0, slots := 0, locals := 0 } : Room)) (fun a U => a = #[(.int p1)] ∧ Z.Warmed39 U.vm ∧ U.heap = h0) (fun _ _ _ _ _ => True) (fun _ U o U' => ∃ v L, o = .returned v ∧ QP (.ref w_FOLLOWING_SIBLING) h0 n0 v U'.heap L ∧ FrameEnd U o U' L ({ frames := 0, cells := 0, slots := 0, locals := 0 } : Room).cells ({ frames := 0, cells := 0, slots := 0, locals := 0 } : Room).slots) := by
  refine MetFree.of_bodySF (plainFor_of_name pn_1) hisR ?_
  intro p e s m args below meth c s₁ Bd hml0 hP hK
  obtain ⟨rfl, hZ, hh⟩ := hP
  have hx := Bd.exec
  have hby := Bd.bytes
  have hml : c.maxLocals = 1 := hml0
  have hown : s.vm.findClass "com/example/sluice/sluice/xpath/AxisIsReversePinLaw" = some m.cls := findClass_of_methodNamed Bd.named
  have hnm := (name_of_methodNamed Bd.named Bd.method).1
  have X0 : Stand p l e ({ frames := 0, cells := 0, slots := 0, locals := 0 } : Room) s m #[(.int p1)] below meth c s₁ [] 0 0 := Stand.of_body Bd
  have e0 : s₁.heap = h0 := by rw [← hh, Bd.state]; rfl
  have N0 := Fr.nil n0
  have pre0 : ∀ t, Steps p.tables e below (s₁.setTop (mkF m 0 #[.val (.int p1)] [])) t → Steps p.tables e below (s₁.setTop (entryFrame m #[(.int p1)] 1)) t := fun t k => castTop (ef_1 m p1) k
  obtain ⟨T2, X2, e2, st2⟩ := getS2 X0 hx hZ hown (host := "") (Or.inl (hw _ (List.mem_of_getElem? (i := 27) rfl))) Via.refl e0 S_FOLLOWING_SIBLING (g := (mkF m 49 #[.val (.int p1)] [])) rfl (hb hby d1_49)
  obtain ⟨fs, hr, hrun, hended, hW, hsame⟩ := X2.leave (v := some (.ref w_FOLLOWING_SIBLING)) (fun h => by rw [Bd.returns] at h; cases h)
  refine ⟨_, _, pre0 _ ?_, hrun, hended, _, _, rfl, ?_, ⟨_, rfl⟩, hW, hsame.mono (by decide) (by decide)⟩
  · show Steps p.tables e below (s₁.setTop (mkF m 0 #[.val (.int p1)] [])) _
    refine XS.iloadN X0.here hx rfl (hb hby d1_0) rfl ?_
    show Steps p.tables e below (s₁.setTop (mkF m 1 #[.val (.int p1)] [(.int p1)])) _
    refine XS.ifYes X0.here hx rfl (pc0 := 1) (pc' := 8) rfl (hb hby d1_1) rfl ((if0 _ _).trans (feq hc1).2) (by decide) (by decide) ?_
    show Steps p.tables e below (s₁.setTop (mkF m 8 #[.val (.int p1)] [])) _
    refine XS.iloadN X0.here hx rfl (hb hby d1_8) rfl ?_
    show Steps p.tables e below (s₁.setTop (mkF m 9 #[.val (.int p1)] [(.int p1)])) _
    refine XS.iconst X0.here hx rfl (hb hby d1_9) ?_
    show Steps p.tables e below (s₁.setTop (mkF m 10 #[.val (.int p1)] [(.int (1 : Int32)), (.int p1)])) _
    refine XS.icmpYes X0.here hx rfl (pc0 := 10) (pc' := 17) rfl (hb hby d1_10) rfl (feq hc10).2 (by decide) (by decide) ?_
    show Steps p.tables e below (s₁.setTop (mkF m 17 #[.val (.int p1)] [])) _
    refine XS.iloadN X0.here hx rfl (hb hby d1_17) rfl ?_
    show Steps p.tables e below (s₁.setTop (mkF m 18 #[.val (.int p1)] [(.int p1)])) _
    refine XS.iconst X0.here hx rfl (hb hby d1_18) ?_
    show Steps p.tables e below (s₁.setTop (mkF m 19 #[.val (.int p1)] [(.int (2 : Int32)), (.int p1)])) _
    refine XS.icmpYes X0.here hx rfl (pc0 := 19) (pc' := 26) rfl (hb hby d1_19) rfl (feq hc19).2 (by decide) (by decide) ?_
    show Steps p.tables e below (s₁.setTop (mkF m 26 #[.val (.int p1)] [])) _
    refine XS.iloadN X0.here hx rfl (hb hby d1_26) rfl ?_
    show Steps p.tables e below (s₁.setTop (mkF m 27 #[.val (.int p1)] [(.int p1)])) _
    refine XS.iconst X0.here hx rfl (hb hby d1_27) ?_
    show Steps p.tables e below (s₁.setTop (mkF m 28 #[.val (.int p1)] [(.int (3 : Int32)), (.int p1)])) _
    refine XS.icmpYes X0.here hx rfl (pc0 := 28) (pc' := 35) rfl (hb hby d1_28) rfl (feq hc28).2 (by decide) (by decide) ?_
    show Steps p.tables e below (s₁.setTop (mkF m 35 #[.val (.int p1)] [])) _
    refine XS.iloadN X0.here hx rfl (hb hby d1_35) rfl ?_
    show Steps p.tables e below (s₁.setTop (mkF m 36 #[.val (.int p1)] [(.int p1)])) _
    refine XS.iconst X0.here hx rfl (hb hby d1_36) ?_
    show Steps p.tables e below (s₁.setTop (mkF m 37 #[.val (.int p1)] [(.int (4 : Int32)), (.int p1)])) _
    refine XS.icmpYes X0.here hx rfl (pc0 := 37) (pc' := 44) rfl (hb hby d1_37) rfl (feq hc37).2 (by decide) (by decide) ?_
    show Steps p.tables e below (s₁.setTop (mkF m 44 #[.val (.int p1)] [])) _
    refine XS.iloadN X0.here hx rfl (hb hby d1_44) rfl ?_
    show Steps p.tables e below (s₁.setTop (mkF m 45 #[.val (.int p1)] [(.int p1)])) _
    refine XS.iconst X0.here hx rfl (hb hby d1_45) ?_
    show Steps p.tables e below (s₁.setTop (mkF m 46 #[.val (.int p1)] [(.int (5 : Int32)), (.int p1)])) _
    refine XS.icmpNo X0.here hx rfl (hb hby d1_46) rfl (teq hc46).2 ?_
    show Steps p.tables e below (s₁.setTop (mkF m 49 #[.val (.int p1)] [])) _
    refine st2 _ ?_
    show Steps p.tables e below (T2.setTop (mkF m 52 #[.val (.int p1)] [(.ref w_FOLLOWING_SIBLING)])) _
    jvm_step X2.here [X2.here.top, hx, (hb hby d1_52), X2.method', Bd.returns, Value.isRef, FieldType.isReference]
    first | (intro acts; rw [hr _ acts rfl rfl rfl]) | rw [hr _ _ rfl rfl rfl]
    exact Steps.refl _
  · show QP (.ref w_FOLLOWING_SIBLING) h0 n0 _ T2.heap _
    rw [e2]
    exact ⟨rfl, N0, rfl⟩
set_option maxRecDepth 65536 in
set_option maxHeartbeats 40000000 in
theorem rm1_ttttttf (l : Launch) (Z : State) (a0 : Array Value) (hw : ∀ d ∈ tables_1, d.before a0 Z = true) (ws : List Jvm.Cond) (p1 : Int32) (w_FOLLOWING : Addr) (h0 : Heap) (n0 : Nat) (Z0 : n0 ≤ h0.size) (S_FOLLOWING : Sta Z h0 "com/example/sluice/sluice/xpath/Axis" "FOLLOWING" "Lcom/example/sluice/sluice/xpath/Axis;" (.ref w_FOLLOWING)) (hc1 : ¬ (p1 = (0 : Int32))) (hc10 : ¬ (p1 = (1 : Int32))) (hc19 : ¬ (p1 = (2 : Int32))) (hc28 : ¬ (p1 = (3 : Int32))) (hc37 : ¬ (p1 = (4 : Int32))) (hc46 : ¬ (p1 = (5 : Int32))) (hc56 : p1 = (6 : Int32)) :
    MetFree l (⟨"com/example/sluice/sluice/xpath/AxisIsReversePinLaw", "axisAt", "(I)Lcom/example/sluice/sluice/xpath/Axis;"⟩ : MethodName) (head1 (Jvm.Cond.code (⟨"com/example/sluice/sluice/xpath/AxisIsReversePinLaw", "axisAt", "(I)Lcom/example/sluice/sluice/xpath/Axis;"⟩ : MethodName) method_2_code 1 (some (.object "com/example/sluice/sluice/xpath/Axis")) :: ws) ({ frames := 0, cells := 0, slots := 0, locals := 0 } : Room)) (fun a U => a = #[(.int p1)] ∧ Z.Warmed39 U.vm ∧ U.heap = h0) (fun _ _ _ _ _ => True) (fun _ U o U' => ∃ v L, o = .returned v ∧ QP (.ref w_FOLLOWING) h0 n0 v U'.heap L ∧ FrameEnd U o U' L ({ frames := 0, cells := 0, slots := 0, locals := 0 } : Room).cells ({ frames := 0, cells := 0, slots := 0, locals := 0 } : Room).slots) := by
  refine MetFree.of_bodySF (plainFor_of_name pn_1) hisR ?_
  intro p e s m args below meth c s₁ Bd hml0 hP hK
  obtain ⟨rfl, hZ, hh⟩ := hP
  have hx := Bd.exec
  have hby := Bd.bytes
  have hml : c.maxLocals = 1 := hml0
  have hown : s.vm.findClass "com/example/sluice/sluice/xpath/AxisIsReversePinLaw" = some m.cls := findClass_of_methodNamed Bd.named
  have hnm := (name_of_methodNamed Bd.named Bd.method).1
  have X0 : Stand p l e ({ frames := 0, cells := 0, slots := 0, locals := 0 } : Room) s m #[(.int p1)] below meth c s₁ [] 0 0 := Stand.of_body Bd
  have e0 : s₁.heap = h0 := by rw [← hh, Bd.state]; rfl
  have N0 := Fr.nil n0
  have pre0 : ∀ t, Steps p.tables e below (s₁.setTop (mkF m 0 #[.val (.int p1)] [])) t → Steps p.tables e below (s₁.setTop (entryFrame m #[(.int p1)] 1)) t := fun t k => castTop (ef_1 m p1) k
  obtain ⟨T2, X2, e2, st2⟩ := getS2 X0 hx hZ hown (host := "") (Or.inl (hw _ (List.mem_of_getElem? (i := 25) rfl))) Via.refl e0 S_FOLLOWING (g := (mkF m 59 #[.val (.int p1)] [])) rfl (hb hby d1_59)
  obtain ⟨fs, hr, hrun, hended, hW, hsame⟩ := X2.leave (v := some (.ref w_FOLLOWING)) (fun h => by rw [Bd.returns] at h; cases h)
  refine ⟨_, _, pre0 _ ?_, hrun, hended, _, _, rfl, ?_, ⟨_, rfl⟩, hW, hsame.mono (by decide) (by decide)⟩
  · show Steps p.tables e below (s₁.setTop (mkF m 0 #[.val (.int p1)] [])) _
    refine XS.iloadN X0.here hx rfl (hb hby d1_0) rfl ?_
    show Steps p.tables e below (s₁.setTop (mkF m 1 #[.val (.int p1)] [(.int p1)])) _
    refine XS.ifYes X0.here hx rfl (pc0 := 1) (pc' := 8) rfl (hb hby d1_1) rfl ((if0 _ _).trans (feq hc1).2) (by decide) (by decide) ?_
    show Steps p.tables e below (s₁.setTop (mkF m 8 #[.val (.int p1)] [])) _
    refine XS.iloadN X0.here hx rfl (hb hby d1_8) rfl ?_
    show Steps p.tables e below (s₁.setTop (mkF m 9 #[.val (.int p1)] [(.int p1)])) _
    refine XS.iconst X0.here hx rfl (hb hby d1_9) ?_
    show Steps p.tables e below (s₁.setTop (mkF m 10 #[.val (.int p1)] [(.int (1 : Int32)), (.int p1)])) _
    refine XS.icmpYes X0.here hx rfl (pc0 := 10) (pc' := 17) rfl (hb hby d1_10) rfl (feq hc10).2 (by decide) (by decide) ?_
    show Steps p.tables e below (s₁.setTop (mkF m 17 #[.val (.int p1)] [])) _
    refine XS.iloadN X0.here hx rfl (hb hby d1_17) rfl ?_
    show Steps p.tables e below (s₁.setTop (mkF m 18 #[.val (.int p1)] [(.int p1)])) _
    refine XS.iconst X0.here hx rfl (hb hby d1_18) ?_
    show Steps p.tables e below (s₁.setTop (mkF m 19 #[.val (.int p1)] [(.int (2 : Int32)), (.int p1)])) _
    refine XS.icmpYes X0.here hx rfl (pc0 := 19) (pc' := 26) rfl (hb hby d1_19) rfl (feq hc19).2 (by decide) (by decide) ?_
    show Steps p.tables e below (s₁.setTop (mkF m 26 #[.val (.int p1)] [])) _
    refine XS.iloadN X0.here hx rfl (hb hby d1_26) rfl ?_
    show Steps p.tables e below (s₁.setTop (mkF m 27 #[.val (.int p1)] [(.int p1)])) _
    refine XS.iconst X0.here hx rfl (hb hby d1_27) ?_
    show Steps p.tables e below (s₁.setTop (mkF m 28 #[.val (.int p1)] [(.int (3 : Int32)), (.int p1)])) _
    refine XS.icmpYes X0.here hx rfl (pc0 := 28) (pc' := 35) rfl (hb hby d1_28) rfl (feq hc28).2 (by decide) (by decide) ?_
    show Steps p.tables e below (s₁.setTop (mkF m 35 #[.val (.int p1)] [])) _
    refine XS.iloadN X0.here hx rfl (hb hby d1_35) rfl ?_
    show Steps p.tables e below (s₁.setTop (mkF m 36 #[.val (.int p1)] [(.int p1)])) _
    refine XS.iconst X0.here hx rfl (hb hby d1_36) ?_
    show Steps p.tables e below (s₁.setTop (mkF m 37 #[.val (.int p1)] [(.int (4 : Int32)), (.int p1)])) _
    refine XS.icmpYes X0.here hx rfl (pc0 := 37) (pc' := 44) rfl (hb hby d1_37) rfl (feq hc37).2 (by decide) (by decide) ?_
    show Steps p.tables e below (s₁.setTop (mkF m 44 #[.val (.int p1)] [])) _
    refine XS.iloadN X0.here hx rfl (hb hby d1_44) rfl ?_
    show Steps p.tables e below (s₁.setTop (mkF m 45 #[.val (.int p1)] [(.int p1)])) _
    refine XS.iconst X0.here hx rfl (hb hby d1_45) ?_
    show Steps p.tables e below (s₁.setTop (mkF m 46 #[.val (.int p1)] [(.int (5 : Int32)), (.int p1)])) _
    refine XS.icmpYes X0.here hx rfl (pc0 := 46) (pc' := 53) rfl (hb hby d1_46) rfl (feq hc46).2 (by decide) (by decide) ?_
    show Steps p.tables e below (s₁.setTop (mkF m 53 #[.val (.int p1)] [])) _
    refine XS.iloadN X0.here hx rfl (hb hby d1_53) rfl ?_
    show Steps p.tables e below (s₁.setTop (mkF m 54 #[.val (.int p1)] [(.int p1)])) _
    refine XS.bipush X0.here hx rfl (hb hby d1_54) ?_
    show Steps p.tables e below (s₁.setTop (mkF m 56 #[.val (.int p1)] [(.int (6 : Int32)), (.int p1)])) _
    refine XS.icmpNo X0.here hx rfl (hb hby d1_56) rfl (teq hc56).2 ?_
    show Steps p.tables e below (s₁.setTop (mkF m 59 #[.val (.int p1)] [])) _
    refine st2 _ ?_
    show Steps p.tables e below (T2.setTop (mkF m 62 #[.val (.int p1)] [(.ref w_FOLLOWING)])) _
    jvm_step X2.here [X2.here.top, hx, (hb hby d1_62), X2.method', Bd.returns, Value.isRef, FieldType.isReference]
    first | (intro acts; rw [hr _ acts rfl rfl rfl]) | rw [hr _ _ rfl rfl rfl]
    exact Steps.refl _
  · show QP (.ref w_FOLLOWING) h0 n0 _ T2.heap _
    rw [e2]
    exact ⟨rfl, N0, rfl⟩
set_option maxRecDepth 65536 in
set_option maxHeartbeats 40000000 in
theorem rm1_tttttttf (l : Launch) (Z : State) (a0 : Array Value) (hw : ∀ d ∈ tables_1, d.before a0 Z = true) (ws : List Jvm.Cond) (p1 : Int32) (w_NAMESPACE : Addr) (h0 : Heap) (n0 : Nat) (Z0 : n0 ≤ h0.size) (S_NAMESPACE : Sta Z h0 "com/example/sluice/sluice/xpath/Axis" "NAMESPACE" "Lcom/example/sluice/sluice/xpath/Axis;" (.ref w_NAMESPACE)) (hc1 : ¬ (p1 = (0 : Int32))) (hc10 : ¬ (p1 = (1 : Int32))) (hc19 : ¬ (p1 = (2 : Int32))) (hc28 : ¬ (p1 = (3 : Int32))) (hc37 : ¬ (p1 = (4 : Int32))) (hc46 : ¬ (p1 = (5 : Int32))) (hc56 : ¬ (p1 = (6 : Int32))) (hc66 : p1 = (7 : Int32)) :
    MetFree l (⟨"com/example/sluice/sluice/xpath/AxisIsReversePinLaw", "axisAt", "(I)Lcom/example/sluice/sluice/xpath/Axis;"⟩ : MethodName) (head1 (Jvm.Cond.code (⟨"com/example/sluice/sluice/xpath/AxisIsReversePinLaw", "axisAt", "(I)Lcom/example/sluice/sluice/xpath/Axis;"⟩ : MethodName) method_2_code 1 (some (.object "com/example/sluice/sluice/xpath/Axis")) :: ws) ({ frames := 0, cells := 0, slots := 0, locals := 0 } : Room)) (fun a U => a = #[(.int p1)] ∧ Z.Warmed39 U.vm ∧ U.heap = h0) (fun _ _ _ _ _ => True) (fun _ U o U' => ∃ v L, o = .returned v ∧ QP (.ref w_NAMESPACE) h0 n0 v U'.heap L ∧ FrameEnd U o U' L ({ frames := 0, cells := 0, slots := 0, locals := 0 } : Room).cells ({ frames := 0, cells := 0, slots := 0, locals := 0 } : Room).slots) := by
  refine MetFree.of_bodySF (plainFor_of_name pn_1) hisR ?_
  intro p e s m args below meth c s₁ Bd hml0 hP hK
  obtain ⟨rfl, hZ, hh⟩ := hP
  have hx := Bd.exec
  have hby := Bd.bytes
  have hml : c.maxLocals = 1 := hml0
  have hown : s.vm.findClass "com/example/sluice/sluice/xpath/AxisIsReversePinLaw" = some m.cls := findClass_of_methodNamed Bd.named
  have hnm := (name_of_methodNamed Bd.named Bd.method).1
  have X0 : Stand p l e ({ frames := 0, cells := 0, slots := 0, locals := 0 } : Room) s m #[(.int p1)] below meth c s₁ [] 0 0 := Stand.of_body Bd
  have e0 : s₁.heap = h0 := by rw [← hh, Bd.state]; rfl
  have N0 := Fr.nil n0
  have pre0 : ∀ t, Steps p.tables e below (s₁.setTop (mkF m 0 #[.val (.int p1)] [])) t → Steps p.tables e below (s₁.setTop (entryFrame m #[(.int p1)] 1)) t := fun t k => castTop (ef_1 m p1) k
  obtain ⟨T2, X2, e2, st2⟩ := getS2 X0 hx hZ hown (host := "") (Or.inl (hw _ (List.mem_of_getElem? (i := 29) rfl))) Via.refl e0 S_NAMESPACE (g := (mkF m 69 #[.val (.int p1)] [])) rfl (hb hby d1_69)
  obtain ⟨fs, hr, hrun, hended, hW, hsame⟩ := X2.leave (v := some (.ref w_NAMESPACE)) (fun h => by rw [Bd.returns] at h; cases h)
  refine ⟨_, _, pre0 _ ?_, hrun, hended, _, _, rfl, ?_, ⟨_, rfl⟩, hW, hsame.mono (by decide) (by decide)⟩
  · show Steps p.tables e below (s₁.setTop (mkF m 0 #[.val (.int p1)] [])) _
    refine XS.iloadN X0.here hx rfl (hb hby d1_0) rfl ?_
    show Steps p.tables e below (s₁.setTop (mkF m 1 #[.val (.int p1)] [(.int p1)])) _
    refine XS.ifYes X0.here hx rfl (pc0 := 1) (pc' := 8) rfl (hb hby d1_1) rfl ((if0 _ _).trans (feq hc1).2) (by decide) (by decide) ?_
    show Steps p.tables e below (s₁.setTop (mkF m 8 #[.val (.int p1)] [])) _
    refine XS.iloadN X0.here hx rfl (hb hby d1_8) rfl ?_
    show Steps p.tables e below (s₁.setTop (mkF m 9 #[.val (.int p1)] [(.int p1)])) _
    refine XS.iconst X0.here hx rfl (hb hby d1_9) ?_
    show Steps p.tables e below (s₁.setTop (mkF m 10 #[.val (.int p1)] [(.int (1 : Int32)), (.int p1)])) _
    refine XS.icmpYes X0.here hx rfl (pc0 := 10) (pc' := 17) rfl (hb hby d1_10) rfl (feq hc10).2 (by decide) (by decide) ?_
    show Steps p.tables e below (s₁.setTop (mkF m 17 #[.val (.int p1)] [])) _
    refine XS.iloadN X0.here hx rfl (hb hby d1_17) rfl ?_
    show Steps p.tables e below (s₁.setTop (mkF m 18 #[.val (.int p1)] [(.int p1)])) _
    refine XS.iconst X0.here hx rfl (hb hby d1_18) ?_
    show Steps p.tables e below (s₁.setTop (mkF m 19 #[.val (.int p1)] [(.int (2 : Int32)), (.int p1)])) _
    refine XS.icmpYes X0.here hx rfl (pc0 := 19) (pc' := 26) rfl (hb hby d1_19) rfl (feq hc19).2 (by decide) (by decide) ?_
    show Steps p.tables e below (s₁.setTop (mkF m 26 #[.val (.int p1)] [])) _
    refine XS.iloadN X0.here hx rfl (hb hby d1_26) rfl ?_
    show Steps p.tables e below (s₁.setTop (mkF m 27 #[.val (.int p1)] [(.int p1)])) _
    refine XS.iconst X0.here hx rfl (hb hby d1_27) ?_
    show Steps p.tables e below (s₁.setTop (mkF m 28 #[.val (.int p1)] [(.int (3 : Int32)), (.int p1)])) _
    refine XS.icmpYes X0.here hx rfl (pc0 := 28) (pc' := 35) rfl (hb hby d1_28) rfl (feq hc28).2 (by decide) (by decide) ?_
    show Steps p.tables e below (s₁.setTop (mkF m 35 #[.val (.int p1)] [])) _
    refine XS.iloadN X0.here hx rfl (hb hby d1_35) rfl ?_
    show Steps p.tables e below (s₁.setTop (mkF m 36 #[.val (.int p1)] [(.int p1)])) _
    refine XS.iconst X0.here hx rfl (hb hby d1_36) ?_
    show Steps p.tables e below (s₁.setTop (mkF m 37 #[.val (.int p1)] [(.int (4 : Int32)), (.int p1)])) _
    refine XS.icmpYes X0.here hx rfl (pc0 := 37) (pc' := 44) rfl (hb hby d1_37) rfl (feq hc37).2 (by decide) (by decide) ?_
    show Steps p.tables e below (s₁.setTop (mkF m 44 #[.val (.int p1)] [])) _
    refine XS.iloadN X0.here hx rfl (hb hby d1_44) rfl ?_
    show Steps p.tables e below (s₁.setTop (mkF m 45 #[.val (.int p1)] [(.int p1)])) _
    refine XS.iconst X0.here hx rfl (hb hby d1_45) ?_
    show Steps p.tables e below (s₁.setTop (mkF m 46 #[.val (.int p1)] [(.int (5 : Int32)), (.int p1)])) _
    refine XS.icmpYes X0.here hx rfl (pc0 := 46) (pc' := 53) rfl (hb hby d1_46) rfl (feq hc46).2 (by decide) (by decide) ?_
    show Steps p.tables e below (s₁.setTop (mkF m 53 #[.val (.int p1)] [])) _
    refine XS.iloadN X0.here hx rfl (hb hby d1_53) rfl ?_
    show Steps p.tables e below (s₁.setTop (mkF m 54 #[.val (.int p1)] [(.int p1)])) _
    refine XS.bipush X0.here hx rfl (hb hby d1_54) ?_
    show Steps p.tables e below (s₁.setTop (mkF m 56 #[.val (.int p1)] [(.int (6 : Int32)), (.int p1)])) _
    refine XS.icmpYes X0.here hx rfl (pc0 := 56) (pc' := 63) rfl (hb hby d1_56) rfl (feq hc56).2 (by decide) (by decide) ?_
    show Steps p.tables e below (s₁.setTop (mkF m 63 #[.val (.int p1)] [])) _
    refine XS.iloadN X0.here hx rfl (hb hby d1_63) rfl ?_
    show Steps p.tables e below (s₁.setTop (mkF m 64 #[.val (.int p1)] [(.int p1)])) _
    refine XS.bipush X0.here hx rfl (hb hby d1_64) ?_
    show Steps p.tables e below (s₁.setTop (mkF m 66 #[.val (.int p1)] [(.int (7 : Int32)), (.int p1)])) _
    refine XS.icmpNo X0.here hx rfl (hb hby d1_66) rfl (teq hc66).2 ?_
    show Steps p.tables e below (s₁.setTop (mkF m 69 #[.val (.int p1)] [])) _
    refine st2 _ ?_
    show Steps p.tables e below (T2.setTop (mkF m 72 #[.val (.int p1)] [(.ref w_NAMESPACE)])) _
    jvm_step X2.here [X2.here.top, hx, (hb hby d1_72), X2.method', Bd.returns, Value.isRef, FieldType.isReference]
    first | (intro acts; rw [hr _ acts rfl rfl rfl]) | rw [hr _ _ rfl rfl rfl]
    exact Steps.refl _
  · show QP (.ref w_NAMESPACE) h0 n0 _ T2.heap _
    rw [e2]
    exact ⟨rfl, N0, rfl⟩
set_option maxRecDepth 65536 in
set_option maxHeartbeats 40000000 in
theorem rm1_ttttttttf (l : Launch) (Z : State) (a0 : Array Value) (hw : ∀ d ∈ tables_1, d.before a0 Z = true) (ws : List Jvm.Cond) (p1 : Int32) (w_PARENT : Addr) (h0 : Heap) (n0 : Nat) (Z0 : n0 ≤ h0.size) (S_PARENT : Sta Z h0 "com/example/sluice/sluice/xpath/Axis" "PARENT" "Lcom/example/sluice/sluice/xpath/Axis;" (.ref w_PARENT)) (hc1 : ¬ (p1 = (0 : Int32))) (hc10 : ¬ (p1 = (1 : Int32))) (hc19 : ¬ (p1 = (2 : Int32))) (hc28 : ¬ (p1 = (3 : Int32))) (hc37 : ¬ (p1 = (4 : Int32))) (hc46 : ¬ (p1 = (5 : Int32))) (hc56 : ¬ (p1 = (6 : Int32))) (hc66 : ¬ (p1 = (7 : Int32))) (hc76 : p1 = (8 : Int32)) :
    MetFree l (⟨"com/example/sluice/sluice/xpath/AxisIsReversePinLaw", "axisAt", "(I)Lcom/example/sluice/sluice/xpath/Axis;"⟩ : MethodName) (head1 (Jvm.Cond.code (⟨"com/example/sluice/sluice/xpath/AxisIsReversePinLaw", "axisAt", "(I)Lcom/example/sluice/sluice/xpath/Axis;"⟩ : MethodName) method_2_code 1 (some (.object "com/example/sluice/sluice/xpath/Axis")) :: ws) ({ frames := 0, cells := 0, slots := 0, locals := 0 } : Room)) (fun a U => a = #[(.int p1)] ∧ Z.Warmed39 U.vm ∧ U.heap = h0) (fun _ _ _ _ _ => True) (fun _ U o U' => ∃ v L, o = .returned v ∧ QP (.ref w_PARENT) h0 n0 v U'.heap L ∧ FrameEnd U o U' L ({ frames := 0, cells := 0, slots := 0, locals := 0 } : Room).cells ({ frames := 0, cells := 0, slots := 0, locals := 0 } : Room).slots) := by
  refine MetFree.of_bodySF (plainFor_of_name pn_1) hisR ?_
  intro p e s m args below meth c s₁ Bd hml0 hP hK
  obtain ⟨rfl, hZ, hh⟩ := hP
  have hx := Bd.exec
  have hby := Bd.bytes
  have hml : c.maxLocals = 1 := hml0
  have hown : s.vm.findClass "com/example/sluice/sluice/xpath/AxisIsReversePinLaw" = some m.cls := findClass_of_methodNamed Bd.named
  have hnm := (name_of_methodNamed Bd.named Bd.method).1
  have X0 : Stand p l e ({ frames := 0, cells := 0, slots := 0, locals := 0 } : Room) s m #[(.int p1)] below meth c s₁ [] 0 0 := Stand.of_body Bd
  have e0 : s₁.heap = h0 := by rw [← hh, Bd.state]; rfl
  have N0 := Fr.nil n0
  have pre0 : ∀ t, Steps p.tables e below (s₁.setTop (mkF m 0 #[.val (.int p1)] [])) t → Steps p.tables e below (s₁.setTop (entryFrame m #[(.int p1)] 1)) t := fun t k => castTop (ef_1 m p1) k
  obtain ⟨T2, X2, e2, st2⟩ := getS2 X0 hx hZ hown (host := "") (Or.inl (hw _ (List.mem_of_getElem? (i := 37) rfl))) Via.refl e0 S_PARENT (g := (mkF m 79 #[.val (.int p1)] [])) rfl (hb hby d1_79)
  obtain ⟨fs, hr, hrun, hended, hW, hsame⟩ := X2.leave (v := some (.ref w_PARENT)) (fun h => by rw [Bd.returns] at h; cases h)
  refine ⟨_, _, pre0 _ ?_, hrun, hended, _, _, rfl, ?_, ⟨_, rfl⟩, hW, hsame.mono (by decide) (by decide)⟩
  · show Steps p.tables e below (s₁.setTop (mkF m 0 #[.val (.int p1)] [])) _
    refine XS.iloadN X0.here hx rfl (hb hby d1_0) rfl ?_
    show Steps p.tables e below (s₁.setTop (mkF m 1 #[.val (.int p1)] [(.int p1)])) _
    refine XS.ifYes X0.here hx rfl (pc0 := 1) (pc' := 8) rfl (hb hby d1_1) rfl ((if0 _ _).trans (feq hc1).2) (by decide) (by decide) ?_
    show Steps p.tables e below (s₁.setTop (mkF m 8 #[.val (.int p1)] [])) _
    refine XS.iloadN X0.here hx rfl (hb hby d1_8) rfl ?_
    show Steps p.tables e below (s₁.setTop (mkF m 9 #[.val (.int p1)] [(.int p1)])) _
    refine XS.iconst X0.here hx rfl (hb hby d1_9) ?_
    show Steps p.tables e below (s₁.setTop (mkF m 10 #[.val (.int p1)] [(.int (1 : Int32)), (.int p1)])) _
    refine XS.icmpYes X0.here hx rfl (pc0 := 10) (pc' := 17) rfl (hb hby d1_10) rfl (feq hc10).2 (by decide) (by decide) ?_
    show Steps p.tables e below (s₁.setTop (mkF m 17 #[.val (.int p1)] [])) _
    refine XS.iloadN X0.here hx rfl (hb hby d1_17) rfl ?_
    show Steps p.tables e below (s₁.setTop (mkF m 18 #[.val (.int p1)] [(.int p1)])) _
    refine XS.iconst X0.here hx rfl (hb hby d1_18) ?_
    show Steps p.tables e below (s₁.setTop (mkF m 19 #[.val (.int p1)] [(.int (2 : Int32)), (.int p1)])) _
    refine XS.icmpYes X0.here hx rfl (pc0 := 19) (pc' := 26) rfl (hb hby d1_19) rfl (feq hc19).2 (by decide) (by decide) ?_
    show Steps p.tables e below (s₁.setTop (mkF m 26 #[.val (.int p1)] [])) _
    refine XS.iloadN X0.here hx rfl (hb hby d1_26) rfl ?_
    show Steps p.tables e below (s₁.setTop (mkF m 27 #[.val (.int p1)] [(.int p1)])) _
    refine XS.iconst X0.here hx rfl (hb hby d1_27) ?_
    show Steps p.tables e below (s₁.setTop (mkF m 28 #[.val (.int p1)] [(.int (3 : Int32)), (.int p1)])) _
    refine XS.icmpYes X0.here hx rfl (pc0 := 28) (pc' := 35) rfl (hb hby d1_28) rfl (feq hc28).2 (by decide) (by decide) ?_
    show Steps p.tables e below (s₁.setTop (mkF m 35 #[.val (.int p1)] [])) _
    refine XS.iloadN X0.here hx rfl (hb hby d1_35) rfl ?_
    show Steps p.tables e below (s₁.setTop (mkF m 36 #[.val (.int p1)] [(.int p1)])) _
    refine XS.iconst X0.here hx rfl (hb hby d1_36) ?_
    show Steps p.tables e below (s₁.setTop (mkF m 37 #[.val (.int p1)] [(.int (4 : Int32)), (.int p1)])) _
    refine XS.icmpYes X0.here hx rfl (pc0 := 37) (pc' := 44) rfl (hb hby d1_37) rfl (feq hc37).2 (by decide) (by decide) ?_
    show Steps p.tables e below (s₁.setTop (mkF m 44 #[.val (.int p1)] [])) _
    refine XS.iloadN X0.here hx rfl (hb hby d1_44) rfl ?_
    show Steps p.tables e below (s₁.setTop (mkF m 45 #[.val (.int p1)] [(.int p1)])) _
    refine XS.iconst X0.here hx rfl (hb hby d1_45) ?_
    show Steps p.tables e below (s₁.setTop (mkF m 46 #[.val (.int p1)] [(.int (5 : Int32)), (.int p1)])) _
    refine XS.icmpYes X0.here hx rfl (pc0 := 46) (pc' := 53) rfl (hb hby d1_46) rfl (feq hc46).2 (by decide) (by decide) ?_
    show Steps p.tables e below (s₁.setTop (mkF m 53 #[.val (.int p1)] [])) _
    refine XS.iloadN X0.here hx rfl (hb hby d1_53) rfl ?_
    show Steps p.tables e below (s₁.setTop (mkF m 54 #[.val (.int p1)] [(.int p1)])) _
    refine XS.bipush X0.here hx rfl (hb hby d1_54) ?_
    show Steps p.tables e below (s₁.setTop (mkF m 56 #[.val (.int p1)] [(.int (6 : Int32)), (.int p1)])) _
    refine XS.icmpYes X0.here hx rfl (pc0 := 56) (pc' := 63) rfl (hb hby d1_56) rfl (feq hc56).2 (by decide) (by decide) ?_
    show Steps p.tables e below (s₁.setTop (mkF m 63 #[.val (.int p1)] [])) _
    refine XS.iloadN X0.here hx rfl (hb hby d1_63) rfl ?_
    show Steps p.tables e below (s₁.setTop (mkF m 64 #[.val (.int p1)] [(.int p1)])) _
    refine XS.bipush X0.here hx rfl (hb hby d1_64) ?_
    show Steps p.tables e below (s₁.setTop (mkF m 66 #[.val (.int p1)] [(.int (7 : Int32)), (.int p1)])) _
    refine XS.icmpYes X0.here hx rfl (pc0 := 66) (pc' := 73) rfl (hb hby d1_66) rfl (feq hc66).2 (by decide) (by decide) ?_
    show Steps p.tables e below (s₁.setTop (mkF m 73 #[.val (.int p1)] [])) _
    refine XS.iloadN X0.here hx rfl (hb hby d1_73) rfl ?_
    show Steps p.tables e below (s₁.setTop (mkF m 74 #[.val (.int p1)] [(.int p1)])) _
    refine XS.bipush X0.here hx rfl (hb hby d1_74) ?_
    show Steps p.tables e below (s₁.setTop (mkF m 76 #[.val (.int p1)] [(.int (8 : Int32)), (.int p1)])) _
    refine XS.icmpNo X0.here hx rfl (hb hby d1_76) rfl (teq hc76).2 ?_
    show Steps p.tables e below (s₁.setTop (mkF m 79 #[.val (.int p1)] [])) _
    refine st2 _ ?_
    show Steps p.tables e below (T2.setTop (mkF m 82 #[.val (.int p1)] [(.ref w_PARENT)])) _
    jvm_step X2.here [X2.here.top, hx, (hb hby d1_82), X2.method', Bd.returns, Value.isRef, FieldType.isReference]
    first | (intro acts; rw [hr _ acts rfl rfl rfl]) | rw [hr _ _ rfl rfl rfl]
    exact Steps.refl _
  · show QP (.ref w_PARENT) h0 n0 _ T2.heap _
    rw [e2]
    exact ⟨rfl, N0, rfl⟩
set_option maxRecDepth 65536 in
set_option maxHeartbeats 40000000 in
theorem rm1_tttttttttf (l : Launch) (Z : State) (a0 : Array Value) (hw : ∀ d ∈ tables_1, d.before a0 Z = true) (ws : List Jvm.Cond) (p1 : Int32) (w_ANCESTOR : Addr) (h0 : Heap) (n0 : Nat) (Z0 : n0 ≤ h0.size) (S_ANCESTOR : Sta Z h0 "com/example/sluice/sluice/xpath/Axis" "ANCESTOR" "Lcom/example/sluice/sluice/xpath/Axis;" (.ref w_ANCESTOR)) (hc1 : ¬ (p1 = (0 : Int32))) (hc10 : ¬ (p1 = (1 : Int32))) (hc19 : ¬ (p1 = (2 : Int32))) (hc28 : ¬ (p1 = (3 : Int32))) (hc37 : ¬ (p1 = (4 : Int32))) (hc46 : ¬ (p1 = (5 : Int32))) (hc56 : ¬ (p1 = (6 : Int32))) (hc66 : ¬ (p1 = (7 : Int32))) (hc76 : ¬ (p1 = (8 : Int32))) (hc86 : p1 = (9 : Int32)) :
    MetFree l (⟨"com/example/sluice/sluice/xpath/AxisIsReversePinLaw", "axisAt", "(I)Lcom/example/sluice/sluice/xpath/Axis;"⟩ : MethodName) (head1 (Jvm.Cond.code (⟨"com/example/sluice/sluice/xpath/AxisIsReversePinLaw", "axisAt", "(I)Lcom/example/sluice/sluice/xpath/Axis;"⟩ : MethodName) method_2_code 1 (some (.object "com/example/sluice/sluice/xpath/Axis")) :: ws) ({ frames := 0, cells := 0, slots := 0, locals := 0 } : Room)) (fun a U => a = #[(.int p1)] ∧ Z.Warmed39 U.vm ∧ U.heap = h0) (fun _ _ _ _ _ => True) (fun _ U o U' => ∃ v L, o = .returned v ∧ QP (.ref w_ANCESTOR) h0 n0 v U'.heap L ∧ FrameEnd U o U' L ({ frames := 0, cells := 0, slots := 0, locals := 0 } : Room).cells ({ frames := 0, cells := 0, slots := 0, locals := 0 } : Room).slots) := by
  refine MetFree.of_bodySF (plainFor_of_name pn_1) hisR ?_
  intro p e s m args below meth c s₁ Bd hml0 hP hK
  obtain ⟨rfl, hZ, hh⟩ := hP
  have hx := Bd.exec
  have hby := Bd.bytes
  have hml : c.maxLocals = 1 := hml0
  have hown : s.vm.findClass "com/example/sluice/sluice/xpath/AxisIsReversePinLaw" = some m.cls := findClass_of_methodNamed Bd.named
  have hnm := (name_of_methodNamed Bd.named Bd.method).1
  have X0 : Stand p l e ({ frames := 0, cells := 0, slots := 0, locals := 0 } : Room) s m #[(.int p1)] below meth c s₁ [] 0 0 := Stand.of_body Bd
  have e0 : s₁.heap = h0 := by rw [← hh, Bd.state]; rfl
  have N0 := Fr.nil n0
  have pre0 : ∀ t, Steps p.tables e below (s₁.setTop (mkF m 0 #[.val (.int p1)] [])) t → Steps p.tables e below (s₁.setTop (entryFrame m #[(.int p1)] 1)) t := fun t k => castTop (ef_1 m p1) k
  obtain ⟨T2, X2, e2, st2⟩ := getS2 X0 hx hZ hown (host := "") (Or.inl (hw _ (List.mem_of_getElem? (i := 31) rfl))) Via.refl e0 S_ANCESTOR (g := (mkF m 89 #[.val (.int p1)] [])) rfl (hb hby d1_89)
  obtain ⟨fs, hr, hrun, hended, hW, hsame⟩ := X2.leave (v := some (.ref w_ANCESTOR)) (fun h => by rw [Bd.returns] at h; cases h)
  refine ⟨_, _, pre0 _ ?_, hrun, hended, _, _, rfl, ?_, ⟨_, rfl⟩, hW, hsame.mono (by decide) (by decide)⟩
  · show Steps p.tables e below (s₁.setTop (mkF m 0 #[.val (.int p1)] [])) _
    refine XS.iloadN X0.here hx rfl (hb hby d1_0) rfl ?_
    show Steps p.tables e below (s₁.setTop (mkF m 1 #[.val (.int p1)] [(.int p1)])) _
    refine XS.ifYes X0.here hx rfl (pc0 := 1) (pc' := 8) rfl (hb hby d1_1) rfl ((if0 _ _).trans (feq hc1).2) (by decide) (by decide) ?_
    show Steps p.tables e below (s₁.setTop (mkF m 8 #[.val (.int p1)] [])) _
    refine XS.iloadN X0.here hx rfl (hb hby d1_8) rfl ?_
    show Steps p.tables e below (s₁.setTop (mkF m 9 #[.val (.int p1)] [(.int p1)])) _
    refine XS.iconst X0.here hx rfl (hb hby d1_9) ?_
    show Steps p.tables e below (s₁.setTop (mkF m 10 #[.val (.int p1)] [(.int (1 : Int32)), (.int p1)])) _
    refine XS.icmpYes X0.here hx rfl (pc0 := 10) (pc' := 17) rfl (hb hby d1_10) rfl (feq hc10).2 (by decide) (by decide) ?_
    show Steps p.tables e below (s₁.setTop (mkF m 17 #[.val (.int p1)] [])) _
    refine XS.iloadN X0.here hx rfl (hb hby d1_17) rfl ?_
    show Steps p.tables e below (s₁.setTop (mkF m 18 #[.val (.int p1)] [(.int p1)])) _
    refine XS.iconst X0.here hx rfl (hb hby d1_18) ?_
    show Steps p.tables e below (s₁.setTop (mkF m 19 #[.val (.int p1)] [(.int (2 : Int32)), (.int p1)])) _
    refine XS.icmpYes X0.here hx rfl (pc0 := 19) (pc' := 26) rfl (hb hby d1_19) rfl (feq hc19).2 (by decide) (by decide) ?_
    show Steps p.tables e below (s₁.setTop (mkF m 26 #[.val (.int p1)] [])) _
    refine XS.iloadN X0.here hx rfl (hb hby d1_26) rfl ?_
    show Steps p.tables e below (s₁.setTop (mkF m 27 #[.val (.int p1)] [(.int p1)])) _
    refine XS.iconst X0.here hx rfl (hb hby d1_27) ?_
    show Steps p.tables e below (s₁.setTop (mkF m 28 #[.val (.int p1)] [(.int (3 : Int32)), (.int p1)])) _
    refine XS.icmpYes X0.here hx rfl (pc0 := 28) (pc' := 35) rfl (hb hby d1_28) rfl (feq hc28).2 (by decide) (by decide) ?_
    show Steps p.tables e below (s₁.setTop (mkF m 35 #[.val (.int p1)] [])) _
    refine XS.iloadN X0.here hx rfl (hb hby d1_35) rfl ?_
    show Steps p.tables e below (s₁.setTop (mkF m 36 #[.val (.int p1)] [(.int p1)])) _
    refine XS.iconst X0.here hx rfl (hb hby d1_36) ?_
    show Steps p.tables e below (s₁.setTop (mkF m 37 #[.val (.int p1)] [(.int (4 : Int32)), (.int p1)])) _
    refine XS.icmpYes X0.here hx rfl (pc0 := 37) (pc' := 44) rfl (hb hby d1_37) rfl (feq hc37).2 (by decide) (by decide) ?_
    show Steps p.tables e below (s₁.setTop (mkF m 44 #[.val (.int p1)] [])) _
    refine XS.iloadN X0.here hx rfl (hb hby d1_44) rfl ?_
    show Steps p.tables e below (s₁.setTop (mkF m 45 #[.val (.int p1)] [(.int p1)])) _
    refine XS.iconst X0.here hx rfl (hb hby d1_45) ?_
    show Steps p.tables e below (s₁.setTop (mkF m 46 #[.val (.int p1)] [(.int (5 : Int32)), (.int p1)])) _
    refine XS.icmpYes X0.here hx rfl (pc0 := 46) (pc' := 53) rfl (hb hby d1_46) rfl (feq hc46).2 (by decide) (by decide) ?_
    show Steps p.tables e below (s₁.setTop (mkF m 53 #[.val (.int p1)] [])) _
    refine XS.iloadN X0.here hx rfl (hb hby d1_53) rfl ?_
    show Steps p.tables e below (s₁.setTop (mkF m 54 #[.val (.int p1)] [(.int p1)])) _
    refine XS.bipush X0.here hx rfl (hb hby d1_54) ?_
    show Steps p.tables e below (s₁.setTop (mkF m 56 #[.val (.int p1)] [(.int (6 : Int32)), (.int p1)])) _
    refine XS.icmpYes X0.here hx rfl (pc0 := 56) (pc' := 63) rfl (hb hby d1_56) rfl (feq hc56).2 (by decide) (by decide) ?_
    show Steps p.tables e below (s₁.setTop (mkF m 63 #[.val (.int p1)] [])) _
    refine XS.iloadN X0.here hx rfl (hb hby d1_63) rfl ?_
    show Steps p.tables e below (s₁.setTop (mkF m 64 #[.val (.int p1)] [(.int p1)])) _
    refine XS.bipush X0.here hx rfl (hb hby d1_64) ?_
    show Steps p.tables e below (s₁.setTop (mkF m 66 #[.val (.int p1)] [(.int (7 : Int32)), (.int p1)])) _
    refine XS.icmpYes X0.here hx rfl (pc0 := 66) (pc' := 73) rfl (hb hby d1_66) rfl (feq hc66).2 (by decide) (by decide) ?_
    show Steps p.tables e below (s₁.setTop (mkF m 73 #[.val (.int p1)] [])) _
    refine XS.iloadN X0.here hx rfl (hb hby d1_73) rfl ?_
    show Steps p.tables e below (s₁.setTop (mkF m 74 #[.val (.int p1)] [(.int p1)])) _
    refine XS.bipush X0.here hx rfl (hb hby d1_74) ?_
    show Steps p.tables e below (s₁.setTop (mkF m 76 #[.val (.int p1)] [(.int (8 : Int32)), (.int p1)])) _
    refine XS.icmpYes X0.here hx rfl (pc0 := 76) (pc' := 83) rfl (hb hby d1_76) rfl (feq hc76).2 (by decide) (by decide) ?_
    show Steps p.tables e below (s₁.setTop (mkF m 83 #[.val (.int p1)] [])) _
    refine XS.iloadN X0.here hx rfl (hb hby d1_83) rfl ?_
    show Steps p.tables e below (s₁.setTop (mkF m 84 #[.val (.int p1)] [(.int p1)])) _
    refine XS.bipush X0.here hx rfl (hb hby d1_84) ?_
    show Steps p.tables e below (s₁.setTop (mkF m 86 #[.val (.int p1)] [(.int (9 : Int32)), (.int p1)])) _
    refine XS.icmpNo X0.here hx rfl (hb hby d1_86) rfl (teq hc86).2 ?_
    show Steps p.tables e below (s₁.setTop (mkF m 89 #[.val (.int p1)] [])) _
    refine st2 _ ?_
    show Steps p.tables e below (T2.setTop (mkF m 92 #[.val (.int p1)] [(.ref w_ANCESTOR)])) _
    jvm_step X2.here [X2.here.top, hx, (hb hby d1_92), X2.method', Bd.returns, Value.isRef, FieldType.isReference]
    first | (intro acts; rw [hr _ acts rfl rfl rfl]) | rw [hr _ _ rfl rfl rfl]
    exact Steps.refl _
  · show QP (.ref w_ANCESTOR) h0 n0 _ T2.heap _
    rw [e2]
    exact ⟨rfl, N0, rfl⟩
set_option maxRecDepth 65536 in
set_option maxHeartbeats 40000000 in
theorem rm1_ttttttttttf (l : Launch) (Z : State) (a0 : Array Value) (hw : ∀ d ∈ tables_1, d.before a0 Z = true) (ws : List Jvm.Cond) (p1 : Int32) (w_PRECEDING_SIBLING : Addr) (h0 : Heap) (n0 : Nat) (Z0 : n0 ≤ h0.size) (S_PRECEDING_SIBLING : Sta Z h0 "com/example/sluice/sluice/xpath/Axis" "PRECEDING_SIBLING" "Lcom/example/sluice/sluice/xpath/Axis;" (.ref w_PRECEDING_SIBLING)) (hc1 : ¬ (p1 = (0 : Int32))) (hc10 : ¬ (p1 = (1 : Int32))) (hc19 : ¬ (p1 = (2 : Int32))) (hc28 : ¬ (p1 = (3 : Int32))) (hc37 : ¬ (p1 = (4 : Int32))) (hc46 : ¬ (p1 = (5 : Int32))) (hc56 : ¬ (p1 = (6 : Int32))) (hc66 : ¬ (p1 = (7 : Int32))) (hc76 : ¬ (p1 = (8 : Int32))) (hc86 : ¬ (p1 = (9 : Int32))) (hc96 : p1 = (10 : Int32)) :
    MetFree l (⟨"com/example/sluice/sluice/xpath/AxisIsReversePinLaw", "axisAt", "(I)Lcom/example/sluice/sluice/xpath/Axis;"⟩ : MethodName) (head1 (Jvm.Cond.code (⟨"com/example/sluice/sluice/xpath/AxisIsReversePinLaw", "axisAt", "(I)Lcom/example/sluice/sluice/xpath/Axis;"⟩ : MethodName) method_2_code 1 (some (.object "com/example/sluice/sluice/xpath/Axis")) :: ws) ({ frames := 0, cells := 0, slots := 0, locals := 0 } : Room)) (fun a U => a = #[(.int p1)] ∧ Z.Warmed39 U.vm ∧ U.heap = h0) (fun _ _ _ _ _ => True) (fun _ U o U' => ∃ v L, o = .returned v ∧ QP (.ref w_PRECEDING_SIBLING) h0 n0 v U'.heap L ∧ FrameEnd U o U' L ({ frames := 0, cells := 0, slots := 0, locals := 0 } : Room).cells ({ frames := 0, cells := 0, slots := 0, locals := 0 } : Room).slots) := by
  refine MetFree.of_bodySF (plainFor_of_name pn_1) hisR ?_
  intro p e s m args below meth c s₁ Bd hml0 hP hK
  obtain ⟨rfl, hZ, hh⟩ := hP
  have hx := Bd.exec
  have hby := Bd.bytes
  have hml : c.maxLocals = 1 := hml0
  have hown : s.vm.findClass "com/example/sluice/sluice/xpath/AxisIsReversePinLaw" = some m.cls := findClass_of_methodNamed Bd.named
  have hnm := (name_of_methodNamed Bd.named Bd.method).1
  have X0 : Stand p l e ({ frames := 0, cells := 0, slots := 0, locals := 0 } : Room) s m #[(.int p1)] below meth c s₁ [] 0 0 := Stand.of_body Bd
  have e0 : s₁.heap = h0 := by rw [← hh, Bd.state]; rfl
  have N0 := Fr.nil n0
  have pre0 : ∀ t, Steps p.tables e below (s₁.setTop (mkF m 0 #[.val (.int p1)] [])) t → Steps p.tables e below (s₁.setTop (entryFrame m #[(.int p1)] 1)) t := fun t k => castTop (ef_1 m p1) k
  obtain ⟨T2, X2, e2, st2⟩ := getS2 X0 hx hZ hown (host := "") (Or.inl (hw _ (List.mem_of_getElem? (i := 38) rfl))) Via.refl e0 S_PRECEDING_SIBLING (g := (mkF m 99 #[.val (.int p1)] [])) rfl (hb hby d1_99)
  obtain ⟨fs, hr, hrun, hended, hW, hsame⟩ := X2.leave (v := some (.ref w_PRECEDING_SIBLING)) (fun h => by rw [Bd.returns] at h; cases h)
  refine ⟨_, _, pre0 _ ?_, hrun, hended, _, _, rfl, ?_, ⟨_, rfl⟩, hW, hsame.mono (by decide) (by decide)⟩
  · show Steps p.tables e below (s₁.setTop (mkF m 0 #[.val (.int p1)] [])) _
    refine XS.iloadN X0.here hx rfl (hb hby d1_0) rfl ?_
    show Steps p.tables e below (s₁.setTop (mkF m 1 #[.val (.int p1)] [(.int p1)])) _
    refine XS.ifYes X0.here hx rfl (pc0 := 1) (pc' := 8) rfl (hb hby d1_1) rfl ((if0 _ _).trans (feq hc1).2) (by decide) (by decide) ?_
    show Steps p.tables e below (s₁.setTop (mkF m 8 #[.val (.int p1)] [])) _
    refine XS.iloadN X0.here hx rfl (hb hby d1_8) rfl ?_
    show Steps p.tables e below (s₁.setTop (mkF m 9 #[.val (.int p1)] [(.int p1)])) _
    refine XS.iconst X0.here hx rfl (hb hby d1_9) ?_
    show Steps p.tables e below (s₁.setTop (mkF m 10 #[.val (.int p1)] [(.int (1 : Int32)), (.int p1)])) _
    refine XS.icmpYes X0.here hx rfl (pc0 := 10) (pc' := 17) rfl (hb hby d1_10) rfl (feq hc10).2 (by decide) (by decide) ?_
    show Steps p.tables e below (s₁.setTop (mkF m 17 #[.val (.int p1)] [])) _
    refine XS.iloadN X0.here hx rfl (hb hby d1_17) rfl ?_
    show Steps p.tables e below (s₁.setTop (mkF m 18 #[.val (.int p1)] [(.int p1)])) _
    refine XS.iconst X0.here hx rfl (hb hby d1_18) ?_
    show Steps p.tables e below (s₁.setTop (mkF m 19 #[.val (.int p1)] [(.int (2 : Int32)), (.int p1)])) _
    refine XS.icmpYes X0.here hx rfl (pc0 := 19) (pc' := 26) rfl (hb hby d1_19) rfl (feq hc19).2 (by decide) (by decide) ?_
    show Steps p.tables e below (s₁.setTop (mkF m 26 #[.val (.int p1)] [])) _
    refine XS.iloadN X0.here hx rfl (hb hby d1_26) rfl ?_
    show Steps p.tables e below (s₁.setTop (mkF m 27 #[.val (.int p1)] [(.int p1)])) _
    refine XS.iconst X0.here hx rfl (hb hby d1_27) ?_
    show Steps p.tables e below (s₁.setTop (mkF m 28 #[.val (.int p1)] [(.int (3 : Int32)), (.int p1)])) _
    refine XS.icmpYes X0.here hx rfl (pc0 := 28) (pc' := 35) rfl (hb hby d1_28) rfl (feq hc28).2 (by decide) (by decide) ?_
    show Steps p.tables e below (s₁.setTop (mkF m 35 #[.val (.int p1)] [])) _
    refine XS.iloadN X0.here hx rfl (hb hby d1_35) rfl ?_
    show Steps p.tables e below (s₁.setTop (mkF m 36 #[.val (.int p1)] [(.int p1)])) _
    refine XS.iconst X0.here hx rfl (hb hby d1_36) ?_
    show Steps p.tables e below (s₁.setTop (mkF m 37 #[.val (.int p1)] [(.int (4 : Int32)), (.int p1)])) _
    refine XS.icmpYes X0.here hx rfl (pc0 := 37) (pc' := 44) rfl (hb hby d1_37) rfl (feq hc37).2 (by decide) (by decide) ?_
    show Steps p.tables e below (s₁.setTop (mkF m 44 #[.val (.int p1)] [])) _
    refine XS.iloadN X0.here hx rfl (hb hby d1_44) rfl ?_
    show Steps p.tables e below (s₁.setTop (mkF m 45 #[.val (.int p1)] [(.int p1)])) _
    refine XS.iconst X0.here hx rfl (hb hby d1_45) ?_
    show Steps p.tables e below (s₁.setTop (mkF m 46 #[.val (.int p1)] [(.int (5 : Int32)), (.int p1)])) _
    refine XS.icmpYes X0.here hx rfl (pc0 := 46) (pc' := 53) rfl (hb hby d1_46) rfl (feq hc46).2 (by decide) (by decide) ?_
    show Steps p.tables e below (s₁.setTop (mkF m 53 #[.val (.int p1)] [])) _
    refine XS.iloadN X0.here hx rfl (hb hby d1_53) rfl ?_
    show Steps p.tables e below (s₁.setTop (mkF m 54 #[.val (.int p1)] [(.int p1)])) _
    refine XS.bipush X0.here hx rfl (hb hby d1_54) ?_
    show Steps p.tables e below (s₁.setTop (mkF m 56 #[.val (.int p1)] [(.int (6 : Int32)), (.int p1)])) _
    refine XS.icmpYes X0.here hx rfl (pc0 := 56) (pc' := 63) rfl (hb hby d1_56) rfl (feq hc56).2 (by decide) (by decide) ?_
    show Steps p.tables e below (s₁.setTop (mkF m 63 #[.val (.int p1)] [])) _
    refine XS.iloadN X0.here hx rfl (hb hby d1_63) rfl ?_
    show Steps p.tables e below (s₁.setTop (mkF m 64 #[.val (.int p1)] [(.int p1)])) _
    refine XS.bipush X0.here hx rfl (hb hby d1_64) ?_
    show Steps p.tables e below (s₁.setTop (mkF m 66 #[.val (.int p1)] [(.int (7 : Int32)), (.int p1)])) _
    refine XS.icmpYes X0.here hx rfl (pc0 := 66) (pc' := 73) rfl (hb hby d1_66) rfl (feq hc66).2 (by decide) (by decide) ?_
    show Steps p.tables e below (s₁.setTop (mkF m 73 #[.val (.int p1)] [])) _
    refine XS.iloadN X0.here hx rfl (hb hby d1_73) rfl ?_
    show Steps p.tables e below (s₁.setTop (mkF m 74 #[.val (.int p1)] [(.int p1)])) _
    refine XS.bipush X0.here hx rfl (hb hby d1_74) ?_
    show Steps p.tables e below (s₁.setTop (mkF m 76 #[.val (.int p1)] [(.int (8 : Int32)), (.int p1)])) _
    refine XS.icmpYes X0.here hx rfl (pc0 := 76) (pc' := 83) rfl (hb hby d1_76) rfl (feq hc76).2 (by decide) (by decide) ?_
    show Steps p.tables e below (s₁.setTop (mkF m 83 #[.val (.int p1)] [])) _
    refine XS.iloadN X0.here hx rfl (hb hby d1_83) rfl ?_
    show Steps p.tables e below (s₁.setTop (mkF m 84 #[.val (.int p1)] [(.int p1)])) _
    refine XS.bipush X0.here hx rfl (hb hby d1_84) ?_
    show Steps p.tables e below (s₁.setTop (mkF m 86 #[.val (.int p1)] [(.int (9 : Int32)), (.int p1)])) _
    refine XS.icmpYes X0.here hx rfl (pc0 := 86) (pc' := 93) rfl (hb hby d1_86) rfl (feq hc86).2 (by decide) (by decide) ?_
    show Steps p.tables e below (s₁.setTop (mkF m 93 #[.val (.int p1)] [])) _
    refine XS.iloadN X0.here hx rfl (hb hby d1_93) rfl ?_
    show Steps p.tables e below (s₁.setTop (mkF m 94 #[.val (.int p1)] [(.int p1)])) _
    refine XS.bipush X0.here hx rfl (hb hby d1_94) ?_
    show Steps p.tables e below (s₁.setTop (mkF m 96 #[.val (.int p1)] [(.int (10 : Int32)), (.int p1)])) _
    refine XS.icmpNo X0.here hx rfl (hb hby d1_96) rfl (teq hc96).2 ?_
    show Steps p.tables e below (s₁.setTop (mkF m 99 #[.val (.int p1)] [])) _
    refine st2 _ ?_
    show Steps p.tables e below (T2.setTop (mkF m 102 #[.val (.int p1)] [(.ref w_PRECEDING_SIBLING)])) _
    jvm_step X2.here [X2.here.top, hx, (hb hby d1_102), X2.method', Bd.returns, Value.isRef, FieldType.isReference]
    first | (intro acts; rw [hr _ acts rfl rfl rfl]) | rw [hr _ _ rfl rfl rfl]
    exact Steps.refl _
  · show QP (.ref w_PRECEDING_SIBLING) h0 n0 _ T2.heap _
    rw [e2]
    exact ⟨rfl, N0, rfl⟩
set_option maxRecDepth 65536 in
set_option maxHeartbeats 40000000 in
theorem rm1_tttttttttttf (l : Launch) (Z : State) (a0 : Array Value) (hw : ∀ d ∈ tables_1, d.before a0 Z = true) (ws : List Jvm.Cond) (p1 : Int32) (w_PRECEDING : Addr) (h0 : Heap) (n0 : Nat) (Z0 : n0 ≤ h0.size) (S_PRECEDING : Sta Z h0 "com/example/sluice/sluice/xpath/Axis" "PRECEDING" "Lcom/example/sluice/sluice/xpath/Axis;" (.ref w_PRECEDING)) (hc1 : ¬ (p1 = (0 : Int32))) (hc10 : ¬ (p1 = (1 : Int32))) (hc19 : ¬ (p1 = (2 : Int32))) (hc28 : ¬ (p1 = (3 : Int32))) (hc37 : ¬ (p1 = (4 : Int32))) (hc46 : ¬ (p1 = (5 : Int32))) (hc56 : ¬ (p1 = (6 : Int32))) (hc66 : ¬ (p1 = (7 : Int32))) (hc76 : ¬ (p1 = (8 : Int32))) (hc86 : ¬ (p1 = (9 : Int32))) (hc96 : ¬ (p1 = (10 : Int32))) (hc106 : p1 = (11 : Int32)) :
    MetFree l (⟨"com/example/sluice/sluice/xpath/AxisIsReversePinLaw", "axisAt", "(I)Lcom/example/sluice/sluice/xpath/Axis;"⟩ : MethodName) (head1 (Jvm.Cond.code (⟨"com/example/sluice/sluice/xpath/AxisIsReversePinLaw", "axisAt", "(I)Lcom/example/sluice/sluice/xpath/Axis;"⟩ : MethodName) method_2_code 1 (some (.object "com/example/sluice/sluice/xpath/Axis")) :: ws) ({ frames := 0, cells := 0, slots := 0, locals := 0 } : Room)) (fun a U => a = #[(.int p1)] ∧ Z.Warmed39 U.vm ∧ U.heap = h0) (fun _ _ _ _ _ => True) (fun _ U o U' => ∃ v L, o = .returned v ∧ QP (.ref w_PRECEDING) h0 n0 v U'.heap L ∧ FrameEnd U o U' L ({ frames := 0, cells := 0, slots := 0, locals := 0 } : Room).cells ({ frames := 0, cells := 0, slots := 0, locals := 0 } : Room).slots) := by
  refine MetFree.of_bodySF (plainFor_of_name pn_1) hisR ?_
  intro p e s m args below meth c s₁ Bd hml0 hP hK
  obtain ⟨rfl, hZ, hh⟩ := hP
  have hx := Bd.exec
  have hby := Bd.bytes
  have hml : c.maxLocals = 1 := hml0
  have hown : s.vm.findClass "com/example/sluice/sluice/xpath/AxisIsReversePinLaw" = some m.cls := findClass_of_methodNamed Bd.named
  have hnm := (name_of_methodNamed Bd.named Bd.method).1
  have X0 : Stand p l e ({ frames := 0, cells := 0, slots := 0, locals := 0 } : Room) s m #[(.int p1)] below meth c s₁ [] 0 0 := Stand.of_body Bd
  have e0 : s₁.heap = h0 := by rw [← hh, Bd.state]; rfl
  have N0 := Fr.nil n0
  have pre0 : ∀ t, Steps p.tables e below (s₁.setTop (mkF m 0 #[.val (.int p1)] [])) t → Steps p.tables e below (s₁.setTop (entryFrame m #[(.int p1)] 1)) t := fun t k => castTop (ef_1 m p1) k
  obtain ⟨T2, X2, e2, st2⟩ := getS2 X0 hx hZ hown (host := "") (Or.inl (hw _ (List.mem_of_getElem? (i := 34) rfl))) Via.refl e0 S_PRECEDING (g := (mkF m 109 #[.val (.int p1)] [])) rfl (hb hby d1_109)
  obtain ⟨fs, hr, hrun, hended, hW, hsame⟩ := X2.leave (v := some (.ref w_PRECEDING)) (fun h => by rw [Bd.returns] at h; cases h)
  refine ⟨_, _, pre0 _ ?_, hrun, hended, _, _, rfl, ?_, ⟨_, rfl⟩, hW, hsame.mono (by decide) (by decide)⟩
  · show Steps p.tables e below (s₁.setTop (mkF m 0 #[.val (.int p1)] [])) _
    refine XS.iloadN X0.here hx rfl (hb hby d1_0) rfl ?_
    show Steps p.tables e below (s₁.setTop (mkF m 1 #[.val (.int p1)] [(.int p1)])) _
    refine XS.ifYes X0.here hx rfl (pc0 := 1) (pc' := 8) rfl (hb hby d1_1) rfl ((if0 _ _).trans (feq hc1).2) (by decide) (by decide) ?_
    show Steps p.tables e below (s₁.setTop (mkF m 8 #[.val (.int p1)] [])) _
    refine XS.iloadN X0.here hx rfl (hb hby d1_8) rfl ?_
    show Steps p.tables e below (s₁.setTop (mkF m 9 #[.val (.int p1)] [(.int p1)])) _
    refine XS.iconst X0.here hx rfl (hb hby d1_9) ?_
    show Steps p.tables e below (s₁.setTop (mkF m 10 #[.val (.int p1)] [(.int (1 : Int32)), (.int p1)])) _
    refine XS.icmpYes X0.here hx rfl (pc0 := 10) (pc' := 17) rfl (hb hby d1_10) rfl (feq hc10).2 (by decide) (by decide) ?_
    show Steps p.tables e below (s₁.setTop (mkF m 17 #[.val (.int p1)] [])) _
    refine XS.iloadN X0.here hx rfl (hb hby d1_17) rfl ?_
    show Steps p.tables e below (s₁.setTop (mkF m 18 #[.val (.int p1)] [(.int p1)])) _
    refine XS.iconst X0.here hx rfl (hb hby d1_18) ?_
    show Steps p.tables e below (s₁.setTop (mkF m 19 #[.val (.int p1)] [(.int (2 : Int32)), (.int p1)])) _
    refine XS.icmpYes X0.here hx rfl (pc0 := 19) (pc' := 26) rfl (hb hby d1_19) rfl (feq hc19).2 (by decide) (by decide) ?_
    show Steps p.tables e below (s₁.setTop (mkF m 26 #[.val (.int p1)] [])) _
    refine XS.iloadN X0.here hx rfl (hb hby d1_26) rfl ?_
    show Steps p.tables e below (s₁.setTop (mkF m 27 #[.val (.int p1)] [(.int p1)])) _
    refine XS.iconst X0.here hx rfl (hb hby d1_27) ?_
    show Steps p.tables e below (s₁.setTop (mkF m 28 #[.val (.int p1)] [(.int (3 : Int32)), (.int p1)])) _
    refine XS.icmpYes X0.here hx rfl (pc0 := 28) (pc' := 35) rfl (hb hby d1_28) rfl (feq hc28).2 (by decide) (by decide) ?_
    show Steps p.tables e below (s₁.setTop (mkF m 35 #[.val (.int p1)] [])) _
    refine XS.iloadN X0.here hx rfl (hb hby d1_35) rfl ?_
    show Steps p.tables e below (s₁.setTop (mkF m 36 #[.val (.int p1)] [(.int p1)])) _
    refine XS.iconst X0.here hx rfl (hb hby d1_36) ?_
    show Steps p.tables e below (s₁.setTop (mkF m 37 #[.val (.int p1)] [(.int (4 : Int32)), (.int p1)])) _
    refine XS.icmpYes X0.here hx rfl (pc0 := 37) (pc' := 44) rfl (hb hby d1_37) rfl (feq hc37).2 (by decide) (by decide) ?_
    show Steps p.tables e below (s₁.setTop (mkF m 44 #[.val (.int p1)] [])) _
    refine XS.iloadN X0.here hx rfl (hb hby d1_44) rfl ?_
    show Steps p.tables e below (s₁.setTop (mkF m 45 #[.val (.int p1)] [(.int p1)])) _
    refine XS.iconst X0.here hx rfl (hb hby d1_45) ?_
    show Steps p.tables e below (s₁.setTop (mkF m 46 #[.val (.int p1)] [(.int (5 : Int32)), (.int p1)])) _
    refine XS.icmpYes X0.here hx rfl (pc0 := 46) (pc' := 53) rfl (hb hby d1_46) rfl (feq hc46).2 (by decide) (by decide) ?_
    show Steps p.tables e below (s₁.setTop (mkF m 53 #[.val (.int p1)] [])) _
    refine XS.iloadN X0.here hx rfl (hb hby d1_53) rfl ?_
    show Steps p.tables e below (s₁.setTop (mkF m 54 #[.val (.int p1)] [(.int p1)])) _
    refine XS.bipush X0.here hx rfl (hb hby d1_54) ?_
    show Steps p.tables e below (s₁.setTop (mkF m 56 #[.val (.int p1)] [(.int (6 : Int32)), (.int p1)])) _
    refine XS.icmpYes X0.here hx rfl (pc0 := 56) (pc' := 63) rfl (hb hby d1_56) rfl (feq hc56).2 (by decide) (by decide) ?_
    show Steps p.tables e below (s₁.setTop (mkF m 63 #[.val (.int p1)] [])) _
    refine XS.iloadN X0.here hx rfl (hb hby d1_63) rfl ?_
    show Steps p.tables e below (s₁.setTop (mkF m 64 #[.val (.int p1)] [(.int p1)])) _
    refine XS.bipush X0.here hx rfl (hb hby d1_64) ?_
    show Steps p.tables e below (s₁.setTop (mkF m 66 #[.val (.int p1)] [(.int (7 : Int32)), (.int p1)])) _
    refine XS.icmpYes X0.here hx rfl (pc0 := 66) (pc' := 73) rfl (hb hby d1_66) rfl (feq hc66).2 (by decide) (by decide) ?_
    show Steps p.tables e below (s₁.setTop (mkF m 73 #[.val (.int p1)] [])) _
    refine XS.iloadN X0.here hx rfl (hb hby d1_73) rfl ?_
    show Steps p.tables e below (s₁.setTop (mkF m 74 #[.val (.int p1)] [(.int p1)])) _
    refine XS.bipush X0.here hx rfl (hb hby d1_74) ?_
    show Steps p.tables e below (s₁.setTop (mkF m 76 #[.val (.int p1)] [(.int (8 : Int32)), (.int p1)])) _
    refine XS.icmpYes X0.here hx rfl (pc0 := 76) (pc' := 83) rfl (hb hby d1_76) rfl (feq hc76).2 (by decide) (by decide) ?_
    show Steps p.tables e below (s₁.setTop (mkF m 83 #[.val (.int p1)] [])) _
    refine XS.iloadN X0.here hx rfl (hb hby d1_83) rfl ?_
    show Steps p.tables e below (s₁.setTop (mkF m 84 #[.val (.int p1)] [(.int p1)])) _
    refine XS.bipush X0.here hx rfl (hb hby d1_84) ?_
    show Steps p.tables e below (s₁.setTop (mkF m 86 #[.val (.int p1)] [(.int (9 : Int32)), (.int p1)])) _
    refine XS.icmpYes X0.here hx rfl (pc0 := 86) (pc' := 93) rfl (hb hby d1_86) rfl (feq hc86).2 (by decide) (by decide) ?_
    show Steps p.tables e below (s₁.setTop (mkF m 93 #[.val (.int p1)] [])) _
    refine XS.iloadN X0.here hx rfl (hb hby d1_93) rfl ?_
    show Steps p.tables e below (s₁.setTop (mkF m 94 #[.val (.int p1)] [(.int p1)])) _
    refine XS.bipush X0.here hx rfl (hb hby d1_94) ?_
    show Steps p.tables e below (s₁.setTop (mkF m 96 #[.val (.int p1)] [(.int (10 : Int32)), (.int p1)])) _
    refine XS.icmpYes X0.here hx rfl (pc0 := 96) (pc' := 103) rfl (hb hby d1_96) rfl (feq hc96).2 (by decide) (by decide) ?_
    show Steps p.tables e below (s₁.setTop (mkF m 103 #[.val (.int p1)] [])) _
    refine XS.iloadN X0.here hx rfl (hb hby d1_103) rfl ?_
    show Steps p.tables e below (s₁.setTop (mkF m 104 #[.val (.int p1)] [(.int p1)])) _
    refine XS.bipush X0.here hx rfl (hb hby d1_104) ?_
    show Steps p.tables e below (s₁.setTop (mkF m 106 #[.val (.int p1)] [(.int (11 : Int32)), (.int p1)])) _
    refine XS.icmpNo X0.here hx rfl (hb hby d1_106) rfl (teq hc106).2 ?_
    show Steps p.tables e below (s₁.setTop (mkF m 109 #[.val (.int p1)] [])) _
    refine st2 _ ?_
    show Steps p.tables e below (T2.setTop (mkF m 112 #[.val (.int p1)] [(.ref w_PRECEDING)])) _
    jvm_step X2.here [X2.here.top, hx, (hb hby d1_112), X2.method', Bd.returns, Value.isRef, FieldType.isReference]
    first | (intro acts; rw [hr _ acts rfl rfl rfl]) | rw [hr _ _ rfl rfl rfl]
    exact Steps.refl _
  · show QP (.ref w_PRECEDING) h0 n0 _ T2.heap _
    rw [e2]
    exact ⟨rfl, N0, rfl⟩
set_option maxRecDepth 65536 in
set_option maxHeartbeats 40000000 in
theorem rm1_tttttttttttt (l : Launch) (Z : State) (a0 : Array Value) (hw : ∀ d ∈ tables_1, d.before a0 Z = true) (ws : List Jvm.Cond) (p1 : Int32) (w_ANCESTOR_OR_SELF : Addr) (h0 : Heap) (n0 : Nat) (Z0 : n0 ≤ h0.size) (S_ANCESTOR_OR_SELF : Sta Z h0 "com/example/sluice/sluice/xpath/Axis" "ANCESTOR_OR_SELF" "Lcom/example/sluice/sluice/xpath/Axis;" (.ref w_ANCESTOR_OR_SELF)) (hc1 : ¬ (p1 = (0 : Int32))) (hc10 : ¬ (p1 = (1 : Int32))) (hc19 : ¬ (p1 = (2 : Int32))) (hc28 : ¬ (p1 = (3 : Int32))) (hc37 : ¬ (p1 = (4 : Int32))) (hc46 : ¬ (p1 = (5 : Int32))) (hc56 : ¬ (p1 = (6 : Int32))) (hc66 : ¬ (p1 = (7 : Int32))) (hc76 : ¬ (p1 = (8 : Int32))) (hc86 : ¬ (p1 = (9 : Int32))) (hc96 : ¬ (p1 = (10 : Int32))) (hc106 : ¬ (p1 = (11 : Int32))) :
    MetFree l (⟨"com/example/sluice/sluice/xpath/AxisIsReversePinLaw", "axisAt", "(I)Lcom/example/sluice/sluice/xpath/Axis;"⟩ : MethodName) (head1 (Jvm.Cond.code (⟨"com/example/sluice/sluice/xpath/AxisIsReversePinLaw", "axisAt", "(I)Lcom/example/sluice/sluice/xpath/Axis;"⟩ : MethodName) method_2_code 1 (some (.object "com/example/sluice/sluice/xpath/Axis")) :: ws) ({ frames := 0, cells := 0, slots := 0, locals := 0 } : Room)) (fun a U => a = #[(.int p1)] ∧ Z.Warmed39 U.vm ∧ U.heap = h0) (fun _ _ _ _ _ => True) (fun _ U o U' => ∃ v L, o = .returned v ∧ QP (.ref w_ANCESTOR_OR_SELF) h0 n0 v U'.heap L ∧ FrameEnd U o U' L ({ frames := 0, cells := 0, slots := 0, locals := 0 } : Room).cells ({ frames := 0, cells := 0, slots := 0, locals := 0 } : Room).slots) := by
  refine MetFree.of_bodySF (plainFor_of_name pn_1) hisR ?_
  intro p e s m args below meth c s₁ Bd hml0 hP hK
  obtain ⟨rfl, hZ, hh⟩ := hP
  have hx := Bd.exec
  have hby := Bd.bytes
  have hml : c.maxLocals = 1 := hml0
  have hown : s.vm.findClass "com/example/sluice/sluice/xpath/AxisIsReversePinLaw" = some m.cls := findClass_of_methodNamed Bd.named
  have hnm := (name_of_methodNamed Bd.named Bd.method).1
  have X0 : Stand p l e ({ frames := 0, cells := 0, slots := 0, locals := 0 } : Room) s m #[(.int p1)] below meth c s₁ [] 0 0 := Stand.of_body Bd
  have e0 : s₁.heap = h0 := by rw [← hh, Bd.state]; rfl
  have N0 := Fr.nil n0
  have pre0 : ∀ t, Steps p.tables e below (s₁.setTop (mkF m 0 #[.val (.int p1)] [])) t → Steps p.tables e below (s₁.setTop (entryFrame m #[(.int p1)] 1)) t := fun t k => castTop (ef_1 m p1) k
  obtain ⟨T2, X2, e2, st2⟩ := getS2 X0 hx hZ hown (host := "") (Or.inl (hw _ (List.mem_of_getElem? (i := 39) rfl))) Via.refl e0 S_ANCESTOR_OR_SELF (g := (mkF m 113 #[.val (.int p1)] [])) rfl (hb hby d1_113)
  obtain ⟨fs, hr, hrun, hended, hW, hsame⟩ := X2.leave (v := some (.ref w_ANCESTOR_OR_SELF)) (fun h => by rw [Bd.returns] at h; cases h)
  refine ⟨_, _, pre0 _ ?_, hrun, hended, _, _, rfl, ?_, ⟨_, rfl⟩, hW, hsame.mono (by decide) (by decide)⟩
  · show Steps p.tables e below (s₁.setTop (mkF m 0 #[.val (.int p1)] [])) _
    refine XS.iloadN X0.here hx rfl (hb hby d1_0) rfl ?_
    show Steps p.tables e below (s₁.setTop (mkF m 1 #[.val (.int p1)] [(.int p1)])) _
    refine XS.ifYes X0.here hx rfl (pc0 := 1) (pc' := 8) rfl (hb hby d1_1) rfl ((if0 _ _).trans (feq hc1).2) (by decide) (by decide) ?_
    show Steps p.tables e below (s₁.setTop (mkF m 8 #[.val (.int p1)] [])) _
    refine XS.iloadN X0.here hx rfl (hb hby d1_8) rfl ?_
    show Steps p.tables e below (s₁.setTop (mkF m 9 #[.val (.int p1)] [(.int p1)])) _
    refine XS.iconst X0.here hx rfl (hb hby d1_9) ?_
    show Steps p.tables e below (s₁.setTop (mkF m 10 #[.val (.int p1)] [(.int (1 : Int32)), (.int p1)])) _
    refine XS.icmpYes X0.here hx rfl (pc0 := 10) (pc' := 17) rfl (hb hby d1_10) rfl (feq hc10).2 (by decide) (by decide) ?_
    show Steps p.tables e below (s₁.setTop (mkF m 17 #[.val (.int p1)] [])) _
    refine XS.iloadN X0.here hx rfl (hb hby d1_17) rfl ?_
    show Steps p.tables e below (s₁.setTop (mkF m 18 #[.val (.int p1)] [(.int p1)])) _
    refine XS.iconst X0.here hx rfl (hb hby d1_18) ?_
    show Steps p.tables e below (s₁.setTop (mkF m 19 #[.val (.int p1)] [(.int (2 : Int32)), (.int p1)])) _
    refine XS.icmpYes X0.here hx rfl (pc0 := 19) (pc' := 26) rfl (hb hby d1_19) rfl (feq hc19).2 (by decide) (by decide) ?_
    show Steps p.tables e below (s₁.setTop (mkF m 26 #[.val (.int p1)] [])) _
    refine XS.iloadN X0.here hx rfl (hb hby d1_26) rfl ?_
    show Steps p.tables e below (s₁.setTop (mkF m 27 #[.val (.int p1)] [(.int p1)])) _
    refine XS.iconst X0.here hx rfl (hb hby d1_27) ?_
    show Steps p.tables e below (s₁.setTop (mkF m 28 #[.val (.int p1)] [(.int (3 : Int32)), (.int p1)])) _
    refine XS.icmpYes X0.here hx rfl (pc0 := 28) (pc' := 35) rfl (hb hby d1_28) rfl (feq hc28).2 (by decide) (by decide) ?_
    show Steps p.tables e below (s₁.setTop (mkF m 35 #[.val (.int p1)] [])) _
    refine XS.iloadN X0.here hx rfl (hb hby d1_35) rfl ?_
    show Steps p.tables e below (s₁.setTop (mkF m 36 #[.val (.int p1)] [(.int p1)])) _
    refine XS.iconst X0.here hx rfl (hb hby d1_36) ?_
    show Steps p.tables e below (s₁.setTop (mkF m 37 #[.val (.int p1)] [(.int (4 : Int32)), (.int p1)])) _
    refine XS.icmpYes X0.here hx rfl (pc0 := 37) (pc' := 44) rfl (hb hby d1_37) rfl (feq hc37).2 (by decide) (by decide) ?_
    show Steps p.tables e below (s₁.setTop (mkF m 44 #[.val (.int p1)] [])) _
    refine XS.iloadN X0.here hx rfl (hb hby d1_44) rfl ?_
    show Steps p.tables e below (s₁.setTop (mkF m 45 #[.val (.int p1)] [(.int p1)])) _
    refine XS.iconst X0.here hx rfl (hb hby d1_45) ?_
    show Steps p.tables e below (s₁.setTop (mkF m 46 #[.val (.int p1)] [(.int (5 : Int32)), (.int p1)])) _
    refine XS.icmpYes X0.here hx rfl (pc0 := 46) (pc' := 53) rfl (hb hby d1_46) rfl (feq hc46).2 (by decide) (by decide) ?_
    show Steps p.tables e below (s₁.setTop (mkF m 53 #[.val (.int p1)] [])) _
    refine XS.iloadN X0.here hx rfl (hb hby d1_53) rfl ?_
    show Steps p.tables e below (s₁.setTop (mkF m 54 #[.val (.int p1)] [(.int p1)])) _
    refine XS.bipush X0.here hx rfl (hb hby d1_54) ?_
    show Steps p.tables e below (s₁.setTop (mkF m 56 #[.val (.int p1)] [(.int (6 : Int32)), (.int p1)])) _
    refine XS.icmpYes X0.here hx rfl (pc0 := 56) (pc' := 63) rfl (hb hby d1_56) rfl (feq hc56).2 (by decide) (by decide) ?_
    show Steps p.tables e below (s₁.setTop (mkF m 63 #[.val (.int p1)] [])) _
    refine XS.iloadN X0.here hx rfl (hb hby d1_63) rfl ?_
    show Steps p.tables e below (s₁.setTop (mkF m 64 #[.val (.int p1)] [(.int p1)])) _
    refine XS.bipush X0.here hx rfl (hb hby d1_64) ?_
    show Steps p.tables e below (s₁.setTop (mkF m 66 #[.val (.int p1)] [(.int (7 : Int32)), (.int p1)])) _
    refine XS.icmpYes X0.here hx rfl (pc0 := 66) (pc' := 73) rfl (hb hby d1_66) rfl (feq hc66).2 (by decide) (by decide) ?_
    show Steps p.tables e below (s₁.setTop (mkF m 73 #[.val (.int p1)] [])) _
    refine XS.iloadN X0.here hx rfl (hb hby d1_73) rfl ?_
    show Steps p.tables e below (s₁.setTop (mkF m 74 #[.val (.int p1)] [(.int p1)])) _
    refine XS.bipush X0.here hx rfl (hb hby d1_74) ?_
    show Steps p.tables e below (s₁.setTop (mkF m 76 #[.val (.int p1)] [(.int (8 : Int32)), (.int p1)])) _
    refine XS.icmpYes X0.here hx rfl (pc0 := 76) (pc' := 83) rfl (hb hby d1_76) rfl (feq hc76).2 (by decide) (by decide) ?_
    show Steps p.tables e below (s₁.setTop (mkF m 83 #[.val (.int p1)] [])) _
    refine XS.iloadN X0.here hx rfl (hb hby d1_83) rfl ?_
    show Steps p.tables e below (s₁.setTop (mkF m 84 #[.val (.int p1)] [(.int p1)])) _
    refine XS.bipush X0.here hx rfl (hb hby d1_84) ?_
    show Steps p.tables e below (s₁.setTop (mkF m 86 #[.val (.int p1)] [(.int (9 : Int32)), (.int p1)])) _
    refine XS.icmpYes X0.here hx rfl (pc0 := 86) (pc' := 93) rfl (hb hby d1_86) rfl (feq hc86).2 (by decide) (by decide) ?_
    show Steps p.tables e below (s₁.setTop (mkF m 93 #[.val (.int p1)] [])) _
    refine XS.iloadN X0.here hx rfl (hb hby d1_93) rfl ?_
    show Steps p.tables e below (s₁.setTop (mkF m 94 #[.val (.int p1)] [(.int p1)])) _
    refine XS.bipush X0.here hx rfl (hb hby d1_94) ?_
    show Steps p.tables e below (s₁.setTop (mkF m 96 #[.val (.int p1)] [(.int (10 : Int32)), (.int p1)])) _
    refine XS.icmpYes X0.here hx rfl (pc0 := 96) (pc' := 103) rfl (hb hby d1_96) rfl (feq hc96).2 (by decide) (by decide) ?_
    show Steps p.tables e below (s₁.setTop (mkF m 103 #[.val (.int p1)] [])) _
    refine XS.iloadN X0.here hx rfl (hb hby d1_103) rfl ?_
    show Steps p.tables e below (s₁.setTop (mkF m 104 #[.val (.int p1)] [(.int p1)])) _
    refine XS.bipush X0.here hx rfl (hb hby d1_104) ?_
    show Steps p.tables e below (s₁.setTop (mkF m 106 #[.val (.int p1)] [(.int (11 : Int32)), (.int p1)])) _
    refine XS.icmpYes X0.here hx rfl (pc0 := 106) (pc' := 113) rfl (hb hby d1_106) rfl (feq hc106).2 (by decide) (by decide) ?_
    show Steps p.tables e below (s₁.setTop (mkF m 113 #[.val (.int p1)] [])) _
    refine st2 _ ?_
    show Steps p.tables e below (T2.setTop (mkF m 116 #[.val (.int p1)] [(.ref w_ANCESTOR_OR_SELF)])) _
    jvm_step X2.here [X2.here.top, hx, (hb hby d1_116), X2.method', Bd.returns, Value.isRef, FieldType.isReference]
    first | (intro acts; rw [hr _ acts rfl rfl rfl]) | rw [hr _ _ rfl rfl rfl]
    exact Steps.refl _
  · show QP (.ref w_ANCESTOR_OR_SELF) h0 n0 _ T2.heap _
    rw [e2]
    exact ⟨rfl, N0, rfl⟩
def own_ax (p1 : Int32) (w_CHILD : Addr) (w_DESCENDANT : Addr) (w_ATTRIBUTE : Addr) (w_SELF : Addr) (w_DESCENDANT_OR_SELF : Addr) (w_FOLLOWING_SIBLING : Addr) (w_FOLLOWING : Addr) (w_NAMESPACE : Addr) (w_PARENT : Addr) (w_ANCESTOR : Addr) (w_PRECEDING_SIBLING : Addr) (w_PRECEDING : Addr) (w_ANCESTOR_OR_SELF : Addr) : Addr := (if p1 = (0 : Int32) then w_CHILD else (if p1 = (1 : Int32) then w_DESCENDANT else (if p1 = (2 : Int32) then w_ATTRIBUTE else (if p1 = (3 : Int32) then w_SELF else (if p1 = (4 : Int32) then w_DESCENDANT_OR_SELF else (if p1 = (5 : Int32) then w_FOLLOWING_SIBLING else (if p1 = (6 : Int32) then w_FOLLOWING else (if p1 = (7 : Int32) then w_NAMESPACE else (if p1 = (8 : Int32) then w_PARENT else (if p1 = (9 : Int32) then w_ANCESTOR else (if p1 = (10 : Int32) then w_PRECEDING_SIBLING else (if p1 = (11 : Int32) then w_PRECEDING else w_ANCESTOR_OR_SELF))))))))))))
theorem rm1 (l : Launch) (Z : State) (a0 : Array Value) (hw : ∀ d ∈ tables_1, d.before a0 Z = true) (ws : List Jvm.Cond) (p1 : Int32) (w_CHILD : Addr) (w_DESCENDANT : Addr) (w_ATTRIBUTE : Addr) (w_SELF : Addr) (w_DESCENDANT_OR_SELF : Addr) (w_FOLLOWING_SIBLING : Addr) (w_FOLLOWING : Addr) (w_NAMESPACE : Addr) (w_PARENT : Addr) (w_ANCESTOR : Addr) (w_PRECEDING_SIBLING : Addr) (w_PRECEDING : Addr) (w_ANCESTOR_OR_SELF : Addr) (h0 : Heap) (n0 : Nat) (Z0 : n0 ≤ h0.size) (S_CHILD : Sta Z h0 "com/example/sluice/sluice/xpath/Axis" "CHILD" "Lcom/example/sluice/sluice/xpath/Axis;" (.ref w_CHILD)) (S_DESCENDANT : Sta Z h0 "com/example/sluice/sluice/xpath/Axis" "DESCENDANT" "Lcom/example/sluice/sluice/xpath/Axis;" (.ref w_DESCENDANT)) (S_ATTRIBUTE : Sta Z h0 "com/example/sluice/sluice/xpath/Axis" "ATTRIBUTE" "Lcom/example/sluice/sluice/xpath/Axis;" (.ref w_ATTRIBUTE)) (S_SELF : Sta Z h0 "com/example/sluice/sluice/xpath/Axis" "SELF" "Lcom/example/sluice/sluice/xpath/Axis;" (.ref w_SELF)) (S_DESCENDANT_OR_SELF : Sta Z h0 "com/example/sluice/sluice/xpath/Axis" "DESCENDANT_OR_SELF" "Lcom/example/sluice/sluice/xpath/Axis;" (.ref w_DESCENDANT_OR_SELF)) (S_FOLLOWING_SIBLING : Sta Z h0 "com/example/sluice/sluice/xpath/Axis" "FOLLOWING_SIBLING" "Lcom/example/sluice/sluice/xpath/Axis;" (.ref w_FOLLOWING_SIBLING)) (S_FOLLOWING : Sta Z h0 "com/example/sluice/sluice/xpath/Axis" "FOLLOWING" "Lcom/example/sluice/sluice/xpath/Axis;" (.ref w_FOLLOWING)) (S_NAMESPACE : Sta Z h0 "com/example/sluice/sluice/xpath/Axis" "NAMESPACE" "Lcom/example/sluice/sluice/xpath/Axis;" (.ref w_NAMESPACE)) (S_PARENT : Sta Z h0 "com/example/sluice/sluice/xpath/Axis" "PARENT" "Lcom/example/sluice/sluice/xpath/Axis;" (.ref w_PARENT)) (S_ANCESTOR : Sta Z h0 "com/example/sluice/sluice/xpath/Axis" "ANCESTOR" "Lcom/example/sluice/sluice/xpath/Axis;" (.ref w_ANCESTOR)) (S_PRECEDING_SIBLING : Sta Z h0 "com/example/sluice/sluice/xpath/Axis" "PRECEDING_SIBLING" "Lcom/example/sluice/sluice/xpath/Axis;" (.ref w_PRECEDING_SIBLING)) (S_PRECEDING : Sta Z h0 "com/example/sluice/sluice/xpath/Axis" "PRECEDING" "Lcom/example/sluice/sluice/xpath/Axis;" (.ref w_PRECEDING)) (S_ANCESTOR_OR_SELF : Sta Z h0 "com/example/sluice/sluice/xpath/Axis" "ANCESTOR_OR_SELF" "Lcom/example/sluice/sluice/xpath/Axis;" (.ref w_ANCESTOR_OR_SELF)) :
    MetFree l (⟨"com/example/sluice/sluice/xpath/AxisIsReversePinLaw", "axisAt", "(I)Lcom/example/sluice/sluice/xpath/Axis;"⟩ : MethodName) (head1 (Jvm.Cond.code (⟨"com/example/sluice/sluice/xpath/AxisIsReversePinLaw", "axisAt", "(I)Lcom/example/sluice/sluice/xpath/Axis;"⟩ : MethodName) method_2_code 1 (some (.object "com/example/sluice/sluice/xpath/Axis")) :: ws) ({ frames := 0, cells := 0, slots := 0, locals := 0 } : Room)) (fun a U => a = #[(.int p1)] ∧ Z.Warmed39 U.vm ∧ U.heap = h0) (fun _ _ _ _ _ => True) (fun _ U o U' => ∃ v L, o = .returned v ∧ QP (.ref (own_ax p1 w_CHILD w_DESCENDANT w_ATTRIBUTE w_SELF w_DESCENDANT_OR_SELF w_FOLLOWING_SIBLING w_FOLLOWING w_NAMESPACE w_PARENT w_ANCESTOR w_PRECEDING_SIBLING w_PRECEDING w_ANCESTOR_OR_SELF)) h0 n0 v U'.heap L ∧ FrameEnd U o U' L ({ frames := 0, cells := 0, slots := 0, locals := 0 } : Room).cells ({ frames := 0, cells := 0, slots := 0, locals := 0 } : Room).slots) := by
  by_cases hc1 : p1 = (0 : Int32)
  · skip
    rw [show own_ax p1 w_CHILD w_DESCENDANT w_ATTRIBUTE w_SELF w_DESCENDANT_OR_SELF w_FOLLOWING_SIBLING w_FOLLOWING w_NAMESPACE w_PARENT w_ANCESTOR w_PRECEDING_SIBLING w_PRECEDING w_ANCESTOR_OR_SELF = w_CHILD from by unfold own_ax; rw [if_pos hc1]]
    exact rm1_f l Z a0 hw ws p1 w_CHILD h0 n0 Z0 S_CHILD hc1
  · skip
    by_cases hc10 : p1 = (1 : Int32)
    · skip
      rw [show own_ax p1 w_CHILD w_DESCENDANT w_ATTRIBUTE w_SELF w_DESCENDANT_OR_SELF w_FOLLOWING_SIBLING w_FOLLOWING w_NAMESPACE w_PARENT w_ANCESTOR w_PRECEDING_SIBLING w_PRECEDING w_ANCESTOR_OR_SELF = w_DESCENDANT from by unfold own_ax; rw [if_neg hc1, if_pos hc10]]
      exact rm1_tf l Z a0 hw ws p1 w_DESCENDANT h0 n0 Z0 S_DESCENDANT hc1 hc10
    · skip
      by_cases hc19 : p1 = (2 : Int32)
      · skip
        rw [show own_ax p1 w_CHILD w_DESCENDANT w_ATTRIBUTE w_SELF w_DESCENDANT_OR_SELF w_FOLLOWING_SIBLING w_FOLLOWING w_NAMESPACE w_PARENT w_ANCESTOR w_PRECEDING_SIBLING w_PRECEDING w_ANCESTOR_OR_SELF = w_ATTRIBUTE from by unfold own_ax; rw [if_neg hc1, if_neg hc10, if_pos hc19]]
        exact rm1_ttf l Z a0 hw ws p1 w_ATTRIBUTE h0 n0 Z0 S_ATTRIBUTE hc1 hc10 hc19
      · skip
        by_cases hc28 : p1 = (3 : Int32)
        · skip
          rw [show own_ax p1 w_CHILD w_DESCENDANT w_ATTRIBUTE w_SELF w_DESCENDANT_OR_SELF w_FOLLOWING_SIBLING w_FOLLOWING w_NAMESPACE w_PARENT w_ANCESTOR w_PRECEDING_SIBLING w_PRECEDING w_ANCESTOR_OR_SELF = w_SELF from by unfold own_ax; rw [if_neg hc1, if_neg hc10, if_neg hc19, if_pos hc28]]
          exact rm1_tttf l Z a0 hw ws p1 w_SELF h0 n0 Z0 S_SELF hc1 hc10 hc19 hc28
        · skip
          by_cases hc37 : p1 = (4 : Int32)
          · skip
            rw [show own_ax p1 w_CHILD w_DESCENDANT w_ATTRIBUTE w_SELF w_DESCENDANT_OR_SELF w_FOLLOWING_SIBLING w_FOLLOWING w_NAMESPACE w_PARENT w_ANCESTOR w_PRECEDING_SIBLING w_PRECEDING w_ANCESTOR_OR_SELF = w_DESCENDANT_OR_SELF from by unfold own_ax; rw [if_neg hc1, if_neg hc10, if_neg hc19, if_neg hc28, if_pos hc37]]
            exact rm1_ttttf l Z a0 hw ws p1 w_DESCENDANT_OR_SELF h0 n0 Z0 S_DESCENDANT_OR_SELF hc1 hc10 hc19 hc28 hc37
          · skip
            by_cases hc46 : p1 = (5 : Int32)
            · skip
              rw [show own_ax p1 w_CHILD w_DESCENDANT w_ATTRIBUTE w_SELF w_DESCENDANT_OR_SELF w_FOLLOWING_SIBLING w_FOLLOWING w_NAMESPACE w_PARENT w_ANCESTOR w_PRECEDING_SIBLING w_PRECEDING w_ANCESTOR_OR_SELF = w_FOLLOWING_SIBLING from by unfold own_ax; rw [if_neg hc1, if_neg hc10, if_neg hc19, if_neg hc28, if_neg hc37, if_pos hc46]]
              exact rm1_tttttf l Z a0 hw ws p1 w_FOLLOWING_SIBLING h0 n0 Z0 S_FOLLOWING_SIBLING hc1 hc10 hc19 hc28 hc37 hc46
            · skip
              by_cases hc56 : p1 = (6 : Int32)
              · skip
                rw [show own_ax p1 w_CHILD w_DESCENDANT w_ATTRIBUTE w_SELF w_DESCENDANT_OR_SELF w_FOLLOWING_SIBLING w_FOLLOWING w_NAMESPACE w_PARENT w_ANCESTOR w_PRECEDING_SIBLING w_PRECEDING w_ANCESTOR_OR_SELF = w_FOLLOWING from by unfold own_ax; rw [if_neg hc1, if_neg hc10, if_neg hc19, if_neg hc28, if_neg hc37, if_neg hc46, if_pos hc56]]
                exact rm1_ttttttf l Z a0 hw ws p1 w_FOLLOWING h0 n0 Z0 S_FOLLOWING hc1 hc10 hc19 hc28 hc37 hc46 hc56
              · skip
                by_cases hc66 : p1 = (7 : Int32)
                · skip
                  rw [show own_ax p1 w_CHILD w_DESCENDANT w_ATTRIBUTE w_SELF w_DESCENDANT_OR_SELF w_FOLLOWING_SIBLING w_FOLLOWING w_NAMESPACE w_PARENT w_ANCESTOR w_PRECEDING_SIBLING w_PRECEDING w_ANCESTOR_OR_SELF = w_NAMESPACE from by unfold own_ax; rw [if_neg hc1, if_neg hc10, if_neg hc19, if_neg hc28, if_neg hc37, if_neg hc46, if_neg hc56, if_pos hc66]]
                  exact rm1_tttttttf l Z a0 hw ws p1 w_NAMESPACE h0 n0 Z0 S_NAMESPACE hc1 hc10 hc19 hc28 hc37 hc46 hc56 hc66
                · skip
                  by_cases hc76 : p1 = (8 : Int32)
                  · skip
                    rw [show own_ax p1 w_CHILD w_DESCENDANT w_ATTRIBUTE w_SELF w_DESCENDANT_OR_SELF w_FOLLOWING_SIBLING w_FOLLOWING w_NAMESPACE w_PARENT w_ANCESTOR w_PRECEDING_SIBLING w_PRECEDING w_ANCESTOR_OR_SELF = w_PARENT from by unfold own_ax; rw [if_neg hc1, if_neg hc10, if_neg hc19, if_neg hc28, if_neg hc37, if_neg hc46, if_neg hc56, if_neg hc66, if_pos hc76]]
                    exact rm1_ttttttttf l Z a0 hw ws p1 w_PARENT h0 n0 Z0 S_PARENT hc1 hc10 hc19 hc28 hc37 hc46 hc56 hc66 hc76
                  · skip
                    by_cases hc86 : p1 = (9 : Int32)
                    · skip
                      rw [show own_ax p1 w_CHILD w_DESCENDANT w_ATTRIBUTE w_SELF w_DESCENDANT_OR_SELF w_FOLLOWING_SIBLING w_FOLLOWING w_NAMESPACE w_PARENT w_ANCESTOR w_PRECEDING_SIBLING w_PRECEDING w_ANCESTOR_OR_SELF = w_ANCESTOR from by unfold own_ax; rw [if_neg hc1, if_neg hc10, if_neg hc19, if_neg hc28, if_neg hc37, if_neg hc46, if_neg hc56, if_neg hc66, if_neg hc76, if_pos hc86]]
                      exact rm1_tttttttttf l Z a0 hw ws p1 w_ANCESTOR h0 n0 Z0 S_ANCESTOR hc1 hc10 hc19 hc28 hc37 hc46 hc56 hc66 hc76 hc86
                    · skip
                      by_cases hc96 : p1 = (10 : Int32)
                      · skip
                        rw [show own_ax p1 w_CHILD w_DESCENDANT w_ATTRIBUTE w_SELF w_DESCENDANT_OR_SELF w_FOLLOWING_SIBLING w_FOLLOWING w_NAMESPACE w_PARENT w_ANCESTOR w_PRECEDING_SIBLING w_PRECEDING w_ANCESTOR_OR_SELF = w_PRECEDING_SIBLING from by unfold own_ax; rw [if_neg hc1, if_neg hc10, if_neg hc19, if_neg hc28, if_neg hc37, if_neg hc46, if_neg hc56, if_neg hc66, if_neg hc76, if_neg hc86, if_pos hc96]]
                        exact rm1_ttttttttttf l Z a0 hw ws p1 w_PRECEDING_SIBLING h0 n0 Z0 S_PRECEDING_SIBLING hc1 hc10 hc19 hc28 hc37 hc46 hc56 hc66 hc76 hc86 hc96
                      · skip
                        by_cases hc106 : p1 = (11 : Int32)
                        · skip
                          rw [show own_ax p1 w_CHILD w_DESCENDANT w_ATTRIBUTE w_SELF w_DESCENDANT_OR_SELF w_FOLLOWING_SIBLING w_FOLLOWING w_NAMESPACE w_PARENT w_ANCESTOR w_PRECEDING_SIBLING w_PRECEDING w_ANCESTOR_OR_SELF = w_PRECEDING from by unfold own_ax; rw [if_neg hc1, if_neg hc10, if_neg hc19, if_neg hc28, if_neg hc37, if_neg hc46, if_neg hc56, if_neg hc66, if_neg hc76, if_neg hc86, if_neg hc96, if_pos hc106]]
                          exact rm1_tttttttttttf l Z a0 hw ws p1 w_PRECEDING h0 n0 Z0 S_PRECEDING hc1 hc10 hc19 hc28 hc37 hc46 hc56 hc66 hc76 hc86 hc96 hc106
                        · skip
                          rw [show own_ax p1 w_CHILD w_DESCENDANT w_ATTRIBUTE w_SELF w_DESCENDANT_OR_SELF w_FOLLOWING_SIBLING w_FOLLOWING w_NAMESPACE w_PARENT w_ANCESTOR w_PRECEDING_SIBLING w_PRECEDING w_ANCESTOR_OR_SELF = w_ANCESTOR_OR_SELF from by unfold own_ax; rw [if_neg hc1, if_neg hc10, if_neg hc19, if_neg hc28, if_neg hc37, if_neg hc46, if_neg hc56, if_neg hc66, if_neg hc76, if_neg hc86, if_neg hc96, if_neg hc106]]
                          exact rm1_tttttttttttt l Z a0 hw ws p1 w_ANCESTOR_OR_SELF h0 n0 Z0 S_ANCESTOR_OR_SELF hc1 hc10 hc19 hc28 hc37 hc46 hc56 hc66 hc76 hc86 hc96 hc106
theorem d2_0 : decode prog_61_method_5_code 0 = .ok (.aload_n 0, 1) := by decide +kernel
theorem d2_1 : decode prog_61_method_5_code 1 = .ok (.getstatic 28, 3) := by decide +kernel
theorem d2_4 : decode prog_61_method_5_code 4 = .ok (.if_acmp .eq 31, 3) := by decide +kernel
theorem d2_35 : decode prog_61_method_5_code 35 = .ok (.iconst 1, 1) := by decide +kernel
theorem d2_36 : decode prog_61_method_5_code 36 = .ok (.goto 4, 3) := by decide +kernel
theorem d2_40 : decode prog_61_method_5_code 40 = .ok (.ireturn, 1) := by decide +kernel
theorem pn_2 : plainName "com/example/sluice/sluice/xpath/Axis" = true := by first | (simp [plainName, overriddenIn]; done) | decide +kernel
theorem ef_2 (m : MethodId) (x0 : Addr) : entryFrame m #[(.ref x0)] 1 = mkF m 0 #[.val (.ref x0)] [] := by first | (simp [entryFrame, mkF, argsToLocals, Value.category]; done) | rfl
theorem d2_7 : decode prog_61_method_5_code 7 = .ok (.aload_n 0, 1) := by decide +kernel
theorem d2_8 : decode prog_61_method_5_code 8 = .ok (.getstatic 31, 3) := by decide +kernel
theorem d2_11 : decode prog_61_method_5_code 11 = .ok (.if_acmp .eq 24, 3) := by decide +kernel
theorem d2_14 : decode prog_61_method_5_code 14 = .ok (.aload_n 0, 1) := by decide +kernel
theorem d2_15 : decode prog_61_method_5_code 15 = .ok (.getstatic 34, 3) := by decide +kernel
theorem d2_18 : decode prog_61_method_5_code 18 = .ok (.if_acmp .eq 17, 3) := by decide +kernel
theorem d2_21 : decode prog_61_method_5_code 21 = .ok (.aload_n 0, 1) := by decide +kernel
theorem d2_22 : decode prog_61_method_5_code 22 = .ok (.getstatic 37, 3) := by decide +kernel
theorem d2_25 : decode prog_61_method_5_code 25 = .ok (.if_acmp .eq 10, 3) := by decide +kernel
theorem d2_28 : decode prog_61_method_5_code 28 = .ok (.aload_n 0, 1) := by decide +kernel
theorem d2_29 : decode prog_61_method_5_code 29 = .ok (.getstatic 40, 3) := by decide +kernel
theorem d2_32 : decode prog_61_method_5_code 32 = .ok (.if_acmp .ne 7, 3) := by decide +kernel
theorem d2_39 : decode prog_61_method_5_code 39 = .ok (.iconst 0, 1) := by decide +kernel
set_option maxRecDepth 65536 in
set_option maxHeartbeats 40000000 in
theorem rm2_t (l : Launch) (Z : State) (a0 : Array Value) (hw : ∀ d ∈ tables_1, d.before a0 Z = true) (ws : List Jvm.Cond) (a1 : Addr) (w_PARENT : Addr) (h0 : Heap) (n0 : Nat) (Z0 : n0 ≤ h0.size) (S_PARENT : Sta Z h0 "com/example/sluice/sluice/xpath/Axis" "PARENT" "Lcom/example/sluice/sluice/xpath/Axis;" (.ref w_PARENT)) (ha4 : a1 = w_PARENT) :
    MetFree l (⟨"com/example/sluice/sluice/xpath/Axis", "isReverse", "()Z"⟩ : MethodName) (head1 (Jvm.Cond.code (⟨"com/example/sluice/sluice/xpath/Axis", "isReverse", "()Z"⟩ : MethodName) prog_61_method_5_code 1 (some .boolean) :: ws) ({ frames := 0, cells := 0, slots := 0, locals := 0 } : Room)) (fun a U => a = #[(.ref a1)] ∧ Z.Warmed39 U.vm ∧ U.heap = h0) (fun _ _ _ _ _ => True) (fun _ U o U' => ∃ v L, o = .returned v ∧ QP (.int (1 : Int32)) h0 n0 v U'.heap L ∧ FrameEnd U o U' L ({ frames := 0, cells := 0, slots := 0, locals := 0 } : Room).cells ({ frames := 0, cells := 0, slots := 0, locals := 0 } : Room).slots) := by
  refine MetFree.of_bodySF (plainFor_of_name pn_2) hisR ?_
  intro p e s m args below meth c s₁ Bd hml0 hP hK
  obtain ⟨rfl, hZ, hh⟩ := hP
  have hx := Bd.exec
  have hby := Bd.bytes
  have hml : c.maxLocals = 1 := hml0
  have hown : s.vm.findClass "com/example/sluice/sluice/xpath/Axis" = some m.cls := findClass_of_methodNamed Bd.named
  have hnm := (name_of_methodNamed Bd.named Bd.method).1
  have X0 : Stand p l e ({ frames := 0, cells := 0, slots := 0, locals := 0 } : Room) s m #[(.ref a1)] below meth c s₁ [] 0 0 := Stand.of_body Bd
  have e0 : s₁.heap = h0 := by rw [← hh, Bd.state]; rfl
  have N0 := Fr.nil n0
  have pre0 : ∀ t, Steps p.tables e below (s₁.setTop (mkF m 0 #[.val (.ref a1)] [])) t → Steps p.tables e below (s₁.setTop (entryFrame m #[(.ref a1)] 1)) t := fun t k => castTop (ef_2 m a1) k
  obtain ⟨T2, X2, e2, st2⟩ := getS2 X0 hx hZ hown (host := "") (Or.inl (hw _ (List.mem_of_getElem? (i := 13) rfl))) Via.refl e0 S_PARENT (g := (mkF m 1 #[.val (.ref a1)] [(.ref a1)])) rfl (hb hby d2_1)
  obtain ⟨fs, hr, hrun, hended, hW, hsame⟩ := X2.leave (v := some (.int (1 : Int32))) (fun h => by rw [Bd.returns] at h; cases h)
  refine ⟨_, _, pre0 _ ?_, hrun, hended, _, _, rfl, ?_, ⟨_, rfl⟩, hW, hsame.mono (by decide) (by decide)⟩
  · show Steps p.tables e below (s₁.setTop (mkF m 0 #[.val (.ref a1)] [])) _
    refine XS.aloadN X0.here hx rfl (hb hby d2_0) rfl rfl ?_
    show Steps p.tables e below (s₁.setTop (mkF m 1 #[.val (.ref a1)] [(.ref a1)])) _
    refine st2 _ ?_
    show Steps p.tables e below (T2.setTop (mkF m 4 #[.val (.ref a1)] [(.ref w_PARENT), (.ref a1)])) _
    refine Jvm.RoadKit.acmp (g := (mkF m 4 #[.val (.ref a1)] [(.ref w_PARENT), (.ref a1)])) X2 hx rfl rfl rfl (pc0 := 4) (pc' := 35) (same := true) rfl (hb hby d2_4) rfl (decide_eq_true (congrArg Value.ref ha4)) (by decide) (by decide) ?_
    show Steps p.tables e below (T2.setTop (mkF m 35 #[.val (.ref a1)] [])) _
    refine XS.iconst X2.here hx rfl (hb hby d2_35) ?_
    show Steps p.tables e below (T2.setTop (mkF m 36 #[.val (.ref a1)] [(.int (1 : Int32))])) _
    refine XS.goto X2.here hx rfl (pc0 := 36) (pc' := 40) rfl (hb hby d2_36) (by decide) (by decide) ?_
    show Steps p.tables e below (T2.setTop (mkF m 40 #[.val (.ref a1)] [(.int (1 : Int32))])) _
    exact retN X2 hx (t := .boolean) Bd.returns (by simp) (hb hby d2_40) hr
  · show QP (.int (1 : Int32)) h0 n0 _ T2.heap _
    rw [e2]
    exact ⟨rfl, N0, rfl⟩
set_option maxRecDepth 65536 in
set_option maxHeartbeats 40000000 in
theorem rm2_ft (l : Launch) (Z : State) (a0 : Array Value) (hw : ∀ d ∈ tables_1, d.before a0 Z = true) (ws : List Jvm.Cond) (a1 : Addr) (w_PARENT : Addr) (w_ANCESTOR : Addr) (h0 : Heap) (n0 : Nat) (Z0 : n0 ≤ h0.size) (S_PARENT : Sta Z h0 "com/example/sluice/sluice/xpath/Axis" "PARENT" "Lcom/example/sluice/sluice/xpath/Axis;" (.ref w_PARENT)) (S_ANCESTOR : Sta Z h0 "com/example/sluice/sluice/xpath/Axis" "ANCESTOR" "Lcom/example/sluice/sluice/xpath/Axis;" (.ref w_ANCESTOR)) (ha4 : ¬ (a1 = w_PARENT)) (ha11 : a1 = w_ANCESTOR) :
    MetFree l (⟨"com/example/sluice/sluice/xpath/Axis", "isReverse", "()Z"⟩ : MethodName) (head1 (Jvm.Cond.code (⟨"com/example/sluice/sluice/xpath/Axis", "isReverse", "()Z"⟩ : MethodName) prog_61_method_5_code 1 (some .boolean) :: ws) ({ frames := 0, cells := 0, slots := 0, locals := 0 } : Room)) (fun a U => a = #[(.ref a1)] ∧ Z.Warmed39 U.vm ∧ U.heap = h0) (fun _ _ _ _ _ => True) (fun _ U o U' => ∃ v L, o = .returned v ∧ QP (.int (1 : Int32)) h0 n0 v U'.heap L ∧ FrameEnd U o U' L ({ frames := 0, cells := 0, slots := 0, locals := 0 } : Room).cells ({ frames := 0, cells := 0, slots := 0, locals := 0 } : Room).slots) := by
  refine MetFree.of_bodySF (plainFor_of_name pn_2) hisR ?_
  intro p e s m args below meth c s₁ Bd hml0 hP hK
  obtain ⟨rfl, hZ, hh⟩ := hP
  have hx := Bd.exec
  have hby := Bd.bytes
  have hml : c.maxLocals = 1 := hml0
  have hown : s.vm.findClass "com/example/sluice/sluice/xpath/Axis" = some m.cls := findClass_of_methodNamed Bd.named
  have hnm := (name_of_methodNamed Bd.named Bd.method).1
  have X0 : Stand p l e ({ frames := 0, cells := 0, slots := 0, locals := 0 } : Room) s m #[(.ref a1)] below meth c s₁ [] 0 0 := Stand.of_body Bd
  have e0 : s₁.heap = h0 := by rw [← hh, Bd.state]; rfl
  have N0 := Fr.nil n0
  have pre0 : ∀ t, Steps p.tables e below (s₁.setTop (mkF m 0 #[.val (.ref a1)] [])) t → Steps p.tables e below (s₁.setTop (entryFrame m #[(.ref a1)] 1)) t := fun t k => castTop (ef_2 m a1) k
  obtain ⟨T2, X2, e2, st2⟩ := getS2 X0 hx hZ hown (host := "") (Or.inl (hw _ (List.mem_of_getElem? (i := 13) rfl))) Via.refl e0 S_PARENT (g := (mkF m 1 #[.val (.ref a1)] [(.ref a1)])) rfl (hb hby d2_1)
  obtain ⟨T3, X3, e3, st3⟩ := getS2 X2 hx hZ hown (host := "") (Or.inl (hw _ (List.mem_of_getElem? (i := 15) rfl))) Via.refl e2 S_ANCESTOR (g := (mkF m 8 #[.val (.ref a1)] [(.ref a1)])) rfl (hb hby d2_8)
  obtain ⟨fs, hr, hrun, hended, hW, hsame⟩ := X3.leave (v := some (.int (1 : Int32))) (fun h => by rw [Bd.returns] at h; cases h)
  refine ⟨_, _, pre0 _ ?_, hrun, hended, _, _, rfl, ?_, ⟨_, rfl⟩, hW, hsame.mono (by decide) (by decide)⟩
  · show Steps p.tables e below (s₁.setTop (mkF m 0 #[.val (.ref a1)] [])) _
    refine XS.aloadN X0.here hx rfl (hb hby d2_0) rfl rfl ?_
    show Steps p.tables e below (s₁.setTop (mkF m 1 #[.val (.ref a1)] [(.ref a1)])) _
    refine st2 _ ?_
    show Steps p.tables e below (T2.setTop (mkF m 4 #[.val (.ref a1)] [(.ref w_PARENT), (.ref a1)])) _
    refine Jvm.RoadKit.acmp (g := (mkF m 4 #[.val (.ref a1)] [(.ref w_PARENT), (.ref a1)])) X2 hx rfl rfl rfl (pc0 := 4) (pc' := 7) (same := false) rfl (hb hby d2_4) rfl (decide_eq_false fun q => ha4 (Value.ref.inj q)) (by decide) (by decide) ?_
    show Steps p.tables e below (T2.setTop (mkF m 7 #[.val (.ref a1)] [])) _
    refine XS.aloadN X2.here hx rfl (hb hby d2_7) rfl rfl ?_
    show Steps p.tables e below (T2.setTop (mkF m 8 #[.val (.ref a1)] [(.ref a1)])) _
    refine st3 _ ?_
    show Steps p.tables e below (T3.setTop (mkF m 11 #[.val (.ref a1)] [(.ref w_ANCESTOR), (.ref a1)])) _
    refine Jvm.RoadKit.acmp (g := (mkF m 11 #[.val (.ref a1)] [(.ref w_ANCESTOR), (.ref a1)])) X3 hx rfl rfl rfl (pc0 := 11) (pc' := 35) (same := true) rfl (hb hby d2_11) rfl (decide_eq_true (congrArg Value.ref ha11)) (by decide) (by decide) ?_
    show Steps p.tables e below (T3.setTop (mkF m 35 #[.val (.ref a1)] [])) _
    refine XS.iconst X3.here hx rfl (hb hby d2_35) ?_
    show Steps p.tables e below (T3.setTop (mkF m 36 #[.val (.ref a1)] [(.int (1 : Int32))])) _
    refine XS.goto X3.here hx rfl (pc0 := 36) (pc' := 40) rfl (hb hby d2_36) (by decide) (by decide) ?_
    show Steps p.tables e below (T3.setTop (mkF m 40 #[.val (.ref a1)] [(.int (1 : Int32))])) _
    exact retN X3 hx (t := .boolean) Bd.returns (by simp) (hb hby d2_40) hr
  · show QP (.int (1 : Int32)) h0 n0 _ T3.heap _
    rw [e3]
    exact ⟨rfl, N0, rfl⟩
set_option maxRecDepth 65536 in
set_option maxHeartbeats 40000000 in
theorem rm2_fft (l : Launch) (Z : State) (a0 : Array Value) (hw : ∀ d ∈ tables_1, d.before a0 Z = true) (ws : List Jvm.Cond) (a1 : Addr) (w_PARENT : Addr) (w_ANCESTOR : Addr) (w_PRECEDING_SIBLING : Addr) (h0 : Heap) (n0 : Nat) (Z0 : n0 ≤ h0.size) (S_PARENT : Sta Z h0 "com/example/sluice/sluice/xpath/Axis" "PARENT" "Lcom/example/sluice/sluice/xpath/Axis;" (.ref w_PARENT)) (S_ANCESTOR : Sta Z h0 "com/example/sluice/sluice/xpath/Axis" "ANCESTOR" "Lcom/example/sluice/sluice/xpath/Axis;" (.ref w_ANCESTOR)) (S_PRECEDING_SIBLING : Sta Z h0 "com/example/sluice/sluice/xpath/Axis" "PRECEDING_SIBLING" "Lcom/example/sluice/sluice/xpath/Axis;" (.ref w_PRECEDING_SIBLING)) (ha4 : ¬ (a1 = w_PARENT)) (ha11 : ¬ (a1 = w_ANCESTOR)) (ha18 : a1 = w_PRECEDING_SIBLING) :
    MetFree l (⟨"com/example/sluice/sluice/xpath/Axis", "isReverse", "()Z"⟩ : MethodName) (head1 (Jvm.Cond.code (⟨"com/example/sluice/sluice/xpath/Axis", "isReverse", "()Z"⟩ : MethodName) prog_61_method_5_code 1 (some .boolean) :: ws) ({ frames := 0, cells := 0, slots := 0, locals := 0 } : Room)) (fun a U => a = #[(.ref a1)] ∧ Z.Warmed39 U.vm ∧ U.heap = h0) (fun _ _ _ _ _ => True) (fun _ U o U' => ∃ v L, o = .returned v ∧ QP (.int (1 : Int32)) h0 n0 v U'.heap L ∧ FrameEnd U o U' L ({ frames := 0, cells := 0, slots := 0, locals := 0 } : Room).cells ({ frames := 0, cells := 0, slots := 0, locals := 0 } : Room).slots) := by
  refine MetFree.of_bodySF (plainFor_of_name pn_2) hisR ?_
  intro p e s m args below meth c s₁ Bd hml0 hP hK
  obtain ⟨rfl, hZ, hh⟩ := hP
  have hx := Bd.exec
  have hby := Bd.bytes
  have hml : c.maxLocals = 1 := hml0
  have hown : s.vm.findClass "com/example/sluice/sluice/xpath/Axis" = some m.cls := findClass_of_methodNamed Bd.named
  have hnm := (name_of_methodNamed Bd.named Bd.method).1
  have X0 : Stand p l e ({ frames := 0, cells := 0, slots := 0, locals := 0 } : Room) s m #[(.ref a1)] below meth c s₁ [] 0 0 := Stand.of_body Bd
  have e0 : s₁.heap = h0 := by rw [← hh, Bd.state]; rfl
  have N0 := Fr.nil n0
  have pre0 : ∀ t, Steps p.tables e below (s₁.setTop (mkF m 0 #[.val (.ref a1)] [])) t → Steps p.tables e below (s₁.setTop (entryFrame m #[(.ref a1)] 1)) t := fun t k => castTop (ef_2 m a1) k
  obtain ⟨T2, X2, e2, st2⟩ := getS2 X0 hx hZ hown (host := "") (Or.inl (hw _ (List.mem_of_getElem? (i := 13) rfl))) Via.refl e0 S_PARENT (g := (mkF m 1 #[.val (.ref a1)] [(.ref a1)])) rfl (hb hby d2_1)
  obtain ⟨T3, X3, e3, st3⟩ := getS2 X2 hx hZ hown (host := "") (Or.inl (hw _ (List.mem_of_getElem? (i := 15) rfl))) Via.refl e2 S_ANCESTOR (g := (mkF m 8 #[.val (.ref a1)] [(.ref a1)])) rfl (hb hby d2_8)
  obtain ⟨T4, X4, e4, st4⟩ := getS2 X3 hx hZ hown (host := "") (Or.inl (hw _ (List.mem_of_getElem? (i := 17) rfl))) Via.refl e3 S_PRECEDING_SIBLING (g := (mkF m 15 #[.val (.ref a1)] [(.ref a1)])) rfl (hb hby d2_15)
  obtain ⟨fs, hr, hrun, hended, hW, hsame⟩ := X4.leave (v := some (.int (1 : Int32))) (fun h => by rw [Bd.returns] at h; cases h)
  refine ⟨_, _, pre0 _ ?_, hrun, hended, _, _, rfl, ?_, ⟨_, rfl⟩, hW, hsame.mono (by decide) (by decide)⟩
  · show Steps p.tables e below (s₁.setTop (mkF m 0 #[.val (.ref a1)] [])) _
    refine XS.aloadN X0.here hx rfl (hb hby d2_0) rfl rfl ?_
    show Steps p.tables e below (s₁.setTop (mkF m 1 #[.val (.ref a1)] [(.ref a1)])) _
    refine st2 _ ?_
    show Steps p.tables e below (T2.setTop (mkF m 4 #[.val (.ref a1)] [(.ref w_PARENT), (.ref a1)])) _
    refine Jvm.RoadKit.acmp (g := (mkF m 4 #[.val (.ref a1)] [(.ref w_PARENT), (.ref a1)])) X2 hx rfl rfl rfl (pc0 := 4) (pc' := 7) (same := false) rfl (hb hby d2_4) rfl (decide_eq_false fun q => ha4 (Value.ref.inj q)) (by decide) (by decide) ?_
    show Steps p.tables e below (T2.setTop (mkF m 7 #[.val (.ref a1)] [])) _
    refine XS.aloadN X2.here hx rfl (hb hby d2_7) rfl rfl ?_
    show Steps p.tables e below (T2.setTop (mkF m 8 #[.val (.ref a1)] [(.ref a1)])) _
    refine st3 _ ?_
    show Steps p.tables e below (T3.setTop (mkF m 11 #[.val (.ref a1)] [(.ref w_ANCESTOR), (.ref a1)])) _
    refine Jvm.RoadKit.acmp (g := (mkF m 11 #[.val (.ref a1)] [(.ref w_ANCESTOR), (.ref a1)])) X3 hx rfl rfl rfl (pc0 := 11) (pc' := 14) (same := false) rfl (hb hby d2_11) rfl (decide_eq_false fun q => ha11 (Value.ref.inj q)) (by decide) (by decide) ?_
    show Steps p.tables e below (T3.setTop (mkF m 14 #[.val (.ref a1)] [])) _
    refine XS.aloadN X3.here hx rfl (hb hby d2_14) rfl rfl ?_
    show Steps p.tables e below (T3.setTop (mkF m 15 #[.val (.ref a1)] [(.ref a1)])) _
    refine st4 _ ?_
    show Steps p.tables e below (T4.setTop (mkF m 18 #[.val (.ref a1)] [(.ref w_PRECEDING_SIBLING), (.ref a1)])) _
    refine Jvm.RoadKit.acmp (g := (mkF m 18 #[.val (.ref a1)] [(.ref w_PRECEDING_SIBLING), (.ref a1)])) X4 hx rfl rfl rfl (pc0 := 18) (pc' := 35) (same := true) rfl (hb hby d2_18) rfl (decide_eq_true (congrArg Value.ref ha18)) (by decide) (by decide) ?_
    show Steps p.tables e below (T4.setTop (mkF m 35 #[.val (.ref a1)] [])) _
    refine XS.iconst X4.here hx rfl (hb hby d2_35) ?_
    show Steps p.tables e below (T4.setTop (mkF m 36 #[.val (.ref a1)] [(.int (1 : Int32))])) _
    refine XS.goto X4.here hx rfl (pc0 := 36) (pc' := 40) rfl (hb hby d2_36) (by decide) (by decide) ?_
    show Steps p.tables e below (T4.setTop (mkF m 40 #[.val (.ref a1)] [(.int (1 : Int32))])) _
    exact retN X4 hx (t := .boolean) Bd.returns (by simp) (hb hby d2_40) hr
  · show QP (.int (1 : Int32)) h0 n0 _ T4.heap _
    rw [e4]
    exact ⟨rfl, N0, rfl⟩
set_option maxRecDepth 65536 in
set_option maxHeartbeats 40000000 in
theorem rm2_ffft (l : Launch) (Z : State) (a0 : Array Value) (hw : ∀ d ∈ tables_1, d.before a0 Z = true) (ws : List Jvm.Cond) (a1 : Addr) (w_PARENT : Addr) (w_ANCESTOR : Addr) (w_PRECEDING_SIBLING : Addr) (w_PRECEDING : Addr) (h0 : Heap) (n0 : Nat) (Z0 : n0 ≤ h0.size) (S_PARENT : Sta Z h0 "com/example/sluice/sluice/xpath/Axis" "PARENT" "Lcom/example/sluice/sluice/xpath/Axis;" (.ref w_PARENT)) (S_ANCESTOR : Sta Z h0 "com/example/sluice/sluice/xpath/Axis" "ANCESTOR" "Lcom/example/sluice/sluice/xpath/Axis;" (.ref w_ANCESTOR)) (S_PRECEDING_SIBLING : Sta Z h0 "com/example/sluice/sluice/xpath/Axis" "PRECEDING_SIBLING" "Lcom/example/sluice/sluice/xpath/Axis;" (.ref w_PRECEDING_SIBLING)) (S_PRECEDING : Sta Z h0 "com/example/sluice/sluice/xpath/Axis" "PRECEDING" "Lcom/example/sluice/sluice/xpath/Axis;" (.ref w_PRECEDING)) (ha4 : ¬ (a1 = w_PARENT)) (ha11 : ¬ (a1 = w_ANCESTOR)) (ha18 : ¬ (a1 = w_PRECEDING_SIBLING)) (ha25 : a1 = w_PRECEDING) :
    MetFree l (⟨"com/example/sluice/sluice/xpath/Axis", "isReverse", "()Z"⟩ : MethodName) (head1 (Jvm.Cond.code (⟨"com/example/sluice/sluice/xpath/Axis", "isReverse", "()Z"⟩ : MethodName) prog_61_method_5_code 1 (some .boolean) :: ws) ({ frames := 0, cells := 0, slots := 0, locals := 0 } : Room)) (fun a U => a = #[(.ref a1)] ∧ Z.Warmed39 U.vm ∧ U.heap = h0) (fun _ _ _ _ _ => True) (fun _ U o U' => ∃ v L, o = .returned v ∧ QP (.int (1 : Int32)) h0 n0 v U'.heap L ∧ FrameEnd U o U' L ({ frames := 0, cells := 0, slots := 0, locals := 0 } : Room).cells ({ frames := 0, cells := 0, slots := 0, locals := 0 } : Room).slots) := by
  refine MetFree.of_bodySF (plainFor_of_name pn_2) hisR ?_
  intro p e s m args below meth c s₁ Bd hml0 hP hK
  obtain ⟨rfl, hZ, hh⟩ := hP
  have hx := Bd.exec
  have hby := Bd.bytes
  have hml : c.maxLocals = 1 := hml0
  have hown : s.vm.findClass "com/example/sluice/sluice/xpath/Axis" = some m.cls := findClass_of_methodNamed Bd.named
  have hnm := (name_of_methodNamed Bd.named Bd.method).1
  have X0 : Stand p l e ({ frames := 0, cells := 0, slots := 0, locals := 0 } : Room) s m #[(.ref a1)] below meth c s₁ [] 0 0 := Stand.of_body Bd
  have e0 : s₁.heap = h0 := by rw [← hh, Bd.state]; rfl
  have N0 := Fr.nil n0
  have pre0 : ∀ t, Steps p.tables e below (s₁.setTop (mkF m 0 #[.val (.ref a1)] [])) t → Steps p.tables e below (s₁.setTop (entryFrame m #[(.ref a1)] 1)) t := fun t k => castTop (ef_2 m a1) k
  obtain ⟨T2, X2, e2, st2⟩ := getS2 X0 hx hZ hown (host := "") (Or.inl (hw _ (List.mem_of_getElem? (i := 13) rfl))) Via.refl e0 S_PARENT (g := (mkF m 1 #[.val (.ref a1)] [(.ref a1)])) rfl (hb hby d2_1)
  obtain ⟨T3, X3, e3, st3⟩ := getS2 X2 hx hZ hown (host := "") (Or.inl (hw _ (List.mem_of_getElem? (i := 15) rfl))) Via.refl e2 S_ANCESTOR (g := (mkF m 8 #[.val (.ref a1)] [(.ref a1)])) rfl (hb hby d2_8)
  obtain ⟨T4, X4, e4, st4⟩ := getS2 X3 hx hZ hown (host := "") (Or.inl (hw _ (List.mem_of_getElem? (i := 17) rfl))) Via.refl e3 S_PRECEDING_SIBLING (g := (mkF m 15 #[.val (.ref a1)] [(.ref a1)])) rfl (hb hby d2_15)
  obtain ⟨T5, X5, e5, st5⟩ := getS2 X4 hx hZ hown (host := "") (Or.inl (hw _ (List.mem_of_getElem? (i := 19) rfl))) Via.refl e4 S_PRECEDING (g := (mkF m 22 #[.val (.ref a1)] [(.ref a1)])) rfl (hb hby d2_22)
  obtain ⟨fs, hr, hrun, hended, hW, hsame⟩ := X5.leave (v := some (.int (1 : Int32))) (fun h => by rw [Bd.returns] at h; cases h)
  refine ⟨_, _, pre0 _ ?_, hrun, hended, _, _, rfl, ?_, ⟨_, rfl⟩, hW, hsame.mono (by decide) (by decide)⟩
  · show Steps p.tables e below (s₁.setTop (mkF m 0 #[.val (.ref a1)] [])) _
    refine XS.aloadN X0.here hx rfl (hb hby d2_0) rfl rfl ?_
    show Steps p.tables e below (s₁.setTop (mkF m 1 #[.val (.ref a1)] [(.ref a1)])) _
    refine st2 _ ?_
    show Steps p.tables e below (T2.setTop (mkF m 4 #[.val (.ref a1)] [(.ref w_PARENT), (.ref a1)])) _
    refine Jvm.RoadKit.acmp (g := (mkF m 4 #[.val (.ref a1)] [(.ref w_PARENT), (.ref a1)])) X2 hx rfl rfl rfl (pc0 := 4) (pc' := 7) (same := false) rfl (hb hby d2_4) rfl (decide_eq_false fun q => ha4 (Value.ref.inj q)) (by decide) (by decide) ?_
    show Steps p.tables e below (T2.setTop (mkF m 7 #[.val (.ref a1)] [])) _
    refine XS.aloadN X2.here hx rfl (hb hby d2_7) rfl rfl ?_
    show Steps p.tables e below (T2.setTop (mkF m 8 #[.val (.ref a1)] [(.ref a1)])) _
    refine st3 _ ?_
    show Steps p.tables e below (T3.setTop (mkF m 11 #[.val (.ref a1)] [(.ref w_ANCESTOR), (.ref a1)])) _
    refine Jvm.RoadKit.acmp (g := (mkF m 11 #[.val (.ref a1)] [(.ref w_ANCESTOR), (.ref a1)])) X3 hx rfl rfl rfl (pc0 := 11) (pc' := 14) (same := false) rfl (hb hby d2_11) rfl (decide_eq_false fun q => ha11 (Value.ref.inj q)) (by decide) (by decide) ?_
    show Steps p.tables e below (T3.setTop (mkF m 14 #[.val (.ref a1)] [])) _
    refine XS.aloadN X3.here hx rfl (hb hby d2_14) rfl rfl ?_
    show Steps p.tables e below (T3.setTop (mkF m 15 #[.val (.ref a1)] [(.ref a1)])) _
    refine st4 _ ?_
    show Steps p.tables e below (T4.setTop (mkF m 18 #[.val (.ref a1)] [(.ref w_PRECEDING_SIBLING), (.ref a1)])) _
    refine Jvm.RoadKit.acmp (g := (mkF m 18 #[.val (.ref a1)] [(.ref w_PRECEDING_SIBLING), (.ref a1)])) X4 hx rfl rfl rfl (pc0 := 18) (pc' := 21) (same := false) rfl (hb hby d2_18) rfl (decide_eq_false fun q => ha18 (Value.ref.inj q)) (by decide) (by decide) ?_
    show Steps p.tables e below (T4.setTop (mkF m 21 #[.val (.ref a1)] [])) _
    refine XS.aloadN X4.here hx rfl (hb hby d2_21) rfl rfl ?_
    show Steps p.tables e below (T4.setTop (mkF m 22 #[.val (.ref a1)] [(.ref a1)])) _
    refine st5 _ ?_
    show Steps p.tables e below (T5.setTop (mkF m 25 #[.val (.ref a1)] [(.ref w_PRECEDING), (.ref a1)])) _
    refine Jvm.RoadKit.acmp (g := (mkF m 25 #[.val (.ref a1)] [(.ref w_PRECEDING), (.ref a1)])) X5 hx rfl rfl rfl (pc0 := 25) (pc' := 35) (same := true) rfl (hb hby d2_25) rfl (decide_eq_true (congrArg Value.ref ha25)) (by decide) (by decide) ?_
    show Steps p.tables e below (T5.setTop (mkF m 35 #[.val (.ref a1)] [])) _
    refine XS.iconst X5.here hx rfl (hb hby d2_35) ?_
    show Steps p.tables e below (T5.setTop (mkF m 36 #[.val (.ref a1)] [(.int (1 : Int32))])) _
    refine XS.goto X5.here hx rfl (pc0 := 36) (pc' := 40) rfl (hb hby d2_36) (by decide) (by decide) ?_
    show Steps p.tables e below (T5.setTop (mkF m 40 #[.val (.ref a1)] [(.int (1 : Int32))])) _
    exact retN X5 hx (t := .boolean) Bd.returns (by simp) (hb hby d2_40) hr
  · show QP (.int (1 : Int32)) h0 n0 _ T5.heap _
    rw [e5]
    exact ⟨rfl, N0, rfl⟩
set_option maxRecDepth 65536 in
set_option maxHeartbeats 40000000 in
theorem rm2_fffff (l : Launch) (Z : State) (a0 : Array Value) (hw : ∀ d ∈ tables_1, d.before a0 Z = true) (ws : List Jvm.Cond) (a1 : Addr) (w_PARENT : Addr) (w_ANCESTOR : Addr) (w_PRECEDING_SIBLING : Addr) (w_PRECEDING : Addr) (w_ANCESTOR_OR_SELF : Addr) (h0 : Heap) (n0 : Nat) (Z0 : n0 ≤ h0.size) (S_PARENT : Sta Z h0 "com/example/sluice/sluice/xpath/Axis" "PARENT" "Lcom/example/sluice/sluice/xpath/Axis;" (.ref w_PARENT)) (S_ANCESTOR : Sta Z h0 "com/example/sluice/sluice/xpath/Axis" "ANCESTOR" "Lcom/example/sluice/sluice/xpath/Axis;" (.ref w_ANCESTOR)) (S_PRECEDING_SIBLING : Sta Z h0 "com/example/sluice/sluice/xpath/Axis" "PRECEDING_SIBLING" "Lcom/example/sluice/sluice/xpath/Axis;" (.ref w_PRECEDING_SIBLING)) (S_PRECEDING : Sta Z h0 "com/example/sluice/sluice/xpath/Axis" "PRECEDING" "Lcom/example/sluice/sluice/xpath/Axis;" (.ref w_PRECEDING)) (S_ANCESTOR_OR_SELF : Sta Z h0 "com/example/sluice/sluice/xpath/Axis" "ANCESTOR_OR_SELF" "Lcom/example/sluice/sluice/xpath/Axis;" (.ref w_ANCESTOR_OR_SELF)) (ha4 : ¬ (a1 = w_PARENT)) (ha11 : ¬ (a1 = w_ANCESTOR)) (ha18 : ¬ (a1 = w_PRECEDING_SIBLING)) (ha25 : ¬ (a1 = w_PRECEDING)) (ha32 : a1 = w_ANCESTOR_OR_SELF) :
    MetFree l (⟨"com/example/sluice/sluice/xpath/Axis", "isReverse", "()Z"⟩ : MethodName) (head1 (Jvm.Cond.code (⟨"com/example/sluice/sluice/xpath/Axis", "isReverse", "()Z"⟩ : MethodName) prog_61_method_5_code 1 (some .boolean) :: ws) ({ frames := 0, cells := 0, slots := 0, locals := 0 } : Room)) (fun a U => a = #[(.ref a1)] ∧ Z.Warmed39 U.vm ∧ U.heap = h0) (fun _ _ _ _ _ => True) (fun _ U o U' => ∃ v L, o = .returned v ∧ QP (.int (1 : Int32)) h0 n0 v U'.heap L ∧ FrameEnd U o U' L ({ frames := 0, cells := 0, slots := 0, locals := 0 } : Room).cells ({ frames := 0, cells := 0, slots := 0, locals := 0 } : Room).slots) := by
  refine MetFree.of_bodySF (plainFor_of_name pn_2) hisR ?_
  intro p e s m args below meth c s₁ Bd hml0 hP hK
  obtain ⟨rfl, hZ, hh⟩ := hP
  have hx := Bd.exec
  have hby := Bd.bytes
  have hml : c.maxLocals = 1 := hml0
  have hown : s.vm.findClass "com/example/sluice/sluice/xpath/Axis" = some m.cls := findClass_of_methodNamed Bd.named
  have hnm := (name_of_methodNamed Bd.named Bd.method).1
  have X0 : Stand p l e ({ frames := 0, cells := 0, slots := 0, locals := 0 } : Room) s m #[(.ref a1)] below meth c s₁ [] 0 0 := Stand.of_body Bd
  have e0 : s₁.heap = h0 := by rw [← hh, Bd.state]; rfl
  have N0 := Fr.nil n0
  have pre0 : ∀ t, Steps p.tables e below (s₁.setTop (mkF m 0 #[.val (.ref a1)] [])) t → Steps p.tables e below (s₁.setTop (entryFrame m #[(.ref a1)] 1)) t := fun t k => castTop (ef_2 m a1) k
  obtain ⟨T2, X2, e2, st2⟩ := getS2 X0 hx hZ hown (host := "") (Or.inl (hw _ (List.mem_of_getElem? (i := 13) rfl))) Via.refl e0 S_PARENT (g := (mkF m 1 #[.val (.ref a1)] [(.ref a1)])) rfl (hb hby d2_1)
  obtain ⟨T3, X3, e3, st3⟩ := getS2 X2 hx hZ hown (host := "") (Or.inl (hw _ (List.mem_of_getElem? (i := 15) rfl))) Via.refl e2 S_ANCESTOR (g := (mkF m 8 #[.val (.ref a1)] [(.ref a1)])) rfl (hb hby d2_8)
  obtain ⟨T4, X4, e4, st4⟩ := getS2 X3 hx hZ hown (host := "") (Or.inl (hw _ (List.mem_of_getElem? (i := 17) rfl))) Via.refl e3 S_PRECEDING_SIBLING (g := (mkF m 15 #[.val (.ref a1)] [(.ref a1)])) rfl (hb hby d2_15)
  obtain ⟨T5, X5, e5, st5⟩ := getS2 X4 hx hZ hown (host := "") (Or.inl (hw _ (List.mem_of_getElem? (i := 19) rfl))) Via.refl e4 S_PRECEDING (g := (mkF m 22 #[.val (.ref a1)] [(.ref a1)])) rfl (hb hby d2_22)
  obtain ⟨T6, X6, e6, st6⟩ := getS2 X5 hx hZ hown (host := "") (Or.inl (hw _ (List.mem_of_getElem? (i := 21) rfl))) Via.refl e5 S_ANCESTOR_OR_SELF (g := (mkF m 29 #[.val (.ref a1)] [(.ref a1)])) rfl (hb hby d2_29)
  obtain ⟨fs, hr, hrun, hended, hW, hsame⟩ := X6.leave (v := some (.int (1 : Int32))) (fun h => by rw [Bd.returns] at h; cases h)
  refine ⟨_, _, pre0 _ ?_, hrun, hended, _, _, rfl, ?_, ⟨_, rfl⟩, hW, hsame.mono (by decide) (by decide)⟩
  · show Steps p.tables e below (s₁.setTop (mkF m 0 #[.val (.ref a1)] [])) _
    refine XS.aloadN X0.here hx rfl (hb hby d2_0) rfl rfl ?_
    show Steps p.tables e below (s₁.setTop (mkF m 1 #[.val (.ref a1)] [(.ref a1)])) _
    refine st2 _ ?_
    show Steps p.tables e below (T2.setTop (mkF m 4 #[.val (.ref a1)] [(.ref w_PARENT), (.ref a1)])) _
    refine Jvm.RoadKit.acmp (g := (mkF m 4 #[.val (.ref a1)] [(.ref w_PARENT), (.ref a1)])) X2 hx rfl rfl rfl (pc0 := 4) (pc' := 7) (same := false) rfl (hb hby d2_4) rfl (decide_eq_false fun q => ha4 (Value.ref.inj q)) (by decide) (by decide) ?_
    show Steps p.tables e below (T2.setTop (mkF m 7 #[.val (.ref a1)] [])) _
    refine XS.aloadN X2.here hx rfl (hb hby d2_7) rfl rfl ?_
    show Steps p.tables e below (T2.setTop (mkF m 8 #[.val (.ref a1)] [(.ref a1)])) _
    refine st3 _ ?_
    show Steps p.tables e below (T3.setTop (mkF m 11 #[.val (.ref a1)] [(.ref w_ANCESTOR), (.ref a1)])) _
    refine Jvm.RoadKit.acmp (g := (mkF m 11 #[.val (.ref a1)] [(.ref w_ANCESTOR), (.ref a1)])) X3 hx rfl rfl rfl (pc0 := 11) (pc' := 14) (same := false) rfl (hb hby d2_11) rfl (decide_eq_false fun q => ha11 (Value.ref.inj q)) (by decide) (by decide) ?_
    show Steps p.tables e below (T3.setTop (mkF m 14 #[.val (.ref a1)] [])) _
    refine XS.aloadN X3.here hx rfl (hb hby d2_14) rfl rfl ?_
    show Steps p.tables e below (T3.setTop (mkF m 15 #[.val (.ref a1)] [(.ref a1)])) _
    refine st4 _ ?_
    show Steps p.tables e below (T4.setTop (mkF m 18 #[.val (.ref a1)] [(.ref w_PRECEDING_SIBLING), (.ref a1)])) _
    refine Jvm.RoadKit.acmp (g := (mkF m 18 #[.val (.ref a1)] [(.ref w_PRECEDING_SIBLING), (.ref a1)])) X4 hx rfl rfl rfl (pc0 := 18) (pc' := 21) (same := false) rfl (hb hby d2_18) rfl (decide_eq_false fun q => ha18 (Value.ref.inj q)) (by decide) (by decide) ?_
    show Steps p.tables e below (T4.setTop (mkF m 21 #[.val (.ref a1)] [])) _
    refine XS.aloadN X4.here hx rfl (hb hby d2_21) rfl rfl ?_
    show Steps p.tables e below (T4.setTop (mkF m 22 #[.val (.ref a1)] [(.ref a1)])) _
    refine st5 _ ?_
    show Steps p.tables e below (T5.setTop (mkF m 25 #[.val (.ref a1)] [(.ref w_PRECEDING), (.ref a1)])) _
    refine Jvm.RoadKit.acmp (g := (mkF m 25 #[.val (.ref a1)] [(.ref w_PRECEDING), (.ref a1)])) X5 hx rfl rfl rfl (pc0 := 25) (pc' := 28) (same := false) rfl (hb hby d2_25) rfl (decide_eq_false fun q => ha25 (Value.ref.inj q)) (by decide) (by decide) ?_
    show Steps p.tables e below (T5.setTop (mkF m 28 #[.val (.ref a1)] [])) _
    refine XS.aloadN X5.here hx rfl (hb hby d2_28) rfl rfl ?_
    show Steps p.tables e below (T5.setTop (mkF m 29 #[.val (.ref a1)] [(.ref a1)])) _
    refine st6 _ ?_
    show Steps p.tables e below (T6.setTop (mkF m 32 #[.val (.ref a1)] [(.ref w_ANCESTOR_OR_SELF), (.ref a1)])) _
    refine Jvm.RoadKit.acmp (g := (mkF m 32 #[.val (.ref a1)] [(.ref w_ANCESTOR_OR_SELF), (.ref a1)])) X6 hx rfl rfl rfl (pc0 := 32) (pc' := 35) (same := true) rfl (hb hby d2_32) rfl (decide_eq_true (congrArg Value.ref ha32)) (by decide) (by decide) ?_
    show Steps p.tables e below (T6.setTop (mkF m 35 #[.val (.ref a1)] [])) _
    refine XS.iconst X6.here hx rfl (hb hby d2_35) ?_
    show Steps p.tables e below (T6.setTop (mkF m 36 #[.val (.ref a1)] [(.int (1 : Int32))])) _
    refine XS.goto X6.here hx rfl (pc0 := 36) (pc' := 40) rfl (hb hby d2_36) (by decide) (by decide) ?_
    show Steps p.tables e below (T6.setTop (mkF m 40 #[.val (.ref a1)] [(.int (1 : Int32))])) _
    exact retN X6 hx (t := .boolean) Bd.returns (by simp) (hb hby d2_40) hr
  · show QP (.int (1 : Int32)) h0 n0 _ T6.heap _
    rw [e6]
    exact ⟨rfl, N0, rfl⟩
set_option maxRecDepth 65536 in
set_option maxHeartbeats 40000000 in
theorem rm2_fffft (l : Launch) (Z : State) (a0 : Array Value) (hw : ∀ d ∈ tables_1, d.before a0 Z = true) (ws : List Jvm.Cond) (a1 : Addr) (w_PARENT : Addr) (w_ANCESTOR : Addr) (w_PRECEDING_SIBLING : Addr) (w_PRECEDING : Addr) (w_ANCESTOR_OR_SELF : Addr) (h0 : Heap) (n0 : Nat) (Z0 : n0 ≤ h0.size) (S_PARENT : Sta Z h0 "com/example/sluice/sluice/xpath/Axis" "PARENT" "Lcom/example/sluice/sluice/xpath/Axis;" (.ref w_PARENT)) (S_ANCESTOR : Sta Z h0 "com/example/sluice/sluice/xpath/Axis" "ANCESTOR" "Lcom/example/sluice/sluice/xpath/Axis;" (.ref w_ANCESTOR)) (S_PRECEDING_SIBLING : Sta Z h0 "com/example/sluice/sluice/xpath/Axis" "PRECEDING_SIBLING" "Lcom/example/sluice/sluice/xpath/Axis;" (.ref w_PRECEDING_SIBLING)) (S_PRECEDING : Sta Z h0 "com/example/sluice/sluice/xpath/Axis" "PRECEDING" "Lcom/example/sluice/sluice/xpath/Axis;" (.ref w_PRECEDING)) (S_ANCESTOR_OR_SELF : Sta Z h0 "com/example/sluice/sluice/xpath/Axis" "ANCESTOR_OR_SELF" "Lcom/example/sluice/sluice/xpath/Axis;" (.ref w_ANCESTOR_OR_SELF)) (ha4 : ¬ (a1 = w_PARENT)) (ha11 : ¬ (a1 = w_ANCESTOR)) (ha18 : ¬ (a1 = w_PRECEDING_SIBLING)) (ha25 : ¬ (a1 = w_PRECEDING)) (ha32 : ¬ (a1 = w_ANCESTOR_OR_SELF)) :
    MetFree l (⟨"com/example/sluice/sluice/xpath/Axis", "isReverse", "()Z"⟩ : MethodName) (head1 (Jvm.Cond.code (⟨"com/example/sluice/sluice/xpath/Axis", "isReverse", "()Z"⟩ : MethodName) prog_61_method_5_code 1 (some .boolean) :: ws) ({ frames := 0, cells := 0, slots := 0, locals := 0 } : Room)) (fun a U => a = #[(.ref a1)] ∧ Z.Warmed39 U.vm ∧ U.heap = h0) (fun _ _ _ _ _ => True) (fun _ U o U' => ∃ v L, o = .returned v ∧ QP (.int (0 : Int32)) h0 n0 v U'.heap L ∧ FrameEnd U o U' L ({ frames := 0, cells := 0, slots := 0, locals := 0 } : Room).cells ({ frames := 0, cells := 0, slots := 0, locals := 0 } : Room).slots) := by
  refine MetFree.of_bodySF (plainFor_of_name pn_2) hisR ?_
  intro p e s m args below meth c s₁ Bd hml0 hP hK
  obtain ⟨rfl, hZ, hh⟩ := hP
  have hx := Bd.exec
  have hby := Bd.bytes
  have hml : c.maxLocals = 1 := hml0
  have hown : s.vm.findClass "com/example/sluice/sluice/xpath/Axis" = some m.cls := findClass_of_methodNamed Bd.named
  have hnm := (name_of_methodNamed Bd.named Bd.method).1
  have X0 : Stand p l e ({ frames := 0, cells := 0, slots := 0, locals := 0 } : Room) s m #[(.ref a1)] below meth c s₁ [] 0 0 := Stand.of_body Bd
  have e0 : s₁.heap = h0 := by rw [← hh, Bd.state]; rfl
  have N0 := Fr.nil n0
  have pre0 : ∀ t, Steps p.tables e below (s₁.setTop (mkF m 0 #[.val (.ref a1)] [])) t → Steps p.tables e below (s₁.setTop (entryFrame m #[(.ref a1)] 1)) t := fun t k => castTop (ef_2 m a1) k
  obtain ⟨T2, X2, e2, st2⟩ := getS2 X0 hx hZ hown (host := "") (Or.inl (hw _ (List.mem_of_getElem? (i := 13) rfl))) Via.refl e0 S_PARENT (g := (mkF m 1 #[.val (.ref a1)] [(.ref a1)])) rfl (hb hby d2_1)
  obtain ⟨T3, X3, e3, st3⟩ := getS2 X2 hx hZ hown (host := "") (Or.inl (hw _ (List.mem_of_getElem? (i := 15) rfl))) Via.refl e2 S_ANCESTOR (g := (mkF m 8 #[.val (.ref a1)] [(.ref a1)])) rfl (hb hby d2_8)
  obtain ⟨T4, X4, e4, st4⟩ := getS2 X3 hx hZ hown (host := "") (Or.inl (hw _ (List.mem_of_getElem? (i := 17) rfl))) Via.refl e3 S_PRECEDING_SIBLING (g := (mkF m 15 #[.val (.ref a1)] [(.ref a1)])) rfl (hb hby d2_15)
  obtain ⟨T5, X5, e5, st5⟩ := getS2 X4 hx hZ hown (host := "") (Or.inl (hw _ (List.mem_of_getElem? (i := 19) rfl))) Via.refl e4 S_PRECEDING (g := (mkF m 22 #[.val (.ref a1)] [(.ref a1)])) rfl (hb hby d2_22)
  obtain ⟨T6, X6, e6, st6⟩ := getS2 X5 hx hZ hown (host := "") (Or.inl (hw _ (List.mem_of_getElem? (i := 21) rfl))) Via.refl e5 S_ANCESTOR_OR_SELF (g := (mkF m 29 #[.val (.ref a1)] [(.ref a1)])) rfl (hb hby d2_29)
  obtain ⟨fs, hr, hrun, hended, hW, hsame⟩ := X6.leave (v := some (.int (0 : Int32))) (fun h => by rw [Bd.returns] at h; cases h)
  refine ⟨_, _, pre0 _ ?_, hrun, hended, _, _, rfl, ?_, ⟨_, rfl⟩, hW, hsame.mono (by decide) (by decide)⟩
  · show Steps p.tables e below (s₁.setTop (mkF m 0 #[.val (.ref a1)] [])) _
    refine XS.aloadN X0.here hx rfl (hb hby d2_0) rfl rfl ?_
    show Steps p.tables e below (s₁.setTop (mkF m 1 #[.val (.ref a1)] [(.ref a1)])) _
    refine st2 _ ?_
    show Steps p.tables e below (T2.setTop (mkF m 4 #[.val (.ref a1)] [(.ref w_PARENT), (.ref a1)])) _
    refine Jvm.RoadKit.acmp (g := (mkF m 4 #[.val (.ref a1)] [(.ref w_PARENT), (.ref a1)])) X2 hx rfl rfl rfl (pc0 := 4) (pc' := 7) (same := false) rfl (hb hby d2_4) rfl (decide_eq_false fun q => ha4 (Value.ref.inj q)) (by decide) (by decide) ?_
    show Steps p.tables e below (T2.setTop (mkF m 7 #[.val (.ref a1)] [])) _
    refine XS.aloadN X2.here hx rfl (hb hby d2_7) rfl rfl ?_
    show Steps p.tables e below (T2.setTop (mkF m 8 #[.val (.ref a1)] [(.ref a1)])) _
    refine st3 _ ?_
    show Steps p.tables e below (T3.setTop (mkF m 11 #[.val (.ref a1)] [(.ref w_ANCESTOR), (.ref a1)])) _
    refine Jvm.RoadKit.acmp (g := (mkF m 11 #[.val (.ref a1)] [(.ref w_ANCESTOR), (.ref a1)])) X3 hx rfl rfl rfl (pc0 := 11) (pc' := 14) (same := false) rfl (hb hby d2_11) rfl (decide_eq_false fun q => ha11 (Value.ref.inj q)) (by decide) (by decide) ?_
    show Steps p.tables e below (T3.setTop (mkF m 14 #[.val (.ref a1)] [])) _
    refine XS.aloadN X3.here hx rfl (hb hby d2_14) rfl rfl ?_
    show Steps p.tables e below (T3.setTop (mkF m 15 #[.val (.ref a1)] [(.ref a1)])) _
    refine st4 _ ?_
    show Steps p.tables e below (T4.setTop (mkF m 18 #[.val (.ref a1)] [(.ref w_PRECEDING_SIBLING), (.ref a1)])) _
    refine Jvm.RoadKit.acmp (g := (mkF m 18 #[.val (.ref a1)] [(.ref w_PRECEDING_SIBLING), (.ref a1)])) X4 hx rfl rfl rfl (pc0 := 18) (pc' := 21) (same := false) rfl (hb hby d2_18) rfl (decide_eq_false fun q => ha18 (Value.ref.inj q)) (by decide) (by decide) ?_
    show Steps p.tables e below (T4.setTop (mkF m 21 #[.val (.ref a1)] [])) _
    refine XS.aloadN X4.here hx rfl (hb hby d2_21) rfl rfl ?_
    show Steps p.tables e below (T4.setTop (mkF m 22 #[.val (.ref a1)] [(.ref a1)])) _
    refine st5 _ ?_
    show Steps p.tables e below (T5.setTop (mkF m 25 #[.val (.ref a1)] [(.ref w_PRECEDING), (.ref a1)])) _
    refine Jvm.RoadKit.acmp (g := (mkF m 25 #[.val (.ref a1)] [(.ref w_PRECEDING), (.ref a1)])) X5 hx rfl rfl rfl (pc0 := 25) (pc' := 28) (same := false) rfl (hb hby d2_25) rfl (decide_eq_false fun q => ha25 (Value.ref.inj q)) (by decide) (by decide) ?_
    show Steps p.tables e below (T5.setTop (mkF m 28 #[.val (.ref a1)] [])) _
    refine XS.aloadN X5.here hx rfl (hb hby d2_28) rfl rfl ?_
    show Steps p.tables e below (T5.setTop (mkF m 29 #[.val (.ref a1)] [(.ref a1)])) _
    refine st6 _ ?_
    show Steps p.tables e below (T6.setTop (mkF m 32 #[.val (.ref a1)] [(.ref w_ANCESTOR_OR_SELF), (.ref a1)])) _
    refine Jvm.RoadKit.acmp (g := (mkF m 32 #[.val (.ref a1)] [(.ref w_ANCESTOR_OR_SELF), (.ref a1)])) X6 hx rfl rfl rfl (pc0 := 32) (pc' := 39) (same := false) rfl (hb hby d2_32) rfl (decide_eq_false fun q => ha32 (Value.ref.inj q)) (by decide) (by decide) ?_
    show Steps p.tables e below (T6.setTop (mkF m 39 #[.val (.ref a1)] [])) _
    refine XS.iconst X6.here hx rfl (hb hby d2_39) ?_
    show Steps p.tables e below (T6.setTop (mkF m 40 #[.val (.ref a1)] [(.int (0 : Int32))])) _
    exact retN X6 hx (t := .boolean) Bd.returns (by simp) (hb hby d2_40) hr
  · show QP (.int (0 : Int32)) h0 n0 _ T6.heap _
    rw [e6]
    exact ⟨rfl, N0, rfl⟩
def own_isr (a1 : Addr) (w_PARENT : Addr) (w_ANCESTOR : Addr) (w_PRECEDING_SIBLING : Addr) (w_PRECEDING : Addr) (w_ANCESTOR_OR_SELF : Addr) : Int32 := (if a1 = w_PARENT then (1 : Int32) else (if a1 = w_ANCESTOR then (1 : Int32) else (if a1 = w_PRECEDING_SIBLING then (1 : Int32) else (if a1 = w_PRECEDING then (1 : Int32) else (if a1 = w_ANCESTOR_OR_SELF then (1 : Int32) else (0 : Int32))))))
theorem rm2 (l : Launch) (Z : State) (a0 : Array Value) (hw : ∀ d ∈ tables_1, d.before a0 Z = true) (ws : List Jvm.Cond) (a1 : Addr) (w_PARENT : Addr) (w_ANCESTOR : Addr) (w_PRECEDING_SIBLING : Addr) (w_PRECEDING : Addr) (w_ANCESTOR_OR_SELF : Addr) (h0 : Heap) (n0 : Nat) (Z0 : n0 ≤ h0.size) (S_PARENT : Sta Z h0 "com/example/sluice/sluice/xpath/Axis" "PARENT" "Lcom/example/sluice/sluice/xpath/Axis;" (.ref w_PARENT)) (S_ANCESTOR : Sta Z h0 "com/example/sluice/sluice/xpath/Axis" "ANCESTOR" "Lcom/example/sluice/sluice/xpath/Axis;" (.ref w_ANCESTOR)) (S_PRECEDING_SIBLING : Sta Z h0 "com/example/sluice/sluice/xpath/Axis" "PRECEDING_SIBLING" "Lcom/example/sluice/sluice/xpath/Axis;" (.ref w_PRECEDING_SIBLING)) (S_PRECEDING : Sta Z h0 "com/example/sluice/sluice/xpath/Axis" "PRECEDING" "Lcom/example/sluice/sluice/xpath/Axis;" (.ref w_PRECEDING)) (S_ANCESTOR_OR_SELF : Sta Z h0 "com/example/sluice/sluice/xpath/Axis" "ANCESTOR_OR_SELF" "Lcom/example/sluice/sluice/xpath/Axis;" (.ref w_ANCESTOR_OR_SELF)) :
    MetFree l (⟨"com/example/sluice/sluice/xpath/Axis", "isReverse", "()Z"⟩ : MethodName) (head1 (Jvm.Cond.code (⟨"com/example/sluice/sluice/xpath/Axis", "isReverse", "()Z"⟩ : MethodName) prog_61_method_5_code 1 (some .boolean) :: ws) ({ frames := 0, cells := 0, slots := 0, locals := 0 } : Room)) (fun a U => a = #[(.ref a1)] ∧ Z.Warmed39 U.vm ∧ U.heap = h0) (fun _ _ _ _ _ => True) (fun _ U o U' => ∃ v L, o = .returned v ∧ QP (.int (own_isr a1 w_PARENT w_ANCESTOR w_PRECEDING_SIBLING w_PRECEDING w_ANCESTOR_OR_SELF)) h0 n0 v U'.heap L ∧ FrameEnd U o U' L ({ frames := 0, cells := 0, slots := 0, locals := 0 } : Room).cells ({ frames := 0, cells := 0, slots := 0, locals := 0 } : Room).slots) := by
  by_cases ha4 : a1 = w_PARENT
  · skip
    rw [show own_isr a1 w_PARENT w_ANCESTOR w_PRECEDING_SIBLING w_PRECEDING w_ANCESTOR_OR_SELF = (1 : Int32) from by unfold own_isr; rw [if_pos ha4]]
    exact rm2_t l Z a0 hw ws a1 w_PARENT h0 n0 Z0 S_PARENT ha4
  · skip
    by_cases ha11 : a1 = w_ANCESTOR
    · skip
      rw [show own_isr a1 w_PARENT w_ANCESTOR w_PRECEDING_SIBLING w_PRECEDING w_ANCESTOR_OR_SELF = (1 : Int32) from by unfold own_isr; rw [if_neg ha4, if_pos ha11]]
      exact rm2_ft l Z a0 hw ws a1 w_PARENT w_ANCESTOR h0 n0 Z0 S_PARENT S_ANCESTOR ha4 ha11
    · skip
      by_cases ha18 : a1 = w_PRECEDING_SIBLING
      · skip
        rw [show own_isr a1 w_PARENT w_ANCESTOR w_PRECEDING_SIBLING w_PRECEDING w_ANCESTOR_OR_SELF = (1 : Int32) from by unfold own_isr; rw [if_neg ha4, if_neg ha11, if_pos ha18]]
        exact rm2_fft l Z a0 hw ws a1 w_PARENT w_ANCESTOR w_PRECEDING_SIBLING h0 n0 Z0 S_PARENT S_ANCESTOR S_PRECEDING_SIBLING ha4 ha11 ha18
      · skip
        by_cases ha25 : a1 = w_PRECEDING
        · skip
          rw [show own_isr a1 w_PARENT w_ANCESTOR w_PRECEDING_SIBLING w_PRECEDING w_ANCESTOR_OR_SELF = (1 : Int32) from by unfold own_isr; rw [if_neg ha4, if_neg ha11, if_neg ha18, if_pos ha25]]
          exact rm2_ffft l Z a0 hw ws a1 w_PARENT w_ANCESTOR w_PRECEDING_SIBLING w_PRECEDING h0 n0 Z0 S_PARENT S_ANCESTOR S_PRECEDING_SIBLING S_PRECEDING ha4 ha11 ha18 ha25
        · skip
          by_cases ha32 : a1 = w_ANCESTOR_OR_SELF
          · skip
            rw [show own_isr a1 w_PARENT w_ANCESTOR w_PRECEDING_SIBLING w_PRECEDING w_ANCESTOR_OR_SELF = (1 : Int32) from by unfold own_isr; rw [if_neg ha4, if_neg ha11, if_neg ha18, if_neg ha25, if_pos ha32]]
            exact rm2_fffff l Z a0 hw ws a1 w_PARENT w_ANCESTOR w_PRECEDING_SIBLING w_PRECEDING w_ANCESTOR_OR_SELF h0 n0 Z0 S_PARENT S_ANCESTOR S_PRECEDING_SIBLING S_PRECEDING S_ANCESTOR_OR_SELF ha4 ha11 ha18 ha25 ha32
          · skip
            rw [show own_isr a1 w_PARENT w_ANCESTOR w_PRECEDING_SIBLING w_PRECEDING w_ANCESTOR_OR_SELF = (0 : Int32) from by unfold own_isr; rw [if_neg ha4, if_neg ha11, if_neg ha18, if_neg ha25, if_neg ha32]]
            exact rm2_fffft l Z a0 hw ws a1 w_PARENT w_ANCESTOR w_PRECEDING_SIBLING w_PRECEDING w_ANCESTOR_OR_SELF h0 n0 Z0 S_PARENT S_ANCESTOR S_PRECEDING_SIBLING S_PRECEDING S_ANCESTOR_OR_SELF ha4 ha11 ha18 ha25 ha32
theorem rm1v (l : Launch) (Z : State) (a0 : Array Value) (hw : ∀ d ∈ tables_1, d.before a0 Z = true) (ws : List Jvm.Cond) (p1 : Int32) (w_CHILD : Addr) (w_DESCENDANT : Addr) (w_ATTRIBUTE : Addr) (w_SELF : Addr) (w_DESCENDANT_OR_SELF : Addr) (w_FOLLOWING_SIBLING : Addr) (w_FOLLOWING : Addr) (w_NAMESPACE : Addr) (w_PARENT : Addr) (w_ANCESTOR : Addr) (w_PRECEDING_SIBLING : Addr) (w_PRECEDING : Addr) (w_ANCESTOR_OR_SELF : Addr) (w_r : Addr) (h0 : Heap) (n0 : Nat) (Z0 : n0 ≤ h0.size) (S_CHILD : Sta Z h0 "com/example/sluice/sluice/xpath/Axis" "CHILD" "Lcom/example/sluice/sluice/xpath/Axis;" (.ref w_CHILD)) (S_DESCENDANT : Sta Z h0 "com/example/sluice/sluice/xpath/Axis" "DESCENDANT" "Lcom/example/sluice/sluice/xpath/Axis;" (.ref w_DESCENDANT)) (S_ATTRIBUTE : Sta Z h0 "com/example/sluice/sluice/xpath/Axis" "ATTRIBUTE" "Lcom/example/sluice/sluice/xpath/Axis;" (.ref w_ATTRIBUTE)) (S_SELF : Sta Z h0 "com/example/sluice/sluice/xpath/Axis" "SELF" "Lcom/example/sluice/sluice/xpath/Axis;" (.ref w_SELF)) (S_DESCENDANT_OR_SELF : Sta Z h0 "com/example/sluice/sluice/xpath/Axis" "DESCENDANT_OR_SELF" "Lcom/example/sluice/sluice/xpath/Axis;" (.ref w_DESCENDANT_OR_SELF)) (S_FOLLOWING_SIBLING : Sta Z h0 "com/example/sluice/sluice/xpath/Axis" "FOLLOWING_SIBLING" "Lcom/example/sluice/sluice/xpath/Axis;" (.ref w_FOLLOWING_SIBLING)) (S_FOLLOWING : Sta Z h0 "com/example/sluice/sluice/xpath/Axis" "FOLLOWING" "Lcom/example/sluice/sluice/xpath/Axis;" (.ref w_FOLLOWING)) (S_NAMESPACE : Sta Z h0 "com/example/sluice/sluice/xpath/Axis" "NAMESPACE" "Lcom/example/sluice/sluice/xpath/Axis;" (.ref w_NAMESPACE)) (S_PARENT : Sta Z h0 "com/example/sluice/sluice/xpath/Axis" "PARENT" "Lcom/example/sluice/sluice/xpath/Axis;" (.ref w_PARENT)) (S_ANCESTOR : Sta Z h0 "com/example/sluice/sluice/xpath/Axis" "ANCESTOR" "Lcom/example/sluice/sluice/xpath/Axis;" (.ref w_ANCESTOR)) (S_PRECEDING_SIBLING : Sta Z h0 "com/example/sluice/sluice/xpath/Axis" "PRECEDING_SIBLING" "Lcom/example/sluice/sluice/xpath/Axis;" (.ref w_PRECEDING_SIBLING)) (S_PRECEDING : Sta Z h0 "com/example/sluice/sluice/xpath/Axis" "PRECEDING" "Lcom/example/sluice/sluice/xpath/Axis;" (.ref w_PRECEDING)) (S_ANCESTOR_OR_SELF : Sta Z h0 "com/example/sluice/sluice/xpath/Axis" "ANCESTOR_OR_SELF" "Lcom/example/sluice/sluice/xpath/Axis;" (.ref w_ANCESTOR_OR_SELF)) (hrx : own_ax p1 w_CHILD w_DESCENDANT w_ATTRIBUTE w_SELF w_DESCENDANT_OR_SELF w_FOLLOWING_SIBLING w_FOLLOWING w_NAMESPACE w_PARENT w_ANCESTOR w_PRECEDING_SIBLING w_PRECEDING w_ANCESTOR_OR_SELF = w_r) :
    MetFree l (⟨"com/example/sluice/sluice/xpath/AxisIsReversePinLaw", "axisAt", "(I)Lcom/example/sluice/sluice/xpath/Axis;"⟩ : MethodName) (head1 (Jvm.Cond.code (⟨"com/example/sluice/sluice/xpath/AxisIsReversePinLaw", "axisAt", "(I)Lcom/example/sluice/sluice/xpath/Axis;"⟩ : MethodName) method_2_code 1 (some (.object "com/example/sluice/sluice/xpath/Axis")) :: ws) ({ frames := 0, cells := 0, slots := 0, locals := 0 } : Room)) (fun a U => a = #[(.int p1)] ∧ Z.Warmed39 U.vm ∧ U.heap = h0) (fun _ _ _ _ _ => True) (fun _ U o U' => ∃ v L, o = .returned v ∧ QP (.ref w_r) h0 n0 v U'.heap L ∧ FrameEnd U o U' L ({ frames := 0, cells := 0, slots := 0, locals := 0 } : Room).cells ({ frames := 0, cells := 0, slots := 0, locals := 0 } : Room).slots) := by
  have h := rm1 l Z a0 hw ws p1 w_CHILD w_DESCENDANT w_ATTRIBUTE w_SELF w_DESCENDANT_OR_SELF w_FOLLOWING_SIBLING w_FOLLOWING w_NAMESPACE w_PARENT w_ANCESTOR w_PRECEDING_SIBLING w_PRECEDING w_ANCESTOR_OR_SELF h0 n0 Z0 S_CHILD S_DESCENDANT S_ATTRIBUTE S_SELF S_DESCENDANT_OR_SELF S_FOLLOWING_SIBLING S_FOLLOWING S_NAMESPACE S_PARENT S_ANCESTOR S_PRECEDING_SIBLING S_PRECEDING S_ANCESTOR_OR_SELF
  rw [hrx] at h; exact h
theorem pn_0 : plainName "com/example/sluice/sluice/xpath/AxisIsReversePinLaw" = true := by first | (simp [plainName, overriddenIn]; done) | decide +kernel
theorem pd_0_0 : parseMethodDescriptor "(I)Lcom/example/sluice/sluice/xpath/Axis;" = some ⟨[.int], some (.object "com/example/sluice/sluice/xpath/Axis")⟩ := by decide +kernel
theorem pd_0_1 : parseMethodDescriptor "()Z" = some ⟨[], some .boolean⟩ := by decide +kernel
theorem ef_0 (m : MethodId) (x0 : Int32) : entryFrame m #[(.int x0)] maxLocals = mkF m 0 #[.val (.int x0), .unset, .unset, .unset] [] := by first | (simp [entryFrame, mkF, argsToLocals, Value.category, maxLocals]; done) | rfl
set_option maxRecDepth 65536 in
set_option maxHeartbeats 40000000 in
theorem rm0_tf (l : Launch) (Z : State) (a0 : Array Value) (hw : ∀ d ∈ tables_1, d.before a0 Z = true) (ws : List Jvm.Cond) (p1 : Int32) (w_CHILD : Addr) (w_DESCENDANT : Addr) (w_ATTRIBUTE : Addr) (w_SELF : Addr) (w_DESCENDANT_OR_SELF : Addr) (w_FOLLOWING_SIBLING : Addr) (w_FOLLOWING : Addr) (w_NAMESPACE : Addr) (w_PARENT : Addr) (w_ANCESTOR : Addr) (w_PRECEDING_SIBLING : Addr) (w_PRECEDING : Addr) (w_ANCESTOR_OR_SELF : Addr) (w_r : Addr) (h0 : Heap) (n0 : Nat) (Z0 : n0 ≤ h0.size) (E_w_r : Exa Z h0 w_r "com/example/sluice/sluice/xpath/Axis") (S_CHILD : Sta Z h0 "com/example/sluice/sluice/xpath/Axis" "CHILD" "Lcom/example/sluice/sluice/xpath/Axis;" (.ref w_CHILD)) (S_DESCENDANT : Sta Z h0 "com/example/sluice/sluice/xpath/Axis" "DESCENDANT" "Lcom/example/sluice/sluice/xpath/Axis;" (.ref w_DESCENDANT)) (S_ATTRIBUTE : Sta Z h0 "com/example/sluice/sluice/xpath/Axis" "ATTRIBUTE" "Lcom/example/sluice/sluice/xpath/Axis;" (.ref w_ATTRIBUTE)) (S_SELF : Sta Z h0 "com/example/sluice/sluice/xpath/Axis" "SELF" "Lcom/example/sluice/sluice/xpath/Axis;" (.ref w_SELF)) (S_DESCENDANT_OR_SELF : Sta Z h0 "com/example/sluice/sluice/xpath/Axis" "DESCENDANT_OR_SELF" "Lcom/example/sluice/sluice/xpath/Axis;" (.ref w_DESCENDANT_OR_SELF)) (S_FOLLOWING_SIBLING : Sta Z h0 "com/example/sluice/sluice/xpath/Axis" "FOLLOWING_SIBLING" "Lcom/example/sluice/sluice/xpath/Axis;" (.ref w_FOLLOWING_SIBLING)) (S_FOLLOWING : Sta Z h0 "com/example/sluice/sluice/xpath/Axis" "FOLLOWING" "Lcom/example/sluice/sluice/xpath/Axis;" (.ref w_FOLLOWING)) (S_NAMESPACE : Sta Z h0 "com/example/sluice/sluice/xpath/Axis" "NAMESPACE" "Lcom/example/sluice/sluice/xpath/Axis;" (.ref w_NAMESPACE)) (S_PARENT : Sta Z h0 "com/example/sluice/sluice/xpath/Axis" "PARENT" "Lcom/example/sluice/sluice/xpath/Axis;" (.ref w_PARENT)) (S_ANCESTOR : Sta Z h0 "com/example/sluice/sluice/xpath/Axis" "ANCESTOR" "Lcom/example/sluice/sluice/xpath/Axis;" (.ref w_ANCESTOR)) (S_PRECEDING_SIBLING : Sta Z h0 "com/example/sluice/sluice/xpath/Axis" "PRECEDING_SIBLING" "Lcom/example/sluice/sluice/xpath/Axis;" (.ref w_PRECEDING_SIBLING)) (S_PRECEDING : Sta Z h0 "com/example/sluice/sluice/xpath/Axis" "PRECEDING" "Lcom/example/sluice/sluice/xpath/Axis;" (.ref w_PRECEDING)) (S_ANCESTOR_OR_SELF : Sta Z h0 "com/example/sluice/sluice/xpath/Axis" "ANCESTOR_OR_SELF" "Lcom/example/sluice/sluice/xpath/Axis;" (.ref w_ANCESTOR_OR_SELF)) (hrx : own_ax ((p1 &&& (2147483647 : Int32)) % (13 : Int32)) w_CHILD w_DESCENDANT w_ATTRIBUTE w_SELF w_DESCENDANT_OR_SELF w_FOLLOWING_SIBLING w_FOLLOWING w_NAMESPACE w_PARENT w_ANCESTOR w_PRECEDING_SIBLING w_PRECEDING w_ANCESTOR_OR_SELF = w_r) (hc16 : ((p1 &&& (2147483647 : Int32)) % (13 : Int32)) < (8 : Int32)) (hc30 : (own_isr w_r w_PARENT w_ANCESTOR w_PRECEDING_SIBLING w_PRECEDING w_ANCESTOR_OR_SELF) = (0 : Int32)) :
    MetFree l x (head1 (Jvm.Cond.code x code maxLocals ret :: ws) room_1) (fun a U => a = #[(.int p1)] ∧ Z.Warmed39 U.vm ∧ U.heap = h0) (fun _ _ _ _ _ => True) (fun _ U o U' => ∃ v L, o = .returned v ∧ QP (.int (1 : Int32)) h0 n0 v U'.heap L ∧ FrameEnd U o U' L room_1.cells room_1.slots) := by
  refine MetFree.of_bodySF (plainFor_of_name pn_0) hisR ?_
  intro p e s m args below meth c s₁ Bd hml0 hP hK
  obtain ⟨rfl, hZ, hh⟩ := hP
  have hx := Bd.exec
  have hby := Bd.bytes
  have hml : c.maxLocals = 4 := hml0
  have hown : s.vm.findClass "com/example/sluice/sluice/xpath/AxisIsReversePinLaw" = some m.cls := findClass_of_methodNamed Bd.named
  have hnm := (name_of_methodNamed Bd.named Bd.method).1
  have X0 : Stand p l e room_1 s m #[(.int p1)] below meth c s₁ [] 0 0 := Stand.of_body Bd
  have e0 : s₁.heap = h0 := by rw [← hh, Bd.state]; rfl
  have N0 := Fr.nil n0
  have pre0 : ∀ t, Steps p.tables e below (s₁.setTop (mkF m 0 #[.val (.int p1), .unset, .unset, .unset] [])) t → Steps p.tables e below (s₁.setTop (entryFrame m #[(.int p1)] maxLocals)) t := fun t k => castTop (ef_0 m p1) k
  obtain ⟨_, _, ⟨T2, L2, k2, n2⟩, -, X2, ⟨Lc2, hQ2, l2, y2, z2⟩, st2⟩ := Jvm.LawKit.callS X0 hx (y := (⟨"com/example/sluice/sluice/xpath/AxisIsReversePinLaw", "axisAt", "(I)Lcom/example/sluice/sluice/xpath/Axis;"⟩ : MethodName)) hown (mvT hZ (hw _ (List.mem_of_getElem? (i := 1) rfl))) (mvT hZ (hw _ (List.mem_of_getElem? (i := 2) rfl))) (mvT hZ (hw _ (List.mem_of_getElem? (i := 3) rfl))) (mvT hZ (hw _ (List.mem_of_getElem? (i := 4) rfl))) (by decide) (backOf (W := 0) (rm1v l Z a0 hw [] ((p1 &&& (2147483647 : Int32)) % (13 : Int32)) w_CHILD w_DESCENDANT w_ATTRIBUTE w_SELF w_DESCENDANT_OR_SELF w_FOLLOWING_SIBLING w_FOLLOWING w_NAMESPACE w_PARENT w_ANCESTOR w_PRECEDING_SIBLING w_PRECEDING w_ANCESTOR_OR_SELF w_r h0 n0 Z0 S_CHILD S_DESCENDANT S_ATTRIBUTE S_SELF S_DESCENDANT_OR_SELF S_FOLLOWING_SIBLING S_FOLLOWING S_NAMESPACE S_PARENT S_ANCESTOR S_PRECEDING_SIBLING S_PRECEDING S_ANCESTOR_OR_SELF hrx) hZ (hw _ (List.mem_of_getElem? (i := 4) rfl)) (hw _ (List.mem_of_getElem? (i := 3) rfl)) (by decide) (by decide)) (g := (mkF m 9 #[.val (.int p1), .val (.int ((p1 &&& (2147483647 : Int32)) % (13 : Int32))), .unset, .unset] [(.int ((p1 &&& (2147483647 : Int32)) % (13 : Int32)))])) rfl (by rw [hml]; rfl) (argsL := [(.int ((p1 &&& (2147483647 : Int32)) % (13 : Int32)))]) (rest := []) (lenOf pd_0_0 rfl) rfl (by show 2 * 0 + _ ≤ _; exact Nat.le_of_eq rfl) (hb hby at_9) (fun _ _ => ⟨rfl, e0, (by decide : 0 + 0 ≤ _), (by decide : 0 + 0 ≤ _)⟩)
  dsimp only [Pt.U, Pt.locs, Pt.cells, Pt.slots] at X2 l2 y2 z2 st2 hQ2
  subst l2 y2 z2
  obtain ⟨rfl, N2q, e2⟩ := hQ2
  have N2 := Fr.app N0 N2q
  obtain ⟨cq3, kq3, q3a, q3b, q3c⟩ := isOf hZ e2 E_w_r
  obtain ⟨_, _, ⟨T3, L3, k3, n3⟩, -, X3, ⟨Lc3, hQ3, l3, y3, z3⟩, st3⟩ := X2.virtualBack hx (y := (⟨"com/example/sluice/sluice/xpath/Axis", "isReverse", "()Z"⟩ : MethodName)) (z := (⟨"com/example/sluice/sluice/xpath/Axis", "isReverse", "()Z"⟩ : MethodName)) hown (mvT hZ (hw _ (List.mem_of_getElem? (i := 8) rfl))) (mvT hZ (hw _ (List.mem_of_getElem? (i := 9) rfl))) (notFace_of_selects (args := #[]) (mvT hZ (hw _ (List.mem_of_getElem? (i := 11) rfl)))) (mvT hZ (hw _ (List.mem_of_getElem? (i := 11) rfl))) (mvT hZ (hw _ (List.mem_of_getElem? (i := 10) rfl))) (by decide) (backOf (W := 0) (rm2 l Z a0 hw [] w_r w_PARENT w_ANCESTOR w_PRECEDING_SIBLING w_PRECEDING w_ANCESTOR_OR_SELF h0 n0 Z0 S_PARENT S_ANCESTOR S_PRECEDING_SIBLING S_PRECEDING S_ANCESTOR_OR_SELF) hZ (hw _ (List.mem_of_getElem? (i := 12) rfl)) (hw _ (List.mem_of_getElem? (i := 6) rfl)) (by decide) (by decide)) q3a q3c (g := (mkF m 26 #[.val (.int p1), .val (.int ((p1 &&& (2147483647 : Int32)) % (13 : Int32))), .val (.ref w_r), .val (.int (0 : Int32))] [(.ref w_r)])) rfl (by rw [hml]; rfl) (Steps.refl _) (argsL := []) (rest := []) (lenOf pd_0_1 rfl) rfl (by show 2 * 0 + _ ≤ _; exact Nat.le_of_eq rfl) (hb hby at_26) (fun _ _ => ⟨rfl, e2, (by decide : 0 + 0 ≤ _), (by decide : 0 + 0 ≤ _)⟩)
  dsimp only [Pt.U, Pt.locs, Pt.cells, Pt.slots] at X3 l3 y3 z3 st3 hQ3
  subst l3 y3 z3
  obtain ⟨rfl, N3q, e3⟩ := hQ3
  have N3 := Fr.app N2 N3q
  obtain ⟨fs, hr, hrun, hended, hW, hsame⟩ := X3.leave (v := some (.int (1 : Int32))) (fun h => by rw [Bd.returns] at h; cases h)
  refine ⟨_, _, pre0 _ ?_, hrun, hended, _, _, rfl, ?_, ⟨_, rfl⟩, hW, hsame.mono (by decide) (by decide)⟩
  · show Steps p.tables e below (s₁.setTop (mkF m 0 #[.val (.int p1), .unset, .unset, .unset] [])) _
    refine XS.iloadN X0.here hx rfl (hb hby at_0) rfl ?_
    show Steps p.tables e below (s₁.setTop (mkF m 1 #[.val (.int p1), .unset, .unset, .unset] [(.int p1)])) _
    refine X0.ldcInt hx hown (mvT hZ (hw _ (List.mem_of_getElem? (i := 0) rfl))) (g := (mkF m 1 #[.val (.int p1), .unset, .unset, .unset] [(.int p1)])) rfl (hb hby at_1) _ ?_
    show Steps p.tables e below (s₁.setTop (mkF m 3 #[.val (.int p1), .unset, .unset, .unset] [(.int (2147483647 : Int32)), (.int p1)])) _
    refine XS.iand X0.here hx rfl (hb hby at_3) rfl ?_
    show Steps p.tables e below (s₁.setTop (mkF m 4 #[.val (.int p1), .unset, .unset, .unset] [(.int (p1 &&& (2147483647 : Int32)))])) _
    refine XS.bipush X0.here hx rfl (hb hby at_4) ?_
    show Steps p.tables e below (s₁.setTop (mkF m 6 #[.val (.int p1), .unset, .unset, .unset] [(.int (13 : Int32)), (.int (p1 &&& (2147483647 : Int32)))])) _
    refine iremM X0 hx rfl (hb hby at_6) rfl (by decide) ?_
    show Steps p.tables e below (s₁.setTop (mkF m 7 #[.val (.int p1), .unset, .unset, .unset] [(.int ((p1 &&& (2147483647 : Int32)) % (13 : Int32)))])) _
    refine XS.istoreN X0.here hx rfl (hb hby at_7) rfl (l' := #[.val (.int p1), .val (.int ((p1 &&& (2147483647 : Int32)) % (13 : Int32))), .unset, .unset]) rfl ?_
    show Steps p.tables e below (s₁.setTop (mkF m 8 #[.val (.int p1), .val (.int ((p1 &&& (2147483647 : Int32)) % (13 : Int32))), .unset, .unset] [])) _
    refine XS.iloadN X0.here hx rfl (hb hby at_8) rfl ?_
    show Steps p.tables e below (s₁.setTop (mkF m 9 #[.val (.int p1), .val (.int ((p1 &&& (2147483647 : Int32)) % (13 : Int32))), .unset, .unset] [(.int ((p1 &&& (2147483647 : Int32)) % (13 : Int32)))])) _
    refine st2 _ ?_
    show Steps p.tables e below (T2.setTop (mkF m 12 #[.val (.int p1), .val (.int ((p1 &&& (2147483647 : Int32)) % (13 : Int32))), .unset, .unset] [(.ref w_r)])) _
    refine XS.astoreN X2.here hx rfl (hb hby at_12) rfl rfl (l' := #[.val (.int p1), .val (.int ((p1 &&& (2147483647 : Int32)) % (13 : Int32))), .val (.ref w_r), .unset]) rfl ?_
    show Steps p.tables e below (T2.setTop (mkF m 13 #[.val (.int p1), .val (.int ((p1 &&& (2147483647 : Int32)) % (13 : Int32))), .val (.ref w_r), .unset] [])) _
    refine XS.iloadN X2.here hx rfl (hb hby at_13) rfl ?_
    show Steps p.tables e below (T2.setTop (mkF m 14 #[.val (.int p1), .val (.int ((p1 &&& (2147483647 : Int32)) % (13 : Int32))), .val (.ref w_r), .unset] [(.int ((p1 &&& (2147483647 : Int32)) % (13 : Int32)))])) _
    refine XS.bipush X2.here hx rfl (hb hby at_14) ?_
    show Steps p.tables e below (T2.setTop (mkF m 16 #[.val (.int p1), .val (.int ((p1 &&& (2147483647 : Int32)) % (13 : Int32))), .val (.ref w_r), .unset] [(.int (8 : Int32)), (.int ((p1 &&& (2147483647 : Int32)) % (13 : Int32)))])) _
    refine XS.icmpYes X2.here hx rfl (pc0 := 16) (pc' := 23) rfl (hb hby at_16) rfl (tlt hc16).1 (by decide) (by decide) ?_
    show Steps p.tables e below (T2.setTop (mkF m 23 #[.val (.int p1), .val (.int ((p1 &&& (2147483647 : Int32)) % (13 : Int32))), .val (.ref w_r), .unset] [])) _
    refine XS.iconst X2.here hx rfl (hb hby at_23) ?_
    show Steps p.tables e below (T2.setTop (mkF m 24 #[.val (.int p1), .val (.int ((p1 &&& (2147483647 : Int32)) % (13 : Int32))), .val (.ref w_r), .unset] [(.int (0 : Int32))])) _
    refine XS.istoreN X2.here hx rfl (hb hby at_24) rfl (l' := #[.val (.int p1), .val (.int ((p1 &&& (2147483647 : Int32)) % (13 : Int32))), .val (.ref w_r), .val (.int (0 : Int32))]) rfl ?_
    show Steps p.tables e below (T2.setTop (mkF m 25 #[.val (.int p1), .val (.int ((p1 &&& (2147483647 : Int32)) % (13 : Int32))), .val (.ref w_r), .val (.int (0 : Int32))] [])) _
    refine XS.aloadN X2.here hx rfl (hb hby at_25) rfl rfl ?_
    show Steps p.tables e below (T2.setTop (mkF m 26 #[.val (.int p1), .val (.int ((p1 &&& (2147483647 : Int32)) % (13 : Int32))), .val (.ref w_r), .val (.int (0 : Int32))] [(.ref w_r)])) _
    refine st3.trans ?_
    show Steps p.tables e below (T3.setTop (mkF m 29 #[.val (.int p1), .val (.int ((p1 &&& (2147483647 : Int32)) % (13 : Int32))), .val (.ref w_r), .val (.int (0 : Int32))] [(.int (own_isr w_r w_PARENT w_ANCESTOR w_PRECEDING_SIBLING w_PRECEDING w_ANCESTOR_OR_SELF))])) _
    refine XS.iloadN X3.here hx rfl (hb hby at_29) rfl ?_
    show Steps p.tables e below (T3.setTop (mkF m 30 #[.val (.int p1), .val (.int ((p1 &&& (2147483647 : Int32)) % (13 : Int32))), .val (.ref w_r), .val (.int (0 : Int32))] [(.int (0 : Int32)), (.int (own_isr w_r w_PARENT w_ANCESTOR w_PRECEDING_SIBLING w_PRECEDING w_ANCESTOR_OR_SELF))])) _
    refine XS.icmpNo X3.here hx rfl (hb hby at_30) rfl (teq hc30).2 ?_
    show Steps p.tables e below (T3.setTop (mkF m 33 #[.val (.int p1), .val (.int ((p1 &&& (2147483647 : Int32)) % (13 : Int32))), .val (.ref w_r), .val (.int (0 : Int32))] [])) _
    refine XS.iconst X3.here hx rfl (hb hby at_33) ?_
    show Steps p.tables e below (T3.setTop (mkF m 34 #[.val (.int p1), .val (.int ((p1 &&& (2147483647 : Int32)) % (13 : Int32))), .val (.ref w_r), .val (.int (0 : Int32))] [(.int (1 : Int32))])) _
    refine XS.goto X3.here hx rfl (pc0 := 34) (pc' := 38) rfl (hb hby at_34) (by decide) (by decide) ?_
    show Steps p.tables e below (T3.setTop (mkF m 38 #[.val (.int p1), .val (.int ((p1 &&& (2147483647 : Int32)) % (13 : Int32))), .val (.ref w_r), .val (.int (0 : Int32))] [(.int (1 : Int32))])) _
    exact retN X3 hx (t := .boolean) Bd.returns (by simp) (hb hby at_38) hr
  · show QP (.int (1 : Int32)) h0 n0 _ T3.heap _
    rw [e3]
    exact ⟨rfl, N3, rfl⟩
set_option maxRecDepth 65536 in
set_option maxHeartbeats 40000000 in
theorem rm0_ff (l : Launch) (Z : State) (a0 : Array Value) (hw : ∀ d ∈ tables_1, d.before a0 Z = true) (ws : List Jvm.Cond) (p1 : Int32) (w_CHILD : Addr) (w_DESCENDANT : Addr) (w_ATTRIBUTE : Addr) (w_SELF : Addr) (w_DESCENDANT_OR_SELF : Addr) (w_FOLLOWING_SIBLING : Addr) (w_FOLLOWING : Addr) (w_NAMESPACE : Addr) (w_PARENT : Addr) (w_ANCESTOR : Addr) (w_PRECEDING_SIBLING : Addr) (w_PRECEDING : Addr) (w_ANCESTOR_OR_SELF : Addr) (w_r : Addr) (h0 : Heap) (n0 : Nat) (Z0 : n0 ≤ h0.size) (E_w_r : Exa Z h0 w_r "com/example/sluice/sluice/xpath/Axis") (S_CHILD : Sta Z h0 "com/example/sluice/sluice/xpath/Axis" "CHILD" "Lcom/example/sluice/sluice/xpath/Axis;" (.ref w_CHILD)) (S_DESCENDANT : Sta Z h0 "com/example/sluice/sluice/xpath/Axis" "DESCENDANT" "Lcom/example/sluice/sluice/xpath/Axis;" (.ref w_DESCENDANT)) (S_ATTRIBUTE : Sta Z h0 "com/example/sluice/sluice/xpath/Axis" "ATTRIBUTE" "Lcom/example/sluice/sluice/xpath/Axis;" (.ref w_ATTRIBUTE)) (S_SELF : Sta Z h0 "com/example/sluice/sluice/xpath/Axis" "SELF" "Lcom/example/sluice/sluice/xpath/Axis;" (.ref w_SELF)) (S_DESCENDANT_OR_SELF : Sta Z h0 "com/example/sluice/sluice/xpath/Axis" "DESCENDANT_OR_SELF" "Lcom/example/sluice/sluice/xpath/Axis;" (.ref w_DESCENDANT_OR_SELF)) (S_FOLLOWING_SIBLING : Sta Z h0 "com/example/sluice/sluice/xpath/Axis" "FOLLOWING_SIBLING" "Lcom/example/sluice/sluice/xpath/Axis;" (.ref w_FOLLOWING_SIBLING)) (S_FOLLOWING : Sta Z h0 "com/example/sluice/sluice/xpath/Axis" "FOLLOWING" "Lcom/example/sluice/sluice/xpath/Axis;" (.ref w_FOLLOWING)) (S_NAMESPACE : Sta Z h0 "com/example/sluice/sluice/xpath/Axis" "NAMESPACE" "Lcom/example/sluice/sluice/xpath/Axis;" (.ref w_NAMESPACE)) (S_PARENT : Sta Z h0 "com/example/sluice/sluice/xpath/Axis" "PARENT" "Lcom/example/sluice/sluice/xpath/Axis;" (.ref w_PARENT)) (S_ANCESTOR : Sta Z h0 "com/example/sluice/sluice/xpath/Axis" "ANCESTOR" "Lcom/example/sluice/sluice/xpath/Axis;" (.ref w_ANCESTOR)) (S_PRECEDING_SIBLING : Sta Z h0 "com/example/sluice/sluice/xpath/Axis" "PRECEDING_SIBLING" "Lcom/example/sluice/sluice/xpath/Axis;" (.ref w_PRECEDING_SIBLING)) (S_PRECEDING : Sta Z h0 "com/example/sluice/sluice/xpath/Axis" "PRECEDING" "Lcom/example/sluice/sluice/xpath/Axis;" (.ref w_PRECEDING)) (S_ANCESTOR_OR_SELF : Sta Z h0 "com/example/sluice/sluice/xpath/Axis" "ANCESTOR_OR_SELF" "Lcom/example/sluice/sluice/xpath/Axis;" (.ref w_ANCESTOR_OR_SELF)) (hrx : own_ax ((p1 &&& (2147483647 : Int32)) % (13 : Int32)) w_CHILD w_DESCENDANT w_ATTRIBUTE w_SELF w_DESCENDANT_OR_SELF w_FOLLOWING_SIBLING w_FOLLOWING w_NAMESPACE w_PARENT w_ANCESTOR w_PRECEDING_SIBLING w_PRECEDING w_ANCESTOR_OR_SELF = w_r) (hc16 : ¬ (((p1 &&& (2147483647 : Int32)) % (13 : Int32)) < (8 : Int32))) (hc30 : (own_isr w_r w_PARENT w_ANCESTOR w_PRECEDING_SIBLING w_PRECEDING w_ANCESTOR_OR_SELF) = (1 : Int32)) :
    MetFree l x (head1 (Jvm.Cond.code x code maxLocals ret :: ws) room_1) (fun a U => a = #[(.int p1)] ∧ Z.Warmed39 U.vm ∧ U.heap = h0) (fun _ _ _ _ _ => True) (fun _ U o U' => ∃ v L, o = .returned v ∧ QP (.int (1 : Int32)) h0 n0 v U'.heap L ∧ FrameEnd U o U' L room_1.cells room_1.slots) := by
  refine MetFree.of_bodySF (plainFor_of_name pn_0) hisR ?_
  intro p e s m args below meth c s₁ Bd hml0 hP hK
  obtain ⟨rfl, hZ, hh⟩ := hP
  have hx := Bd.exec
  have hby := Bd.bytes
  have hml : c.maxLocals = 4 := hml0
  have hown : s.vm.findClass "com/example/sluice/sluice/xpath/AxisIsReversePinLaw" = some m.cls := findClass_of_methodNamed Bd.named
  have hnm := (name_of_methodNamed Bd.named Bd.method).1
  have X0 : Stand p l e room_1 s m #[(.int p1)] below meth c s₁ [] 0 0 := Stand.of_body Bd
  have e0 : s₁.heap = h0 := by rw [← hh, Bd.state]; rfl
  have N0 := Fr.nil n0
  have pre0 : ∀ t, Steps p.tables e below (s₁.setTop (mkF m 0 #[.val (.int p1), .unset, .unset, .unset] [])) t → Steps p.tables e below (s₁.setTop (entryFrame m #[(.int p1)] maxLocals)) t := fun t k => castTop (ef_0 m p1) k
  obtain ⟨_, _, ⟨T2, L2, k2, n2⟩, -, X2, ⟨Lc2, hQ2, l2, y2, z2⟩, st2⟩ := Jvm.LawKit.callS X0 hx (y := (⟨"com/example/sluice/sluice/xpath/AxisIsReversePinLaw", "axisAt", "(I)Lcom/example/sluice/sluice/xpath/Axis;"⟩ : MethodName)) hown (mvT hZ (hw _ (List.mem_of_getElem? (i := 1) rfl))) (mvT hZ (hw _ (List.mem_of_getElem? (i := 2) rfl))) (mvT hZ (hw _ (List.mem_of_getElem? (i := 3) rfl))) (mvT hZ (hw _ (List.mem_of_getElem? (i := 4) rfl))) (by decide) (backOf (W := 0) (rm1v l Z a0 hw [] ((p1 &&& (2147483647 : Int32)) % (13 : Int32)) w_CHILD w_DESCENDANT w_ATTRIBUTE w_SELF w_DESCENDANT_OR_SELF w_FOLLOWING_SIBLING w_FOLLOWING w_NAMESPACE w_PARENT w_ANCESTOR w_PRECEDING_SIBLING w_PRECEDING w_ANCESTOR_OR_SELF w_r h0 n0 Z0 S_CHILD S_DESCENDANT S_ATTRIBUTE S_SELF S_DESCENDANT_OR_SELF S_FOLLOWING_SIBLING S_FOLLOWING S_NAMESPACE S_PARENT S_ANCESTOR S_PRECEDING_SIBLING S_PRECEDING S_ANCESTOR_OR_SELF hrx) hZ (hw _ (List.mem_of_getElem? (i := 4) rfl)) (hw _ (List.mem_of_getElem? (i := 3) rfl)) (by decide) (by decide)) (g := (mkF m 9 #[.val (.int p1), .val (.int ((p1 &&& (2147483647 : Int32)) % (13 : Int32))), .unset, .unset] [(.int ((p1 &&& (2147483647 : Int32)) % (13 : Int32)))])) rfl (by rw [hml]; rfl) (argsL := [(.int ((p1 &&& (2147483647 : Int32)) % (13 : Int32)))]) (rest := []) (lenOf pd_0_0 rfl) rfl (by show 2 * 0 + _ ≤ _; exact Nat.le_of_eq rfl) (hb hby at_9) (fun _ _ => ⟨rfl, e0, (by decide : 0 + 0 ≤ _), (by decide : 0 + 0 ≤ _)⟩)
  dsimp only [Pt.U, Pt.locs, Pt.cells, Pt.slots] at X2 l2 y2 z2 st2 hQ2
  subst l2 y2 z2
  obtain ⟨rfl, N2q, e2⟩ := hQ2
  have N2 := Fr.app N0 N2q
  obtain ⟨cq3, kq3, q3a, q3b, q3c⟩ := isOf hZ e2 E_w_r
  obtain ⟨_, _, ⟨T3, L3, k3, n3⟩, -, X3, ⟨Lc3, hQ3, l3, y3, z3⟩, st3⟩ := X2.virtualBack hx (y := (⟨"com/example/sluice/sluice/xpath/Axis", "isReverse", "()Z"⟩ : MethodName)) (z := (⟨"com/example/sluice/sluice/xpath/Axis", "isReverse", "()Z"⟩ : MethodName)) hown (mvT hZ (hw _ (List.mem_of_getElem? (i := 8) rfl))) (mvT hZ (hw _ (List.mem_of_getElem? (i := 9) rfl))) (notFace_of_selects (args := #[]) (mvT hZ (hw _ (List.mem_of_getElem? (i := 11) rfl)))) (mvT hZ (hw _ (List.mem_of_getElem? (i := 11) rfl))) (mvT hZ (hw _ (List.mem_of_getElem? (i := 10) rfl))) (by decide) (backOf (W := 0) (rm2 l Z a0 hw [] w_r w_PARENT w_ANCESTOR w_PRECEDING_SIBLING w_PRECEDING w_ANCESTOR_OR_SELF h0 n0 Z0 S_PARENT S_ANCESTOR S_PRECEDING_SIBLING S_PRECEDING S_ANCESTOR_OR_SELF) hZ (hw _ (List.mem_of_getElem? (i := 12) rfl)) (hw _ (List.mem_of_getElem? (i := 6) rfl)) (by decide) (by decide)) q3a q3c (g := (mkF m 26 #[.val (.int p1), .val (.int ((p1 &&& (2147483647 : Int32)) % (13 : Int32))), .val (.ref w_r), .val (.int (1 : Int32))] [(.ref w_r)])) rfl (by rw [hml]; rfl) (Steps.refl _) (argsL := []) (rest := []) (lenOf pd_0_1 rfl) rfl (by show 2 * 0 + _ ≤ _; exact Nat.le_of_eq rfl) (hb hby at_26) (fun _ _ => ⟨rfl, e2, (by decide : 0 + 0 ≤ _), (by decide : 0 + 0 ≤ _)⟩)
  dsimp only [Pt.U, Pt.locs, Pt.cells, Pt.slots] at X3 l3 y3 z3 st3 hQ3
  subst l3 y3 z3
  obtain ⟨rfl, N3q, e3⟩ := hQ3
  have N3 := Fr.app N2 N3q
  obtain ⟨fs, hr, hrun, hended, hW, hsame⟩ := X3.leave (v := some (.int (1 : Int32))) (fun h => by rw [Bd.returns] at h; cases h)
  refine ⟨_, _, pre0 _ ?_, hrun, hended, _, _, rfl, ?_, ⟨_, rfl⟩, hW, hsame.mono (by decide) (by decide)⟩
  · show Steps p.tables e below (s₁.setTop (mkF m 0 #[.val (.int p1), .unset, .unset, .unset] [])) _
    refine XS.iloadN X0.here hx rfl (hb hby at_0) rfl ?_
    show Steps p.tables e below (s₁.setTop (mkF m 1 #[.val (.int p1), .unset, .unset, .unset] [(.int p1)])) _
    refine X0.ldcInt hx hown (mvT hZ (hw _ (List.mem_of_getElem? (i := 0) rfl))) (g := (mkF m 1 #[.val (.int p1), .unset, .unset, .unset] [(.int p1)])) rfl (hb hby at_1) _ ?_
    show Steps p.tables e below (s₁.setTop (mkF m 3 #[.val (.int p1), .unset, .unset, .unset] [(.int (2147483647 : Int32)), (.int p1)])) _
    refine XS.iand X0.here hx rfl (hb hby at_3) rfl ?_
    show Steps p.tables e below (s₁.setTop (mkF m 4 #[.val (.int p1), .unset, .unset, .unset] [(.int (p1 &&& (2147483647 : Int32)))])) _
    refine XS.bipush X0.here hx rfl (hb hby at_4) ?_
    show Steps p.tables e below (s₁.setTop (mkF m 6 #[.val (.int p1), .unset, .unset, .unset] [(.int (13 : Int32)), (.int (p1 &&& (2147483647 : Int32)))])) _
    refine iremM X0 hx rfl (hb hby at_6) rfl (by decide) ?_
    show Steps p.tables e below (s₁.setTop (mkF m 7 #[.val (.int p1), .unset, .unset, .unset] [(.int ((p1 &&& (2147483647 : Int32)) % (13 : Int32)))])) _
    refine XS.istoreN X0.here hx rfl (hb hby at_7) rfl (l' := #[.val (.int p1), .val (.int ((p1 &&& (2147483647 : Int32)) % (13 : Int32))), .unset, .unset]) rfl ?_
    show Steps p.tables e below (s₁.setTop (mkF m 8 #[.val (.int p1), .val (.int ((p1 &&& (2147483647 : Int32)) % (13 : Int32))), .unset, .unset] [])) _
    refine XS.iloadN X0.here hx rfl (hb hby at_8) rfl ?_
    show Steps p.tables e below (s₁.setTop (mkF m 9 #[.val (.int p1), .val (.int ((p1 &&& (2147483647 : Int32)) % (13 : Int32))), .unset, .unset] [(.int ((p1 &&& (2147483647 : Int32)) % (13 : Int32)))])) _
    refine st2 _ ?_
    show Steps p.tables e below (T2.setTop (mkF m 12 #[.val (.int p1), .val (.int ((p1 &&& (2147483647 : Int32)) % (13 : Int32))), .unset, .unset] [(.ref w_r)])) _
    refine XS.astoreN X2.here hx rfl (hb hby at_12) rfl rfl (l' := #[.val (.int p1), .val (.int ((p1 &&& (2147483647 : Int32)) % (13 : Int32))), .val (.ref w_r), .unset]) rfl ?_
    show Steps p.tables e below (T2.setTop (mkF m 13 #[.val (.int p1), .val (.int ((p1 &&& (2147483647 : Int32)) % (13 : Int32))), .val (.ref w_r), .unset] [])) _
    refine XS.iloadN X2.here hx rfl (hb hby at_13) rfl ?_
    show Steps p.tables e below (T2.setTop (mkF m 14 #[.val (.int p1), .val (.int ((p1 &&& (2147483647 : Int32)) % (13 : Int32))), .val (.ref w_r), .unset] [(.int ((p1 &&& (2147483647 : Int32)) % (13 : Int32)))])) _
    refine XS.bipush X2.here hx rfl (hb hby at_14) ?_
    show Steps p.tables e below (T2.setTop (mkF m 16 #[.val (.int p1), .val (.int ((p1 &&& (2147483647 : Int32)) % (13 : Int32))), .val (.ref w_r), .unset] [(.int (8 : Int32)), (.int ((p1 &&& (2147483647 : Int32)) % (13 : Int32)))])) _
    refine XS.icmpNo X2.here hx rfl (hb hby at_16) rfl (flt hc16).1 ?_
    show Steps p.tables e below (T2.setTop (mkF m 19 #[.val (.int p1), .val (.int ((p1 &&& (2147483647 : Int32)) % (13 : Int32))), .val (.ref w_r), .unset] [])) _
    refine XS.iconst X2.here hx rfl (hb hby at_19) ?_
    show Steps p.tables e below (T2.setTop (mkF m 20 #[.val (.int p1), .val (.int ((p1 &&& (2147483647 : Int32)) % (13 : Int32))), .val (.ref w_r), .unset] [(.int (1 : Int32))])) _
    refine XS.goto X2.here hx rfl (pc0 := 20) (pc' := 24) rfl (hb hby at_20) (by decide) (by decide) ?_
    show Steps p.tables e below (T2.setTop (mkF m 24 #[.val (.int p1), .val (.int ((p1 &&& (2147483647 : Int32)) % (13 : Int32))), .val (.ref w_r), .unset] [(.int (1 : Int32))])) _
    refine XS.istoreN X2.here hx rfl (hb hby at_24) rfl (l' := #[.val (.int p1), .val (.int ((p1 &&& (2147483647 : Int32)) % (13 : Int32))), .val (.ref w_r), .val (.int (1 : Int32))]) rfl ?_
    show Steps p.tables e below (T2.setTop (mkF m 25 #[.val (.int p1), .val (.int ((p1 &&& (2147483647 : Int32)) % (13 : Int32))), .val (.ref w_r), .val (.int (1 : Int32))] [])) _
    refine XS.aloadN X2.here hx rfl (hb hby at_25) rfl rfl ?_
    show Steps p.tables e below (T2.setTop (mkF m 26 #[.val (.int p1), .val (.int ((p1 &&& (2147483647 : Int32)) % (13 : Int32))), .val (.ref w_r), .val (.int (1 : Int32))] [(.ref w_r)])) _
    refine st3.trans ?_
    show Steps p.tables e below (T3.setTop (mkF m 29 #[.val (.int p1), .val (.int ((p1 &&& (2147483647 : Int32)) % (13 : Int32))), .val (.ref w_r), .val (.int (1 : Int32))] [(.int (own_isr w_r w_PARENT w_ANCESTOR w_PRECEDING_SIBLING w_PRECEDING w_ANCESTOR_OR_SELF))])) _
    refine XS.iloadN X3.here hx rfl (hb hby at_29) rfl ?_
    show Steps p.tables e below (T3.setTop (mkF m 30 #[.val (.int p1), .val (.int ((p1 &&& (2147483647 : Int32)) % (13 : Int32))), .val (.ref w_r), .val (.int (1 : Int32))] [(.int (1 : Int32)), (.int (own_isr w_r w_PARENT w_ANCESTOR w_PRECEDING_SIBLING w_PRECEDING w_ANCESTOR_OR_SELF))])) _
    refine XS.icmpNo X3.here hx rfl (hb hby at_30) rfl (teq hc30).2 ?_
    show Steps p.tables e below (T3.setTop (mkF m 33 #[.val (.int p1), .val (.int ((p1 &&& (2147483647 : Int32)) % (13 : Int32))), .val (.ref w_r), .val (.int (1 : Int32))] [])) _
    refine XS.iconst X3.here hx rfl (hb hby at_33) ?_
    show Steps p.tables e below (T3.setTop (mkF m 34 #[.val (.int p1), .val (.int ((p1 &&& (2147483647 : Int32)) % (13 : Int32))), .val (.ref w_r), .val (.int (1 : Int32))] [(.int (1 : Int32))])) _
    refine XS.goto X3.here hx rfl (pc0 := 34) (pc' := 38) rfl (hb hby at_34) (by decide) (by decide) ?_
    show Steps p.tables e below (T3.setTop (mkF m 38 #[.val (.int p1), .val (.int ((p1 &&& (2147483647 : Int32)) % (13 : Int32))), .val (.ref w_r), .val (.int (1 : Int32))] [(.int (1 : Int32))])) _
    exact retN X3 hx (t := .boolean) Bd.returns (by simp) (hb hby at_38) hr
  · show QP (.int (1 : Int32)) h0 n0 _ T3.heap _
    rw [e3]
    exact ⟨rfl, N3, rfl⟩
theorem rm0 (l : Launch) (Z : State) (a0 : Array Value) (hw : ∀ d ∈ tables_1, d.before a0 Z = true) (ws : List Jvm.Cond) (p1 : Int32) (w_CHILD : Addr) (w_DESCENDANT : Addr) (w_ATTRIBUTE : Addr) (w_SELF : Addr) (w_DESCENDANT_OR_SELF : Addr) (w_FOLLOWING_SIBLING : Addr) (w_FOLLOWING : Addr) (w_NAMESPACE : Addr) (w_PARENT : Addr) (w_ANCESTOR : Addr) (w_PRECEDING_SIBLING : Addr) (w_PRECEDING : Addr) (w_ANCESTOR_OR_SELF : Addr) (h0 : Heap) (n0 : Nat) (Z0 : n0 ≤ h0.size) (S_CHILD : Sta Z h0 "com/example/sluice/sluice/xpath/Axis" "CHILD" "Lcom/example/sluice/sluice/xpath/Axis;" (.ref w_CHILD)) (S_DESCENDANT : Sta Z h0 "com/example/sluice/sluice/xpath/Axis" "DESCENDANT" "Lcom/example/sluice/sluice/xpath/Axis;" (.ref w_DESCENDANT)) (S_ATTRIBUTE : Sta Z h0 "com/example/sluice/sluice/xpath/Axis" "ATTRIBUTE" "Lcom/example/sluice/sluice/xpath/Axis;" (.ref w_ATTRIBUTE)) (S_SELF : Sta Z h0 "com/example/sluice/sluice/xpath/Axis" "SELF" "Lcom/example/sluice/sluice/xpath/Axis;" (.ref w_SELF)) (S_DESCENDANT_OR_SELF : Sta Z h0 "com/example/sluice/sluice/xpath/Axis" "DESCENDANT_OR_SELF" "Lcom/example/sluice/sluice/xpath/Axis;" (.ref w_DESCENDANT_OR_SELF)) (S_FOLLOWING_SIBLING : Sta Z h0 "com/example/sluice/sluice/xpath/Axis" "FOLLOWING_SIBLING" "Lcom/example/sluice/sluice/xpath/Axis;" (.ref w_FOLLOWING_SIBLING)) (S_FOLLOWING : Sta Z h0 "com/example/sluice/sluice/xpath/Axis" "FOLLOWING" "Lcom/example/sluice/sluice/xpath/Axis;" (.ref w_FOLLOWING)) (S_NAMESPACE : Sta Z h0 "com/example/sluice/sluice/xpath/Axis" "NAMESPACE" "Lcom/example/sluice/sluice/xpath/Axis;" (.ref w_NAMESPACE)) (S_PARENT : Sta Z h0 "com/example/sluice/sluice/xpath/Axis" "PARENT" "Lcom/example/sluice/sluice/xpath/Axis;" (.ref w_PARENT)) (S_ANCESTOR : Sta Z h0 "com/example/sluice/sluice/xpath/Axis" "ANCESTOR" "Lcom/example/sluice/sluice/xpath/Axis;" (.ref w_ANCESTOR)) (S_PRECEDING_SIBLING : Sta Z h0 "com/example/sluice/sluice/xpath/Axis" "PRECEDING_SIBLING" "Lcom/example/sluice/sluice/xpath/Axis;" (.ref w_PRECEDING_SIBLING)) (S_PRECEDING : Sta Z h0 "com/example/sluice/sluice/xpath/Axis" "PRECEDING" "Lcom/example/sluice/sluice/xpath/Axis;" (.ref w_PRECEDING)) (S_ANCESTOR_OR_SELF : Sta Z h0 "com/example/sluice/sluice/xpath/Axis" "ANCESTOR_OR_SELF" "Lcom/example/sluice/sluice/xpath/Axis;" (.ref w_ANCESTOR_OR_SELF)) (E_w_CHILD : Exa Z h0 w_CHILD "com/example/sluice/sluice/xpath/Axis") (E_w_DESCENDANT : Exa Z h0 w_DESCENDANT "com/example/sluice/sluice/xpath/Axis") (E_w_ATTRIBUTE : Exa Z h0 w_ATTRIBUTE "com/example/sluice/sluice/xpath/Axis") (E_w_SELF : Exa Z h0 w_SELF "com/example/sluice/sluice/xpath/Axis") (E_w_DESCENDANT_OR_SELF : Exa Z h0 w_DESCENDANT_OR_SELF "com/example/sluice/sluice/xpath/Axis") (E_w_FOLLOWING_SIBLING : Exa Z h0 w_FOLLOWING_SIBLING "com/example/sluice/sluice/xpath/Axis") (E_w_FOLLOWING : Exa Z h0 w_FOLLOWING "com/example/sluice/sluice/xpath/Axis") (E_w_NAMESPACE : Exa Z h0 w_NAMESPACE "com/example/sluice/sluice/xpath/Axis") (E_w_PARENT : Exa Z h0 w_PARENT "com/example/sluice/sluice/xpath/Axis") (E_w_ANCESTOR : Exa Z h0 w_ANCESTOR "com/example/sluice/sluice/xpath/Axis") (E_w_PRECEDING_SIBLING : Exa Z h0 w_PRECEDING_SIBLING "com/example/sluice/sluice/xpath/Axis") (E_w_PRECEDING : Exa Z h0 w_PRECEDING "com/example/sluice/sluice/xpath/Axis") (E_w_ANCESTOR_OR_SELF : Exa Z h0 w_ANCESTOR_OR_SELF "com/example/sluice/sluice/xpath/Axis") (ne_CHILD_PARENT : ¬ (w_CHILD = w_PARENT)) (ne_CHILD_ANCESTOR : ¬ (w_CHILD = w_ANCESTOR)) (ne_CHILD_PRECEDING_SIBLING : ¬ (w_CHILD = w_PRECEDING_SIBLING)) (ne_CHILD_PRECEDING : ¬ (w_CHILD = w_PRECEDING)) (ne_CHILD_ANCESTOR_OR_SELF : ¬ (w_CHILD = w_ANCESTOR_OR_SELF)) (ne_DESCENDANT_PARENT : ¬ (w_DESCENDANT = w_PARENT)) (ne_DESCENDANT_ANCESTOR : ¬ (w_DESCENDANT = w_ANCESTOR)) (ne_DESCENDANT_PRECEDING_SIBLING : ¬ (w_DESCENDANT = w_PRECEDING_SIBLING)) (ne_DESCENDANT_PRECEDING : ¬ (w_DESCENDANT = w_PRECEDING)) (ne_DESCENDANT_ANCESTOR_OR_SELF : ¬ (w_DESCENDANT = w_ANCESTOR_OR_SELF)) (ne_ATTRIBUTE_PARENT : ¬ (w_ATTRIBUTE = w_PARENT)) (ne_ATTRIBUTE_ANCESTOR : ¬ (w_ATTRIBUTE = w_ANCESTOR)) (ne_ATTRIBUTE_PRECEDING_SIBLING : ¬ (w_ATTRIBUTE = w_PRECEDING_SIBLING)) (ne_ATTRIBUTE_PRECEDING : ¬ (w_ATTRIBUTE = w_PRECEDING)) (ne_ATTRIBUTE_ANCESTOR_OR_SELF : ¬ (w_ATTRIBUTE = w_ANCESTOR_OR_SELF)) (ne_SELF_PARENT : ¬ (w_SELF = w_PARENT)) (ne_SELF_ANCESTOR : ¬ (w_SELF = w_ANCESTOR)) (ne_SELF_PRECEDING_SIBLING : ¬ (w_SELF = w_PRECEDING_SIBLING)) (ne_SELF_PRECEDING : ¬ (w_SELF = w_PRECEDING)) (ne_SELF_ANCESTOR_OR_SELF : ¬ (w_SELF = w_ANCESTOR_OR_SELF)) (ne_DESCENDANT_OR_SELF_PARENT : ¬ (w_DESCENDANT_OR_SELF = w_PARENT)) (ne_DESCENDANT_OR_SELF_ANCESTOR : ¬ (w_DESCENDANT_OR_SELF = w_ANCESTOR)) (ne_DESCENDANT_OR_SELF_PRECEDING_SIBLING : ¬ (w_DESCENDANT_OR_SELF = w_PRECEDING_SIBLING)) (ne_DESCENDANT_OR_SELF_PRECEDING : ¬ (w_DESCENDANT_OR_SELF = w_PRECEDING)) (ne_DESCENDANT_OR_SELF_ANCESTOR_OR_SELF : ¬ (w_DESCENDANT_OR_SELF = w_ANCESTOR_OR_SELF)) (ne_FOLLOWING_SIBLING_PARENT : ¬ (w_FOLLOWING_SIBLING = w_PARENT)) (ne_FOLLOWING_SIBLING_ANCESTOR : ¬ (w_FOLLOWING_SIBLING = w_ANCESTOR)) (ne_FOLLOWING_SIBLING_PRECEDING_SIBLING : ¬ (w_FOLLOWING_SIBLING = w_PRECEDING_SIBLING)) (ne_FOLLOWING_SIBLING_PRECEDING : ¬ (w_FOLLOWING_SIBLING = w_PRECEDING)) (ne_FOLLOWING_SIBLING_ANCESTOR_OR_SELF : ¬ (w_FOLLOWING_SIBLING = w_ANCESTOR_OR_SELF)) (ne_FOLLOWING_PARENT : ¬ (w_FOLLOWING = w_PARENT)) (ne_FOLLOWING_ANCESTOR : ¬ (w_FOLLOWING = w_ANCESTOR)) (ne_FOLLOWING_PRECEDING_SIBLING : ¬ (w_FOLLOWING = w_PRECEDING_SIBLING)) (ne_FOLLOWING_PRECEDING : ¬ (w_FOLLOWING = w_PRECEDING)) (ne_FOLLOWING_ANCESTOR_OR_SELF : ¬ (w_FOLLOWING = w_ANCESTOR_OR_SELF)) (ne_NAMESPACE_PARENT : ¬ (w_NAMESPACE = w_PARENT)) (ne_NAMESPACE_ANCESTOR : ¬ (w_NAMESPACE = w_ANCESTOR)) (ne_NAMESPACE_PRECEDING_SIBLING : ¬ (w_NAMESPACE = w_PRECEDING_SIBLING)) (ne_NAMESPACE_PRECEDING : ¬ (w_NAMESPACE = w_PRECEDING)) (ne_NAMESPACE_ANCESTOR_OR_SELF : ¬ (w_NAMESPACE = w_ANCESTOR_OR_SELF)) (ne_ANCESTOR_PARENT : ¬ (w_ANCESTOR = w_PARENT)) (ne_PRECEDING_SIBLING_PARENT : ¬ (w_PRECEDING_SIBLING = w_PARENT)) (ne_PRECEDING_SIBLING_ANCESTOR : ¬ (w_PRECEDING_SIBLING = w_ANCESTOR)) (ne_PRECEDING_PARENT : ¬ (w_PRECEDING = w_PARENT)) (ne_PRECEDING_ANCESTOR : ¬ (w_PRECEDING = w_ANCESTOR)) (ne_PRECEDING_PRECEDING_SIBLING : ¬ (w_PRECEDING = w_PRECEDING_SIBLING)) (ne_ANCESTOR_OR_SELF_PARENT : ¬ (w_ANCESTOR_OR_SELF = w_PARENT)) (ne_ANCESTOR_OR_SELF_ANCESTOR : ¬ (w_ANCESTOR_OR_SELF = w_ANCESTOR)) (ne_ANCESTOR_OR_SELF_PRECEDING_SIBLING : ¬ (w_ANCESTOR_OR_SELF = w_PRECEDING_SIBLING)) (ne_ANCESTOR_OR_SELF_PRECEDING : ¬ (w_ANCESTOR_OR_SELF = w_PRECEDING)) :
    MetFree l x (head1 (Jvm.Cond.code x code maxLocals ret :: ws) room_1) (fun a U => a = #[(.int p1)] ∧ Z.Warmed39 U.vm ∧ U.heap = h0) (fun _ _ _ _ _ => True) (fun _ U o U' => ∃ v L, o = .returned v ∧ QP (.int 1) h0 n0 v U'.heap L ∧ FrameEnd U o U' L room_1.cells room_1.slots) := by
  obtain ⟨j, e⟩ := own_fin p1 13 13 (by decide) (by decide)
  match j, e with
  | ⟨0, _⟩, e => replace e := e.trans (show _ = Int32.ofInt ((0 : Nat) : Int) from rfl); exact rm0_tf l Z a0 hw ws p1 w_CHILD w_DESCENDANT w_ATTRIBUTE w_SELF w_DESCENDANT_OR_SELF w_FOLLOWING_SIBLING w_FOLLOWING w_NAMESPACE w_PARENT w_ANCESTOR w_PRECEDING_SIBLING w_PRECEDING w_ANCESTOR_OR_SELF w_CHILD h0 n0 Z0 E_w_CHILD S_CHILD S_DESCENDANT S_ATTRIBUTE S_SELF S_DESCENDANT_OR_SELF S_FOLLOWING_SIBLING S_FOLLOWING S_NAMESPACE S_PARENT S_ANCESTOR S_PRECEDING_SIBLING S_PRECEDING S_ANCESTOR_OR_SELF (by rw [e]; unfold own_ax; rw [if_pos (by decide)]) (by rw [e]; decide) (by unfold own_isr; rw [if_neg ne_CHILD_PARENT, if_neg ne_CHILD_ANCESTOR, if_neg ne_CHILD_PRECEDING_SIBLING, if_neg ne_CHILD_PRECEDING, if_neg ne_CHILD_ANCESTOR_OR_SELF])
  | ⟨1, _⟩, e => replace e := e.trans (show _ = Int32.ofInt ((1 : Nat) : Int) from rfl); exact rm0_tf l Z a0 hw ws p1 w_CHILD w_DESCENDANT w_ATTRIBUTE w_SELF w_DESCENDANT_OR_SELF w_FOLLOWING_SIBLING w_FOLLOWING w_NAMESPACE w_PARENT w_ANCESTOR w_PRECEDING_SIBLING w_PRECEDING w_ANCESTOR_OR_SELF w_DESCENDANT h0 n0 Z0 E_w_DESCENDANT S_CHILD S_DESCENDANT S_ATTRIBUTE S_SELF S_DESCENDANT_OR_SELF S_FOLLOWING_SIBLING S_FOLLOWING S_NAMESPACE S_PARENT S_ANCESTOR S_PRECEDING_SIBLING S_PRECEDING S_ANCESTOR_OR_SELF (by rw [e]; unfold own_ax; rw [if_neg (by decide), if_pos (by decide)]) (by rw [e]; decide) (by unfold own_isr; rw [if_neg ne_DESCENDANT_PARENT, if_neg ne_DESCENDANT_ANCESTOR, if_neg ne_DESCENDANT_PRECEDING_SIBLING, if_neg ne_DESCENDANT_PRECEDING, if_neg ne_DESCENDANT_ANCESTOR_OR_SELF])
  | ⟨2, _⟩, e => replace e := e.trans (show _ = Int32.ofInt ((2 : Nat) : Int) from rfl); exact rm0_tf l Z a0 hw ws p1 w_CHILD w_DESCENDANT w_ATTRIBUTE w_SELF w_DESCENDANT_OR_SELF w_FOLLOWING_SIBLING w_FOLLOWING w_NAMESPACE w_PARENT w_ANCESTOR w_PRECEDING_SIBLING w_PRECEDING w_ANCESTOR_OR_SELF w_ATTRIBUTE h0 n0 Z0 E_w_ATTRIBUTE S_CHILD S_DESCENDANT S_ATTRIBUTE S_SELF S_DESCENDANT_OR_SELF S_FOLLOWING_SIBLING S_FOLLOWING S_NAMESPACE S_PARENT S_ANCESTOR S_PRECEDING_SIBLING S_PRECEDING S_ANCESTOR_OR_SELF (by rw [e]; unfold own_ax; rw [if_neg (by decide), if_neg (by decide), if_pos (by decide)]) (by rw [e]; decide) (by unfold own_isr; rw [if_neg ne_ATTRIBUTE_PARENT, if_neg ne_ATTRIBUTE_ANCESTOR, if_neg ne_ATTRIBUTE_PRECEDING_SIBLING, if_neg ne_ATTRIBUTE_PRECEDING, if_neg ne_ATTRIBUTE_ANCESTOR_OR_SELF])
  | ⟨3, _⟩, e => replace e := e.trans (show _ = Int32.ofInt ((3 : Nat) : Int) from rfl); exact rm0_tf l Z a0 hw ws p1 w_CHILD w_DESCENDANT w_ATTRIBUTE w_SELF w_DESCENDANT_OR_SELF w_FOLLOWING_SIBLING w_FOLLOWING w_NAMESPACE w_PARENT w_ANCESTOR w_PRECEDING_SIBLING w_PRECEDING w_ANCESTOR_OR_SELF w_SELF h0 n0 Z0 E_w_SELF S_CHILD S_DESCENDANT S_ATTRIBUTE S_SELF S_DESCENDANT_OR_SELF S_FOLLOWING_SIBLING S_FOLLOWING S_NAMESPACE S_PARENT S_ANCESTOR S_PRECEDING_SIBLING S_PRECEDING S_ANCESTOR_OR_SELF (by rw [e]; unfold own_ax; rw [if_neg (by decide), if_neg (by decide), if_neg (by decide), if_pos (by decide)]) (by rw [e]; decide) (by unfold own_isr; rw [if_neg ne_SELF_PARENT, if_neg ne_SELF_ANCESTOR, if_neg ne_SELF_PRECEDING_SIBLING, if_neg ne_SELF_PRECEDING, if_neg ne_SELF_ANCESTOR_OR_SELF])
  | ⟨4, _⟩, e => replace e := e.trans (show _ = Int32.ofInt ((4 : Nat) : Int) from rfl); exact rm0_tf l Z a0 hw ws p1 w_CHILD w_DESCENDANT w_ATTRIBUTE w_SELF w_DESCENDANT_OR_SELF w_FOLLOWING_SIBLING w_FOLLOWING w_NAMESPACE w_PARENT w_ANCESTOR w_PRECEDING_SIBLING w_PRECEDING w_ANCESTOR_OR_SELF w_DESCENDANT_OR_SELF h0 n0 Z0 E_w_DESCENDANT_OR_SELF S_CHILD S_DESCENDANT S_ATTRIBUTE S_SELF S_DESCENDANT_OR_SELF S_FOLLOWING_SIBLING S_FOLLOWING S_NAMESPACE S_PARENT S_ANCESTOR S_PRECEDING_SIBLING S_PRECEDING S_ANCESTOR_OR_SELF (by rw [e]; unfold own_ax; rw [if_neg (by decide), if_neg (by decide), if_neg (by decide), if_neg (by decide), if_pos (by decide)]) (by rw [e]; decide) (by unfold own_isr; rw [if_neg ne_DESCENDANT_OR_SELF_PARENT, if_neg ne_DESCENDANT_OR_SELF_ANCESTOR, if_neg ne_DESCENDANT_OR_SELF_PRECEDING_SIBLING, if_neg ne_DESCENDANT_OR_SELF_PRECEDING, if_neg ne_DESCENDANT_OR_SELF_ANCESTOR_OR_SELF])
  | ⟨5, _⟩, e => replace e := e.trans (show _ = Int32.ofInt ((5 : Nat) : Int) from rfl); exact rm0_tf l Z a0 hw ws p1 w_CHILD w_DESCENDANT w_ATTRIBUTE w_SELF w_DESCENDANT_OR_SELF w_FOLLOWING_SIBLING w_FOLLOWING w_NAMESPACE w_PARENT w_ANCESTOR w_PRECEDING_SIBLING w_PRECEDING w_ANCESTOR_OR_SELF w_FOLLOWING_SIBLING h0 n0 Z0 E_w_FOLLOWING_SIBLING S_CHILD S_DESCENDANT S_ATTRIBUTE S_SELF S_DESCENDANT_OR_SELF S_FOLLOWING_SIBLING S_FOLLOWING S_NAMESPACE S_PARENT S_ANCESTOR S_PRECEDING_SIBLING S_PRECEDING S_ANCESTOR_OR_SELF (by rw [e]; unfold own_ax; rw [if_neg (by decide), if_neg (by decide), if_neg (by decide), if_neg (by decide), if_neg (by decide), if_pos (by decide)]) (by rw [e]; decide) (by unfold own_isr; rw [if_neg ne_FOLLOWING_SIBLING_PARENT, if_neg ne_FOLLOWING_SIBLING_ANCESTOR, if_neg ne_FOLLOWING_SIBLING_PRECEDING_SIBLING, if_neg ne_FOLLOWING_SIBLING_PRECEDING, if_neg ne_FOLLOWING_SIBLING_ANCESTOR_OR_SELF])
  | ⟨6, _⟩, e => replace e := e.trans (show _ = Int32.ofInt ((6 : Nat) : Int) from rfl); exact rm0_tf l Z a0 hw ws p1 w_CHILD w_DESCENDANT w_ATTRIBUTE w_SELF w_DESCENDANT_OR_SELF w_FOLLOWING_SIBLING w_FOLLOWING w_NAMESPACE w_PARENT w_ANCESTOR w_PRECEDING_SIBLING w_PRECEDING w_ANCESTOR_OR_SELF w_FOLLOWING h0 n0 Z0 E_w_FOLLOWING S_CHILD S_DESCENDANT S_ATTRIBUTE S_SELF S_DESCENDANT_OR_SELF S_FOLLOWING_SIBLING S_FOLLOWING S_NAMESPACE S_PARENT S_ANCESTOR S_PRECEDING_SIBLING S_PRECEDING S_ANCESTOR_OR_SELF (by rw [e]; unfold own_ax; rw [if_neg (by decide), if_neg (by decide), if_neg (by decide), if_neg (by decide), if_neg (by decide), if_neg (by decide), if_pos (by decide)]) (by rw [e]; decide) (by unfold own_isr; rw [if_neg ne_FOLLOWING_PARENT, if_neg ne_FOLLOWING_ANCESTOR, if_neg ne_FOLLOWING_PRECEDING_SIBLING, if_neg ne_FOLLOWING_PRECEDING, if_neg ne_FOLLOWING_ANCESTOR_OR_SELF])
  | ⟨7, _⟩, e => replace e := e.trans (show _ = Int32.ofInt ((7 : Nat) : Int) from rfl); exact rm0_tf l Z a0 hw ws p1 w_CHILD w_DESCENDANT w_ATTRIBUTE w_SELF w_DESCENDANT_OR_SELF w_FOLLOWING_SIBLING w_FOLLOWING w_NAMESPACE w_PARENT w_ANCESTOR w_PRECEDING_SIBLING w_PRECEDING w_ANCESTOR_OR_SELF w_NAMESPACE h0 n0 Z0 E_w_NAMESPACE S_CHILD S_DESCENDANT S_ATTRIBUTE S_SELF S_DESCENDANT_OR_SELF S_FOLLOWING_SIBLING S_FOLLOWING S_NAMESPACE S_PARENT S_ANCESTOR S_PRECEDING_SIBLING S_PRECEDING S_ANCESTOR_OR_SELF (by rw [e]; unfold own_ax; rw [if_neg (by decide), if_neg (by decide), if_neg (by decide), if_neg (by decide), if_neg (by decide), if_neg (by decide), if_neg (by decide), if_pos (by decide)]) (by rw [e]; decide) (by unfold own_isr; rw [if_neg ne_NAMESPACE_PARENT, if_neg ne_NAMESPACE_ANCESTOR, if_neg ne_NAMESPACE_PRECEDING_SIBLING, if_neg ne_NAMESPACE_PRECEDING, if_neg ne_NAMESPACE_ANCESTOR_OR_SELF])
  | ⟨8, _⟩, e => replace e := e.trans (show _ = Int32.ofInt ((8 : Nat) : Int) from rfl); exact rm0_ff l Z a0 hw ws p1 w_CHILD w_DESCENDANT w_ATTRIBUTE w_SELF w_DESCENDANT_OR_SELF w_FOLLOWING_SIBLING w_FOLLOWING w_NAMESPACE w_PARENT w_ANCESTOR w_PRECEDING_SIBLING w_PRECEDING w_ANCESTOR_OR_SELF w_PARENT h0 n0 Z0 E_w_PARENT S_CHILD S_DESCENDANT S_ATTRIBUTE S_SELF S_DESCENDANT_OR_SELF S_FOLLOWING_SIBLING S_FOLLOWING S_NAMESPACE S_PARENT S_ANCESTOR S_PRECEDING_SIBLING S_PRECEDING S_ANCESTOR_OR_SELF (by rw [e]; unfold own_ax; rw [if_neg (by decide), if_neg (by decide), if_neg (by decide), if_neg (by decide), if_neg (by decide), if_neg (by decide), if_neg (by decide), if_neg (by decide), if_pos (by decide)]) (by rw [e]; decide) (by unfold own_isr; rw [if_pos rfl])
  | ⟨9, _⟩, e => replace e := e.trans (show _ = Int32.ofInt ((9 : Nat) : Int) from rfl); exact rm0_ff l Z a0 hw ws p1 w_CHILD w_DESCENDANT w_ATTRIBUTE w_SELF w_DESCENDANT_OR_SELF w_FOLLOWING_SIBLING w_FOLLOWING w_NAMESPACE w_PARENT w_ANCESTOR w_PRECEDING_SIBLING w_PRECEDING w_ANCESTOR_OR_SELF w_ANCESTOR h0 n0 Z0 E_w_ANCESTOR S_CHILD S_DESCENDANT S_ATTRIBUTE S_SELF S_DESCENDANT_OR_SELF S_FOLLOWING_SIBLING S_FOLLOWING S_NAMESPACE S_PARENT S_ANCESTOR S_PRECEDING_SIBLING S_PRECEDING S_ANCESTOR_OR_SELF (by rw [e]; unfold own_ax; rw [if_neg (by decide), if_neg (by decide), if_neg (by decide), if_neg (by decide), if_neg (by decide), if_neg (by decide), if_neg (by decide), if_neg (by decide), if_neg (by decide), if_pos (by decide)]) (by rw [e]; decide) (by unfold own_isr; rw [if_neg ne_ANCESTOR_PARENT, if_pos rfl])
  | ⟨10, _⟩, e => replace e := e.trans (show _ = Int32.ofInt ((10 : Nat) : Int) from rfl); exact rm0_ff l Z a0 hw ws p1 w_CHILD w_DESCENDANT w_ATTRIBUTE w_SELF w_DESCENDANT_OR_SELF w_FOLLOWING_SIBLING w_FOLLOWING w_NAMESPACE w_PARENT w_ANCESTOR w_PRECEDING_SIBLING w_PRECEDING w_ANCESTOR_OR_SELF w_PRECEDING_SIBLING h0 n0 Z0 E_w_PRECEDING_SIBLING S_CHILD S_DESCENDANT S_ATTRIBUTE S_SELF S_DESCENDANT_OR_SELF S_FOLLOWING_SIBLING S_FOLLOWING S_NAMESPACE S_PARENT S_ANCESTOR S_PRECEDING_SIBLING S_PRECEDING S_ANCESTOR_OR_SELF (by rw [e]; unfold own_ax; rw [if_neg (by decide), if_neg (by decide), if_neg (by decide), if_neg (by decide), if_neg (by decide), if_neg (by decide), if_neg (by decide), if_neg (by decide), if_neg (by decide), if_neg (by decide), if_pos (by decide)]) (by rw [e]; decide) (by unfold own_isr; rw [if_neg ne_PRECEDING_SIBLING_PARENT, if_neg ne_PRECEDING_SIBLING_ANCESTOR, if_pos rfl])
  | ⟨11, _⟩, e => replace e := e.trans (show _ = Int32.ofInt ((11 : Nat) : Int) from rfl); exact rm0_ff l Z a0 hw ws p1 w_CHILD w_DESCENDANT w_ATTRIBUTE w_SELF w_DESCENDANT_OR_SELF w_FOLLOWING_SIBLING w_FOLLOWING w_NAMESPACE w_PARENT w_ANCESTOR w_PRECEDING_SIBLING w_PRECEDING w_ANCESTOR_OR_SELF w_PRECEDING h0 n0 Z0 E_w_PRECEDING S_CHILD S_DESCENDANT S_ATTRIBUTE S_SELF S_DESCENDANT_OR_SELF S_FOLLOWING_SIBLING S_FOLLOWING S_NAMESPACE S_PARENT S_ANCESTOR S_PRECEDING_SIBLING S_PRECEDING S_ANCESTOR_OR_SELF (by rw [e]; unfold own_ax; rw [if_neg (by decide), if_neg (by decide), if_neg (by decide), if_neg (by decide), if_neg (by decide), if_neg (by decide), if_neg (by decide), if_neg (by decide), if_neg (by decide), if_neg (by decide), if_neg (by decide), if_pos (by decide)]) (by rw [e]; decide) (by unfold own_isr; rw [if_neg ne_PRECEDING_PARENT, if_neg ne_PRECEDING_ANCESTOR, if_neg ne_PRECEDING_PRECEDING_SIBLING, if_pos rfl])
  | ⟨12, _⟩, e => replace e := e.trans (show _ = Int32.ofInt ((12 : Nat) : Int) from rfl); exact rm0_ff l Z a0 hw ws p1 w_CHILD w_DESCENDANT w_ATTRIBUTE w_SELF w_DESCENDANT_OR_SELF w_FOLLOWING_SIBLING w_FOLLOWING w_NAMESPACE w_PARENT w_ANCESTOR w_PRECEDING_SIBLING w_PRECEDING w_ANCESTOR_OR_SELF w_ANCESTOR_OR_SELF h0 n0 Z0 E_w_ANCESTOR_OR_SELF S_CHILD S_DESCENDANT S_ATTRIBUTE S_SELF S_DESCENDANT_OR_SELF S_FOLLOWING_SIBLING S_FOLLOWING S_NAMESPACE S_PARENT S_ANCESTOR S_PRECEDING_SIBLING S_PRECEDING S_ANCESTOR_OR_SELF (by rw [e]; unfold own_ax; rw [if_neg (by decide), if_neg (by decide), if_neg (by decide), if_neg (by decide), if_neg (by decide), if_neg (by decide), if_neg (by decide), if_neg (by decide), if_neg (by decide), if_neg (by decide), if_neg (by decide), if_neg (by decide)]) (by rw [e]; decide) (by unfold own_isr; rw [if_neg ne_ANCESTOR_OR_SELF_PARENT, if_neg ne_ANCESTOR_OR_SELF_ANCESTOR, if_neg ne_ANCESTOR_OR_SELF_PRECEDING_SIBLING, if_neg ne_ANCESTOR_OR_SELF_PRECEDING, if_pos rfl])
set_option maxRecDepth 65536 in
set_option maxHeartbeats 40000000 in
theorem comes_1 {Post : Tables → Env → Array Value → State → Outcome → State → Prop} (hpost : ∀ tb e args s v u, (limb_1_1.after args s (.returned v) u = true ∧ limb_1_2.after args s (.returned v) u = true ∧ True) → FrameEnd s (.returned v) u (Jvm.fieldLocs frame_1_writes args s ++ Jvm.arrayLocs frame_1_arrays args s ++ Jvm.staticLocs frame_1_statics s) 0 0 → Post tb e args s (.returned v) u) :
    ArmFor flags0 classFile x code maxLocals ret World_1 tables_1 room_1 Calls_1 rest_1 Pre_1 Post := by
  intro l hfl _ _ p e ha hc hk s m args below hf hA hF happ hP
  obtain ⟨hcalls, hrest, hpre⟩ := hP
  obtain ⟨-, -, -, hnamed, -, -, -, hat⟩ := (Spec.applies_iff hf).mp happ
  obtain ⟨hg, hn⟩ := and_e (Cond.before_iff.mp (show (Jvm.Cond.and given_1 narrow_1).before args s = true from hpre))
  obtain ⟨g4, g5⟩ := and_e hg
  obtain ⟨w0, rfl⟩ : ∃ w0 : Value, args = #[w0] := by
    have hs : args.size = 1 := by simpa [Cond.value, given_1] using g4
    obtain ⟨L⟩ := args
    match L, hs with
    | [w0], _ => exact ⟨w0, rfl⟩
  have hw := fun d (hd : d ∈ tables_1) => atoms_spec (ws := Jvm.Cond.code x code maxLocals ret :: tables_1) hat d (List.mem_cons_of_mem _ hd)
  have hfit : Fit s := fun {y c} hc i hi => by
    obtain ⟨ha, rfl⟩ := Array.getElem?_eq_some_iff.mp hc
    have q := List.all_eq_true.mp ((Array.all_eq_true_iff_forall_mem.mp hF) _ (Array.getElem_mem ha)) i (List.mem_range.mpr hi)
    simpa [Array.getElem?_eq_getElem hi] using q
  obtain ⟨i0, ei0⟩ := is_v g5
  obtain rfl : w0 = (.int i0) := Option.some.inj ei0
  obtain ⟨k0, hn⟩ := and_e hn
  obtain ⟨w_CHILD, ev_CHILD⟩ := exa_v k0
  have E_w_CHILD := Exa.start ev_CHILD k0
  have S_CHILD := Sta.start ev_CHILD (Or.inr ⟨(hw _ (List.mem_of_getElem? (i := 6) rfl)), (hw _ (List.mem_of_getElem? (i := 7) rfl))⟩)
  obtain ⟨k1, hn⟩ := and_e hn
  obtain ⟨w_PARENT, ev_PARENT⟩ := exa_v k1
  have E_w_PARENT := Exa.start ev_PARENT k1
  have S_PARENT := Sta.start ev_PARENT (Or.inr ⟨(hw _ (List.mem_of_getElem? (i := 6) rfl)), (hw _ (List.mem_of_getElem? (i := 14) rfl))⟩)
  obtain ⟨k2, hn⟩ := and_e hn
  have o_CHILD := own_eqint k2
  obtain ⟨k3, hn⟩ := and_e hn
  have o_PARENT := own_eqint k3
  obtain ⟨k4, hn⟩ := and_e hn
  obtain ⟨w_ANCESTOR, ev_ANCESTOR⟩ := exa_v k4
  have E_w_ANCESTOR := Exa.start ev_ANCESTOR k4
  have S_ANCESTOR := Sta.start ev_ANCESTOR (Or.inr ⟨(hw _ (List.mem_of_getElem? (i := 6) rfl)), (hw _ (List.mem_of_getElem? (i := 16) rfl))⟩)
  obtain ⟨k5, hn⟩ := and_e hn
  have o_ANCESTOR := own_eqint k5
  obtain ⟨k6, hn⟩ := and_e hn
  obtain ⟨w_PRECEDING_SIBLING, ev_PRECEDING_SIBLING⟩ := exa_v k6
  have E_w_PRECEDING_SIBLING := Exa.start ev_PRECEDING_SIBLING k6
  have S_PRECEDING_SIBLING := Sta.start ev_PRECEDING_SIBLING (Or.inr ⟨(hw _ (List.mem_of_getElem? (i := 6) rfl)), (hw _ (List.mem_of_getElem? (i := 18) rfl))⟩)
  obtain ⟨k7, hn⟩ := and_e hn
  have o_PRECEDING_SIBLING := own_eqint k7
  obtain ⟨k8, hn⟩ := and_e hn
  obtain ⟨w_PRECEDING, ev_PRECEDING⟩ := exa_v k8
  have E_w_PRECEDING := Exa.start ev_PRECEDING k8
  have S_PRECEDING := Sta.start ev_PRECEDING (Or.inr ⟨(hw _ (List.mem_of_getElem? (i := 6) rfl)), (hw _ (List.mem_of_getElem? (i := 20) rfl))⟩)
  obtain ⟨k9, hn⟩ := and_e hn
  have o_PRECEDING := own_eqint k9
  obtain ⟨k10, hn⟩ := and_e hn
  obtain ⟨w_ANCESTOR_OR_SELF, ev_ANCESTOR_OR_SELF⟩ := exa_v k10
  have E_w_ANCESTOR_OR_SELF := Exa.start ev_ANCESTOR_OR_SELF k10
  have S_ANCESTOR_OR_SELF := Sta.start ev_ANCESTOR_OR_SELF (Or.inr ⟨(hw _ (List.mem_of_getElem? (i := 6) rfl)), (hw _ (List.mem_of_getElem? (i := 22) rfl))⟩)
  obtain ⟨k11, hn⟩ := and_e hn
  have o_ANCESTOR_OR_SELF := own_eqint k11
  obtain ⟨k12, hn⟩ := and_e hn
  obtain ⟨w_SELF, ev_SELF⟩ := exa_v k12
  have E_w_SELF := Exa.start ev_SELF k12
  have S_SELF := Sta.start ev_SELF (Or.inr ⟨(hw _ (List.mem_of_getElem? (i := 6) rfl)), (hw _ (List.mem_of_getElem? (i := 24) rfl))⟩)
  obtain ⟨k13, hn⟩ := and_e hn
  have o_SELF := own_eqint k13
  obtain ⟨k14, hn⟩ := and_e hn
  obtain ⟨w_FOLLOWING, ev_FOLLOWING⟩ := exa_v k14
  have E_w_FOLLOWING := Exa.start ev_FOLLOWING k14
  have S_FOLLOWING := Sta.start ev_FOLLOWING (Or.inr ⟨(hw _ (List.mem_of_getElem? (i := 6) rfl)), (hw _ (List.mem_of_getElem? (i := 26) rfl))⟩)
  obtain ⟨k15, hn⟩ := and_e hn
  have o_FOLLOWING := own_eqint k15
  obtain ⟨k16, hn⟩ := and_e hn
  obtain ⟨w_FOLLOWING_SIBLING, ev_FOLLOWING_SIBLING⟩ := exa_v k16
  have E_w_FOLLOWING_SIBLING := Exa.start ev_FOLLOWING_SIBLING k16
  have S_FOLLOWING_SIBLING := Sta.start ev_FOLLOWING_SIBLING (Or.inr ⟨(hw _ (List.mem_of_getElem? (i := 6) rfl)), (hw _ (List.mem_of_getElem? (i := 28) rfl))⟩)
  obtain ⟨k17, hn⟩ := and_e hn
  have o_FOLLOWING_SIBLING := own_eqint k17
  obtain ⟨k18, hn⟩ := and_e hn
  obtain ⟨w_NAMESPACE, ev_NAMESPACE⟩ := exa_v k18
  have E_w_NAMESPACE := Exa.start ev_NAMESPACE k18
  have S_NAMESPACE := Sta.start ev_NAMESPACE (Or.inr ⟨(hw _ (List.mem_of_getElem? (i := 6) rfl)), (hw _ (List.mem_of_getElem? (i := 30) rfl))⟩)
  obtain ⟨k19, hn⟩ := and_e hn
  have o_NAMESPACE := own_eqint k19
  obtain ⟨k20, hn⟩ := and_e hn
  obtain ⟨w_ATTRIBUTE, ev_ATTRIBUTE⟩ := exa_v k20
  have E_w_ATTRIBUTE := Exa.start ev_ATTRIBUTE k20
  have S_ATTRIBUTE := Sta.start ev_ATTRIBUTE (Or.inr ⟨(hw _ (List.mem_of_getElem? (i := 6) rfl)), (hw _ (List.mem_of_getElem? (i := 33) rfl))⟩)
  obtain ⟨k21, hn⟩ := and_e hn
  have o_ATTRIBUTE := own_eqint k21
  obtain ⟨k22, hn⟩ := and_e hn
  obtain ⟨w_DESCENDANT, ev_DESCENDANT⟩ := exa_v k22
  have E_w_DESCENDANT := Exa.start ev_DESCENDANT k22
  have S_DESCENDANT := Sta.start ev_DESCENDANT (Or.inr ⟨(hw _ (List.mem_of_getElem? (i := 6) rfl)), (hw _ (List.mem_of_getElem? (i := 36) rfl))⟩)
  obtain ⟨k23, hn⟩ := and_e hn
  have o_DESCENDANT := own_eqint k23
  obtain ⟨k24, hn⟩ := and_e hn
  obtain ⟨w_DESCENDANT_OR_SELF, ev_DESCENDANT_OR_SELF⟩ := exa_v k24
  have E_w_DESCENDANT_OR_SELF := Exa.start ev_DESCENDANT_OR_SELF k24
  have S_DESCENDANT_OR_SELF := Sta.start ev_DESCENDANT_OR_SELF (Or.inr ⟨(hw _ (List.mem_of_getElem? (i := 6) rfl)), (hw _ (List.mem_of_getElem? (i := 41) rfl))⟩)
  have k25 := hn
  have o_DESCENDANT_OR_SELF := own_eqint k25
  have ne_CHILD_PARENT : ¬ (w_CHILD = w_PARENT) := own_ne ev_CHILD ev_PARENT o_CHILD o_PARENT (by decide)
  have ne_CHILD_ANCESTOR : ¬ (w_CHILD = w_ANCESTOR) := own_ne ev_CHILD ev_ANCESTOR o_CHILD o_ANCESTOR (by decide)
  have ne_CHILD_PRECEDING_SIBLING : ¬ (w_CHILD = w_PRECEDING_SIBLING) := own_ne ev_CHILD ev_PRECEDING_SIBLING o_CHILD o_PRECEDING_SIBLING (by decide)
  have ne_CHILD_PRECEDING : ¬ (w_CHILD = w_PRECEDING) := own_ne ev_CHILD ev_PRECEDING o_CHILD o_PRECEDING (by decide)
  have ne_CHILD_ANCESTOR_OR_SELF : ¬ (w_CHILD = w_ANCESTOR_OR_SELF) := own_ne ev_CHILD ev_ANCESTOR_OR_SELF o_CHILD o_ANCESTOR_OR_SELF (by decide)
  have ne_DESCENDANT_PARENT : ¬ (w_DESCENDANT = w_PARENT) := own_ne ev_DESCENDANT ev_PARENT o_DESCENDANT o_PARENT (by decide)
  have ne_DESCENDANT_ANCESTOR : ¬ (w_DESCENDANT = w_ANCESTOR) := own_ne ev_DESCENDANT ev_ANCESTOR o_DESCENDANT o_ANCESTOR (by decide)
  have ne_DESCENDANT_PRECEDING_SIBLING : ¬ (w_DESCENDANT = w_PRECEDING_SIBLING) := own_ne ev_DESCENDANT ev_PRECEDING_SIBLING o_DESCENDANT o_PRECEDING_SIBLING (by decide)
  have ne_DESCENDANT_PRECEDING : ¬ (w_DESCENDANT = w_PRECEDING) := own_ne ev_DESCENDANT ev_PRECEDING o_DESCENDANT o_PRECEDING (by decide)
  have ne_DESCENDANT_ANCESTOR_OR_SELF : ¬ (w_DESCENDANT = w_ANCESTOR_OR_SELF) := own_ne ev_DESCENDANT ev_ANCESTOR_OR_SELF o_DESCENDANT o_ANCESTOR_OR_SELF (by decide)
  have ne_ATTRIBUTE_PARENT : ¬ (w_ATTRIBUTE = w_PARENT) := own_ne ev_ATTRIBUTE ev_PARENT o_ATTRIBUTE o_PARENT (by decide)
  have ne_ATTRIBUTE_ANCESTOR : ¬ (w_ATTRIBUTE = w_ANCESTOR) := own_ne ev_ATTRIBUTE ev_ANCESTOR o_ATTRIBUTE o_ANCESTOR (by decide)
  have ne_ATTRIBUTE_PRECEDING_SIBLING : ¬ (w_ATTRIBUTE = w_PRECEDING_SIBLING) := own_ne ev_ATTRIBUTE ev_PRECEDING_SIBLING o_ATTRIBUTE o_PRECEDING_SIBLING (by decide)
  have ne_ATTRIBUTE_PRECEDING : ¬ (w_ATTRIBUTE = w_PRECEDING) := own_ne ev_ATTRIBUTE ev_PRECEDING o_ATTRIBUTE o_PRECEDING (by decide)
  have ne_ATTRIBUTE_ANCESTOR_OR_SELF : ¬ (w_ATTRIBUTE = w_ANCESTOR_OR_SELF) := own_ne ev_ATTRIBUTE ev_ANCESTOR_OR_SELF o_ATTRIBUTE o_ANCESTOR_OR_SELF (by decide)
  have ne_SELF_PARENT : ¬ (w_SELF = w_PARENT) := own_ne ev_SELF ev_PARENT o_SELF o_PARENT (by decide)
  have ne_SELF_ANCESTOR : ¬ (w_SELF = w_ANCESTOR) := own_ne ev_SELF ev_ANCESTOR o_SELF o_ANCESTOR (by decide)
  have ne_SELF_PRECEDING_SIBLING : ¬ (w_SELF = w_PRECEDING_SIBLING) := own_ne ev_SELF ev_PRECEDING_SIBLING o_SELF o_PRECEDING_SIBLING (by decide)
  have ne_SELF_PRECEDING : ¬ (w_SELF = w_PRECEDING) := own_ne ev_SELF ev_PRECEDING o_SELF o_PRECEDING (by decide)
  have ne_SELF_ANCESTOR_OR_SELF : ¬ (w_SELF = w_ANCESTOR_OR_SELF) := own_ne ev_SELF ev_ANCESTOR_OR_SELF o_SELF o_ANCESTOR_OR_SELF (by decide)
  have ne_DESCENDANT_OR_SELF_PARENT : ¬ (w_DESCENDANT_OR_SELF = w_PARENT) := own_ne ev_DESCENDANT_OR_SELF ev_PARENT o_DESCENDANT_OR_SELF o_PARENT (by decide)
  have ne_DESCENDANT_OR_SELF_ANCESTOR : ¬ (w_DESCENDANT_OR_SELF = w_ANCESTOR) := own_ne ev_DESCENDANT_OR_SELF ev_ANCESTOR o_DESCENDANT_OR_SELF o_ANCESTOR (by decide)
  have ne_DESCENDANT_OR_SELF_PRECEDING_SIBLING : ¬ (w_DESCENDANT_OR_SELF = w_PRECEDING_SIBLING) := own_ne ev_DESCENDANT_OR_SELF ev_PRECEDING_SIBLING o_DESCENDANT_OR_SELF o_PRECEDING_SIBLING (by decide)
  have ne_DESCENDANT_OR_SELF_PRECEDING : ¬ (w_DESCENDANT_OR_SELF = w_PRECEDING) := own_ne ev_DESCENDANT_OR_SELF ev_PRECEDING o_DESCENDANT_OR_SELF o_PRECEDING (by decide)
  have ne_DESCENDANT_OR_SELF_ANCESTOR_OR_SELF : ¬ (w_DESCENDANT_OR_SELF = w_ANCESTOR_OR_SELF) := own_ne ev_DESCENDANT_OR_SELF ev_ANCESTOR_OR_SELF o_DESCENDANT_OR_SELF o_ANCESTOR_OR_SELF (by decide)
  have ne_FOLLOWING_SIBLING_PARENT : ¬ (w_FOLLOWING_SIBLING = w_PARENT) := own_ne ev_FOLLOWING_SIBLING ev_PARENT o_FOLLOWING_SIBLING o_PARENT (by decide)
  have ne_FOLLOWING_SIBLING_ANCESTOR : ¬ (w_FOLLOWING_SIBLING = w_ANCESTOR) := own_ne ev_FOLLOWING_SIBLING ev_ANCESTOR o_FOLLOWING_SIBLING o_ANCESTOR (by decide)
  have ne_FOLLOWING_SIBLING_PRECEDING_SIBLING : ¬ (w_FOLLOWING_SIBLING = w_PRECEDING_SIBLING) := own_ne ev_FOLLOWING_SIBLING ev_PRECEDING_SIBLING o_FOLLOWING_SIBLING o_PRECEDING_SIBLING (by decide)
  have ne_FOLLOWING_SIBLING_PRECEDING : ¬ (w_FOLLOWING_SIBLING = w_PRECEDING) := own_ne ev_FOLLOWING_SIBLING ev_PRECEDING o_FOLLOWING_SIBLING o_PRECEDING (by decide)
  have ne_FOLLOWING_SIBLING_ANCESTOR_OR_SELF : ¬ (w_FOLLOWING_SIBLING = w_ANCESTOR_OR_SELF) := own_ne ev_FOLLOWING_SIBLING ev_ANCESTOR_OR_SELF o_FOLLOWING_SIBLING o_ANCESTOR_OR_SELF (by decide)
  have ne_FOLLOWING_PARENT : ¬ (w_FOLLOWING = w_PARENT) := own_ne ev_FOLLOWING ev_PARENT o_FOLLOWING o_PARENT (by decide)
  have ne_FOLLOWING_ANCESTOR : ¬ (w_FOLLOWING = w_ANCESTOR) := own_ne ev_FOLLOWING ev_ANCESTOR o_FOLLOWING o_ANCESTOR (by decide)
  have ne_FOLLOWING_PRECEDING_SIBLING : ¬ (w_FOLLOWING = w_PRECEDING_SIBLING) := own_ne ev_FOLLOWING ev_PRECEDING_SIBLING o_FOLLOWING o_PRECEDING_SIBLING (by decide)
  have ne_FOLLOWING_PRECEDING : ¬ (w_FOLLOWING = w_PRECEDING) := own_ne ev_FOLLOWING ev_PRECEDING o_FOLLOWING o_PRECEDING (by decide)
  have ne_FOLLOWING_ANCESTOR_OR_SELF : ¬ (w_FOLLOWING = w_ANCESTOR_OR_SELF) := own_ne ev_FOLLOWING ev_ANCESTOR_OR_SELF o_FOLLOWING o_ANCESTOR_OR_SELF (by decide)
  have ne_NAMESPACE_PARENT : ¬ (w_NAMESPACE = w_PARENT) := own_ne ev_NAMESPACE ev_PARENT o_NAMESPACE o_PARENT (by decide)
  have ne_NAMESPACE_ANCESTOR : ¬ (w_NAMESPACE = w_ANCESTOR) := own_ne ev_NAMESPACE ev_ANCESTOR o_NAMESPACE o_ANCESTOR (by decide)
  have ne_NAMESPACE_PRECEDING_SIBLING : ¬ (w_NAMESPACE = w_PRECEDING_SIBLING) := own_ne ev_NAMESPACE ev_PRECEDING_SIBLING o_NAMESPACE o_PRECEDING_SIBLING (by decide)
  have ne_NAMESPACE_PRECEDING : ¬ (w_NAMESPACE = w_PRECEDING) := own_ne ev_NAMESPACE ev_PRECEDING o_NAMESPACE o_PRECEDING (by decide)
  have ne_NAMESPACE_ANCESTOR_OR_SELF : ¬ (w_NAMESPACE = w_ANCESTOR_OR_SELF) := own_ne ev_NAMESPACE ev_ANCESTOR_OR_SELF o_NAMESPACE o_ANCESTOR_OR_SELF (by decide)
  have ne_ANCESTOR_PARENT : ¬ (w_ANCESTOR = w_PARENT) := own_ne ev_ANCESTOR ev_PARENT o_ANCESTOR o_PARENT (by decide)
  have ne_PRECEDING_SIBLING_PARENT : ¬ (w_PRECEDING_SIBLING = w_PARENT) := own_ne ev_PRECEDING_SIBLING ev_PARENT o_PRECEDING_SIBLING o_PARENT (by decide)
  have ne_PRECEDING_SIBLING_ANCESTOR : ¬ (w_PRECEDING_SIBLING = w_ANCESTOR) := own_ne ev_PRECEDING_SIBLING ev_ANCESTOR o_PRECEDING_SIBLING o_ANCESTOR (by decide)
  have ne_PRECEDING_PARENT : ¬ (w_PRECEDING = w_PARENT) := own_ne ev_PRECEDING ev_PARENT o_PRECEDING o_PARENT (by decide)
  have ne_PRECEDING_ANCESTOR : ¬ (w_PRECEDING = w_ANCESTOR) := own_ne ev_PRECEDING ev_ANCESTOR o_PRECEDING o_ANCESTOR (by decide)
  have ne_PRECEDING_PRECEDING_SIBLING : ¬ (w_PRECEDING = w_PRECEDING_SIBLING) := own_ne ev_PRECEDING ev_PRECEDING_SIBLING o_PRECEDING o_PRECEDING_SIBLING (by decide)
  have ne_ANCESTOR_OR_SELF_PARENT : ¬ (w_ANCESTOR_OR_SELF = w_PARENT) := own_ne ev_ANCESTOR_OR_SELF ev_PARENT o_ANCESTOR_OR_SELF o_PARENT (by decide)
  have ne_ANCESTOR_OR_SELF_ANCESTOR : ¬ (w_ANCESTOR_OR_SELF = w_ANCESTOR) := own_ne ev_ANCESTOR_OR_SELF ev_ANCESTOR o_ANCESTOR_OR_SELF o_ANCESTOR (by decide)
  have ne_ANCESTOR_OR_SELF_PRECEDING_SIBLING : ¬ (w_ANCESTOR_OR_SELF = w_PRECEDING_SIBLING) := own_ne ev_ANCESTOR_OR_SELF ev_PRECEDING_SIBLING o_ANCESTOR_OR_SELF o_PRECEDING_SIBLING (by decide)
  have ne_ANCESTOR_OR_SELF_PRECEDING : ¬ (w_ANCESTOR_OR_SELF = w_PRECEDING) := own_ne ev_ANCESTOR_OR_SELF ev_PRECEDING o_ANCESTOR_OR_SELF o_PRECEDING (by decide)
  obtain ⟨n, o, h1, h2, h3, _, L, rfl, ⟨rfl, N, -⟩, hq⟩ := rm0 l s _ hw tables_1 i0 w_CHILD w_DESCENDANT w_ATTRIBUTE w_SELF w_DESCENDANT_OR_SELF w_FOLLOWING_SIBLING w_FOLLOWING w_NAMESPACE w_PARENT w_ANCESTOR w_PRECEDING_SIBLING w_PRECEDING w_ANCESTOR_OR_SELF s.heap s.heap.size (Nat.le_refl _) S_CHILD S_DESCENDANT S_ATTRIBUTE S_SELF S_DESCENDANT_OR_SELF S_FOLLOWING_SIBLING S_FOLLOWING S_NAMESPACE S_PARENT S_ANCESTOR S_PRECEDING_SIBLING S_PRECEDING S_ANCESTOR_OR_SELF E_w_CHILD E_w_DESCENDANT E_w_ATTRIBUTE E_w_SELF E_w_DESCENDANT_OR_SELF E_w_FOLLOWING_SIBLING E_w_FOLLOWING E_w_NAMESPACE E_w_PARENT E_w_ANCESTOR E_w_PRECEDING_SIBLING E_w_PRECEDING E_w_ANCESTOR_OR_SELF ne_CHILD_PARENT ne_CHILD_ANCESTOR ne_CHILD_PRECEDING_SIBLING ne_CHILD_PRECEDING ne_CHILD_ANCESTOR_OR_SELF ne_DESCENDANT_PARENT ne_DESCENDANT_ANCESTOR ne_DESCENDANT_PRECEDING_SIBLING ne_DESCENDANT_PRECEDING ne_DESCENDANT_ANCESTOR_OR_SELF ne_ATTRIBUTE_PARENT ne_ATTRIBUTE_ANCESTOR ne_ATTRIBUTE_PRECEDING_SIBLING ne_ATTRIBUTE_PRECEDING ne_ATTRIBUTE_ANCESTOR_OR_SELF ne_SELF_PARENT ne_SELF_ANCESTOR ne_SELF_PRECEDING_SIBLING ne_SELF_PRECEDING ne_SELF_ANCESTOR_OR_SELF ne_DESCENDANT_OR_SELF_PARENT ne_DESCENDANT_OR_SELF_ANCESTOR ne_DESCENDANT_OR_SELF_PRECEDING_SIBLING ne_DESCENDANT_OR_SELF_PRECEDING ne_DESCENDANT_OR_SELF_ANCESTOR_OR_SELF ne_FOLLOWING_SIBLING_PARENT ne_FOLLOWING_SIBLING_ANCESTOR ne_FOLLOWING_SIBLING_PRECEDING_SIBLING ne_FOLLOWING_SIBLING_PRECEDING ne_FOLLOWING_SIBLING_ANCESTOR_OR_SELF ne_FOLLOWING_PARENT ne_FOLLOWING_ANCESTOR ne_FOLLOWING_PRECEDING_SIBLING ne_FOLLOWING_PRECEDING ne_FOLLOWING_ANCESTOR_OR_SELF ne_NAMESPACE_PARENT ne_NAMESPACE_ANCESTOR ne_NAMESPACE_PRECEDING_SIBLING ne_NAMESPACE_PRECEDING ne_NAMESPACE_ANCESTOR_OR_SELF ne_ANCESTOR_PARENT ne_PRECEDING_SIBLING_PARENT ne_PRECEDING_SIBLING_ANCESTOR ne_PRECEDING_PARENT ne_PRECEDING_ANCESTOR ne_PRECEDING_PRECEDING_SIBLING ne_ANCESTOR_OR_SELF_PARENT ne_ANCESTOR_OR_SELF_ANCESTOR ne_ANCESTOR_OR_SELF_PRECEDING_SIBLING ne_ANCESTOR_OR_SELF_PRECEDING p e ha hc hk s m _ below hf ((Spec.applies_iff_loose hf).mp happ).1 ⟨rfl, State.Warmed39.refl s, rfl⟩ trivial
  refine ⟨n, _, h1, h2, h3, hpost _ _ _ _ _ _ ⟨Cond.after_iff.mpr rfl, Cond.after_iff.mpr (eq_i res_at (Term.int_eval (1)) rfl), trivial⟩ ⟨hq.1, hq.2.1, (hq.2.2.sift fun y hy => Or.inr (N y hy)).mono (by decide) (by decide)⟩⟩
theorem main_1_1 : Claimed_1_1 := comes_1 fun _ _ _ _ _ _ h hF => ⟨h.1, hF⟩
theorem main_1_2 : Claimed_1_2 := comes_1 fun _ _ _ _ _ _ h hF => ⟨h.2.1, hF⟩
end Jvm.Pilot.@@N@@
namespace Jvm.Pilot.@@N@@
open Jvm Jvm.ClassFile Sem Op Lib Jvm.Free Jvm.Stand Jvm.Pilot.@@N@@.Jvm.D
/-! MADE BY PROGRAM (witnessworld.py) out of the Statement's table words and the real class files: 12 classes; the members and pool entries that the words name. The judged class is class 1, her method 2. -/
namespace start1
open Jvm.ClassFile
def u (s : String) : CpInfo := .utf8 (stringToUtf16 s)
/-- a pool by its gaps: so many unusable entries, then the entry; so many at the end -/
def gap : Nat → List CpInfo → List CpInfo
  | 0, r => r
  | n + 1, r => .unusable :: gap n r
def poolList (es : List (Nat × CpInfo)) (last : Nat) : List CpInfo := es.foldr (fun e r => gap e.1 (e.2 :: r)) (gap last [])
def pool (es : List (Nat × CpInfo)) (last : Nat) : Array CpInfo := ⟨poolList es last⟩
def fileOf (pool : Array CpInfo) (this : Nat) (attrs : Array Attribute := #[]) (ms : Array MethodInfo := #[]) (fl : Nat := 33) (sup : Nat := 0) (ifs : Array Nat := #[]) (fds : Array FieldInfo := #[]) : ClassFile where
  minorVersion := 0
  majorVersion := 65
  constantPool := pool
  accessFlags := fl
  thisClass := this
  superClass := sup
  interfaces := ifs
  fields := fds
  methods := ms
  attributes := attrs
def plain (name : String) (sup : Option ClassId) : Class where
  name := name
  kind := .ordinary
  loader := none
  accessFlags := 33
  super := sup
  interfaces := #[]
  cf := none
  fields := #[]
  methods := #[]
  instanceTypes := #[]
  staticTypes := #[]
  resolved := #[]
  callSites := []
  init := .initialized
  statics := none
  mirror := none

def pool0 : Array CpInfo := pool [(5, u "<init>"), (0, u "()V"), (1, .class_ 10), (1, u "java/lang/Object")] 113

def k0m0 : Method := { name := "<init>", desc := "()V", sig := { parameters := [], returnType := none }, accessFlags := 1, code := none }
/-- java/lang/Object -/
def k0 : Class := { plain "java/lang/Object" none with
  accessFlags := 33
  interfaces := #[]
  cf := some (fileOf pool0 8 #[] #[{ accessFlags := 1, nameIndex := 5, descriptorIndex := 6, attributes := #[] }] 33 0 #[] #[])
  fields := #[]
  methods := #[k0m0]
  instanceTypes := #[]
  staticTypes := #[]
  resolved := Array.replicate 124 none
  statics := none }

def pool1 : Array CpInfo := pool [(2, .class_ 4), (1, u "java/lang/Object"), (0, u "<init>"), (0, u "()V"), (0, .fieldref 8 9), (0, .class_ 10), (0, .nameAndType 11 12), (0, u "com/example/sluice/sluice/xpath/Axis"), (0, u "CHILD"), (0, u "Lcom/example/sluice/sluice/xpath/Axis;"), (0, .fieldref 8 14), (0, .nameAndType 15 12), (0, u "DESCENDANT"), (0, .fieldref 8 17), (0, .nameAndType 18 12), (0, u "ATTRIBUTE"), (0, .fieldref 8 20), (0, .nameAndType 21 12), (0, u "SELF"), (0, .fieldref 8 23), (0, .nameAndType 24 12), (0, u "DESCENDANT_OR_SELF"), (0, .fieldref 8 26), (0, .nameAndType 27 12), (0, u "FOLLOWING_SIBLING"), (0, .fieldref 8 29), (0, .nameAndType 30 12), (0, u "FOLLOWING"), (0, .fieldref 8 32), (0, .nameAndType 33 12), (0, u "NAMESPACE"), (0, .fieldref 8 35), (0, .nameAndType 36 12), (0, u "PARENT"), (0, .fieldref 8 38), (0, .nameAndType 39 12), (0, u "ANCESTOR"), (0, .fieldref 8 41), (0, .nameAndType 42 12), (0, u "PRECEDING_SIBLING"), (0, .fieldref 8 44), (0, .nameAndType 45 12), (0, u "PRECEDING"), (0, .fieldref 8 47), (0, .nameAndType 48 12), (0, u "ANCESTOR_OR_SELF"), (0, .integer 2147483647), (0, .methodref 51 52), (0, .class_ 53), (0, .nameAndType 54 55), (0, u "com/example/sluice/sluice/xpath/AxisIsReversePinLaw"), (0, u "axisAt"), (0, u "(I)Lcom/example/sluice/sluice/xpath/Axis;"), (0, .methodref 8 57), (0, .nameAndType 58 59), (0, u "isReverse"), (0, u "()Z"), (3, u "law"), (0, u "(I)Z")] 2

def k1m0 : Method := { name := "<init>", desc := "()V", sig := { parameters := [], returnType := none }, accessFlags := 2, code := none }
def k1c1 : Code := { maxStack := 2, maxLocals := 1, code := method_2_code, exceptionTable := #[], attributes := #[] }
def k1m1 : Method := { name := "axisAt", desc := "(I)Lcom/example/sluice/sluice/xpath/Axis;", sig := { parameters := [.int], returnType := some (.object "com/example/sluice/sluice/xpath/Axis") }, accessFlags := 10, code := some k1c1 }
def k1c2 : Code := { maxStack := 2, maxLocals := 4, code := code, exceptionTable := #[], attributes := #[] }
def k1m2 : Method := { name := "law", desc := "(I)Z", sig := { parameters := [.int], returnType := some .boolean }, accessFlags := 9, code := some k1c2 }
/-- com/example/sluice/sluice/xpath/AxisIsReversePinLaw -/
def k1 : Class := { plain "com/example/sluice/sluice/xpath/AxisIsReversePinLaw" (some 0) with
  accessFlags := 49
  interfaces := #[]
  cf := some (fileOf pool1 51 #[] #[{ accessFlags := 2, nameIndex := 5, descriptorIndex := 6, attributes := #[] }, { accessFlags := 10, nameIndex := 54, descriptorIndex := 55, attributes := #[] }, { accessFlags := 9, nameIndex := 63, descriptorIndex := 64, attributes := #[] }] 49 2 #[] #[])
  fields := #[]
  methods := #[k1m0, k1m1, k1m2]
  instanceTypes := #[]
  staticTypes := #[]
  resolved := Array.replicate 67 none
  statics := none }

def pool2 : Array CpInfo := pool [(1, .class_ 2), (0, u "java/lang/constant/Constable"), (0, .class_ 4), (0, u "java/lang/Object")] 6

/-- java/lang/constant/Constable -/
def k2 : Class := { plain "java/lang/constant/Constable" (some 0) with
  accessFlags := 1537
  interfaces := #[]
  cf := some (fileOf pool2 1 #[] #[] 1537 3 #[] #[])
  fields := #[]
  methods := #[]
  instanceTypes := #[]
  staticTypes := #[]
  resolved := Array.replicate 11 none
  statics := none }

def pool3 : Array CpInfo := pool [(1, .class_ 2), (0, u "java/lang/Comparable"), (0, .class_ 4), (0, u "java/lang/Object")] 7

/-- java/lang/Comparable -/
def k3 : Class := { plain "java/lang/Comparable" (some 0) with
  accessFlags := 1537
  interfaces := #[]
  cf := some (fileOf pool3 1 #[] #[] 1537 3 #[] #[])
  fields := #[]
  methods := #[]
  instanceTypes := #[]
  staticTypes := #[]
  resolved := Array.replicate 12 none
  statics := none }

def pool4 : Array CpInfo := pool [(1, .class_ 2), (0, u "java/io/Serializable"), (0, .class_ 4), (0, u "java/lang/Object")] 2

/-- java/io/Serializable -/
def k4 : Class := { plain "java/io/Serializable" (some 0) with
  accessFlags := 1537
  interfaces := #[]
  cf := some (fileOf pool4 1 #[] #[] 1537 3 #[] #[])
  fields := #[]
  methods := #[]
  instanceTypes := #[]
  staticTypes := #[]
  resolved := Array.replicate 7 none
  statics := none }

def pool5 : Array CpInfo := pool [(2, .class_ 4), (1, u "java/lang/Enum"), (0, u "name"), (0, u "Ljava/lang/String;"), (2, u "ordinal"), (0, u "I"), (1, .class_ 14), (1, u "java/lang/Object"), (4, u "hash"), (86, .class_ 108), (1, u "java/lang/Enum$EnumDesc"), (2, .class_ 112), (0, u "java/lang/constant/Constable"), (0, .class_ 114), (0, u "java/lang/Comparable"), (0, .class_ 116), (0, u "java/io/Serializable")] 87

/-- java/lang/Enum -/
def k5 : Class := { plain "java/lang/Enum" (some 0) with
  accessFlags := 1057
  interfaces := #[2, 3, 4]
  cf := some (fileOf pool5 2 #[.nestMembers #[106]] #[] 1057 12 #[111, 113, 115] #[{ accessFlags := 18, nameIndex := 5, descriptorIndex := 6, attributes := #[] }, { accessFlags := 18, nameIndex := 9, descriptorIndex := 10, attributes := #[] }, { accessFlags := 2, nameIndex := 19, descriptorIndex := 10, attributes := #[] }])
  fields := #[{ name := "name", type := (.object "java/lang/String"), accessFlags := 18, slot := 0, constantValue := 0 }, { name := "ordinal", type := .int, accessFlags := 18, slot := 1, constantValue := 0 }, { name := "hash", type := .int, accessFlags := 2, slot := 2, constantValue := 0 }]
  methods := #[]
  instanceTypes := #[(.object "java/lang/String"), .int, .int]
  staticTypes := #[]
  resolved := Array.replicate 204 none
  statics := none }

def pool6 : Array CpInfo := pool [(1, .class_ 2), (0, u "com/example/sluice/sluice/xpath/Axis"), (2, u "CHILD"), (0, u "Lcom/example/sluice/sluice/xpath/Axis;"), (2, u "DESCENDANT"), (2, u "ATTRIBUTE"), (2, u "SELF"), (2, u "DESCENDANT_OR_SELF"), (2, u "FOLLOWING_SIBLING"), (2, u "FOLLOWING"), (2, u "NAMESPACE"), (0, .fieldref 1 29), (0, .nameAndType 30 6), (0, u "PARENT"), (0, .fieldref 1 32), (0, .nameAndType 33 6), (0, u "ANCESTOR"), (0, .fieldref 1 35), (0, .nameAndType 36 6), (0, u "PRECEDING_SIBLING"), (0, .fieldref 1 38), (0, .nameAndType 39 6), (0, u "PRECEDING"), (0, .fieldref 1 41), (0, .nameAndType 42 6), (0, u "ANCESTOR_OR_SELF"), (2, u "$VALUES"), (0, u "[Lcom/example/sluice/sluice/xpath/Axis;"), (6, .class_ 55), (1, u "java/lang/Enum"), (37, u "()Z"), (34, .class_ 129), (0, u "com/example/sluice/sluice/xpath/Axis$Walk"), (45, u "isReverse")] 16

def k6c0 : Code := { maxStack := 2, maxLocals := 1, code := prog_61_method_5_code, exceptionTable := #[], attributes := #[] }
def k6m0 : Method := { name := "isReverse", desc := "()Z", sig := { parameters := [], returnType := some .boolean }, accessFlags := 0, code := some k6c0 }
/-- com/example/sluice/sluice/xpath/Axis -/
def k6 : Class := { plain "com/example/sluice/sluice/xpath/Axis" (some 5) with
  accessFlags := 16432
  interfaces := #[]
  cf := some (fileOf pool6 1 #[.nestMembers #[128]] #[{ accessFlags := 0, nameIndex := 175, descriptorIndex := 93, attributes := #[] }] 16432 53 #[] #[{ accessFlags := 16409, nameIndex := 5, descriptorIndex := 6, attributes := #[] }, { accessFlags := 16409, nameIndex := 9, descriptorIndex := 6, attributes := #[] }, { accessFlags := 16409, nameIndex := 12, descriptorIndex := 6, attributes := #[] }, { accessFlags := 16409, nameIndex := 15, descriptorIndex := 6, attributes := #[] }, { accessFlags := 16409, nameIndex := 18, descriptorIndex := 6, attributes := #[] }, { accessFlags := 16409, nameIndex := 21, descriptorIndex := 6, attributes := #[] }, { accessFlags := 16409, nameIndex := 24, descriptorIndex := 6, attributes := #[] }, { accessFlags := 16409, nameIndex := 27, descriptorIndex := 6, attributes := #[] }, { accessFlags := 16409, nameIndex := 30, descriptorIndex := 6, attributes := #[] }, { accessFlags := 16409, nameIndex := 33, descriptorIndex := 6, attributes := #[] }, { accessFlags := 16409, nameIndex := 36, descriptorIndex := 6, attributes := #[] }, { accessFlags := 16409, nameIndex := 39, descriptorIndex := 6, attributes := #[] }, { accessFlags := 16409, nameIndex := 42, descriptorIndex := 6, attributes := #[] }, { accessFlags := 4122, nameIndex := 45, descriptorIndex := 46, attributes := #[] }])
  fields := #[{ name := "CHILD", type := (.object "com/example/sluice/sluice/xpath/Axis"), accessFlags := 16409, slot := 0, constantValue := 0 }, { name := "DESCENDANT", type := (.object "com/example/sluice/sluice/xpath/Axis"), accessFlags := 16409, slot := 1, constantValue := 0 }, { name := "ATTRIBUTE", type := (.object "com/example/sluice/sluice/xpath/Axis"), accessFlags := 16409, slot := 2, constantValue := 0 }, { name := "SELF", type := (.object "com/example/sluice/sluice/xpath/Axis"), accessFlags := 16409, slot := 3, constantValue := 0 }, { name := "DESCENDANT_OR_SELF", type := (.object "com/example/sluice/sluice/xpath/Axis"), accessFlags := 16409, slot := 4, constantValue := 0 }, { name := "FOLLOWING_SIBLING", type := (.object "com/example/sluice/sluice/xpath/Axis"), accessFlags := 16409, slot := 5, constantValue := 0 }, { name := "FOLLOWING", type := (.object "com/example/sluice/sluice/xpath/Axis"), accessFlags := 16409, slot := 6, constantValue := 0 }, { name := "NAMESPACE", type := (.object "com/example/sluice/sluice/xpath/Axis"), accessFlags := 16409, slot := 7, constantValue := 0 }, { name := "PARENT", type := (.object "com/example/sluice/sluice/xpath/Axis"), accessFlags := 16409, slot := 8, constantValue := 0 }, { name := "ANCESTOR", type := (.object "com/example/sluice/sluice/xpath/Axis"), accessFlags := 16409, slot := 9, constantValue := 0 }, { name := "PRECEDING_SIBLING", type := (.object "com/example/sluice/sluice/xpath/Axis"), accessFlags := 16409, slot := 10, constantValue := 0 }, { name := "PRECEDING", type := (.object "com/example/sluice/sluice/xpath/Axis"), accessFlags := 16409, slot := 11, constantValue := 0 }, { name := "ANCESTOR_OR_SELF", type := (.object "com/example/sluice/sluice/xpath/Axis"), accessFlags := 16409, slot := 12, constantValue := 0 }, { name := "$VALUES", type := (.array (.object "com/example/sluice/sluice/xpath/Axis")), accessFlags := 4122, slot := 13, constantValue := 0 }]
  methods := #[k6m0]
  instanceTypes := #[(.object "java/lang/String"), .int, .int]
  staticTypes := #[(.object "com/example/sluice/sluice/xpath/Axis"), (.object "com/example/sluice/sluice/xpath/Axis"), (.object "com/example/sluice/sluice/xpath/Axis"), (.object "com/example/sluice/sluice/xpath/Axis"), (.object "com/example/sluice/sluice/xpath/Axis"), (.object "com/example/sluice/sluice/xpath/Axis"), (.object "com/example/sluice/sluice/xpath/Axis"), (.object "com/example/sluice/sluice/xpath/Axis"), (.object "com/example/sluice/sluice/xpath/Axis"), (.object "com/example/sluice/sluice/xpath/Axis"), (.object "com/example/sluice/sluice/xpath/Axis"), (.object "com/example/sluice/sluice/xpath/Axis"), (.object "com/example/sluice/sluice/xpath/Axis"), (.array (.object "com/example/sluice/sluice/xpath/Axis"))]
  resolved := Array.replicate 192 none
  statics := some 0 }

def pool7 : Array CpInfo := pool [(1, u "java/lang/Cloneable"), (0, .class_ 1), (0, u "java/lang/Object"), (0, .class_ 3)] 3

/-- java/lang/Cloneable -/
def k7 : Class := { plain "java/lang/Cloneable" (some 0) with
  accessFlags := 1537
  interfaces := #[]
  cf := some (fileOf pool7 2 #[] #[] 1537 4 #[] #[])
  fields := #[]
  methods := #[]
  instanceTypes := #[]
  staticTypes := #[]
  resolved := Array.replicate 8 none
  statics := none }

/-- the primitive byte -/
def k8 : Class := { plain "byte" none with kind := .primitive 'B', accessFlags := 0x411 }
/-- [B -/
def k9 : Class := { plain "[B" (some 0) with kind := .array 8 .byte, interfaces := #[7, 4], accessFlags := 1041 }

/-- the primitive int -/
def k10 : Class := { plain "int" none with kind := .primitive 'I', accessFlags := 0x411 }
/-- [I -/
def k11 : Class := { plain "[I" (some 0) with kind := .array 10 .int, interfaces := #[7, 4], accessFlags := 1041 }

def heap : Heap := #[{ cls := 6, slots := #[.ref 1, .ref 12, .ref 11, .ref 7, .ref 13, .ref 9, .ref 8, .ref 10, .ref 2, .ref 3, .ref 4, .ref 5, .ref 6, .null], vm := .statics 6 },
  { cls := 6, slots := #[.null, .int 0, .int 0], vm := .none },
  { cls := 6, slots := #[.null, .int 8, .int 0], vm := .none },
  { cls := 6, slots := #[.null, .int 9, .int 0], vm := .none },
  { cls := 6, slots := #[.null, .int 10, .int 0], vm := .none },
  { cls := 6, slots := #[.null, .int 11, .int 0], vm := .none },
  { cls := 6, slots := #[.null, .int 12, .int 0], vm := .none },
  { cls := 6, slots := #[.null, .int 3, .int 0], vm := .none },
  { cls := 6, slots := #[.null, .int 6, .int 0], vm := .none },
  { cls := 6, slots := #[.null, .int 5, .int 0], vm := .none },
  { cls := 6, slots := #[.null, .int 7, .int 0], vm := .none },
  { cls := 6, slots := #[.null, .int 2, .int 0], vm := .none },
  { cls := 6, slots := #[.null, .int 1, .int 0], vm := .none },
  { cls := 6, slots := #[.null, .int 4, .int 0], vm := .none }]
def classes : Array Class := #[k0, k1, k2, k3, k4, k5, k6, k7, k8, k9, k10, k11]
def interned : List (Array UInt16 × Addr) := []
def slotsUsed : Nat := 53
def theMethod : MethodId := ⟨1, 2⟩
def args0 : Array Value := #[.int 5]
def aboutOver (below : List Frame) : State where
  vm := { classes := classes, interned := interned.toArray }
  heap := heap
  slotsUsed := slotsUsed
  threads := #[{ frames := .invoking theMethod args0 :: below }]
def below0 : List Frame := [.native { method := ⟨0, 0⟩, args := #[] }]
def about1 : State := aboutOver below0
def p0 : Program := .bare "" "" ""
def e0 : Env := launch0.env 0 0 0
theorem w_frames : about1.frames = Frame.invoking theMethod args0 :: below0 := rfl
set_option maxRecDepth 65536 in
theorem w_args : argsFit about1.vm theMethod args0 = true := by decide +kernel
set_option maxRecDepth 65536 in
theorem w_heap : heapFits about1 = true := by decide +kernel
set_option maxRecDepth 65536 in
theorem w_runnable : about1.curStatus? = some .runnable := by decide +kernel
set_option maxRecDepth 65536 in
theorem w_alone : about1.alone = true := by decide +kernel
set_option maxRecDepth 65536 in
theorem w_named : about1.methodNamed? x = some theMethod := by decide +kernel
set_option maxRecDepth 65536 in
theorem w_hears : about1.hears theMethod below0 = true := by decide +kernel
set_option maxRecDepth 65536 in
theorem w_ripe : about1.ripe theMethod args0 below0 = true := by decide +kernel
theorem w_running : about1.status = .running := rfl
set_option maxRecDepth 65536 in
theorem w_room : about1.hasRoom e0.platform room_1 = true :=
  launch0.hasRoom_least _ room_1 (by decide +kernel) (by decide +kernel) (by decide +kernel) (by decide +kernel) (by decide +kernel) (by decide +kernel)
theorem allAtoms_all (ts : List Jvm.Cond) (a : Array Jvm.Value) (st : Jvm.State) : (allAtoms ts).before a st = ts.all (fun c => c.before a st) := by
  induction ts with
  | nil => rfl
  | cons c t ih =>
    show (Jvm.Cond.and c (allAtoms t)).before a st = _
    rw [Jvm.Cond.before_and, ih, List.all_cons]
def words1 : List Jvm.Cond := Jvm.Cond.code x code maxLocals ret :: tables_1
/-- a 'code' word, met by the world's own term for the bytes: nothing is compared byte by byte -/
theorem code_word {y : MethodName} {bytes : ByteArray} {mx : Nat} {rt : Option FieldType} {a : Array Value} {s : State} {m : MethodId} {meth : Method} {c : Code} (h1 : s.methodNamed? y = some m) (h2 : s.vm.method? m = some meth) (h3 : meth.code = some c) (h4 : c.code = bytes)
    (h5 : (c.maxLocals == mx && c.exceptionTable.isEmpty && decide (c.maxStack ≤ mostOperands) && decide (meth.sig.returnType = rt) && !meth.locks && decide (parseMethodDescriptor y.desc = some meth.sig)) = true) : (Jvm.Cond.code y bytes mx rt).before a s = true := by
  simp only [Bool.and_eq_true, beq_iff_eq, Bool.not_eq_true', decide_eq_true_eq] at h5
  obtain ⟨⟨⟨⟨⟨g1, g2⟩, g3⟩, g4⟩, g5⟩, g6⟩ := h5
  simp [Cond.before, Cond.holds, Cond.value, h1, h2, h3, h4, g1, g2, g3, g4, g5, g6]
def isCode : Jvm.Cond → Bool
  | .code _ _ _ _ => true
  | _ => false
theorem all_split {L : List Jvm.Cond} {P : Jvm.Cond → Bool} (h1 : L.all (fun c => isCode c || P c) = true) (h2 : ∀ c ∈ L.filter isCode, P c = true) : L.all P = true := by
  refine List.all_eq_true.mpr fun c hc => ?_
  have h := List.all_eq_true.mp h1 c hc
  rcases Bool.eq_false_or_eq_true (isCode c) with hi | hi
  · exact h2 c (List.mem_filter.mpr ⟨hc, hi⟩)
  · simpa [hi] using h
set_option maxRecDepth 65536 in
theorem w_c0 : (Jvm.Cond.code x code maxLocals ret).before args0 about1 = true := code_word (m := ⟨1, 2⟩) (meth := k1m2) (c := k1c2) (by decide +kernel) rfl rfl rfl (by decide +kernel)
set_option maxRecDepth 65536 in
theorem w_c1 : (Jvm.Cond.code ({ cls := "com/example/sluice/sluice/xpath/AxisIsReversePinLaw", name := "axisAt", desc := "(I)Lcom/example/sluice/sluice/xpath/Axis;" } : Jvm.MethodName) method_2_code (1 : Nat) (Option.some (Jvm.ClassFile.FieldType.object "com/example/sluice/sluice/xpath/Axis"))).before args0 about1 = true := code_word (m := ⟨1, 1⟩) (meth := k1m1) (c := k1c1) (by decide +kernel) rfl rfl rfl (by decide +kernel)
set_option maxRecDepth 65536 in
theorem w_c2 : (Jvm.Cond.code ({ cls := "com/example/sluice/sluice/xpath/Axis", name := "isReverse", desc := "()Z" } : Jvm.MethodName) prog_61_method_5_code (1 : Nat) (Option.some Jvm.ClassFile.FieldType.boolean)).before args0 about1 = true := code_word (m := ⟨6, 0⟩) (meth := k6m0) (c := k6c0) (by decide +kernel) rfl rfl rfl (by decide +kernel)
def codes1 : List Jvm.Cond := [Jvm.Cond.code x code maxLocals ret, Jvm.Cond.code ({ cls := "com/example/sluice/sluice/xpath/AxisIsReversePinLaw", name := "axisAt", desc := "(I)Lcom/example/sluice/sluice/xpath/Axis;" } : Jvm.MethodName) method_2_code (1 : Nat) (Option.some (Jvm.ClassFile.FieldType.object "com/example/sluice/sluice/xpath/Axis")), Jvm.Cond.code ({ cls := "com/example/sluice/sluice/xpath/Axis", name := "isReverse", desc := "()Z" } : Jvm.MethodName) prog_61_method_5_code (1 : Nat) (Option.some Jvm.ClassFile.FieldType.boolean)]
set_option maxRecDepth 65536 in
theorem codes_eq : words1.filter isCode = codes1 := rfl
theorem w_codes : ∀ c ∈ words1.filter isCode, c.before args0 about1 = true := by
  rw [codes_eq]
  intro c hc
  simp only [codes1, List.mem_cons, List.not_mem_nil, or_false] at hc
  rcases hc with rfl | rfl | rfl
  · exact w_c0
  · exact w_c1
  · exact w_c2
set_option maxRecDepth 65536 in
theorem w_t1 : (words1.take 24).all (fun c => isCode c || c.before args0 about1) = true := by decide +kernel
set_option maxRecDepth 65536 in
theorem w_t2 : (words1.drop 24).all (fun c => isCode c || c.before args0 about1) = true := by decide +kernel
theorem w_tables : (allAtoms (Jvm.Cond.code x code maxLocals ret :: tables_1)).before args0 about1 = true := by
  rw [allAtoms_all]
  show words1.all (fun c => c.before args0 about1) = true
  refine all_split ?_ w_codes
  rw [← List.take_append_drop 24 words1, List.all_append, w_t1, w_t2]
  rfl
set_option maxRecDepth 65536 in
theorem w_case : (Jvm.Cond.and given_1 narrow_1).before args0 about1 = true := by decide +kernel
theorem w_applies : (headSpec (Jvm.Cond.code x code maxLocals ret :: tables_1) room_1).applies x e0.platform about1 = true :=
  (Spec.applies_iff w_frames).mpr ⟨w_running, w_runnable, w_alone, w_named, w_hears, w_ripe, w_room, w_tables⟩
theorem atStart : AtStart classFile x code maxLocals ret World_1 tables_1 room_1 Calls_1 rest_1 Pre_1 launch0 p0 e0 about1 theMethod args0 below0 :=
  ⟨lists_1, trivial, launch0.admits_env _ _ _, launch0.least_env, fairChoices_fair.cas, fairChoices_fair.clock, w_frames, w_args, w_heap, w_applies, trivial, trivial, w_case⟩
end start1
theorem witness_1 : WitnessClaimed_1 := ⟨start1.p0, start1.e0, start1.about1, start1.theMethod, start1.args0, start1.below0, start1.atStart⟩
end Jvm.Pilot.@@N@@
