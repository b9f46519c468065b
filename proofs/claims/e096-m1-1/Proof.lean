import JvmDerived
import JvmDerived.Pilot.@@N@@Statement
import JvmDerived.Pilot.@@N@@Code
set_option linter.unusedVariables false
set_option linter.unusedSimpArgs false
namespace Jvm.RoadKit
open Sem ClassFile Op Lib Jvm.Stand Jvm.Free Jvm.LawKit
section New
variable {p : Program} {l : Launch} {e : Env} {R : Room} {s : State} {m : MethodId} {args : Array Value} {below : List Frame} {meth : Method} {c : Code} {T : State} {locs : List Loc} {cells slots : Nat}
theorem retI (X : Stand p l e R s m args below meth c T locs cells slots) (hx : p.tables.exec = Jvm.exec) {pc : Nat} {Ls : Array Slot} {z : Int32} {rest : List Value} (hret : meth.sig.returnType = some .int) (hd : decode c.code pc = .ok (.ireturn, 1)) {fs : List Frame}
    (hl : ∀ (f : JFrame) (acts : List Action), f.method = m → f.locked = none → f.entered = [] → (doReturn e (T.setTop f) acts (some (.int z))).1 = T.setFrames fs) : Steps p.tables e below (T.setTop (mkF m pc Ls (.int z :: rest))) (T.setFrames fs) := by
  have hm' : T.vm.method? m = some meth := X.method'
  have hn : narrow .int (.int z) = .int z := rfl
  show Steps p.tables e below (T.setTop { method := m, pc := pc, locals := Ls, stack := _ :: rest, locked := none }) _
  jvm_step X.here [X.here.top, hx, hd, hm', hret, hn]
  first | (intro acts; rw [hl _ acts rfl rfl rfl]) | rw [hl _ _ rfl rfl rfl]
  exact Steps.refl _
end New
end Jvm.RoadKit
namespace Jvm.Pilot.@@N@@
open Jvm Jvm.ClassFile Sem Op Lib Jvm.Free Jvm.Stand Jvm.LawKit Jvm.RoadKit Bundle Jvm.Pilot.@@N@@.Jvm.D
theorem own_eqint {t : Term} {n : Int32} {args : Array Value} {s : State} (h : (Cond.eq t (.int n)).value args s none s [] = some true) : t.eval args s none [] s = some (.int n) := by
  obtain ⟨x, y, h1, h2, k1, k2⟩ := cmp_v (Or.inl h)
  cases h2
  obtain ⟨z, rfl⟩ := k2
  have := gotT (P := z = n) (by simp [Cond.value, h1, Term.eval]) h
  rw [h1, this]
theorem own_ne {t u : Term} {C f d : String} {i j : Int32} {a b : Addr} {args : Array Value} {s : State} (ea : t.eval args s none [] s = some (.ref a)) (eb : u.eval args s none [] s = some (.ref b)) (ha : (Term.field t C f d).eval args s none [] s = some (.int i)) (hb : (Term.field u C f d).eval args s none [] s = some (.int j)) (hij : i ≠ j) : ¬ (a = b) := fun e => by
  rw [fld_at ea] at ha; rw [fld_at eb] at hb; rw [e, hb] at ha; cases ha; exact hij rfl
theorem own_and (x : Int32) : 0 ≤ (x &&& 2147483647).toInt := by
  have h : (x &&& 2147483647).toBitVec = x.toBitVec &&& 2147483647#32 := rfl
  show 0 ≤ (x &&& 2147483647).toBitVec.toInt
  rw [h]
  have : (x.toBitVec &&& 2147483647#32).msb = false := by
    rw [BitVec.msb_and, show (2147483647#32).msb = false from by decide, Bool.and_false]
  rw [BitVec.toInt_eq_toNat_of_msb this]; omega
theorem own_rem (x n : Int32) (hn : 0 < n.toInt) : 0 ≤ ((x &&& 2147483647) % n).toInt ∧ ((x &&& 2147483647) % n).toInt < n.toInt := by
  rw [Int32.toInt_mod]
  have := own_and x
  exact ⟨Int.tmod_nonneg _ this, Int.tmod_lt_of_pos _ hn⟩
theorem own_fin (x n : Int32) (k : Nat) (hn : n.toInt = k) (hk : 0 < k) : ∃ j : Fin k, (x &&& 2147483647) % n = Int32.ofInt (j.val : Int) := by
  have := own_rem x n (by omega)
  generalize (x &&& 2147483647) % n = i at *
  refine ⟨⟨i.toInt.toNat, by omega⟩, ?_⟩
  show i = Int32.ofInt ((i.toInt.toNat : Nat) : Int)
  rw [Int.toNat_of_nonneg this.1, Int32.ofInt_toInt]
theorem d4_0 : decode jdk_42_method_152_code 0 = .ok (.getstatic 38, 3) := by decide +kernel
theorem d4_3 : decode jdk_42_method_152_code 3 = .ok (.ifCond .eq 10, 3) := by decide +kernel
theorem d4_6 : decode jdk_42_method_152_code 6 = .ok (.aload_n 0, 1) := by decide +kernel
theorem d4_7 : decode jdk_42_method_152_code 7 = .ok (.getfield 15, 3) := by decide +kernel
theorem d4_10 : decode jdk_42_method_152_code 10 = .ok (.goto 4, 3) := by decide +kernel
theorem d4_14 : decode jdk_42_method_152_code 14 = .ok (.ireturn, 1) := by decide +kernel
theorem pn_4 : plainName "java/lang/String" = true := by first | (simp [plainName, overriddenIn]; done) | decide +kernel
theorem ef_4 (m : MethodId) (x0 : Addr) : entryFrame m #[(.ref x0)] 1 = mkF m 0 #[.val (.ref x0)] [] := by first | (simp [entryFrame, mkF, argsToLocals, Value.category]; done) | rfl
def QP (r : Value) (h0 : Heap) (n0 : Nat) (v : Option Value) (h : Heap) (L : List Loc) : Prop := v = some r ∧ Fr n0 L ∧ h = h0
set_option maxRecDepth 65536 in
set_option maxHeartbeats 40000000 in
theorem rm4 (l : Launch) (Z : State) (a0 : Array Value) (hw : ∀ d ∈ tables_1, d.before a0 Z = true) (ws : List Jvm.Cond) (a1 : Addr) (w_COMPACT_STRINGS : Int32) (h0 : Heap) (n0 : Nat) (Z0 : n0 ≤ h0.size) (S_COMPACT_STRINGS : Sta Z h0 "java/lang/String" "COMPACT_STRINGS" "Z" (.int w_COMPACT_STRINGS)) (F_coder_a1 : Fld Z h0 a1 "java/lang/String" "coder" "B" (.int (0 : Int32))) (hc3 : ¬ (w_COMPACT_STRINGS = (0 : Int32))) :
    MetFree l (⟨"java/lang/String", "coder", "()B"⟩ : MethodName) (head1 (Jvm.Cond.code (⟨"java/lang/String", "coder", "()B"⟩ : MethodName) jdk_42_method_152_code 1 (some .byte) :: ws) ({ frames := 0, cells := 0, slots := 0, locals := 0 } : Room)) (fun a U => a = #[(.ref a1)] ∧ Z.Warmed39 U.vm ∧ U.heap = h0) (fun _ _ _ _ _ => True) (fun _ U o U' => ∃ v L, o = .returned v ∧ QP (.int (0 : Int32)) h0 n0 v U'.heap L ∧ FrameEnd U o U' L ({ frames := 0, cells := 0, slots := 0, locals := 0 } : Room).cells ({ frames := 0, cells := 0, slots := 0, locals := 0 } : Room).slots) := by
  refine MetFree.of_bodySF (plainFor_of_name pn_4) hisR ?_
  intro p e s m args below meth c s₁ Bd hml0 hP hK
  obtain ⟨rfl, hZ, hh⟩ := hP
  have hx := Bd.exec
  have hby := Bd.bytes
  have hml : c.maxLocals = 1 := hml0
  have hown : s.vm.findClass "java/lang/String" = some m.cls := findClass_of_methodNamed Bd.named
  have hnm := (name_of_methodNamed Bd.named Bd.method).1
  have X0 : Stand p l e ({ frames := 0, cells := 0, slots := 0, locals := 0 } : Room) s m #[(.ref a1)] below meth c s₁ [] 0 0 := Stand.of_body Bd
  have e0 : s₁.heap = h0 := by rw [← hh, Bd.state]; rfl
  have N0 := Fr.nil n0
  have pre0 : ∀ t, Steps p.tables e below (s₁.setTop (mkF m 0 #[.val (.ref a1)] [])) t → Steps p.tables e below (s₁.setTop (entryFrame m #[(.ref a1)] 1)) t := fun t k => castTop (ef_4 m a1) k
  obtain ⟨T2, X2, e2, st2⟩ := getS2 X0 hx hZ hown (host := "") (Or.inl (hw _ (List.mem_of_getElem? (i := 28) rfl))) Via.refl e0 S_COMPACT_STRINGS (g := (mkF m 0 #[.val (.ref a1)] [])) rfl (hb hby d4_0)
  obtain ⟨T3, X3, e3, st3⟩ := getF X2 hx hZ hown (host := "") (Or.inl (hw _ (List.mem_of_getElem? (i := 29) rfl))) Via.refl e2 F_coder_a1 (g := (mkF m 7 #[.val (.ref a1)] [(.ref a1)])) rfl rfl (hb hby d4_7)
  obtain ⟨fs, hr, hrun, hended, hW, hsame⟩ := X3.leave (v := some (.int (0 : Int32))) (fun h => by rw [Bd.returns] at h; cases h)
  refine ⟨_, _, pre0 _ ?_, hrun, hended, _, _, rfl, ?_, ⟨_, rfl⟩, hW, hsame.mono (by decide) (by decide)⟩
  · show Steps p.tables e below (s₁.setTop (mkF m 0 #[.val (.ref a1)] [])) _
    refine st2 _ ?_
    show Steps p.tables e below (T2.setTop (mkF m 3 #[.val (.ref a1)] [(.int w_COMPACT_STRINGS)])) _
    refine XS.ifNo X2.here hx rfl (hb hby d4_3) rfl ((if0 _ _).trans (feq hc3).1) ?_
    show Steps p.tables e below (T2.setTop (mkF m 6 #[.val (.ref a1)] [])) _
    refine XS.aloadN X2.here hx rfl (hb hby d4_6) rfl rfl ?_
    show Steps p.tables e below (T2.setTop (mkF m 7 #[.val (.ref a1)] [(.ref a1)])) _
    refine st3 _ ?_
    show Steps p.tables e below (T3.setTop (mkF m 10 #[.val (.ref a1)] [(.int (0 : Int32))])) _
    refine XS.goto X3.here hx rfl (pc0 := 10) (pc' := 14) rfl (hb hby d4_10) (by decide) (by decide) ?_
    show Steps p.tables e below (T3.setTop (mkF m 14 #[.val (.ref a1)] [(.int (0 : Int32))])) _
    exact retN X3 hx (t := .byte) Bd.returns (by simp) (hb hby d4_14) hr
  · show QP (.int (0 : Int32)) h0 n0 _ T3.heap _
    rw [e3]
    exact ⟨rfl, N0, rfl⟩
theorem d3_0 : decode jdk_42_method_54_code 0 = .ok (.aload_n 0, 1) := by decide +kernel
theorem d3_1 : decode jdk_42_method_54_code 1 = .ok (.getfield 9, 3) := by decide +kernel
theorem d3_4 : decode jdk_42_method_54_code 4 = .ok (.arraylength, 1) := by decide +kernel
theorem d3_5 : decode jdk_42_method_54_code 5 = .ok (.aload_n 0, 1) := by decide +kernel
theorem d3_6 : decode jdk_42_method_54_code 6 = .ok (.invokevirtual 335, 3) := by decide +kernel
theorem d3_9 : decode jdk_42_method_54_code 9 = .ok (.ishr, 1) := by decide +kernel
theorem d3_10 : decode jdk_42_method_54_code 10 = .ok (.ireturn, 1) := by decide +kernel
theorem pn_3 : plainName "java/lang/String" = true := by first | (simp [plainName, overriddenIn]; done) | decide +kernel
theorem pd_3_3 : parseMethodDescriptor "()B" = some ⟨[], some .byte⟩ := by decide +kernel
theorem ef_3 (m : MethodId) (x0 : Addr) : entryFrame m #[(.ref x0)] 1 = mkF m 0 #[.val (.ref x0)] [] := by first | (simp [entryFrame, mkF, argsToLocals, Value.category]; done) | rfl
set_option maxRecDepth 65536 in
set_option maxHeartbeats 40000000 in
theorem rm3 (l : Launch) (Z : State) (a0 : Array Value) (hw : ∀ d ∈ tables_1, d.before a0 Z = true) (ws : List Jvm.Cond) (a1 : Addr) (v_value_a1 : Addr) (cl_v_value_a1 : Cell) (z_v_value_a1 : Int32) (w_COMPACT_STRINGS : Int32) (h0 : Heap) (n0 : Nat) (Z0 : n0 ≤ h0.size) (F_value_a1 : Fld Z h0 a1 "java/lang/String" "value" "[B" (.ref v_value_a1)) (Ar_v_value_a1 : Arr Z h0 v_value_a1 cl_v_value_a1 .byte) (S_v_value_a1 : cl_v_value_a1.slots.size = z_v_value_a1.toNatClampNeg) (N_v_value_a1 : ¬ z_v_value_a1 < 0) (E_a1 : Exa Z h0 a1 "java/lang/String") (S_COMPACT_STRINGS : Sta Z h0 "java/lang/String" "COMPACT_STRINGS" "Z" (.int w_COMPACT_STRINGS)) (F_coder_a1 : Fld Z h0 a1 "java/lang/String" "coder" "B" (.int (0 : Int32))) (hcs : ¬ (w_COMPACT_STRINGS = (0 : Int32))) :
    MetFree l (⟨"java/lang/String", "length", "()I"⟩ : MethodName) (head1 (Jvm.Cond.code (⟨"java/lang/String", "length", "()I"⟩ : MethodName) jdk_42_method_54_code 1 (some .int) :: ws) ({ frames := 1, cells := 0, slots := 0, locals := 13 } : Room)) (fun a U => a = #[(.ref a1)] ∧ Z.Warmed39 U.vm ∧ U.heap = h0) (fun _ _ _ _ _ => True) (fun _ U o U' => ∃ v L, o = .returned v ∧ QP (.int (z_v_value_a1 >>> ((0 : Int32) &&& 31))) h0 n0 v U'.heap L ∧ FrameEnd U o U' L ({ frames := 1, cells := 0, slots := 0, locals := 13 } : Room).cells ({ frames := 1, cells := 0, slots := 0, locals := 13 } : Room).slots) := by
  refine MetFree.of_bodySF (plainFor_of_name pn_3) hisR ?_
  intro p e s m args below meth c s₁ Bd hml0 hP hK
  obtain ⟨rfl, hZ, hh⟩ := hP
  have hx := Bd.exec
  have hby := Bd.bytes
  have hml : c.maxLocals = 1 := hml0
  have hown : s.vm.findClass "java/lang/String" = some m.cls := findClass_of_methodNamed Bd.named
  have hnm := (name_of_methodNamed Bd.named Bd.method).1
  have X0 : Stand p l e ({ frames := 1, cells := 0, slots := 0, locals := 13 } : Room) s m #[(.ref a1)] below meth c s₁ [] 0 0 := Stand.of_body Bd
  have e0 : s₁.heap = h0 := by rw [← hh, Bd.state]; rfl
  have N0 := Fr.nil n0
  have pre0 : ∀ t, Steps p.tables e below (s₁.setTop (mkF m 0 #[.val (.ref a1)] [])) t → Steps p.tables e below (s₁.setTop (entryFrame m #[(.ref a1)] 1)) t := fun t k => castTop (ef_3 m a1) k
  obtain ⟨T2, X2, e2, st2⟩ := getF X0 hx hZ hown (host := "") (Or.inl (hw _ (List.mem_of_getElem? (i := 21) rfl))) Via.refl e0 F_value_a1 (g := (mkF m 1 #[.val (.ref a1)] [(.ref a1)])) rfl rfl (hb hby d3_1)
  obtain ⟨cq3, kq3, q3a, q3b, q3c⟩ := isOf hZ e2 E_a1
  obtain ⟨_, _, ⟨T3, L3, k3, n3⟩, -, X3, ⟨Lc3, hQ3, l3, y3, z3⟩, st3⟩ := X2.virtualBack hx (y := (⟨"java/lang/String", "coder", "()B"⟩ : MethodName)) (z := (⟨"java/lang/String", "coder", "()B"⟩ : MethodName)) hown (mvT hZ (hw _ (List.mem_of_getElem? (i := 23) rfl))) (mvT hZ (hw _ (List.mem_of_getElem? (i := 24) rfl))) (notFace_of_selects (args := #[]) (mvT hZ (hw _ (List.mem_of_getElem? (i := 26) rfl)))) (mvT hZ (hw _ (List.mem_of_getElem? (i := 26) rfl))) (mvT hZ (hw _ (List.mem_of_getElem? (i := 25) rfl))) (by decide) (backOf (W := 1) (rm4 l Z a0 hw [] a1 w_COMPACT_STRINGS h0 n0 Z0 S_COMPACT_STRINGS F_coder_a1 hcs) hZ (hw _ (List.mem_of_getElem? (i := 27) rfl)) (hw _ (List.mem_of_getElem? (i := 19) rfl)) (by decide) (by decide)) q3a q3c (g := (mkF m 6 #[.val (.ref a1)] [(.ref a1), (.int z_v_value_a1)])) rfl (by rw [hml]; rfl) (Steps.refl _) (argsL := []) (rest := [(.int z_v_value_a1)]) (lenOf pd_3_3 rfl) rfl (by show 2 * 0 + _ ≤ _; exact Nat.le_of_eq rfl) (hb hby d3_6) (fun _ _ => ⟨rfl, e2, (by decide : 0 + 0 ≤ _), (by decide : 0 + 0 ≤ _)⟩)
  dsimp only [Pt.U, Pt.locs, Pt.cells, Pt.slots] at X3 l3 y3 z3 st3 hQ3
  subst l3 y3 z3
  obtain ⟨rfl, N3q, e3⟩ := hQ3
  have N3 := Fr.app N0 N3q
  obtain ⟨fs, hr, hrun, hended, hW, hsame⟩ := X3.leave (v := some (.int (z_v_value_a1 >>> ((0 : Int32) &&& 31)))) (fun h => by rw [Bd.returns] at h; cases h)
  refine ⟨_, _, pre0 _ ?_, hrun, hended, _, _, rfl, ?_, ⟨_, rfl⟩, hW, hsame.mono (by decide) (by decide)⟩
  · show Steps p.tables e below (s₁.setTop (mkF m 0 #[.val (.ref a1)] [])) _
    refine XS.aloadN X0.here hx rfl (hb hby d3_0) rfl rfl ?_
    show Steps p.tables e below (s₁.setTop (mkF m 1 #[.val (.ref a1)] [(.ref a1)])) _
    refine st2 _ ?_
    show Steps p.tables e below (T2.setTop (mkF m 4 #[.val (.ref a1)] [(.ref v_value_a1)])) _
    refine X2.arraylength hx (by rw [e2]; exact Ar_v_value_a1.1) (State.isArrayOf_alike hZ.alike Ar_v_value_a1.2.1) (g := (mkF m 4 #[.val (.ref a1)] [(.ref v_value_a1)])) rfl rfl (hb hby d3_4) _ ?_
    rw [len_of S_v_value_a1 N_v_value_a1]
    show Steps p.tables e below (T2.setTop (mkF m 5 #[.val (.ref a1)] [(.int z_v_value_a1)])) _
    refine XS.aloadN X2.here hx rfl (hb hby d3_5) rfl rfl ?_
    show Steps p.tables e below (T2.setTop (mkF m 6 #[.val (.ref a1)] [(.ref a1), (.int z_v_value_a1)])) _
    refine st3.trans ?_
    show Steps p.tables e below (T3.setTop (mkF m 9 #[.val (.ref a1)] [(.int (0 : Int32)), (.int z_v_value_a1)])) _
    refine XS.ishr X3.here hx rfl (hb hby d3_9) rfl ?_
    show Steps p.tables e below (T3.setTop (mkF m 10 #[.val (.ref a1)] [(.int (z_v_value_a1 >>> ((0 : Int32) &&& 31)))])) _
    exact retI X3 hx Bd.returns (hb hby d3_10) hr
  · show QP (.int (z_v_value_a1 >>> ((0 : Int32) &&& 31))) h0 n0 _ T3.heap _
    rw [e3]
    exact ⟨rfl, N3, rfl⟩
theorem d6_0 : decode jdk_42_method_154_code 0 = .ok (.getstatic 38, 3) := by decide +kernel
theorem d6_3 : decode jdk_42_method_154_code 3 = .ok (.ifCond .eq 14, 3) := by decide +kernel
theorem d6_6 : decode jdk_42_method_154_code 6 = .ok (.aload_n 0, 1) := by decide +kernel
theorem d6_7 : decode jdk_42_method_154_code 7 = .ok (.getfield 15, 3) := by decide +kernel
theorem d6_10 : decode jdk_42_method_154_code 10 = .ok (.ifCond .ne 7, 3) := by decide +kernel
theorem d6_13 : decode jdk_42_method_154_code 13 = .ok (.iconst 1, 1) := by decide +kernel
theorem d6_14 : decode jdk_42_method_154_code 14 = .ok (.goto 4, 3) := by decide +kernel
theorem d6_18 : decode jdk_42_method_154_code 18 = .ok (.ireturn, 1) := by decide +kernel
theorem pn_6 : plainName "java/lang/String" = true := by first | (simp [plainName, overriddenIn]; done) | decide +kernel
theorem ef_6 (m : MethodId) (x0 : Addr) : entryFrame m #[(.ref x0)] 1 = mkF m 0 #[.val (.ref x0)] [] := by first | (simp [entryFrame, mkF, argsToLocals, Value.category]; done) | rfl
set_option maxRecDepth 65536 in
set_option maxHeartbeats 40000000 in
theorem rm6 (l : Launch) (Z : State) (a0 : Array Value) (hw : ∀ d ∈ tables_1, d.before a0 Z = true) (ws : List Jvm.Cond) (a1 : Addr) (w_COMPACT_STRINGS : Int32) (h0 : Heap) (n0 : Nat) (Z0 : n0 ≤ h0.size) (S_COMPACT_STRINGS : Sta Z h0 "java/lang/String" "COMPACT_STRINGS" "Z" (.int w_COMPACT_STRINGS)) (F_coder_a1 : Fld Z h0 a1 "java/lang/String" "coder" "B" (.int (0 : Int32))) (hc3 : ¬ (w_COMPACT_STRINGS = (0 : Int32))) :
    MetFree l (⟨"java/lang/String", "isLatin1", "()Z"⟩ : MethodName) (head1 (Jvm.Cond.code (⟨"java/lang/String", "isLatin1", "()Z"⟩ : MethodName) jdk_42_method_154_code 1 (some .boolean) :: ws) ({ frames := 0, cells := 0, slots := 0, locals := 0 } : Room)) (fun a U => a = #[(.ref a1)] ∧ Z.Warmed39 U.vm ∧ U.heap = h0) (fun _ _ _ _ _ => True) (fun _ U o U' => ∃ v L, o = .returned v ∧ QP (.int (1 : Int32)) h0 n0 v U'.heap L ∧ FrameEnd U o U' L ({ frames := 0, cells := 0, slots := 0, locals := 0 } : Room).cells ({ frames := 0, cells := 0, slots := 0, locals := 0 } : Room).slots) := by
  refine MetFree.of_bodySF (plainFor_of_name pn_6) hisR ?_
  intro p e s m args below meth c s₁ Bd hml0 hP hK
  obtain ⟨rfl, hZ, hh⟩ := hP
  have hx := Bd.exec
  have hby := Bd.bytes
  have hml : c.maxLocals = 1 := hml0
  have hown : s.vm.findClass "java/lang/String" = some m.cls := findClass_of_methodNamed Bd.named
  have hnm := (name_of_methodNamed Bd.named Bd.method).1
  have X0 : Stand p l e ({ frames := 0, cells := 0, slots := 0, locals := 0 } : Room) s m #[(.ref a1)] below meth c s₁ [] 0 0 := Stand.of_body Bd
  have e0 : s₁.heap = h0 := by rw [← hh, Bd.state]; rfl
  have N0 := Fr.nil n0
  have pre0 : ∀ t, Steps p.tables e below (s₁.setTop (mkF m 0 #[.val (.ref a1)] [])) t → Steps p.tables e below (s₁.setTop (entryFrame m #[(.ref a1)] 1)) t := fun t k => castTop (ef_6 m a1) k
  obtain ⟨T2, X2, e2, st2⟩ := getS2 X0 hx hZ hown (host := "") (Or.inl (hw _ (List.mem_of_getElem? (i := 28) rfl))) Via.refl e0 S_COMPACT_STRINGS (g := (mkF m 0 #[.val (.ref a1)] [])) rfl (hb hby d6_0)
  obtain ⟨T3, X3, e3, st3⟩ := getF X2 hx hZ hown (host := "") (Or.inl (hw _ (List.mem_of_getElem? (i := 29) rfl))) Via.refl e2 F_coder_a1 (g := (mkF m 7 #[.val (.ref a1)] [(.ref a1)])) rfl rfl (hb hby d6_7)
  obtain ⟨fs, hr, hrun, hended, hW, hsame⟩ := X3.leave (v := some (.int (1 : Int32))) (fun h => by rw [Bd.returns] at h; cases h)
  refine ⟨_, _, pre0 _ ?_, hrun, hended, _, _, rfl, ?_, ⟨_, rfl⟩, hW, hsame.mono (by decide) (by decide)⟩
  · show Steps p.tables e below (s₁.setTop (mkF m 0 #[.val (.ref a1)] [])) _
    refine st2 _ ?_
    show Steps p.tables e below (T2.setTop (mkF m 3 #[.val (.ref a1)] [(.int w_COMPACT_STRINGS)])) _
    refine XS.ifNo X2.here hx rfl (hb hby d6_3) rfl ((if0 _ _).trans (feq hc3).1) ?_
    show Steps p.tables e below (T2.setTop (mkF m 6 #[.val (.ref a1)] [])) _
    refine XS.aloadN X2.here hx rfl (hb hby d6_6) rfl rfl ?_
    show Steps p.tables e below (T2.setTop (mkF m 7 #[.val (.ref a1)] [(.ref a1)])) _
    refine st3 _ ?_
    show Steps p.tables e below (T3.setTop (mkF m 10 #[.val (.ref a1)] [(.int (0 : Int32))])) _
    refine XS.ifNo X3.here hx rfl (hb hby d6_10) rfl ((if0 _ _).trans (teq (by decide : (0 : Int32) = (0 : Int32))).2) ?_
    show Steps p.tables e below (T3.setTop (mkF m 13 #[.val (.ref a1)] [])) _
    refine XS.iconst X3.here hx rfl (hb hby d6_13) ?_
    show Steps p.tables e below (T3.setTop (mkF m 14 #[.val (.ref a1)] [(.int (1 : Int32))])) _
    refine XS.goto X3.here hx rfl (pc0 := 14) (pc' := 18) rfl (hb hby d6_14) (by decide) (by decide) ?_
    show Steps p.tables e below (T3.setTop (mkF m 18 #[.val (.ref a1)] [(.int (1 : Int32))])) _
    exact retN X3 hx (t := .boolean) Bd.returns (by simp) (hb hby d6_18) hr
  · show QP (.int (1 : Int32)) h0 n0 _ T3.heap _
    rw [e3]
    exact ⟨rfl, N0, rfl⟩
theorem d9_0 : decode jdk_41_method_11_code 0 = .ok (.iload_n 0, 1) := by decide +kernel
theorem d9_1 : decode jdk_41_method_11_code 1 = .ok (.ifCond .lt 8, 3) := by decide +kernel
theorem d9_4 : decode jdk_41_method_11_code 4 = .ok (.iload_n 0, 1) := by decide +kernel
theorem d9_5 : decode jdk_41_method_11_code 5 = .ok (.iload_n 1, 1) := by decide +kernel
theorem d9_6 : decode jdk_41_method_11_code 6 = .ok (.if_icmp .lt 10, 3) := by decide +kernel
theorem d9_16 : decode jdk_41_method_11_code 16 = .ok (.iload_n 0, 1) := by decide +kernel
theorem d9_17 : decode jdk_41_method_11_code 17 = .ok (.ireturn, 1) := by decide +kernel
theorem pn_9 : plainName "jdk/internal/util/Preconditions" = true := by first | (simp [plainName, overriddenIn]; done) | decide +kernel
theorem ef_9 (m : MethodId) (x0 : Int32) (x1 : Int32) (x2 : Addr) : entryFrame m #[(.int x0), (.int x1), (.ref x2)] 3 = mkF m 0 #[.val (.int x0), .val (.int x1), .val (.ref x2)] [] := by first | (simp [entryFrame, mkF, argsToLocals, Value.category]; done) | rfl
set_option maxRecDepth 65536 in
set_option maxHeartbeats 40000000 in
theorem rm9 (l : Launch) (Z : State) (a0 : Array Value) (hw : ∀ d ∈ tables_1, d.before a0 Z = true) (ws : List Jvm.Cond) (p1 : Int32) (p2 : Int32) (a3 : Addr) (h0 : Heap) (n0 : Nat) (Z0 : n0 ≤ h0.size) (hc1 : ¬ (p1 < (0 : Int32))) (hc6 : p1 < p2) :
    MetFree l (⟨"jdk/internal/util/Preconditions", "checkIndex", "(IILjava/util/function/BiFunction;)I"⟩ : MethodName) (head1 (Jvm.Cond.code (⟨"jdk/internal/util/Preconditions", "checkIndex", "(IILjava/util/function/BiFunction;)I"⟩ : MethodName) jdk_41_method_11_code 3 (some .int) :: ws) ({ frames := 0, cells := 0, slots := 0, locals := 0 } : Room)) (fun a U => a = #[(.int p1), (.int p2), (.ref a3)] ∧ Z.Warmed39 U.vm ∧ U.heap = h0) (fun _ _ _ _ _ => True) (fun _ U o U' => ∃ v L, o = .returned v ∧ QP (.int p1) h0 n0 v U'.heap L ∧ FrameEnd U o U' L ({ frames := 0, cells := 0, slots := 0, locals := 0 } : Room).cells ({ frames := 0, cells := 0, slots := 0, locals := 0 } : Room).slots) := by
  refine MetFree.of_bodySF (plainFor_of_name pn_9) hisR ?_
  intro p e s m args below meth c s₁ Bd hml0 hP hK
  obtain ⟨rfl, hZ, hh⟩ := hP
  have hx := Bd.exec
  have hby := Bd.bytes
  have hml : c.maxLocals = 3 := hml0
  have hown : s.vm.findClass "jdk/internal/util/Preconditions" = some m.cls := findClass_of_methodNamed Bd.named
  have hnm := (name_of_methodNamed Bd.named Bd.method).1
  have X0 : Stand p l e ({ frames := 0, cells := 0, slots := 0, locals := 0 } : Room) s m #[(.int p1), (.int p2), (.ref a3)] below meth c s₁ [] 0 0 := Stand.of_body Bd
  have e0 : s₁.heap = h0 := by rw [← hh, Bd.state]; rfl
  have N0 := Fr.nil n0
  have pre0 : ∀ t, Steps p.tables e below (s₁.setTop (mkF m 0 #[.val (.int p1), .val (.int p2), .val (.ref a3)] [])) t → Steps p.tables e below (s₁.setTop (entryFrame m #[(.int p1), (.int p2), (.ref a3)] 3)) t := fun t k => castTop (ef_9 m p1 p2 a3) k

  obtain ⟨fs, hr, hrun, hended, hW, hsame⟩ := X0.leave (v := some (.int p1)) (fun h => by rw [Bd.returns] at h; cases h)
  refine ⟨_, _, pre0 _ ?_, hrun, hended, _, _, rfl, ?_, ⟨_, rfl⟩, hW, hsame.mono (by decide) (by decide)⟩
  · show Steps p.tables e below (s₁.setTop (mkF m 0 #[.val (.int p1), .val (.int p2), .val (.ref a3)] [])) _
    refine XS.iloadN X0.here hx rfl (hb hby d9_0) rfl ?_
    show Steps p.tables e below (s₁.setTop (mkF m 1 #[.val (.int p1), .val (.int p2), .val (.ref a3)] [(.int p1)])) _
    refine XS.ifNo X0.here hx rfl (hb hby d9_1) rfl ((if0 _ _).trans (flt hc1).1) ?_
    show Steps p.tables e below (s₁.setTop (mkF m 4 #[.val (.int p1), .val (.int p2), .val (.ref a3)] [])) _
    refine XS.iloadN X0.here hx rfl (hb hby d9_4) rfl ?_
    show Steps p.tables e below (s₁.setTop (mkF m 5 #[.val (.int p1), .val (.int p2), .val (.ref a3)] [(.int p1)])) _
    refine XS.iloadN X0.here hx rfl (hb hby d9_5) rfl ?_
    show Steps p.tables e below (s₁.setTop (mkF m 6 #[.val (.int p1), .val (.int p2), .val (.ref a3)] [(.int p2), (.int p1)])) _
    refine XS.icmpYes X0.here hx rfl (pc0 := 6) (pc' := 16) rfl (hb hby d9_6) rfl (tlt hc6).1 (by decide) (by decide) ?_
    show Steps p.tables e below (s₁.setTop (mkF m 16 #[.val (.int p1), .val (.int p2), .val (.ref a3)] [])) _
    refine XS.iloadN X0.here hx rfl (hb hby d9_16) rfl ?_
    show Steps p.tables e below (s₁.setTop (mkF m 17 #[.val (.int p1), .val (.int p2), .val (.ref a3)] [(.int p1)])) _
    exact retI X0 hx Bd.returns (hb hby d9_17) hr
  · show QP (.int p1) h0 n0 _ s₁.heap _
    rw [e0]
    exact ⟨rfl, N0, rfl⟩
theorem ef_9n (m : MethodId) (x0 : Int32) (x1 : Int32) : entryFrame m #[(.int x0), (.int x1), .null] 3 = mkF m 0 #[.val (.int x0), .val (.int x1), .val .null] [] := by first | (simp [entryFrame, mkF, argsToLocals, Value.category]; done) | rfl
set_option maxRecDepth 65536 in
set_option maxHeartbeats 40000000 in
theorem rm9n (l : Launch) (Z : State) (a0 : Array Value) (hw : ∀ d ∈ tables_1, d.before a0 Z = true) (ws : List Jvm.Cond) (p1 : Int32) (p2 : Int32) (h0 : Heap) (n0 : Nat) (Z0 : n0 ≤ h0.size) (hc1 : ¬ (p1 < (0 : Int32))) (hc6 : p1 < p2) :
    MetFree l (⟨"jdk/internal/util/Preconditions", "checkIndex", "(IILjava/util/function/BiFunction;)I"⟩ : MethodName) (head1 (Jvm.Cond.code (⟨"jdk/internal/util/Preconditions", "checkIndex", "(IILjava/util/function/BiFunction;)I"⟩ : MethodName) jdk_41_method_11_code 3 (some .int) :: ws) ({ frames := 0, cells := 0, slots := 0, locals := 0 } : Room)) (fun a U => a = #[(.int p1), (.int p2), .null] ∧ Z.Warmed39 U.vm ∧ U.heap = h0) (fun _ _ _ _ _ => True) (fun _ U o U' => ∃ v L, o = .returned v ∧ QP (.int p1) h0 n0 v U'.heap L ∧ FrameEnd U o U' L ({ frames := 0, cells := 0, slots := 0, locals := 0 } : Room).cells ({ frames := 0, cells := 0, slots := 0, locals := 0 } : Room).slots) := by
  refine MetFree.of_bodySF (plainFor_of_name pn_9) hisR ?_
  intro p e s m args below meth c s₁ Bd hml0 hP hK
  obtain ⟨rfl, hZ, hh⟩ := hP
  have hx := Bd.exec
  have hby := Bd.bytes
  have hml : c.maxLocals = 3 := hml0
  have hown : s.vm.findClass "jdk/internal/util/Preconditions" = some m.cls := findClass_of_methodNamed Bd.named
  have hnm := (name_of_methodNamed Bd.named Bd.method).1
  have X0 : Stand p l e ({ frames := 0, cells := 0, slots := 0, locals := 0 } : Room) s m #[(.int p1), (.int p2), .null] below meth c s₁ [] 0 0 := Stand.of_body Bd
  have e0 : s₁.heap = h0 := by rw [← hh, Bd.state]; rfl
  have N0 := Fr.nil n0
  have pre0 : ∀ t, Steps p.tables e below (s₁.setTop (mkF m 0 #[.val (.int p1), .val (.int p2), .val .null] [])) t → Steps p.tables e below (s₁.setTop (entryFrame m #[(.int p1), (.int p2), .null] 3)) t := fun t k => castTop (ef_9n m p1 p2) k

  obtain ⟨fs, hr, hrun, hended, hW, hsame⟩ := X0.leave (v := some (.int p1)) (fun h => by rw [Bd.returns] at h; cases h)
  refine ⟨_, _, pre0 _ ?_, hrun, hended, _, _, rfl, ?_, ⟨_, rfl⟩, hW, hsame.mono (by decide) (by decide)⟩
  · show Steps p.tables e below (s₁.setTop (mkF m 0 #[.val (.int p1), .val (.int p2), .val .null] [])) _
    refine XS.iloadN X0.here hx rfl (hb hby d9_0) rfl ?_
    show Steps p.tables e below (s₁.setTop (mkF m 1 #[.val (.int p1), .val (.int p2), .val .null] [(.int p1)])) _
    refine XS.ifNo X0.here hx rfl (hb hby d9_1) rfl ((if0 _ _).trans (flt hc1).1) ?_
    show Steps p.tables e below (s₁.setTop (mkF m 4 #[.val (.int p1), .val (.int p2), .val .null] [])) _
    refine XS.iloadN X0.here hx rfl (hb hby d9_4) rfl ?_
    show Steps p.tables e below (s₁.setTop (mkF m 5 #[.val (.int p1), .val (.int p2), .val .null] [(.int p1)])) _
    refine XS.iloadN X0.here hx rfl (hb hby d9_5) rfl ?_
    show Steps p.tables e below (s₁.setTop (mkF m 6 #[.val (.int p1), .val (.int p2), .val .null] [(.int p2), (.int p1)])) _
    refine XS.icmpYes X0.here hx rfl (pc0 := 6) (pc' := 16) rfl (hb hby d9_6) rfl (tlt hc6).1 (by decide) (by decide) ?_
    show Steps p.tables e below (s₁.setTop (mkF m 16 #[.val (.int p1), .val (.int p2), .val .null] [])) _
    refine XS.iloadN X0.here hx rfl (hb hby d9_16) rfl ?_
    show Steps p.tables e below (s₁.setTop (mkF m 17 #[.val (.int p1), .val (.int p2), .val .null] [(.int p1)])) _
    exact retI X0 hx Bd.returns (hb hby d9_17) hr
  · show QP (.int p1) h0 n0 _ s₁.heap _
    rw [e0]
    exact ⟨rfl, N0, rfl⟩
theorem d8_0 : decode jdk_42_method_155_code 0 = .ok (.iload_n 0, 1) := by decide +kernel
theorem d8_1 : decode jdk_42_method_155_code 1 = .ok (.iload_n 1, 1) := by decide +kernel
theorem d8_2 : decode jdk_42_method_155_code 2 = .ok (.getstatic 1053, 3) := by decide +kernel
theorem d8_5 : decode jdk_42_method_155_code 5 = .ok (.invokestatic 1059, 3) := by decide +kernel
theorem d8_8 : decode jdk_42_method_155_code 8 = .ok (.pop, 1) := by decide +kernel
theorem d8_9 : decode jdk_42_method_155_code 9 = .ok (.return_, 1) := by decide +kernel
theorem pn_8 : plainName "java/lang/String" = true := by first | (simp [plainName, overriddenIn]; done) | decide +kernel
theorem pd_8_8 : parseMethodDescriptor "(IILjava/util/function/BiFunction;)I" = some ⟨[.int, .int, (.object "java/util/function/BiFunction")], some .int⟩ := by decide +kernel
theorem ef_8 (m : MethodId) (x0 : Int32) (x1 : Int32) : entryFrame m #[(.int x0), (.int x1)] 2 = mkF m 0 #[.val (.int x0), .val (.int x1)] [] := by first | (simp [entryFrame, mkF, argsToLocals, Value.category]; done) | rfl
def QN (h0 : Heap) (n0 : Nat) (v : Option Value) (h : Heap) (L : List Loc) : Prop := v = none ∧ Fr n0 L ∧ h = h0
set_option maxRecDepth 65536 in
set_option maxHeartbeats 40000000 in
theorem rm8r (l : Launch) (Z : State) (a0 : Array Value) (hw : ∀ d ∈ tables_1, d.before a0 Z = true) (ws : List Jvm.Cond) (p1 : Int32) (p2 : Int32) (w_SIOOBE_FORMATTER : Addr) (h0 : Heap) (n0 : Nat) (Z0 : n0 ≤ h0.size) (S_SIOOBE_FORMATTER : Sta Z h0 "jdk/internal/util/Preconditions" "SIOOBE_FORMATTER" "Ljava/util/function/BiFunction;" (.ref w_SIOOBE_FORMATTER)) (hlo : ¬ (p1 < (0 : Int32))) (hhi : p1 < p2) :
    MetFree l (⟨"java/lang/String", "checkIndex", "(II)V"⟩ : MethodName) (head1 (Jvm.Cond.code (⟨"java/lang/String", "checkIndex", "(II)V"⟩ : MethodName) jdk_42_method_155_code 2 none :: ws) ({ frames := 1, cells := 0, slots := 0, locals := 14 } : Room)) (fun a U => a = #[(.int p1), (.int p2)] ∧ Z.Warmed39 U.vm ∧ U.heap = h0) (fun _ _ _ _ _ => True) (fun _ U o U' => ∃ v L, o = .returned v ∧ QN h0 n0 v U'.heap L ∧ FrameEnd U o U' L ({ frames := 1, cells := 0, slots := 0, locals := 14 } : Room).cells ({ frames := 1, cells := 0, slots := 0, locals := 14 } : Room).slots) := by
  refine MetFree.of_bodySF (plainFor_of_name pn_8) hisR ?_
  intro p e s m args below meth c s₁ Bd hml0 hP hK
  obtain ⟨rfl, hZ, hh⟩ := hP
  have hx := Bd.exec
  have hby := Bd.bytes
  have hml : c.maxLocals = 2 := hml0
  have hown : s.vm.findClass "java/lang/String" = some m.cls := findClass_of_methodNamed Bd.named
  have hnm := (name_of_methodNamed Bd.named Bd.method).1
  have X0 : Stand p l e ({ frames := 1, cells := 0, slots := 0, locals := 14 } : Room) s m #[(.int p1), (.int p2)] below meth c s₁ [] 0 0 := Stand.of_body Bd
  have e0 : s₁.heap = h0 := by rw [← hh, Bd.state]; rfl
  have N0 := Fr.nil n0
  have pre0 : ∀ t, Steps p.tables e below (s₁.setTop (mkF m 0 #[.val (.int p1), .val (.int p2)] [])) t → Steps p.tables e below (s₁.setTop (entryFrame m #[(.int p1), (.int p2)] 2)) t := fun t k => castTop (ef_8 m p1 p2) k
  obtain ⟨T3, X3, e3, st3⟩ := getS2 X0 hx hZ hown (host := "") (Or.inl (hw _ (List.mem_of_getElem? (i := 48) rfl))) Via.refl e0 S_SIOOBE_FORMATTER (g := (mkF m 2 #[.val (.int p1), .val (.int p2)] [(.int p2), (.int p1)])) rfl (hb hby d8_2)
  obtain ⟨_, _, ⟨T4, L4, k4, n4⟩, -, X4, ⟨Lc4, hQ4, l4, y4, z4⟩, st4⟩ := Jvm.LawKit.callS X3 hx (y := (⟨"jdk/internal/util/Preconditions", "checkIndex", "(IILjava/util/function/BiFunction;)I"⟩ : MethodName)) hown (mvT hZ (hw _ (List.mem_of_getElem? (i := 50) rfl))) (mvT hZ (hw _ (List.mem_of_getElem? (i := 51) rfl))) (mvT hZ (hw _ (List.mem_of_getElem? (i := 49) rfl))) (mvT hZ (hw _ (List.mem_of_getElem? (i := 52) rfl))) (by decide) (backOf (W := 0) (rm9 l Z a0 hw [] p1 p2 w_SIOOBE_FORMATTER  h0 n0 Z0 hlo hhi) hZ (hw _ (List.mem_of_getElem? (i := 52) rfl)) (hw _ (List.mem_of_getElem? (i := 49) rfl)) (by decide) (by decide)) (g := (mkF m 5 #[.val (.int p1), .val (.int p2)] [(.ref w_SIOOBE_FORMATTER), (.int p2), (.int p1)])) rfl (by rw [hml]; rfl) (argsL := [(.int p1), (.int p2), (.ref w_SIOOBE_FORMATTER)]) (rest := []) (lenOf pd_8_8 rfl) rfl (by show 2 * 0 + _ ≤ _; exact Nat.le_of_eq rfl) (hb hby d8_5) (fun _ _ => ⟨rfl, e3, (by decide : 0 + 0 ≤ _), (by decide : 0 + 0 ≤ _)⟩)
  dsimp only [Pt.U, Pt.locs, Pt.cells, Pt.slots] at X4 l4 y4 z4 st4 hQ4
  subst l4 y4 z4
  obtain ⟨rfl, N4q, e4⟩ := hQ4
  have N4 := Fr.app N0 N4q
  obtain ⟨fs, hr, hrun, hended, hW, hsame⟩ := X4.leave (v := none) (fun _ => rfl)
  refine ⟨_, _, pre0 _ ?_, hrun, hended, _, _, rfl, ?_, ⟨_, rfl⟩, hW, hsame.mono (by decide) (by decide)⟩
  · show Steps p.tables e below (s₁.setTop (mkF m 0 #[.val (.int p1), .val (.int p2)] [])) _
    refine XS.iloadN X0.here hx rfl (hb hby d8_0) rfl ?_
    show Steps p.tables e below (s₁.setTop (mkF m 1 #[.val (.int p1), .val (.int p2)] [(.int p1)])) _
    refine XS.iloadN X0.here hx rfl (hb hby d8_1) rfl ?_
    show Steps p.tables e below (s₁.setTop (mkF m 2 #[.val (.int p1), .val (.int p2)] [(.int p2), (.int p1)])) _
    refine st3 _ ?_
    show Steps p.tables e below (T3.setTop (mkF m 5 #[.val (.int p1), .val (.int p2)] [(.ref w_SIOOBE_FORMATTER), (.int p2), (.int p1)])) _
    refine st4 _ ?_
    show Steps p.tables e below (T4.setTop (mkF m 8 #[.val (.int p1), .val (.int p2)] [(.int p1)])) _
    refine XS.pop X4.here hx rfl (hb hby d8_8) rfl rfl ?_
    show Steps p.tables e below (T4.setTop (mkF m 9 #[.val (.int p1), .val (.int p2)] [])) _
    exact X4.returnOut hx Bd.returns (hb hby d8_9) hr
  · show QN h0 n0 _ T4.heap _
    rw [e4]
    exact ⟨rfl, N4, rfl⟩
set_option maxRecDepth 65536 in
set_option maxHeartbeats 40000000 in
theorem rm8n (l : Launch) (Z : State) (a0 : Array Value) (hw : ∀ d ∈ tables_1, d.before a0 Z = true) (ws : List Jvm.Cond) (p1 : Int32) (p2 : Int32) (h0 : Heap) (n0 : Nat) (Z0 : n0 ≤ h0.size) (S_SIOOBE_FORMATTER : Sta Z h0 "jdk/internal/util/Preconditions" "SIOOBE_FORMATTER" "Ljava/util/function/BiFunction;" .null) (hlo : ¬ (p1 < (0 : Int32))) (hhi : p1 < p2) :
    MetFree l (⟨"java/lang/String", "checkIndex", "(II)V"⟩ : MethodName) (head1 (Jvm.Cond.code (⟨"java/lang/String", "checkIndex", "(II)V"⟩ : MethodName) jdk_42_method_155_code 2 none :: ws) ({ frames := 1, cells := 0, slots := 0, locals := 14 } : Room)) (fun a U => a = #[(.int p1), (.int p2)] ∧ Z.Warmed39 U.vm ∧ U.heap = h0) (fun _ _ _ _ _ => True) (fun _ U o U' => ∃ v L, o = .returned v ∧ QN h0 n0 v U'.heap L ∧ FrameEnd U o U' L ({ frames := 1, cells := 0, slots := 0, locals := 14 } : Room).cells ({ frames := 1, cells := 0, slots := 0, locals := 14 } : Room).slots) := by
  refine MetFree.of_bodySF (plainFor_of_name pn_8) hisR ?_
  intro p e s m args below meth c s₁ Bd hml0 hP hK
  obtain ⟨rfl, hZ, hh⟩ := hP
  have hx := Bd.exec
  have hby := Bd.bytes
  have hml : c.maxLocals = 2 := hml0
  have hown : s.vm.findClass "java/lang/String" = some m.cls := findClass_of_methodNamed Bd.named
  have hnm := (name_of_methodNamed Bd.named Bd.method).1
  have X0 : Stand p l e ({ frames := 1, cells := 0, slots := 0, locals := 14 } : Room) s m #[(.int p1), (.int p2)] below meth c s₁ [] 0 0 := Stand.of_body Bd
  have e0 : s₁.heap = h0 := by rw [← hh, Bd.state]; rfl
  have N0 := Fr.nil n0
  have pre0 : ∀ t, Steps p.tables e below (s₁.setTop (mkF m 0 #[.val (.int p1), .val (.int p2)] [])) t → Steps p.tables e below (s₁.setTop (entryFrame m #[(.int p1), (.int p2)] 2)) t := fun t k => castTop (ef_8 m p1 p2) k
  obtain ⟨T3, X3, e3, st3⟩ := getS2 X0 hx hZ hown (host := "") (Or.inl (hw _ (List.mem_of_getElem? (i := 48) rfl))) Via.refl e0 S_SIOOBE_FORMATTER (g := (mkF m 2 #[.val (.int p1), .val (.int p2)] [(.int p2), (.int p1)])) rfl (hb hby d8_2)
  obtain ⟨_, _, ⟨T4, L4, k4, n4⟩, -, X4, ⟨Lc4, hQ4, l4, y4, z4⟩, st4⟩ := Jvm.LawKit.callS X3 hx (y := (⟨"jdk/internal/util/Preconditions", "checkIndex", "(IILjava/util/function/BiFunction;)I"⟩ : MethodName)) hown (mvT hZ (hw _ (List.mem_of_getElem? (i := 50) rfl))) (mvT hZ (hw _ (List.mem_of_getElem? (i := 51) rfl))) (mvT hZ (hw _ (List.mem_of_getElem? (i := 49) rfl))) (mvT hZ (hw _ (List.mem_of_getElem? (i := 52) rfl))) (by decide) (backOf (W := 0) (rm9n l Z a0 hw [] p1 p2  h0 n0 Z0 hlo hhi) hZ (hw _ (List.mem_of_getElem? (i := 52) rfl)) (hw _ (List.mem_of_getElem? (i := 49) rfl)) (by decide) (by decide)) (g := (mkF m 5 #[.val (.int p1), .val (.int p2)] [.null, (.int p2), (.int p1)])) rfl (by rw [hml]; rfl) (argsL := [(.int p1), (.int p2), .null]) (rest := []) (lenOf pd_8_8 rfl) rfl (by show 2 * 0 + _ ≤ _; exact Nat.le_of_eq rfl) (hb hby d8_5) (fun _ _ => ⟨rfl, e3, (by decide : 0 + 0 ≤ _), (by decide : 0 + 0 ≤ _)⟩)
  dsimp only [Pt.U, Pt.locs, Pt.cells, Pt.slots] at X4 l4 y4 z4 st4 hQ4
  subst l4 y4 z4
  obtain ⟨rfl, N4q, e4⟩ := hQ4
  have N4 := Fr.app N0 N4q
  obtain ⟨fs, hr, hrun, hended, hW, hsame⟩ := X4.leave (v := none) (fun _ => rfl)
  refine ⟨_, _, pre0 _ ?_, hrun, hended, _, _, rfl, ?_, ⟨_, rfl⟩, hW, hsame.mono (by decide) (by decide)⟩
  · show Steps p.tables e below (s₁.setTop (mkF m 0 #[.val (.int p1), .val (.int p2)] [])) _
    refine XS.iloadN X0.here hx rfl (hb hby d8_0) rfl ?_
    show Steps p.tables e below (s₁.setTop (mkF m 1 #[.val (.int p1), .val (.int p2)] [(.int p1)])) _
    refine XS.iloadN X0.here hx rfl (hb hby d8_1) rfl ?_
    show Steps p.tables e below (s₁.setTop (mkF m 2 #[.val (.int p1), .val (.int p2)] [(.int p2), (.int p1)])) _
    refine st3 _ ?_
    show Steps p.tables e below (T3.setTop (mkF m 5 #[.val (.int p1), .val (.int p2)] [.null, (.int p2), (.int p1)])) _
    refine st4 _ ?_
    show Steps p.tables e below (T4.setTop (mkF m 8 #[.val (.int p1), .val (.int p2)] [(.int p1)])) _
    refine XS.pop X4.here hx rfl (hb hby d8_8) rfl rfl ?_
    show Steps p.tables e below (T4.setTop (mkF m 9 #[.val (.int p1), .val (.int p2)] [])) _
    exact X4.returnOut hx Bd.returns (hb hby d8_9) hr
  · show QN h0 n0 _ T4.heap _
    rw [e4]
    exact ⟨rfl, N4, rfl⟩
theorem rm8 (l : Launch) (Z : State) (a0 : Array Value) (hw : ∀ d ∈ tables_1, d.before a0 Z = true) (ws : List Jvm.Cond) (p1 : Int32) (p2 : Int32) (wf : Value) (h0 : Heap) (n0 : Nat) (Z0 : n0 ≤ h0.size) (S_SIOOBE : Sta Z h0 "jdk/internal/util/Preconditions" "SIOOBE_FORMATTER" "Ljava/util/function/BiFunction;" wf) (hwf : wf.isRef = true) (hlo : ¬ (p1 < (0 : Int32))) (hhi : p1 < p2) :
    MetFree l (⟨"java/lang/String", "checkIndex", "(II)V"⟩ : MethodName) (head1 (Jvm.Cond.code (⟨"java/lang/String", "checkIndex", "(II)V"⟩ : MethodName) jdk_42_method_155_code 2 none :: ws) ({ frames := 1, cells := 0, slots := 0, locals := 14 } : Room)) (fun a U => a = #[(.int p1), (.int p2)] ∧ Z.Warmed39 U.vm ∧ U.heap = h0) (fun _ _ _ _ _ => True) (fun _ U o U' => ∃ v L, o = .returned v ∧ QN h0 n0 v U'.heap L ∧ FrameEnd U o U' L ({ frames := 1, cells := 0, slots := 0, locals := 14 } : Room).cells ({ frames := 1, cells := 0, slots := 0, locals := 14 } : Room).slots) := by
  rcases ref_cases hwf with rfl | ⟨w, rfl⟩
  · exact rm8n l Z a0 hw ws p1 p2 h0 n0 Z0 S_SIOOBE hlo hhi
  · exact rm8r l Z a0 hw ws p1 p2 w h0 n0 Z0 S_SIOOBE hlo hhi
theorem d7_0 : decode jdk_43_method_2_code 0 = .ok (.iload_n 1, 1) := by decide +kernel
theorem d7_1 : decode jdk_43_method_2_code 1 = .ok (.aload_n 0, 1) := by decide +kernel
theorem d7_2 : decode jdk_43_method_2_code 2 = .ok (.arraylength, 1) := by decide +kernel
theorem d7_3 : decode jdk_43_method_2_code 3 = .ok (.invokestatic 9, 3) := by decide +kernel
theorem d7_6 : decode jdk_43_method_2_code 6 = .ok (.aload_n 0, 1) := by decide +kernel
theorem d7_7 : decode jdk_43_method_2_code 7 = .ok (.iload_n 1, 1) := by decide +kernel
theorem d7_8 : decode jdk_43_method_2_code 8 = .ok (.baload, 1) := by decide +kernel
theorem d7_9 : decode jdk_43_method_2_code 9 = .ok (.sipush 255, 3) := by decide +kernel
theorem d7_12 : decode jdk_43_method_2_code 12 = .ok (.iand, 1) := by decide +kernel
theorem d7_13 : decode jdk_43_method_2_code 13 = .ok (.i2c, 1) := by decide +kernel
theorem d7_14 : decode jdk_43_method_2_code 14 = .ok (.ireturn, 1) := by decide +kernel
theorem pn_7 : plainName "java/lang/StringLatin1" = true := by first | (simp [plainName, overriddenIn]; done) | decide +kernel
theorem pd_7_7 : parseMethodDescriptor "(II)V" = some ⟨[.int, .int], none⟩ := by decide +kernel
theorem ef_7 (m : MethodId) (x0 : Addr) (x1 : Int32) : entryFrame m #[(.ref x0), (.int x1)] 2 = mkF m 0 #[.val (.ref x0), .val (.int x1)] [] := by first | (simp [entryFrame, mkF, argsToLocals, Value.category]; done) | rfl
set_option maxRecDepth 65536 in
set_option maxHeartbeats 40000000 in
theorem rm7 (l : Launch) (Z : State) (a0 : Array Value) (hw : ∀ d ∈ tables_1, d.before a0 Z = true) (ws : List Jvm.Cond) (a1 : Addr) (p2 : Int32) (cl_a1 : Cell) (z_a1 : Int32) (w4 : Int32) (wf : Value) (h0 : Heap) (n0 : Nat) (Z0 : n0 ≤ h0.size) (Ar_a1 : Arr Z h0 a1 cl_a1 .byte) (S_a1 : cl_a1.slots.size = z_a1.toNatClampNeg) (N_a1 : ¬ z_a1 < 0) (hin8 : ¬ (p2 < 0 ∨ cl_a1.slots.size ≤ (p2).toNatClampNeg)) (hat8 : cl_a1.slots[(p2).toNatClampNeg]? = some (.int w4)) (S_SIOOBE : Sta Z h0 "jdk/internal/util/Preconditions" "SIOOBE_FORMATTER" "Ljava/util/function/BiFunction;" wf) (hwf : wf.isRef = true) (hlo : ¬ (p2 < (0 : Int32))) (hhi : p2 < z_a1) :
    MetFree l (⟨"java/lang/StringLatin1", "charAt", "([BI)C"⟩ : MethodName) (head1 (Jvm.Cond.code (⟨"java/lang/StringLatin1", "charAt", "([BI)C"⟩ : MethodName) jdk_43_method_2_code 2 (some .char) :: ws) ({ frames := 2, cells := 0, slots := 0, locals := 27 } : Room)) (fun a U => a = #[(.ref a1), (.int p2)] ∧ Z.Warmed39 U.vm ∧ U.heap = h0) (fun _ _ _ _ _ => True) (fun _ U o U' => ∃ v L, o = .returned v ∧ QP (.int (nar .char ((w4 &&& (255 : Int32)).toUInt32.toUInt16.toUInt32.toInt32))) h0 n0 v U'.heap L ∧ FrameEnd U o U' L ({ frames := 2, cells := 0, slots := 0, locals := 27 } : Room).cells ({ frames := 2, cells := 0, slots := 0, locals := 27 } : Room).slots) := by
  refine MetFree.of_bodySF (plainFor_of_name pn_7) hisR ?_
  intro p e s m args below meth c s₁ Bd hml0 hP hK
  obtain ⟨rfl, hZ, hh⟩ := hP
  have hx := Bd.exec
  have hby := Bd.bytes
  have hml : c.maxLocals = 2 := hml0
  have hown : s.vm.findClass "java/lang/StringLatin1" = some m.cls := findClass_of_methodNamed Bd.named
  have hnm := (name_of_methodNamed Bd.named Bd.method).1
  have X0 : Stand p l e ({ frames := 2, cells := 0, slots := 0, locals := 27 } : Room) s m #[(.ref a1), (.int p2)] below meth c s₁ [] 0 0 := Stand.of_body Bd
  have e0 : s₁.heap = h0 := by rw [← hh, Bd.state]; rfl
  have N0 := Fr.nil n0
  have pre0 : ∀ t, Steps p.tables e below (s₁.setTop (mkF m 0 #[.val (.ref a1), .val (.int p2)] [])) t → Steps p.tables e below (s₁.setTop (entryFrame m #[(.ref a1), (.int p2)] 2)) t := fun t k => castTop (ef_7 m a1 p2) k
  obtain ⟨_, _, ⟨T3, L3, k3, n3⟩, -, X3, ⟨Lc3, hQ3, l3, y3, z3⟩, st3⟩ := Jvm.LawKit.callS X0 hx (y := (⟨"java/lang/String", "checkIndex", "(II)V"⟩ : MethodName)) hown (mvT hZ (hw _ (List.mem_of_getElem? (i := 45) rfl))) (mvT hZ (hw _ (List.mem_of_getElem? (i := 46) rfl))) (mvT hZ (hw _ (List.mem_of_getElem? (i := 19) rfl))) (mvT hZ (hw _ (List.mem_of_getElem? (i := 47) rfl))) (by decide) (backOf (W := 0) (rm8 l Z a0 hw [] p2 z_a1 wf h0 n0 Z0 S_SIOOBE hwf hlo hhi) hZ (hw _ (List.mem_of_getElem? (i := 47) rfl)) (hw _ (List.mem_of_getElem? (i := 19) rfl)) (by decide) (by decide)) (g := (mkF m 3 #[.val (.ref a1), .val (.int p2)] [(.int z_a1), (.int p2)])) rfl (by rw [hml]; rfl) (argsL := [(.int p2), (.int z_a1)]) (rest := []) (lenOf pd_7_7 rfl) rfl (by show 2 * 0 + _ ≤ _; exact Nat.le_of_eq rfl) (hb hby d7_3) (fun _ _ => ⟨rfl, e0, (by decide : 0 + 0 ≤ _), (by decide : 0 + 0 ≤ _)⟩)
  dsimp only [Pt.U, Pt.locs, Pt.cells, Pt.slots] at X3 l3 y3 z3 st3 hQ3
  subst l3 y3 z3
  obtain ⟨rfl, N3q, e3⟩ := hQ3
  have N3 := Fr.app N0 N3q
  obtain ⟨fs, hr, hrun, hended, hW, hsame⟩ := X3.leave (v := some (.int (nar .char ((w4 &&& (255 : Int32)).toUInt32.toUInt16.toUInt32.toInt32)))) (fun h => by rw [Bd.returns] at h; cases h)
  refine ⟨_, _, pre0 _ ?_, hrun, hended, _, _, rfl, ?_, ⟨_, rfl⟩, hW, hsame.mono (by decide) (by decide)⟩
  · show Steps p.tables e below (s₁.setTop (mkF m 0 #[.val (.ref a1), .val (.int p2)] [])) _
    refine XS.iloadN X0.here hx rfl (hb hby d7_0) rfl ?_
    show Steps p.tables e below (s₁.setTop (mkF m 1 #[.val (.ref a1), .val (.int p2)] [(.int p2)])) _
    refine XS.aloadN X0.here hx rfl (hb hby d7_1) rfl rfl ?_
    show Steps p.tables e below (s₁.setTop (mkF m 2 #[.val (.ref a1), .val (.int p2)] [(.ref a1), (.int p2)])) _
    refine X0.arraylength hx (by rw [e0]; exact Ar_a1.1) (State.isArrayOf_alike hZ.alike Ar_a1.2.1) (g := (mkF m 2 #[.val (.ref a1), .val (.int p2)] [(.ref a1), (.int p2)])) rfl rfl (hb hby d7_2) _ ?_
    rw [len_of S_a1 N_a1]
    show Steps p.tables e below (s₁.setTop (mkF m 3 #[.val (.ref a1), .val (.int p2)] [(.int z_a1), (.int p2)])) _
    refine st3 _ ?_
    show Steps p.tables e below (T3.setTop (mkF m 6 #[.val (.ref a1), .val (.int p2)] [])) _
    refine XS.aloadN X3.here hx rfl (hb hby d7_6) rfl rfl ?_
    show Steps p.tables e below (T3.setTop (mkF m 7 #[.val (.ref a1), .val (.int p2)] [(.ref a1)])) _
    refine XS.iloadN X3.here hx rfl (hb hby d7_7) rfl ?_
    show Steps p.tables e below (T3.setTop (mkF m 8 #[.val (.ref a1), .val (.int p2)] [(.int p2), (.ref a1)])) _
    refine X3.baloadBytes hx (j := p2) (v := (.int w4)) (by rw [e3]; exact Ar_a1.1) (State.isArrayOf_alike hZ.alike Ar_a1.2.1) Ar_a1.2.2 hin8 hat8 (g := (mkF m 8 #[.val (.ref a1), .val (.int p2)] [(.int p2), (.ref a1)])) rfl rfl (hb hby d7_8) _ ?_
    show Steps p.tables e below (T3.setTop (mkF m 9 #[.val (.ref a1), .val (.int p2)] [(.int w4)])) _
    refine XS.sipush X3.here hx rfl (hb hby d7_9) ?_
    show Steps p.tables e below (T3.setTop (mkF m 12 #[.val (.ref a1), .val (.int p2)] [(.int (255 : Int32)), (.int w4)])) _
    refine XS.iand X3.here hx rfl (hb hby d7_12) rfl ?_
    show Steps p.tables e below (T3.setTop (mkF m 13 #[.val (.ref a1), .val (.int p2)] [(.int (w4 &&& (255 : Int32)))])) _
    refine XS.i2c X3.here hx rfl (hb hby d7_13) rfl ?_
    show Steps p.tables e below (T3.setTop (mkF m 14 #[.val (.ref a1), .val (.int p2)] [(.int ((w4 &&& (255 : Int32)).toUInt32.toUInt16.toUInt32.toInt32))])) _
    exact retN X3 hx (t := .char) Bd.returns (by simp) (hb hby d7_14) hr
  · show QP (.int (nar .char ((w4 &&& (255 : Int32)).toUInt32.toUInt16.toUInt32.toInt32))) h0 n0 _ T3.heap _
    rw [e3]
    exact ⟨rfl, N3, rfl⟩
theorem rm7v (l : Launch) (Z : State) (a0 : Array Value) (hw : ∀ d ∈ tables_1, d.before a0 Z = true) (ws : List Jvm.Cond) (a1 : Addr) (p2 : Int32) (cl_a1 : Cell) (z_a1 : Int32) (w4 : Int32) (wf : Value) (r : Int32) (h0 : Heap) (n0 : Nat) (Z0 : n0 ≤ h0.size) (Ar_a1 : Arr Z h0 a1 cl_a1 .byte) (S_a1 : cl_a1.slots.size = z_a1.toNatClampNeg) (N_a1 : ¬ z_a1 < 0) (hin8 : ¬ (p2 < 0 ∨ cl_a1.slots.size ≤ (p2).toNatClampNeg)) (hat8 : cl_a1.slots[(p2).toNatClampNeg]? = some (.int w4)) (S_SIOOBE : Sta Z h0 "jdk/internal/util/Preconditions" "SIOOBE_FORMATTER" "Ljava/util/function/BiFunction;" wf) (hwf : wf.isRef = true) (hlo : ¬ (p2 < (0 : Int32))) (hhi : p2 < z_a1) (hv : (nar .char ((w4 &&& (255 : Int32)).toUInt32.toUInt16.toUInt32.toInt32)) = r) :
    MetFree l (⟨"java/lang/StringLatin1", "charAt", "([BI)C"⟩ : MethodName) (head1 (Jvm.Cond.code (⟨"java/lang/StringLatin1", "charAt", "([BI)C"⟩ : MethodName) jdk_43_method_2_code 2 (some .char) :: ws) ({ frames := 2, cells := 0, slots := 0, locals := 27 } : Room)) (fun a U => a = #[(.ref a1), (.int p2)] ∧ Z.Warmed39 U.vm ∧ U.heap = h0) (fun _ _ _ _ _ => True) (fun _ U o U' => ∃ v L, o = .returned v ∧ QP (.int r) h0 n0 v U'.heap L ∧ FrameEnd U o U' L ({ frames := 2, cells := 0, slots := 0, locals := 27 } : Room).cells ({ frames := 2, cells := 0, slots := 0, locals := 27 } : Room).slots) := by
  have h := rm7 l Z a0 hw ws a1 p2 cl_a1 z_a1 w4 wf h0 n0 Z0 Ar_a1 S_a1 N_a1 hin8 hat8 S_SIOOBE hwf hlo hhi
  rw [hv] at h; exact h
theorem d5_0 : decode jdk_42_method_56_code 0 = .ok (.aload_n 0, 1) := by decide +kernel
theorem d5_1 : decode jdk_42_method_56_code 1 = .ok (.invokevirtual 492, 3) := by decide +kernel
theorem d5_4 : decode jdk_42_method_56_code 4 = .ok (.ifCond .eq 12, 3) := by decide +kernel
theorem d5_7 : decode jdk_42_method_56_code 7 = .ok (.aload_n 0, 1) := by decide +kernel
theorem d5_8 : decode jdk_42_method_56_code 8 = .ok (.getfield 9, 3) := by decide +kernel
theorem d5_11 : decode jdk_42_method_56_code 11 = .ok (.iload_n 1, 1) := by decide +kernel
theorem d5_12 : decode jdk_42_method_56_code 12 = .ok (.invokestatic 495, 3) := by decide +kernel
theorem d5_15 : decode jdk_42_method_56_code 15 = .ok (.ireturn, 1) := by decide +kernel
theorem pn_5 : plainName "java/lang/String" = true := by first | (simp [plainName, overriddenIn]; done) | decide +kernel
theorem pd_5_5 : parseMethodDescriptor "()Z" = some ⟨[], some .boolean⟩ := by decide +kernel
theorem pd_5_6 : parseMethodDescriptor "([BI)C" = some ⟨[(.array .byte), .int], some .char⟩ := by decide +kernel
theorem ef_5 (m : MethodId) (x0 : Addr) (x1 : Int32) : entryFrame m #[(.ref x0), (.int x1)] 2 = mkF m 0 #[.val (.ref x0), .val (.int x1)] [] := by first | (simp [entryFrame, mkF, argsToLocals, Value.category]; done) | rfl
set_option maxRecDepth 65536 in
set_option maxHeartbeats 40000000 in
theorem rm5 (l : Launch) (Z : State) (a0 : Array Value) (hw : ∀ d ∈ tables_1, d.before a0 Z = true) (ws : List Jvm.Cond) (a1 : Addr) (p2 : Int32) (v_value_a1 : Addr) (w_COMPACT_STRINGS : Int32) (cl : Cell) (z : Int32) (wb : Int32) (wf : Value) (r7 : Int32) (h0 : Heap) (n0 : Nat) (Z0 : n0 ≤ h0.size) (E_a1 : Exa Z h0 a1 "java/lang/String") (F_value_a1 : Fld Z h0 a1 "java/lang/String" "value" "[B" (.ref v_value_a1)) (S_COMPACT_STRINGS : Sta Z h0 "java/lang/String" "COMPACT_STRINGS" "Z" (.int w_COMPACT_STRINGS)) (F_coder_a1 : Fld Z h0 a1 "java/lang/String" "coder" "B" (.int (0 : Int32))) (hcs : ¬ (w_COMPACT_STRINGS = (0 : Int32))) (Ar : Arr Z h0 v_value_a1 cl .byte) (hS : cl.slots.size = z.toNatClampNeg) (hN : ¬ z < 0) (hin : ¬ (p2 < 0 ∨ cl.slots.size ≤ (p2).toNatClampNeg)) (hat : cl.slots[(p2).toNatClampNeg]? = some (.int wb)) (S_SIOOBE : Sta Z h0 "jdk/internal/util/Preconditions" "SIOOBE_FORMATTER" "Ljava/util/function/BiFunction;" wf) (hwf : wf.isRef = true) (hlo : ¬ (p2 < (0 : Int32))) (hhi : p2 < z) (hr7 : nar .char ((wb &&& (255 : Int32)).toUInt32.toUInt16.toUInt32.toInt32) = r7) :
    MetFree l (⟨"java/lang/String", "charAt", "(I)C"⟩ : MethodName) (head1 (Jvm.Cond.code (⟨"java/lang/String", "charAt", "(I)C"⟩ : MethodName) jdk_42_method_56_code 2 (some .char) :: ws) ({ frames := 3, cells := 0, slots := 0, locals := 40 } : Room)) (fun a U => a = #[(.ref a1), (.int p2)] ∧ Z.Warmed39 U.vm ∧ U.heap = h0) (fun _ _ _ _ _ => True) (fun _ U o U' => ∃ v L, o = .returned v ∧ QP (.int (nar .char r7)) h0 n0 v U'.heap L ∧ FrameEnd U o U' L ({ frames := 3, cells := 0, slots := 0, locals := 40 } : Room).cells ({ frames := 3, cells := 0, slots := 0, locals := 40 } : Room).slots) := by
  refine MetFree.of_bodySF (plainFor_of_name pn_5) hisR ?_
  intro p e s m args below meth c s₁ Bd hml0 hP hK
  obtain ⟨rfl, hZ, hh⟩ := hP
  have hx := Bd.exec
  have hby := Bd.bytes
  have hml : c.maxLocals = 2 := hml0
  have hown : s.vm.findClass "java/lang/String" = some m.cls := findClass_of_methodNamed Bd.named
  have hnm := (name_of_methodNamed Bd.named Bd.method).1
  have X0 : Stand p l e ({ frames := 3, cells := 0, slots := 0, locals := 40 } : Room) s m #[(.ref a1), (.int p2)] below meth c s₁ [] 0 0 := Stand.of_body Bd
  have e0 : s₁.heap = h0 := by rw [← hh, Bd.state]; rfl
  have N0 := Fr.nil n0
  have pre0 : ∀ t, Steps p.tables e below (s₁.setTop (mkF m 0 #[.val (.ref a1), .val (.int p2)] [])) t → Steps p.tables e below (s₁.setTop (entryFrame m #[(.ref a1), (.int p2)] 2)) t := fun t k => castTop (ef_5 m a1 p2) k
  obtain ⟨cq3, kq3, q3a, q3b, q3c⟩ := isOf hZ e0 E_a1
  obtain ⟨_, _, ⟨T3, L3, k3, n3⟩, -, X3, ⟨Lc3, hQ3, l3, y3, z3⟩, st3⟩ := X0.virtualBack hx (y := (⟨"java/lang/String", "isLatin1", "()Z"⟩ : MethodName)) (z := (⟨"java/lang/String", "isLatin1", "()Z"⟩ : MethodName)) hown (mvT hZ (hw _ (List.mem_of_getElem? (i := 36) rfl))) (mvT hZ (hw _ (List.mem_of_getElem? (i := 37) rfl))) (notFace_of_selects (args := #[]) (mvT hZ (hw _ (List.mem_of_getElem? (i := 39) rfl)))) (mvT hZ (hw _ (List.mem_of_getElem? (i := 39) rfl))) (mvT hZ (hw _ (List.mem_of_getElem? (i := 38) rfl))) (by decide) (backOf (W := 0) (rm6 l Z a0 hw [] a1 w_COMPACT_STRINGS h0 n0 Z0 S_COMPACT_STRINGS F_coder_a1 hcs) hZ (hw _ (List.mem_of_getElem? (i := 40) rfl)) (hw _ (List.mem_of_getElem? (i := 19) rfl)) (by decide) (by decide)) q3a q3c (g := (mkF m 1 #[.val (.ref a1), .val (.int p2)] [(.ref a1)])) rfl (by rw [hml]; rfl) (Steps.refl _) (argsL := []) (rest := []) (lenOf pd_5_5 rfl) rfl (by show 2 * 0 + _ ≤ _; exact Nat.le_of_eq rfl) (hb hby d5_1) (fun _ _ => ⟨rfl, e0, (by decide : 0 + 0 ≤ _), (by decide : 0 + 0 ≤ _)⟩)
  dsimp only [Pt.U, Pt.locs, Pt.cells, Pt.slots] at X3 l3 y3 z3 st3 hQ3
  subst l3 y3 z3
  obtain ⟨rfl, N3q, e3⟩ := hQ3
  have N3 := Fr.app N0 N3q
  obtain ⟨T4, X4, e4, st4⟩ := getF X3 hx hZ hown (host := "") (Or.inl (hw _ (List.mem_of_getElem? (i := 21) rfl))) Via.refl e3 F_value_a1 (g := (mkF m 8 #[.val (.ref a1), .val (.int p2)] [(.ref a1)])) rfl rfl (hb hby d5_8)
  obtain ⟨_, _, ⟨T5, L5, k5, n5⟩, -, X5, ⟨Lc5, hQ5, l5, y5, z5⟩, st5⟩ := Jvm.LawKit.callS X4 hx (y := (⟨"java/lang/StringLatin1", "charAt", "([BI)C"⟩ : MethodName)) hown (mvT hZ (hw _ (List.mem_of_getElem? (i := 41) rfl))) (mvT hZ (hw _ (List.mem_of_getElem? (i := 42) rfl))) (mvT hZ (hw _ (List.mem_of_getElem? (i := 43) rfl))) (mvT hZ (hw _ (List.mem_of_getElem? (i := 44) rfl))) (by decide) (backOf (W := 0) (rm7v l Z a0 hw [] v_value_a1 p2 cl z wb wf r7 h0 n0 Z0 Ar hS hN hin hat S_SIOOBE hwf hlo hhi hr7) hZ (hw _ (List.mem_of_getElem? (i := 44) rfl)) (hw _ (List.mem_of_getElem? (i := 43) rfl)) (by decide) (by decide)) (g := (mkF m 12 #[.val (.ref a1), .val (.int p2)] [(.int p2), (.ref v_value_a1)])) rfl (by rw [hml]; rfl) (argsL := [(.ref v_value_a1), (.int p2)]) (rest := []) (lenOf pd_5_6 rfl) rfl (by show 2 * 0 + _ ≤ _; exact Nat.le_of_eq rfl) (hb hby d5_12) (fun _ _ => ⟨rfl, e4, (by decide : 0 + 0 ≤ _), (by decide : 0 + 0 ≤ _)⟩)
  dsimp only [Pt.U, Pt.locs, Pt.cells, Pt.slots] at X5 l5 y5 z5 st5 hQ5
  subst l5 y5 z5
  obtain ⟨rfl, N5q, e5⟩ := hQ5
  have N5 := Fr.app N3 N5q
  obtain ⟨fs, hr, hrun, hended, hW, hsame⟩ := X5.leave (v := some (.int (nar .char r7))) (fun h => by rw [Bd.returns] at h; cases h)
  refine ⟨_, _, pre0 _ ?_, hrun, hended, _, _, rfl, ?_, ⟨_, rfl⟩, hW, hsame.mono (by decide) (by decide)⟩
  · show Steps p.tables e below (s₁.setTop (mkF m 0 #[.val (.ref a1), .val (.int p2)] [])) _
    refine XS.aloadN X0.here hx rfl (hb hby d5_0) rfl rfl ?_
    show Steps p.tables e below (s₁.setTop (mkF m 1 #[.val (.ref a1), .val (.int p2)] [(.ref a1)])) _
    refine st3.trans ?_
    show Steps p.tables e below (T3.setTop (mkF m 4 #[.val (.ref a1), .val (.int p2)] [(.int (1 : Int32))])) _
    refine XS.ifNo X3.here hx rfl (hb hby d5_4) rfl ((if0 _ _).trans (feq (by decide : ¬ ((1 : Int32) = (0 : Int32)))).1) ?_
    show Steps p.tables e below (T3.setTop (mkF m 7 #[.val (.ref a1), .val (.int p2)] [])) _
    refine XS.aloadN X3.here hx rfl (hb hby d5_7) rfl rfl ?_
    show Steps p.tables e below (T3.setTop (mkF m 8 #[.val (.ref a1), .val (.int p2)] [(.ref a1)])) _
    refine st4 _ ?_
    show Steps p.tables e below (T4.setTop (mkF m 11 #[.val (.ref a1), .val (.int p2)] [(.ref v_value_a1)])) _
    refine XS.iloadN X4.here hx rfl (hb hby d5_11) rfl ?_
    show Steps p.tables e below (T4.setTop (mkF m 12 #[.val (.ref a1), .val (.int p2)] [(.int p2), (.ref v_value_a1)])) _
    refine st5 _ ?_
    show Steps p.tables e below (T5.setTop (mkF m 15 #[.val (.ref a1), .val (.int p2)] [(.int r7)])) _
    exact retN X5 hx (t := .char) Bd.returns (by simp) (hb hby d5_15) hr
  · show QP (.int (nar .char r7)) h0 n0 _ T5.heap _
    rw [e5]
    exact ⟨rfl, N5, rfl⟩
theorem rm5v (l : Launch) (Z : State) (a0 : Array Value) (hw : ∀ d ∈ tables_1, d.before a0 Z = true) (ws : List Jvm.Cond) (a1 : Addr) (p2 : Int32) (v_value_a1 : Addr) (w_COMPACT_STRINGS : Int32) (cl : Cell) (z : Int32) (wb : Int32) (wf : Value) (r7 : Int32) (r : Int32) (h0 : Heap) (n0 : Nat) (Z0 : n0 ≤ h0.size) (E_a1 : Exa Z h0 a1 "java/lang/String") (F_value_a1 : Fld Z h0 a1 "java/lang/String" "value" "[B" (.ref v_value_a1)) (S_COMPACT_STRINGS : Sta Z h0 "java/lang/String" "COMPACT_STRINGS" "Z" (.int w_COMPACT_STRINGS)) (F_coder_a1 : Fld Z h0 a1 "java/lang/String" "coder" "B" (.int (0 : Int32))) (hcs : ¬ (w_COMPACT_STRINGS = (0 : Int32))) (Ar : Arr Z h0 v_value_a1 cl .byte) (hS : cl.slots.size = z.toNatClampNeg) (hN : ¬ z < 0) (hin : ¬ (p2 < 0 ∨ cl.slots.size ≤ (p2).toNatClampNeg)) (hat : cl.slots[(p2).toNatClampNeg]? = some (.int wb)) (S_SIOOBE : Sta Z h0 "jdk/internal/util/Preconditions" "SIOOBE_FORMATTER" "Ljava/util/function/BiFunction;" wf) (hwf : wf.isRef = true) (hlo : ¬ (p2 < (0 : Int32))) (hhi : p2 < z) (hr7 : nar .char ((wb &&& (255 : Int32)).toUInt32.toUInt16.toUInt32.toInt32) = r7) (hv : (nar .char r7) = r) :
    MetFree l (⟨"java/lang/String", "charAt", "(I)C"⟩ : MethodName) (head1 (Jvm.Cond.code (⟨"java/lang/String", "charAt", "(I)C"⟩ : MethodName) jdk_42_method_56_code 2 (some .char) :: ws) ({ frames := 3, cells := 0, slots := 0, locals := 40 } : Room)) (fun a U => a = #[(.ref a1), (.int p2)] ∧ Z.Warmed39 U.vm ∧ U.heap = h0) (fun _ _ _ _ _ => True) (fun _ U o U' => ∃ v L, o = .returned v ∧ QP (.int r) h0 n0 v U'.heap L ∧ FrameEnd U o U' L ({ frames := 3, cells := 0, slots := 0, locals := 40 } : Room).cells ({ frames := 3, cells := 0, slots := 0, locals := 40 } : Room).slots) := by
  have h := rm5 l Z a0 hw ws a1 p2 v_value_a1 w_COMPACT_STRINGS cl z wb wf r7 h0 n0 Z0 E_a1 F_value_a1 S_COMPACT_STRINGS F_coder_a1 hcs Ar hS hN hin hat S_SIOOBE hwf hlo hhi hr7
  rw [hv] at h; exact h
theorem d2_0 : decode prog_75_method_4_code 0 = .ok (.aload_n 0, 1) := by decide +kernel
theorem d2_1 : decode prog_75_method_4_code 1 = .ok (.getfield 41, 3) := by decide +kernel
theorem d2_4 : decode prog_75_method_4_code 4 = .ok (.areturn, 1) := by decide +kernel
theorem pn_2 : plainName "com/example/niyama/niyama/relational/model/ScalarComparison$Operator" = true := by first | (simp [plainName, overriddenIn]; done) | decide +kernel
theorem ef_2 (m : MethodId) (x0 : Addr) : entryFrame m #[(.ref x0)] 1 = mkF m 0 #[.val (.ref x0)] [] := by first | (simp [entryFrame, mkF, argsToLocals, Value.category]; done) | rfl
set_option maxRecDepth 65536 in
set_option maxHeartbeats 40000000 in
theorem rm2 (l : Launch) (Z : State) (a0 : Array Value) (hw : ∀ d ∈ tables_1, d.before a0 Z = true) (ws : List Jvm.Cond) (a1 : Addr) (v_symbol_a1 : Addr) (h0 : Heap) (n0 : Nat) (Z0 : n0 ≤ h0.size) (F_symbol_a1 : Fld Z h0 a1 "com/example/niyama/niyama/relational/model/ScalarComparison$Operator" "symbol" "Ljava/lang/String;" (.ref v_symbol_a1)) :
    MetFree l (⟨"com/example/niyama/niyama/relational/model/ScalarComparison$Operator", "symbol", "()Ljava/lang/String;"⟩ : MethodName) (head1 (Jvm.Cond.code (⟨"com/example/niyama/niyama/relational/model/ScalarComparison$Operator", "symbol", "()Ljava/lang/String;"⟩ : MethodName) prog_75_method_4_code 1 (some (.object "java/lang/String")) :: ws) ({ frames := 0, cells := 0, slots := 0, locals := 0 } : Room)) (fun a U => a = #[(.ref a1)] ∧ Z.Warmed39 U.vm ∧ U.heap = h0) (fun _ _ _ _ _ => True) (fun _ U o U' => ∃ v L, o = .returned v ∧ QP (.ref v_symbol_a1) h0 n0 v U'.heap L ∧ FrameEnd U o U' L ({ frames := 0, cells := 0, slots := 0, locals := 0 } : Room).cells ({ frames := 0, cells := 0, slots := 0, locals := 0 } : Room).slots) := by
  refine MetFree.of_bodySF (plainFor_of_name pn_2) hisR ?_
  intro p e s m args below meth c s₁ Bd hml0 hP hK
  obtain ⟨rfl, hZ, hh⟩ := hP
  have hx := Bd.exec
  have hby := Bd.bytes
  have hml : c.maxLocals = 1 := hml0
  have hown : s.vm.findClass "com/example/niyama/niyama/relational/model/ScalarComparison$Operator" = some m.cls := findClass_of_methodNamed Bd.named
  have hnm := (name_of_methodNamed Bd.named Bd.method).1
  have X0 : Stand p l e ({ frames := 0, cells := 0, slots := 0, locals := 0 } : Room) s m #[(.ref a1)] below meth c s₁ [] 0 0 := Stand.of_body Bd
  have e0 : s₁.heap = h0 := by rw [← hh, Bd.state]; rfl
  have N0 := Fr.nil n0
  have pre0 : ∀ t, Steps p.tables e below (s₁.setTop (mkF m 0 #[.val (.ref a1)] [])) t → Steps p.tables e below (s₁.setTop (entryFrame m #[(.ref a1)] 1)) t := fun t k => castTop (ef_2 m a1) k
  obtain ⟨T2, X2, e2, st2⟩ := getF X0 hx hZ hown (host := "") (Or.inl (hw _ (List.mem_of_getElem? (i := 13) rfl))) Via.refl e0 F_symbol_a1 (g := (mkF m 1 #[.val (.ref a1)] [(.ref a1)])) rfl rfl (hb hby d2_1)
  obtain ⟨fs, hr, hrun, hended, hW, hsame⟩ := X2.leave (v := some (.ref v_symbol_a1)) (fun h => by rw [Bd.returns] at h; cases h)
  refine ⟨_, _, pre0 _ ?_, hrun, hended, _, _, rfl, ?_, ⟨_, rfl⟩, hW, hsame.mono (by decide) (by decide)⟩
  · show Steps p.tables e below (s₁.setTop (mkF m 0 #[.val (.ref a1)] [])) _
    refine XS.aloadN X0.here hx rfl (hb hby d2_0) rfl rfl ?_
    show Steps p.tables e below (s₁.setTop (mkF m 1 #[.val (.ref a1)] [(.ref a1)])) _
    refine st2 _ ?_
    show Steps p.tables e below (T2.setTop (mkF m 4 #[.val (.ref a1)] [(.ref v_symbol_a1)])) _
    jvm_step X2.here [X2.here.top, hx, (hb hby d2_4), X2.method', Bd.returns, Value.isRef, FieldType.isReference]
    first | (intro acts; rw [hr _ acts rfl rfl rfl]) | rw [hr _ _ rfl rfl rfl]
    exact Steps.refl _
  · show QP (.ref v_symbol_a1) h0 n0 _ T2.heap _
    rw [e2]
    exact ⟨rfl, N0, rfl⟩
theorem d1_0 : decode method_3_code 0 = .ok (.iload_n 0, 1) := by decide +kernel
theorem d1_1 : decode method_3_code 1 = .ok (.ifCond .ne 7, 3) := by decide +kernel
theorem d1_4 : decode method_3_code 4 = .ok (.getstatic 34, 3) := by decide +kernel
theorem d1_7 : decode method_3_code 7 = .ok (.areturn, 1) := by decide +kernel
theorem pn_1 : plainName "com/example/niyama/niyama/relational/model/OperatorIsOrderPinLaw" = true := by first | (simp [plainName, overriddenIn]; done) | decide +kernel
theorem ef_1 (m : MethodId) (x0 : Int32) : entryFrame m #[(.int x0)] 1 = mkF m 0 #[.val (.int x0)] [] := by first | (simp [entryFrame, mkF, argsToLocals, Value.category]; done) | rfl
theorem d1_8 : decode method_3_code 8 = .ok (.iload_n 0, 1) := by decide +kernel
theorem d1_9 : decode method_3_code 9 = .ok (.iconst 1, 1) := by decide +kernel
theorem d1_10 : decode method_3_code 10 = .ok (.if_icmp .ne 7, 3) := by decide +kernel
theorem d1_13 : decode method_3_code 13 = .ok (.getstatic 38, 3) := by decide +kernel
theorem d1_16 : decode method_3_code 16 = .ok (.areturn, 1) := by decide +kernel
theorem d1_17 : decode method_3_code 17 = .ok (.iload_n 0, 1) := by decide +kernel
theorem d1_18 : decode method_3_code 18 = .ok (.iconst 2, 1) := by decide +kernel
theorem d1_19 : decode method_3_code 19 = .ok (.if_icmp .ne 7, 3) := by decide +kernel
theorem d1_22 : decode method_3_code 22 = .ok (.getstatic 41, 3) := by decide +kernel
theorem d1_25 : decode method_3_code 25 = .ok (.areturn, 1) := by decide +kernel
theorem d1_26 : decode method_3_code 26 = .ok (.iload_n 0, 1) := by decide +kernel
theorem d1_27 : decode method_3_code 27 = .ok (.iconst 3, 1) := by decide +kernel
theorem d1_28 : decode method_3_code 28 = .ok (.if_icmp .ne 7, 3) := by decide +kernel
theorem d1_31 : decode method_3_code 31 = .ok (.getstatic 44, 3) := by decide +kernel
theorem d1_34 : decode method_3_code 34 = .ok (.areturn, 1) := by decide +kernel
theorem d1_35 : decode method_3_code 35 = .ok (.iload_n 0, 1) := by decide +kernel
theorem d1_36 : decode method_3_code 36 = .ok (.iconst 4, 1) := by decide +kernel
theorem d1_37 : decode method_3_code 37 = .ok (.if_icmp .ne 7, 3) := by decide +kernel
theorem d1_40 : decode method_3_code 40 = .ok (.getstatic 47, 3) := by decide +kernel
theorem d1_43 : decode method_3_code 43 = .ok (.areturn, 1) := by decide +kernel
theorem d1_44 : decode method_3_code 44 = .ok (.getstatic 50, 3) := by decide +kernel
theorem d1_47 : decode method_3_code 47 = .ok (.areturn, 1) := by decide +kernel
set_option maxRecDepth 65536 in
set_option maxHeartbeats 40000000 in
theorem rm1_f (l : Launch) (Z : State) (a0 : Array Value) (hw : ∀ d ∈ tables_1, d.before a0 Z = true) (ws : List Jvm.Cond) (p1 : Int32) (w_LESS : Addr) (h0 : Heap) (n0 : Nat) (Z0 : n0 ≤ h0.size) (S_LESS : Sta Z h0 "com/example/niyama/niyama/relational/model/ScalarComparison$Operator" "LESS" "Lcom/example/niyama/niyama/relational/model/ScalarComparison$Operator;" (.ref w_LESS)) (hc1 : p1 = (0 : Int32)) :
    MetFree l (⟨"com/example/niyama/niyama/relational/model/OperatorIsOrderPinLaw", "pick", "(I)Lcom/example/niyama/niyama/relational/model/ScalarComparison$Operator;"⟩ : MethodName) (head1 (Jvm.Cond.code (⟨"com/example/niyama/niyama/relational/model/OperatorIsOrderPinLaw", "pick", "(I)Lcom/example/niyama/niyama/relational/model/ScalarComparison$Operator;"⟩ : MethodName) method_3_code 1 (some (.object "com/example/niyama/niyama/relational/model/ScalarComparison$Operator")) :: ws) ({ frames := 0, cells := 0, slots := 0, locals := 0 } : Room)) (fun a U => a = #[(.int p1)] ∧ Z.Warmed39 U.vm ∧ U.heap = h0) (fun _ _ _ _ _ => True) (fun _ U o U' => ∃ v L, o = .returned v ∧ QP (.ref w_LESS) h0 n0 v U'.heap L ∧ FrameEnd U o U' L ({ frames := 0, cells := 0, slots := 0, locals := 0 } : Room).cells ({ frames := 0, cells := 0, slots := 0, locals := 0 } : Room).slots) := by
  refine MetFree.of_bodySF (plainFor_of_name pn_1) hisR ?_
  intro p e s m args below meth c s₁ Bd hml0 hP hK
  obtain ⟨rfl, hZ, hh⟩ := hP
  have hx := Bd.exec
  have hby := Bd.bytes
  have hml : c.maxLocals = 1 := hml0
  have hown : s.vm.findClass "com/example/niyama/niyama/relational/model/OperatorIsOrderPinLaw" = some m.cls := findClass_of_methodNamed Bd.named
  have hnm := (name_of_methodNamed Bd.named Bd.method).1
  have X0 : Stand p l e ({ frames := 0, cells := 0, slots := 0, locals := 0 } : Room) s m #[(.int p1)] below meth c s₁ [] 0 0 := Stand.of_body Bd
  have e0 : s₁.heap = h0 := by rw [← hh, Bd.state]; rfl
  have N0 := Fr.nil n0
  have pre0 : ∀ t, Steps p.tables e below (s₁.setTop (mkF m 0 #[.val (.int p1)] [])) t → Steps p.tables e below (s₁.setTop (entryFrame m #[(.int p1)] 1)) t := fun t k => castTop (ef_1 m p1) k
  obtain ⟨T2, X2, e2, st2⟩ := getS2 X0 hx hZ hown (host := "") (Or.inl (hw _ (List.mem_of_getElem? (i := 5) rfl))) Via.refl e0 S_LESS (g := (mkF m 4 #[.val (.int p1)] [])) rfl (hb hby d1_4)
  obtain ⟨fs, hr, hrun, hended, hW, hsame⟩ := X2.leave (v := some (.ref w_LESS)) (fun h => by rw [Bd.returns] at h; cases h)
  refine ⟨_, _, pre0 _ ?_, hrun, hended, _, _, rfl, ?_, ⟨_, rfl⟩, hW, hsame.mono (by decide) (by decide)⟩
  · show Steps p.tables e below (s₁.setTop (mkF m 0 #[.val (.int p1)] [])) _
    refine XS.iloadN X0.here hx rfl (hb hby d1_0) rfl ?_
    show Steps p.tables e below (s₁.setTop (mkF m 1 #[.val (.int p1)] [(.int p1)])) _
    refine XS.ifNo X0.here hx rfl (hb hby d1_1) rfl ((if0 _ _).trans (teq hc1).2) ?_
    show Steps p.tables e below (s₁.setTop (mkF m 4 #[.val (.int p1)] [])) _
    refine st2 _ ?_
    show Steps p.tables e below (T2.setTop (mkF m 7 #[.val (.int p1)] [(.ref w_LESS)])) _
    jvm_step X2.here [X2.here.top, hx, (hb hby d1_7), X2.method', Bd.returns, Value.isRef, FieldType.isReference]
    first | (intro acts; rw [hr _ acts rfl rfl rfl]) | rw [hr _ _ rfl rfl rfl]
    exact Steps.refl _
  · show QP (.ref w_LESS) h0 n0 _ T2.heap _
    rw [e2]
    exact ⟨rfl, N0, rfl⟩
set_option maxRecDepth 65536 in
set_option maxHeartbeats 40000000 in
theorem rm1_tf (l : Launch) (Z : State) (a0 : Array Value) (hw : ∀ d ∈ tables_1, d.before a0 Z = true) (ws : List Jvm.Cond) (p1 : Int32) (w_LESS_OR_EQUAL : Addr) (h0 : Heap) (n0 : Nat) (Z0 : n0 ≤ h0.size) (S_LESS_OR_EQUAL : Sta Z h0 "com/example/niyama/niyama/relational/model/ScalarComparison$Operator" "LESS_OR_EQUAL" "Lcom/example/niyama/niyama/relational/model/ScalarComparison$Operator;" (.ref w_LESS_OR_EQUAL)) (hc1 : ¬ (p1 = (0 : Int32))) (hc10 : p1 = (1 : Int32)) :
    MetFree l (⟨"com/example/niyama/niyama/relational/model/OperatorIsOrderPinLaw", "pick", "(I)Lcom/example/niyama/niyama/relational/model/ScalarComparison$Operator;"⟩ : MethodName) (head1 (Jvm.Cond.code (⟨"com/example/niyama/niyama/relational/model/OperatorIsOrderPinLaw", "pick", "(I)Lcom/example/niyama/niyama/relational/model/ScalarComparison$Operator;"⟩ : MethodName) method_3_code 1 (some (.object "com/example/niyama/niyama/relational/model/ScalarComparison$Operator")) :: ws) ({ frames := 0, cells := 0, slots := 0, locals := 0 } : Room)) (fun a U => a = #[(.int p1)] ∧ Z.Warmed39 U.vm ∧ U.heap = h0) (fun _ _ _ _ _ => True) (fun _ U o U' => ∃ v L, o = .returned v ∧ QP (.ref w_LESS_OR_EQUAL) h0 n0 v U'.heap L ∧ FrameEnd U o U' L ({ frames := 0, cells := 0, slots := 0, locals := 0 } : Room).cells ({ frames := 0, cells := 0, slots := 0, locals := 0 } : Room).slots) := by
  refine MetFree.of_bodySF (plainFor_of_name pn_1) hisR ?_
  intro p e s m args below meth c s₁ Bd hml0 hP hK
  obtain ⟨rfl, hZ, hh⟩ := hP
  have hx := Bd.exec
  have hby := Bd.bytes
  have hml : c.maxLocals = 1 := hml0
  have hown : s.vm.findClass "com/example/niyama/niyama/relational/model/OperatorIsOrderPinLaw" = some m.cls := findClass_of_methodNamed Bd.named
  have hnm := (name_of_methodNamed Bd.named Bd.method).1
  have X0 : Stand p l e ({ frames := 0, cells := 0, slots := 0, locals := 0 } : Room) s m #[(.int p1)] below meth c s₁ [] 0 0 := Stand.of_body Bd
  have e0 : s₁.heap = h0 := by rw [← hh, Bd.state]; rfl
  have N0 := Fr.nil n0
  have pre0 : ∀ t, Steps p.tables e below (s₁.setTop (mkF m 0 #[.val (.int p1)] [])) t → Steps p.tables e below (s₁.setTop (entryFrame m #[(.int p1)] 1)) t := fun t k => castTop (ef_1 m p1) k
  obtain ⟨T2, X2, e2, st2⟩ := getS2 X0 hx hZ hown (host := "") (Or.inl (hw _ (List.mem_of_getElem? (i := 64) rfl))) Via.refl e0 S_LESS_OR_EQUAL (g := (mkF m 13 #[.val (.int p1)] [])) rfl (hb hby d1_13)
  obtain ⟨fs, hr, hrun, hended, hW, hsame⟩ := X2.leave (v := some (.ref w_LESS_OR_EQUAL)) (fun h => by rw [Bd.returns] at h; cases h)
  refine ⟨_, _, pre0 _ ?_, hrun, hended, _, _, rfl, ?_, ⟨_, rfl⟩, hW, hsame.mono (by decide) (by decide)⟩
  · show Steps p.tables e below (s₁.setTop (mkF m 0 #[.val (.int p1)] [])) _
    refine XS.iloadN X0.here hx rfl (hb hby d1_0) rfl ?_
    show Steps p.tables e below (s₁.setTop (mkF m 1 #[.val (.int p1)] [(.int p1)])) _
    refine XS.ifYes X0.here hx rfl (pc0 := 1) (pc' := 8) rfl (hb hby d1_1) rfl ((if0 _ _).trans (feq hc1).2) (by decide) (by decide) ?_
    show Steps p.tables e below (s₁.setTop (mkF m 8 #[.val (.int p1)] [])) _
    refine XS.iloadN X0.here hx rfl (hb hby d1_8) rfl ?_
    show Steps p.tables e below (s₁.setTop (mkF m 9 #[.val (.int p1)] [(.int p1)])) _
    refine XS.iconst X0.here hx rfl (hb hby d1_9) ?_
    show Steps p.tables e below (s₁.setTop (mkF m 10 #[.val (.int p1)] [(.int (1 : Int32)), (.int p1)])) _
    refine XS.icmpNo X0.here hx rfl (hb hby d1_10) rfl (teq hc10).2 ?_
    show Steps p.tables e below (s₁.setTop (mkF m 13 #[.val (.int p1)] [])) _
    refine st2 _ ?_
    show Steps p.tables e below (T2.setTop (mkF m 16 #[.val (.int p1)] [(.ref w_LESS_OR_EQUAL)])) _
    jvm_step X2.here [X2.here.top, hx, (hb hby d1_16), X2.method', Bd.returns, Value.isRef, FieldType.isReference]
    first | (intro acts; rw [hr _ acts rfl rfl rfl]) | rw [hr _ _ rfl rfl rfl]
    exact Steps.refl _
  · show QP (.ref w_LESS_OR_EQUAL) h0 n0 _ T2.heap _
    rw [e2]
    exact ⟨rfl, N0, rfl⟩
set_option maxRecDepth 65536 in
set_option maxHeartbeats 40000000 in
theorem rm1_ttf (l : Launch) (Z : State) (a0 : Array Value) (hw : ∀ d ∈ tables_1, d.before a0 Z = true) (ws : List Jvm.Cond) (p1 : Int32) (w_EQUAL : Addr) (h0 : Heap) (n0 : Nat) (Z0 : n0 ≤ h0.size) (S_EQUAL : Sta Z h0 "com/example/niyama/niyama/relational/model/ScalarComparison$Operator" "EQUAL" "Lcom/example/niyama/niyama/relational/model/ScalarComparison$Operator;" (.ref w_EQUAL)) (hc1 : ¬ (p1 = (0 : Int32))) (hc10 : ¬ (p1 = (1 : Int32))) (hc19 : p1 = (2 : Int32)) :
    MetFree l (⟨"com/example/niyama/niyama/relational/model/OperatorIsOrderPinLaw", "pick", "(I)Lcom/example/niyama/niyama/relational/model/ScalarComparison$Operator;"⟩ : MethodName) (head1 (Jvm.Cond.code (⟨"com/example/niyama/niyama/relational/model/OperatorIsOrderPinLaw", "pick", "(I)Lcom/example/niyama/niyama/relational/model/ScalarComparison$Operator;"⟩ : MethodName) method_3_code 1 (some (.object "com/example/niyama/niyama/relational/model/ScalarComparison$Operator")) :: ws) ({ frames := 0, cells := 0, slots := 0, locals := 0 } : Room)) (fun a U => a = #[(.int p1)] ∧ Z.Warmed39 U.vm ∧ U.heap = h0) (fun _ _ _ _ _ => True) (fun _ U o U' => ∃ v L, o = .returned v ∧ QP (.ref w_EQUAL) h0 n0 v U'.heap L ∧ FrameEnd U o U' L ({ frames := 0, cells := 0, slots := 0, locals := 0 } : Room).cells ({ frames := 0, cells := 0, slots := 0, locals := 0 } : Room).slots) := by
  refine MetFree.of_bodySF (plainFor_of_name pn_1) hisR ?_
  intro p e s m args below meth c s₁ Bd hml0 hP hK
  obtain ⟨rfl, hZ, hh⟩ := hP
  have hx := Bd.exec
  have hby := Bd.bytes
  have hml : c.maxLocals = 1 := hml0
  have hown : s.vm.findClass "com/example/niyama/niyama/relational/model/OperatorIsOrderPinLaw" = some m.cls := findClass_of_methodNamed Bd.named
  have hnm := (name_of_methodNamed Bd.named Bd.method).1
  have X0 : Stand p l e ({ frames := 0, cells := 0, slots := 0, locals := 0 } : Room) s m #[(.int p1)] below meth c s₁ [] 0 0 := Stand.of_body Bd
  have e0 : s₁.heap = h0 := by rw [← hh, Bd.state]; rfl
  have N0 := Fr.nil n0
  have pre0 : ∀ t, Steps p.tables e below (s₁.setTop (mkF m 0 #[.val (.int p1)] [])) t → Steps p.tables e below (s₁.setTop (entryFrame m #[(.int p1)] 1)) t := fun t k => castTop (ef_1 m p1) k
  obtain ⟨T2, X2, e2, st2⟩ := getS2 X0 hx hZ hown (host := "") (Or.inl (hw _ (List.mem_of_getElem? (i := 63) rfl))) Via.refl e0 S_EQUAL (g := (mkF m 22 #[.val (.int p1)] [])) rfl (hb hby d1_22)
  obtain ⟨fs, hr, hrun, hended, hW, hsame⟩ := X2.leave (v := some (.ref w_EQUAL)) (fun h => by rw [Bd.returns] at h; cases h)
  refine ⟨_, _, pre0 _ ?_, hrun, hended, _, _, rfl, ?_, ⟨_, rfl⟩, hW, hsame.mono (by decide) (by decide)⟩
  · show Steps p.tables e below (s₁.setTop (mkF m 0 #[.val (.int p1)] [])) _
    refine XS.iloadN X0.here hx rfl (hb hby d1_0) rfl ?_
    show Steps p.tables e below (s₁.setTop (mkF m 1 #[.val (.int p1)] [(.int p1)])) _
    refine XS.ifYes X0.here hx rfl (pc0 := 1) (pc' := 8) rfl (hb hby d1_1) rfl ((if0 _ _).trans (feq hc1).2) (by decide) (by decide) ?_
    show Steps p.tables e below (s₁.setTop (mkF m 8 #[.val (.int p1)] [])) _
    refine XS.iloadN X0.here hx rfl (hb hby d1_8) rfl ?_
    show Steps p.tables e below (s₁.setTop (mkF m 9 #[.val (.int p1)] [(.int p1)])) _
    refine XS.iconst X0.here hx rfl (hb hby d1_9) ?_
    show Steps p.tables e below (s₁.setTop (mkF m 10 #[.val (.int p1)] [(.int (1 : Int32)), (.int p1)])) _
    refine XS.icmpYes X0.here hx rfl (pc0 := 10) (pc' := 17) rfl (hb hby d1_10) rfl (feq hc10).2 (by decide) (by decide) ?_
    show Steps p.tables e below (s₁.setTop (mkF m 17 #[.val (.int p1)] [])) _
    refine XS.iloadN X0.here hx rfl (hb hby d1_17) rfl ?_
    show Steps p.tables e below (s₁.setTop (mkF m 18 #[.val (.int p1)] [(.int p1)])) _
    refine XS.iconst X0.here hx rfl (hb hby d1_18) ?_
    show Steps p.tables e below (s₁.setTop (mkF m 19 #[.val (.int p1)] [(.int (2 : Int32)), (.int p1)])) _
    refine XS.icmpNo X0.here hx rfl (hb hby d1_19) rfl (teq hc19).2 ?_
    show Steps p.tables e below (s₁.setTop (mkF m 22 #[.val (.int p1)] [])) _
    refine st2 _ ?_
    show Steps p.tables e below (T2.setTop (mkF m 25 #[.val (.int p1)] [(.ref w_EQUAL)])) _
    jvm_step X2.here [X2.here.top, hx, (hb hby d1_25), X2.method', Bd.returns, Value.isRef, FieldType.isReference]
    first | (intro acts; rw [hr _ acts rfl rfl rfl]) | rw [hr _ _ rfl rfl rfl]
    exact Steps.refl _
  · show QP (.ref w_EQUAL) h0 n0 _ T2.heap _
    rw [e2]
    exact ⟨rfl, N0, rfl⟩
set_option maxRecDepth 65536 in
set_option maxHeartbeats 40000000 in
theorem rm1_tttf (l : Launch) (Z : State) (a0 : Array Value) (hw : ∀ d ∈ tables_1, d.before a0 Z = true) (ws : List Jvm.Cond) (p1 : Int32) (w_NOT_EQUAL : Addr) (h0 : Heap) (n0 : Nat) (Z0 : n0 ≤ h0.size) (S_NOT_EQUAL : Sta Z h0 "com/example/niyama/niyama/relational/model/ScalarComparison$Operator" "NOT_EQUAL" "Lcom/example/niyama/niyama/relational/model/ScalarComparison$Operator;" (.ref w_NOT_EQUAL)) (hc1 : ¬ (p1 = (0 : Int32))) (hc10 : ¬ (p1 = (1 : Int32))) (hc19 : ¬ (p1 = (2 : Int32))) (hc28 : p1 = (3 : Int32)) :
    MetFree l (⟨"com/example/niyama/niyama/relational/model/OperatorIsOrderPinLaw", "pick", "(I)Lcom/example/niyama/niyama/relational/model/ScalarComparison$Operator;"⟩ : MethodName) (head1 (Jvm.Cond.code (⟨"com/example/niyama/niyama/relational/model/OperatorIsOrderPinLaw", "pick", "(I)Lcom/example/niyama/niyama/relational/model/ScalarComparison$Operator;"⟩ : MethodName) method_3_code 1 (some (.object "com/example/niyama/niyama/relational/model/ScalarComparison$Operator")) :: ws) ({ frames := 0, cells := 0, slots := 0, locals := 0 } : Room)) (fun a U => a = #[(.int p1)] ∧ Z.Warmed39 U.vm ∧ U.heap = h0) (fun _ _ _ _ _ => True) (fun _ U o U' => ∃ v L, o = .returned v ∧ QP (.ref w_NOT_EQUAL) h0 n0 v U'.heap L ∧ FrameEnd U o U' L ({ frames := 0, cells := 0, slots := 0, locals := 0 } : Room).cells ({ frames := 0, cells := 0, slots := 0, locals := 0 } : Room).slots) := by
  refine MetFree.of_bodySF (plainFor_of_name pn_1) hisR ?_
  intro p e s m args below meth c s₁ Bd hml0 hP hK
  obtain ⟨rfl, hZ, hh⟩ := hP
  have hx := Bd.exec
  have hby := Bd.bytes
  have hml : c.maxLocals = 1 := hml0
  have hown : s.vm.findClass "com/example/niyama/niyama/relational/model/OperatorIsOrderPinLaw" = some m.cls := findClass_of_methodNamed Bd.named
  have hnm := (name_of_methodNamed Bd.named Bd.method).1
  have X0 : Stand p l e ({ frames := 0, cells := 0, slots := 0, locals := 0 } : Room) s m #[(.int p1)] below meth c s₁ [] 0 0 := Stand.of_body Bd
  have e0 : s₁.heap = h0 := by rw [← hh, Bd.state]; rfl
  have N0 := Fr.nil n0
  have pre0 : ∀ t, Steps p.tables e below (s₁.setTop (mkF m 0 #[.val (.int p1)] [])) t → Steps p.tables e below (s₁.setTop (entryFrame m #[(.int p1)] 1)) t := fun t k => castTop (ef_1 m p1) k
  obtain ⟨T2, X2, e2, st2⟩ := getS2 X0 hx hZ hown (host := "") (Or.inl (hw _ (List.mem_of_getElem? (i := 62) rfl))) Via.refl e0 S_NOT_EQUAL (g := (mkF m 31 #[.val (.int p1)] [])) rfl (hb hby d1_31)
  obtain ⟨fs, hr, hrun, hended, hW, hsame⟩ := X2.leave (v := some (.ref w_NOT_EQUAL)) (fun h => by rw [Bd.returns] at h; cases h)
  refine ⟨_, _, pre0 _ ?_, hrun, hended, _, _, rfl, ?_, ⟨_, rfl⟩, hW, hsame.mono (by decide) (by decide)⟩
  · show Steps p.tables e below (s₁.setTop (mkF m 0 #[.val (.int p1)] [])) _
    refine XS.iloadN X0.here hx rfl (hb hby d1_0) rfl ?_
    show Steps p.tables e below (s₁.setTop (mkF m 1 #[.val (.int p1)] [(.int p1)])) _
    refine XS.ifYes X0.here hx rfl (pc0 := 1) (pc' := 8) rfl (hb hby d1_1) rfl ((if0 _ _).trans (feq hc1).2) (by decide) (by decide) ?_
    show Steps p.tables e below (s₁.setTop (mkF m 8 #[.val (.int p1)] [])) _
    refine XS.iloadN X0.here hx rfl (hb hby d1_8) rfl ?_
    show Steps p.tables e below (s₁.setTop (mkF m 9 #[.val (.int p1)] [(.int p1)])) _
    refine XS.iconst X0.here hx rfl (hb hby d1_9) ?_
    show Steps p.tables e below (s₁.setTop (mkF m 10 #[.val (.int p1)] [(.int (1 : Int32)), (.int p1)])) _
    refine XS.icmpYes X0.here hx rfl (pc0 := 10) (pc' := 17) rfl (hb hby d1_10) rfl (feq hc10).2 (by decide) (by decide) ?_
    show Steps p.tables e below (s₁.setTop (mkF m 17 #[.val (.int p1)] [])) _
    refine XS.iloadN X0.here hx rfl (hb hby d1_17) rfl ?_
    show Steps p.tables e below (s₁.setTop (mkF m 18 #[.val (.int p1)] [(.int p1)])) _
    refine XS.iconst X0.here hx rfl (hb hby d1_18) ?_
    show Steps p.tables e below (s₁.setTop (mkF m 19 #[.val (.int p1)] [(.int (2 : Int32)), (.int p1)])) _
    refine XS.icmpYes X0.here hx rfl (pc0 := 19) (pc' := 26) rfl (hb hby d1_19) rfl (feq hc19).2 (by decide) (by decide) ?_
    show Steps p.tables e below (s₁.setTop (mkF m 26 #[.val (.int p1)] [])) _
    refine XS.iloadN X0.here hx rfl (hb hby d1_26) rfl ?_
    show Steps p.tables e below (s₁.setTop (mkF m 27 #[.val (.int p1)] [(.int p1)])) _
    refine XS.iconst X0.here hx rfl (hb hby d1_27) ?_
    show Steps p.tables e below (s₁.setTop (mkF m 28 #[.val (.int p1)] [(.int (3 : Int32)), (.int p1)])) _
    refine XS.icmpNo X0.here hx rfl (hb hby d1_28) rfl (teq hc28).2 ?_
    show Steps p.tables e below (s₁.setTop (mkF m 31 #[.val (.int p1)] [])) _
    refine st2 _ ?_
    show Steps p.tables e below (T2.setTop (mkF m 34 #[.val (.int p1)] [(.ref w_NOT_EQUAL)])) _
    jvm_step X2.here [X2.here.top, hx, (hb hby d1_34), X2.method', Bd.returns, Value.isRef, FieldType.isReference]
    first | (intro acts; rw [hr _ acts rfl rfl rfl]) | rw [hr _ _ rfl rfl rfl]
    exact Steps.refl _
  · show QP (.ref w_NOT_EQUAL) h0 n0 _ T2.heap _
    rw [e2]
    exact ⟨rfl, N0, rfl⟩
set_option maxRecDepth 65536 in
set_option maxHeartbeats 40000000 in
theorem rm1_ttttf (l : Launch) (Z : State) (a0 : Array Value) (hw : ∀ d ∈ tables_1, d.before a0 Z = true) (ws : List Jvm.Cond) (p1 : Int32) (w_GREATER_OR_EQUAL : Addr) (h0 : Heap) (n0 : Nat) (Z0 : n0 ≤ h0.size) (S_GREATER_OR_EQUAL : Sta Z h0 "com/example/niyama/niyama/relational/model/ScalarComparison$Operator" "GREATER_OR_EQUAL" "Lcom/example/niyama/niyama/relational/model/ScalarComparison$Operator;" (.ref w_GREATER_OR_EQUAL)) (hc1 : ¬ (p1 = (0 : Int32))) (hc10 : ¬ (p1 = (1 : Int32))) (hc19 : ¬ (p1 = (2 : Int32))) (hc28 : ¬ (p1 = (3 : Int32))) (hc37 : p1 = (4 : Int32)) :
    MetFree l (⟨"com/example/niyama/niyama/relational/model/OperatorIsOrderPinLaw", "pick", "(I)Lcom/example/niyama/niyama/relational/model/ScalarComparison$Operator;"⟩ : MethodName) (head1 (Jvm.Cond.code (⟨"com/example/niyama/niyama/relational/model/OperatorIsOrderPinLaw", "pick", "(I)Lcom/example/niyama/niyama/relational/model/ScalarComparison$Operator;"⟩ : MethodName) method_3_code 1 (some (.object "com/example/niyama/niyama/relational/model/ScalarComparison$Operator")) :: ws) ({ frames := 0, cells := 0, slots := 0, locals := 0 } : Room)) (fun a U => a = #[(.int p1)] ∧ Z.Warmed39 U.vm ∧ U.heap = h0) (fun _ _ _ _ _ => True) (fun _ U o U' => ∃ v L, o = .returned v ∧ QP (.ref w_GREATER_OR_EQUAL) h0 n0 v U'.heap L ∧ FrameEnd U o U' L ({ frames := 0, cells := 0, slots := 0, locals := 0 } : Room).cells ({ frames := 0, cells := 0, slots := 0, locals := 0 } : Room).slots) := by
  refine MetFree.of_bodySF (plainFor_of_name pn_1) hisR ?_
  intro p e s m args below meth c s₁ Bd hml0 hP hK
  obtain ⟨rfl, hZ, hh⟩ := hP
  have hx := Bd.exec
  have hby := Bd.bytes
  have hml : c.maxLocals = 1 := hml0
  have hown : s.vm.findClass "com/example/niyama/niyama/relational/model/OperatorIsOrderPinLaw" = some m.cls := findClass_of_methodNamed Bd.named
  have hnm := (name_of_methodNamed Bd.named Bd.method).1
  have X0 : Stand p l e ({ frames := 0, cells := 0, slots := 0, locals := 0 } : Room) s m #[(.int p1)] below meth c s₁ [] 0 0 := Stand.of_body Bd
  have e0 : s₁.heap = h0 := by rw [← hh, Bd.state]; rfl
  have N0 := Fr.nil n0
  have pre0 : ∀ t, Steps p.tables e below (s₁.setTop (mkF m 0 #[.val (.int p1)] [])) t → Steps p.tables e below (s₁.setTop (entryFrame m #[(.int p1)] 1)) t := fun t k => castTop (ef_1 m p1) k
  obtain ⟨T2, X2, e2, st2⟩ := getS2 X0 hx hZ hown (host := "") (Or.inl (hw _ (List.mem_of_getElem? (i := 68) rfl))) Via.refl e0 S_GREATER_OR_EQUAL (g := (mkF m 40 #[.val (.int p1)] [])) rfl (hb hby d1_40)
  obtain ⟨fs, hr, hrun, hended, hW, hsame⟩ := X2.leave (v := some (.ref w_GREATER_OR_EQUAL)) (fun h => by rw [Bd.returns] at h; cases h)
  refine ⟨_, _, pre0 _ ?_, hrun, hended, _, _, rfl, ?_, ⟨_, rfl⟩, hW, hsame.mono (by decide) (by decide)⟩
  · show Steps p.tables e below (s₁.setTop (mkF m 0 #[.val (.int p1)] [])) _
    refine XS.iloadN X0.here hx rfl (hb hby d1_0) rfl ?_
    show Steps p.tables e below (s₁.setTop (mkF m 1 #[.val (.int p1)] [(.int p1)])) _
    refine XS.ifYes X0.here hx rfl (pc0 := 1) (pc' := 8) rfl (hb hby d1_1) rfl ((if0 _ _).trans (feq hc1).2) (by decide) (by decide) ?_
    show Steps p.tables e below (s₁.setTop (mkF m 8 #[.val (.int p1)] [])) _
    refine XS.iloadN X0.here hx rfl (hb hby d1_8) rfl ?_
    show Steps p.tables e below (s₁.setTop (mkF m 9 #[.val (.int p1)] [(.int p1)])) _
    refine XS.iconst X0.here hx rfl (hb hby d1_9) ?_
    show Steps p.tables e below (s₁.setTop (mkF m 10 #[.val (.int p1)] [(.int (1 : Int32)), (.int p1)])) _
    refine XS.icmpYes X0.here hx rfl (pc0 := 10) (pc' := 17) rfl (hb hby d1_10) rfl (feq hc10).2 (by decide) (by decide) ?_
    show Steps p.tables e below (s₁.setTop (mkF m 17 #[.val (.int p1)] [])) _
    refine XS.iloadN X0.here hx rfl (hb hby d1_17) rfl ?_
    show Steps p.tables e below (s₁.setTop (mkF m 18 #[.val (.int p1)] [(.int p1)])) _
    refine XS.iconst X0.here hx rfl (hb hby d1_18) ?_
    show Steps p.tables e below (s₁.setTop (mkF m 19 #[.val (.int p1)] [(.int (2 : Int32)), (.int p1)])) _
    refine XS.icmpYes X0.here hx rfl (pc0 := 19) (pc' := 26) rfl (hb hby d1_19) rfl (feq hc19).2 (by decide) (by decide) ?_
    show Steps p.tables e below (s₁.setTop (mkF m 26 #[.val (.int p1)] [])) _
    refine XS.iloadN X0.here hx rfl (hb hby d1_26) rfl ?_
    show Steps p.tables e below (s₁.setTop (mkF m 27 #[.val (.int p1)] [(.int p1)])) _
    refine XS.iconst X0.here hx rfl (hb hby d1_27) ?_
    show Steps p.tables e below (s₁.setTop (mkF m 28 #[.val (.int p1)] [(.int (3 : Int32)), (.int p1)])) _
    refine XS.icmpYes X0.here hx rfl (pc0 := 28) (pc' := 35) rfl (hb hby d1_28) rfl (feq hc28).2 (by decide) (by decide) ?_
    show Steps p.tables e below (s₁.setTop (mkF m 35 #[.val (.int p1)] [])) _
    refine XS.iloadN X0.here hx rfl (hb hby d1_35) rfl ?_
    show Steps p.tables e below (s₁.setTop (mkF m 36 #[.val (.int p1)] [(.int p1)])) _
    refine XS.iconst X0.here hx rfl (hb hby d1_36) ?_
    show Steps p.tables e below (s₁.setTop (mkF m 37 #[.val (.int p1)] [(.int (4 : Int32)), (.int p1)])) _
    refine XS.icmpNo X0.here hx rfl (hb hby d1_37) rfl (teq hc37).2 ?_
    show Steps p.tables e below (s₁.setTop (mkF m 40 #[.val (.int p1)] [])) _
    refine st2 _ ?_
    show Steps p.tables e below (T2.setTop (mkF m 43 #[.val (.int p1)] [(.ref w_GREATER_OR_EQUAL)])) _
    jvm_step X2.here [X2.here.top, hx, (hb hby d1_43), X2.method', Bd.returns, Value.isRef, FieldType.isReference]
    first | (intro acts; rw [hr _ acts rfl rfl rfl]) | rw [hr _ _ rfl rfl rfl]
    exact Steps.refl _
  · show QP (.ref w_GREATER_OR_EQUAL) h0 n0 _ T2.heap _
    rw [e2]
    exact ⟨rfl, N0, rfl⟩
set_option maxRecDepth 65536 in
set_option maxHeartbeats 40000000 in
theorem rm1_ttttt (l : Launch) (Z : State) (a0 : Array Value) (hw : ∀ d ∈ tables_1, d.before a0 Z = true) (ws : List Jvm.Cond) (p1 : Int32) (w_GREATER : Addr) (h0 : Heap) (n0 : Nat) (Z0 : n0 ≤ h0.size) (S_GREATER : Sta Z h0 "com/example/niyama/niyama/relational/model/ScalarComparison$Operator" "GREATER" "Lcom/example/niyama/niyama/relational/model/ScalarComparison$Operator;" (.ref w_GREATER)) (hc1 : ¬ (p1 = (0 : Int32))) (hc10 : ¬ (p1 = (1 : Int32))) (hc19 : ¬ (p1 = (2 : Int32))) (hc28 : ¬ (p1 = (3 : Int32))) (hc37 : ¬ (p1 = (4 : Int32))) :
    MetFree l (⟨"com/example/niyama/niyama/relational/model/OperatorIsOrderPinLaw", "pick", "(I)Lcom/example/niyama/niyama/relational/model/ScalarComparison$Operator;"⟩ : MethodName) (head1 (Jvm.Cond.code (⟨"com/example/niyama/niyama/relational/model/OperatorIsOrderPinLaw", "pick", "(I)Lcom/example/niyama/niyama/relational/model/ScalarComparison$Operator;"⟩ : MethodName) method_3_code 1 (some (.object "com/example/niyama/niyama/relational/model/ScalarComparison$Operator")) :: ws) ({ frames := 0, cells := 0, slots := 0, locals := 0 } : Room)) (fun a U => a = #[(.int p1)] ∧ Z.Warmed39 U.vm ∧ U.heap = h0) (fun _ _ _ _ _ => True) (fun _ U o U' => ∃ v L, o = .returned v ∧ QP (.ref w_GREATER) h0 n0 v U'.heap L ∧ FrameEnd U o U' L ({ frames := 0, cells := 0, slots := 0, locals := 0 } : Room).cells ({ frames := 0, cells := 0, slots := 0, locals := 0 } : Room).slots) := by
  refine MetFree.of_bodySF (plainFor_of_name pn_1) hisR ?_
  intro p e s m args below meth c s₁ Bd hml0 hP hK
  obtain ⟨rfl, hZ, hh⟩ := hP
  have hx := Bd.exec
  have hby := Bd.bytes
  have hml : c.maxLocals = 1 := hml0
  have hown : s.vm.findClass "com/example/niyama/niyama/relational/model/OperatorIsOrderPinLaw" = some m.cls := findClass_of_methodNamed Bd.named
  have hnm := (name_of_methodNamed Bd.named Bd.method).1
  have X0 : Stand p l e ({ frames := 0, cells := 0, slots := 0, locals := 0 } : Room) s m #[(.int p1)] below meth c s₁ [] 0 0 := Stand.of_body Bd
  have e0 : s₁.heap = h0 := by rw [← hh, Bd.state]; rfl
  have N0 := Fr.nil n0
  have pre0 : ∀ t, Steps p.tables e below (s₁.setTop (mkF m 0 #[.val (.int p1)] [])) t → Steps p.tables e below (s₁.setTop (entryFrame m #[(.int p1)] 1)) t := fun t k => castTop (ef_1 m p1) k
  obtain ⟨T2, X2, e2, st2⟩ := getS2 X0 hx hZ hown (host := "") (Or.inl (hw _ (List.mem_of_getElem? (i := 66) rfl))) Via.refl e0 S_GREATER (g := (mkF m 44 #[.val (.int p1)] [])) rfl (hb hby d1_44)
  obtain ⟨fs, hr, hrun, hended, hW, hsame⟩ := X2.leave (v := some (.ref w_GREATER)) (fun h => by rw [Bd.returns] at h; cases h)
  refine ⟨_, _, pre0 _ ?_, hrun, hended, _, _, rfl, ?_, ⟨_, rfl⟩, hW, hsame.mono (by decide) (by decide)⟩
  · show Steps p.tables e below (s₁.setTop (mkF m 0 #[.val (.int p1)] [])) _
    refine XS.iloadN X0.here hx rfl (hb hby d1_0) rfl ?_
    show Steps p.tables e below (s₁.setTop (mkF m 1 #[.val (.int p1)] [(.int p1)])) _
    refine XS.ifYes X0.here hx rfl (pc0 := 1) (pc' := 8) rfl (hb hby d1_1) rfl ((if0 _ _).trans (feq hc1).2) (by decide) (by decide) ?_
    show Steps p.tables e below (s₁.setTop (mkF m 8 #[.val (.int p1)] [])) _
    refine XS.iloadN X0.here hx rfl (hb hby d1_8) rfl ?_
    show Steps p.tables e below (s₁.setTop (mkF m 9 #[.val (.int p1)] [(.int p1)])) _
    refine XS.iconst X0.here hx rfl (hb hby d1_9) ?_
    show Steps p.tables e below (s₁.setTop (mkF m 10 #[.val (.int p1)] [(.int (1 : Int32)), (.int p1)])) _
    refine XS.icmpYes X0.here hx rfl (pc0 := 10) (pc' := 17) rfl (hb hby d1_10) rfl (feq hc10).2 (by decide) (by decide) ?_
    show Steps p.tables e below (s₁.setTop (mkF m 17 #[.val (.int p1)] [])) _
    refine XS.iloadN X0.here hx rfl (hb hby d1_17) rfl ?_
    show Steps p.tables e below (s₁.setTop (mkF m 18 #[.val (.int p1)] [(.int p1)])) _
    refine XS.iconst X0.here hx rfl (hb hby d1_18) ?_
    show Steps p.tables e below (s₁.setTop (mkF m 19 #[.val (.int p1)] [(.int (2 : Int32)), (.int p1)])) _
    refine XS.icmpYes X0.here hx rfl (pc0 := 19) (pc' := 26) rfl (hb hby d1_19) rfl (feq hc19).2 (by decide) (by decide) ?_
    show Steps p.tables e below (s₁.setTop (mkF m 26 #[.val (.int p1)] [])) _
    refine XS.iloadN X0.here hx rfl (hb hby d1_26) rfl ?_
    show Steps p.tables e below (s₁.setTop (mkF m 27 #[.val (.int p1)] [(.int p1)])) _
    refine XS.iconst X0.here hx rfl (hb hby d1_27) ?_
    show Steps p.tables e below (s₁.setTop (mkF m 28 #[.val (.int p1)] [(.int (3 : Int32)), (.int p1)])) _
    refine XS.icmpYes X0.here hx rfl (pc0 := 28) (pc' := 35) rfl (hb hby d1_28) rfl (feq hc28).2 (by decide) (by decide) ?_
    show Steps p.tables e below (s₁.setTop (mkF m 35 #[.val (.int p1)] [])) _
    refine XS.iloadN X0.here hx rfl (hb hby d1_35) rfl ?_
    show Steps p.tables e below (s₁.setTop (mkF m 36 #[.val (.int p1)] [(.int p1)])) _
    refine XS.iconst X0.here hx rfl (hb hby d1_36) ?_
    show Steps p.tables e below (s₁.setTop (mkF m 37 #[.val (.int p1)] [(.int (4 : Int32)), (.int p1)])) _
    refine XS.icmpYes X0.here hx rfl (pc0 := 37) (pc' := 44) rfl (hb hby d1_37) rfl (feq hc37).2 (by decide) (by decide) ?_
    show Steps p.tables e below (s₁.setTop (mkF m 44 #[.val (.int p1)] [])) _
    refine st2 _ ?_
    show Steps p.tables e below (T2.setTop (mkF m 47 #[.val (.int p1)] [(.ref w_GREATER)])) _
    jvm_step X2.here [X2.here.top, hx, (hb hby d1_47), X2.method', Bd.returns, Value.isRef, FieldType.isReference]
    first | (intro acts; rw [hr _ acts rfl rfl rfl]) | rw [hr _ _ rfl rfl rfl]
    exact Steps.refl _
  · show QP (.ref w_GREATER) h0 n0 _ T2.heap _
    rw [e2]
    exact ⟨rfl, N0, rfl⟩
def own_pick (p1 : Int32) (w_LESS : Addr) (w_LESS_OR_EQUAL : Addr) (w_EQUAL : Addr) (w_NOT_EQUAL : Addr) (w_GREATER_OR_EQUAL : Addr) (w_GREATER : Addr) : Addr := (if p1 = (0 : Int32) then w_LESS else (if p1 = (1 : Int32) then w_LESS_OR_EQUAL else (if p1 = (2 : Int32) then w_EQUAL else (if p1 = (3 : Int32) then w_NOT_EQUAL else (if p1 = (4 : Int32) then w_GREATER_OR_EQUAL else w_GREATER)))))
theorem rm1 (l : Launch) (Z : State) (a0 : Array Value) (hw : ∀ d ∈ tables_1, d.before a0 Z = true) (ws : List Jvm.Cond) (p1 : Int32) (w_LESS : Addr) (w_LESS_OR_EQUAL : Addr) (w_EQUAL : Addr) (w_NOT_EQUAL : Addr) (w_GREATER_OR_EQUAL : Addr) (w_GREATER : Addr) (h0 : Heap) (n0 : Nat) (Z0 : n0 ≤ h0.size) (S_LESS : Sta Z h0 "com/example/niyama/niyama/relational/model/ScalarComparison$Operator" "LESS" "Lcom/example/niyama/niyama/relational/model/ScalarComparison$Operator;" (.ref w_LESS)) (S_LESS_OR_EQUAL : Sta Z h0 "com/example/niyama/niyama/relational/model/ScalarComparison$Operator" "LESS_OR_EQUAL" "Lcom/example/niyama/niyama/relational/model/ScalarComparison$Operator;" (.ref w_LESS_OR_EQUAL)) (S_EQUAL : Sta Z h0 "com/example/niyama/niyama/relational/model/ScalarComparison$Operator" "EQUAL" "Lcom/example/niyama/niyama/relational/model/ScalarComparison$Operator;" (.ref w_EQUAL)) (S_NOT_EQUAL : Sta Z h0 "com/example/niyama/niyama/relational/model/ScalarComparison$Operator" "NOT_EQUAL" "Lcom/example/niyama/niyama/relational/model/ScalarComparison$Operator;" (.ref w_NOT_EQUAL)) (S_GREATER_OR_EQUAL : Sta Z h0 "com/example/niyama/niyama/relational/model/ScalarComparison$Operator" "GREATER_OR_EQUAL" "Lcom/example/niyama/niyama/relational/model/ScalarComparison$Operator;" (.ref w_GREATER_OR_EQUAL)) (S_GREATER : Sta Z h0 "com/example/niyama/niyama/relational/model/ScalarComparison$Operator" "GREATER" "Lcom/example/niyama/niyama/relational/model/ScalarComparison$Operator;" (.ref w_GREATER)) :
    MetFree l (⟨"com/example/niyama/niyama/relational/model/OperatorIsOrderPinLaw", "pick", "(I)Lcom/example/niyama/niyama/relational/model/ScalarComparison$Operator;"⟩ : MethodName) (head1 (Jvm.Cond.code (⟨"com/example/niyama/niyama/relational/model/OperatorIsOrderPinLaw", "pick", "(I)Lcom/example/niyama/niyama/relational/model/ScalarComparison$Operator;"⟩ : MethodName) method_3_code 1 (some (.object "com/example/niyama/niyama/relational/model/ScalarComparison$Operator")) :: ws) ({ frames := 0, cells := 0, slots := 0, locals := 0 } : Room)) (fun a U => a = #[(.int p1)] ∧ Z.Warmed39 U.vm ∧ U.heap = h0) (fun _ _ _ _ _ => True) (fun _ U o U' => ∃ v L, o = .returned v ∧ QP (.ref (own_pick p1 w_LESS w_LESS_OR_EQUAL w_EQUAL w_NOT_EQUAL w_GREATER_OR_EQUAL w_GREATER)) h0 n0 v U'.heap L ∧ FrameEnd U o U' L ({ frames := 0, cells := 0, slots := 0, locals := 0 } : Room).cells ({ frames := 0, cells := 0, slots := 0, locals := 0 } : Room).slots) := by
  by_cases hc1 : p1 = (0 : Int32)
  · skip
    rw [show own_pick p1 w_LESS w_LESS_OR_EQUAL w_EQUAL w_NOT_EQUAL w_GREATER_OR_EQUAL w_GREATER = w_LESS from by unfold own_pick; rw [if_pos hc1]]
    exact rm1_f l Z a0 hw ws p1 w_LESS h0 n0 Z0 S_LESS hc1
  · skip
    by_cases hc10 : p1 = (1 : Int32)
    · skip
      rw [show own_pick p1 w_LESS w_LESS_OR_EQUAL w_EQUAL w_NOT_EQUAL w_GREATER_OR_EQUAL w_GREATER = w_LESS_OR_EQUAL from by unfold own_pick; rw [if_neg hc1, if_pos hc10]]
      exact rm1_tf l Z a0 hw ws p1 w_LESS_OR_EQUAL h0 n0 Z0 S_LESS_OR_EQUAL hc1 hc10
    · skip
      by_cases hc19 : p1 = (2 : Int32)
      · skip
        rw [show own_pick p1 w_LESS w_LESS_OR_EQUAL w_EQUAL w_NOT_EQUAL w_GREATER_OR_EQUAL w_GREATER = w_EQUAL from by unfold own_pick; rw [if_neg hc1, if_neg hc10, if_pos hc19]]
        exact rm1_ttf l Z a0 hw ws p1 w_EQUAL h0 n0 Z0 S_EQUAL hc1 hc10 hc19
      · skip
        by_cases hc28 : p1 = (3 : Int32)
        · skip
          rw [show own_pick p1 w_LESS w_LESS_OR_EQUAL w_EQUAL w_NOT_EQUAL w_GREATER_OR_EQUAL w_GREATER = w_NOT_EQUAL from by unfold own_pick; rw [if_neg hc1, if_neg hc10, if_neg hc19, if_pos hc28]]
          exact rm1_tttf l Z a0 hw ws p1 w_NOT_EQUAL h0 n0 Z0 S_NOT_EQUAL hc1 hc10 hc19 hc28
        · skip
          by_cases hc37 : p1 = (4 : Int32)
          · skip
            rw [show own_pick p1 w_LESS w_LESS_OR_EQUAL w_EQUAL w_NOT_EQUAL w_GREATER_OR_EQUAL w_GREATER = w_GREATER_OR_EQUAL from by unfold own_pick; rw [if_neg hc1, if_neg hc10, if_neg hc19, if_neg hc28, if_pos hc37]]
            exact rm1_ttttf l Z a0 hw ws p1 w_GREATER_OR_EQUAL h0 n0 Z0 S_GREATER_OR_EQUAL hc1 hc10 hc19 hc28 hc37
          · skip
            rw [show own_pick p1 w_LESS w_LESS_OR_EQUAL w_EQUAL w_NOT_EQUAL w_GREATER_OR_EQUAL w_GREATER = w_GREATER from by unfold own_pick; rw [if_neg hc1, if_neg hc10, if_neg hc19, if_neg hc28, if_neg hc37]]
            exact rm1_ttttt l Z a0 hw ws p1 w_GREATER h0 n0 Z0 S_GREATER hc1 hc10 hc19 hc28 hc37
theorem d10_0 : decode prog_75_method_5_code 0 = .ok (.aload_n 0, 1) := by decide +kernel
theorem d10_1 : decode prog_75_method_5_code 1 = .ok (.getstatic 10, 3) := by decide +kernel
theorem d10_4 : decode prog_75_method_5_code 4 = .ok (.if_acmp .eq 14, 3) := by decide +kernel
theorem d10_18 : decode prog_75_method_5_code 18 = .ok (.iconst 0, 1) := by decide +kernel
theorem d10_19 : decode prog_75_method_5_code 19 = .ok (.ireturn, 1) := by decide +kernel
theorem pn_10 : plainName "com/example/niyama/niyama/relational/model/ScalarComparison$Operator" = true := by first | (simp [plainName, overriddenIn]; done) | decide +kernel
theorem ef_10 (m : MethodId) (x0 : Addr) : entryFrame m #[(.ref x0)] 1 = mkF m 0 #[.val (.ref x0)] [] := by first | (simp [entryFrame, mkF, argsToLocals, Value.category]; done) | rfl
theorem d10_7 : decode prog_75_method_5_code 7 = .ok (.aload_n 0, 1) := by decide +kernel
theorem d10_8 : decode prog_75_method_5_code 8 = .ok (.getstatic 13, 3) := by decide +kernel
theorem d10_11 : decode prog_75_method_5_code 11 = .ok (.if_acmp .eq 7, 3) := by decide +kernel
theorem d10_14 : decode prog_75_method_5_code 14 = .ok (.iconst 1, 1) := by decide +kernel
theorem d10_15 : decode prog_75_method_5_code 15 = .ok (.goto 4, 3) := by decide +kernel
set_option maxRecDepth 65536 in
set_option maxHeartbeats 40000000 in
theorem rm10_t (l : Launch) (Z : State) (a0 : Array Value) (hw : ∀ d ∈ tables_1, d.before a0 Z = true) (ws : List Jvm.Cond) (a1 : Addr) (w_EQUAL : Addr) (h0 : Heap) (n0 : Nat) (Z0 : n0 ≤ h0.size) (S_EQUAL : Sta Z h0 "com/example/niyama/niyama/relational/model/ScalarComparison$Operator" "EQUAL" "Lcom/example/niyama/niyama/relational/model/ScalarComparison$Operator;" (.ref w_EQUAL)) (ha4 : a1 = w_EQUAL) :
    MetFree l (⟨"com/example/niyama/niyama/relational/model/ScalarComparison$Operator", "isOrder", "()Z"⟩ : MethodName) (head1 (Jvm.Cond.code (⟨"com/example/niyama/niyama/relational/model/ScalarComparison$Operator", "isOrder", "()Z"⟩ : MethodName) prog_75_method_5_code 1 (some .boolean) :: ws) ({ frames := 0, cells := 0, slots := 0, locals := 0 } : Room)) (fun a U => a = #[(.ref a1)] ∧ Z.Warmed39 U.vm ∧ U.heap = h0) (fun _ _ _ _ _ => True) (fun _ U o U' => ∃ v L, o = .returned v ∧ QP (.int (0 : Int32)) h0 n0 v U'.heap L ∧ FrameEnd U o U' L ({ frames := 0, cells := 0, slots := 0, locals := 0 } : Room).cells ({ frames := 0, cells := 0, slots := 0, locals := 0 } : Room).slots) := by
  refine MetFree.of_bodySF (plainFor_of_name pn_10) hisR ?_
  intro p e s m args below meth c s₁ Bd hml0 hP hK
  obtain ⟨rfl, hZ, hh⟩ := hP
  have hx := Bd.exec
  have hby := Bd.bytes
  have hml : c.maxLocals = 1 := hml0
  have hown : s.vm.findClass "com/example/niyama/niyama/relational/model/ScalarComparison$Operator" = some m.cls := findClass_of_methodNamed Bd.named
  have hnm := (name_of_methodNamed Bd.named Bd.method).1
  have X0 : Stand p l e ({ frames := 0, cells := 0, slots := 0, locals := 0 } : Room) s m #[(.ref a1)] below meth c s₁ [] 0 0 := Stand.of_body Bd
  have e0 : s₁.heap = h0 := by rw [← hh, Bd.state]; rfl
  have N0 := Fr.nil n0
  have pre0 : ∀ t, Steps p.tables e below (s₁.setTop (mkF m 0 #[.val (.ref a1)] [])) t → Steps p.tables e below (s₁.setTop (entryFrame m #[(.ref a1)] 1)) t := fun t k => castTop (ef_10 m a1) k
  obtain ⟨T2, X2, e2, st2⟩ := getS2 X0 hx hZ hown (host := "") (Or.inl (hw _ (List.mem_of_getElem? (i := 58) rfl))) Via.refl e0 S_EQUAL (g := (mkF m 1 #[.val (.ref a1)] [(.ref a1)])) rfl (hb hby d10_1)
  obtain ⟨fs, hr, hrun, hended, hW, hsame⟩ := X2.leave (v := some (.int (0 : Int32))) (fun h => by rw [Bd.returns] at h; cases h)
  refine ⟨_, _, pre0 _ ?_, hrun, hended, _, _, rfl, ?_, ⟨_, rfl⟩, hW, hsame.mono (by decide) (by decide)⟩
  · show Steps p.tables e below (s₁.setTop (mkF m 0 #[.val (.ref a1)] [])) _
    refine XS.aloadN X0.here hx rfl (hb hby d10_0) rfl rfl ?_
    show Steps p.tables e below (s₁.setTop (mkF m 1 #[.val (.ref a1)] [(.ref a1)])) _
    refine st2 _ ?_
    show Steps p.tables e below (T2.setTop (mkF m 4 #[.val (.ref a1)] [(.ref w_EQUAL), (.ref a1)])) _
    refine Jvm.RoadKit.acmp (g := (mkF m 4 #[.val (.ref a1)] [(.ref w_EQUAL), (.ref a1)])) X2 hx rfl rfl rfl (pc0 := 4) (pc' := 18) (same := true) rfl (hb hby d10_4) rfl (decide_eq_true (congrArg Value.ref ha4)) (by decide) (by decide) ?_
    show Steps p.tables e below (T2.setTop (mkF m 18 #[.val (.ref a1)] [])) _
    refine XS.iconst X2.here hx rfl (hb hby d10_18) ?_
    show Steps p.tables e below (T2.setTop (mkF m 19 #[.val (.ref a1)] [(.int (0 : Int32))])) _
    exact retN X2 hx (t := .boolean) Bd.returns (by simp) (hb hby d10_19) hr
  · show QP (.int (0 : Int32)) h0 n0 _ T2.heap _
    rw [e2]
    exact ⟨rfl, N0, rfl⟩
set_option maxRecDepth 65536 in
set_option maxHeartbeats 40000000 in
theorem rm10_ft (l : Launch) (Z : State) (a0 : Array Value) (hw : ∀ d ∈ tables_1, d.before a0 Z = true) (ws : List Jvm.Cond) (a1 : Addr) (w_EQUAL : Addr) (w_NOT_EQUAL : Addr) (h0 : Heap) (n0 : Nat) (Z0 : n0 ≤ h0.size) (S_EQUAL : Sta Z h0 "com/example/niyama/niyama/relational/model/ScalarComparison$Operator" "EQUAL" "Lcom/example/niyama/niyama/relational/model/ScalarComparison$Operator;" (.ref w_EQUAL)) (S_NOT_EQUAL : Sta Z h0 "com/example/niyama/niyama/relational/model/ScalarComparison$Operator" "NOT_EQUAL" "Lcom/example/niyama/niyama/relational/model/ScalarComparison$Operator;" (.ref w_NOT_EQUAL)) (ha4 : ¬ (a1 = w_EQUAL)) (ha11 : a1 = w_NOT_EQUAL) :
    MetFree l (⟨"com/example/niyama/niyama/relational/model/ScalarComparison$Operator", "isOrder", "()Z"⟩ : MethodName) (head1 (Jvm.Cond.code (⟨"com/example/niyama/niyama/relational/model/ScalarComparison$Operator", "isOrder", "()Z"⟩ : MethodName) prog_75_method_5_code 1 (some .boolean) :: ws) ({ frames := 0, cells := 0, slots := 0, locals := 0 } : Room)) (fun a U => a = #[(.ref a1)] ∧ Z.Warmed39 U.vm ∧ U.heap = h0) (fun _ _ _ _ _ => True) (fun _ U o U' => ∃ v L, o = .returned v ∧ QP (.int (0 : Int32)) h0 n0 v U'.heap L ∧ FrameEnd U o U' L ({ frames := 0, cells := 0, slots := 0, locals := 0 } : Room).cells ({ frames := 0, cells := 0, slots := 0, locals := 0 } : Room).slots) := by
  refine MetFree.of_bodySF (plainFor_of_name pn_10) hisR ?_
  intro p e s m args below meth c s₁ Bd hml0 hP hK
  obtain ⟨rfl, hZ, hh⟩ := hP
  have hx := Bd.exec
  have hby := Bd.bytes
  have hml : c.maxLocals = 1 := hml0
  have hown : s.vm.findClass "com/example/niyama/niyama/relational/model/ScalarComparison$Operator" = some m.cls := findClass_of_methodNamed Bd.named
  have hnm := (name_of_methodNamed Bd.named Bd.method).1
  have X0 : Stand p l e ({ frames := 0, cells := 0, slots := 0, locals := 0 } : Room) s m #[(.ref a1)] below meth c s₁ [] 0 0 := Stand.of_body Bd
  have e0 : s₁.heap = h0 := by rw [← hh, Bd.state]; rfl
  have N0 := Fr.nil n0
  have pre0 : ∀ t, Steps p.tables e below (s₁.setTop (mkF m 0 #[.val (.ref a1)] [])) t → Steps p.tables e below (s₁.setTop (entryFrame m #[(.ref a1)] 1)) t := fun t k => castTop (ef_10 m a1) k
  obtain ⟨T2, X2, e2, st2⟩ := getS2 X0 hx hZ hown (host := "") (Or.inl (hw _ (List.mem_of_getElem? (i := 58) rfl))) Via.refl e0 S_EQUAL (g := (mkF m 1 #[.val (.ref a1)] [(.ref a1)])) rfl (hb hby d10_1)
  obtain ⟨T3, X3, e3, st3⟩ := getS2 X2 hx hZ hown (host := "") (Or.inl (hw _ (List.mem_of_getElem? (i := 60) rfl))) Via.refl e2 S_NOT_EQUAL (g := (mkF m 8 #[.val (.ref a1)] [(.ref a1)])) rfl (hb hby d10_8)
  obtain ⟨fs, hr, hrun, hended, hW, hsame⟩ := X3.leave (v := some (.int (0 : Int32))) (fun h => by rw [Bd.returns] at h; cases h)
  refine ⟨_, _, pre0 _ ?_, hrun, hended, _, _, rfl, ?_, ⟨_, rfl⟩, hW, hsame.mono (by decide) (by decide)⟩
  · show Steps p.tables e below (s₁.setTop (mkF m 0 #[.val (.ref a1)] [])) _
    refine XS.aloadN X0.here hx rfl (hb hby d10_0) rfl rfl ?_
    show Steps p.tables e below (s₁.setTop (mkF m 1 #[.val (.ref a1)] [(.ref a1)])) _
    refine st2 _ ?_
    show Steps p.tables e below (T2.setTop (mkF m 4 #[.val (.ref a1)] [(.ref w_EQUAL), (.ref a1)])) _
    refine Jvm.RoadKit.acmp (g := (mkF m 4 #[.val (.ref a1)] [(.ref w_EQUAL), (.ref a1)])) X2 hx rfl rfl rfl (pc0 := 4) (pc' := 7) (same := false) rfl (hb hby d10_4) rfl (decide_eq_false fun q => ha4 (Value.ref.inj q)) (by decide) (by decide) ?_
    show Steps p.tables e below (T2.setTop (mkF m 7 #[.val (.ref a1)] [])) _
    refine XS.aloadN X2.here hx rfl (hb hby d10_7) rfl rfl ?_
    show Steps p.tables e below (T2.setTop (mkF m 8 #[.val (.ref a1)] [(.ref a1)])) _
    refine st3 _ ?_
    show Steps p.tables e below (T3.setTop (mkF m 11 #[.val (.ref a1)] [(.ref w_NOT_EQUAL), (.ref a1)])) _
    refine Jvm.RoadKit.acmp (g := (mkF m 11 #[.val (.ref a1)] [(.ref w_NOT_EQUAL), (.ref a1)])) X3 hx rfl rfl rfl (pc0 := 11) (pc' := 18) (same := true) rfl (hb hby d10_11) rfl (decide_eq_true (congrArg Value.ref ha11)) (by decide) (by decide) ?_
    show Steps p.tables e below (T3.setTop (mkF m 18 #[.val (.ref a1)] [])) _
    refine XS.iconst X3.here hx rfl (hb hby d10_18) ?_
    show Steps p.tables e below (T3.setTop (mkF m 19 #[.val (.ref a1)] [(.int (0 : Int32))])) _
    exact retN X3 hx (t := .boolean) Bd.returns (by simp) (hb hby d10_19) hr
  · show QP (.int (0 : Int32)) h0 n0 _ T3.heap _
    rw [e3]
    exact ⟨rfl, N0, rfl⟩
set_option maxRecDepth 65536 in
set_option maxHeartbeats 40000000 in
theorem rm10_ff (l : Launch) (Z : State) (a0 : Array Value) (hw : ∀ d ∈ tables_1, d.before a0 Z = true) (ws : List Jvm.Cond) (a1 : Addr) (w_EQUAL : Addr) (w_NOT_EQUAL : Addr) (h0 : Heap) (n0 : Nat) (Z0 : n0 ≤ h0.size) (S_EQUAL : Sta Z h0 "com/example/niyama/niyama/relational/model/ScalarComparison$Operator" "EQUAL" "Lcom/example/niyama/niyama/relational/model/ScalarComparison$Operator;" (.ref w_EQUAL)) (S_NOT_EQUAL : Sta Z h0 "com/example/niyama/niyama/relational/model/ScalarComparison$Operator" "NOT_EQUAL" "Lcom/example/niyama/niyama/relational/model/ScalarComparison$Operator;" (.ref w_NOT_EQUAL)) (ha4 : ¬ (a1 = w_EQUAL)) (ha11 : ¬ (a1 = w_NOT_EQUAL)) :
    MetFree l (⟨"com/example/niyama/niyama/relational/model/ScalarComparison$Operator", "isOrder", "()Z"⟩ : MethodName) (head1 (Jvm.Cond.code (⟨"com/example/niyama/niyama/relational/model/ScalarComparison$Operator", "isOrder", "()Z"⟩ : MethodName) prog_75_method_5_code 1 (some .boolean) :: ws) ({ frames := 0, cells := 0, slots := 0, locals := 0 } : Room)) (fun a U => a = #[(.ref a1)] ∧ Z.Warmed39 U.vm ∧ U.heap = h0) (fun _ _ _ _ _ => True) (fun _ U o U' => ∃ v L, o = .returned v ∧ QP (.int (1 : Int32)) h0 n0 v U'.heap L ∧ FrameEnd U o U' L ({ frames := 0, cells := 0, slots := 0, locals := 0 } : Room).cells ({ frames := 0, cells := 0, slots := 0, locals := 0 } : Room).slots) := by
  refine MetFree.of_bodySF (plainFor_of_name pn_10) hisR ?_
  intro p e s m args below meth c s₁ Bd hml0 hP hK
  obtain ⟨rfl, hZ, hh⟩ := hP
  have hx := Bd.exec
  have hby := Bd.bytes
  have hml : c.maxLocals = 1 := hml0
  have hown : s.vm.findClass "com/example/niyama/niyama/relational/model/ScalarComparison$Operator" = some m.cls := findClass_of_methodNamed Bd.named
  have hnm := (name_of_methodNamed Bd.named Bd.method).1
  have X0 : Stand p l e ({ frames := 0, cells := 0, slots := 0, locals := 0 } : Room) s m #[(.ref a1)] below meth c s₁ [] 0 0 := Stand.of_body Bd
  have e0 : s₁.heap = h0 := by rw [← hh, Bd.state]; rfl
  have N0 := Fr.nil n0
  have pre0 : ∀ t, Steps p.tables e below (s₁.setTop (mkF m 0 #[.val (.ref a1)] [])) t → Steps p.tables e below (s₁.setTop (entryFrame m #[(.ref a1)] 1)) t := fun t k => castTop (ef_10 m a1) k
  obtain ⟨T2, X2, e2, st2⟩ := getS2 X0 hx hZ hown (host := "") (Or.inl (hw _ (List.mem_of_getElem? (i := 58) rfl))) Via.refl e0 S_EQUAL (g := (mkF m 1 #[.val (.ref a1)] [(.ref a1)])) rfl (hb hby d10_1)
  obtain ⟨T3, X3, e3, st3⟩ := getS2 X2 hx hZ hown (host := "") (Or.inl (hw _ (List.mem_of_getElem? (i := 60) rfl))) Via.refl e2 S_NOT_EQUAL (g := (mkF m 8 #[.val (.ref a1)] [(.ref a1)])) rfl (hb hby d10_8)
  obtain ⟨fs, hr, hrun, hended, hW, hsame⟩ := X3.leave (v := some (.int (1 : Int32))) (fun h => by rw [Bd.returns] at h; cases h)
  refine ⟨_, _, pre0 _ ?_, hrun, hended, _, _, rfl, ?_, ⟨_, rfl⟩, hW, hsame.mono (by decide) (by decide)⟩
  · show Steps p.tables e below (s₁.setTop (mkF m 0 #[.val (.ref a1)] [])) _
    refine XS.aloadN X0.here hx rfl (hb hby d10_0) rfl rfl ?_
    show Steps p.tables e below (s₁.setTop (mkF m 1 #[.val (.ref a1)] [(.ref a1)])) _
    refine st2 _ ?_
    show Steps p.tables e below (T2.setTop (mkF m 4 #[.val (.ref a1)] [(.ref w_EQUAL), (.ref a1)])) _
    refine Jvm.RoadKit.acmp (g := (mkF m 4 #[.val (.ref a1)] [(.ref w_EQUAL), (.ref a1)])) X2 hx rfl rfl rfl (pc0 := 4) (pc' := 7) (same := false) rfl (hb hby d10_4) rfl (decide_eq_false fun q => ha4 (Value.ref.inj q)) (by decide) (by decide) ?_
    show Steps p.tables e below (T2.setTop (mkF m 7 #[.val (.ref a1)] [])) _
    refine XS.aloadN X2.here hx rfl (hb hby d10_7) rfl rfl ?_
    show Steps p.tables e below (T2.setTop (mkF m 8 #[.val (.ref a1)] [(.ref a1)])) _
    refine st3 _ ?_
    show Steps p.tables e below (T3.setTop (mkF m 11 #[.val (.ref a1)] [(.ref w_NOT_EQUAL), (.ref a1)])) _
    refine Jvm.RoadKit.acmp (g := (mkF m 11 #[.val (.ref a1)] [(.ref w_NOT_EQUAL), (.ref a1)])) X3 hx rfl rfl rfl (pc0 := 11) (pc' := 14) (same := false) rfl (hb hby d10_11) rfl (decide_eq_false fun q => ha11 (Value.ref.inj q)) (by decide) (by decide) ?_
    show Steps p.tables e below (T3.setTop (mkF m 14 #[.val (.ref a1)] [])) _
    refine XS.iconst X3.here hx rfl (hb hby d10_14) ?_
    show Steps p.tables e below (T3.setTop (mkF m 15 #[.val (.ref a1)] [(.int (1 : Int32))])) _
    refine XS.goto X3.here hx rfl (pc0 := 15) (pc' := 19) rfl (hb hby d10_15) (by decide) (by decide) ?_
    show Steps p.tables e below (T3.setTop (mkF m 19 #[.val (.ref a1)] [(.int (1 : Int32))])) _
    exact retN X3 hx (t := .boolean) Bd.returns (by simp) (hb hby d10_19) hr
  · show QP (.int (1 : Int32)) h0 n0 _ T3.heap _
    rw [e3]
    exact ⟨rfl, N0, rfl⟩
def own_ord (a1 : Addr) (w_EQUAL : Addr) (w_NOT_EQUAL : Addr) : Int32 := (if a1 = w_EQUAL then (0 : Int32) else (if a1 = w_NOT_EQUAL then (0 : Int32) else (1 : Int32)))
theorem rm10 (l : Launch) (Z : State) (a0 : Array Value) (hw : ∀ d ∈ tables_1, d.before a0 Z = true) (ws : List Jvm.Cond) (a1 : Addr) (w_EQUAL : Addr) (w_NOT_EQUAL : Addr) (h0 : Heap) (n0 : Nat) (Z0 : n0 ≤ h0.size) (S_EQUAL : Sta Z h0 "com/example/niyama/niyama/relational/model/ScalarComparison$Operator" "EQUAL" "Lcom/example/niyama/niyama/relational/model/ScalarComparison$Operator;" (.ref w_EQUAL)) (S_NOT_EQUAL : Sta Z h0 "com/example/niyama/niyama/relational/model/ScalarComparison$Operator" "NOT_EQUAL" "Lcom/example/niyama/niyama/relational/model/ScalarComparison$Operator;" (.ref w_NOT_EQUAL)) :
    MetFree l (⟨"com/example/niyama/niyama/relational/model/ScalarComparison$Operator", "isOrder", "()Z"⟩ : MethodName) (head1 (Jvm.Cond.code (⟨"com/example/niyama/niyama/relational/model/ScalarComparison$Operator", "isOrder", "()Z"⟩ : MethodName) prog_75_method_5_code 1 (some .boolean) :: ws) ({ frames := 0, cells := 0, slots := 0, locals := 0 } : Room)) (fun a U => a = #[(.ref a1)] ∧ Z.Warmed39 U.vm ∧ U.heap = h0) (fun _ _ _ _ _ => True) (fun _ U o U' => ∃ v L, o = .returned v ∧ QP (.int (own_ord a1 w_EQUAL w_NOT_EQUAL)) h0 n0 v U'.heap L ∧ FrameEnd U o U' L ({ frames := 0, cells := 0, slots := 0, locals := 0 } : Room).cells ({ frames := 0, cells := 0, slots := 0, locals := 0 } : Room).slots) := by
  by_cases ha4 : a1 = w_EQUAL
  · skip
    rw [show own_ord a1 w_EQUAL w_NOT_EQUAL = (0 : Int32) from by unfold own_ord; rw [if_pos ha4]]
    exact rm10_t l Z a0 hw ws a1 w_EQUAL h0 n0 Z0 S_EQUAL ha4
  · skip
    by_cases ha11 : a1 = w_NOT_EQUAL
    · skip
      rw [show own_ord a1 w_EQUAL w_NOT_EQUAL = (0 : Int32) from by unfold own_ord; rw [if_neg ha4, if_pos ha11]]
      exact rm10_ft l Z a0 hw ws a1 w_EQUAL w_NOT_EQUAL h0 n0 Z0 S_EQUAL S_NOT_EQUAL ha4 ha11
    · skip
      rw [show own_ord a1 w_EQUAL w_NOT_EQUAL = (1 : Int32) from by unfold own_ord; rw [if_neg ha4, if_neg ha11]]
      exact rm10_ff l Z a0 hw ws a1 w_EQUAL w_NOT_EQUAL h0 n0 Z0 S_EQUAL S_NOT_EQUAL ha4 ha11
theorem rm1v (l : Launch) (Z : State) (a0 : Array Value) (hw : ∀ d ∈ tables_1, d.before a0 Z = true) (ws : List Jvm.Cond) (p1 : Int32) (w_LESS : Addr) (w_LESS_OR_EQUAL : Addr) (w_EQUAL : Addr) (w_NOT_EQUAL : Addr) (w_GREATER_OR_EQUAL : Addr) (w_GREATER : Addr) (w_r : Addr) (h0 : Heap) (n0 : Nat) (Z0 : n0 ≤ h0.size) (S_LESS : Sta Z h0 "com/example/niyama/niyama/relational/model/ScalarComparison$Operator" "LESS" "Lcom/example/niyama/niyama/relational/model/ScalarComparison$Operator;" (.ref w_LESS)) (S_LESS_OR_EQUAL : Sta Z h0 "com/example/niyama/niyama/relational/model/ScalarComparison$Operator" "LESS_OR_EQUAL" "Lcom/example/niyama/niyama/relational/model/ScalarComparison$Operator;" (.ref w_LESS_OR_EQUAL)) (S_EQUAL : Sta Z h0 "com/example/niyama/niyama/relational/model/ScalarComparison$Operator" "EQUAL" "Lcom/example/niyama/niyama/relational/model/ScalarComparison$Operator;" (.ref w_EQUAL)) (S_NOT_EQUAL : Sta Z h0 "com/example/niyama/niyama/relational/model/ScalarComparison$Operator" "NOT_EQUAL" "Lcom/example/niyama/niyama/relational/model/ScalarComparison$Operator;" (.ref w_NOT_EQUAL)) (S_GREATER_OR_EQUAL : Sta Z h0 "com/example/niyama/niyama/relational/model/ScalarComparison$Operator" "GREATER_OR_EQUAL" "Lcom/example/niyama/niyama/relational/model/ScalarComparison$Operator;" (.ref w_GREATER_OR_EQUAL)) (S_GREATER : Sta Z h0 "com/example/niyama/niyama/relational/model/ScalarComparison$Operator" "GREATER" "Lcom/example/niyama/niyama/relational/model/ScalarComparison$Operator;" (.ref w_GREATER)) (hrx : own_pick p1 w_LESS w_LESS_OR_EQUAL w_EQUAL w_NOT_EQUAL w_GREATER_OR_EQUAL w_GREATER = w_r) :
    MetFree l (⟨"com/example/niyama/niyama/relational/model/OperatorIsOrderPinLaw", "pick", "(I)Lcom/example/niyama/niyama/relational/model/ScalarComparison$Operator;"⟩ : MethodName) (head1 (Jvm.Cond.code (⟨"com/example/niyama/niyama/relational/model/OperatorIsOrderPinLaw", "pick", "(I)Lcom/example/niyama/niyama/relational/model/ScalarComparison$Operator;"⟩ : MethodName) method_3_code 1 (some (.object "com/example/niyama/niyama/relational/model/ScalarComparison$Operator")) :: ws) ({ frames := 0, cells := 0, slots := 0, locals := 0 } : Room)) (fun a U => a = #[(.int p1)] ∧ Z.Warmed39 U.vm ∧ U.heap = h0) (fun _ _ _ _ _ => True) (fun _ U o U' => ∃ v L, o = .returned v ∧ QP (.ref w_r) h0 n0 v U'.heap L ∧ FrameEnd U o U' L ({ frames := 0, cells := 0, slots := 0, locals := 0 } : Room).cells ({ frames := 0, cells := 0, slots := 0, locals := 0 } : Room).slots) := by
  have h := rm1 l Z a0 hw ws p1 w_LESS w_LESS_OR_EQUAL w_EQUAL w_NOT_EQUAL w_GREATER_OR_EQUAL w_GREATER h0 n0 Z0 S_LESS S_LESS_OR_EQUAL S_EQUAL S_NOT_EQUAL S_GREATER_OR_EQUAL S_GREATER
  rw [hrx] at h; exact h
theorem pn_0 : plainName "com/example/niyama/niyama/relational/model/OperatorIsOrderPinLaw" = true := by first | (simp [plainName, overriddenIn]; done) | decide +kernel
theorem pd_0_0 : parseMethodDescriptor "(I)Lcom/example/niyama/niyama/relational/model/ScalarComparison$Operator;" = some ⟨[.int], some (.object "com/example/niyama/niyama/relational/model/ScalarComparison$Operator")⟩ := by decide +kernel
theorem pd_0_1 : parseMethodDescriptor "()Ljava/lang/String;" = some ⟨[], some (.object "java/lang/String")⟩ := by decide +kernel
theorem pd_0_2 : parseMethodDescriptor "()I" = some ⟨[], some .int⟩ := by decide +kernel
theorem pd_0_4 : parseMethodDescriptor "(I)C" = some ⟨[.int], some .char⟩ := by decide +kernel
theorem pd_0_5 : parseMethodDescriptor "()Z" = some ⟨[], some .boolean⟩ := by decide +kernel
theorem ef_0 (m : MethodId) (x0 : Int32) : entryFrame m #[(.int x0)] maxLocals = mkF m 0 #[.val (.int x0), .unset, .unset, .unset, .unset, .unset, .unset] [] := by first | (simp [entryFrame, mkF, argsToLocals, Value.category, maxLocals]; done) | rfl
set_option maxRecDepth 65536 in
set_option maxHeartbeats 40000000 in
theorem rm0_ffftff (l : Launch) (Z : State) (a0 : Array Value) (hw : ∀ d ∈ tables_1, d.before a0 Z = true) (ws : List Jvm.Cond) (p1 : Int32) (w_LESS : Addr) (w_LESS_OR_EQUAL : Addr) (w_EQUAL : Addr) (w_NOT_EQUAL : Addr) (w_GREATER_OR_EQUAL : Addr) (w_GREATER : Addr) (w_r : Addr) (vs : Addr) (vb : Addr) (cl : Cell) (z : Int32) (wb : Int32) (wf : Value) (r7 : Int32) (r : Int32) (w_COMPACT_STRINGS : Int32) (h0 : Heap) (n0 : Nat) (Z0 : n0 ≤ h0.size) (E_w_r : Exa Z h0 w_r "com/example/niyama/niyama/relational/model/ScalarComparison$Operator") (E_vs : Exa Z h0 vs "java/lang/String") (S_LESS : Sta Z h0 "com/example/niyama/niyama/relational/model/ScalarComparison$Operator" "LESS" "Lcom/example/niyama/niyama/relational/model/ScalarComparison$Operator;" (.ref w_LESS)) (S_LESS_OR_EQUAL : Sta Z h0 "com/example/niyama/niyama/relational/model/ScalarComparison$Operator" "LESS_OR_EQUAL" "Lcom/example/niyama/niyama/relational/model/ScalarComparison$Operator;" (.ref w_LESS_OR_EQUAL)) (S_EQUAL : Sta Z h0 "com/example/niyama/niyama/relational/model/ScalarComparison$Operator" "EQUAL" "Lcom/example/niyama/niyama/relational/model/ScalarComparison$Operator;" (.ref w_EQUAL)) (S_NOT_EQUAL : Sta Z h0 "com/example/niyama/niyama/relational/model/ScalarComparison$Operator" "NOT_EQUAL" "Lcom/example/niyama/niyama/relational/model/ScalarComparison$Operator;" (.ref w_NOT_EQUAL)) (S_GREATER_OR_EQUAL : Sta Z h0 "com/example/niyama/niyama/relational/model/ScalarComparison$Operator" "GREATER_OR_EQUAL" "Lcom/example/niyama/niyama/relational/model/ScalarComparison$Operator;" (.ref w_GREATER_OR_EQUAL)) (S_GREATER : Sta Z h0 "com/example/niyama/niyama/relational/model/ScalarComparison$Operator" "GREATER" "Lcom/example/niyama/niyama/relational/model/ScalarComparison$Operator;" (.ref w_GREATER)) (hrx : own_pick ((p1 &&& (2147483647 : Int32)) % (6 : Int32)) w_LESS w_LESS_OR_EQUAL w_EQUAL w_NOT_EQUAL w_GREATER_OR_EQUAL w_GREATER = w_r) (F_symbol : Fld Z h0 w_r "com/example/niyama/niyama/relational/model/ScalarComparison$Operator" "symbol" "Ljava/lang/String;" (.ref vs)) (F_value : Fld Z h0 vs "java/lang/String" "value" "[B" (.ref vb)) (F_coder : Fld Z h0 vs "java/lang/String" "coder" "B" (.int (0 : Int32))) (S_COMPACT_STRINGS : Sta Z h0 "java/lang/String" "COMPACT_STRINGS" "Z" (.int w_COMPACT_STRINGS)) (hcs : ¬ (w_COMPACT_STRINGS = (0 : Int32))) (Ar : Arr Z h0 vb cl .byte) (hS : cl.slots.size = z.toNatClampNeg) (hN : ¬ z < 0) (hin : ¬ ((0 : Int32) < 0 ∨ cl.slots.size ≤ ((0 : Int32)).toNatClampNeg)) (hat : cl.slots[((0 : Int32)).toNatClampNeg]? = some (.int wb)) (S_SIOOBE : Sta Z h0 "jdk/internal/util/Preconditions" "SIOOBE_FORMATTER" "Ljava/util/function/BiFunction;" wf) (hwf : wf.isRef = true) (hlo : ¬ ((0 : Int32) < (0 : Int32))) (hhi : (0 : Int32) < z) (hr7 : nar .char ((wb &&& (255 : Int32)).toUInt32.toUInt16.toUInt32.toInt32) = r7) (hr5 : nar .char r7 = r) (hc15 : ¬ (((p1 &&& (2147483647 : Int32)) % (6 : Int32)) = (2 : Int32))) (hc20 : ¬ (((p1 &&& (2147483647 : Int32)) % (6 : Int32)) = (3 : Int32))) (hc40 : (0 : Int32) < (z >>> ((0 : Int32) &&& 31))) (hc51 : r = (60 : Int32)) (hc81 : (own_ord w_r w_EQUAL w_NOT_EQUAL) = (1 : Int32)) (hc88 : (own_ord w_r w_EQUAL w_NOT_EQUAL) = (1 : Int32)) :
    MetFree l x (head1 (Jvm.Cond.code x code maxLocals ret :: ws) room_1) (fun a U => a = #[(.int p1)] ∧ Z.Warmed39 U.vm ∧ U.heap = h0) (fun _ _ _ _ _ => True) (fun _ U o U' => ∃ v L, o = .returned v ∧ QP (.int (1 : Int32)) h0 n0 v U'.heap L ∧ FrameEnd U o U' L room_1.cells room_1.slots) := by
  refine MetFree.of_bodySF (plainFor_of_name pn_0) hisR ?_
  intro p e s m args below meth c s₁ Bd hml0 hP hK
  obtain ⟨rfl, hZ, hh⟩ := hP
  have hx := Bd.exec
  have hby := Bd.bytes
  have hml : c.maxLocals = 7 := hml0
  have hown : s.vm.findClass "com/example/niyama/niyama/relational/model/OperatorIsOrderPinLaw" = some m.cls := findClass_of_methodNamed Bd.named
  have hnm := (name_of_methodNamed Bd.named Bd.method).1
  have X0 : Stand p l e room_1 s m #[(.int p1)] below meth c s₁ [] 0 0 := Stand.of_body Bd
  have e0 : s₁.heap = h0 := by rw [← hh, Bd.state]; rfl
  have N0 := Fr.nil n0
  have pre0 : ∀ t, Steps p.tables e below (s₁.setTop (mkF m 0 #[.val (.int p1), .unset, .unset, .unset, .unset, .unset, .unset] [])) t → Steps p.tables e below (s₁.setTop (entryFrame m #[(.int p1)] maxLocals)) t := fun t k => castTop (ef_0 m p1) k
  obtain ⟨_, _, ⟨T2, L2, k2, n2⟩, -, X2, ⟨Lc2, hQ2, l2, y2, z2⟩, st2⟩ := Jvm.LawKit.callS X0 hx (y := (⟨"com/example/niyama/niyama/relational/model/OperatorIsOrderPinLaw", "pick", "(I)Lcom/example/niyama/niyama/relational/model/ScalarComparison$Operator;"⟩ : MethodName)) hown (mvT hZ (hw _ (List.mem_of_getElem? (i := 1) rfl))) (mvT hZ (hw _ (List.mem_of_getElem? (i := 2) rfl))) (mvT hZ (hw _ (List.mem_of_getElem? (i := 3) rfl))) (mvT hZ (hw _ (List.mem_of_getElem? (i := 4) rfl))) (by decide) (backOf (W := 0) (rm1v l Z a0 hw [] ((p1 &&& (2147483647 : Int32)) % (6 : Int32)) w_LESS w_LESS_OR_EQUAL w_EQUAL w_NOT_EQUAL w_GREATER_OR_EQUAL w_GREATER w_r h0 n0 Z0 S_LESS S_LESS_OR_EQUAL S_EQUAL S_NOT_EQUAL S_GREATER_OR_EQUAL S_GREATER hrx) hZ (hw _ (List.mem_of_getElem? (i := 4) rfl)) (hw _ (List.mem_of_getElem? (i := 3) rfl)) (by decide) (by decide)) (g := (mkF m 9 #[.val (.int p1), .val (.int ((p1 &&& (2147483647 : Int32)) % (6 : Int32))), .unset, .unset, .unset, .unset, .unset] [(.int ((p1 &&& (2147483647 : Int32)) % (6 : Int32)))])) rfl (by rw [hml]; rfl) (argsL := [(.int ((p1 &&& (2147483647 : Int32)) % (6 : Int32)))]) (rest := []) (lenOf pd_0_0 rfl) rfl (by show 2 * 0 + _ ≤ _; exact Nat.le_of_eq rfl) (hb hby at_9) (fun _ _ => ⟨rfl, e0, (by decide : 0 + 0 ≤ _), (by decide : 0 + 0 ≤ _)⟩)
  dsimp only [Pt.U, Pt.locs, Pt.cells, Pt.slots] at X2 l2 y2 z2 st2 hQ2
  subst l2 y2 z2
  obtain ⟨rfl, N2q, e2⟩ := hQ2
  have N2 := Fr.app N0 N2q
  obtain ⟨cq3, kq3, q3a, q3b, q3c⟩ := isOf hZ e2 E_w_r
  obtain ⟨_, _, ⟨T3, L3, k3, n3⟩, -, X3, ⟨Lc3, hQ3, l3, y3, z3⟩, st3⟩ := X2.virtualBack hx (y := (⟨"com/example/niyama/niyama/relational/model/ScalarComparison$Operator", "symbol", "()Ljava/lang/String;"⟩ : MethodName)) (z := (⟨"com/example/niyama/niyama/relational/model/ScalarComparison$Operator", "symbol", "()Ljava/lang/String;"⟩ : MethodName)) hown (mvT hZ (hw _ (List.mem_of_getElem? (i := 8) rfl))) (mvT hZ (hw _ (List.mem_of_getElem? (i := 9) rfl))) (notFace_of_selects (args := #[]) (mvT hZ (hw _ (List.mem_of_getElem? (i := 11) rfl)))) (mvT hZ (hw _ (List.mem_of_getElem? (i := 11) rfl))) (mvT hZ (hw _ (List.mem_of_getElem? (i := 10) rfl))) (by decide) (backOf (W := 0) (rm2 l Z a0 hw [] w_r vs h0 n0 Z0 F_symbol) hZ (hw _ (List.mem_of_getElem? (i := 12) rfl)) (hw _ (List.mem_of_getElem? (i := 6) rfl)) (by decide) (by decide)) q3a q3c (g := (mkF m 30 #[.val (.int p1), .val (.int ((p1 &&& (2147483647 : Int32)) % (6 : Int32))), .val (.ref w_r), .val (.int (1 : Int32)), .unset, .unset, .unset] [(.ref w_r)])) rfl (by rw [hml]; rfl) (Steps.refl _) (argsL := []) (rest := []) (lenOf pd_0_1 rfl) rfl (by show 2 * 0 + _ ≤ _; exact Nat.le_of_eq rfl) (hb hby at_30) (fun _ _ => ⟨rfl, e2, (by decide : 0 + 0 ≤ _), (by decide : 0 + 0 ≤ _)⟩)
  dsimp only [Pt.U, Pt.locs, Pt.cells, Pt.slots] at X3 l3 y3 z3 st3 hQ3
  subst l3 y3 z3
  obtain ⟨rfl, N3q, e3⟩ := hQ3
  have N3 := Fr.app N2 N3q
  obtain ⟨cq4, kq4, q4a, q4b, q4c⟩ := isOf hZ e3 E_vs
  obtain ⟨_, _, ⟨T4, L4, k4, n4⟩, -, X4, ⟨Lc4, hQ4, l4, y4, z4⟩, st4⟩ := X3.virtualBack hx (y := (⟨"java/lang/String", "length", "()I"⟩ : MethodName)) (z := (⟨"java/lang/String", "length", "()I"⟩ : MethodName)) hown (mvT hZ (hw _ (List.mem_of_getElem? (i := 15) rfl))) (mvT hZ (hw _ (List.mem_of_getElem? (i := 16) rfl))) (notFace_of_selects (args := #[]) (mvT hZ (hw _ (List.mem_of_getElem? (i := 18) rfl)))) (mvT hZ (hw _ (List.mem_of_getElem? (i := 18) rfl))) (mvT hZ (hw _ (List.mem_of_getElem? (i := 17) rfl))) (by decide) (backOf (W := 0) (rm3 l Z a0 hw [] vs vb cl z w_COMPACT_STRINGS h0 n0 Z0 F_value Ar hS hN E_vs S_COMPACT_STRINGS F_coder hcs) hZ (hw _ (List.mem_of_getElem? (i := 20) rfl)) (hw _ (List.mem_of_getElem? (i := 19) rfl)) (by decide) (by decide)) q4a q4c (g := (mkF m 37 #[.val (.int p1), .val (.int ((p1 &&& (2147483647 : Int32)) % (6 : Int32))), .val (.ref w_r), .val (.int (1 : Int32)), .val (.ref vs), .unset, .unset] [(.ref vs)])) rfl (by rw [hml]; rfl) (Steps.refl _) (argsL := []) (rest := []) (lenOf pd_0_2 rfl) rfl (by show 2 * 0 + _ ≤ _; exact Nat.le_of_eq rfl) (hb hby at_37) (fun _ _ => ⟨rfl, e3, (by decide : 0 + 0 ≤ _), (by decide : 0 + 0 ≤ _)⟩)
  dsimp only [Pt.U, Pt.locs, Pt.cells, Pt.slots] at X4 l4 y4 z4 st4 hQ4
  subst l4 y4 z4
  obtain ⟨rfl, N4q, e4⟩ := hQ4
  have N4 := Fr.app N3 N4q
  obtain ⟨cq5, kq5, q5a, q5b, q5c⟩ := isOf hZ e4 E_vs
  obtain ⟨_, _, ⟨T5, L5, k5, n5⟩, -, X5, ⟨Lc5, hQ5, l5, y5, z5⟩, st5⟩ := X4.virtualBack hx (y := (⟨"java/lang/String", "charAt", "(I)C"⟩ : MethodName)) (z := (⟨"java/lang/String", "charAt", "(I)C"⟩ : MethodName)) hown (mvT hZ (hw _ (List.mem_of_getElem? (i := 31) rfl))) (mvT hZ (hw _ (List.mem_of_getElem? (i := 32) rfl))) (notFace_of_selects (args := #[]) (mvT hZ (hw _ (List.mem_of_getElem? (i := 34) rfl)))) (mvT hZ (hw _ (List.mem_of_getElem? (i := 34) rfl))) (mvT hZ (hw _ (List.mem_of_getElem? (i := 33) rfl))) (by decide) (backOf (W := 0) (rm5v l Z a0 hw [] vs (0 : Int32) vb w_COMPACT_STRINGS cl z wb wf r7 r h0 n0 Z0 E_vs F_value S_COMPACT_STRINGS F_coder hcs Ar hS hN hin hat S_SIOOBE hwf hlo hhi hr7 hr5) hZ (hw _ (List.mem_of_getElem? (i := 35) rfl)) (hw _ (List.mem_of_getElem? (i := 19) rfl)) (by decide) (by decide)) q5a q5c (g := (mkF m 46 #[.val (.int p1), .val (.int ((p1 &&& (2147483647 : Int32)) % (6 : Int32))), .val (.ref w_r), .val (.int (1 : Int32)), .val (.ref vs), .unset, .unset] [(.int (0 : Int32)), (.ref vs)])) rfl (by rw [hml]; rfl) (Steps.refl _) (argsL := [(.int (0 : Int32))]) (rest := []) (lenOf pd_0_4 rfl) rfl (by show 2 * 0 + _ ≤ _; exact Nat.le_of_eq rfl) (hb hby at_46) (fun _ _ => ⟨rfl, e4, (by decide : 0 + 0 ≤ _), (by decide : 0 + 0 ≤ _)⟩)
  dsimp only [Pt.U, Pt.locs, Pt.cells, Pt.slots] at X5 l5 y5 z5 st5 hQ5
  subst l5 y5 z5
  obtain ⟨rfl, N5q, e5⟩ := hQ5
  have N5 := Fr.app N4 N5q
  obtain ⟨cq6, kq6, q6a, q6b, q6c⟩ := isOf hZ e5 E_w_r
  obtain ⟨_, _, ⟨T6, L6, k6, n6⟩, -, X6, ⟨Lc6, hQ6, l6, y6, z6⟩, st6⟩ := X5.virtualBack hx (y := (⟨"com/example/niyama/niyama/relational/model/ScalarComparison$Operator", "isOrder", "()Z"⟩ : MethodName)) (z := (⟨"com/example/niyama/niyama/relational/model/ScalarComparison$Operator", "isOrder", "()Z"⟩ : MethodName)) hown (mvT hZ (hw _ (List.mem_of_getElem? (i := 53) rfl))) (mvT hZ (hw _ (List.mem_of_getElem? (i := 54) rfl))) (notFace_of_selects (args := #[]) (mvT hZ (hw _ (List.mem_of_getElem? (i := 56) rfl)))) (mvT hZ (hw _ (List.mem_of_getElem? (i := 56) rfl))) (mvT hZ (hw _ (List.mem_of_getElem? (i := 55) rfl))) (by decide) (backOf (W := 0) (rm10 l Z a0 hw [] w_r w_EQUAL w_NOT_EQUAL h0 n0 Z0 S_EQUAL S_NOT_EQUAL) hZ (hw _ (List.mem_of_getElem? (i := 57) rfl)) (hw _ (List.mem_of_getElem? (i := 6) rfl)) (by decide) (by decide)) q6a q6c (g := (mkF m 73 #[.val (.int p1), .val (.int ((p1 &&& (2147483647 : Int32)) % (6 : Int32))), .val (.ref w_r), .val (.int (1 : Int32)), .val (.ref vs), .val (.int (1 : Int32)), .unset] [(.ref w_r)])) rfl (by rw [hml]; rfl) (Steps.refl _) (argsL := []) (rest := []) (lenOf pd_0_5 rfl) rfl (by show 2 * 0 + _ ≤ _; exact Nat.le_of_eq rfl) (hb hby at_73) (fun _ _ => ⟨rfl, e5, (by decide : 0 + 0 ≤ _), (by decide : 0 + 0 ≤ _)⟩)
  dsimp only [Pt.U, Pt.locs, Pt.cells, Pt.slots] at X6 l6 y6 z6 st6 hQ6
  subst l6 y6 z6
  obtain ⟨rfl, N6q, e6⟩ := hQ6
  have N6 := Fr.app N5 N6q
  obtain ⟨fs, hr, hrun, hended, hW, hsame⟩ := X6.leave (v := some (.int (1 : Int32))) (fun h => by rw [Bd.returns] at h; cases h)
  refine ⟨_, _, pre0 _ ?_, hrun, hended, _, _, rfl, ?_, ⟨_, rfl⟩, hW, hsame.mono (by decide) (by decide)⟩
  · show Steps p.tables e below (s₁.setTop (mkF m 0 #[.val (.int p1), .unset, .unset, .unset, .unset, .unset, .unset] [])) _
    refine XS.iloadN X0.here hx rfl (hb hby at_0) rfl ?_
    show Steps p.tables e below (s₁.setTop (mkF m 1 #[.val (.int p1), .unset, .unset, .unset, .unset, .unset, .unset] [(.int p1)])) _
    refine X0.ldcInt hx hown (mvT hZ (hw _ (List.mem_of_getElem? (i := 0) rfl))) (g := (mkF m 1 #[.val (.int p1), .unset, .unset, .unset, .unset, .unset, .unset] [(.int p1)])) rfl (hb hby at_1) _ ?_
    show Steps p.tables e below (s₁.setTop (mkF m 3 #[.val (.int p1), .unset, .unset, .unset, .unset, .unset, .unset] [(.int (2147483647 : Int32)), (.int p1)])) _
    refine XS.iand X0.here hx rfl (hb hby at_3) rfl ?_
    show Steps p.tables e below (s₁.setTop (mkF m 4 #[.val (.int p1), .unset, .unset, .unset, .unset, .unset, .unset] [(.int (p1 &&& (2147483647 : Int32)))])) _
    refine XS.bipush X0.here hx rfl (hb hby at_4) ?_
    show Steps p.tables e below (s₁.setTop (mkF m 6 #[.val (.int p1), .unset, .unset, .unset, .unset, .unset, .unset] [(.int (6 : Int32)), (.int (p1 &&& (2147483647 : Int32)))])) _
    refine iremM X0 hx rfl (hb hby at_6) rfl (by decide) ?_
    show Steps p.tables e below (s₁.setTop (mkF m 7 #[.val (.int p1), .unset, .unset, .unset, .unset, .unset, .unset] [(.int ((p1 &&& (2147483647 : Int32)) % (6 : Int32)))])) _
    refine XS.istoreN X0.here hx rfl (hb hby at_7) rfl (l' := #[.val (.int p1), .val (.int ((p1 &&& (2147483647 : Int32)) % (6 : Int32))), .unset, .unset, .unset, .unset, .unset]) rfl ?_
    show Steps p.tables e below (s₁.setTop (mkF m 8 #[.val (.int p1), .val (.int ((p1 &&& (2147483647 : Int32)) % (6 : Int32))), .unset, .unset, .unset, .unset, .unset] [])) _
    refine XS.iloadN X0.here hx rfl (hb hby at_8) rfl ?_
    show Steps p.tables e below (s₁.setTop (mkF m 9 #[.val (.int p1), .val (.int ((p1 &&& (2147483647 : Int32)) % (6 : Int32))), .unset, .unset, .unset, .unset, .unset] [(.int ((p1 &&& (2147483647 : Int32)) % (6 : Int32)))])) _
    refine st2 _ ?_
    show Steps p.tables e below (T2.setTop (mkF m 12 #[.val (.int p1), .val (.int ((p1 &&& (2147483647 : Int32)) % (6 : Int32))), .unset, .unset, .unset, .unset, .unset] [(.ref w_r)])) _
    refine XS.astoreN X2.here hx rfl (hb hby at_12) rfl rfl (l' := #[.val (.int p1), .val (.int ((p1 &&& (2147483647 : Int32)) % (6 : Int32))), .val (.ref w_r), .unset, .unset, .unset, .unset]) rfl ?_
    show Steps p.tables e below (T2.setTop (mkF m 13 #[.val (.int p1), .val (.int ((p1 &&& (2147483647 : Int32)) % (6 : Int32))), .val (.ref w_r), .unset, .unset, .unset, .unset] [])) _
    refine XS.iloadN X2.here hx rfl (hb hby at_13) rfl ?_
    show Steps p.tables e below (T2.setTop (mkF m 14 #[.val (.int p1), .val (.int ((p1 &&& (2147483647 : Int32)) % (6 : Int32))), .val (.ref w_r), .unset, .unset, .unset, .unset] [(.int ((p1 &&& (2147483647 : Int32)) % (6 : Int32)))])) _
    refine XS.iconst X2.here hx rfl (hb hby at_14) ?_
    show Steps p.tables e below (T2.setTop (mkF m 15 #[.val (.int p1), .val (.int ((p1 &&& (2147483647 : Int32)) % (6 : Int32))), .val (.ref w_r), .unset, .unset, .unset, .unset] [(.int (2 : Int32)), (.int ((p1 &&& (2147483647 : Int32)) % (6 : Int32)))])) _
    refine XS.icmpNo X2.here hx rfl (hb hby at_15) rfl (feq hc15).1 ?_
    show Steps p.tables e below (T2.setTop (mkF m 18 #[.val (.int p1), .val (.int ((p1 &&& (2147483647 : Int32)) % (6 : Int32))), .val (.ref w_r), .unset, .unset, .unset, .unset] [])) _
    refine XS.iloadN X2.here hx rfl (hb hby at_18) rfl ?_
    show Steps p.tables e below (T2.setTop (mkF m 19 #[.val (.int p1), .val (.int ((p1 &&& (2147483647 : Int32)) % (6 : Int32))), .val (.ref w_r), .unset, .unset, .unset, .unset] [(.int ((p1 &&& (2147483647 : Int32)) % (6 : Int32)))])) _
    refine XS.iconst X2.here hx rfl (hb hby at_19) ?_
    show Steps p.tables e below (T2.setTop (mkF m 20 #[.val (.int p1), .val (.int ((p1 &&& (2147483647 : Int32)) % (6 : Int32))), .val (.ref w_r), .unset, .unset, .unset, .unset] [(.int (3 : Int32)), (.int ((p1 &&& (2147483647 : Int32)) % (6 : Int32)))])) _
    refine XS.icmpNo X2.here hx rfl (hb hby at_20) rfl (feq hc20).1 ?_
    show Steps p.tables e below (T2.setTop (mkF m 23 #[.val (.int p1), .val (.int ((p1 &&& (2147483647 : Int32)) % (6 : Int32))), .val (.ref w_r), .unset, .unset, .unset, .unset] [])) _
    refine XS.iconst X2.here hx rfl (hb hby at_23) ?_
    show Steps p.tables e below (T2.setTop (mkF m 24 #[.val (.int p1), .val (.int ((p1 &&& (2147483647 : Int32)) % (6 : Int32))), .val (.ref w_r), .unset, .unset, .unset, .unset] [(.int (1 : Int32))])) _
    refine XS.goto X2.here hx rfl (pc0 := 24) (pc' := 28) rfl (hb hby at_24) (by decide) (by decide) ?_
    show Steps p.tables e below (T2.setTop (mkF m 28 #[.val (.int p1), .val (.int ((p1 &&& (2147483647 : Int32)) % (6 : Int32))), .val (.ref w_r), .unset, .unset, .unset, .unset] [(.int (1 : Int32))])) _
    refine XS.istoreN X2.here hx rfl (hb hby at_28) rfl (l' := #[.val (.int p1), .val (.int ((p1 &&& (2147483647 : Int32)) % (6 : Int32))), .val (.ref w_r), .val (.int (1 : Int32)), .unset, .unset, .unset]) rfl ?_
    show Steps p.tables e below (T2.setTop (mkF m 29 #[.val (.int p1), .val (.int ((p1 &&& (2147483647 : Int32)) % (6 : Int32))), .val (.ref w_r), .val (.int (1 : Int32)), .unset, .unset, .unset] [])) _
    refine XS.aloadN X2.here hx rfl (hb hby at_29) rfl rfl ?_
    show Steps p.tables e below (T2.setTop (mkF m 30 #[.val (.int p1), .val (.int ((p1 &&& (2147483647 : Int32)) % (6 : Int32))), .val (.ref w_r), .val (.int (1 : Int32)), .unset, .unset, .unset] [(.ref w_r)])) _
    refine st3.trans ?_
    show Steps p.tables e below (T3.setTop (mkF m 33 #[.val (.int p1), .val (.int ((p1 &&& (2147483647 : Int32)) % (6 : Int32))), .val (.ref w_r), .val (.int (1 : Int32)), .unset, .unset, .unset] [(.ref vs)])) _
    refine XS.astore X3.here hx rfl (hb hby at_33) rfl rfl (l' := #[.val (.int p1), .val (.int ((p1 &&& (2147483647 : Int32)) % (6 : Int32))), .val (.ref w_r), .val (.int (1 : Int32)), .val (.ref vs), .unset, .unset]) rfl ?_
    show Steps p.tables e below (T3.setTop (mkF m 35 #[.val (.int p1), .val (.int ((p1 &&& (2147483647 : Int32)) % (6 : Int32))), .val (.ref w_r), .val (.int (1 : Int32)), .val (.ref vs), .unset, .unset] [])) _
    refine XS.aload X3.here hx rfl (hb hby at_35) rfl rfl ?_
    show Steps p.tables e below (T3.setTop (mkF m 37 #[.val (.int p1), .val (.int ((p1 &&& (2147483647 : Int32)) % (6 : Int32))), .val (.ref w_r), .val (.int (1 : Int32)), .val (.ref vs), .unset, .unset] [(.ref vs)])) _
    refine st4.trans ?_
    show Steps p.tables e below (T4.setTop (mkF m 40 #[.val (.int p1), .val (.int ((p1 &&& (2147483647 : Int32)) % (6 : Int32))), .val (.ref w_r), .val (.int (1 : Int32)), .val (.ref vs), .unset, .unset] [(.int (z >>> ((0 : Int32) &&& 31)))])) _
    refine XS.ifNo X4.here hx rfl (hb hby at_40) rfl ((if0 _ _).trans (tlt hc40).2.2.2) ?_
    show Steps p.tables e below (T4.setTop (mkF m 43 #[.val (.int p1), .val (.int ((p1 &&& (2147483647 : Int32)) % (6 : Int32))), .val (.ref w_r), .val (.int (1 : Int32)), .val (.ref vs), .unset, .unset] [])) _
    refine XS.aload X4.here hx rfl (hb hby at_43) rfl rfl ?_
    show Steps p.tables e below (T4.setTop (mkF m 45 #[.val (.int p1), .val (.int ((p1 &&& (2147483647 : Int32)) % (6 : Int32))), .val (.ref w_r), .val (.int (1 : Int32)), .val (.ref vs), .unset, .unset] [(.ref vs)])) _
    refine XS.iconst X4.here hx rfl (hb hby at_45) ?_
    show Steps p.tables e below (T4.setTop (mkF m 46 #[.val (.int p1), .val (.int ((p1 &&& (2147483647 : Int32)) % (6 : Int32))), .val (.ref w_r), .val (.int (1 : Int32)), .val (.ref vs), .unset, .unset] [(.int (0 : Int32)), (.ref vs)])) _
    refine st5.trans ?_
    show Steps p.tables e below (T5.setTop (mkF m 49 #[.val (.int p1), .val (.int ((p1 &&& (2147483647 : Int32)) % (6 : Int32))), .val (.ref w_r), .val (.int (1 : Int32)), .val (.ref vs), .unset, .unset] [(.int r)])) _
    refine XS.bipush X5.here hx rfl (hb hby at_49) ?_
    show Steps p.tables e below (T5.setTop (mkF m 51 #[.val (.int p1), .val (.int ((p1 &&& (2147483647 : Int32)) % (6 : Int32))), .val (.ref w_r), .val (.int (1 : Int32)), .val (.ref vs), .unset, .unset] [(.int (60 : Int32)), (.int r)])) _
    refine XS.icmpYes X5.here hx rfl (pc0 := 51) (pc' := 65) rfl (hb hby at_51) rfl (teq hc51).1 (by decide) (by decide) ?_
    show Steps p.tables e below (T5.setTop (mkF m 65 #[.val (.int p1), .val (.int ((p1 &&& (2147483647 : Int32)) % (6 : Int32))), .val (.ref w_r), .val (.int (1 : Int32)), .val (.ref vs), .unset, .unset] [])) _
    refine XS.iconst X5.here hx rfl (hb hby at_65) ?_
    show Steps p.tables e below (T5.setTop (mkF m 66 #[.val (.int p1), .val (.int ((p1 &&& (2147483647 : Int32)) % (6 : Int32))), .val (.ref w_r), .val (.int (1 : Int32)), .val (.ref vs), .unset, .unset] [(.int (1 : Int32))])) _
    refine XS.goto X5.here hx rfl (pc0 := 66) (pc' := 70) rfl (hb hby at_66) (by decide) (by decide) ?_
    show Steps p.tables e below (T5.setTop (mkF m 70 #[.val (.int p1), .val (.int ((p1 &&& (2147483647 : Int32)) % (6 : Int32))), .val (.ref w_r), .val (.int (1 : Int32)), .val (.ref vs), .unset, .unset] [(.int (1 : Int32))])) _
    refine XS.istore X5.here hx rfl (hb hby at_70) rfl (l' := #[.val (.int p1), .val (.int ((p1 &&& (2147483647 : Int32)) % (6 : Int32))), .val (.ref w_r), .val (.int (1 : Int32)), .val (.ref vs), .val (.int (1 : Int32)), .unset]) rfl ?_
    show Steps p.tables e below (T5.setTop (mkF m 72 #[.val (.int p1), .val (.int ((p1 &&& (2147483647 : Int32)) % (6 : Int32))), .val (.ref w_r), .val (.int (1 : Int32)), .val (.ref vs), .val (.int (1 : Int32)), .unset] [])) _
    refine XS.aloadN X5.here hx rfl (hb hby at_72) rfl rfl ?_
    show Steps p.tables e below (T5.setTop (mkF m 73 #[.val (.int p1), .val (.int ((p1 &&& (2147483647 : Int32)) % (6 : Int32))), .val (.ref w_r), .val (.int (1 : Int32)), .val (.ref vs), .val (.int (1 : Int32)), .unset] [(.ref w_r)])) _
    refine st6.trans ?_
    show Steps p.tables e below (T6.setTop (mkF m 76 #[.val (.int p1), .val (.int ((p1 &&& (2147483647 : Int32)) % (6 : Int32))), .val (.ref w_r), .val (.int (1 : Int32)), .val (.ref vs), .val (.int (1 : Int32)), .unset] [(.int (own_ord w_r w_EQUAL w_NOT_EQUAL))])) _
    refine XS.istore X6.here hx rfl (hb hby at_76) rfl (l' := #[.val (.int p1), .val (.int ((p1 &&& (2147483647 : Int32)) % (6 : Int32))), .val (.ref w_r), .val (.int (1 : Int32)), .val (.ref vs), .val (.int (1 : Int32)), .val (.int (own_ord w_r w_EQUAL w_NOT_EQUAL))]) rfl ?_
    show Steps p.tables e below (T6.setTop (mkF m 78 #[.val (.int p1), .val (.int ((p1 &&& (2147483647 : Int32)) % (6 : Int32))), .val (.ref w_r), .val (.int (1 : Int32)), .val (.ref vs), .val (.int (1 : Int32)), .val (.int (own_ord w_r w_EQUAL w_NOT_EQUAL))] [])) _
    refine XS.iload X6.here hx rfl (hb hby at_78) rfl ?_
    show Steps p.tables e below (T6.setTop (mkF m 80 #[.val (.int p1), .val (.int ((p1 &&& (2147483647 : Int32)) % (6 : Int32))), .val (.ref w_r), .val (.int (1 : Int32)), .val (.ref vs), .val (.int (1 : Int32)), .val (.int (own_ord w_r w_EQUAL w_NOT_EQUAL))] [(.int (own_ord w_r w_EQUAL w_NOT_EQUAL))])) _
    refine XS.iloadN X6.here hx rfl (hb hby at_80) rfl ?_
    show Steps p.tables e below (T6.setTop (mkF m 81 #[.val (.int p1), .val (.int ((p1 &&& (2147483647 : Int32)) % (6 : Int32))), .val (.ref w_r), .val (.int (1 : Int32)), .val (.ref vs), .val (.int (1 : Int32)), .val (.int (own_ord w_r w_EQUAL w_NOT_EQUAL))] [(.int (1 : Int32)), (.int (own_ord w_r w_EQUAL w_NOT_EQUAL))])) _
    refine XS.icmpNo X6.here hx rfl (hb hby at_81) rfl (teq hc81).2 ?_
    show Steps p.tables e below (T6.setTop (mkF m 84 #[.val (.int p1), .val (.int ((p1 &&& (2147483647 : Int32)) % (6 : Int32))), .val (.ref w_r), .val (.int (1 : Int32)), .val (.ref vs), .val (.int (1 : Int32)), .val (.int (own_ord w_r w_EQUAL w_NOT_EQUAL))] [])) _
    refine XS.iload X6.here hx rfl (hb hby at_84) rfl ?_
    show Steps p.tables e below (T6.setTop (mkF m 86 #[.val (.int p1), .val (.int ((p1 &&& (2147483647 : Int32)) % (6 : Int32))), .val (.ref w_r), .val (.int (1 : Int32)), .val (.ref vs), .val (.int (1 : Int32)), .val (.int (own_ord w_r w_EQUAL w_NOT_EQUAL))] [(.int (own_ord w_r w_EQUAL w_NOT_EQUAL))])) _
    refine XS.iload X6.here hx rfl (hb hby at_86) rfl ?_
    show Steps p.tables e below (T6.setTop (mkF m 88 #[.val (.int p1), .val (.int ((p1 &&& (2147483647 : Int32)) % (6 : Int32))), .val (.ref w_r), .val (.int (1 : Int32)), .val (.ref vs), .val (.int (1 : Int32)), .val (.int (own_ord w_r w_EQUAL w_NOT_EQUAL))] [(.int (1 : Int32)), (.int (own_ord w_r w_EQUAL w_NOT_EQUAL))])) _
    refine XS.icmpNo X6.here hx rfl (hb hby at_88) rfl (teq hc88).2 ?_
    show Steps p.tables e below (T6.setTop (mkF m 91 #[.val (.int p1), .val (.int ((p1 &&& (2147483647 : Int32)) % (6 : Int32))), .val (.ref w_r), .val (.int (1 : Int32)), .val (.ref vs), .val (.int (1 : Int32)), .val (.int (own_ord w_r w_EQUAL w_NOT_EQUAL))] [])) _
    refine XS.iconst X6.here hx rfl (hb hby at_91) ?_
    show Steps p.tables e below (T6.setTop (mkF m 92 #[.val (.int p1), .val (.int ((p1 &&& (2147483647 : Int32)) % (6 : Int32))), .val (.ref w_r), .val (.int (1 : Int32)), .val (.ref vs), .val (.int (1 : Int32)), .val (.int (own_ord w_r w_EQUAL w_NOT_EQUAL))] [(.int (1 : Int32))])) _
    refine XS.goto X6.here hx rfl (pc0 := 92) (pc' := 96) rfl (hb hby at_92) (by decide) (by decide) ?_
    show Steps p.tables e below (T6.setTop (mkF m 96 #[.val (.int p1), .val (.int ((p1 &&& (2147483647 : Int32)) % (6 : Int32))), .val (.ref w_r), .val (.int (1 : Int32)), .val (.ref vs), .val (.int (1 : Int32)), .val (.int (own_ord w_r w_EQUAL w_NOT_EQUAL))] [(.int (1 : Int32))])) _
    exact retN X6 hx (t := .boolean) Bd.returns (by simp) (hb hby at_96) hr
  · show QP (.int (1 : Int32)) h0 n0 _ T6.heap _
    rw [e6]
    exact ⟨rfl, N6, rfl⟩
set_option maxRecDepth 65536 in
set_option maxHeartbeats 40000000 in
theorem rm0_tfftff (l : Launch) (Z : State) (a0 : Array Value) (hw : ∀ d ∈ tables_1, d.before a0 Z = true) (ws : List Jvm.Cond) (p1 : Int32) (w_LESS : Addr) (w_LESS_OR_EQUAL : Addr) (w_EQUAL : Addr) (w_NOT_EQUAL : Addr) (w_GREATER_OR_EQUAL : Addr) (w_GREATER : Addr) (w_r : Addr) (vs : Addr) (vb : Addr) (cl : Cell) (z : Int32) (wb : Int32) (wf : Value) (r7 : Int32) (r : Int32) (w_COMPACT_STRINGS : Int32) (h0 : Heap) (n0 : Nat) (Z0 : n0 ≤ h0.size) (E_w_r : Exa Z h0 w_r "com/example/niyama/niyama/relational/model/ScalarComparison$Operator") (E_vs : Exa Z h0 vs "java/lang/String") (S_LESS : Sta Z h0 "com/example/niyama/niyama/relational/model/ScalarComparison$Operator" "LESS" "Lcom/example/niyama/niyama/relational/model/ScalarComparison$Operator;" (.ref w_LESS)) (S_LESS_OR_EQUAL : Sta Z h0 "com/example/niyama/niyama/relational/model/ScalarComparison$Operator" "LESS_OR_EQUAL" "Lcom/example/niyama/niyama/relational/model/ScalarComparison$Operator;" (.ref w_LESS_OR_EQUAL)) (S_EQUAL : Sta Z h0 "com/example/niyama/niyama/relational/model/ScalarComparison$Operator" "EQUAL" "Lcom/example/niyama/niyama/relational/model/ScalarComparison$Operator;" (.ref w_EQUAL)) (S_NOT_EQUAL : Sta Z h0 "com/example/niyama/niyama/relational/model/ScalarComparison$Operator" "NOT_EQUAL" "Lcom/example/niyama/niyama/relational/model/ScalarComparison$Operator;" (.ref w_NOT_EQUAL)) (S_GREATER_OR_EQUAL : Sta Z h0 "com/example/niyama/niyama/relational/model/ScalarComparison$Operator" "GREATER_OR_EQUAL" "Lcom/example/niyama/niyama/relational/model/ScalarComparison$Operator;" (.ref w_GREATER_OR_EQUAL)) (S_GREATER : Sta Z h0 "com/example/niyama/niyama/relational/model/ScalarComparison$Operator" "GREATER" "Lcom/example/niyama/niyama/relational/model/ScalarComparison$Operator;" (.ref w_GREATER)) (hrx : own_pick ((p1 &&& (2147483647 : Int32)) % (6 : Int32)) w_LESS w_LESS_OR_EQUAL w_EQUAL w_NOT_EQUAL w_GREATER_OR_EQUAL w_GREATER = w_r) (F_symbol : Fld Z h0 w_r "com/example/niyama/niyama/relational/model/ScalarComparison$Operator" "symbol" "Ljava/lang/String;" (.ref vs)) (F_value : Fld Z h0 vs "java/lang/String" "value" "[B" (.ref vb)) (F_coder : Fld Z h0 vs "java/lang/String" "coder" "B" (.int (0 : Int32))) (S_COMPACT_STRINGS : Sta Z h0 "java/lang/String" "COMPACT_STRINGS" "Z" (.int w_COMPACT_STRINGS)) (hcs : ¬ (w_COMPACT_STRINGS = (0 : Int32))) (Ar : Arr Z h0 vb cl .byte) (hS : cl.slots.size = z.toNatClampNeg) (hN : ¬ z < 0) (hin : ¬ ((0 : Int32) < 0 ∨ cl.slots.size ≤ ((0 : Int32)).toNatClampNeg)) (hat : cl.slots[((0 : Int32)).toNatClampNeg]? = some (.int wb)) (S_SIOOBE : Sta Z h0 "jdk/internal/util/Preconditions" "SIOOBE_FORMATTER" "Ljava/util/function/BiFunction;" wf) (hwf : wf.isRef = true) (hlo : ¬ ((0 : Int32) < (0 : Int32))) (hhi : (0 : Int32) < z) (hr7 : nar .char ((wb &&& (255 : Int32)).toUInt32.toUInt16.toUInt32.toInt32) = r7) (hr5 : nar .char r7 = r) (hc15 : ((p1 &&& (2147483647 : Int32)) % (6 : Int32)) = (2 : Int32)) (hc40 : (0 : Int32) < (z >>> ((0 : Int32) &&& 31))) (hc51 : ¬ (r = (60 : Int32))) (hc62 : ¬ (r = (62 : Int32))) (hc81 : (own_ord w_r w_EQUAL w_NOT_EQUAL) = (0 : Int32)) (hc88 : (own_ord w_r w_EQUAL w_NOT_EQUAL) = (0 : Int32)) :
    MetFree l x (head1 (Jvm.Cond.code x code maxLocals ret :: ws) room_1) (fun a U => a = #[(.int p1)] ∧ Z.Warmed39 U.vm ∧ U.heap = h0) (fun _ _ _ _ _ => True) (fun _ U o U' => ∃ v L, o = .returned v ∧ QP (.int (1 : Int32)) h0 n0 v U'.heap L ∧ FrameEnd U o U' L room_1.cells room_1.slots) := by
  refine MetFree.of_bodySF (plainFor_of_name pn_0) hisR ?_
  intro p e s m args below meth c s₁ Bd hml0 hP hK
  obtain ⟨rfl, hZ, hh⟩ := hP
  have hx := Bd.exec
  have hby := Bd.bytes
  have hml : c.maxLocals = 7 := hml0
  have hown : s.vm.findClass "com/example/niyama/niyama/relational/model/OperatorIsOrderPinLaw" = some m.cls := findClass_of_methodNamed Bd.named
  have hnm := (name_of_methodNamed Bd.named Bd.method).1
  have X0 : Stand p l e room_1 s m #[(.int p1)] below meth c s₁ [] 0 0 := Stand.of_body Bd
  have e0 : s₁.heap = h0 := by rw [← hh, Bd.state]; rfl
  have N0 := Fr.nil n0
  have pre0 : ∀ t, Steps p.tables e below (s₁.setTop (mkF m 0 #[.val (.int p1), .unset, .unset, .unset, .unset, .unset, .unset] [])) t → Steps p.tables e below (s₁.setTop (entryFrame m #[(.int p1)] maxLocals)) t := fun t k => castTop (ef_0 m p1) k
  obtain ⟨_, _, ⟨T2, L2, k2, n2⟩, -, X2, ⟨Lc2, hQ2, l2, y2, z2⟩, st2⟩ := Jvm.LawKit.callS X0 hx (y := (⟨"com/example/niyama/niyama/relational/model/OperatorIsOrderPinLaw", "pick", "(I)Lcom/example/niyama/niyama/relational/model/ScalarComparison$Operator;"⟩ : MethodName)) hown (mvT hZ (hw _ (List.mem_of_getElem? (i := 1) rfl))) (mvT hZ (hw _ (List.mem_of_getElem? (i := 2) rfl))) (mvT hZ (hw _ (List.mem_of_getElem? (i := 3) rfl))) (mvT hZ (hw _ (List.mem_of_getElem? (i := 4) rfl))) (by decide) (backOf (W := 0) (rm1v l Z a0 hw [] ((p1 &&& (2147483647 : Int32)) % (6 : Int32)) w_LESS w_LESS_OR_EQUAL w_EQUAL w_NOT_EQUAL w_GREATER_OR_EQUAL w_GREATER w_r h0 n0 Z0 S_LESS S_LESS_OR_EQUAL S_EQUAL S_NOT_EQUAL S_GREATER_OR_EQUAL S_GREATER hrx) hZ (hw _ (List.mem_of_getElem? (i := 4) rfl)) (hw _ (List.mem_of_getElem? (i := 3) rfl)) (by decide) (by decide)) (g := (mkF m 9 #[.val (.int p1), .val (.int ((p1 &&& (2147483647 : Int32)) % (6 : Int32))), .unset, .unset, .unset, .unset, .unset] [(.int ((p1 &&& (2147483647 : Int32)) % (6 : Int32)))])) rfl (by rw [hml]; rfl) (argsL := [(.int ((p1 &&& (2147483647 : Int32)) % (6 : Int32)))]) (rest := []) (lenOf pd_0_0 rfl) rfl (by show 2 * 0 + _ ≤ _; exact Nat.le_of_eq rfl) (hb hby at_9) (fun _ _ => ⟨rfl, e0, (by decide : 0 + 0 ≤ _), (by decide : 0 + 0 ≤ _)⟩)
  dsimp only [Pt.U, Pt.locs, Pt.cells, Pt.slots] at X2 l2 y2 z2 st2 hQ2
  subst l2 y2 z2
  obtain ⟨rfl, N2q, e2⟩ := hQ2
  have N2 := Fr.app N0 N2q
  obtain ⟨cq3, kq3, q3a, q3b, q3c⟩ := isOf hZ e2 E_w_r
  obtain ⟨_, _, ⟨T3, L3, k3, n3⟩, -, X3, ⟨Lc3, hQ3, l3, y3, z3⟩, st3⟩ := X2.virtualBack hx (y := (⟨"com/example/niyama/niyama/relational/model/ScalarComparison$Operator", "symbol", "()Ljava/lang/String;"⟩ : MethodName)) (z := (⟨"com/example/niyama/niyama/relational/model/ScalarComparison$Operator", "symbol", "()Ljava/lang/String;"⟩ : MethodName)) hown (mvT hZ (hw _ (List.mem_of_getElem? (i := 8) rfl))) (mvT hZ (hw _ (List.mem_of_getElem? (i := 9) rfl))) (notFace_of_selects (args := #[]) (mvT hZ (hw _ (List.mem_of_getElem? (i := 11) rfl)))) (mvT hZ (hw _ (List.mem_of_getElem? (i := 11) rfl))) (mvT hZ (hw _ (List.mem_of_getElem? (i := 10) rfl))) (by decide) (backOf (W := 0) (rm2 l Z a0 hw [] w_r vs h0 n0 Z0 F_symbol) hZ (hw _ (List.mem_of_getElem? (i := 12) rfl)) (hw _ (List.mem_of_getElem? (i := 6) rfl)) (by decide) (by decide)) q3a q3c (g := (mkF m 30 #[.val (.int p1), .val (.int ((p1 &&& (2147483647 : Int32)) % (6 : Int32))), .val (.ref w_r), .val (.int (0 : Int32)), .unset, .unset, .unset] [(.ref w_r)])) rfl (by rw [hml]; rfl) (Steps.refl _) (argsL := []) (rest := []) (lenOf pd_0_1 rfl) rfl (by show 2 * 0 + _ ≤ _; exact Nat.le_of_eq rfl) (hb hby at_30) (fun _ _ => ⟨rfl, e2, (by decide : 0 + 0 ≤ _), (by decide : 0 + 0 ≤ _)⟩)
  dsimp only [Pt.U, Pt.locs, Pt.cells, Pt.slots] at X3 l3 y3 z3 st3 hQ3
  subst l3 y3 z3
  obtain ⟨rfl, N3q, e3⟩ := hQ3
  have N3 := Fr.app N2 N3q
  obtain ⟨cq4, kq4, q4a, q4b, q4c⟩ := isOf hZ e3 E_vs
  obtain ⟨_, _, ⟨T4, L4, k4, n4⟩, -, X4, ⟨Lc4, hQ4, l4, y4, z4⟩, st4⟩ := X3.virtualBack hx (y := (⟨"java/lang/String", "length", "()I"⟩ : MethodName)) (z := (⟨"java/lang/String", "length", "()I"⟩ : MethodName)) hown (mvT hZ (hw _ (List.mem_of_getElem? (i := 15) rfl))) (mvT hZ (hw _ (List.mem_of_getElem? (i := 16) rfl))) (notFace_of_selects (args := #[]) (mvT hZ (hw _ (List.mem_of_getElem? (i := 18) rfl)))) (mvT hZ (hw _ (List.mem_of_getElem? (i := 18) rfl))) (mvT hZ (hw _ (List.mem_of_getElem? (i := 17) rfl))) (by decide) (backOf (W := 0) (rm3 l Z a0 hw [] vs vb cl z w_COMPACT_STRINGS h0 n0 Z0 F_value Ar hS hN E_vs S_COMPACT_STRINGS F_coder hcs) hZ (hw _ (List.mem_of_getElem? (i := 20) rfl)) (hw _ (List.mem_of_getElem? (i := 19) rfl)) (by decide) (by decide)) q4a q4c (g := (mkF m 37 #[.val (.int p1), .val (.int ((p1 &&& (2147483647 : Int32)) % (6 : Int32))), .val (.ref w_r), .val (.int (0 : Int32)), .val (.ref vs), .unset, .unset] [(.ref vs)])) rfl (by rw [hml]; rfl) (Steps.refl _) (argsL := []) (rest := []) (lenOf pd_0_2 rfl) rfl (by show 2 * 0 + _ ≤ _; exact Nat.le_of_eq rfl) (hb hby at_37) (fun _ _ => ⟨rfl, e3, (by decide : 0 + 0 ≤ _), (by decide : 0 + 0 ≤ _)⟩)
  dsimp only [Pt.U, Pt.locs, Pt.cells, Pt.slots] at X4 l4 y4 z4 st4 hQ4
  subst l4 y4 z4
  obtain ⟨rfl, N4q, e4⟩ := hQ4
  have N4 := Fr.app N3 N4q
  obtain ⟨cq5, kq5, q5a, q5b, q5c⟩ := isOf hZ e4 E_vs
  obtain ⟨_, _, ⟨T5, L5, k5, n5⟩, -, X5, ⟨Lc5, hQ5, l5, y5, z5⟩, st5⟩ := X4.virtualBack hx (y := (⟨"java/lang/String", "charAt", "(I)C"⟩ : MethodName)) (z := (⟨"java/lang/String", "charAt", "(I)C"⟩ : MethodName)) hown (mvT hZ (hw _ (List.mem_of_getElem? (i := 31) rfl))) (mvT hZ (hw _ (List.mem_of_getElem? (i := 32) rfl))) (notFace_of_selects (args := #[]) (mvT hZ (hw _ (List.mem_of_getElem? (i := 34) rfl)))) (mvT hZ (hw _ (List.mem_of_getElem? (i := 34) rfl))) (mvT hZ (hw _ (List.mem_of_getElem? (i := 33) rfl))) (by decide) (backOf (W := 0) (rm5v l Z a0 hw [] vs (0 : Int32) vb w_COMPACT_STRINGS cl z wb wf r7 r h0 n0 Z0 E_vs F_value S_COMPACT_STRINGS F_coder hcs Ar hS hN hin hat S_SIOOBE hwf hlo hhi hr7 hr5) hZ (hw _ (List.mem_of_getElem? (i := 35) rfl)) (hw _ (List.mem_of_getElem? (i := 19) rfl)) (by decide) (by decide)) q5a q5c (g := (mkF m 46 #[.val (.int p1), .val (.int ((p1 &&& (2147483647 : Int32)) % (6 : Int32))), .val (.ref w_r), .val (.int (0 : Int32)), .val (.ref vs), .unset, .unset] [(.int (0 : Int32)), (.ref vs)])) rfl (by rw [hml]; rfl) (Steps.refl _) (argsL := [(.int (0 : Int32))]) (rest := []) (lenOf pd_0_4 rfl) rfl (by show 2 * 0 + _ ≤ _; exact Nat.le_of_eq rfl) (hb hby at_46) (fun _ _ => ⟨rfl, e4, (by decide : 0 + 0 ≤ _), (by decide : 0 + 0 ≤ _)⟩)
  dsimp only [Pt.U, Pt.locs, Pt.cells, Pt.slots] at X5 l5 y5 z5 st5 hQ5
  subst l5 y5 z5
  obtain ⟨rfl, N5q, e5⟩ := hQ5
  have N5 := Fr.app N4 N5q
  obtain ⟨cq6, kq6, q6a, q6b, q6c⟩ := isOf hZ e5 E_vs
  obtain ⟨_, _, ⟨T6, L6, k6, n6⟩, -, X6, ⟨Lc6, hQ6, l6, y6, z6⟩, st6⟩ := X5.virtualBack hx (y := (⟨"java/lang/String", "charAt", "(I)C"⟩ : MethodName)) (z := (⟨"java/lang/String", "charAt", "(I)C"⟩ : MethodName)) hown (mvT hZ (hw _ (List.mem_of_getElem? (i := 31) rfl))) (mvT hZ (hw _ (List.mem_of_getElem? (i := 32) rfl))) (notFace_of_selects (args := #[]) (mvT hZ (hw _ (List.mem_of_getElem? (i := 34) rfl)))) (mvT hZ (hw _ (List.mem_of_getElem? (i := 34) rfl))) (mvT hZ (hw _ (List.mem_of_getElem? (i := 33) rfl))) (by decide) (backOf (W := 0) (rm5v l Z a0 hw [] vs (0 : Int32) vb w_COMPACT_STRINGS cl z wb wf r7 r h0 n0 Z0 E_vs F_value S_COMPACT_STRINGS F_coder hcs Ar hS hN hin hat S_SIOOBE hwf hlo hhi hr7 hr5) hZ (hw _ (List.mem_of_getElem? (i := 35) rfl)) (hw _ (List.mem_of_getElem? (i := 19) rfl)) (by decide) (by decide)) q6a q6c (g := (mkF m 57 #[.val (.int p1), .val (.int ((p1 &&& (2147483647 : Int32)) % (6 : Int32))), .val (.ref w_r), .val (.int (0 : Int32)), .val (.ref vs), .unset, .unset] [(.int (0 : Int32)), (.ref vs)])) rfl (by rw [hml]; rfl) (Steps.refl _) (argsL := [(.int (0 : Int32))]) (rest := []) (lenOf pd_0_4 rfl) rfl (by show 2 * 0 + _ ≤ _; exact Nat.le_of_eq rfl) (hb hby at_57) (fun _ _ => ⟨rfl, e5, (by decide : 0 + 0 ≤ _), (by decide : 0 + 0 ≤ _)⟩)
  dsimp only [Pt.U, Pt.locs, Pt.cells, Pt.slots] at X6 l6 y6 z6 st6 hQ6
  subst l6 y6 z6
  obtain ⟨rfl, N6q, e6⟩ := hQ6
  have N6 := Fr.app N5 N6q
  obtain ⟨cq7, kq7, q7a, q7b, q7c⟩ := isOf hZ e6 E_w_r
  obtain ⟨_, _, ⟨T7, L7, k7, n7⟩, -, X7, ⟨Lc7, hQ7, l7, y7, z7⟩, st7⟩ := X6.virtualBack hx (y := (⟨"com/example/niyama/niyama/relational/model/ScalarComparison$Operator", "isOrder", "()Z"⟩ : MethodName)) (z := (⟨"com/example/niyama/niyama/relational/model/ScalarComparison$Operator", "isOrder", "()Z"⟩ : MethodName)) hown (mvT hZ (hw _ (List.mem_of_getElem? (i := 53) rfl))) (mvT hZ (hw _ (List.mem_of_getElem? (i := 54) rfl))) (notFace_of_selects (args := #[]) (mvT hZ (hw _ (List.mem_of_getElem? (i := 56) rfl)))) (mvT hZ (hw _ (List.mem_of_getElem? (i := 56) rfl))) (mvT hZ (hw _ (List.mem_of_getElem? (i := 55) rfl))) (by decide) (backOf (W := 0) (rm10 l Z a0 hw [] w_r w_EQUAL w_NOT_EQUAL h0 n0 Z0 S_EQUAL S_NOT_EQUAL) hZ (hw _ (List.mem_of_getElem? (i := 57) rfl)) (hw _ (List.mem_of_getElem? (i := 6) rfl)) (by decide) (by decide)) q7a q7c (g := (mkF m 73 #[.val (.int p1), .val (.int ((p1 &&& (2147483647 : Int32)) % (6 : Int32))), .val (.ref w_r), .val (.int (0 : Int32)), .val (.ref vs), .val (.int (0 : Int32)), .unset] [(.ref w_r)])) rfl (by rw [hml]; rfl) (Steps.refl _) (argsL := []) (rest := []) (lenOf pd_0_5 rfl) rfl (by show 2 * 0 + _ ≤ _; exact Nat.le_of_eq rfl) (hb hby at_73) (fun _ _ => ⟨rfl, e6, (by decide : 0 + 0 ≤ _), (by decide : 0 + 0 ≤ _)⟩)
  dsimp only [Pt.U, Pt.locs, Pt.cells, Pt.slots] at X7 l7 y7 z7 st7 hQ7
  subst l7 y7 z7
  obtain ⟨rfl, N7q, e7⟩ := hQ7
  have N7 := Fr.app N6 N7q
  obtain ⟨fs, hr, hrun, hended, hW, hsame⟩ := X7.leave (v := some (.int (1 : Int32))) (fun h => by rw [Bd.returns] at h; cases h)
  refine ⟨_, _, pre0 _ ?_, hrun, hended, _, _, rfl, ?_, ⟨_, rfl⟩, hW, hsame.mono (by decide) (by decide)⟩
  · show Steps p.tables e below (s₁.setTop (mkF m 0 #[.val (.int p1), .unset, .unset, .unset, .unset, .unset, .unset] [])) _
    refine XS.iloadN X0.here hx rfl (hb hby at_0) rfl ?_
    show Steps p.tables e below (s₁.setTop (mkF m 1 #[.val (.int p1), .unset, .unset, .unset, .unset, .unset, .unset] [(.int p1)])) _
    refine X0.ldcInt hx hown (mvT hZ (hw _ (List.mem_of_getElem? (i := 0) rfl))) (g := (mkF m 1 #[.val (.int p1), .unset, .unset, .unset, .unset, .unset, .unset] [(.int p1)])) rfl (hb hby at_1) _ ?_
    show Steps p.tables e below (s₁.setTop (mkF m 3 #[.val (.int p1), .unset, .unset, .unset, .unset, .unset, .unset] [(.int (2147483647 : Int32)), (.int p1)])) _
    refine XS.iand X0.here hx rfl (hb hby at_3) rfl ?_
    show Steps p.tables e below (s₁.setTop (mkF m 4 #[.val (.int p1), .unset, .unset, .unset, .unset, .unset, .unset] [(.int (p1 &&& (2147483647 : Int32)))])) _
    refine XS.bipush X0.here hx rfl (hb hby at_4) ?_
    show Steps p.tables e below (s₁.setTop (mkF m 6 #[.val (.int p1), .unset, .unset, .unset, .unset, .unset, .unset] [(.int (6 : Int32)), (.int (p1 &&& (2147483647 : Int32)))])) _
    refine iremM X0 hx rfl (hb hby at_6) rfl (by decide) ?_
    show Steps p.tables e below (s₁.setTop (mkF m 7 #[.val (.int p1), .unset, .unset, .unset, .unset, .unset, .unset] [(.int ((p1 &&& (2147483647 : Int32)) % (6 : Int32)))])) _
    refine XS.istoreN X0.here hx rfl (hb hby at_7) rfl (l' := #[.val (.int p1), .val (.int ((p1 &&& (2147483647 : Int32)) % (6 : Int32))), .unset, .unset, .unset, .unset, .unset]) rfl ?_
    show Steps p.tables e below (s₁.setTop (mkF m 8 #[.val (.int p1), .val (.int ((p1 &&& (2147483647 : Int32)) % (6 : Int32))), .unset, .unset, .unset, .unset, .unset] [])) _
    refine XS.iloadN X0.here hx rfl (hb hby at_8) rfl ?_
    show Steps p.tables e below (s₁.setTop (mkF m 9 #[.val (.int p1), .val (.int ((p1 &&& (2147483647 : Int32)) % (6 : Int32))), .unset, .unset, .unset, .unset, .unset] [(.int ((p1 &&& (2147483647 : Int32)) % (6 : Int32)))])) _
    refine st2 _ ?_
    show Steps p.tables e below (T2.setTop (mkF m 12 #[.val (.int p1), .val (.int ((p1 &&& (2147483647 : Int32)) % (6 : Int32))), .unset, .unset, .unset, .unset, .unset] [(.ref w_r)])) _
    refine XS.astoreN X2.here hx rfl (hb hby at_12) rfl rfl (l' := #[.val (.int p1), .val (.int ((p1 &&& (2147483647 : Int32)) % (6 : Int32))), .val (.ref w_r), .unset, .unset, .unset, .unset]) rfl ?_
    show Steps p.tables e below (T2.setTop (mkF m 13 #[.val (.int p1), .val (.int ((p1 &&& (2147483647 : Int32)) % (6 : Int32))), .val (.ref w_r), .unset, .unset, .unset, .unset] [])) _
    refine XS.iloadN X2.here hx rfl (hb hby at_13) rfl ?_
    show Steps p.tables e below (T2.setTop (mkF m 14 #[.val (.int p1), .val (.int ((p1 &&& (2147483647 : Int32)) % (6 : Int32))), .val (.ref w_r), .unset, .unset, .unset, .unset] [(.int ((p1 &&& (2147483647 : Int32)) % (6 : Int32)))])) _
    refine XS.iconst X2.here hx rfl (hb hby at_14) ?_
    show Steps p.tables e below (T2.setTop (mkF m 15 #[.val (.int p1), .val (.int ((p1 &&& (2147483647 : Int32)) % (6 : Int32))), .val (.ref w_r), .unset, .unset, .unset, .unset] [(.int (2 : Int32)), (.int ((p1 &&& (2147483647 : Int32)) % (6 : Int32)))])) _
    refine XS.icmpYes X2.here hx rfl (pc0 := 15) (pc' := 27) rfl (hb hby at_15) rfl (teq hc15).1 (by decide) (by decide) ?_
    show Steps p.tables e below (T2.setTop (mkF m 27 #[.val (.int p1), .val (.int ((p1 &&& (2147483647 : Int32)) % (6 : Int32))), .val (.ref w_r), .unset, .unset, .unset, .unset] [])) _
    refine XS.iconst X2.here hx rfl (hb hby at_27) ?_
    show Steps p.tables e below (T2.setTop (mkF m 28 #[.val (.int p1), .val (.int ((p1 &&& (2147483647 : Int32)) % (6 : Int32))), .val (.ref w_r), .unset, .unset, .unset, .unset] [(.int (0 : Int32))])) _
    refine XS.istoreN X2.here hx rfl (hb hby at_28) rfl (l' := #[.val (.int p1), .val (.int ((p1 &&& (2147483647 : Int32)) % (6 : Int32))), .val (.ref w_r), .val (.int (0 : Int32)), .unset, .unset, .unset]) rfl ?_
    show Steps p.tables e below (T2.setTop (mkF m 29 #[.val (.int p1), .val (.int ((p1 &&& (2147483647 : Int32)) % (6 : Int32))), .val (.ref w_r), .val (.int (0 : Int32)), .unset, .unset, .unset] [])) _
    refine XS.aloadN X2.here hx rfl (hb hby at_29) rfl rfl ?_
    show Steps p.tables e below (T2.setTop (mkF m 30 #[.val (.int p1), .val (.int ((p1 &&& (2147483647 : Int32)) % (6 : Int32))), .val (.ref w_r), .val (.int (0 : Int32)), .unset, .unset, .unset] [(.ref w_r)])) _
    refine st3.trans ?_
    show Steps p.tables e below (T3.setTop (mkF m 33 #[.val (.int p1), .val (.int ((p1 &&& (2147483647 : Int32)) % (6 : Int32))), .val (.ref w_r), .val (.int (0 : Int32)), .unset, .unset, .unset] [(.ref vs)])) _
    refine XS.astore X3.here hx rfl (hb hby at_33) rfl rfl (l' := #[.val (.int p1), .val (.int ((p1 &&& (2147483647 : Int32)) % (6 : Int32))), .val (.ref w_r), .val (.int (0 : Int32)), .val (.ref vs), .unset, .unset]) rfl ?_
    show Steps p.tables e below (T3.setTop (mkF m 35 #[.val (.int p1), .val (.int ((p1 &&& (2147483647 : Int32)) % (6 : Int32))), .val (.ref w_r), .val (.int (0 : Int32)), .val (.ref vs), .unset, .unset] [])) _
    refine XS.aload X3.here hx rfl (hb hby at_35) rfl rfl ?_
    show Steps p.tables e below (T3.setTop (mkF m 37 #[.val (.int p1), .val (.int ((p1 &&& (2147483647 : Int32)) % (6 : Int32))), .val (.ref w_r), .val (.int (0 : Int32)), .val (.ref vs), .unset, .unset] [(.ref vs)])) _
    refine st4.trans ?_
    show Steps p.tables e below (T4.setTop (mkF m 40 #[.val (.int p1), .val (.int ((p1 &&& (2147483647 : Int32)) % (6 : Int32))), .val (.ref w_r), .val (.int (0 : Int32)), .val (.ref vs), .unset, .unset] [(.int (z >>> ((0 : Int32) &&& 31)))])) _
    refine XS.ifNo X4.here hx rfl (hb hby at_40) rfl ((if0 _ _).trans (tlt hc40).2.2.2) ?_
    show Steps p.tables e below (T4.setTop (mkF m 43 #[.val (.int p1), .val (.int ((p1 &&& (2147483647 : Int32)) % (6 : Int32))), .val (.ref w_r), .val (.int (0 : Int32)), .val (.ref vs), .unset, .unset] [])) _
    refine XS.aload X4.here hx rfl (hb hby at_43) rfl rfl ?_
    show Steps p.tables e below (T4.setTop (mkF m 45 #[.val (.int p1), .val (.int ((p1 &&& (2147483647 : Int32)) % (6 : Int32))), .val (.ref w_r), .val (.int (0 : Int32)), .val (.ref vs), .unset, .unset] [(.ref vs)])) _
    refine XS.iconst X4.here hx rfl (hb hby at_45) ?_
    show Steps p.tables e below (T4.setTop (mkF m 46 #[.val (.int p1), .val (.int ((p1 &&& (2147483647 : Int32)) % (6 : Int32))), .val (.ref w_r), .val (.int (0 : Int32)), .val (.ref vs), .unset, .unset] [(.int (0 : Int32)), (.ref vs)])) _
    refine st5.trans ?_
    show Steps p.tables e below (T5.setTop (mkF m 49 #[.val (.int p1), .val (.int ((p1 &&& (2147483647 : Int32)) % (6 : Int32))), .val (.ref w_r), .val (.int (0 : Int32)), .val (.ref vs), .unset, .unset] [(.int r)])) _
    refine XS.bipush X5.here hx rfl (hb hby at_49) ?_
    show Steps p.tables e below (T5.setTop (mkF m 51 #[.val (.int p1), .val (.int ((p1 &&& (2147483647 : Int32)) % (6 : Int32))), .val (.ref w_r), .val (.int (0 : Int32)), .val (.ref vs), .unset, .unset] [(.int (60 : Int32)), (.int r)])) _
    refine XS.icmpNo X5.here hx rfl (hb hby at_51) rfl (feq hc51).1 ?_
    show Steps p.tables e below (T5.setTop (mkF m 54 #[.val (.int p1), .val (.int ((p1 &&& (2147483647 : Int32)) % (6 : Int32))), .val (.ref w_r), .val (.int (0 : Int32)), .val (.ref vs), .unset, .unset] [])) _
    refine XS.aload X5.here hx rfl (hb hby at_54) rfl rfl ?_
    show Steps p.tables e below (T5.setTop (mkF m 56 #[.val (.int p1), .val (.int ((p1 &&& (2147483647 : Int32)) % (6 : Int32))), .val (.ref w_r), .val (.int (0 : Int32)), .val (.ref vs), .unset, .unset] [(.ref vs)])) _
    refine XS.iconst X5.here hx rfl (hb hby at_56) ?_
    show Steps p.tables e below (T5.setTop (mkF m 57 #[.val (.int p1), .val (.int ((p1 &&& (2147483647 : Int32)) % (6 : Int32))), .val (.ref w_r), .val (.int (0 : Int32)), .val (.ref vs), .unset, .unset] [(.int (0 : Int32)), (.ref vs)])) _
    refine st6.trans ?_
    show Steps p.tables e below (T6.setTop (mkF m 60 #[.val (.int p1), .val (.int ((p1 &&& (2147483647 : Int32)) % (6 : Int32))), .val (.ref w_r), .val (.int (0 : Int32)), .val (.ref vs), .unset, .unset] [(.int r)])) _
    refine XS.bipush X6.here hx rfl (hb hby at_60) ?_
    show Steps p.tables e below (T6.setTop (mkF m 62 #[.val (.int p1), .val (.int ((p1 &&& (2147483647 : Int32)) % (6 : Int32))), .val (.ref w_r), .val (.int (0 : Int32)), .val (.ref vs), .unset, .unset] [(.int (62 : Int32)), (.int r)])) _
    refine XS.icmpYes X6.here hx rfl (pc0 := 62) (pc' := 69) rfl (hb hby at_62) rfl (feq hc62).2 (by decide) (by decide) ?_
    show Steps p.tables e below (T6.setTop (mkF m 69 #[.val (.int p1), .val (.int ((p1 &&& (2147483647 : Int32)) % (6 : Int32))), .val (.ref w_r), .val (.int (0 : Int32)), .val (.ref vs), .unset, .unset] [])) _
    refine XS.iconst X6.here hx rfl (hb hby at_69) ?_
    show Steps p.tables e below (T6.setTop (mkF m 70 #[.val (.int p1), .val (.int ((p1 &&& (2147483647 : Int32)) % (6 : Int32))), .val (.ref w_r), .val (.int (0 : Int32)), .val (.ref vs), .unset, .unset] [(.int (0 : Int32))])) _
    refine XS.istore X6.here hx rfl (hb hby at_70) rfl (l' := #[.val (.int p1), .val (.int ((p1 &&& (2147483647 : Int32)) % (6 : Int32))), .val (.ref w_r), .val (.int (0 : Int32)), .val (.ref vs), .val (.int (0 : Int32)), .unset]) rfl ?_
    show Steps p.tables e below (T6.setTop (mkF m 72 #[.val (.int p1), .val (.int ((p1 &&& (2147483647 : Int32)) % (6 : Int32))), .val (.ref w_r), .val (.int (0 : Int32)), .val (.ref vs), .val (.int (0 : Int32)), .unset] [])) _
    refine XS.aloadN X6.here hx rfl (hb hby at_72) rfl rfl ?_
    show Steps p.tables e below (T6.setTop (mkF m 73 #[.val (.int p1), .val (.int ((p1 &&& (2147483647 : Int32)) % (6 : Int32))), .val (.ref w_r), .val (.int (0 : Int32)), .val (.ref vs), .val (.int (0 : Int32)), .unset] [(.ref w_r)])) _
    refine st7.trans ?_
    show Steps p.tables e below (T7.setTop (mkF m 76 #[.val (.int p1), .val (.int ((p1 &&& (2147483647 : Int32)) % (6 : Int32))), .val (.ref w_r), .val (.int (0 : Int32)), .val (.ref vs), .val (.int (0 : Int32)), .unset] [(.int (own_ord w_r w_EQUAL w_NOT_EQUAL))])) _
    refine XS.istore X7.here hx rfl (hb hby at_76) rfl (l' := #[.val (.int p1), .val (.int ((p1 &&& (2147483647 : Int32)) % (6 : Int32))), .val (.ref w_r), .val (.int (0 : Int32)), .val (.ref vs), .val (.int (0 : Int32)), .val (.int (own_ord w_r w_EQUAL w_NOT_EQUAL))]) rfl ?_
    show Steps p.tables e below (T7.setTop (mkF m 78 #[.val (.int p1), .val (.int ((p1 &&& (2147483647 : Int32)) % (6 : Int32))), .val (.ref w_r), .val (.int (0 : Int32)), .val (.ref vs), .val (.int (0 : Int32)), .val (.int (own_ord w_r w_EQUAL w_NOT_EQUAL))] [])) _
    refine XS.iload X7.here hx rfl (hb hby at_78) rfl ?_
    show Steps p.tables e below (T7.setTop (mkF m 80 #[.val (.int p1), .val (.int ((p1 &&& (2147483647 : Int32)) % (6 : Int32))), .val (.ref w_r), .val (.int (0 : Int32)), .val (.ref vs), .val (.int (0 : Int32)), .val (.int (own_ord w_r w_EQUAL w_NOT_EQUAL))] [(.int (own_ord w_r w_EQUAL w_NOT_EQUAL))])) _
    refine XS.iloadN X7.here hx rfl (hb hby at_80) rfl ?_
    show Steps p.tables e below (T7.setTop (mkF m 81 #[.val (.int p1), .val (.int ((p1 &&& (2147483647 : Int32)) % (6 : Int32))), .val (.ref w_r), .val (.int (0 : Int32)), .val (.ref vs), .val (.int (0 : Int32)), .val (.int (own_ord w_r w_EQUAL w_NOT_EQUAL))] [(.int (0 : Int32)), (.int (own_ord w_r w_EQUAL w_NOT_EQUAL))])) _
    refine XS.icmpNo X7.here hx rfl (hb hby at_81) rfl (teq hc81).2 ?_
    show Steps p.tables e below (T7.setTop (mkF m 84 #[.val (.int p1), .val (.int ((p1 &&& (2147483647 : Int32)) % (6 : Int32))), .val (.ref w_r), .val (.int (0 : Int32)), .val (.ref vs), .val (.int (0 : Int32)), .val (.int (own_ord w_r w_EQUAL w_NOT_EQUAL))] [])) _
    refine XS.iload X7.here hx rfl (hb hby at_84) rfl ?_
    show Steps p.tables e below (T7.setTop (mkF m 86 #[.val (.int p1), .val (.int ((p1 &&& (2147483647 : Int32)) % (6 : Int32))), .val (.ref w_r), .val (.int (0 : Int32)), .val (.ref vs), .val (.int (0 : Int32)), .val (.int (own_ord w_r w_EQUAL w_NOT_EQUAL))] [(.int (own_ord w_r w_EQUAL w_NOT_EQUAL))])) _
    refine XS.iload X7.here hx rfl (hb hby at_86) rfl ?_
    show Steps p.tables e below (T7.setTop (mkF m 88 #[.val (.int p1), .val (.int ((p1 &&& (2147483647 : Int32)) % (6 : Int32))), .val (.ref w_r), .val (.int (0 : Int32)), .val (.ref vs), .val (.int (0 : Int32)), .val (.int (own_ord w_r w_EQUAL w_NOT_EQUAL))] [(.int (0 : Int32)), (.int (own_ord w_r w_EQUAL w_NOT_EQUAL))])) _
    refine XS.icmpNo X7.here hx rfl (hb hby at_88) rfl (teq hc88).2 ?_
    show Steps p.tables e below (T7.setTop (mkF m 91 #[.val (.int p1), .val (.int ((p1 &&& (2147483647 : Int32)) % (6 : Int32))), .val (.ref w_r), .val (.int (0 : Int32)), .val (.ref vs), .val (.int (0 : Int32)), .val (.int (own_ord w_r w_EQUAL w_NOT_EQUAL))] [])) _
    refine XS.iconst X7.here hx rfl (hb hby at_91) ?_
    show Steps p.tables e below (T7.setTop (mkF m 92 #[.val (.int p1), .val (.int ((p1 &&& (2147483647 : Int32)) % (6 : Int32))), .val (.ref w_r), .val (.int (0 : Int32)), .val (.ref vs), .val (.int (0 : Int32)), .val (.int (own_ord w_r w_EQUAL w_NOT_EQUAL))] [(.int (1 : Int32))])) _
    refine XS.goto X7.here hx rfl (pc0 := 92) (pc' := 96) rfl (hb hby at_92) (by decide) (by decide) ?_
    show Steps p.tables e below (T7.setTop (mkF m 96 #[.val (.int p1), .val (.int ((p1 &&& (2147483647 : Int32)) % (6 : Int32))), .val (.ref w_r), .val (.int (0 : Int32)), .val (.ref vs), .val (.int (0 : Int32)), .val (.int (own_ord w_r w_EQUAL w_NOT_EQUAL))] [(.int (1 : Int32))])) _
    exact retN X7 hx (t := .boolean) Bd.returns (by simp) (hb hby at_96) hr
  · show QP (.int (1 : Int32)) h0 n0 _ T7.heap _
    rw [e7]
    exact ⟨rfl, N7, rfl⟩
set_option maxRecDepth 65536 in
set_option maxHeartbeats 40000000 in
theorem rm0_ftfftff (l : Launch) (Z : State) (a0 : Array Value) (hw : ∀ d ∈ tables_1, d.before a0 Z = true) (ws : List Jvm.Cond) (p1 : Int32) (w_LESS : Addr) (w_LESS_OR_EQUAL : Addr) (w_EQUAL : Addr) (w_NOT_EQUAL : Addr) (w_GREATER_OR_EQUAL : Addr) (w_GREATER : Addr) (w_r : Addr) (vs : Addr) (vb : Addr) (cl : Cell) (z : Int32) (wb : Int32) (wf : Value) (r7 : Int32) (r : Int32) (w_COMPACT_STRINGS : Int32) (h0 : Heap) (n0 : Nat) (Z0 : n0 ≤ h0.size) (E_w_r : Exa Z h0 w_r "com/example/niyama/niyama/relational/model/ScalarComparison$Operator") (E_vs : Exa Z h0 vs "java/lang/String") (S_LESS : Sta Z h0 "com/example/niyama/niyama/relational/model/ScalarComparison$Operator" "LESS" "Lcom/example/niyama/niyama/relational/model/ScalarComparison$Operator;" (.ref w_LESS)) (S_LESS_OR_EQUAL : Sta Z h0 "com/example/niyama/niyama/relational/model/ScalarComparison$Operator" "LESS_OR_EQUAL" "Lcom/example/niyama/niyama/relational/model/ScalarComparison$Operator;" (.ref w_LESS_OR_EQUAL)) (S_EQUAL : Sta Z h0 "com/example/niyama/niyama/relational/model/ScalarComparison$Operator" "EQUAL" "Lcom/example/niyama/niyama/relational/model/ScalarComparison$Operator;" (.ref w_EQUAL)) (S_NOT_EQUAL : Sta Z h0 "com/example/niyama/niyama/relational/model/ScalarComparison$Operator" "NOT_EQUAL" "Lcom/example/niyama/niyama/relational/model/ScalarComparison$Operator;" (.ref w_NOT_EQUAL)) (S_GREATER_OR_EQUAL : Sta Z h0 "com/example/niyama/niyama/relational/model/ScalarComparison$Operator" "GREATER_OR_EQUAL" "Lcom/example/niyama/niyama/relational/model/ScalarComparison$Operator;" (.ref w_GREATER_OR_EQUAL)) (S_GREATER : Sta Z h0 "com/example/niyama/niyama/relational/model/ScalarComparison$Operator" "GREATER" "Lcom/example/niyama/niyama/relational/model/ScalarComparison$Operator;" (.ref w_GREATER)) (hrx : own_pick ((p1 &&& (2147483647 : Int32)) % (6 : Int32)) w_LESS w_LESS_OR_EQUAL w_EQUAL w_NOT_EQUAL w_GREATER_OR_EQUAL w_GREATER = w_r) (F_symbol : Fld Z h0 w_r "com/example/niyama/niyama/relational/model/ScalarComparison$Operator" "symbol" "Ljava/lang/String;" (.ref vs)) (F_value : Fld Z h0 vs "java/lang/String" "value" "[B" (.ref vb)) (F_coder : Fld Z h0 vs "java/lang/String" "coder" "B" (.int (0 : Int32))) (S_COMPACT_STRINGS : Sta Z h0 "java/lang/String" "COMPACT_STRINGS" "Z" (.int w_COMPACT_STRINGS)) (hcs : ¬ (w_COMPACT_STRINGS = (0 : Int32))) (Ar : Arr Z h0 vb cl .byte) (hS : cl.slots.size = z.toNatClampNeg) (hN : ¬ z < 0) (hin : ¬ ((0 : Int32) < 0 ∨ cl.slots.size ≤ ((0 : Int32)).toNatClampNeg)) (hat : cl.slots[((0 : Int32)).toNatClampNeg]? = some (.int wb)) (S_SIOOBE : Sta Z h0 "jdk/internal/util/Preconditions" "SIOOBE_FORMATTER" "Ljava/util/function/BiFunction;" wf) (hwf : wf.isRef = true) (hlo : ¬ ((0 : Int32) < (0 : Int32))) (hhi : (0 : Int32) < z) (hr7 : nar .char ((wb &&& (255 : Int32)).toUInt32.toUInt16.toUInt32.toInt32) = r7) (hr5 : nar .char r7 = r) (hc15 : ¬ (((p1 &&& (2147483647 : Int32)) % (6 : Int32)) = (2 : Int32))) (hc20 : ((p1 &&& (2147483647 : Int32)) % (6 : Int32)) = (3 : Int32)) (hc40 : (0 : Int32) < (z >>> ((0 : Int32) &&& 31))) (hc51 : ¬ (r = (60 : Int32))) (hc62 : ¬ (r = (62 : Int32))) (hc81 : (own_ord w_r w_EQUAL w_NOT_EQUAL) = (0 : Int32)) (hc88 : (own_ord w_r w_EQUAL w_NOT_EQUAL) = (0 : Int32)) :
    MetFree l x (head1 (Jvm.Cond.code x code maxLocals ret :: ws) room_1) (fun a U => a = #[(.int p1)] ∧ Z.Warmed39 U.vm ∧ U.heap = h0) (fun _ _ _ _ _ => True) (fun _ U o U' => ∃ v L, o = .returned v ∧ QP (.int (1 : Int32)) h0 n0 v U'.heap L ∧ FrameEnd U o U' L room_1.cells room_1.slots) := by
  refine MetFree.of_bodySF (plainFor_of_name pn_0) hisR ?_
  intro p e s m args below meth c s₁ Bd hml0 hP hK
  obtain ⟨rfl, hZ, hh⟩ := hP
  have hx := Bd.exec
  have hby := Bd.bytes
  have hml : c.maxLocals = 7 := hml0
  have hown : s.vm.findClass "com/example/niyama/niyama/relational/model/OperatorIsOrderPinLaw" = some m.cls := findClass_of_methodNamed Bd.named
  have hnm := (name_of_methodNamed Bd.named Bd.method).1
  have X0 : Stand p l e room_1 s m #[(.int p1)] below meth c s₁ [] 0 0 := Stand.of_body Bd
  have e0 : s₁.heap = h0 := by rw [← hh, Bd.state]; rfl
  have N0 := Fr.nil n0
  have pre0 : ∀ t, Steps p.tables e below (s₁.setTop (mkF m 0 #[.val (.int p1), .unset, .unset, .unset, .unset, .unset, .unset] [])) t → Steps p.tables e below (s₁.setTop (entryFrame m #[(.int p1)] maxLocals)) t := fun t k => castTop (ef_0 m p1) k
  obtain ⟨_, _, ⟨T2, L2, k2, n2⟩, -, X2, ⟨Lc2, hQ2, l2, y2, z2⟩, st2⟩ := Jvm.LawKit.callS X0 hx (y := (⟨"com/example/niyama/niyama/relational/model/OperatorIsOrderPinLaw", "pick", "(I)Lcom/example/niyama/niyama/relational/model/ScalarComparison$Operator;"⟩ : MethodName)) hown (mvT hZ (hw _ (List.mem_of_getElem? (i := 1) rfl))) (mvT hZ (hw _ (List.mem_of_getElem? (i := 2) rfl))) (mvT hZ (hw _ (List.mem_of_getElem? (i := 3) rfl))) (mvT hZ (hw _ (List.mem_of_getElem? (i := 4) rfl))) (by decide) (backOf (W := 0) (rm1v l Z a0 hw [] ((p1 &&& (2147483647 : Int32)) % (6 : Int32)) w_LESS w_LESS_OR_EQUAL w_EQUAL w_NOT_EQUAL w_GREATER_OR_EQUAL w_GREATER w_r h0 n0 Z0 S_LESS S_LESS_OR_EQUAL S_EQUAL S_NOT_EQUAL S_GREATER_OR_EQUAL S_GREATER hrx) hZ (hw _ (List.mem_of_getElem? (i := 4) rfl)) (hw _ (List.mem_of_getElem? (i := 3) rfl)) (by decide) (by decide)) (g := (mkF m 9 #[.val (.int p1), .val (.int ((p1 &&& (2147483647 : Int32)) % (6 : Int32))), .unset, .unset, .unset, .unset, .unset] [(.int ((p1 &&& (2147483647 : Int32)) % (6 : Int32)))])) rfl (by rw [hml]; rfl) (argsL := [(.int ((p1 &&& (2147483647 : Int32)) % (6 : Int32)))]) (rest := []) (lenOf pd_0_0 rfl) rfl (by show 2 * 0 + _ ≤ _; exact Nat.le_of_eq rfl) (hb hby at_9) (fun _ _ => ⟨rfl, e0, (by decide : 0 + 0 ≤ _), (by decide : 0 + 0 ≤ _)⟩)
  dsimp only [Pt.U, Pt.locs, Pt.cells, Pt.slots] at X2 l2 y2 z2 st2 hQ2
  subst l2 y2 z2
  obtain ⟨rfl, N2q, e2⟩ := hQ2
  have N2 := Fr.app N0 N2q
  obtain ⟨cq3, kq3, q3a, q3b, q3c⟩ := isOf hZ e2 E_w_r
  obtain ⟨_, _, ⟨T3, L3, k3, n3⟩, -, X3, ⟨Lc3, hQ3, l3, y3, z3⟩, st3⟩ := X2.virtualBack hx (y := (⟨"com/example/niyama/niyama/relational/model/ScalarComparison$Operator", "symbol", "()Ljava/lang/String;"⟩ : MethodName)) (z := (⟨"com/example/niyama/niyama/relational/model/ScalarComparison$Operator", "symbol", "()Ljava/lang/String;"⟩ : MethodName)) hown (mvT hZ (hw _ (List.mem_of_getElem? (i := 8) rfl))) (mvT hZ (hw _ (List.mem_of_getElem? (i := 9) rfl))) (notFace_of_selects (args := #[]) (mvT hZ (hw _ (List.mem_of_getElem? (i := 11) rfl)))) (mvT hZ (hw _ (List.mem_of_getElem? (i := 11) rfl))) (mvT hZ (hw _ (List.mem_of_getElem? (i := 10) rfl))) (by decide) (backOf (W := 0) (rm2 l Z a0 hw [] w_r vs h0 n0 Z0 F_symbol) hZ (hw _ (List.mem_of_getElem? (i := 12) rfl)) (hw _ (List.mem_of_getElem? (i := 6) rfl)) (by decide) (by decide)) q3a q3c (g := (mkF m 30 #[.val (.int p1), .val (.int ((p1 &&& (2147483647 : Int32)) % (6 : Int32))), .val (.ref w_r), .val (.int (0 : Int32)), .unset, .unset, .unset] [(.ref w_r)])) rfl (by rw [hml]; rfl) (Steps.refl _) (argsL := []) (rest := []) (lenOf pd_0_1 rfl) rfl (by show 2 * 0 + _ ≤ _; exact Nat.le_of_eq rfl) (hb hby at_30) (fun _ _ => ⟨rfl, e2, (by decide : 0 + 0 ≤ _), (by decide : 0 + 0 ≤ _)⟩)
  dsimp only [Pt.U, Pt.locs, Pt.cells, Pt.slots] at X3 l3 y3 z3 st3 hQ3
  subst l3 y3 z3
  obtain ⟨rfl, N3q, e3⟩ := hQ3
  have N3 := Fr.app N2 N3q
  obtain ⟨cq4, kq4, q4a, q4b, q4c⟩ := isOf hZ e3 E_vs
  obtain ⟨_, _, ⟨T4, L4, k4, n4⟩, -, X4, ⟨Lc4, hQ4, l4, y4, z4⟩, st4⟩ := X3.virtualBack hx (y := (⟨"java/lang/String", "length", "()I"⟩ : MethodName)) (z := (⟨"java/lang/String", "length", "()I"⟩ : MethodName)) hown (mvT hZ (hw _ (List.mem_of_getElem? (i := 15) rfl))) (mvT hZ (hw _ (List.mem_of_getElem? (i := 16) rfl))) (notFace_of_selects (args := #[]) (mvT hZ (hw _ (List.mem_of_getElem? (i := 18) rfl)))) (mvT hZ (hw _ (List.mem_of_getElem? (i := 18) rfl))) (mvT hZ (hw _ (List.mem_of_getElem? (i := 17) rfl))) (by decide) (backOf (W := 0) (rm3 l Z a0 hw [] vs vb cl z w_COMPACT_STRINGS h0 n0 Z0 F_value Ar hS hN E_vs S_COMPACT_STRINGS F_coder hcs) hZ (hw _ (List.mem_of_getElem? (i := 20) rfl)) (hw _ (List.mem_of_getElem? (i := 19) rfl)) (by decide) (by decide)) q4a q4c (g := (mkF m 37 #[.val (.int p1), .val (.int ((p1 &&& (2147483647 : Int32)) % (6 : Int32))), .val (.ref w_r), .val (.int (0 : Int32)), .val (.ref vs), .unset, .unset] [(.ref vs)])) rfl (by rw [hml]; rfl) (Steps.refl _) (argsL := []) (rest := []) (lenOf pd_0_2 rfl) rfl (by show 2 * 0 + _ ≤ _; exact Nat.le_of_eq rfl) (hb hby at_37) (fun _ _ => ⟨rfl, e3, (by decide : 0 + 0 ≤ _), (by decide : 0 + 0 ≤ _)⟩)
  dsimp only [Pt.U, Pt.locs, Pt.cells, Pt.slots] at X4 l4 y4 z4 st4 hQ4
  subst l4 y4 z4
  obtain ⟨rfl, N4q, e4⟩ := hQ4
  have N4 := Fr.app N3 N4q
  obtain ⟨cq5, kq5, q5a, q5b, q5c⟩ := isOf hZ e4 E_vs
  obtain ⟨_, _, ⟨T5, L5, k5, n5⟩, -, X5, ⟨Lc5, hQ5, l5, y5, z5⟩, st5⟩ := X4.virtualBack hx (y := (⟨"java/lang/String", "charAt", "(I)C"⟩ : MethodName)) (z := (⟨"java/lang/String", "charAt", "(I)C"⟩ : MethodName)) hown (mvT hZ (hw _ (List.mem_of_getElem? (i := 31) rfl))) (mvT hZ (hw _ (List.mem_of_getElem? (i := 32) rfl))) (notFace_of_selects (args := #[]) (mvT hZ (hw _ (List.mem_of_getElem? (i := 34) rfl)))) (mvT hZ (hw _ (List.mem_of_getElem? (i := 34) rfl))) (mvT hZ (hw _ (List.mem_of_getElem? (i := 33) rfl))) (by decide) (backOf (W := 0) (rm5v l Z a0 hw [] vs (0 : Int32) vb w_COMPACT_STRINGS cl z wb wf r7 r h0 n0 Z0 E_vs F_value S_COMPACT_STRINGS F_coder hcs Ar hS hN hin hat S_SIOOBE hwf hlo hhi hr7 hr5) hZ (hw _ (List.mem_of_getElem? (i := 35) rfl)) (hw _ (List.mem_of_getElem? (i := 19) rfl)) (by decide) (by decide)) q5a q5c (g := (mkF m 46 #[.val (.int p1), .val (.int ((p1 &&& (2147483647 : Int32)) % (6 : Int32))), .val (.ref w_r), .val (.int (0 : Int32)), .val (.ref vs), .unset, .unset] [(.int (0 : Int32)), (.ref vs)])) rfl (by rw [hml]; rfl) (Steps.refl _) (argsL := [(.int (0 : Int32))]) (rest := []) (lenOf pd_0_4 rfl) rfl (by show 2 * 0 + _ ≤ _; exact Nat.le_of_eq rfl) (hb hby at_46) (fun _ _ => ⟨rfl, e4, (by decide : 0 + 0 ≤ _), (by decide : 0 + 0 ≤ _)⟩)
  dsimp only [Pt.U, Pt.locs, Pt.cells, Pt.slots] at X5 l5 y5 z5 st5 hQ5
  subst l5 y5 z5
  obtain ⟨rfl, N5q, e5⟩ := hQ5
  have N5 := Fr.app N4 N5q
  obtain ⟨cq6, kq6, q6a, q6b, q6c⟩ := isOf hZ e5 E_vs
  obtain ⟨_, _, ⟨T6, L6, k6, n6⟩, -, X6, ⟨Lc6, hQ6, l6, y6, z6⟩, st6⟩ := X5.virtualBack hx (y := (⟨"java/lang/String", "charAt", "(I)C"⟩ : MethodName)) (z := (⟨"java/lang/String", "charAt", "(I)C"⟩ : MethodName)) hown (mvT hZ (hw _ (List.mem_of_getElem? (i := 31) rfl))) (mvT hZ (hw _ (List.mem_of_getElem? (i := 32) rfl))) (notFace_of_selects (args := #[]) (mvT hZ (hw _ (List.mem_of_getElem? (i := 34) rfl)))) (mvT hZ (hw _ (List.mem_of_getElem? (i := 34) rfl))) (mvT hZ (hw _ (List.mem_of_getElem? (i := 33) rfl))) (by decide) (backOf (W := 0) (rm5v l Z a0 hw [] vs (0 : Int32) vb w_COMPACT_STRINGS cl z wb wf r7 r h0 n0 Z0 E_vs F_value S_COMPACT_STRINGS F_coder hcs Ar hS hN hin hat S_SIOOBE hwf hlo hhi hr7 hr5) hZ (hw _ (List.mem_of_getElem? (i := 35) rfl)) (hw _ (List.mem_of_getElem? (i := 19) rfl)) (by decide) (by decide)) q6a q6c (g := (mkF m 57 #[.val (.int p1), .val (.int ((p1 &&& (2147483647 : Int32)) % (6 : Int32))), .val (.ref w_r), .val (.int (0 : Int32)), .val (.ref vs), .unset, .unset] [(.int (0 : Int32)), (.ref vs)])) rfl (by rw [hml]; rfl) (Steps.refl _) (argsL := [(.int (0 : Int32))]) (rest := []) (lenOf pd_0_4 rfl) rfl (by show 2 * 0 + _ ≤ _; exact Nat.le_of_eq rfl) (hb hby at_57) (fun _ _ => ⟨rfl, e5, (by decide : 0 + 0 ≤ _), (by decide : 0 + 0 ≤ _)⟩)
  dsimp only [Pt.U, Pt.locs, Pt.cells, Pt.slots] at X6 l6 y6 z6 st6 hQ6
  subst l6 y6 z6
  obtain ⟨rfl, N6q, e6⟩ := hQ6
  have N6 := Fr.app N5 N6q
  obtain ⟨cq7, kq7, q7a, q7b, q7c⟩ := isOf hZ e6 E_w_r
  obtain ⟨_, _, ⟨T7, L7, k7, n7⟩, -, X7, ⟨Lc7, hQ7, l7, y7, z7⟩, st7⟩ := X6.virtualBack hx (y := (⟨"com/example/niyama/niyama/relational/model/ScalarComparison$Operator", "isOrder", "()Z"⟩ : MethodName)) (z := (⟨"com/example/niyama/niyama/relational/model/ScalarComparison$Operator", "isOrder", "()Z"⟩ : MethodName)) hown (mvT hZ (hw _ (List.mem_of_getElem? (i := 53) rfl))) (mvT hZ (hw _ (List.mem_of_getElem? (i := 54) rfl))) (notFace_of_selects (args := #[]) (mvT hZ (hw _ (List.mem_of_getElem? (i := 56) rfl)))) (mvT hZ (hw _ (List.mem_of_getElem? (i := 56) rfl))) (mvT hZ (hw _ (List.mem_of_getElem? (i := 55) rfl))) (by decide) (backOf (W := 0) (rm10 l Z a0 hw [] w_r w_EQUAL w_NOT_EQUAL h0 n0 Z0 S_EQUAL S_NOT_EQUAL) hZ (hw _ (List.mem_of_getElem? (i := 57) rfl)) (hw _ (List.mem_of_getElem? (i := 6) rfl)) (by decide) (by decide)) q7a q7c (g := (mkF m 73 #[.val (.int p1), .val (.int ((p1 &&& (2147483647 : Int32)) % (6 : Int32))), .val (.ref w_r), .val (.int (0 : Int32)), .val (.ref vs), .val (.int (0 : Int32)), .unset] [(.ref w_r)])) rfl (by rw [hml]; rfl) (Steps.refl _) (argsL := []) (rest := []) (lenOf pd_0_5 rfl) rfl (by show 2 * 0 + _ ≤ _; exact Nat.le_of_eq rfl) (hb hby at_73) (fun _ _ => ⟨rfl, e6, (by decide : 0 + 0 ≤ _), (by decide : 0 + 0 ≤ _)⟩)
  dsimp only [Pt.U, Pt.locs, Pt.cells, Pt.slots] at X7 l7 y7 z7 st7 hQ7
  subst l7 y7 z7
  obtain ⟨rfl, N7q, e7⟩ := hQ7
  have N7 := Fr.app N6 N7q
  obtain ⟨fs, hr, hrun, hended, hW, hsame⟩ := X7.leave (v := some (.int (1 : Int32))) (fun h => by rw [Bd.returns] at h; cases h)
  refine ⟨_, _, pre0 _ ?_, hrun, hended, _, _, rfl, ?_, ⟨_, rfl⟩, hW, hsame.mono (by decide) (by decide)⟩
  · show Steps p.tables e below (s₁.setTop (mkF m 0 #[.val (.int p1), .unset, .unset, .unset, .unset, .unset, .unset] [])) _
    refine XS.iloadN X0.here hx rfl (hb hby at_0) rfl ?_
    show Steps p.tables e below (s₁.setTop (mkF m 1 #[.val (.int p1), .unset, .unset, .unset, .unset, .unset, .unset] [(.int p1)])) _
    refine X0.ldcInt hx hown (mvT hZ (hw _ (List.mem_of_getElem? (i := 0) rfl))) (g := (mkF m 1 #[.val (.int p1), .unset, .unset, .unset, .unset, .unset, .unset] [(.int p1)])) rfl (hb hby at_1) _ ?_
    show Steps p.tables e below (s₁.setTop (mkF m 3 #[.val (.int p1), .unset, .unset, .unset, .unset, .unset, .unset] [(.int (2147483647 : Int32)), (.int p1)])) _
    refine XS.iand X0.here hx rfl (hb hby at_3) rfl ?_
    show Steps p.tables e below (s₁.setTop (mkF m 4 #[.val (.int p1), .unset, .unset, .unset, .unset, .unset, .unset] [(.int (p1 &&& (2147483647 : Int32)))])) _
    refine XS.bipush X0.here hx rfl (hb hby at_4) ?_
    show Steps p.tables e below (s₁.setTop (mkF m 6 #[.val (.int p1), .unset, .unset, .unset, .unset, .unset, .unset] [(.int (6 : Int32)), (.int (p1 &&& (2147483647 : Int32)))])) _
    refine iremM X0 hx rfl (hb hby at_6) rfl (by decide) ?_
    show Steps p.tables e below (s₁.setTop (mkF m 7 #[.val (.int p1), .unset, .unset, .unset, .unset, .unset, .unset] [(.int ((p1 &&& (2147483647 : Int32)) % (6 : Int32)))])) _
    refine XS.istoreN X0.here hx rfl (hb hby at_7) rfl (l' := #[.val (.int p1), .val (.int ((p1 &&& (2147483647 : Int32)) % (6 : Int32))), .unset, .unset, .unset, .unset, .unset]) rfl ?_
    show Steps p.tables e below (s₁.setTop (mkF m 8 #[.val (.int p1), .val (.int ((p1 &&& (2147483647 : Int32)) % (6 : Int32))), .unset, .unset, .unset, .unset, .unset] [])) _
    refine XS.iloadN X0.here hx rfl (hb hby at_8) rfl ?_
    show Steps p.tables e below (s₁.setTop (mkF m 9 #[.val (.int p1), .val (.int ((p1 &&& (2147483647 : Int32)) % (6 : Int32))), .unset, .unset, .unset, .unset, .unset] [(.int ((p1 &&& (2147483647 : Int32)) % (6 : Int32)))])) _
    refine st2 _ ?_
    show Steps p.tables e below (T2.setTop (mkF m 12 #[.val (.int p1), .val (.int ((p1 &&& (2147483647 : Int32)) % (6 : Int32))), .unset, .unset, .unset, .unset, .unset] [(.ref w_r)])) _
    refine XS.astoreN X2.here hx rfl (hb hby at_12) rfl rfl (l' := #[.val (.int p1), .val (.int ((p1 &&& (2147483647 : Int32)) % (6 : Int32))), .val (.ref w_r), .unset, .unset, .unset, .unset]) rfl ?_
    show Steps p.tables e below (T2.setTop (mkF m 13 #[.val (.int p1), .val (.int ((p1 &&& (2147483647 : Int32)) % (6 : Int32))), .val (.ref w_r), .unset, .unset, .unset, .unset] [])) _
    refine XS.iloadN X2.here hx rfl (hb hby at_13) rfl ?_
    show Steps p.tables e below (T2.setTop (mkF m 14 #[.val (.int p1), .val (.int ((p1 &&& (2147483647 : Int32)) % (6 : Int32))), .val (.ref w_r), .unset, .unset, .unset, .unset] [(.int ((p1 &&& (2147483647 : Int32)) % (6 : Int32)))])) _
    refine XS.iconst X2.here hx rfl (hb hby at_14) ?_
    show Steps p.tables e below (T2.setTop (mkF m 15 #[.val (.int p1), .val (.int ((p1 &&& (2147483647 : Int32)) % (6 : Int32))), .val (.ref w_r), .unset, .unset, .unset, .unset] [(.int (2 : Int32)), (.int ((p1 &&& (2147483647 : Int32)) % (6 : Int32)))])) _
    refine XS.icmpNo X2.here hx rfl (hb hby at_15) rfl (feq hc15).1 ?_
    show Steps p.tables e below (T2.setTop (mkF m 18 #[.val (.int p1), .val (.int ((p1 &&& (2147483647 : Int32)) % (6 : Int32))), .val (.ref w_r), .unset, .unset, .unset, .unset] [])) _
    refine XS.iloadN X2.here hx rfl (hb hby at_18) rfl ?_
    show Steps p.tables e below (T2.setTop (mkF m 19 #[.val (.int p1), .val (.int ((p1 &&& (2147483647 : Int32)) % (6 : Int32))), .val (.ref w_r), .unset, .unset, .unset, .unset] [(.int ((p1 &&& (2147483647 : Int32)) % (6 : Int32)))])) _
    refine XS.iconst X2.here hx rfl (hb hby at_19) ?_
    show Steps p.tables e below (T2.setTop (mkF m 20 #[.val (.int p1), .val (.int ((p1 &&& (2147483647 : Int32)) % (6 : Int32))), .val (.ref w_r), .unset, .unset, .unset, .unset] [(.int (3 : Int32)), (.int ((p1 &&& (2147483647 : Int32)) % (6 : Int32)))])) _
    refine XS.icmpYes X2.here hx rfl (pc0 := 20) (pc' := 27) rfl (hb hby at_20) rfl (teq hc20).1 (by decide) (by decide) ?_
    show Steps p.tables e below (T2.setTop (mkF m 27 #[.val (.int p1), .val (.int ((p1 &&& (2147483647 : Int32)) % (6 : Int32))), .val (.ref w_r), .unset, .unset, .unset, .unset] [])) _
    refine XS.iconst X2.here hx rfl (hb hby at_27) ?_
    show Steps p.tables e below (T2.setTop (mkF m 28 #[.val (.int p1), .val (.int ((p1 &&& (2147483647 : Int32)) % (6 : Int32))), .val (.ref w_r), .unset, .unset, .unset, .unset] [(.int (0 : Int32))])) _
    refine XS.istoreN X2.here hx rfl (hb hby at_28) rfl (l' := #[.val (.int p1), .val (.int ((p1 &&& (2147483647 : Int32)) % (6 : Int32))), .val (.ref w_r), .val (.int (0 : Int32)), .unset, .unset, .unset]) rfl ?_
    show Steps p.tables e below (T2.setTop (mkF m 29 #[.val (.int p1), .val (.int ((p1 &&& (2147483647 : Int32)) % (6 : Int32))), .val (.ref w_r), .val (.int (0 : Int32)), .unset, .unset, .unset] [])) _
    refine XS.aloadN X2.here hx rfl (hb hby at_29) rfl rfl ?_
    show Steps p.tables e below (T2.setTop (mkF m 30 #[.val (.int p1), .val (.int ((p1 &&& (2147483647 : Int32)) % (6 : Int32))), .val (.ref w_r), .val (.int (0 : Int32)), .unset, .unset, .unset] [(.ref w_r)])) _
    refine st3.trans ?_
    show Steps p.tables e below (T3.setTop (mkF m 33 #[.val (.int p1), .val (.int ((p1 &&& (2147483647 : Int32)) % (6 : Int32))), .val (.ref w_r), .val (.int (0 : Int32)), .unset, .unset, .unset] [(.ref vs)])) _
    refine XS.astore X3.here hx rfl (hb hby at_33) rfl rfl (l' := #[.val (.int p1), .val (.int ((p1 &&& (2147483647 : Int32)) % (6 : Int32))), .val (.ref w_r), .val (.int (0 : Int32)), .val (.ref vs), .unset, .unset]) rfl ?_
    show Steps p.tables e below (T3.setTop (mkF m 35 #[.val (.int p1), .val (.int ((p1 &&& (2147483647 : Int32)) % (6 : Int32))), .val (.ref w_r), .val (.int (0 : Int32)), .val (.ref vs), .unset, .unset] [])) _
    refine XS.aload X3.here hx rfl (hb hby at_35) rfl rfl ?_
    show Steps p.tables e below (T3.setTop (mkF m 37 #[.val (.int p1), .val (.int ((p1 &&& (2147483647 : Int32)) % (6 : Int32))), .val (.ref w_r), .val (.int (0 : Int32)), .val (.ref vs), .unset, .unset] [(.ref vs)])) _
    refine st4.trans ?_
    show Steps p.tables e below (T4.setTop (mkF m 40 #[.val (.int p1), .val (.int ((p1 &&& (2147483647 : Int32)) % (6 : Int32))), .val (.ref w_r), .val (.int (0 : Int32)), .val (.ref vs), .unset, .unset] [(.int (z >>> ((0 : Int32) &&& 31)))])) _
    refine XS.ifNo X4.here hx rfl (hb hby at_40) rfl ((if0 _ _).trans (tlt hc40).2.2.2) ?_
    show Steps p.tables e below (T4.setTop (mkF m 43 #[.val (.int p1), .val (.int ((p1 &&& (2147483647 : Int32)) % (6 : Int32))), .val (.ref w_r), .val (.int (0 : Int32)), .val (.ref vs), .unset, .unset] [])) _
    refine XS.aload X4.here hx rfl (hb hby at_43) rfl rfl ?_
    show Steps p.tables e below (T4.setTop (mkF m 45 #[.val (.int p1), .val (.int ((p1 &&& (2147483647 : Int32)) % (6 : Int32))), .val (.ref w_r), .val (.int (0 : Int32)), .val (.ref vs), .unset, .unset] [(.ref vs)])) _
    refine XS.iconst X4.here hx rfl (hb hby at_45) ?_
    show Steps p.tables e below (T4.setTop (mkF m 46 #[.val (.int p1), .val (.int ((p1 &&& (2147483647 : Int32)) % (6 : Int32))), .val (.ref w_r), .val (.int (0 : Int32)), .val (.ref vs), .unset, .unset] [(.int (0 : Int32)), (.ref vs)])) _
    refine st5.trans ?_
    show Steps p.tables e below (T5.setTop (mkF m 49 #[.val (.int p1), .val (.int ((p1 &&& (2147483647 : Int32)) % (6 : Int32))), .val (.ref w_r), .val (.int (0 : Int32)), .val (.ref vs), .unset, .unset] [(.int r)])) _
    refine XS.bipush X5.here hx rfl (hb hby at_49) ?_
    show Steps p.tables e below (T5.setTop (mkF m 51 #[.val (.int p1), .val (.int ((p1 &&& (2147483647 : Int32)) % (6 : Int32))), .val (.ref w_r), .val (.int (0 : Int32)), .val (.ref vs), .unset, .unset] [(.int (60 : Int32)), (.int r)])) _
    refine XS.icmpNo X5.here hx rfl (hb hby at_51) rfl (feq hc51).1 ?_
    show Steps p.tables e below (T5.setTop (mkF m 54 #[.val (.int p1), .val (.int ((p1 &&& (2147483647 : Int32)) % (6 : Int32))), .val (.ref w_r), .val (.int (0 : Int32)), .val (.ref vs), .unset, .unset] [])) _
    refine XS.aload X5.here hx rfl (hb hby at_54) rfl rfl ?_
    show Steps p.tables e below (T5.setTop (mkF m 56 #[.val (.int p1), .val (.int ((p1 &&& (2147483647 : Int32)) % (6 : Int32))), .val (.ref w_r), .val (.int (0 : Int32)), .val (.ref vs), .unset, .unset] [(.ref vs)])) _
    refine XS.iconst X5.here hx rfl (hb hby at_56) ?_
    show Steps p.tables e below (T5.setTop (mkF m 57 #[.val (.int p1), .val (.int ((p1 &&& (2147483647 : Int32)) % (6 : Int32))), .val (.ref w_r), .val (.int (0 : Int32)), .val (.ref vs), .unset, .unset] [(.int (0 : Int32)), (.ref vs)])) _
    refine st6.trans ?_
    show Steps p.tables e below (T6.setTop (mkF m 60 #[.val (.int p1), .val (.int ((p1 &&& (2147483647 : Int32)) % (6 : Int32))), .val (.ref w_r), .val (.int (0 : Int32)), .val (.ref vs), .unset, .unset] [(.int r)])) _
    refine XS.bipush X6.here hx rfl (hb hby at_60) ?_
    show Steps p.tables e below (T6.setTop (mkF m 62 #[.val (.int p1), .val (.int ((p1 &&& (2147483647 : Int32)) % (6 : Int32))), .val (.ref w_r), .val (.int (0 : Int32)), .val (.ref vs), .unset, .unset] [(.int (62 : Int32)), (.int r)])) _
    refine XS.icmpYes X6.here hx rfl (pc0 := 62) (pc' := 69) rfl (hb hby at_62) rfl (feq hc62).2 (by decide) (by decide) ?_
    show Steps p.tables e below (T6.setTop (mkF m 69 #[.val (.int p1), .val (.int ((p1 &&& (2147483647 : Int32)) % (6 : Int32))), .val (.ref w_r), .val (.int (0 : Int32)), .val (.ref vs), .unset, .unset] [])) _
    refine XS.iconst X6.here hx rfl (hb hby at_69) ?_
    show Steps p.tables e below (T6.setTop (mkF m 70 #[.val (.int p1), .val (.int ((p1 &&& (2147483647 : Int32)) % (6 : Int32))), .val (.ref w_r), .val (.int (0 : Int32)), .val (.ref vs), .unset, .unset] [(.int (0 : Int32))])) _
    refine XS.istore X6.here hx rfl (hb hby at_70) rfl (l' := #[.val (.int p1), .val (.int ((p1 &&& (2147483647 : Int32)) % (6 : Int32))), .val (.ref w_r), .val (.int (0 : Int32)), .val (.ref vs), .val (.int (0 : Int32)), .unset]) rfl ?_
    show Steps p.tables e below (T6.setTop (mkF m 72 #[.val (.int p1), .val (.int ((p1 &&& (2147483647 : Int32)) % (6 : Int32))), .val (.ref w_r), .val (.int (0 : Int32)), .val (.ref vs), .val (.int (0 : Int32)), .unset] [])) _
    refine XS.aloadN X6.here hx rfl (hb hby at_72) rfl rfl ?_
    show Steps p.tables e below (T6.setTop (mkF m 73 #[.val (.int p1), .val (.int ((p1 &&& (2147483647 : Int32)) % (6 : Int32))), .val (.ref w_r), .val (.int (0 : Int32)), .val (.ref vs), .val (.int (0 : Int32)), .unset] [(.ref w_r)])) _
    refine st7.trans ?_
    show Steps p.tables e below (T7.setTop (mkF m 76 #[.val (.int p1), .val (.int ((p1 &&& (2147483647 : Int32)) % (6 : Int32))), .val (.ref w_r), .val (.int (0 : Int32)), .val (.ref vs), .val (.int (0 : Int32)), .unset] [(.int (own_ord w_r w_EQUAL w_NOT_EQUAL))])) _
    refine XS.istore X7.here hx rfl (hb hby at_76) rfl (l' := #[.val (.int p1), .val (.int ((p1 &&& (2147483647 : Int32)) % (6 : Int32))), .val (.ref w_r), .val (.int (0 : Int32)), .val (.ref vs), .val (.int (0 : Int32)), .val (.int (own_ord w_r w_EQUAL w_NOT_EQUAL))]) rfl ?_
    show Steps p.tables e below (T7.setTop (mkF m 78 #[.val (.int p1), .val (.int ((p1 &&& (2147483647 : Int32)) % (6 : Int32))), .val (.ref w_r), .val (.int (0 : Int32)), .val (.ref vs), .val (.int (0 : Int32)), .val (.int (own_ord w_r w_EQUAL w_NOT_EQUAL))] [])) _
    refine XS.iload X7.here hx rfl (hb hby at_78) rfl ?_
    show Steps p.tables e below (T7.setTop (mkF m 80 #[.val (.int p1), .val (.int ((p1 &&& (2147483647 : Int32)) % (6 : Int32))), .val (.ref w_r), .val (.int (0 : Int32)), .val (.ref vs), .val (.int (0 : Int32)), .val (.int (own_ord w_r w_EQUAL w_NOT_EQUAL))] [(.int (own_ord w_r w_EQUAL w_NOT_EQUAL))])) _
    refine XS.iloadN X7.here hx rfl (hb hby at_80) rfl ?_
    show Steps p.tables e below (T7.setTop (mkF m 81 #[.val (.int p1), .val (.int ((p1 &&& (2147483647 : Int32)) % (6 : Int32))), .val (.ref w_r), .val (.int (0 : Int32)), .val (.ref vs), .val (.int (0 : Int32)), .val (.int (own_ord w_r w_EQUAL w_NOT_EQUAL))] [(.int (0 : Int32)), (.int (own_ord w_r w_EQUAL w_NOT_EQUAL))])) _
    refine XS.icmpNo X7.here hx rfl (hb hby at_81) rfl (teq hc81).2 ?_
    show Steps p.tables e below (T7.setTop (mkF m 84 #[.val (.int p1), .val (.int ((p1 &&& (2147483647 : Int32)) % (6 : Int32))), .val (.ref w_r), .val (.int (0 : Int32)), .val (.ref vs), .val (.int (0 : Int32)), .val (.int (own_ord w_r w_EQUAL w_NOT_EQUAL))] [])) _
    refine XS.iload X7.here hx rfl (hb hby at_84) rfl ?_
    show Steps p.tables e below (T7.setTop (mkF m 86 #[.val (.int p1), .val (.int ((p1 &&& (2147483647 : Int32)) % (6 : Int32))), .val (.ref w_r), .val (.int (0 : Int32)), .val (.ref vs), .val (.int (0 : Int32)), .val (.int (own_ord w_r w_EQUAL w_NOT_EQUAL))] [(.int (own_ord w_r w_EQUAL w_NOT_EQUAL))])) _
    refine XS.iload X7.here hx rfl (hb hby at_86) rfl ?_
    show Steps p.tables e below (T7.setTop (mkF m 88 #[.val (.int p1), .val (.int ((p1 &&& (2147483647 : Int32)) % (6 : Int32))), .val (.ref w_r), .val (.int (0 : Int32)), .val (.ref vs), .val (.int (0 : Int32)), .val (.int (own_ord w_r w_EQUAL w_NOT_EQUAL))] [(.int (0 : Int32)), (.int (own_ord w_r w_EQUAL w_NOT_EQUAL))])) _
    refine XS.icmpNo X7.here hx rfl (hb hby at_88) rfl (teq hc88).2 ?_
    show Steps p.tables e below (T7.setTop (mkF m 91 #[.val (.int p1), .val (.int ((p1 &&& (2147483647 : Int32)) % (6 : Int32))), .val (.ref w_r), .val (.int (0 : Int32)), .val (.ref vs), .val (.int (0 : Int32)), .val (.int (own_ord w_r w_EQUAL w_NOT_EQUAL))] [])) _
    refine XS.iconst X7.here hx rfl (hb hby at_91) ?_
    show Steps p.tables e below (T7.setTop (mkF m 92 #[.val (.int p1), .val (.int ((p1 &&& (2147483647 : Int32)) % (6 : Int32))), .val (.ref w_r), .val (.int (0 : Int32)), .val (.ref vs), .val (.int (0 : Int32)), .val (.int (own_ord w_r w_EQUAL w_NOT_EQUAL))] [(.int (1 : Int32))])) _
    refine XS.goto X7.here hx rfl (pc0 := 92) (pc' := 96) rfl (hb hby at_92) (by decide) (by decide) ?_
    show Steps p.tables e below (T7.setTop (mkF m 96 #[.val (.int p1), .val (.int ((p1 &&& (2147483647 : Int32)) % (6 : Int32))), .val (.ref w_r), .val (.int (0 : Int32)), .val (.ref vs), .val (.int (0 : Int32)), .val (.int (own_ord w_r w_EQUAL w_NOT_EQUAL))] [(.int (1 : Int32))])) _
    exact retN X7 hx (t := .boolean) Bd.returns (by simp) (hb hby at_96) hr
  · show QP (.int (1 : Int32)) h0 n0 _ T7.heap _
    rw [e7]
    exact ⟨rfl, N7, rfl⟩
set_option maxRecDepth 65536 in
set_option maxHeartbeats 40000000 in
theorem rm0_fffffff (l : Launch) (Z : State) (a0 : Array Value) (hw : ∀ d ∈ tables_1, d.before a0 Z = true) (ws : List Jvm.Cond) (p1 : Int32) (w_LESS : Addr) (w_LESS_OR_EQUAL : Addr) (w_EQUAL : Addr) (w_NOT_EQUAL : Addr) (w_GREATER_OR_EQUAL : Addr) (w_GREATER : Addr) (w_r : Addr) (vs : Addr) (vb : Addr) (cl : Cell) (z : Int32) (wb : Int32) (wf : Value) (r7 : Int32) (r : Int32) (w_COMPACT_STRINGS : Int32) (h0 : Heap) (n0 : Nat) (Z0 : n0 ≤ h0.size) (E_w_r : Exa Z h0 w_r "com/example/niyama/niyama/relational/model/ScalarComparison$Operator") (E_vs : Exa Z h0 vs "java/lang/String") (S_LESS : Sta Z h0 "com/example/niyama/niyama/relational/model/ScalarComparison$Operator" "LESS" "Lcom/example/niyama/niyama/relational/model/ScalarComparison$Operator;" (.ref w_LESS)) (S_LESS_OR_EQUAL : Sta Z h0 "com/example/niyama/niyama/relational/model/ScalarComparison$Operator" "LESS_OR_EQUAL" "Lcom/example/niyama/niyama/relational/model/ScalarComparison$Operator;" (.ref w_LESS_OR_EQUAL)) (S_EQUAL : Sta Z h0 "com/example/niyama/niyama/relational/model/ScalarComparison$Operator" "EQUAL" "Lcom/example/niyama/niyama/relational/model/ScalarComparison$Operator;" (.ref w_EQUAL)) (S_NOT_EQUAL : Sta Z h0 "com/example/niyama/niyama/relational/model/ScalarComparison$Operator" "NOT_EQUAL" "Lcom/example/niyama/niyama/relational/model/ScalarComparison$Operator;" (.ref w_NOT_EQUAL)) (S_GREATER_OR_EQUAL : Sta Z h0 "com/example/niyama/niyama/relational/model/ScalarComparison$Operator" "GREATER_OR_EQUAL" "Lcom/example/niyama/niyama/relational/model/ScalarComparison$Operator;" (.ref w_GREATER_OR_EQUAL)) (S_GREATER : Sta Z h0 "com/example/niyama/niyama/relational/model/ScalarComparison$Operator" "GREATER" "Lcom/example/niyama/niyama/relational/model/ScalarComparison$Operator;" (.ref w_GREATER)) (hrx : own_pick ((p1 &&& (2147483647 : Int32)) % (6 : Int32)) w_LESS w_LESS_OR_EQUAL w_EQUAL w_NOT_EQUAL w_GREATER_OR_EQUAL w_GREATER = w_r) (F_symbol : Fld Z h0 w_r "com/example/niyama/niyama/relational/model/ScalarComparison$Operator" "symbol" "Ljava/lang/String;" (.ref vs)) (F_value : Fld Z h0 vs "java/lang/String" "value" "[B" (.ref vb)) (F_coder : Fld Z h0 vs "java/lang/String" "coder" "B" (.int (0 : Int32))) (S_COMPACT_STRINGS : Sta Z h0 "java/lang/String" "COMPACT_STRINGS" "Z" (.int w_COMPACT_STRINGS)) (hcs : ¬ (w_COMPACT_STRINGS = (0 : Int32))) (Ar : Arr Z h0 vb cl .byte) (hS : cl.slots.size = z.toNatClampNeg) (hN : ¬ z < 0) (hin : ¬ ((0 : Int32) < 0 ∨ cl.slots.size ≤ ((0 : Int32)).toNatClampNeg)) (hat : cl.slots[((0 : Int32)).toNatClampNeg]? = some (.int wb)) (S_SIOOBE : Sta Z h0 "jdk/internal/util/Preconditions" "SIOOBE_FORMATTER" "Ljava/util/function/BiFunction;" wf) (hwf : wf.isRef = true) (hlo : ¬ ((0 : Int32) < (0 : Int32))) (hhi : (0 : Int32) < z) (hr7 : nar .char ((wb &&& (255 : Int32)).toUInt32.toUInt16.toUInt32.toInt32) = r7) (hr5 : nar .char r7 = r) (hc15 : ¬ (((p1 &&& (2147483647 : Int32)) % (6 : Int32)) = (2 : Int32))) (hc20 : ¬ (((p1 &&& (2147483647 : Int32)) % (6 : Int32)) = (3 : Int32))) (hc40 : (0 : Int32) < (z >>> ((0 : Int32) &&& 31))) (hc51 : ¬ (r = (60 : Int32))) (hc62 : r = (62 : Int32)) (hc81 : (own_ord w_r w_EQUAL w_NOT_EQUAL) = (1 : Int32)) (hc88 : (own_ord w_r w_EQUAL w_NOT_EQUAL) = (1 : Int32)) :
    MetFree l x (head1 (Jvm.Cond.code x code maxLocals ret :: ws) room_1) (fun a U => a = #[(.int p1)] ∧ Z.Warmed39 U.vm ∧ U.heap = h0) (fun _ _ _ _ _ => True) (fun _ U o U' => ∃ v L, o = .returned v ∧ QP (.int (1 : Int32)) h0 n0 v U'.heap L ∧ FrameEnd U o U' L room_1.cells room_1.slots) := by
  refine MetFree.of_bodySF (plainFor_of_name pn_0) hisR ?_
  intro p e s m args below meth c s₁ Bd hml0 hP hK
  obtain ⟨rfl, hZ, hh⟩ := hP
  have hx := Bd.exec
  have hby := Bd.bytes
  have hml : c.maxLocals = 7 := hml0
  have hown : s.vm.findClass "com/example/niyama/niyama/relational/model/OperatorIsOrderPinLaw" = some m.cls := findClass_of_methodNamed Bd.named
  have hnm := (name_of_methodNamed Bd.named Bd.method).1
  have X0 : Stand p l e room_1 s m #[(.int p1)] below meth c s₁ [] 0 0 := Stand.of_body Bd
  have e0 : s₁.heap = h0 := by rw [← hh, Bd.state]; rfl
  have N0 := Fr.nil n0
  have pre0 : ∀ t, Steps p.tables e below (s₁.setTop (mkF m 0 #[.val (.int p1), .unset, .unset, .unset, .unset, .unset, .unset] [])) t → Steps p.tables e below (s₁.setTop (entryFrame m #[(.int p1)] maxLocals)) t := fun t k => castTop (ef_0 m p1) k
  obtain ⟨_, _, ⟨T2, L2, k2, n2⟩, -, X2, ⟨Lc2, hQ2, l2, y2, z2⟩, st2⟩ := Jvm.LawKit.callS X0 hx (y := (⟨"com/example/niyama/niyama/relational/model/OperatorIsOrderPinLaw", "pick", "(I)Lcom/example/niyama/niyama/relational/model/ScalarComparison$Operator;"⟩ : MethodName)) hown (mvT hZ (hw _ (List.mem_of_getElem? (i := 1) rfl))) (mvT hZ (hw _ (List.mem_of_getElem? (i := 2) rfl))) (mvT hZ (hw _ (List.mem_of_getElem? (i := 3) rfl))) (mvT hZ (hw _ (List.mem_of_getElem? (i := 4) rfl))) (by decide) (backOf (W := 0) (rm1v l Z a0 hw [] ((p1 &&& (2147483647 : Int32)) % (6 : Int32)) w_LESS w_LESS_OR_EQUAL w_EQUAL w_NOT_EQUAL w_GREATER_OR_EQUAL w_GREATER w_r h0 n0 Z0 S_LESS S_LESS_OR_EQUAL S_EQUAL S_NOT_EQUAL S_GREATER_OR_EQUAL S_GREATER hrx) hZ (hw _ (List.mem_of_getElem? (i := 4) rfl)) (hw _ (List.mem_of_getElem? (i := 3) rfl)) (by decide) (by decide)) (g := (mkF m 9 #[.val (.int p1), .val (.int ((p1 &&& (2147483647 : Int32)) % (6 : Int32))), .unset, .unset, .unset, .unset, .unset] [(.int ((p1 &&& (2147483647 : Int32)) % (6 : Int32)))])) rfl (by rw [hml]; rfl) (argsL := [(.int ((p1 &&& (2147483647 : Int32)) % (6 : Int32)))]) (rest := []) (lenOf pd_0_0 rfl) rfl (by show 2 * 0 + _ ≤ _; exact Nat.le_of_eq rfl) (hb hby at_9) (fun _ _ => ⟨rfl, e0, (by decide : 0 + 0 ≤ _), (by decide : 0 + 0 ≤ _)⟩)
  dsimp only [Pt.U, Pt.locs, Pt.cells, Pt.slots] at X2 l2 y2 z2 st2 hQ2
  subst l2 y2 z2
  obtain ⟨rfl, N2q, e2⟩ := hQ2
  have N2 := Fr.app N0 N2q
  obtain ⟨cq3, kq3, q3a, q3b, q3c⟩ := isOf hZ e2 E_w_r
  obtain ⟨_, _, ⟨T3, L3, k3, n3⟩, -, X3, ⟨Lc3, hQ3, l3, y3, z3⟩, st3⟩ := X2.virtualBack hx (y := (⟨"com/example/niyama/niyama/relational/model/ScalarComparison$Operator", "symbol", "()Ljava/lang/String;"⟩ : MethodName)) (z := (⟨"com/example/niyama/niyama/relational/model/ScalarComparison$Operator", "symbol", "()Ljava/lang/String;"⟩ : MethodName)) hown (mvT hZ (hw _ (List.mem_of_getElem? (i := 8) rfl))) (mvT hZ (hw _ (List.mem_of_getElem? (i := 9) rfl))) (notFace_of_selects (args := #[]) (mvT hZ (hw _ (List.mem_of_getElem? (i := 11) rfl)))) (mvT hZ (hw _ (List.mem_of_getElem? (i := 11) rfl))) (mvT hZ (hw _ (List.mem_of_getElem? (i := 10) rfl))) (by decide) (backOf (W := 0) (rm2 l Z a0 hw [] w_r vs h0 n0 Z0 F_symbol) hZ (hw _ (List.mem_of_getElem? (i := 12) rfl)) (hw _ (List.mem_of_getElem? (i := 6) rfl)) (by decide) (by decide)) q3a q3c (g := (mkF m 30 #[.val (.int p1), .val (.int ((p1 &&& (2147483647 : Int32)) % (6 : Int32))), .val (.ref w_r), .val (.int (1 : Int32)), .unset, .unset, .unset] [(.ref w_r)])) rfl (by rw [hml]; rfl) (Steps.refl _) (argsL := []) (rest := []) (lenOf pd_0_1 rfl) rfl (by show 2 * 0 + _ ≤ _; exact Nat.le_of_eq rfl) (hb hby at_30) (fun _ _ => ⟨rfl, e2, (by decide : 0 + 0 ≤ _), (by decide : 0 + 0 ≤ _)⟩)
  dsimp only [Pt.U, Pt.locs, Pt.cells, Pt.slots] at X3 l3 y3 z3 st3 hQ3
  subst l3 y3 z3
  obtain ⟨rfl, N3q, e3⟩ := hQ3
  have N3 := Fr.app N2 N3q
  obtain ⟨cq4, kq4, q4a, q4b, q4c⟩ := isOf hZ e3 E_vs
  obtain ⟨_, _, ⟨T4, L4, k4, n4⟩, -, X4, ⟨Lc4, hQ4, l4, y4, z4⟩, st4⟩ := X3.virtualBack hx (y := (⟨"java/lang/String", "length", "()I"⟩ : MethodName)) (z := (⟨"java/lang/String", "length", "()I"⟩ : MethodName)) hown (mvT hZ (hw _ (List.mem_of_getElem? (i := 15) rfl))) (mvT hZ (hw _ (List.mem_of_getElem? (i := 16) rfl))) (notFace_of_selects (args := #[]) (mvT hZ (hw _ (List.mem_of_getElem? (i := 18) rfl)))) (mvT hZ (hw _ (List.mem_of_getElem? (i := 18) rfl))) (mvT hZ (hw _ (List.mem_of_getElem? (i := 17) rfl))) (by decide) (backOf (W := 0) (rm3 l Z a0 hw [] vs vb cl z w_COMPACT_STRINGS h0 n0 Z0 F_value Ar hS hN E_vs S_COMPACT_STRINGS F_coder hcs) hZ (hw _ (List.mem_of_getElem? (i := 20) rfl)) (hw _ (List.mem_of_getElem? (i := 19) rfl)) (by decide) (by decide)) q4a q4c (g := (mkF m 37 #[.val (.int p1), .val (.int ((p1 &&& (2147483647 : Int32)) % (6 : Int32))), .val (.ref w_r), .val (.int (1 : Int32)), .val (.ref vs), .unset, .unset] [(.ref vs)])) rfl (by rw [hml]; rfl) (Steps.refl _) (argsL := []) (rest := []) (lenOf pd_0_2 rfl) rfl (by show 2 * 0 + _ ≤ _; exact Nat.le_of_eq rfl) (hb hby at_37) (fun _ _ => ⟨rfl, e3, (by decide : 0 + 0 ≤ _), (by decide : 0 + 0 ≤ _)⟩)
  dsimp only [Pt.U, Pt.locs, Pt.cells, Pt.slots] at X4 l4 y4 z4 st4 hQ4
  subst l4 y4 z4
  obtain ⟨rfl, N4q, e4⟩ := hQ4
  have N4 := Fr.app N3 N4q
  obtain ⟨cq5, kq5, q5a, q5b, q5c⟩ := isOf hZ e4 E_vs
  obtain ⟨_, _, ⟨T5, L5, k5, n5⟩, -, X5, ⟨Lc5, hQ5, l5, y5, z5⟩, st5⟩ := X4.virtualBack hx (y := (⟨"java/lang/String", "charAt", "(I)C"⟩ : MethodName)) (z := (⟨"java/lang/String", "charAt", "(I)C"⟩ : MethodName)) hown (mvT hZ (hw _ (List.mem_of_getElem? (i := 31) rfl))) (mvT hZ (hw _ (List.mem_of_getElem? (i := 32) rfl))) (notFace_of_selects (args := #[]) (mvT hZ (hw _ (List.mem_of_getElem? (i := 34) rfl)))) (mvT hZ (hw _ (List.mem_of_getElem? (i := 34) rfl))) (mvT hZ (hw _ (List.mem_of_getElem? (i := 33) rfl))) (by decide) (backOf (W := 0) (rm5v l Z a0 hw [] vs (0 : Int32) vb w_COMPACT_STRINGS cl z wb wf r7 r h0 n0 Z0 E_vs F_value S_COMPACT_STRINGS F_coder hcs Ar hS hN hin hat S_SIOOBE hwf hlo hhi hr7 hr5) hZ (hw _ (List.mem_of_getElem? (i := 35) rfl)) (hw _ (List.mem_of_getElem? (i := 19) rfl)) (by decide) (by decide)) q5a q5c (g := (mkF m 46 #[.val (.int p1), .val (.int ((p1 &&& (2147483647 : Int32)) % (6 : Int32))), .val (.ref w_r), .val (.int (1 : Int32)), .val (.ref vs), .unset, .unset] [(.int (0 : Int32)), (.ref vs)])) rfl (by rw [hml]; rfl) (Steps.refl _) (argsL := [(.int (0 : Int32))]) (rest := []) (lenOf pd_0_4 rfl) rfl (by show 2 * 0 + _ ≤ _; exact Nat.le_of_eq rfl) (hb hby at_46) (fun _ _ => ⟨rfl, e4, (by decide : 0 + 0 ≤ _), (by decide : 0 + 0 ≤ _)⟩)
  dsimp only [Pt.U, Pt.locs, Pt.cells, Pt.slots] at X5 l5 y5 z5 st5 hQ5
  subst l5 y5 z5
  obtain ⟨rfl, N5q, e5⟩ := hQ5
  have N5 := Fr.app N4 N5q
  obtain ⟨cq6, kq6, q6a, q6b, q6c⟩ := isOf hZ e5 E_vs
  obtain ⟨_, _, ⟨T6, L6, k6, n6⟩, -, X6, ⟨Lc6, hQ6, l6, y6, z6⟩, st6⟩ := X5.virtualBack hx (y := (⟨"java/lang/String", "charAt", "(I)C"⟩ : MethodName)) (z := (⟨"java/lang/String", "charAt", "(I)C"⟩ : MethodName)) hown (mvT hZ (hw _ (List.mem_of_getElem? (i := 31) rfl))) (mvT hZ (hw _ (List.mem_of_getElem? (i := 32) rfl))) (notFace_of_selects (args := #[]) (mvT hZ (hw _ (List.mem_of_getElem? (i := 34) rfl)))) (mvT hZ (hw _ (List.mem_of_getElem? (i := 34) rfl))) (mvT hZ (hw _ (List.mem_of_getElem? (i := 33) rfl))) (by decide) (backOf (W := 0) (rm5v l Z a0 hw [] vs (0 : Int32) vb w_COMPACT_STRINGS cl z wb wf r7 r h0 n0 Z0 E_vs F_value S_COMPACT_STRINGS F_coder hcs Ar hS hN hin hat S_SIOOBE hwf hlo hhi hr7 hr5) hZ (hw _ (List.mem_of_getElem? (i := 35) rfl)) (hw _ (List.mem_of_getElem? (i := 19) rfl)) (by decide) (by decide)) q6a q6c (g := (mkF m 57 #[.val (.int p1), .val (.int ((p1 &&& (2147483647 : Int32)) % (6 : Int32))), .val (.ref w_r), .val (.int (1 : Int32)), .val (.ref vs), .unset, .unset] [(.int (0 : Int32)), (.ref vs)])) rfl (by rw [hml]; rfl) (Steps.refl _) (argsL := [(.int (0 : Int32))]) (rest := []) (lenOf pd_0_4 rfl) rfl (by show 2 * 0 + _ ≤ _; exact Nat.le_of_eq rfl) (hb hby at_57) (fun _ _ => ⟨rfl, e5, (by decide : 0 + 0 ≤ _), (by decide : 0 + 0 ≤ _)⟩)
  dsimp only [Pt.U, Pt.locs, Pt.cells, Pt.slots] at X6 l6 y6 z6 st6 hQ6
  subst l6 y6 z6
  obtain ⟨rfl, N6q, e6⟩ := hQ6
  have N6 := Fr.app N5 N6q
  obtain ⟨cq7, kq7, q7a, q7b, q7c⟩ := isOf hZ e6 E_w_r
  obtain ⟨_, _, ⟨T7, L7, k7, n7⟩, -, X7, ⟨Lc7, hQ7, l7, y7, z7⟩, st7⟩ := X6.virtualBack hx (y := (⟨"com/example/niyama/niyama/relational/model/ScalarComparison$Operator", "isOrder", "()Z"⟩ : MethodName)) (z := (⟨"com/example/niyama/niyama/relational/model/ScalarComparison$Operator", "isOrder", "()Z"⟩ : MethodName)) hown (mvT hZ (hw _ (List.mem_of_getElem? (i := 53) rfl))) (mvT hZ (hw _ (List.mem_of_getElem? (i := 54) rfl))) (notFace_of_selects (args := #[]) (mvT hZ (hw _ (List.mem_of_getElem? (i := 56) rfl)))) (mvT hZ (hw _ (List.mem_of_getElem? (i := 56) rfl))) (mvT hZ (hw _ (List.mem_of_getElem? (i := 55) rfl))) (by decide) (backOf (W := 0) (rm10 l Z a0 hw [] w_r w_EQUAL w_NOT_EQUAL h0 n0 Z0 S_EQUAL S_NOT_EQUAL) hZ (hw _ (List.mem_of_getElem? (i := 57) rfl)) (hw _ (List.mem_of_getElem? (i := 6) rfl)) (by decide) (by decide)) q7a q7c (g := (mkF m 73 #[.val (.int p1), .val (.int ((p1 &&& (2147483647 : Int32)) % (6 : Int32))), .val (.ref w_r), .val (.int (1 : Int32)), .val (.ref vs), .val (.int (1 : Int32)), .unset] [(.ref w_r)])) rfl (by rw [hml]; rfl) (Steps.refl _) (argsL := []) (rest := []) (lenOf pd_0_5 rfl) rfl (by show 2 * 0 + _ ≤ _; exact Nat.le_of_eq rfl) (hb hby at_73) (fun _ _ => ⟨rfl, e6, (by decide : 0 + 0 ≤ _), (by decide : 0 + 0 ≤ _)⟩)
  dsimp only [Pt.U, Pt.locs, Pt.cells, Pt.slots] at X7 l7 y7 z7 st7 hQ7
  subst l7 y7 z7
  obtain ⟨rfl, N7q, e7⟩ := hQ7
  have N7 := Fr.app N6 N7q
  obtain ⟨fs, hr, hrun, hended, hW, hsame⟩ := X7.leave (v := some (.int (1 : Int32))) (fun h => by rw [Bd.returns] at h; cases h)
  refine ⟨_, _, pre0 _ ?_, hrun, hended, _, _, rfl, ?_, ⟨_, rfl⟩, hW, hsame.mono (by decide) (by decide)⟩
  · show Steps p.tables e below (s₁.setTop (mkF m 0 #[.val (.int p1), .unset, .unset, .unset, .unset, .unset, .unset] [])) _
    refine XS.iloadN X0.here hx rfl (hb hby at_0) rfl ?_
    show Steps p.tables e below (s₁.setTop (mkF m 1 #[.val (.int p1), .unset, .unset, .unset, .unset, .unset, .unset] [(.int p1)])) _
    refine X0.ldcInt hx hown (mvT hZ (hw _ (List.mem_of_getElem? (i := 0) rfl))) (g := (mkF m 1 #[.val (.int p1), .unset, .unset, .unset, .unset, .unset, .unset] [(.int p1)])) rfl (hb hby at_1) _ ?_
    show Steps p.tables e below (s₁.setTop (mkF m 3 #[.val (.int p1), .unset, .unset, .unset, .unset, .unset, .unset] [(.int (2147483647 : Int32)), (.int p1)])) _
    refine XS.iand X0.here hx rfl (hb hby at_3) rfl ?_
    show Steps p.tables e below (s₁.setTop (mkF m 4 #[.val (.int p1), .unset, .unset, .unset, .unset, .unset, .unset] [(.int (p1 &&& (2147483647 : Int32)))])) _
    refine XS.bipush X0.here hx rfl (hb hby at_4) ?_
    show Steps p.tables e below (s₁.setTop (mkF m 6 #[.val (.int p1), .unset, .unset, .unset, .unset, .unset, .unset] [(.int (6 : Int32)), (.int (p1 &&& (2147483647 : Int32)))])) _
    refine iremM X0 hx rfl (hb hby at_6) rfl (by decide) ?_
    show Steps p.tables e below (s₁.setTop (mkF m 7 #[.val (.int p1), .unset, .unset, .unset, .unset, .unset, .unset] [(.int ((p1 &&& (2147483647 : Int32)) % (6 : Int32)))])) _
    refine XS.istoreN X0.here hx rfl (hb hby at_7) rfl (l' := #[.val (.int p1), .val (.int ((p1 &&& (2147483647 : Int32)) % (6 : Int32))), .unset, .unset, .unset, .unset, .unset]) rfl ?_
    show Steps p.tables e below (s₁.setTop (mkF m 8 #[.val (.int p1), .val (.int ((p1 &&& (2147483647 : Int32)) % (6 : Int32))), .unset, .unset, .unset, .unset, .unset] [])) _
    refine XS.iloadN X0.here hx rfl (hb hby at_8) rfl ?_
    show Steps p.tables e below (s₁.setTop (mkF m 9 #[.val (.int p1), .val (.int ((p1 &&& (2147483647 : Int32)) % (6 : Int32))), .unset, .unset, .unset, .unset, .unset] [(.int ((p1 &&& (2147483647 : Int32)) % (6 : Int32)))])) _
    refine st2 _ ?_
    show Steps p.tables e below (T2.setTop (mkF m 12 #[.val (.int p1), .val (.int ((p1 &&& (2147483647 : Int32)) % (6 : Int32))), .unset, .unset, .unset, .unset, .unset] [(.ref w_r)])) _
    refine XS.astoreN X2.here hx rfl (hb hby at_12) rfl rfl (l' := #[.val (.int p1), .val (.int ((p1 &&& (2147483647 : Int32)) % (6 : Int32))), .val (.ref w_r), .unset, .unset, .unset, .unset]) rfl ?_
    show Steps p.tables e below (T2.setTop (mkF m 13 #[.val (.int p1), .val (.int ((p1 &&& (2147483647 : Int32)) % (6 : Int32))), .val (.ref w_r), .unset, .unset, .unset, .unset] [])) _
    refine XS.iloadN X2.here hx rfl (hb hby at_13) rfl ?_
    show Steps p.tables e below (T2.setTop (mkF m 14 #[.val (.int p1), .val (.int ((p1 &&& (2147483647 : Int32)) % (6 : Int32))), .val (.ref w_r), .unset, .unset, .unset, .unset] [(.int ((p1 &&& (2147483647 : Int32)) % (6 : Int32)))])) _
    refine XS.iconst X2.here hx rfl (hb hby at_14) ?_
    show Steps p.tables e below (T2.setTop (mkF m 15 #[.val (.int p1), .val (.int ((p1 &&& (2147483647 : Int32)) % (6 : Int32))), .val (.ref w_r), .unset, .unset, .unset, .unset] [(.int (2 : Int32)), (.int ((p1 &&& (2147483647 : Int32)) % (6 : Int32)))])) _
    refine XS.icmpNo X2.here hx rfl (hb hby at_15) rfl (feq hc15).1 ?_
    show Steps p.tables e below (T2.setTop (mkF m 18 #[.val (.int p1), .val (.int ((p1 &&& (2147483647 : Int32)) % (6 : Int32))), .val (.ref w_r), .unset, .unset, .unset, .unset] [])) _
    refine XS.iloadN X2.here hx rfl (hb hby at_18) rfl ?_
    show Steps p.tables e below (T2.setTop (mkF m 19 #[.val (.int p1), .val (.int ((p1 &&& (2147483647 : Int32)) % (6 : Int32))), .val (.ref w_r), .unset, .unset, .unset, .unset] [(.int ((p1 &&& (2147483647 : Int32)) % (6 : Int32)))])) _
    refine XS.iconst X2.here hx rfl (hb hby at_19) ?_
    show Steps p.tables e below (T2.setTop (mkF m 20 #[.val (.int p1), .val (.int ((p1 &&& (2147483647 : Int32)) % (6 : Int32))), .val (.ref w_r), .unset, .unset, .unset, .unset] [(.int (3 : Int32)), (.int ((p1 &&& (2147483647 : Int32)) % (6 : Int32)))])) _
    refine XS.icmpNo X2.here hx rfl (hb hby at_20) rfl (feq hc20).1 ?_
    show Steps p.tables e below (T2.setTop (mkF m 23 #[.val (.int p1), .val (.int ((p1 &&& (2147483647 : Int32)) % (6 : Int32))), .val (.ref w_r), .unset, .unset, .unset, .unset] [])) _
    refine XS.iconst X2.here hx rfl (hb hby at_23) ?_
    show Steps p.tables e below (T2.setTop (mkF m 24 #[.val (.int p1), .val (.int ((p1 &&& (2147483647 : Int32)) % (6 : Int32))), .val (.ref w_r), .unset, .unset, .unset, .unset] [(.int (1 : Int32))])) _
    refine XS.goto X2.here hx rfl (pc0 := 24) (pc' := 28) rfl (hb hby at_24) (by decide) (by decide) ?_
    show Steps p.tables e below (T2.setTop (mkF m 28 #[.val (.int p1), .val (.int ((p1 &&& (2147483647 : Int32)) % (6 : Int32))), .val (.ref w_r), .unset, .unset, .unset, .unset] [(.int (1 : Int32))])) _
    refine XS.istoreN X2.here hx rfl (hb hby at_28) rfl (l' := #[.val (.int p1), .val (.int ((p1 &&& (2147483647 : Int32)) % (6 : Int32))), .val (.ref w_r), .val (.int (1 : Int32)), .unset, .unset, .unset]) rfl ?_
    show Steps p.tables e below (T2.setTop (mkF m 29 #[.val (.int p1), .val (.int ((p1 &&& (2147483647 : Int32)) % (6 : Int32))), .val (.ref w_r), .val (.int (1 : Int32)), .unset, .unset, .unset] [])) _
    refine XS.aloadN X2.here hx rfl (hb hby at_29) rfl rfl ?_
    show Steps p.tables e below (T2.setTop (mkF m 30 #[.val (.int p1), .val (.int ((p1 &&& (2147483647 : Int32)) % (6 : Int32))), .val (.ref w_r), .val (.int (1 : Int32)), .unset, .unset, .unset] [(.ref w_r)])) _
    refine st3.trans ?_
    show Steps p.tables e below (T3.setTop (mkF m 33 #[.val (.int p1), .val (.int ((p1 &&& (2147483647 : Int32)) % (6 : Int32))), .val (.ref w_r), .val (.int (1 : Int32)), .unset, .unset, .unset] [(.ref vs)])) _
    refine XS.astore X3.here hx rfl (hb hby at_33) rfl rfl (l' := #[.val (.int p1), .val (.int ((p1 &&& (2147483647 : Int32)) % (6 : Int32))), .val (.ref w_r), .val (.int (1 : Int32)), .val (.ref vs), .unset, .unset]) rfl ?_
    show Steps p.tables e below (T3.setTop (mkF m 35 #[.val (.int p1), .val (.int ((p1 &&& (2147483647 : Int32)) % (6 : Int32))), .val (.ref w_r), .val (.int (1 : Int32)), .val (.ref vs), .unset, .unset] [])) _
    refine XS.aload X3.here hx rfl (hb hby at_35) rfl rfl ?_
    show Steps p.tables e below (T3.setTop (mkF m 37 #[.val (.int p1), .val (.int ((p1 &&& (2147483647 : Int32)) % (6 : Int32))), .val (.ref w_r), .val (.int (1 : Int32)), .val (.ref vs), .unset, .unset] [(.ref vs)])) _
    refine st4.trans ?_
    show Steps p.tables e below (T4.setTop (mkF m 40 #[.val (.int p1), .val (.int ((p1 &&& (2147483647 : Int32)) % (6 : Int32))), .val (.ref w_r), .val (.int (1 : Int32)), .val (.ref vs), .unset, .unset] [(.int (z >>> ((0 : Int32) &&& 31)))])) _
    refine XS.ifNo X4.here hx rfl (hb hby at_40) rfl ((if0 _ _).trans (tlt hc40).2.2.2) ?_
    show Steps p.tables e below (T4.setTop (mkF m 43 #[.val (.int p1), .val (.int ((p1 &&& (2147483647 : Int32)) % (6 : Int32))), .val (.ref w_r), .val (.int (1 : Int32)), .val (.ref vs), .unset, .unset] [])) _
    refine XS.aload X4.here hx rfl (hb hby at_43) rfl rfl ?_
    show Steps p.tables e below (T4.setTop (mkF m 45 #[.val (.int p1), .val (.int ((p1 &&& (2147483647 : Int32)) % (6 : Int32))), .val (.ref w_r), .val (.int (1 : Int32)), .val (.ref vs), .unset, .unset] [(.ref vs)])) _
    refine XS.iconst X4.here hx rfl (hb hby at_45) ?_
    show Steps p.tables e below (T4.setTop (mkF m 46 #[.val (.int p1), .val (.int ((p1 &&& (2147483647 : Int32)) % (6 : Int32))), .val (.ref w_r), .val (.int (1 : Int32)), .val (.ref vs), .unset, .unset] [(.int (0 : Int32)), (.ref vs)])) _
    refine st5.trans ?_
    show Steps p.tables e below (T5.setTop (mkF m 49 #[.val (.int p1), .val (.int ((p1 &&& (2147483647 : Int32)) % (6 : Int32))), .val (.ref w_r), .val (.int (1 : Int32)), .val (.ref vs), .unset, .unset] [(.int r)])) _
    refine XS.bipush X5.here hx rfl (hb hby at_49) ?_
    show Steps p.tables e below (T5.setTop (mkF m 51 #[.val (.int p1), .val (.int ((p1 &&& (2147483647 : Int32)) % (6 : Int32))), .val (.ref w_r), .val (.int (1 : Int32)), .val (.ref vs), .unset, .unset] [(.int (60 : Int32)), (.int r)])) _
    refine XS.icmpNo X5.here hx rfl (hb hby at_51) rfl (feq hc51).1 ?_
    show Steps p.tables e below (T5.setTop (mkF m 54 #[.val (.int p1), .val (.int ((p1 &&& (2147483647 : Int32)) % (6 : Int32))), .val (.ref w_r), .val (.int (1 : Int32)), .val (.ref vs), .unset, .unset] [])) _
    refine XS.aload X5.here hx rfl (hb hby at_54) rfl rfl ?_
    show Steps p.tables e below (T5.setTop (mkF m 56 #[.val (.int p1), .val (.int ((p1 &&& (2147483647 : Int32)) % (6 : Int32))), .val (.ref w_r), .val (.int (1 : Int32)), .val (.ref vs), .unset, .unset] [(.ref vs)])) _
    refine XS.iconst X5.here hx rfl (hb hby at_56) ?_
    show Steps p.tables e below (T5.setTop (mkF m 57 #[.val (.int p1), .val (.int ((p1 &&& (2147483647 : Int32)) % (6 : Int32))), .val (.ref w_r), .val (.int (1 : Int32)), .val (.ref vs), .unset, .unset] [(.int (0 : Int32)), (.ref vs)])) _
    refine st6.trans ?_
    show Steps p.tables e below (T6.setTop (mkF m 60 #[.val (.int p1), .val (.int ((p1 &&& (2147483647 : Int32)) % (6 : Int32))), .val (.ref w_r), .val (.int (1 : Int32)), .val (.ref vs), .unset, .unset] [(.int r)])) _
    refine XS.bipush X6.here hx rfl (hb hby at_60) ?_
    show Steps p.tables e below (T6.setTop (mkF m 62 #[.val (.int p1), .val (.int ((p1 &&& (2147483647 : Int32)) % (6 : Int32))), .val (.ref w_r), .val (.int (1 : Int32)), .val (.ref vs), .unset, .unset] [(.int (62 : Int32)), (.int r)])) _
    refine XS.icmpNo X6.here hx rfl (hb hby at_62) rfl (teq hc62).2 ?_
    show Steps p.tables e below (T6.setTop (mkF m 65 #[.val (.int p1), .val (.int ((p1 &&& (2147483647 : Int32)) % (6 : Int32))), .val (.ref w_r), .val (.int (1 : Int32)), .val (.ref vs), .unset, .unset] [])) _
    refine XS.iconst X6.here hx rfl (hb hby at_65) ?_
    show Steps p.tables e below (T6.setTop (mkF m 66 #[.val (.int p1), .val (.int ((p1 &&& (2147483647 : Int32)) % (6 : Int32))), .val (.ref w_r), .val (.int (1 : Int32)), .val (.ref vs), .unset, .unset] [(.int (1 : Int32))])) _
    refine XS.goto X6.here hx rfl (pc0 := 66) (pc' := 70) rfl (hb hby at_66) (by decide) (by decide) ?_
    show Steps p.tables e below (T6.setTop (mkF m 70 #[.val (.int p1), .val (.int ((p1 &&& (2147483647 : Int32)) % (6 : Int32))), .val (.ref w_r), .val (.int (1 : Int32)), .val (.ref vs), .unset, .unset] [(.int (1 : Int32))])) _
    refine XS.istore X6.here hx rfl (hb hby at_70) rfl (l' := #[.val (.int p1), .val (.int ((p1 &&& (2147483647 : Int32)) % (6 : Int32))), .val (.ref w_r), .val (.int (1 : Int32)), .val (.ref vs), .val (.int (1 : Int32)), .unset]) rfl ?_
    show Steps p.tables e below (T6.setTop (mkF m 72 #[.val (.int p1), .val (.int ((p1 &&& (2147483647 : Int32)) % (6 : Int32))), .val (.ref w_r), .val (.int (1 : Int32)), .val (.ref vs), .val (.int (1 : Int32)), .unset] [])) _
    refine XS.aloadN X6.here hx rfl (hb hby at_72) rfl rfl ?_
    show Steps p.tables e below (T6.setTop (mkF m 73 #[.val (.int p1), .val (.int ((p1 &&& (2147483647 : Int32)) % (6 : Int32))), .val (.ref w_r), .val (.int (1 : Int32)), .val (.ref vs), .val (.int (1 : Int32)), .unset] [(.ref w_r)])) _
    refine st7.trans ?_
    show Steps p.tables e below (T7.setTop (mkF m 76 #[.val (.int p1), .val (.int ((p1 &&& (2147483647 : Int32)) % (6 : Int32))), .val (.ref w_r), .val (.int (1 : Int32)), .val (.ref vs), .val (.int (1 : Int32)), .unset] [(.int (own_ord w_r w_EQUAL w_NOT_EQUAL))])) _
    refine XS.istore X7.here hx rfl (hb hby at_76) rfl (l' := #[.val (.int p1), .val (.int ((p1 &&& (2147483647 : Int32)) % (6 : Int32))), .val (.ref w_r), .val (.int (1 : Int32)), .val (.ref vs), .val (.int (1 : Int32)), .val (.int (own_ord w_r w_EQUAL w_NOT_EQUAL))]) rfl ?_
    show Steps p.tables e below (T7.setTop (mkF m 78 #[.val (.int p1), .val (.int ((p1 &&& (2147483647 : Int32)) % (6 : Int32))), .val (.ref w_r), .val (.int (1 : Int32)), .val (.ref vs), .val (.int (1 : Int32)), .val (.int (own_ord w_r w_EQUAL w_NOT_EQUAL))] [])) _
    refine XS.iload X7.here hx rfl (hb hby at_78) rfl ?_
    show Steps p.tables e below (T7.setTop (mkF m 80 #[.val (.int p1), .val (.int ((p1 &&& (2147483647 : Int32)) % (6 : Int32))), .val (.ref w_r), .val (.int (1 : Int32)), .val (.ref vs), .val (.int (1 : Int32)), .val (.int (own_ord w_r w_EQUAL w_NOT_EQUAL))] [(.int (own_ord w_r w_EQUAL w_NOT_EQUAL))])) _
    refine XS.iloadN X7.here hx rfl (hb hby at_80) rfl ?_
    show Steps p.tables e below (T7.setTop (mkF m 81 #[.val (.int p1), .val (.int ((p1 &&& (2147483647 : Int32)) % (6 : Int32))), .val (.ref w_r), .val (.int (1 : Int32)), .val (.ref vs), .val (.int (1 : Int32)), .val (.int (own_ord w_r w_EQUAL w_NOT_EQUAL))] [(.int (1 : Int32)), (.int (own_ord w_r w_EQUAL w_NOT_EQUAL))])) _
    refine XS.icmpNo X7.here hx rfl (hb hby at_81) rfl (teq hc81).2 ?_
    show Steps p.tables e below (T7.setTop (mkF m 84 #[.val (.int p1), .val (.int ((p1 &&& (2147483647 : Int32)) % (6 : Int32))), .val (.ref w_r), .val (.int (1 : Int32)), .val (.ref vs), .val (.int (1 : Int32)), .val (.int (own_ord w_r w_EQUAL w_NOT_EQUAL))] [])) _
    refine XS.iload X7.here hx rfl (hb hby at_84) rfl ?_
    show Steps p.tables e below (T7.setTop (mkF m 86 #[.val (.int p1), .val (.int ((p1 &&& (2147483647 : Int32)) % (6 : Int32))), .val (.ref w_r), .val (.int (1 : Int32)), .val (.ref vs), .val (.int (1 : Int32)), .val (.int (own_ord w_r w_EQUAL w_NOT_EQUAL))] [(.int (own_ord w_r w_EQUAL w_NOT_EQUAL))])) _
    refine XS.iload X7.here hx rfl (hb hby at_86) rfl ?_
    show Steps p.tables e below (T7.setTop (mkF m 88 #[.val (.int p1), .val (.int ((p1 &&& (2147483647 : Int32)) % (6 : Int32))), .val (.ref w_r), .val (.int (1 : Int32)), .val (.ref vs), .val (.int (1 : Int32)), .val (.int (own_ord w_r w_EQUAL w_NOT_EQUAL))] [(.int (1 : Int32)), (.int (own_ord w_r w_EQUAL w_NOT_EQUAL))])) _
    refine XS.icmpNo X7.here hx rfl (hb hby at_88) rfl (teq hc88).2 ?_
    show Steps p.tables e below (T7.setTop (mkF m 91 #[.val (.int p1), .val (.int ((p1 &&& (2147483647 : Int32)) % (6 : Int32))), .val (.ref w_r), .val (.int (1 : Int32)), .val (.ref vs), .val (.int (1 : Int32)), .val (.int (own_ord w_r w_EQUAL w_NOT_EQUAL))] [])) _
    refine XS.iconst X7.here hx rfl (hb hby at_91) ?_
    show Steps p.tables e below (T7.setTop (mkF m 92 #[.val (.int p1), .val (.int ((p1 &&& (2147483647 : Int32)) % (6 : Int32))), .val (.ref w_r), .val (.int (1 : Int32)), .val (.ref vs), .val (.int (1 : Int32)), .val (.int (own_ord w_r w_EQUAL w_NOT_EQUAL))] [(.int (1 : Int32))])) _
    refine XS.goto X7.here hx rfl (pc0 := 92) (pc' := 96) rfl (hb hby at_92) (by decide) (by decide) ?_
    show Steps p.tables e below (T7.setTop (mkF m 96 #[.val (.int p1), .val (.int ((p1 &&& (2147483647 : Int32)) % (6 : Int32))), .val (.ref w_r), .val (.int (1 : Int32)), .val (.ref vs), .val (.int (1 : Int32)), .val (.int (own_ord w_r w_EQUAL w_NOT_EQUAL))] [(.int (1 : Int32))])) _
    exact retN X7 hx (t := .boolean) Bd.returns (by simp) (hb hby at_96) hr
  · show QP (.int (1 : Int32)) h0 n0 _ T7.heap _
    rw [e7]
    exact ⟨rfl, N7, rfl⟩
theorem rm0 (l : Launch) (Z : State) (a0 : Array Value) (hw : ∀ d ∈ tables_1, d.before a0 Z = true) (ws : List Jvm.Cond) (p1 : Int32) (w_LESS : Addr) (vs_LESS : Addr) (vb_LESS : Addr) (cl_LESS : Cell) (w_LESS_OR_EQUAL : Addr) (vs_LESS_OR_EQUAL : Addr) (vb_LESS_OR_EQUAL : Addr) (cl_LESS_OR_EQUAL : Cell) (w_EQUAL : Addr) (vs_EQUAL : Addr) (vb_EQUAL : Addr) (cl_EQUAL : Cell) (w_NOT_EQUAL : Addr) (vs_NOT_EQUAL : Addr) (vb_NOT_EQUAL : Addr) (cl_NOT_EQUAL : Cell) (w_GREATER_OR_EQUAL : Addr) (vs_GREATER_OR_EQUAL : Addr) (vb_GREATER_OR_EQUAL : Addr) (cl_GREATER_OR_EQUAL : Cell) (w_GREATER : Addr) (vs_GREATER : Addr) (vb_GREATER : Addr) (cl_GREATER : Cell) (wf : Value) (w_COMPACT_STRINGS : Int32) (h0 : Heap) (n0 : Nat) (Z0 : n0 ≤ h0.size) (S_LESS : Sta Z h0 "com/example/niyama/niyama/relational/model/ScalarComparison$Operator" "LESS" "Lcom/example/niyama/niyama/relational/model/ScalarComparison$Operator;" (.ref w_LESS)) (S_LESS_OR_EQUAL : Sta Z h0 "com/example/niyama/niyama/relational/model/ScalarComparison$Operator" "LESS_OR_EQUAL" "Lcom/example/niyama/niyama/relational/model/ScalarComparison$Operator;" (.ref w_LESS_OR_EQUAL)) (S_EQUAL : Sta Z h0 "com/example/niyama/niyama/relational/model/ScalarComparison$Operator" "EQUAL" "Lcom/example/niyama/niyama/relational/model/ScalarComparison$Operator;" (.ref w_EQUAL)) (S_NOT_EQUAL : Sta Z h0 "com/example/niyama/niyama/relational/model/ScalarComparison$Operator" "NOT_EQUAL" "Lcom/example/niyama/niyama/relational/model/ScalarComparison$Operator;" (.ref w_NOT_EQUAL)) (S_GREATER_OR_EQUAL : Sta Z h0 "com/example/niyama/niyama/relational/model/ScalarComparison$Operator" "GREATER_OR_EQUAL" "Lcom/example/niyama/niyama/relational/model/ScalarComparison$Operator;" (.ref w_GREATER_OR_EQUAL)) (S_GREATER : Sta Z h0 "com/example/niyama/niyama/relational/model/ScalarComparison$Operator" "GREATER" "Lcom/example/niyama/niyama/relational/model/ScalarComparison$Operator;" (.ref w_GREATER)) (E_w_LESS : Exa Z h0 w_LESS "com/example/niyama/niyama/relational/model/ScalarComparison$Operator") (E_w_LESS_OR_EQUAL : Exa Z h0 w_LESS_OR_EQUAL "com/example/niyama/niyama/relational/model/ScalarComparison$Operator") (E_w_EQUAL : Exa Z h0 w_EQUAL "com/example/niyama/niyama/relational/model/ScalarComparison$Operator") (E_w_NOT_EQUAL : Exa Z h0 w_NOT_EQUAL "com/example/niyama/niyama/relational/model/ScalarComparison$Operator") (E_w_GREATER_OR_EQUAL : Exa Z h0 w_GREATER_OR_EQUAL "com/example/niyama/niyama/relational/model/ScalarComparison$Operator") (E_w_GREATER : Exa Z h0 w_GREATER "com/example/niyama/niyama/relational/model/ScalarComparison$Operator") (Fs_LESS : Fld Z h0 w_LESS "com/example/niyama/niyama/relational/model/ScalarComparison$Operator" "symbol" "Ljava/lang/String;" (.ref vs_LESS)) (Es_LESS : Exa Z h0 vs_LESS "java/lang/String") (Fv_LESS : Fld Z h0 vs_LESS "java/lang/String" "value" "[B" (.ref vb_LESS)) (Fc_LESS : Fld Z h0 vs_LESS "java/lang/String" "coder" "B" (.int (0 : Int32))) (Ar_LESS : Arr Z h0 vb_LESS cl_LESS .byte) (hS_LESS : cl_LESS.slots.size = (1 : Int32).toNatClampNeg) (hin_LESS : ¬ ((0 : Int32) < 0 ∨ cl_LESS.slots.size ≤ ((0 : Int32)).toNatClampNeg)) (hat_LESS : cl_LESS.slots[((0 : Int32)).toNatClampNeg]? = some (.int 60)) (Fs_LESS_OR_EQUAL : Fld Z h0 w_LESS_OR_EQUAL "com/example/niyama/niyama/relational/model/ScalarComparison$Operator" "symbol" "Ljava/lang/String;" (.ref vs_LESS_OR_EQUAL)) (Es_LESS_OR_EQUAL : Exa Z h0 vs_LESS_OR_EQUAL "java/lang/String") (Fv_LESS_OR_EQUAL : Fld Z h0 vs_LESS_OR_EQUAL "java/lang/String" "value" "[B" (.ref vb_LESS_OR_EQUAL)) (Fc_LESS_OR_EQUAL : Fld Z h0 vs_LESS_OR_EQUAL "java/lang/String" "coder" "B" (.int (0 : Int32))) (Ar_LESS_OR_EQUAL : Arr Z h0 vb_LESS_OR_EQUAL cl_LESS_OR_EQUAL .byte) (hS_LESS_OR_EQUAL : cl_LESS_OR_EQUAL.slots.size = (2 : Int32).toNatClampNeg) (hin_LESS_OR_EQUAL : ¬ ((0 : Int32) < 0 ∨ cl_LESS_OR_EQUAL.slots.size ≤ ((0 : Int32)).toNatClampNeg)) (hat_LESS_OR_EQUAL : cl_LESS_OR_EQUAL.slots[((0 : Int32)).toNatClampNeg]? = some (.int 60)) (Fs_EQUAL : Fld Z h0 w_EQUAL "com/example/niyama/niyama/relational/model/ScalarComparison$Operator" "symbol" "Ljava/lang/String;" (.ref vs_EQUAL)) (Es_EQUAL : Exa Z h0 vs_EQUAL "java/lang/String") (Fv_EQUAL : Fld Z h0 vs_EQUAL "java/lang/String" "value" "[B" (.ref vb_EQUAL)) (Fc_EQUAL : Fld Z h0 vs_EQUAL "java/lang/String" "coder" "B" (.int (0 : Int32))) (Ar_EQUAL : Arr Z h0 vb_EQUAL cl_EQUAL .byte) (hS_EQUAL : cl_EQUAL.slots.size = (1 : Int32).toNatClampNeg) (hin_EQUAL : ¬ ((0 : Int32) < 0 ∨ cl_EQUAL.slots.size ≤ ((0 : Int32)).toNatClampNeg)) (hat_EQUAL : cl_EQUAL.slots[((0 : Int32)).toNatClampNeg]? = some (.int 61)) (Fs_NOT_EQUAL : Fld Z h0 w_NOT_EQUAL "com/example/niyama/niyama/relational/model/ScalarComparison$Operator" "symbol" "Ljava/lang/String;" (.ref vs_NOT_EQUAL)) (Es_NOT_EQUAL : Exa Z h0 vs_NOT_EQUAL "java/lang/String") (Fv_NOT_EQUAL : Fld Z h0 vs_NOT_EQUAL "java/lang/String" "value" "[B" (.ref vb_NOT_EQUAL)) (Fc_NOT_EQUAL : Fld Z h0 vs_NOT_EQUAL "java/lang/String" "coder" "B" (.int (0 : Int32))) (Ar_NOT_EQUAL : Arr Z h0 vb_NOT_EQUAL cl_NOT_EQUAL .byte) (hS_NOT_EQUAL : cl_NOT_EQUAL.slots.size = (2 : Int32).toNatClampNeg) (hin_NOT_EQUAL : ¬ ((0 : Int32) < 0 ∨ cl_NOT_EQUAL.slots.size ≤ ((0 : Int32)).toNatClampNeg)) (hat_NOT_EQUAL : cl_NOT_EQUAL.slots[((0 : Int32)).toNatClampNeg]? = some (.int 33)) (Fs_GREATER_OR_EQUAL : Fld Z h0 w_GREATER_OR_EQUAL "com/example/niyama/niyama/relational/model/ScalarComparison$Operator" "symbol" "Ljava/lang/String;" (.ref vs_GREATER_OR_EQUAL)) (Es_GREATER_OR_EQUAL : Exa Z h0 vs_GREATER_OR_EQUAL "java/lang/String") (Fv_GREATER_OR_EQUAL : Fld Z h0 vs_GREATER_OR_EQUAL "java/lang/String" "value" "[B" (.ref vb_GREATER_OR_EQUAL)) (Fc_GREATER_OR_EQUAL : Fld Z h0 vs_GREATER_OR_EQUAL "java/lang/String" "coder" "B" (.int (0 : Int32))) (Ar_GREATER_OR_EQUAL : Arr Z h0 vb_GREATER_OR_EQUAL cl_GREATER_OR_EQUAL .byte) (hS_GREATER_OR_EQUAL : cl_GREATER_OR_EQUAL.slots.size = (2 : Int32).toNatClampNeg) (hin_GREATER_OR_EQUAL : ¬ ((0 : Int32) < 0 ∨ cl_GREATER_OR_EQUAL.slots.size ≤ ((0 : Int32)).toNatClampNeg)) (hat_GREATER_OR_EQUAL : cl_GREATER_OR_EQUAL.slots[((0 : Int32)).toNatClampNeg]? = some (.int 62)) (Fs_GREATER : Fld Z h0 w_GREATER "com/example/niyama/niyama/relational/model/ScalarComparison$Operator" "symbol" "Ljava/lang/String;" (.ref vs_GREATER)) (Es_GREATER : Exa Z h0 vs_GREATER "java/lang/String") (Fv_GREATER : Fld Z h0 vs_GREATER "java/lang/String" "value" "[B" (.ref vb_GREATER)) (Fc_GREATER : Fld Z h0 vs_GREATER "java/lang/String" "coder" "B" (.int (0 : Int32))) (Ar_GREATER : Arr Z h0 vb_GREATER cl_GREATER .byte) (hS_GREATER : cl_GREATER.slots.size = (1 : Int32).toNatClampNeg) (hin_GREATER : ¬ ((0 : Int32) < 0 ∨ cl_GREATER.slots.size ≤ ((0 : Int32)).toNatClampNeg)) (hat_GREATER : cl_GREATER.slots[((0 : Int32)).toNatClampNeg]? = some (.int 62)) (S_COMPACT_STRINGS : Sta Z h0 "java/lang/String" "COMPACT_STRINGS" "Z" (.int w_COMPACT_STRINGS)) (hcs : ¬ (w_COMPACT_STRINGS = (0 : Int32))) (S_SIOOBE : Sta Z h0 "jdk/internal/util/Preconditions" "SIOOBE_FORMATTER" "Ljava/util/function/BiFunction;" wf) (hwf : wf.isRef = true) (ne_LESS_EQUAL : ¬ (w_LESS = w_EQUAL)) (ne_LESS_NOT_EQUAL : ¬ (w_LESS = w_NOT_EQUAL)) (ne_LESS_OR_EQUAL_EQUAL : ¬ (w_LESS_OR_EQUAL = w_EQUAL)) (ne_LESS_OR_EQUAL_NOT_EQUAL : ¬ (w_LESS_OR_EQUAL = w_NOT_EQUAL)) (ne_NOT_EQUAL_EQUAL : ¬ (w_NOT_EQUAL = w_EQUAL)) (ne_GREATER_OR_EQUAL_EQUAL : ¬ (w_GREATER_OR_EQUAL = w_EQUAL)) (ne_GREATER_OR_EQUAL_NOT_EQUAL : ¬ (w_GREATER_OR_EQUAL = w_NOT_EQUAL)) (ne_GREATER_EQUAL : ¬ (w_GREATER = w_EQUAL)) (ne_GREATER_NOT_EQUAL : ¬ (w_GREATER = w_NOT_EQUAL)) :
    MetFree l x (head1 (Jvm.Cond.code x code maxLocals ret :: ws) room_1) (fun a U => a = #[(.int p1)] ∧ Z.Warmed39 U.vm ∧ U.heap = h0) (fun _ _ _ _ _ => True) (fun _ U o U' => ∃ v L, o = .returned v ∧ QP (.int 1) h0 n0 v U'.heap L ∧ FrameEnd U o U' L room_1.cells room_1.slots) := by
  obtain ⟨j, e⟩ := own_fin p1 6 6 (by decide) (by decide)
  match j, e with
  | ⟨0, _⟩, e => replace e := e.trans (show _ = Int32.ofInt ((0 : Nat) : Int) from rfl); exact rm0_ffftff l Z a0 hw ws p1 w_LESS w_LESS_OR_EQUAL w_EQUAL w_NOT_EQUAL w_GREATER_OR_EQUAL w_GREATER w_LESS vs_LESS vb_LESS cl_LESS 1 60 wf 60 60 w_COMPACT_STRINGS h0 n0 Z0 E_w_LESS Es_LESS S_LESS S_LESS_OR_EQUAL S_EQUAL S_NOT_EQUAL S_GREATER_OR_EQUAL S_GREATER (by rw [e]; unfold own_pick; rw [if_pos (by decide)]) Fs_LESS Fv_LESS Fc_LESS S_COMPACT_STRINGS hcs Ar_LESS hS_LESS (by decide) hin_LESS hat_LESS S_SIOOBE hwf (by decide) (by decide) (by decide) (by decide) (by rw [e]; decide) (by rw [e]; decide) (by decide) (by decide) (by unfold own_ord; rw [if_neg ne_LESS_EQUAL, if_neg ne_LESS_NOT_EQUAL]) (by unfold own_ord; rw [if_neg ne_LESS_EQUAL, if_neg ne_LESS_NOT_EQUAL])
  | ⟨1, _⟩, e => replace e := e.trans (show _ = Int32.ofInt ((1 : Nat) : Int) from rfl); exact rm0_ffftff l Z a0 hw ws p1 w_LESS w_LESS_OR_EQUAL w_EQUAL w_NOT_EQUAL w_GREATER_OR_EQUAL w_GREATER w_LESS_OR_EQUAL vs_LESS_OR_EQUAL vb_LESS_OR_EQUAL cl_LESS_OR_EQUAL 2 60 wf 60 60 w_COMPACT_STRINGS h0 n0 Z0 E_w_LESS_OR_EQUAL Es_LESS_OR_EQUAL S_LESS S_LESS_OR_EQUAL S_EQUAL S_NOT_EQUAL S_GREATER_OR_EQUAL S_GREATER (by rw [e]; unfold own_pick; rw [if_neg (by decide), if_pos (by decide)]) Fs_LESS_OR_EQUAL Fv_LESS_OR_EQUAL Fc_LESS_OR_EQUAL S_COMPACT_STRINGS hcs Ar_LESS_OR_EQUAL hS_LESS_OR_EQUAL (by decide) hin_LESS_OR_EQUAL hat_LESS_OR_EQUAL S_SIOOBE hwf (by decide) (by decide) (by decide) (by decide) (by rw [e]; decide) (by rw [e]; decide) (by decide) (by decide) (by unfold own_ord; rw [if_neg ne_LESS_OR_EQUAL_EQUAL, if_neg ne_LESS_OR_EQUAL_NOT_EQUAL]) (by unfold own_ord; rw [if_neg ne_LESS_OR_EQUAL_EQUAL, if_neg ne_LESS_OR_EQUAL_NOT_EQUAL])
  | ⟨2, _⟩, e => replace e := e.trans (show _ = Int32.ofInt ((2 : Nat) : Int) from rfl); exact rm0_tfftff l Z a0 hw ws p1 w_LESS w_LESS_OR_EQUAL w_EQUAL w_NOT_EQUAL w_GREATER_OR_EQUAL w_GREATER w_EQUAL vs_EQUAL vb_EQUAL cl_EQUAL 1 61 wf 61 61 w_COMPACT_STRINGS h0 n0 Z0 E_w_EQUAL Es_EQUAL S_LESS S_LESS_OR_EQUAL S_EQUAL S_NOT_EQUAL S_GREATER_OR_EQUAL S_GREATER (by rw [e]; unfold own_pick; rw [if_neg (by decide), if_neg (by decide), if_pos (by decide)]) Fs_EQUAL Fv_EQUAL Fc_EQUAL S_COMPACT_STRINGS hcs Ar_EQUAL hS_EQUAL (by decide) hin_EQUAL hat_EQUAL S_SIOOBE hwf (by decide) (by decide) (by decide) (by decide) (by rw [e]; decide) (by decide) (by decide) (by decide) (by unfold own_ord; rw [if_pos rfl]) (by unfold own_ord; rw [if_pos rfl])
  | ⟨3, _⟩, e => replace e := e.trans (show _ = Int32.ofInt ((3 : Nat) : Int) from rfl); exact rm0_ftfftff l Z a0 hw ws p1 w_LESS w_LESS_OR_EQUAL w_EQUAL w_NOT_EQUAL w_GREATER_OR_EQUAL w_GREATER w_NOT_EQUAL vs_NOT_EQUAL vb_NOT_EQUAL cl_NOT_EQUAL 2 33 wf 33 33 w_COMPACT_STRINGS h0 n0 Z0 E_w_NOT_EQUAL Es_NOT_EQUAL S_LESS S_LESS_OR_EQUAL S_EQUAL S_NOT_EQUAL S_GREATER_OR_EQUAL S_GREATER (by rw [e]; unfold own_pick; rw [if_neg (by decide), if_neg (by decide), if_neg (by decide), if_pos (by decide)]) Fs_NOT_EQUAL Fv_NOT_EQUAL Fc_NOT_EQUAL S_COMPACT_STRINGS hcs Ar_NOT_EQUAL hS_NOT_EQUAL (by decide) hin_NOT_EQUAL hat_NOT_EQUAL S_SIOOBE hwf (by decide) (by decide) (by decide) (by decide) (by rw [e]; decide) (by rw [e]; decide) (by decide) (by decide) (by decide) (by unfold own_ord; rw [if_neg ne_NOT_EQUAL_EQUAL, if_pos rfl]) (by unfold own_ord; rw [if_neg ne_NOT_EQUAL_EQUAL, if_pos rfl])
  | ⟨4, _⟩, e => replace e := e.trans (show _ = Int32.ofInt ((4 : Nat) : Int) from rfl); exact rm0_fffffff l Z a0 hw ws p1 w_LESS w_LESS_OR_EQUAL w_EQUAL w_NOT_EQUAL w_GREATER_OR_EQUAL w_GREATER w_GREATER_OR_EQUAL vs_GREATER_OR_EQUAL vb_GREATER_OR_EQUAL cl_GREATER_OR_EQUAL 2 62 wf 62 62 w_COMPACT_STRINGS h0 n0 Z0 E_w_GREATER_OR_EQUAL Es_GREATER_OR_EQUAL S_LESS S_LESS_OR_EQUAL S_EQUAL S_NOT_EQUAL S_GREATER_OR_EQUAL S_GREATER (by rw [e]; unfold own_pick; rw [if_neg (by decide), if_neg (by decide), if_neg (by decide), if_neg (by decide), if_pos (by decide)]) Fs_GREATER_OR_EQUAL Fv_GREATER_OR_EQUAL Fc_GREATER_OR_EQUAL S_COMPACT_STRINGS hcs Ar_GREATER_OR_EQUAL hS_GREATER_OR_EQUAL (by decide) hin_GREATER_OR_EQUAL hat_GREATER_OR_EQUAL S_SIOOBE hwf (by decide) (by decide) (by decide) (by decide) (by rw [e]; decide) (by rw [e]; decide) (by decide) (by decide) (by decide) (by unfold own_ord; rw [if_neg ne_GREATER_OR_EQUAL_EQUAL, if_neg ne_GREATER_OR_EQUAL_NOT_EQUAL]) (by unfold own_ord; rw [if_neg ne_GREATER_OR_EQUAL_EQUAL, if_neg ne_GREATER_OR_EQUAL_NOT_EQUAL])
  | ⟨5, _⟩, e => replace e := e.trans (show _ = Int32.ofInt ((5 : Nat) : Int) from rfl); exact rm0_fffffff l Z a0 hw ws p1 w_LESS w_LESS_OR_EQUAL w_EQUAL w_NOT_EQUAL w_GREATER_OR_EQUAL w_GREATER w_GREATER vs_GREATER vb_GREATER cl_GREATER 1 62 wf 62 62 w_COMPACT_STRINGS h0 n0 Z0 E_w_GREATER Es_GREATER S_LESS S_LESS_OR_EQUAL S_EQUAL S_NOT_EQUAL S_GREATER_OR_EQUAL S_GREATER (by rw [e]; unfold own_pick; rw [if_neg (by decide), if_neg (by decide), if_neg (by decide), if_neg (by decide), if_neg (by decide)]) Fs_GREATER Fv_GREATER Fc_GREATER S_COMPACT_STRINGS hcs Ar_GREATER hS_GREATER (by decide) hin_GREATER hat_GREATER S_SIOOBE hwf (by decide) (by decide) (by decide) (by decide) (by rw [e]; decide) (by rw [e]; decide) (by decide) (by decide) (by decide) (by unfold own_ord; rw [if_neg ne_GREATER_EQUAL, if_neg ne_GREATER_NOT_EQUAL]) (by unfold own_ord; rw [if_neg ne_GREATER_EQUAL, if_neg ne_GREATER_NOT_EQUAL])
theorem own_len {t : Term} {a : Addr} {cl : Cell} {z : Int32} {ty : FieldType} {args : Array Value} {s : State} (hl : (Term.length t).eval args s none [] s = some (.int z)) (ht : t.eval args s none [] s = some (.ref a)) (A : Arr s s.heap a cl ty) : cl.slots.size = z.toNatClampNeg := by
  have ha : s.arrayAt? a = some cl := Arr.fin (Vm.Alike.refl _) A
  by_cases q : cl.slots.size < 2 ^ 31
  · rw [len_f ht ha q] at hl
    have e : cl.slots.size.toInt32 = z := by injection hl with h; injection h
    rw [← e]; simp only [Int32.toNatClampNeg, len_toInt q]; rfl
  · simp [Term.eval, ht, ha, q] at hl
set_option maxRecDepth 65536 in
set_option maxHeartbeats 40000000 in
theorem comes_1 {Post : Tables → Env → Array Value → State → Outcome → State → Prop} (hpost : ∀ tb e args s v u, (limb_1_1.after args s (.returned v) u = true ∧ limb_1_2.after args s (.returned v) u = true ∧ True) → FrameEnd s (.returned v) u (Jvm.fieldLocs frame_1_writes args s ++ Jvm.arrayLocs frame_1_arrays args s ++ Jvm.staticLocs frame_1_statics s) 0 0 → Post tb e args s (.returned v) u) :
    ArmFor flags0 classFile x code maxLocals ret World_1 tables_1 room_1 Calls_1 rest_1 Pre_1 Post := by
  intro l hfl _ _ p e ha hc hk s m args below hf hA hF happ hP
  obtain ⟨hcalls, hrest, hpre⟩ := hP
  obtain ⟨-, -, -, hnamed, -, -, -, hat⟩ := (Spec.applies_iff hf).mp happ
  obtain ⟨hg, hn⟩ := and_e (Cond.before_iff.mp (show (Jvm.Cond.and given_1 narrow_1).before args s = true from hpre))
  obtain ⟨g7, g8⟩ := and_e hg
  obtain ⟨w0, rfl⟩ : ∃ w0 : Value, args = #[w0] := by
    have hs : args.size = 1 := by simpa [Cond.value, given_1] using g7
    obtain ⟨L⟩ := args
    match L, hs with
    | [w0], _ => exact ⟨w0, rfl⟩
  have hw := fun d (hd : d ∈ tables_1) => atoms_spec (ws := Jvm.Cond.code x code maxLocals ret :: tables_1) hat d (List.mem_cons_of_mem _ hd)
  have hfit : Fit s := fun {y c} hc i hi => by
    obtain ⟨ha, rfl⟩ := Array.getElem?_eq_some_iff.mp hc
    have q := List.all_eq_true.mp ((Array.all_eq_true_iff_forall_mem.mp hF) _ (Array.getElem_mem ha)) i (List.mem_range.mpr hi)
    simpa [Array.getElem?_eq_getElem hi] using q
  obtain ⟨hsets, hown0⟩ := atoms_of _ (rest_1_c_eq ▸ (show rest_1_c.before _ s = true from hrest))
  have hr0 := Cond.before_iff.mp hown0
  obtain ⟨i0, ei0⟩ := is_v g8
  obtain rfl : w0 = (.int i0) := Option.some.inj ei0
  obtain ⟨k0, hn⟩ := and_e hn
  obtain ⟨w_LESS, ev_LESS⟩ := exa_v k0
  have E_w_LESS := Exa.start ev_LESS k0
  have S_LESS := Sta.start ev_LESS (Or.inr ⟨(hw _ (List.mem_of_getElem? (i := 6) rfl)), (hw _ (List.mem_of_getElem? (i := 7) rfl))⟩)
  obtain ⟨k1, hn⟩ := and_e hn
  obtain ⟨k2, hn⟩ := and_e hn
  obtain ⟨k3, hn⟩ := and_e hn
  obtain ⟨k4, hn⟩ := and_e hn
  obtain ⟨k5, hn⟩ := and_e hn
  obtain ⟨k6, hn⟩ := and_e hn
  obtain ⟨w_EQUAL, ev_EQUAL⟩ := exa_v k6
  have E_w_EQUAL := Exa.start ev_EQUAL k6
  have S_EQUAL := Sta.start ev_EQUAL (Or.inr ⟨(hw _ (List.mem_of_getElem? (i := 6) rfl)), (hw _ (List.mem_of_getElem? (i := 59) rfl))⟩)
  obtain ⟨k7, hn⟩ := and_e hn
  have o_LESS := own_eqint k7
  obtain ⟨k8, hn⟩ := and_e hn
  have o_EQUAL := own_eqint k8
  obtain ⟨k9, hn⟩ := and_e hn
  obtain ⟨w_NOT_EQUAL, ev_NOT_EQUAL⟩ := exa_v k9
  have E_w_NOT_EQUAL := Exa.start ev_NOT_EQUAL k9
  have S_NOT_EQUAL := Sta.start ev_NOT_EQUAL (Or.inr ⟨(hw _ (List.mem_of_getElem? (i := 6) rfl)), (hw _ (List.mem_of_getElem? (i := 61) rfl))⟩)
  obtain ⟨k10, hn⟩ := and_e hn
  have o_NOT_EQUAL := own_eqint k10
  obtain ⟨k11, hn⟩ := and_e hn
  obtain ⟨k12, hn⟩ := and_e hn
  obtain ⟨k13, hn⟩ := and_e hn
  obtain ⟨k14, hn⟩ := and_e hn
  obtain ⟨k15, hn⟩ := and_e hn
  obtain ⟨k16, hn⟩ := and_e hn
  obtain ⟨k17, hn⟩ := and_e hn
  obtain ⟨k18, hn⟩ := and_e hn
  obtain ⟨k19, hn⟩ := and_e hn
  obtain ⟨k20, hn⟩ := and_e hn
  obtain ⟨k21, hn⟩ := and_e hn
  obtain ⟨w_LESS_OR_EQUAL, ev_LESS_OR_EQUAL⟩ := exa_v k21
  have E_w_LESS_OR_EQUAL := Exa.start ev_LESS_OR_EQUAL k21
  have S_LESS_OR_EQUAL := Sta.start ev_LESS_OR_EQUAL (Or.inr ⟨(hw _ (List.mem_of_getElem? (i := 6) rfl)), (hw _ (List.mem_of_getElem? (i := 65) rfl))⟩)
  obtain ⟨k22, hn⟩ := and_e hn
  obtain ⟨k23, hn⟩ := and_e hn
  obtain ⟨k24, hn⟩ := and_e hn
  obtain ⟨k25, hn⟩ := and_e hn
  obtain ⟨k26, hn⟩ := and_e hn
  obtain ⟨k27, hn⟩ := and_e hn
  have o_LESS_OR_EQUAL := own_eqint k27
  obtain ⟨k28, hn⟩ := and_e hn
  obtain ⟨w_GREATER, ev_GREATER⟩ := exa_v k28
  have E_w_GREATER := Exa.start ev_GREATER k28
  have S_GREATER := Sta.start ev_GREATER (Or.inr ⟨(hw _ (List.mem_of_getElem? (i := 6) rfl)), (hw _ (List.mem_of_getElem? (i := 67) rfl))⟩)
  obtain ⟨k29, hn⟩ := and_e hn
  obtain ⟨k30, hn⟩ := and_e hn
  obtain ⟨k31, hn⟩ := and_e hn
  obtain ⟨k32, hn⟩ := and_e hn
  obtain ⟨k33, hn⟩ := and_e hn
  obtain ⟨k34, hn⟩ := and_e hn
  have o_GREATER := own_eqint k34
  obtain ⟨k35, hn⟩ := and_e hn
  obtain ⟨w_GREATER_OR_EQUAL, ev_GREATER_OR_EQUAL⟩ := exa_v k35
  have E_w_GREATER_OR_EQUAL := Exa.start ev_GREATER_OR_EQUAL k35
  have S_GREATER_OR_EQUAL := Sta.start ev_GREATER_OR_EQUAL (Or.inr ⟨(hw _ (List.mem_of_getElem? (i := 6) rfl)), (hw _ (List.mem_of_getElem? (i := 69) rfl))⟩)
  obtain ⟨k36, hn⟩ := and_e hn
  obtain ⟨k37, hn⟩ := and_e hn
  obtain ⟨k38, hn⟩ := and_e hn
  obtain ⟨k39, hn⟩ := and_e hn
  obtain ⟨k40, hn⟩ := and_e hn
  obtain ⟨k41, hn⟩ := and_e hn
  have o_GREATER_OR_EQUAL := own_eqint k41
  obtain ⟨k42, hn⟩ := and_e hn
  obtain ⟨k43, hn⟩ := and_e hn
  have k44 := hn
  obtain ⟨vs_LESS, es_LESS⟩ := exa_v k1
  have Es_LESS := Exa.start es_LESS k1
  have Fs_LESS := Fld.start ((fld_at ev_LESS).symm.trans es_LESS)
  obtain ⟨vb_LESS, eb_LESS⟩ := arr_v k2
  obtain ⟨cl_LESS, Ar_LESS⟩ := Arr.start eb_LESS k2
  have Fv_LESS := Fld.start ((fld_at es_LESS).symm.trans eb_LESS)
  have hS_LESS := own_len (own_eqint k3) eb_LESS Ar_LESS
  have Fc_LESS := Fld.start ((fld_at es_LESS).symm.trans (own_eqint k4))
  obtain ⟨hin_LESS, hat_LESS⟩ := elem_in (own_eqint k5) eb_LESS (Term.int_eval 0) Ar_LESS.1
  obtain ⟨vs_NOT_EQUAL, es_NOT_EQUAL⟩ := exa_v k11
  have Es_NOT_EQUAL := Exa.start es_NOT_EQUAL k11
  have Fs_NOT_EQUAL := Fld.start ((fld_at ev_NOT_EQUAL).symm.trans es_NOT_EQUAL)
  obtain ⟨vb_NOT_EQUAL, eb_NOT_EQUAL⟩ := arr_v k12
  obtain ⟨cl_NOT_EQUAL, Ar_NOT_EQUAL⟩ := Arr.start eb_NOT_EQUAL k12
  have Fv_NOT_EQUAL := Fld.start ((fld_at es_NOT_EQUAL).symm.trans eb_NOT_EQUAL)
  have hS_NOT_EQUAL := own_len (own_eqint k13) eb_NOT_EQUAL Ar_NOT_EQUAL
  have Fc_NOT_EQUAL := Fld.start ((fld_at es_NOT_EQUAL).symm.trans (own_eqint k14))
  obtain ⟨hin_NOT_EQUAL, hat_NOT_EQUAL⟩ := elem_in (own_eqint k15) eb_NOT_EQUAL (Term.int_eval 0) Ar_NOT_EQUAL.1
  obtain ⟨vs_EQUAL, es_EQUAL⟩ := exa_v k16
  have Es_EQUAL := Exa.start es_EQUAL k16
  have Fs_EQUAL := Fld.start ((fld_at ev_EQUAL).symm.trans es_EQUAL)
  obtain ⟨vb_EQUAL, eb_EQUAL⟩ := arr_v k17
  obtain ⟨cl_EQUAL, Ar_EQUAL⟩ := Arr.start eb_EQUAL k17
  have Fv_EQUAL := Fld.start ((fld_at es_EQUAL).symm.trans eb_EQUAL)
  have hS_EQUAL := own_len (own_eqint k18) eb_EQUAL Ar_EQUAL
  have Fc_EQUAL := Fld.start ((fld_at es_EQUAL).symm.trans (own_eqint k19))
  obtain ⟨hin_EQUAL, hat_EQUAL⟩ := elem_in (own_eqint k20) eb_EQUAL (Term.int_eval 0) Ar_EQUAL.1
  obtain ⟨vs_LESS_OR_EQUAL, es_LESS_OR_EQUAL⟩ := exa_v k22
  have Es_LESS_OR_EQUAL := Exa.start es_LESS_OR_EQUAL k22
  have Fs_LESS_OR_EQUAL := Fld.start ((fld_at ev_LESS_OR_EQUAL).symm.trans es_LESS_OR_EQUAL)
  obtain ⟨vb_LESS_OR_EQUAL, eb_LESS_OR_EQUAL⟩ := arr_v k23
  obtain ⟨cl_LESS_OR_EQUAL, Ar_LESS_OR_EQUAL⟩ := Arr.start eb_LESS_OR_EQUAL k23
  have Fv_LESS_OR_EQUAL := Fld.start ((fld_at es_LESS_OR_EQUAL).symm.trans eb_LESS_OR_EQUAL)
  have hS_LESS_OR_EQUAL := own_len (own_eqint k24) eb_LESS_OR_EQUAL Ar_LESS_OR_EQUAL
  have Fc_LESS_OR_EQUAL := Fld.start ((fld_at es_LESS_OR_EQUAL).symm.trans (own_eqint k25))
  obtain ⟨hin_LESS_OR_EQUAL, hat_LESS_OR_EQUAL⟩ := elem_in (own_eqint k26) eb_LESS_OR_EQUAL (Term.int_eval 0) Ar_LESS_OR_EQUAL.1
  obtain ⟨vs_GREATER, es_GREATER⟩ := exa_v k29
  have Es_GREATER := Exa.start es_GREATER k29
  have Fs_GREATER := Fld.start ((fld_at ev_GREATER).symm.trans es_GREATER)
  obtain ⟨vb_GREATER, eb_GREATER⟩ := arr_v k30
  obtain ⟨cl_GREATER, Ar_GREATER⟩ := Arr.start eb_GREATER k30
  have Fv_GREATER := Fld.start ((fld_at es_GREATER).symm.trans eb_GREATER)
  have hS_GREATER := own_len (own_eqint k31) eb_GREATER Ar_GREATER
  have Fc_GREATER := Fld.start ((fld_at es_GREATER).symm.trans (own_eqint k32))
  obtain ⟨hin_GREATER, hat_GREATER⟩ := elem_in (own_eqint k33) eb_GREATER (Term.int_eval 0) Ar_GREATER.1
  obtain ⟨vs_GREATER_OR_EQUAL, es_GREATER_OR_EQUAL⟩ := exa_v k36
  have Es_GREATER_OR_EQUAL := Exa.start es_GREATER_OR_EQUAL k36
  have Fs_GREATER_OR_EQUAL := Fld.start ((fld_at ev_GREATER_OR_EQUAL).symm.trans es_GREATER_OR_EQUAL)
  obtain ⟨vb_GREATER_OR_EQUAL, eb_GREATER_OR_EQUAL⟩ := arr_v k37
  obtain ⟨cl_GREATER_OR_EQUAL, Ar_GREATER_OR_EQUAL⟩ := Arr.start eb_GREATER_OR_EQUAL k37
  have Fv_GREATER_OR_EQUAL := Fld.start ((fld_at es_GREATER_OR_EQUAL).symm.trans eb_GREATER_OR_EQUAL)
  have hS_GREATER_OR_EQUAL := own_len (own_eqint k38) eb_GREATER_OR_EQUAL Ar_GREATER_OR_EQUAL
  have Fc_GREATER_OR_EQUAL := Fld.start ((fld_at es_GREATER_OR_EQUAL).symm.trans (own_eqint k39))
  obtain ⟨hin_GREATER_OR_EQUAL, hat_GREATER_OR_EQUAL⟩ := elem_in (own_eqint k40) eb_GREATER_OR_EQUAL (Term.int_eval 0) Ar_GREATER_OR_EQUAL.1
  obtain ⟨w_COMPACT_STRINGS, ec0⟩ := is_v (Cond.before_iff.mp (hsets _ (List.mem_of_getElem? (i := 1) rfl)))
  have S_COMPACT_STRINGS := Sta.start ec0 (Or.inl (hsets _ (List.mem_of_getElem? (i := 0) rfl)))
  have hcs : ¬ (w_COMPACT_STRINGS = (0 : Int32)) := gotF (P := w_COMPACT_STRINGS = 0) (by simp only [Cond.value, ec0]; rfl) (not_v (Cond.before_iff.mp (hsets _ (List.mem_of_getElem? (i := 2) rfl))))
  obtain ⟨wf, ef0, hwf⟩ := isR_v (Cond.before_iff.mp (hsets _ (List.mem_of_getElem? (i := 8) rfl)))
  have S_SIOOBE := Sta.start ef0 (Or.inl (hsets _ (List.mem_of_getElem? (i := 7) rfl)))
  have ne_LESS_EQUAL : ¬ (w_LESS = w_EQUAL) := own_ne ev_LESS ev_EQUAL o_LESS o_EQUAL (by decide)
  have ne_LESS_NOT_EQUAL : ¬ (w_LESS = w_NOT_EQUAL) := own_ne ev_LESS ev_NOT_EQUAL o_LESS o_NOT_EQUAL (by decide)
  have ne_LESS_OR_EQUAL_EQUAL : ¬ (w_LESS_OR_EQUAL = w_EQUAL) := own_ne ev_LESS_OR_EQUAL ev_EQUAL o_LESS_OR_EQUAL o_EQUAL (by decide)
  have ne_LESS_OR_EQUAL_NOT_EQUAL : ¬ (w_LESS_OR_EQUAL = w_NOT_EQUAL) := own_ne ev_LESS_OR_EQUAL ev_NOT_EQUAL o_LESS_OR_EQUAL o_NOT_EQUAL (by decide)
  have ne_NOT_EQUAL_EQUAL : ¬ (w_NOT_EQUAL = w_EQUAL) := own_ne ev_NOT_EQUAL ev_EQUAL o_NOT_EQUAL o_EQUAL (by decide)
  have ne_GREATER_OR_EQUAL_EQUAL : ¬ (w_GREATER_OR_EQUAL = w_EQUAL) := own_ne ev_GREATER_OR_EQUAL ev_EQUAL o_GREATER_OR_EQUAL o_EQUAL (by decide)
  have ne_GREATER_OR_EQUAL_NOT_EQUAL : ¬ (w_GREATER_OR_EQUAL = w_NOT_EQUAL) := own_ne ev_GREATER_OR_EQUAL ev_NOT_EQUAL o_GREATER_OR_EQUAL o_NOT_EQUAL (by decide)
  have ne_GREATER_EQUAL : ¬ (w_GREATER = w_EQUAL) := own_ne ev_GREATER ev_EQUAL o_GREATER o_EQUAL (by decide)
  have ne_GREATER_NOT_EQUAL : ¬ (w_GREATER = w_NOT_EQUAL) := own_ne ev_GREATER ev_NOT_EQUAL o_GREATER o_NOT_EQUAL (by decide)
  obtain ⟨n, o, h1, h2, h3, _, L, rfl, ⟨rfl, N, -⟩, hq⟩ := rm0 l s _ hw tables_1 i0 w_LESS vs_LESS vb_LESS cl_LESS w_LESS_OR_EQUAL vs_LESS_OR_EQUAL vb_LESS_OR_EQUAL cl_LESS_OR_EQUAL w_EQUAL vs_EQUAL vb_EQUAL cl_EQUAL w_NOT_EQUAL vs_NOT_EQUAL vb_NOT_EQUAL cl_NOT_EQUAL w_GREATER_OR_EQUAL vs_GREATER_OR_EQUAL vb_GREATER_OR_EQUAL cl_GREATER_OR_EQUAL w_GREATER vs_GREATER vb_GREATER cl_GREATER wf w_COMPACT_STRINGS s.heap s.heap.size (Nat.le_refl _) S_LESS S_LESS_OR_EQUAL S_EQUAL S_NOT_EQUAL S_GREATER_OR_EQUAL S_GREATER E_w_LESS E_w_LESS_OR_EQUAL E_w_EQUAL E_w_NOT_EQUAL E_w_GREATER_OR_EQUAL E_w_GREATER Fs_LESS Es_LESS Fv_LESS Fc_LESS Ar_LESS hS_LESS hin_LESS hat_LESS Fs_LESS_OR_EQUAL Es_LESS_OR_EQUAL Fv_LESS_OR_EQUAL Fc_LESS_OR_EQUAL Ar_LESS_OR_EQUAL hS_LESS_OR_EQUAL hin_LESS_OR_EQUAL hat_LESS_OR_EQUAL Fs_EQUAL Es_EQUAL Fv_EQUAL Fc_EQUAL Ar_EQUAL hS_EQUAL hin_EQUAL hat_EQUAL Fs_NOT_EQUAL Es_NOT_EQUAL Fv_NOT_EQUAL Fc_NOT_EQUAL Ar_NOT_EQUAL hS_NOT_EQUAL hin_NOT_EQUAL hat_NOT_EQUAL Fs_GREATER_OR_EQUAL Es_GREATER_OR_EQUAL Fv_GREATER_OR_EQUAL Fc_GREATER_OR_EQUAL Ar_GREATER_OR_EQUAL hS_GREATER_OR_EQUAL hin_GREATER_OR_EQUAL hat_GREATER_OR_EQUAL Fs_GREATER Es_GREATER Fv_GREATER Fc_GREATER Ar_GREATER hS_GREATER hin_GREATER hat_GREATER S_COMPACT_STRINGS hcs S_SIOOBE hwf ne_LESS_EQUAL ne_LESS_NOT_EQUAL ne_LESS_OR_EQUAL_EQUAL ne_LESS_OR_EQUAL_NOT_EQUAL ne_NOT_EQUAL_EQUAL ne_GREATER_OR_EQUAL_EQUAL ne_GREATER_OR_EQUAL_NOT_EQUAL ne_GREATER_EQUAL ne_GREATER_NOT_EQUAL p e ha hc hk s m _ below hf ((Spec.applies_iff_loose hf).mp happ).1 ⟨rfl, State.Warmed39.refl s, rfl⟩ trivial
  refine ⟨n, _, h1, h2, h3, hpost _ _ _ _ _ _ ⟨Cond.after_iff.mpr rfl, Cond.after_iff.mpr (eq_i res_at (Term.int_eval (1)) rfl), trivial⟩ ⟨hq.1, hq.2.1, (hq.2.2.sift fun y hy => Or.inr (N y hy)).mono (by decide) (by decide)⟩⟩
theorem main_1_1 : Claimed_1_1 := comes_1 fun _ _ _ _ _ _ h hF => ⟨h.1, hF⟩
theorem main_1_2 : Claimed_1_2 := comes_1 fun _ _ _ _ _ _ h hF => ⟨h.2.1, hF⟩
end Jvm.Pilot.@@N@@
namespace Jvm.Pilot.@@N@@
open Jvm Jvm.ClassFile Sem Op Lib Jvm.Free Jvm.Stand Jvm.Pilot.@@N@@.Jvm.D
/-! MADE BY PROGRAM (witnessworld.py) out of the Statement's table words and the real class files: 18 classes; the members and pool entries that the words name. The judged class is class 1, her method 1. -/
namespace start1
open Jvm.ClassFile
def u (s : String) : CpInfo := .utf8 (stringToUtf16 s)
/-- a pool by its gaps: so many unusable entries, then the entry; so many at the end -/
def gap : Nat → List CpInfo → List CpInfo
  | 0, r => r
  | n + 1, r => .unusable :: gap n r
def poolList (es : List (Nat × CpInfo)) (last : Nat) : List CpInfo := es.foldr (fun e r => gap e.1 (e.2 :: r)) (gap last [])
def pool (es : List (Nat × CpInfo)) (last : Nat) : Array CpInfo := ⟨poolList es last⟩
def fileOf (pool : Array CpInfo) (this : Nat) (attrs : Array Attribute := #[]) (ms : Array MethodInfo := #[]) (fl : Nat := 33) (sup : Nat := 0) (ifs : Array Nat := #[]) (fds : Array FieldInfo := #[]) : ClassFile where
  minorVersion := 0
  majorVersion := 65
  constantPool := pool
  accessFlags := fl
  thisClass := this
  superClass := sup
  interfaces := ifs
  fields := fds
  methods := ms
  attributes := attrs
def plain (name : String) (sup : Option ClassId) : Class where
  name := name
  kind := .ordinary
  loader := none
  accessFlags := 33
  super := sup
  interfaces := #[]
  cf := none
  fields := #[]
  methods := #[]
  instanceTypes := #[]
  staticTypes := #[]
  resolved := #[]
  callSites := []
  init := .initialized
  statics := none
  mirror := none

def pool0 : Array CpInfo := pool [(5, u "<init>"), (0, u "()V"), (1, .class_ 10), (1, u "java/lang/Object")] 113

def k0m0 : Method := { name := "<init>", desc := "()V", sig := { parameters := [], returnType := none }, accessFlags := 1, code := none }
/-- java/lang/Object -/
def k0 : Class := { plain "java/lang/Object" none with
  accessFlags := 33
  interfaces := #[]
  cf := some (fileOf pool0 8 #[] #[{ accessFlags := 1, nameIndex := 5, descriptorIndex := 6, attributes := #[] }] 33 0 #[] #[])
  fields := #[]
  methods := #[k0m0]
  instanceTypes := #[]
  staticTypes := #[]
  resolved := Array.replicate 124 none
  statics := none }

def pool1 : Array CpInfo := pool [(2, .class_ 4), (1, u "java/lang/Object"), (0, u "<init>"), (0, u "()V"), (0, .integer 2147483647), (0, .methodref 9 10), (0, .class_ 11), (0, .nameAndType 12 13), (0, u "com/example/niyama/niyama/relational/model/OperatorIsOrderPinLaw"), (0, u "pick"), (0, u "(I)Lcom/example/niyama/niyama/relational/model/ScalarComparison$Operator;"), (0, .methodref 15 16), (0, .class_ 17), (0, .nameAndType 18 19), (0, u "com/example/niyama/niyama/relational/model/ScalarComparison$Operator"), (0, u "symbol"), (0, u "()Ljava/lang/String;"), (0, .methodref 21 22), (0, .class_ 23), (0, .nameAndType 24 25), (0, u "java/lang/String"), (0, u "length"), (0, u "()I"), (0, .methodref 21 27), (0, .nameAndType 28 29), (0, u "charAt"), (0, u "(I)C"), (0, .methodref 15 31), (0, .nameAndType 32 33), (0, u "isOrder"), (0, u "()Z"), (0, .fieldref 15 35), (0, .nameAndType 36 37), (0, u "LESS"), (0, u "Lcom/example/niyama/niyama/relational/model/ScalarComparison$Operator;"), (0, .fieldref 15 39), (0, .nameAndType 40 37), (0, u "LESS_OR_EQUAL"), (0, .fieldref 15 42), (0, .nameAndType 43 37), (0, u "EQUAL"), (0, .fieldref 15 45), (0, .nameAndType 46 37), (0, u "NOT_EQUAL"), (0, .fieldref 15 48), (0, .nameAndType 49 37), (0, u "GREATER_OR_EQUAL"), (0, .fieldref 15 51), (0, .nameAndType 52 37), (0, u "GREATER"), (2, u "law"), (0, u "(I)Z")] 7

def k1m0 : Method := { name := "<init>", desc := "()V", sig := { parameters := [], returnType := none }, accessFlags := 1, code := none }
def k1c1 : Code := { maxStack := 2, maxLocals := 7, code := code, exceptionTable := #[], attributes := #[] }
def k1m1 : Method := { name := "law", desc := "(I)Z", sig := { parameters := [.int], returnType := some .boolean }, accessFlags := 9, code := some k1c1 }
def k1c2 : Code := { maxStack := 2, maxLocals := 1, code := method_3_code, exceptionTable := #[], attributes := #[] }
def k1m2 : Method := { name := "pick", desc := "(I)Lcom/example/niyama/niyama/relational/model/ScalarComparison$Operator;", sig := { parameters := [.int], returnType := some (.object "com/example/niyama/niyama/relational/model/ScalarComparison$Operator") }, accessFlags := 10, code := some k1c2 }
/-- com/example/niyama/niyama/relational/model/OperatorIsOrderPinLaw -/
def k1 : Class := { plain "com/example/niyama/niyama/relational/model/OperatorIsOrderPinLaw" (some 0) with
  accessFlags := 49
  interfaces := #[]
  cf := some (fileOf pool1 9 #[] #[{ accessFlags := 1, nameIndex := 5, descriptorIndex := 6, attributes := #[] }, { accessFlags := 9, nameIndex := 55, descriptorIndex := 56, attributes := #[] }, { accessFlags := 10, nameIndex := 12, descriptorIndex := 13, attributes := #[] }] 49 2 #[] #[])
  fields := #[]
  methods := #[k1m0, k1m1, k1m2]
  instanceTypes := #[]
  staticTypes := #[]
  resolved := Array.replicate 64 none
  statics := none }

def pool2 : Array CpInfo := pool [(1, .class_ 2), (0, u "java/lang/constant/Constable"), (0, .class_ 4), (0, u "java/lang/Object")] 6

/-- java/lang/constant/Constable -/
def k2 : Class := { plain "java/lang/constant/Constable" (some 0) with
  accessFlags := 1537
  interfaces := #[]
  cf := some (fileOf pool2 1 #[] #[] 1537 3 #[] #[])
  fields := #[]
  methods := #[]
  instanceTypes := #[]
  staticTypes := #[]
  resolved := Array.replicate 11 none
  statics := none }

def pool3 : Array CpInfo := pool [(1, .class_ 2), (0, u "java/lang/Comparable"), (0, .class_ 4), (0, u "java/lang/Object")] 7

/-- java/lang/Comparable -/
def k3 : Class := { plain "java/lang/Comparable" (some 0) with
  accessFlags := 1537
  interfaces := #[]
  cf := some (fileOf pool3 1 #[] #[] 1537 3 #[] #[])
  fields := #[]
  methods := #[]
  instanceTypes := #[]
  staticTypes := #[]
  resolved := Array.replicate 12 none
  statics := none }

def pool4 : Array CpInfo := pool [(1, .class_ 2), (0, u "java/io/Serializable"), (0, .class_ 4), (0, u "java/lang/Object")] 2

/-- java/io/Serializable -/
def k4 : Class := { plain "java/io/Serializable" (some 0) with
  accessFlags := 1537
  interfaces := #[]
  cf := some (fileOf pool4 1 #[] #[] 1537 3 #[] #[])
  fields := #[]
  methods := #[]
  instanceTypes := #[]
  staticTypes := #[]
  resolved := Array.replicate 7 none
  statics := none }

def pool5 : Array CpInfo := pool [(2, .class_ 4), (1, u "java/lang/Enum"), (0, u "name"), (0, u "Ljava/lang/String;"), (2, u "ordinal"), (0, u "I"), (1, .class_ 14), (1, u "java/lang/Object"), (4, u "hash"), (86, .class_ 108), (1, u "java/lang/Enum$EnumDesc"), (2, .class_ 112), (0, u "java/lang/constant/Constable"), (0, .class_ 114), (0, u "java/lang/Comparable"), (0, .class_ 116), (0, u "java/io/Serializable")] 87

/-- java/lang/Enum -/
def k5 : Class := { plain "java/lang/Enum" (some 0) with
  accessFlags := 1057
  interfaces := #[2, 3, 4]
  cf := some (fileOf pool5 2 #[.nestMembers #[106]] #[] 1057 12 #[111, 113, 115] #[{ accessFlags := 18, nameIndex := 5, descriptorIndex := 6, attributes := #[] }, { accessFlags := 18, nameIndex := 9, descriptorIndex := 10, attributes := #[] }, { accessFlags := 2, nameIndex := 19, descriptorIndex := 10, attributes := #[] }])
  fields := #[{ name := "name", type := (.object "java/lang/String"), accessFlags := 18, slot := 0, constantValue := 0 }, { name := "ordinal", type := .int, accessFlags := 18, slot := 1, constantValue := 0 }, { name := "hash", type := .int, accessFlags := 2, slot := 2, constantValue := 0 }]
  methods := #[]
  instanceTypes := #[(.object "java/lang/String"), .int, .int]
  staticTypes := #[]
  resolved := Array.replicate 204 none
  statics := none }

def pool6 : Array CpInfo := pool [(1, .class_ 2), (0, u "com/example/niyama/niyama/relational/model/ScalarComparison$Operator"), (2, u "LESS"), (0, u "Lcom/example/niyama/niyama/relational/model/ScalarComparison$Operator;"), (2, u "LESS_OR_EQUAL"), (0, .fieldref 1 11), (0, .nameAndType 12 6), (0, u "EQUAL"), (0, .fieldref 1 14), (0, .nameAndType 15 6), (0, u "NOT_EQUAL"), (2, u "GREATER_OR_EQUAL"), (2, u "GREATER"), (2, u "$VALUES"), (0, u "[Lcom/example/niyama/niyama/relational/model/ScalarComparison$Operator;"), (6, .class_ 34), (1, u "java/lang/Enum"), (6, .fieldref 1 42), (0, .nameAndType 43 44), (0, u "symbol"), (0, u "Ljava/lang/String;"), (32, u "()Ljava/lang/String;"), (0, u "isOrder"), (0, u "()Z"), (7, .class_ 88), (0, u "com/example/niyama/niyama/relational/model/ScalarComparison")] 2

def k6c0 : Code := { maxStack := 1, maxLocals := 1, code := prog_75_method_4_code, exceptionTable := #[], attributes := #[] }
def k6m0 : Method := { name := "symbol", desc := "()Ljava/lang/String;", sig := { parameters := [], returnType := some (.object "java/lang/String") }, accessFlags := 1, code := some k6c0 }
def k6c1 : Code := { maxStack := 2, maxLocals := 1, code := prog_75_method_5_code, exceptionTable := #[], attributes := #[] }
def k6m1 : Method := { name := "isOrder", desc := "()Z", sig := { parameters := [], returnType := some .boolean }, accessFlags := 1, code := some k6c1 }
/-- com/example/niyama/niyama/relational/model/ScalarComparison$Operator -/
def k6 : Class := { plain "com/example/niyama/niyama/relational/model/ScalarComparison$Operator" (some 5) with
  accessFlags := 16433
  interfaces := #[]
  cf := some (fileOf pool6 1 #[.nestHost 87] #[{ accessFlags := 1, nameIndex := 43, descriptorIndex := 77, attributes := #[] }, { accessFlags := 1, nameIndex := 78, descriptorIndex := 79, attributes := #[] }] 16433 32 #[] #[{ accessFlags := 16409, nameIndex := 5, descriptorIndex := 6, attributes := #[] }, { accessFlags := 16409, nameIndex := 9, descriptorIndex := 6, attributes := #[] }, { accessFlags := 16409, nameIndex := 12, descriptorIndex := 6, attributes := #[] }, { accessFlags := 16409, nameIndex := 15, descriptorIndex := 6, attributes := #[] }, { accessFlags := 16409, nameIndex := 18, descriptorIndex := 6, attributes := #[] }, { accessFlags := 16409, nameIndex := 21, descriptorIndex := 6, attributes := #[] }, { accessFlags := 18, nameIndex := 43, descriptorIndex := 44, attributes := #[] }, { accessFlags := 4122, nameIndex := 24, descriptorIndex := 25, attributes := #[] }])
  fields := #[{ name := "LESS", type := (.object "com/example/niyama/niyama/relational/model/ScalarComparison$Operator"), accessFlags := 16409, slot := 0, constantValue := 0 }, { name := "LESS_OR_EQUAL", type := (.object "com/example/niyama/niyama/relational/model/ScalarComparison$Operator"), accessFlags := 16409, slot := 1, constantValue := 0 }, { name := "EQUAL", type := (.object "com/example/niyama/niyama/relational/model/ScalarComparison$Operator"), accessFlags := 16409, slot := 2, constantValue := 0 }, { name := "NOT_EQUAL", type := (.object "com/example/niyama/niyama/relational/model/ScalarComparison$Operator"), accessFlags := 16409, slot := 3, constantValue := 0 }, { name := "GREATER_OR_EQUAL", type := (.object "com/example/niyama/niyama/relational/model/ScalarComparison$Operator"), accessFlags := 16409, slot := 4, constantValue := 0 }, { name := "GREATER", type := (.object "com/example/niyama/niyama/relational/model/ScalarComparison$Operator"), accessFlags := 16409, slot := 5, constantValue := 0 }, { name := "symbol", type := (.object "java/lang/String"), accessFlags := 18, slot := 3, constantValue := 0 }, { name := "$VALUES", type := (.array (.object "com/example/niyama/niyama/relational/model/ScalarComparison$Operator")), accessFlags := 4122, slot := 6, constantValue := 0 }]
  methods := #[k6m0, k6m1]
  instanceTypes := #[(.object "java/lang/String"), .int, .int, (.object "java/lang/String")]
  staticTypes := #[(.object "com/example/niyama/niyama/relational/model/ScalarComparison$Operator"), (.object "com/example/niyama/niyama/relational/model/ScalarComparison$Operator"), (.object "com/example/niyama/niyama/relational/model/ScalarComparison$Operator"), (.object "com/example/niyama/niyama/relational/model/ScalarComparison$Operator"), (.object "com/example/niyama/niyama/relational/model/ScalarComparison$Operator"), (.object "com/example/niyama/niyama/relational/model/ScalarComparison$Operator"), (.array (.object "com/example/niyama/niyama/relational/model/ScalarComparison$Operator"))]
  resolved := Array.replicate 91 none
  statics := some 0 }

def pool7 : Array CpInfo := pool [(2, .class_ 4), (1, u "java/lang/CharSequence"), (42, .class_ 48), (0, u "java/lang/CharSequence$1CodePointIterator"), (10, .class_ 60), (0, u "java/lang/CharSequence$1CharIterator"), (5, .class_ 67), (0, u "java/lang/Object")] 63

/-- java/lang/CharSequence -/
def k7 : Class := { plain "java/lang/CharSequence" (some 0) with
  accessFlags := 1537
  interfaces := #[]
  cf := some (fileOf pool7 2 #[.nestMembers #[47, 59]] #[] 1537 66 #[] #[])
  fields := #[]
  methods := #[]
  instanceTypes := #[]
  staticTypes := #[]
  resolved := Array.replicate 131 none
  statics := none }

def pool8 : Array CpInfo := pool [(1, .class_ 2), (0, u "java/lang/constant/ConstantDesc"), (0, .class_ 4), (0, u "java/lang/Object")] 32

/-- java/lang/constant/ConstantDesc -/
def k8 : Class := { plain "java/lang/constant/ConstantDesc" (some 0) with
  accessFlags := 1537
  interfaces := #[]
  cf := some (fileOf pool8 1 #[] #[] 1537 3 #[] #[])
  fields := #[]
  methods := #[]
  instanceTypes := #[]
  staticTypes := #[]
  resolved := Array.replicate 37 none
  statics := none }

def pool9 : Array CpInfo := pool [(2, .class_ 4), (1, u "java/lang/Object"), (0, u "<init>"), (0, u "()V"), (2, .fieldref 10 11), (0, .class_ 12), (0, .nameAndType 13 14), (0, u "java/lang/String"), (0, u "value"), (0, u "[B"), (0, .fieldref 10 16), (0, .nameAndType 17 18), (0, u "coder"), (0, u "B"), (2, u "hash"), (0, u "I"), (2, u "hashIsZero"), (0, u "Z"), (11, .fieldref 10 39), (0, .nameAndType 40 26), (0, u "COMPACT_STRINGS"), (66, .class_ 109), (1, u "java/lang/StringLatin1"), (32, u "()Z"), (191, u "()I"), (0, .methodref 10 336), (0, .nameAndType 17 337), (0, u "()B"), (25, u "([BI)C"), (27, u "(II)V"), (35, u "(I)C"), (64, .methodref 10 493), (0, .nameAndType 494 142), (0, u "isLatin1"), (0, .methodref 107 496), (0, .nameAndType 497 363), (0, u "charAt"), (3, u "checkIndex"), (5, u "length"), (67, .class_ 576), (0, u "java/lang/CharSequence"), (22, u "CASE_INSENSITIVE_ORDER"), (0, u "Ljava/util/Comparator;"), (452, .fieldref 1054 1055), (0, .class_ 1056), (0, .nameAndType 1057 1058), (0, u "jdk/internal/util/Preconditions"), (0, u "SIOOBE_FORMATTER"), (0, u "Ljava/util/function/BiFunction;"), (0, .methodref 1054 1060), (0, .nameAndType 501 1061), (0, u "(IILjava/util/function/BiFunction;)I"), (39, u "serialPersistentFields"), (0, u "[Ljava/io/ObjectStreamField;"), (0, .class_ 1104), (0, u "java/lang/String$CaseInsensitiveComparator"), (1, .class_ 1107), (0, u "java/io/Serializable"), (0, .class_ 1109), (0, u "java/lang/Comparable"), (0, .class_ 1111), (0, u "java/lang/constant/Constable"), (0, .class_ 1113), (0, u "java/lang/constant/ConstantDesc"), (2, u "serialVersionUID"), (0, u "J"), (3, u "REPL"), (0, u "C"), (2, u "LATIN1"), (1, u "UTF16")] 323

def k9m0 : Method := { name := "<init>", desc := "()V", sig := { parameters := [], returnType := none }, accessFlags := 1, code := none }
def k9c1 : Code := { maxStack := 2, maxLocals := 1, code := jdk_42_method_54_code, exceptionTable := #[], attributes := #[] }
def k9m1 : Method := { name := "length", desc := "()I", sig := { parameters := [], returnType := some .int }, accessFlags := 1, code := some k9c1 }
def k9c2 : Code := { maxStack := 2, maxLocals := 2, code := jdk_42_method_56_code, exceptionTable := #[], attributes := #[] }
def k9m2 : Method := { name := "charAt", desc := "(I)C", sig := { parameters := [.int], returnType := some .char }, accessFlags := 1, code := some k9c2 }
def k9c3 : Code := { maxStack := 1, maxLocals := 1, code := jdk_42_method_152_code, exceptionTable := #[], attributes := #[] }
def k9m3 : Method := { name := "coder", desc := "()B", sig := { parameters := [], returnType := some .byte }, accessFlags := 0, code := some k9c3 }
def k9c4 : Code := { maxStack := 1, maxLocals := 1, code := jdk_42_method_154_code, exceptionTable := #[], attributes := #[] }
def k9m4 : Method := { name := "isLatin1", desc := "()Z", sig := { parameters := [], returnType := some .boolean }, accessFlags := 0, code := some k9c4 }
def k9c5 : Code := { maxStack := 3, maxLocals := 2, code := jdk_42_method_155_code, exceptionTable := #[], attributes := #[] }
def k9m5 : Method := { name := "checkIndex", desc := "(II)V", sig := { parameters := [.int, .int], returnType := none }, accessFlags := 8, code := some k9c5 }
/-- java/lang/String -/
def k9 : Class := { plain "java/lang/String" (some 0) with
  accessFlags := 49
  interfaces := #[4, 3, 7, 2, 8]
  cf := some (fileOf pool9 10 #[.nestMembers #[1103]] #[{ accessFlags := 1, nameIndex := 5, descriptorIndex := 6, attributes := #[] }, { accessFlags := 1, nameIndex := 507, descriptorIndex := 334, attributes := #[] }, { accessFlags := 1, nameIndex := 497, descriptorIndex := 427, attributes := #[] }, { accessFlags := 0, nameIndex := 17, descriptorIndex := 337, attributes := #[] }, { accessFlags := 0, nameIndex := 494, descriptorIndex := 142, attributes := #[] }, { accessFlags := 8, nameIndex := 501, descriptorIndex := 391, attributes := #[] }] 49 2 #[1106, 1108, 575, 1110, 1112] #[{ accessFlags := 18, nameIndex := 13, descriptorIndex := 14, attributes := #[] }, { accessFlags := 18, nameIndex := 17, descriptorIndex := 18, attributes := #[] }, { accessFlags := 2, nameIndex := 21, descriptorIndex := 22, attributes := #[] }, { accessFlags := 2, nameIndex := 25, descriptorIndex := 26, attributes := #[] }, { accessFlags := 26, nameIndex := 1116, descriptorIndex := 1117, attributes := #[] }, { accessFlags := 24, nameIndex := 40, descriptorIndex := 26, attributes := #[] }, { accessFlags := 26, nameIndex := 1101, descriptorIndex := 1102, attributes := #[] }, { accessFlags := 26, nameIndex := 1121, descriptorIndex := 1122, attributes := #[] }, { accessFlags := 25, nameIndex := 599, descriptorIndex := 600, attributes := #[] }, { accessFlags := 24, nameIndex := 1125, descriptorIndex := 18, attributes := #[] }, { accessFlags := 24, nameIndex := 1127, descriptorIndex := 18, attributes := #[] }])
  fields := #[{ name := "value", type := (.array .byte), accessFlags := 18, slot := 0, constantValue := 0 }, { name := "coder", type := .byte, accessFlags := 18, slot := 1, constantValue := 0 }, { name := "hash", type := .int, accessFlags := 2, slot := 2, constantValue := 0 }, { name := "hashIsZero", type := .boolean, accessFlags := 2, slot := 3, constantValue := 0 }, { name := "serialVersionUID", type := .long, accessFlags := 26, slot := 0, constantValue := 0 }, { name := "COMPACT_STRINGS", type := .boolean, accessFlags := 24, slot := 1, constantValue := 0 }, { name := "serialPersistentFields", type := (.array (.object "java/io/ObjectStreamField")), accessFlags := 26, slot := 2, constantValue := 0 }, { name := "REPL", type := .char, accessFlags := 26, slot := 3, constantValue := 0 }, { name := "CASE_INSENSITIVE_ORDER", type := (.object "java/util/Comparator"), accessFlags := 25, slot := 4, constantValue := 0 }, { name := "LATIN1", type := .byte, accessFlags := 24, slot := 5, constantValue := 0 }, { name := "UTF16", type := .byte, accessFlags := 24, slot := 6, constantValue := 0 }]
  methods := #[k9m0, k9m1, k9m2, k9m3, k9m4, k9m5]
  instanceTypes := #[(.array .byte), .byte, .int, .boolean]
  staticTypes := #[.long, .boolean, (.array (.object "java/io/ObjectStreamField")), .char, (.object "java/util/Comparator"), .byte, .byte]
  resolved := Array.replicate 1451 none
  statics := some 1 }

def pool10 : Array CpInfo := pool [(1, .class_ 2), (0, u "java/lang/String"), (1, .class_ 6), (1, u "java/lang/Object"), (0, u "<init>"), (0, u "()V"), (0, .methodref 1 10), (0, .nameAndType 11 12), (0, u "checkIndex"), (0, u "(II)V"), (1, .class_ 16), (1, u "java/lang/StringLatin1"), (36, u "([BI)C"), (67, u "$assertionsDisabled"), (0, u "Z"), (98, .class_ 223), (1, u "java/lang/StringLatin1$LinesSpliterator"), (28, u "charAt"), (137, .class_ 391), (0, u "java/lang/StringLatin1$CharsSpliterator")] 3

def k10m0 : Method := { name := "<init>", desc := "()V", sig := { parameters := [], returnType := none }, accessFlags := 0, code := none }
def k10c1 : Code := { maxStack := 2, maxLocals := 2, code := jdk_43_method_2_code, exceptionTable := #[], attributes := #[] }
def k10m1 : Method := { name := "charAt", desc := "([BI)C", sig := { parameters := [(.array .byte), .int], returnType := some .char }, accessFlags := 9, code := some k10c1 }
/-- java/lang/StringLatin1 -/
def k10 : Class := { plain "java/lang/StringLatin1" (some 0) with
  accessFlags := 48
  interfaces := #[]
  cf := some (fileOf pool10 14 #[.nestMembers #[390, 221]] #[{ accessFlags := 0, nameIndex := 7, descriptorIndex := 8, attributes := #[] }, { accessFlags := 9, nameIndex := 252, descriptorIndex := 53, attributes := #[] }] 48 4 #[] #[{ accessFlags := 4120, nameIndex := 121, descriptorIndex := 122, attributes := #[] }])
  fields := #[{ name := "$assertionsDisabled", type := .boolean, accessFlags := 4120, slot := 0, constantValue := 0 }]
  methods := #[k10m0, k10m1]
  instanceTypes := #[]
  staticTypes := #[.boolean]
  resolved := Array.replicate 395 none
  statics := none }

def pool11 : Array CpInfo := pool [(2, .class_ 4), (1, u "java/lang/Object"), (0, u "<init>"), (0, u "()V"), (17, .class_ 26), (1, u "jdk/internal/util/Preconditions"), (6, u "checkIndex"), (21, .class_ 56), (0, u "jdk/internal/util/Preconditions$4"), (57, .class_ 115), (0, u "jdk/internal/util/Preconditions$1"), (7, u "SIOOBE_FORMATTER"), (0, u "Ljava/util/function/BiFunction;"), (0, .class_ 126), (0, u "jdk/internal/util/Preconditions$2"), (3, u "AIOOBE_FORMATTER"), (0, .class_ 132), (0, u "jdk/internal/util/Preconditions$3"), (3, u "IOOBE_FORMATTER"), (41, u "(IILjava/util/function/BiFunction;)I")] 15

def k11m0 : Method := { name := "<init>", desc := "()V", sig := { parameters := [], returnType := none }, accessFlags := 1, code := none }
def k11c1 : Code := { maxStack := 3, maxLocals := 3, code := jdk_41_method_11_code, exceptionTable := #[], attributes := #[] }
def k11m1 : Method := { name := "checkIndex", desc := "(IILjava/util/function/BiFunction;)I", sig := { parameters := [.int, .int, (.object "java/util/function/BiFunction")], returnType := some .int }, accessFlags := 9, code := some k11c1 }
/-- jdk/internal/util/Preconditions -/
def k11 : Class := { plain "jdk/internal/util/Preconditions" (some 0) with
  accessFlags := 33
  interfaces := #[]
  cf := some (fileOf pool11 24 #[.nestMembers #[55, 131, 125, 114]] #[{ accessFlags := 1, nameIndex := 5, descriptorIndex := 6, attributes := #[] }, { accessFlags := 9, nameIndex := 33, descriptorIndex := 178, attributes := #[] }] 33 2 #[] #[{ accessFlags := 25, nameIndex := 123, descriptorIndex := 124, attributes := #[] }, { accessFlags := 25, nameIndex := 130, descriptorIndex := 124, attributes := #[] }, { accessFlags := 25, nameIndex := 136, descriptorIndex := 124, attributes := #[] }])
  fields := #[{ name := "SIOOBE_FORMATTER", type := (.object "java/util/function/BiFunction"), accessFlags := 25, slot := 0, constantValue := 0 }, { name := "AIOOBE_FORMATTER", type := (.object "java/util/function/BiFunction"), accessFlags := 25, slot := 1, constantValue := 0 }, { name := "IOOBE_FORMATTER", type := (.object "java/util/function/BiFunction"), accessFlags := 25, slot := 2, constantValue := 0 }]
  methods := #[k11m0, k11m1]
  instanceTypes := #[]
  staticTypes := #[(.object "java/util/function/BiFunction"), (.object "java/util/function/BiFunction"), (.object "java/util/function/BiFunction")]
  resolved := Array.replicate 194 none
  statics := some 2 }

def pool12 : Array CpInfo := pool [(9, u "<init>"), (6, .class_ 18), (1, u "java/lang/Object"), (0, u "()V"), (1, .class_ 23), (1, u "jdk/internal/util/ArraysSupport"), (0, u "LOG2_ARRAY_LONG_INDEX_SCALE"), (0, u "I"), (2, u "U"), (0, u "Ljdk/internal/misc/Unsafe;"), (8, u "BIG_ENDIAN"), (0, u "Z"), (8, u "LOG2_BYTE_BIT_SIZE"), (4, u "LOG2_ARRAY_INT_INDEX_SCALE"), (54, u "JLA"), (0, u "Ljdk/internal/access/JavaLangAccess;"), (11, u "LOG2_ARRAY_BOOLEAN_INDEX_SCALE"), (9, u "LOG2_ARRAY_BYTE_INDEX_SCALE"), (5, u "LOG2_ARRAY_CHAR_INDEX_SCALE"), (5, u "LOG2_ARRAY_SHORT_INDEX_SCALE"), (18, u "LOG2_ARRAY_FLOAT_INDEX_SCALE"), (24, u "LOG2_ARRAY_DOUBLE_INDEX_SCALE"), (89, u "T_BOOLEAN"), (2, u "T_CHAR"), (1, u "T_FLOAT"), (1, u "T_DOUBLE"), (1, u "T_BYTE"), (1, u "T_SHORT"), (1, u "T_INT"), (1, u "T_LONG"), (1, u "SOFT_MAX_ARRAY_LENGTH")] 83

def k12m0 : Method := { name := "<init>", desc := "()V", sig := { parameters := [], returnType := none }, accessFlags := 2, code := none }
/-- jdk/internal/util/ArraysSupport -/
def k12 : Class := { plain "jdk/internal/util/ArraysSupport" (some 0) with
  accessFlags := 33
  interfaces := #[]
  cf := some (fileOf pool12 21 #[] #[{ accessFlags := 2, nameIndex := 9, descriptorIndex := 19, attributes := #[] }] 33 16 #[] #[{ accessFlags := 24, nameIndex := 28, descriptorIndex := 29, attributes := #[] }, { accessFlags := 26, nameIndex := 38, descriptorIndex := 39, attributes := #[] }, { accessFlags := 25, nameIndex := 121, descriptorIndex := 25, attributes := #[] }, { accessFlags := 25, nameIndex := 131, descriptorIndex := 25, attributes := #[] }, { accessFlags := 25, nameIndex := 137, descriptorIndex := 25, attributes := #[] }, { accessFlags := 25, nameIndex := 143, descriptorIndex := 25, attributes := #[] }, { accessFlags := 25, nameIndex := 53, descriptorIndex := 25, attributes := #[] }, { accessFlags := 25, nameIndex := 24, descriptorIndex := 25, attributes := #[] }, { accessFlags := 25, nameIndex := 162, descriptorIndex := 25, attributes := #[] }, { accessFlags := 25, nameIndex := 187, descriptorIndex := 25, attributes := #[] }, { accessFlags := 26, nameIndex := 48, descriptorIndex := 25, attributes := #[] }, { accessFlags := 25, nameIndex := 277, descriptorIndex := 25, attributes := #[] }, { accessFlags := 25, nameIndex := 280, descriptorIndex := 25, attributes := #[] }, { accessFlags := 25, nameIndex := 282, descriptorIndex := 25, attributes := #[] }, { accessFlags := 25, nameIndex := 284, descriptorIndex := 25, attributes := #[] }, { accessFlags := 25, nameIndex := 286, descriptorIndex := 25, attributes := #[] }, { accessFlags := 25, nameIndex := 288, descriptorIndex := 25, attributes := #[] }, { accessFlags := 25, nameIndex := 290, descriptorIndex := 25, attributes := #[] }, { accessFlags := 25, nameIndex := 292, descriptorIndex := 25, attributes := #[] }, { accessFlags := 26, nameIndex := 108, descriptorIndex := 109, attributes := #[] }, { accessFlags := 25, nameIndex := 294, descriptorIndex := 25, attributes := #[] }])
  fields := #[{ name := "U", type := (.object "jdk/internal/misc/Unsafe"), accessFlags := 24, slot := 0, constantValue := 0 }, { name := "BIG_ENDIAN", type := .boolean, accessFlags := 26, slot := 1, constantValue := 0 }, { name := "LOG2_ARRAY_BOOLEAN_INDEX_SCALE", type := .int, accessFlags := 25, slot := 2, constantValue := 0 }, { name := "LOG2_ARRAY_BYTE_INDEX_SCALE", type := .int, accessFlags := 25, slot := 3, constantValue := 0 }, { name := "LOG2_ARRAY_CHAR_INDEX_SCALE", type := .int, accessFlags := 25, slot := 4, constantValue := 0 }, { name := "LOG2_ARRAY_SHORT_INDEX_SCALE", type := .int, accessFlags := 25, slot := 5, constantValue := 0 }, { name := "LOG2_ARRAY_INT_INDEX_SCALE", type := .int, accessFlags := 25, slot := 6, constantValue := 0 }, { name := "LOG2_ARRAY_LONG_INDEX_SCALE", type := .int, accessFlags := 25, slot := 7, constantValue := 0 }, { name := "LOG2_ARRAY_FLOAT_INDEX_SCALE", type := .int, accessFlags := 25, slot := 8, constantValue := 0 }, { name := "LOG2_ARRAY_DOUBLE_INDEX_SCALE", type := .int, accessFlags := 25, slot := 9, constantValue := 0 }, { name := "LOG2_BYTE_BIT_SIZE", type := .int, accessFlags := 26, slot := 10, constantValue := 0 }, { name := "T_BOOLEAN", type := .int, accessFlags := 25, slot := 11, constantValue := 0 }, { name := "T_CHAR", type := .int, accessFlags := 25, slot := 12, constantValue := 0 }, { name := "T_FLOAT", type := .int, accessFlags := 25, slot := 13, constantValue := 0 }, { name := "T_DOUBLE", type := .int, accessFlags := 25, slot := 14, constantValue := 0 }, { name := "T_BYTE", type := .int, accessFlags := 25, slot := 15, constantValue := 0 }, { name := "T_SHORT", type := .int, accessFlags := 25, slot := 16, constantValue := 0 }, { name := "T_INT", type := .int, accessFlags := 25, slot := 17, constantValue := 0 }, { name := "T_LONG", type := .int, accessFlags := 25, slot := 18, constantValue := 0 }, { name := "JLA", type := (.object "jdk/internal/access/JavaLangAccess"), accessFlags := 26, slot := 19, constantValue := 0 }, { name := "SOFT_MAX_ARRAY_LENGTH", type := .int, accessFlags := 25, slot := 20, constantValue := 0 }]
  methods := #[k12m0]
  instanceTypes := #[]
  staticTypes := #[(.object "jdk/internal/misc/Unsafe"), .boolean, .int, .int, .int, .int, .int, .int, .int, .int, .int, .int, .int, .int, .int, .int, .int, .int, .int, (.object "jdk/internal/access/JavaLangAccess"), .int]
  resolved := Array.replicate 378 none
  statics := none }

def pool13 : Array CpInfo := pool [(1, u "java/lang/Cloneable"), (0, .class_ 1), (0, u "java/lang/Object"), (0, .class_ 3)] 3

/-- java/lang/Cloneable -/
def k13 : Class := { plain "java/lang/Cloneable" (some 0) with
  accessFlags := 1537
  interfaces := #[]
  cf := some (fileOf pool13 2 #[] #[] 1537 4 #[] #[])
  fields := #[]
  methods := #[]
  instanceTypes := #[]
  staticTypes := #[]
  resolved := Array.replicate 8 none
  statics := none }

/-- the primitive byte -/
def k14 : Class := { plain "byte" none with kind := .primitive 'B', accessFlags := 0x411 }
/-- [B -/
def k15 : Class := { plain "[B" (some 0) with kind := .array 14 .byte, interfaces := #[13, 4], accessFlags := 1041 }

/-- the primitive int -/
def k16 : Class := { plain "int" none with kind := .primitive 'I', accessFlags := 0x411 }
/-- [I -/
def k17 : Class := { plain "[I" (some 0) with kind := .array 16 .int, interfaces := #[13, 4], accessFlags := 1041 }

def heap : Heap := #[{ cls := 6, slots := #[.ref 3, .ref 12, .ref 6, .ref 7, .ref 18, .ref 15, .null], vm := .statics 6 },
  { cls := 9, slots := #[.long 0, .int 1, .null, .int 0, .null, .int 0, .int 0], vm := .statics 9 },
  { cls := 11, slots := #[.null, .null, .null], vm := .statics 11 },
  { cls := 6, slots := #[.null, .int 0, .int 0, .ref 4], vm := .none },
  { cls := 9, slots := #[.ref 5, .int 0, .int 0, .int 0], vm := .none },
  { cls := 15, slots := #[.int 60], vm := .none },
  { cls := 6, slots := #[.null, .int 2, .int 0, .ref 10], vm := .none },
  { cls := 6, slots := #[.null, .int 3, .int 0, .ref 8], vm := .none },
  { cls := 9, slots := #[.ref 9, .int 0, .int 0, .int 0], vm := .none },
  { cls := 15, slots := #[.int 33, .int 61], vm := .none },
  { cls := 9, slots := #[.ref 11, .int 0, .int 0, .int 0], vm := .none },
  { cls := 15, slots := #[.int 61], vm := .none },
  { cls := 6, slots := #[.null, .int 1, .int 0, .ref 13], vm := .none },
  { cls := 9, slots := #[.ref 14, .int 0, .int 0, .int 0], vm := .none },
  { cls := 15, slots := #[.int 60, .int 61], vm := .none },
  { cls := 6, slots := #[.null, .int 5, .int 0, .ref 16], vm := .none },
  { cls := 9, slots := #[.ref 17, .int 0, .int 0, .int 0], vm := .none },
  { cls := 15, slots := #[.int 62], vm := .none },
  { cls := 6, slots := #[.null, .int 4, .int 0, .ref 19], vm := .none },
  { cls := 9, slots := #[.ref 20, .int 0, .int 0, .int 0], vm := .none },
  { cls := 15, slots := #[.int 62, .int 61], vm := .none }]
def classes : Array Class := #[k0, k1, k2, k3, k4, k5, k6, k7, k8, k9, k10, k11, k12, k13, k14, k15, k16, k17]
def interned : List (Array UInt16 × Addr) := []
def slotsUsed : Nat := 74
def theMethod : MethodId := ⟨1, 1⟩
def args0 : Array Value := #[.int 5]
def aboutOver (below : List Frame) : State where
  vm := { classes := classes, interned := interned.toArray }
  heap := heap
  slotsUsed := slotsUsed
  threads := #[{ frames := .invoking theMethod args0 :: below }]
def below0 : List Frame := [.native { method := ⟨0, 0⟩, args := #[] }]
def about1 : State := aboutOver below0
def p0 : Program := .bare "" "" ""
def e0 : Env := launch0.env 0 0 0
theorem w_frames : about1.frames = Frame.invoking theMethod args0 :: below0 := rfl
set_option maxRecDepth 65536 in
theorem w_args : argsFit about1.vm theMethod args0 = true := by decide +kernel
set_option maxRecDepth 65536 in
theorem w_heap : heapFits about1 = true := by decide +kernel
set_option maxRecDepth 65536 in
theorem w_runnable : about1.curStatus? = some .runnable := by decide +kernel
set_option maxRecDepth 65536 in
theorem w_alone : about1.alone = true := by decide +kernel
set_option maxRecDepth 65536 in
theorem w_named : about1.methodNamed? x = some theMethod := by decide +kernel
set_option maxRecDepth 65536 in
theorem w_hears : about1.hears theMethod below0 = true := by decide +kernel
set_option maxRecDepth 65536 in
theorem w_ripe : about1.ripe theMethod args0 below0 = true := by decide +kernel
theorem w_running : about1.status = .running := rfl
set_option maxRecDepth 65536 in
theorem w_room : about1.hasRoom e0.platform room_1 = true :=
  launch0.hasRoom_least _ room_1 (by decide +kernel) (by decide +kernel) (by decide +kernel) (by decide +kernel) (by decide +kernel) (by decide +kernel)
theorem allAtoms_all (ts : List Jvm.Cond) (a : Array Jvm.Value) (st : Jvm.State) : (allAtoms ts).before a st = ts.all (fun c => c.before a st) := by
  induction ts with
  | nil => rfl
  | cons c t ih =>
    show (Jvm.Cond.and c (allAtoms t)).before a st = _
    rw [Jvm.Cond.before_and, ih, List.all_cons]
def words1 : List Jvm.Cond := Jvm.Cond.code x code maxLocals ret :: tables_1
/-- a 'code' word, met by the world's own term for the bytes: nothing is compared byte by byte -/
theorem code_word {y : MethodName} {bytes : ByteArray} {mx : Nat} {rt : Option FieldType} {a : Array Value} {s : State} {m : MethodId} {meth : Method} {c : Code} (h1 : s.methodNamed? y = some m) (h2 : s.vm.method? m = some meth) (h3 : meth.code = some c) (h4 : c.code = bytes)
    (h5 : (c.maxLocals == mx && c.exceptionTable.isEmpty && decide (c.maxStack ≤ mostOperands) && decide (meth.sig.returnType = rt) && !meth.locks && decide (parseMethodDescriptor y.desc = some meth.sig)) = true) : (Jvm.Cond.code y bytes mx rt).before a s = true := by
  simp only [Bool.and_eq_true, beq_iff_eq, Bool.not_eq_true', decide_eq_true_eq] at h5
  obtain ⟨⟨⟨⟨⟨g1, g2⟩, g3⟩, g4⟩, g5⟩, g6⟩ := h5
  simp [Cond.before, Cond.holds, Cond.value, h1, h2, h3, h4, g1, g2, g3, g4, g5, g6]
def isCode : Jvm.Cond → Bool
  | .code _ _ _ _ => true
  | _ => false
theorem all_split {L : List Jvm.Cond} {P : Jvm.Cond → Bool} (h1 : L.all (fun c => isCode c || P c) = true) (h2 : ∀ c ∈ L.filter isCode, P c = true) : L.all P = true := by
  refine List.all_eq_true.mpr fun c hc => ?_
  have h := List.all_eq_true.mp h1 c hc
  rcases Bool.eq_false_or_eq_true (isCode c) with hi | hi
  · exact h2 c (List.mem_filter.mpr ⟨hc, hi⟩)
  · simpa [hi] using h
set_option maxRecDepth 65536 in
theorem w_c0 : (Jvm.Cond.code x code maxLocals ret).before args0 about1 = true := code_word (m := ⟨1, 1⟩) (meth := k1m1) (c := k1c1) (by decide +kernel) rfl rfl rfl (by decide +kernel)
set_option maxRecDepth 65536 in
theorem w_c1 : (Jvm.Cond.code ({ cls := "com/example/niyama/niyama/relational/model/OperatorIsOrderPinLaw", name := "pick", desc := "(I)Lcom/example/niyama/niyama/relational/model/ScalarComparison$Operator;" } : Jvm.MethodName) method_3_code (1 : Nat) (Option.some (Jvm.ClassFile.FieldType.object "com/example/niyama/niyama/relational/model/ScalarComparison$Operator"))).before args0 about1 = true := code_word (m := ⟨1, 2⟩) (meth := k1m2) (c := k1c2) (by decide +kernel) rfl rfl rfl (by decide +kernel)
set_option maxRecDepth 65536 in
theorem w_c2 : (Jvm.Cond.code ({ cls := "com/example/niyama/niyama/relational/model/ScalarComparison$Operator", name := "symbol", desc := "()Ljava/lang/String;" } : Jvm.MethodName) prog_75_method_4_code (1 : Nat) (Option.some (Jvm.ClassFile.FieldType.object "java/lang/String"))).before args0 about1 = true := code_word (m := ⟨6, 0⟩) (meth := k6m0) (c := k6c0) (by decide +kernel) rfl rfl rfl (by decide +kernel)
set_option maxRecDepth 65536 in
theorem w_c3 : (Jvm.Cond.code ({ cls := "java/lang/String", name := "length", desc := "()I" } : Jvm.MethodName) jdk_42_method_54_code (1 : Nat) (Option.some Jvm.ClassFile.FieldType.int)).before args0 about1 = true := code_word (m := ⟨9, 1⟩) (meth := k9m1) (c := k9c1) (by decide +kernel) rfl rfl rfl (by decide +kernel)
set_option maxRecDepth 65536 in
theorem w_c4 : (Jvm.Cond.code ({ cls := "java/lang/String", name := "coder", desc := "()B" } : Jvm.MethodName) jdk_42_method_152_code (1 : Nat) (Option.some Jvm.ClassFile.FieldType.byte)).before args0 about1 = true := code_word (m := ⟨9, 3⟩) (meth := k9m3) (c := k9c3) (by decide +kernel) rfl rfl rfl (by decide +kernel)
set_option maxRecDepth 65536 in
theorem w_c5 : (Jvm.Cond.code ({ cls := "java/lang/String", name := "charAt", desc := "(I)C" } : Jvm.MethodName) jdk_42_method_56_code (2 : Nat) (Option.some Jvm.ClassFile.FieldType.char)).before args0 about1 = true := code_word (m := ⟨9, 2⟩) (meth := k9m2) (c := k9c2) (by decide +kernel) rfl rfl rfl (by decide +kernel)
set_option maxRecDepth 65536 in
theorem w_c6 : (Jvm.Cond.code ({ cls := "java/lang/String", name := "isLatin1", desc := "()Z" } : Jvm.MethodName) jdk_42_method_154_code (1 : Nat) (Option.some Jvm.ClassFile.FieldType.boolean)).before args0 about1 = true := code_word (m := ⟨9, 4⟩) (meth := k9m4) (c := k9c4) (by decide +kernel) rfl rfl rfl (by decide +kernel)
set_option maxRecDepth 65536 in
theorem w_c7 : (Jvm.Cond.code ({ cls := "java/lang/StringLatin1", name := "charAt", desc := "([BI)C" } : Jvm.MethodName) jdk_43_method_2_code (2 : Nat) (Option.some Jvm.ClassFile.FieldType.char)).before args0 about1 = true := code_word (m := ⟨10, 1⟩) (meth := k10m1) (c := k10c1) (by decide +kernel) rfl rfl rfl (by decide +kernel)
set_option maxRecDepth 65536 in
theorem w_c8 : (Jvm.Cond.code ({ cls := "java/lang/String", name := "checkIndex", desc := "(II)V" } : Jvm.MethodName) jdk_42_method_155_code (2 : Nat) (Option.none : Option Jvm.ClassFile.FieldType)).before args0 about1 = true := code_word (m := ⟨9, 5⟩) (meth := k9m5) (c := k9c5) (by decide +kernel) rfl rfl rfl (by decide +kernel)
set_option maxRecDepth 65536 in
theorem w_c9 : (Jvm.Cond.code ({ cls := "jdk/internal/util/Preconditions", name := "checkIndex", desc := "(IILjava/util/function/BiFunction;)I" } : Jvm.MethodName) jdk_41_method_11_code (3 : Nat) (Option.some Jvm.ClassFile.FieldType.int)).before args0 about1 = true := code_word (m := ⟨11, 1⟩) (meth := k11m1) (c := k11c1) (by decide +kernel) rfl rfl rfl (by decide +kernel)
set_option maxRecDepth 65536 in
theorem w_c10 : (Jvm.Cond.code ({ cls := "com/example/niyama/niyama/relational/model/ScalarComparison$Operator", name := "isOrder", desc := "()Z" } : Jvm.MethodName) prog_75_method_5_code (1 : Nat) (Option.some Jvm.ClassFile.FieldType.boolean)).before args0 about1 = true := code_word (m := ⟨6, 1⟩) (meth := k6m1) (c := k6c1) (by decide +kernel) rfl rfl rfl (by decide +kernel)
def codes1 : List Jvm.Cond := [Jvm.Cond.code x code maxLocals ret, Jvm.Cond.code ({ cls := "com/example/niyama/niyama/relational/model/OperatorIsOrderPinLaw", name := "pick", desc := "(I)Lcom/example/niyama/niyama/relational/model/ScalarComparison$Operator;" } : Jvm.MethodName) method_3_code (1 : Nat) (Option.some (Jvm.ClassFile.FieldType.object "com/example/niyama/niyama/relational/model/ScalarComparison$Operator")), Jvm.Cond.code ({ cls := "com/example/niyama/niyama/relational/model/ScalarComparison$Operator", name := "symbol", desc := "()Ljava/lang/String;" } : Jvm.MethodName) prog_75_method_4_code (1 : Nat) (Option.some (Jvm.ClassFile.FieldType.object "java/lang/String")), Jvm.Cond.code ({ cls := "java/lang/String", name := "length", desc := "()I" } : Jvm.MethodName) jdk_42_method_54_code (1 : Nat) (Option.some Jvm.ClassFile.FieldType.int), Jvm.Cond.code ({ cls := "java/lang/String", name := "coder", desc := "()B" } : Jvm.MethodName) jdk_42_method_152_code (1 : Nat) (Option.some Jvm.ClassFile.FieldType.byte), Jvm.Cond.code ({ cls := "java/lang/String", name := "charAt", desc := "(I)C" } : Jvm.MethodName) jdk_42_method_56_code (2 : Nat) (Option.some Jvm.ClassFile.FieldType.char), Jvm.Cond.code ({ cls := "java/lang/String", name := "isLatin1", desc := "()Z" } : Jvm.MethodName) jdk_42_method_154_code (1 : Nat) (Option.some Jvm.ClassFile.FieldType.boolean), Jvm.Cond.code ({ cls := "java/lang/StringLatin1", name := "charAt", desc := "([BI)C" } : Jvm.MethodName) jdk_43_method_2_code (2 : Nat) (Option.some Jvm.ClassFile.FieldType.char), Jvm.Cond.code ({ cls := "java/lang/String", name := "checkIndex", desc := "(II)V" } : Jvm.MethodName) jdk_42_method_155_code (2 : Nat) (Option.none : Option Jvm.ClassFile.FieldType), Jvm.Cond.code ({ cls := "jdk/internal/util/Preconditions", name := "checkIndex", desc := "(IILjava/util/function/BiFunction;)I" } : Jvm.MethodName) jdk_41_method_11_code (3 : Nat) (Option.some Jvm.ClassFile.FieldType.int), Jvm.Cond.code ({ cls := "com/example/niyama/niyama/relational/model/ScalarComparison$Operator", name := "isOrder", desc := "()Z" } : Jvm.MethodName) prog_75_method_5_code (1 : Nat) (Option.some Jvm.ClassFile.FieldType.boolean)]
set_option maxRecDepth 65536 in
theorem codes_eq : words1.filter isCode = codes1 := rfl
theorem w_codes : ∀ c ∈ words1.filter isCode, c.before args0 about1 = true := by
  rw [codes_eq]
  intro c hc
  simp only [codes1, List.mem_cons, List.not_mem_nil, or_false] at hc
  rcases hc with rfl | rfl | rfl | rfl | rfl | rfl | rfl | rfl | rfl | rfl | rfl
  · exact w_c0
  · exact w_c1
  · exact w_c2
  · exact w_c3
  · exact w_c4
  · exact w_c5
  · exact w_c6
  · exact w_c7
  · exact w_c8
  · exact w_c9
  · exact w_c10
set_option maxRecDepth 65536 in
theorem w_t1 : (words1.take 24).all (fun c => isCode c || c.before args0 about1) = true := by decide +kernel
set_option maxRecDepth 65536 in
theorem w_t2 : ((words1.drop 24).take 24).all (fun c => isCode c || c.before args0 about1) = true := by decide +kernel
set_option maxRecDepth 65536 in
theorem w_t3 : ((words1.drop 24).drop 24).all (fun c => isCode c || c.before args0 about1) = true := by decide +kernel
theorem w_tables : (allAtoms (Jvm.Cond.code x code maxLocals ret :: tables_1)).before args0 about1 = true := by
  rw [allAtoms_all]
  show words1.all (fun c => c.before args0 about1) = true
  refine all_split ?_ w_codes
  rw [← List.take_append_drop 24 words1, List.all_append, w_t1, ← List.take_append_drop 24 (words1.drop 24), List.all_append, w_t2, w_t3]
  rfl
set_option maxRecDepth 65536 in
theorem w_rest : rest_1_c.before args0 about1 = true := by decide +kernel
set_option maxRecDepth 65536 in
theorem w_case : (Jvm.Cond.and given_1 narrow_1).before args0 about1 = true := by decide +kernel
theorem w_applies : (headSpec (Jvm.Cond.code x code maxLocals ret :: tables_1) room_1).applies x e0.platform about1 = true :=
  (Spec.applies_iff w_frames).mpr ⟨w_running, w_runnable, w_alone, w_named, w_hears, w_ripe, w_room, w_tables⟩
theorem atStart : AtStart classFile x code maxLocals ret World_1 tables_1 room_1 Calls_1 rest_1 Pre_1 launch0 p0 e0 about1 theMethod args0 below0 :=
  ⟨lists_1, trivial, launch0.admits_env _ _ _, launch0.least_env, fairChoices_fair.cas, fairChoices_fair.clock, w_frames, w_args, w_heap, w_applies, trivial, w_rest, w_case⟩
end start1
theorem witness_1 : WitnessClaimed_1 := ⟨start1.p0, start1.e0, start1.about1, start1.theMethod, start1.args0, start1.below0, start1.atStart⟩
end Jvm.Pilot.@@N@@
