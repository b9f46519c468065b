import JvmDerived
import JvmDerived.Pilot.@@N@@Statement
import JvmDerived.Pilot.@@N@@Code
set_option linter.unusedVariables false
set_option linter.unusedSimpArgs false
namespace Jvm.RoadKit
open Sem ClassFile Op Lib Jvm.Stand Jvm.Free Jvm.LawKit
section New
variable {p : Program} {l : Launch} {e : Env} {R : Room} {s : State} {m : MethodId} {args : Array Value} {below : List Frame} {meth : Method} {c : Code} {T : State} {locs : List Loc} {cells slots : Nat}
theorem retI (X : Stand p l e R s m args below meth c T locs cells slots) (hx : p.tables.exec = Jvm.exec) {pc : Nat} {Ls : Array Slot} {z : Int32} {rest : List Value} (hret : meth.sig.returnType = some .int) (hd : decode c.code pc = .ok (.ireturn, 1)) {fs : List Frame}
    (hl : ∀ (f : JFrame) (acts : List Action), f.method = m → f.locked = none → f.entered = [] → (doReturn e (T.setTop f) acts (some (.int z))).1 = T.setFrames fs) : Steps p.tables e below (T.setTop (mkF m pc Ls (.int z :: rest))) (T.setFrames fs) := by
  have hm' : T.vm.method? m = some meth := X.method'
  have hn : narrow .int (.int z) = .int z := rfl
  show Steps p.tables e below (T.setTop { method := m, pc := pc, locals := Ls, stack := _ :: rest, locked := none }) _
  jvm_step X.here [X.here.top, hx, hd, hm', hret, hn]
  first | (intro acts; rw [hl _ acts rfl rfl rfl]) | rw [hl _ _ rfl rfl rfl]
  exact Steps.refl _
end New
end Jvm.RoadKit
namespace Jvm.Pilot.@@N@@
open Jvm Jvm.ClassFile Sem Op Lib Jvm.Free Jvm.Stand Jvm.LawKit Jvm.RoadKit Bundle Jvm.Pilot.@@N@@.Jvm.D
theorem own_eqint {t : Term} {n : Int32} {args : Array Value} {s : State} (h : (Cond.eq t (.int n)).value args s none s [] = some true) : t.eval args s none [] s = some (.int n) := by
  obtain ⟨x, y, h1, h2, k1, k2⟩ := cmp_v (Or.inl h)
  cases h2
  obtain ⟨z, rfl⟩ := k2
  have := gotT (P := z = n) (by simp [Cond.value, h1, Term.eval]) h
  rw [h1, this]
theorem own_ne {t u : Term} {C f d : String} {i j : Int32} {a b : Addr} {args : Array Value} {s : State} (ea : t.eval args s none [] s = some (.ref a)) (eb : u.eval args s none [] s = some (.ref b)) (ha : (Term.field t C f d).eval args s none [] s = some (.int i)) (hb : (Term.field u C f d).eval args s none [] s = some (.int j)) (hij : i ≠ j) : ¬ (a = b) := fun e => by
  rw [fld_at ea] at ha; rw [fld_at eb] at hb; rw [e, hb] at ha; cases ha; exact hij rfl
theorem own_and (x : Int32) : 0 ≤ (x &&& 2147483647).toInt := by
  have h : (x &&& 2147483647).toBitVec = x.toBitVec &&& 2147483647#32 := rfl
  show 0 ≤ (x &&& 2147483647).toBitVec.toInt
  rw [h]
  have : (x.toBitVec &&& 2147483647#32).msb = false := by
    rw [BitVec.msb_and, show (2147483647#32).msb = false from by decide, Bool.and_false]
  rw [BitVec.toInt_eq_toNat_of_msb this]; omega
theorem own_rem (x n : Int32) (hn : 0 < n.toInt) : 0 ≤ ((x &&& 2147483647) % n).toInt ∧ ((x &&& 2147483647) % n).toInt < n.toInt := by
  rw [Int32.toInt_mod]
  have := own_and x
  exact ⟨Int.tmod_nonneg _ this, Int.tmod_lt_of_pos _ hn⟩
theorem own_fin (x n : Int32) (k : Nat) (hn : n.toInt = k) (hk : 0 < k) : ∃ j : Fin k, (x &&& 2147483647) % n = Int32.ofInt (j.val : Int) := by
  have := own_rem x n (by omega)
  generalize (x &&& 2147483647) % n = i at *
  refine ⟨⟨i.toInt.toNat, by omega⟩, ?_⟩
  show i = Int32.ofInt ((i.toInt.toNat : Nat) : Int)
  rw [Int.toNat_of_nonneg this.1, Int32.ofInt_toInt]
theorem d1_0 : decode prog_94_method_6_code 0 = .ok (.aload_n 0, 1) := by decide +kernel
theorem d1_1 : decode prog_94_method_6_code 1 = .ok (.getstatic 3, 3) := by decide +kernel
theorem d1_4 : decode prog_94_method_6_code 4 = .ok (.if_acmp .eq 14, 3) := by decide +kernel
theorem d1_18 : decode prog_94_method_6_code 18 = .ok (.iconst 0, 1) := by decide +kernel
theorem d1_19 : decode prog_94_method_6_code 19 = .ok (.ireturn, 1) := by decide +kernel
theorem pn_1 : plainName "com/example/bristlecone/bristlecone/strategy/Comparison$Operator" = true := by first | (simp [plainName, overriddenIn]; done) | decide +kernel
theorem ef_1 (m : MethodId) (x0 : Addr) : entryFrame m #[(.ref x0)] 1 = mkF m 0 #[.val (.ref x0)] [] := by first | (simp [entryFrame, mkF, argsToLocals, Value.category]; done) | rfl
theorem d1_7 : decode prog_94_method_6_code 7 = .ok (.aload_n 0, 1) := by decide +kernel
theorem d1_8 : decode prog_94_method_6_code 8 = .ok (.getstatic 7, 3) := by decide +kernel
theorem d1_11 : decode prog_94_method_6_code 11 = .ok (.if_acmp .eq 7, 3) := by decide +kernel
theorem d1_14 : decode prog_94_method_6_code 14 = .ok (.iconst 1, 1) := by decide +kernel
theorem d1_15 : decode prog_94_method_6_code 15 = .ok (.goto 4, 3) := by decide +kernel
def QP (r : Value) (h0 : Heap) (n0 : Nat) (v : Option Value) (h : Heap) (L : List Loc) : Prop := v = some r ∧ Fr n0 L ∧ h = h0
set_option maxRecDepth 65536 in
set_option maxHeartbeats 40000000 in
theorem rm1_t (l : Launch) (Z : State) (a0 : Array Value) (hw : ∀ d ∈ tables_1, d.before a0 Z = true) (ws : List Jvm.Cond) (a1 : Addr) (w_EQUAL : Addr) (h0 : Heap) (n0 : Nat) (Z0 : n0 ≤ h0.size) (S_EQUAL : Sta Z h0 "com/example/bristlecone/bristlecone/strategy/Comparison$Operator" "EQUAL" "Lcom/example/bristlecone/bristlecone/strategy/Comparison$Operator;" (.ref w_EQUAL)) (ha4 : a1 = w_EQUAL) :
    MetFree l (⟨"com/example/bristlecone/bristlecone/strategy/Comparison$Operator", "orders", "()Z"⟩ : MethodName) (head1 (Jvm.Cond.code (⟨"com/example/bristlecone/bristlecone/strategy/Comparison$Operator", "orders", "()Z"⟩ : MethodName) prog_94_method_6_code 1 (some .boolean) :: ws) ({ frames := 0, cells := 0, slots := 0, locals := 0 } : Room)) (fun a U => a = #[(.ref a1)] ∧ Z.Warmed39 U.vm ∧ U.heap = h0) (fun _ _ _ _ _ => True) (fun _ U o U' => ∃ v L, o = .returned v ∧ QP (.int (0 : Int32)) h0 n0 v U'.heap L ∧ FrameEnd U o U' L ({ frames := 0, cells := 0, slots := 0, locals := 0 } : Room).cells ({ frames := 0, cells := 0, slots := 0, locals := 0 } : Room).slots) := by
  refine MetFree.of_bodySF (plainFor_of_name pn_1) hisR ?_
  intro p e s m args below meth c s₁ Bd hml0 hP hK
  obtain ⟨rfl, hZ, hh⟩ := hP
  have hx := Bd.exec
  have hby := Bd.bytes
  have hml : c.maxLocals = 1 := hml0
  have hown : s.vm.findClass "com/example/bristlecone/bristlecone/strategy/Comparison$Operator" = some m.cls := findClass_of_methodNamed Bd.named
  have hnm := (name_of_methodNamed Bd.named Bd.method).1
  have X0 : Stand p l e ({ frames := 0, cells := 0, slots := 0, locals := 0 } : Room) s m #[(.ref a1)] below meth c s₁ [] 0 0 := Stand.of_body Bd
  have e0 : s₁.heap = h0 := by rw [← hh, Bd.state]; rfl
  have N0 := Fr.nil n0
  have pre0 : ∀ t, Steps p.tables e below (s₁.setTop (mkF m 0 #[.val (.ref a1)] [])) t → Steps p.tables e below (s₁.setTop (entryFrame m #[(.ref a1)] 1)) t := fun t k => castTop (ef_1 m a1) k
  obtain ⟨T2, X2, e2, st2⟩ := getS2 X0 hx hZ hown (host := "") (Or.inl (hw _ (List.mem_of_getElem? (i := 22) rfl))) Via.refl e0 S_EQUAL (g := (mkF m 1 #[.val (.ref a1)] [(.ref a1)])) rfl (hb hby d1_1)
  obtain ⟨fs, hr, hrun, hended, hW, hsame⟩ := X2.leave (v := some (.int (0 : Int32))) (fun h => by rw [Bd.returns] at h; cases h)
  refine ⟨_, _, pre0 _ ?_, hrun, hended, _, _, rfl, ?_, ⟨_, rfl⟩, hW, hsame.mono (by decide) (by decide)⟩
  · show Steps p.tables e below (s₁.setTop (mkF m 0 #[.val (.ref a1)] [])) _
    refine XS.aloadN X0.here hx rfl (hb hby d1_0) rfl rfl ?_
    show Steps p.tables e below (s₁.setTop (mkF m 1 #[.val (.ref a1)] [(.ref a1)])) _
    refine st2 _ ?_
    show Steps p.tables e below (T2.setTop (mkF m 4 #[.val (.ref a1)] [(.ref w_EQUAL), (.ref a1)])) _
    refine Jvm.RoadKit.acmp (g := (mkF m 4 #[.val (.ref a1)] [(.ref w_EQUAL), (.ref a1)])) X2 hx rfl rfl rfl (pc0 := 4) (pc' := 18) (same := true) rfl (hb hby d1_4) rfl (decide_eq_true (congrArg Value.ref ha4)) (by decide) (by decide) ?_
    show Steps p.tables e below (T2.setTop (mkF m 18 #[.val (.ref a1)] [])) _
    refine XS.iconst X2.here hx rfl (hb hby d1_18) ?_
    show Steps p.tables e below (T2.setTop (mkF m 19 #[.val (.ref a1)] [(.int (0 : Int32))])) _
    exact retN X2 hx (t := .boolean) Bd.returns (by simp) (hb hby d1_19) hr
  · show QP (.int (0 : Int32)) h0 n0 _ T2.heap _
    rw [e2]
    exact ⟨rfl, N0, rfl⟩
set_option maxRecDepth 65536 in
set_option maxHeartbeats 40000000 in
theorem rm1_ft (l : Launch) (Z : State) (a0 : Array Value) (hw : ∀ d ∈ tables_1, d.before a0 Z = true) (ws : List Jvm.Cond) (a1 : Addr) (w_EQUAL : Addr) (w_NOT_EQUAL : Addr) (h0 : Heap) (n0 : Nat) (Z0 : n0 ≤ h0.size) (S_EQUAL : Sta Z h0 "com/example/bristlecone/bristlecone/strategy/Comparison$Operator" "EQUAL" "Lcom/example/bristlecone/bristlecone/strategy/Comparison$Operator;" (.ref w_EQUAL)) (S_NOT_EQUAL : Sta Z h0 "com/example/bristlecone/bristlecone/strategy/Comparison$Operator" "NOT_EQUAL" "Lcom/example/bristlecone/bristlecone/strategy/Comparison$Operator;" (.ref w_NOT_EQUAL)) (ha4 : ¬ (a1 = w_EQUAL)) (ha11 : a1 = w_NOT_EQUAL) :
    MetFree l (⟨"com/example/bristlecone/bristlecone/strategy/Comparison$Operator", "orders", "()Z"⟩ : MethodName) (head1 (Jvm.Cond.code (⟨"com/example/bristlecone/bristlecone/strategy/Comparison$Operator", "orders", "()Z"⟩ : MethodName) prog_94_method_6_code 1 (some .boolean) :: ws) ({ frames := 0, cells := 0, slots := 0, locals := 0 } : Room)) (fun a U => a = #[(.ref a1)] ∧ Z.Warmed39 U.vm ∧ U.heap = h0) (fun _ _ _ _ _ => True) (fun _ U o U' => ∃ v L, o = .returned v ∧ QP (.int (0 : Int32)) h0 n0 v U'.heap L ∧ FrameEnd U o U' L ({ frames := 0, cells := 0, slots := 0, locals := 0 } : Room).cells ({ frames := 0, cells := 0, slots := 0, locals := 0 } : Room).slots) := by
  refine MetFree.of_bodySF (plainFor_of_name pn_1) hisR ?_
  intro p e s m args below meth c s₁ Bd hml0 hP hK
  obtain ⟨rfl, hZ, hh⟩ := hP
  have hx := Bd.exec
  have hby := Bd.bytes
  have hml : c.maxLocals = 1 := hml0
  have hown : s.vm.findClass "com/example/bristlecone/bristlecone/strategy/Comparison$Operator" = some m.cls := findClass_of_methodNamed Bd.named
  have hnm := (name_of_methodNamed Bd.named Bd.method).1
  have X0 : Stand p l e ({ frames := 0, cells := 0, slots := 0, locals := 0 } : Room) s m #[(.ref a1)] below meth c s₁ [] 0 0 := Stand.of_body Bd
  have e0 : s₁.heap = h0 := by rw [← hh, Bd.state]; rfl
  have N0 := Fr.nil n0
  have pre0 : ∀ t, Steps p.tables e below (s₁.setTop (mkF m 0 #[.val (.ref a1)] [])) t → Steps p.tables e below (s₁.setTop (entryFrame m #[(.ref a1)] 1)) t := fun t k => castTop (ef_1 m a1) k
  obtain ⟨T2, X2, e2, st2⟩ := getS2 X0 hx hZ hown (host := "") (Or.inl (hw _ (List.mem_of_getElem? (i := 22) rfl))) Via.refl e0 S_EQUAL (g := (mkF m 1 #[.val (.ref a1)] [(.ref a1)])) rfl (hb hby d1_1)
  obtain ⟨T3, X3, e3, st3⟩ := getS2 X2 hx hZ hown (host := "") (Or.inl (hw _ (List.mem_of_getElem? (i := 23) rfl))) Via.refl e2 S_NOT_EQUAL (g := (mkF m 8 #[.val (.ref a1)] [(.ref a1)])) rfl (hb hby d1_8)
  obtain ⟨fs, hr, hrun, hended, hW, hsame⟩ := X3.leave (v := some (.int (0 : Int32))) (fun h => by rw [Bd.returns] at h; cases h)
  refine ⟨_, _, pre0 _ ?_, hrun, hended, _, _, rfl, ?_, ⟨_, rfl⟩, hW, hsame.mono (by decide) (by decide)⟩
  · show Steps p.tables e below (s₁.setTop (mkF m 0 #[.val (.ref a1)] [])) _
    refine XS.aloadN X0.here hx rfl (hb hby d1_0) rfl rfl ?_
    show Steps p.tables e below (s₁.setTop (mkF m 1 #[.val (.ref a1)] [(.ref a1)])) _
    refine st2 _ ?_
    show Steps p.tables e below (T2.setTop (mkF m 4 #[.val (.ref a1)] [(.ref w_EQUAL), (.ref a1)])) _
    refine Jvm.RoadKit.acmp (g := (mkF m 4 #[.val (.ref a1)] [(.ref w_EQUAL), (.ref a1)])) X2 hx rfl rfl rfl (pc0 := 4) (pc' := 7) (same := false) rfl (hb hby d1_4) rfl (decide_eq_false fun q => ha4 (Value.ref.inj q)) (by decide) (by decide) ?_
    show Steps p.tables e below (T2.setTop (mkF m 7 #[.val (.ref a1)] [])) _
    refine XS.aloadN X2.here hx rfl (hb hby d1_7) rfl rfl ?_
    show Steps p.tables e below (T2.setTop (mkF m 8 #[.val (.ref a1)] [(.ref a1)])) _
    refine st3 _ ?_
    show Steps p.tables e below (T3.setTop (mkF m 11 #[.val (.ref a1)] [(.ref w_NOT_EQUAL), (.ref a1)])) _
    refine Jvm.RoadKit.acmp (g := (mkF m 11 #[.val (.ref a1)] [(.ref w_NOT_EQUAL), (.ref a1)])) X3 hx rfl rfl rfl (pc0 := 11) (pc' := 18) (same := true) rfl (hb hby d1_11) rfl (decide_eq_true (congrArg Value.ref ha11)) (by decide) (by decide) ?_
    show Steps p.tables e below (T3.setTop (mkF m 18 #[.val (.ref a1)] [])) _
    refine XS.iconst X3.here hx rfl (hb hby d1_18) ?_
    show Steps p.tables e below (T3.setTop (mkF m 19 #[.val (.ref a1)] [(.int (0 : Int32))])) _
    exact retN X3 hx (t := .boolean) Bd.returns (by simp) (hb hby d1_19) hr
  · show QP (.int (0 : Int32)) h0 n0 _ T3.heap _
    rw [e3]
    exact ⟨rfl, N0, rfl⟩
set_option maxRecDepth 65536 in
set_option maxHeartbeats 40000000 in
theorem rm1_ff (l : Launch) (Z : State) (a0 : Array Value) (hw : ∀ d ∈ tables_1, d.before a0 Z = true) (ws : List Jvm.Cond) (a1 : Addr) (w_EQUAL : Addr) (w_NOT_EQUAL : Addr) (h0 : Heap) (n0 : Nat) (Z0 : n0 ≤ h0.size) (S_EQUAL : Sta Z h0 "com/example/bristlecone/bristlecone/strategy/Comparison$Operator" "EQUAL" "Lcom/example/bristlecone/bristlecone/strategy/Comparison$Operator;" (.ref w_EQUAL)) (S_NOT_EQUAL : Sta Z h0 "com/example/bristlecone/bristlecone/strategy/Comparison$Operator" "NOT_EQUAL" "Lcom/example/bristlecone/bristlecone/strategy/Comparison$Operator;" (.ref w_NOT_EQUAL)) (ha4 : ¬ (a1 = w_EQUAL)) (ha11 : ¬ (a1 = w_NOT_EQUAL)) :
    MetFree l (⟨"com/example/bristlecone/bristlecone/strategy/Comparison$Operator", "orders", "()Z"⟩ : MethodName) (head1 (Jvm.Cond.code (⟨"com/example/bristlecone/bristlecone/strategy/Comparison$Operator", "orders", "()Z"⟩ : MethodName) prog_94_method_6_code 1 (some .boolean) :: ws) ({ frames := 0, cells := 0, slots := 0, locals := 0 } : Room)) (fun a U => a = #[(.ref a1)] ∧ Z.Warmed39 U.vm ∧ U.heap = h0) (fun _ _ _ _ _ => True) (fun _ U o U' => ∃ v L, o = .returned v ∧ QP (.int (1 : Int32)) h0 n0 v U'.heap L ∧ FrameEnd U o U' L ({ frames := 0, cells := 0, slots := 0, locals := 0 } : Room).cells ({ frames := 0, cells := 0, slots := 0, locals := 0 } : Room).slots) := by
  refine MetFree.of_bodySF (plainFor_of_name pn_1) hisR ?_
  intro p e s m args below meth c s₁ Bd hml0 hP hK
  obtain ⟨rfl, hZ, hh⟩ := hP
  have hx := Bd.exec
  have hby := Bd.bytes
  have hml : c.maxLocals = 1 := hml0
  have hown : s.vm.findClass "com/example/bristlecone/bristlecone/strategy/Comparison$Operator" = some m.cls := findClass_of_methodNamed Bd.named
  have hnm := (name_of_methodNamed Bd.named Bd.method).1
  have X0 : Stand p l e ({ frames := 0, cells := 0, slots := 0, locals := 0 } : Room) s m #[(.ref a1)] below meth c s₁ [] 0 0 := Stand.of_body Bd
  have e0 : s₁.heap = h0 := by rw [← hh, Bd.state]; rfl
  have N0 := Fr.nil n0
  have pre0 : ∀ t, Steps p.tables e below (s₁.setTop (mkF m 0 #[.val (.ref a1)] [])) t → Steps p.tables e below (s₁.setTop (entryFrame m #[(.ref a1)] 1)) t := fun t k => castTop (ef_1 m a1) k
  obtain ⟨T2, X2, e2, st2⟩ := getS2 X0 hx hZ hown (host := "") (Or.inl (hw _ (List.mem_of_getElem? (i := 22) rfl))) Via.refl e0 S_EQUAL (g := (mkF m 1 #[.val (.ref a1)] [(.ref a1)])) rfl (hb hby d1_1)
  obtain ⟨T3, X3, e3, st3⟩ := getS2 X2 hx hZ hown (host := "") (Or.inl (hw _ (List.mem_of_getElem? (i := 23) rfl))) Via.refl e2 S_NOT_EQUAL (g := (mkF m 8 #[.val (.ref a1)] [(.ref a1)])) rfl (hb hby d1_8)
  obtain ⟨fs, hr, hrun, hended, hW, hsame⟩ := X3.leave (v := some (.int (1 : Int32))) (fun h => by rw [Bd.returns] at h; cases h)
  refine ⟨_, _, pre0 _ ?_, hrun, hended, _, _, rfl, ?_, ⟨_, rfl⟩, hW, hsame.mono (by decide) (by decide)⟩
  · show Steps p.tables e below (s₁.setTop (mkF m 0 #[.val (.ref a1)] [])) _
    refine XS.aloadN X0.here hx rfl (hb hby d1_0) rfl rfl ?_
    show Steps p.tables e below (s₁.setTop (mkF m 1 #[.val (.ref a1)] [(.ref a1)])) _
    refine st2 _ ?_
    show Steps p.tables e below (T2.setTop (mkF m 4 #[.val (.ref a1)] [(.ref w_EQUAL), (.ref a1)])) _
    refine Jvm.RoadKit.acmp (g := (mkF m 4 #[.val (.ref a1)] [(.ref w_EQUAL), (.ref a1)])) X2 hx rfl rfl rfl (pc0 := 4) (pc' := 7) (same := false) rfl (hb hby d1_4) rfl (decide_eq_false fun q => ha4 (Value.ref.inj q)) (by decide) (by decide) ?_
    show Steps p.tables e below (T2.setTop (mkF m 7 #[.val (.ref a1)] [])) _
    refine XS.aloadN X2.here hx rfl (hb hby d1_7) rfl rfl ?_
    show Steps p.tables e below (T2.setTop (mkF m 8 #[.val (.ref a1)] [(.ref a1)])) _
    refine st3 _ ?_
    show Steps p.tables e below (T3.setTop (mkF m 11 #[.val (.ref a1)] [(.ref w_NOT_EQUAL), (.ref a1)])) _
    refine Jvm.RoadKit.acmp (g := (mkF m 11 #[.val (.ref a1)] [(.ref w_NOT_EQUAL), (.ref a1)])) X3 hx rfl rfl rfl (pc0 := 11) (pc' := 14) (same := false) rfl (hb hby d1_11) rfl (decide_eq_false fun q => ha11 (Value.ref.inj q)) (by decide) (by decide) ?_
    show Steps p.tables e below (T3.setTop (mkF m 14 #[.val (.ref a1)] [])) _
    refine XS.iconst X3.here hx rfl (hb hby d1_14) ?_
    show Steps p.tables e below (T3.setTop (mkF m 15 #[.val (.ref a1)] [(.int (1 : Int32))])) _
    refine XS.goto X3.here hx rfl (pc0 := 15) (pc' := 19) rfl (hb hby d1_15) (by decide) (by decide) ?_
    show Steps p.tables e below (T3.setTop (mkF m 19 #[.val (.ref a1)] [(.int (1 : Int32))])) _
    exact retN X3 hx (t := .boolean) Bd.returns (by simp) (hb hby d1_19) hr
  · show QP (.int (1 : Int32)) h0 n0 _ T3.heap _
    rw [e3]
    exact ⟨rfl, N0, rfl⟩
def own_ord (a1 : Addr) (w_EQUAL : Addr) (w_NOT_EQUAL : Addr) : Int32 := (if a1 = w_EQUAL then (0 : Int32) else (if a1 = w_NOT_EQUAL then (0 : Int32) else (1 : Int32)))
theorem rm1 (l : Launch) (Z : State) (a0 : Array Value) (hw : ∀ d ∈ tables_1, d.before a0 Z = true) (ws : List Jvm.Cond) (a1 : Addr) (w_EQUAL : Addr) (w_NOT_EQUAL : Addr) (h0 : Heap) (n0 : Nat) (Z0 : n0 ≤ h0.size) (S_EQUAL : Sta Z h0 "com/example/bristlecone/bristlecone/strategy/Comparison$Operator" "EQUAL" "Lcom/example/bristlecone/bristlecone/strategy/Comparison$Operator;" (.ref w_EQUAL)) (S_NOT_EQUAL : Sta Z h0 "com/example/bristlecone/bristlecone/strategy/Comparison$Operator" "NOT_EQUAL" "Lcom/example/bristlecone/bristlecone/strategy/Comparison$Operator;" (.ref w_NOT_EQUAL)) :
    MetFree l (⟨"com/example/bristlecone/bristlecone/strategy/Comparison$Operator", "orders", "()Z"⟩ : MethodName) (head1 (Jvm.Cond.code (⟨"com/example/bristlecone/bristlecone/strategy/Comparison$Operator", "orders", "()Z"⟩ : MethodName) prog_94_method_6_code 1 (some .boolean) :: ws) ({ frames := 0, cells := 0, slots := 0, locals := 0 } : Room)) (fun a U => a = #[(.ref a1)] ∧ Z.Warmed39 U.vm ∧ U.heap = h0) (fun _ _ _ _ _ => True) (fun _ U o U' => ∃ v L, o = .returned v ∧ QP (.int (own_ord a1 w_EQUAL w_NOT_EQUAL)) h0 n0 v U'.heap L ∧ FrameEnd U o U' L ({ frames := 0, cells := 0, slots := 0, locals := 0 } : Room).cells ({ frames := 0, cells := 0, slots := 0, locals := 0 } : Room).slots) := by
  by_cases ha4 : a1 = w_EQUAL
  · skip
    rw [show own_ord a1 w_EQUAL w_NOT_EQUAL = (0 : Int32) from by unfold own_ord; rw [if_pos ha4]]
    exact rm1_t l Z a0 hw ws a1 w_EQUAL h0 n0 Z0 S_EQUAL ha4
  · skip
    by_cases ha11 : a1 = w_NOT_EQUAL
    · skip
      rw [show own_ord a1 w_EQUAL w_NOT_EQUAL = (0 : Int32) from by unfold own_ord; rw [if_neg ha4, if_pos ha11]]
      exact rm1_ft l Z a0 hw ws a1 w_EQUAL w_NOT_EQUAL h0 n0 Z0 S_EQUAL S_NOT_EQUAL ha4 ha11
    · skip
      rw [show own_ord a1 w_EQUAL w_NOT_EQUAL = (1 : Int32) from by unfold own_ord; rw [if_neg ha4, if_neg ha11]]
      exact rm1_ff l Z a0 hw ws a1 w_EQUAL w_NOT_EQUAL h0 n0 Z0 S_EQUAL S_NOT_EQUAL ha4 ha11
theorem pn_0 : plainName "com/example/bristlecone/bristlecone/strategy/OperatorOrdersPinLaw" = true := by first | (simp [plainName, overriddenIn]; done) | decide +kernel
theorem pd_0_0 : parseMethodDescriptor "()Z" = some ⟨[], some .boolean⟩ := by decide +kernel
theorem ef_0 (m : MethodId) (x0 : Int32) : entryFrame m #[(.int x0)] maxLocals = mkF m 0 #[.val (.int x0), .unset, .unset, .unset] [] := by first | (simp [entryFrame, mkF, argsToLocals, Value.category, maxLocals]; done) | rfl
def QL (h0 : Heap) (n0 : Nat) (v : Option Value) (h : Heap) (L : List Loc) : Prop := v = some (.int 1) ∧ Fr n0 L
set_option maxRecDepth 65536 in
set_option maxHeartbeats 40000000 in
theorem rm0_ff (l : Launch) (Z : State) (a0 : Array Value) (hw : ∀ d ∈ tables_1, d.before a0 Z = true) (ws : List Jvm.Cond) (p1 : Int32) (w_EQUAL : Addr) (w_NOT_EQUAL : Addr) (w_LESS : Addr) (w_GREATER : Addr) (w_LESS_OR_EQUAL : Addr) (w_GREATER_OR_EQUAL : Addr) (w_r : Addr) (h0 : Heap) (n0 : Nat) (Z0 : n0 ≤ h0.size) (S_EQUAL : Sta Z h0 "com/example/bristlecone/bristlecone/strategy/Comparison$Operator" "EQUAL" "Lcom/example/bristlecone/bristlecone/strategy/Comparison$Operator;" (.ref w_EQUAL)) (E_w_EQUAL : Exa Z h0 w_EQUAL "com/example/bristlecone/bristlecone/strategy/Comparison$Operator") (S_NOT_EQUAL : Sta Z h0 "com/example/bristlecone/bristlecone/strategy/Comparison$Operator" "NOT_EQUAL" "Lcom/example/bristlecone/bristlecone/strategy/Comparison$Operator;" (.ref w_NOT_EQUAL)) (E_w_NOT_EQUAL : Exa Z h0 w_NOT_EQUAL "com/example/bristlecone/bristlecone/strategy/Comparison$Operator") (S_LESS : Sta Z h0 "com/example/bristlecone/bristlecone/strategy/Comparison$Operator" "LESS" "Lcom/example/bristlecone/bristlecone/strategy/Comparison$Operator;" (.ref w_LESS)) (E_w_LESS : Exa Z h0 w_LESS "com/example/bristlecone/bristlecone/strategy/Comparison$Operator") (S_GREATER : Sta Z h0 "com/example/bristlecone/bristlecone/strategy/Comparison$Operator" "GREATER" "Lcom/example/bristlecone/bristlecone/strategy/Comparison$Operator;" (.ref w_GREATER)) (E_w_GREATER : Exa Z h0 w_GREATER "com/example/bristlecone/bristlecone/strategy/Comparison$Operator") (S_LESS_OR_EQUAL : Sta Z h0 "com/example/bristlecone/bristlecone/strategy/Comparison$Operator" "LESS_OR_EQUAL" "Lcom/example/bristlecone/bristlecone/strategy/Comparison$Operator;" (.ref w_LESS_OR_EQUAL)) (E_w_LESS_OR_EQUAL : Exa Z h0 w_LESS_OR_EQUAL "com/example/bristlecone/bristlecone/strategy/Comparison$Operator") (S_GREATER_OR_EQUAL : Sta Z h0 "com/example/bristlecone/bristlecone/strategy/Comparison$Operator" "GREATER_OR_EQUAL" "Lcom/example/bristlecone/bristlecone/strategy/Comparison$Operator;" (.ref w_GREATER_OR_EQUAL)) (E_w_GREATER_OR_EQUAL : Exa Z h0 w_GREATER_OR_EQUAL "com/example/bristlecone/bristlecone/strategy/Comparison$Operator") (hij73 : ¬ ((p1 &&& (2147483647 : Int32)) % (6 : Int32)) < 0 ∧ ((p1 &&& (2147483647 : Int32)) % (6 : Int32)) < (6 : Int32)) (hsel73 : List.getD ([(.ref w_EQUAL), (.ref w_NOT_EQUAL), (.ref w_LESS), (.ref w_GREATER), (.ref w_LESS_OR_EQUAL), (.ref w_GREATER_OR_EQUAL)] : List Value) (((p1 &&& (2147483647 : Int32)) % (6 : Int32))).toNatClampNeg .null = .ref w_r) (E_w_r : Exa Z h0 w_r "com/example/bristlecone/bristlecone/strategy/Comparison$Operator") (hc51 : ((p1 &&& (2147483647 : Int32)) % (6 : Int32)) = (0 : Int32)) (hc78 : (own_ord w_r w_EQUAL w_NOT_EQUAL) = (0 : Int32)) :
    MetFree l x (head1 (Jvm.Cond.code x code maxLocals ret :: ws) room_1) (fun a U => a = #[(.int p1)] ∧ Z.Warmed39 U.vm ∧ U.heap = h0) (fun _ _ _ _ _ => True) (fun _ U o U' => ∃ v L, o = .returned v ∧ QL h0 n0 v U'.heap L ∧ FrameEnd U o U' L room_1.cells room_1.slots) := by
  refine MetFree.of_bodySF (plainFor_of_name pn_0) hisR ?_
  intro p e s m args below meth c s₁ Bd hml0 hP hK
  obtain ⟨rfl, hZ, hh⟩ := hP
  have hx := Bd.exec
  have hby := Bd.bytes
  have hml : c.maxLocals = 4 := hml0
  have hown : s.vm.findClass "com/example/bristlecone/bristlecone/strategy/OperatorOrdersPinLaw" = some m.cls := findClass_of_methodNamed Bd.named
  have hnm := (name_of_methodNamed Bd.named Bd.method).1
  have X0 : Stand p l e room_1 s m #[(.int p1)] below meth c s₁ [] 0 0 := Stand.of_body Bd
  have e0 : s₁.heap = h0 := by rw [← hh, Bd.state]; rfl
  have N0 := Fr.nil n0
  have pre0 : ∀ t, Steps p.tables e below (s₁.setTop (mkF m 0 #[.val (.int p1), .unset, .unset, .unset] [])) t → Steps p.tables e below (s₁.setTop (entryFrame m #[(.int p1)] maxLocals)) t := fun t k => castTop (ef_0 m p1) k
  obtain ⟨T2, h2, k2, X2, e2, E2, A2, O2, st2⟩ := newR X0 hx hZ hown (hw _ (List.mem_of_getElem? (i := 0) rfl)) (hw _ (List.mem_of_getElem? (i := 1) rfl)) e0 (g := (mkF m 2 #[.val (.int p1), .unset, .unset, .unset] [(.int (6 : Int32))])) rfl (hb hby at_2) rfl (by decide) (cap := 6) (by decide) (by decide) (by decide) (by decide)
  obtain ⟨b2, g2⟩ : ∃ z, z = h0.size := ⟨_, rfl⟩
  rw [← g2] at A2 st2
  have V_b2 : Arv Z h2 b2 k2 (.object "com/example/bristlecone/bristlecone/strategy/Comparison$Operator") (6 : Int32) [.null, .null, .null, .null, .null, .null] .null := (Arv.new A2 (by decide)).pad (pad_rep [] .null 6)
  skip
  have g_b2 : n0 ≤ b2 := Nat.le_trans Z0 (Nat.le_of_eq g2.symm)
  have sz_b2 : h0.size ≤ b2 := (Nat.le_trans (Keep.refl h0 []).1 (Nat.le_of_eq g2.symm))
  have K2 : Keep h0 h2 [] := (Keep.refl h0 []).ext E2
  obtain ⟨T3, X3, e3, st3⟩ := getS2 X2 hx hZ hown (host := "") (Or.inl (hw _ (List.mem_of_getElem? (i := 2) rfl))) Via.refl e2 (S_EQUAL.ext E2) (g := (mkF m 7 #[.val (.int p1), .unset, .unset, .unset] [(.int (0 : Int32)), (.ref b2), (.ref b2)])) rfl (hb hby at_7)
  obtain ⟨cl_b2_10, Ar_b2, q_b2, S_b2, N_b2, H_b2, G_b2⟩ := V_b2
  have hin10 : ¬ ((0 : Int32) < 0 ∨ cl_b2_10.slots.size ≤ ((0 : Int32)).toNatClampNeg) := inb_of S_b2 ⟨by decide, by decide⟩
  have Sto10 : Sto Z h2 b2 (.ref w_EQUAL) := Sto.ofV Ar_b2 q_b2 O2 (Ins.self (E_w_EQUAL.ext E2))
  obtain ⟨T4, h4, X4, e4, W4, st4⟩ := stR X3 hx hZ e3 Ar_b2 (j := (0 : Int32)) hin10 rfl Sto10 (g := (mkF m 10 #[.val (.int p1), .unset, .unset, .unset] [(.ref w_EQUAL), (.int (0 : Int32)), (.ref b2), (.ref b2)])) rfl rfl (hb hby at_10)
  have V_b2_4 : Arv Z h4 b2 k2 (.object "com/example/bristlecone/bristlecone/strategy/Comparison$Operator") (6 : Int32) [(.ref w_EQUAL), .null, .null, .null, .null, .null] .null := Arv.set Ar_b2 q_b2 S_b2 N_b2 H_b2 G_b2 rfl W4 0 rfl (Nat.le_of_ble_eq_true rfl)
  have K4 : Keep h0 h4 [] := K2.wr W4 (Or.inr sz_b2)
  have N4 := Fr.snoc X4 N0 g_b2
  obtain ⟨T5, X5, e5, st5⟩ := getS2 X4 hx hZ hown (host := "") (Or.inl (hw _ (List.mem_of_getElem? (i := 6) rfl))) Via.refl e4 ((S_NOT_EQUAL.ext E2).wr W4) (g := (mkF m 13 #[.val (.int p1), .unset, .unset, .unset] [(.int (1 : Int32)), (.ref b2), (.ref b2)])) rfl (hb hby at_13)
  obtain ⟨cl_b2_16, Ar_b2, q_b2, S_b2, N_b2, H_b2, G_b2⟩ := V_b2_4
  have hin16 : ¬ ((1 : Int32) < 0 ∨ cl_b2_16.slots.size ≤ ((1 : Int32)).toNatClampNeg) := inb_of S_b2 ⟨by decide, by decide⟩
  have Sto16 : Sto Z h4 b2 (.ref w_NOT_EQUAL) := Sto.ofV Ar_b2 q_b2 O2 (Ins.self ((E_w_NOT_EQUAL.ext E2).wr W4))
  obtain ⟨T6, h6, X6, e6, W6, st6⟩ := stR X5 hx hZ e5 Ar_b2 (j := (1 : Int32)) hin16 rfl Sto16 (g := (mkF m 16 #[.val (.int p1), .unset, .unset, .unset] [(.ref w_NOT_EQUAL), (.int (1 : Int32)), (.ref b2), (.ref b2)])) rfl rfl (hb hby at_16)
  have V_b2_6 : Arv Z h6 b2 k2 (.object "com/example/bristlecone/bristlecone/strategy/Comparison$Operator") (6 : Int32) [(.ref w_EQUAL), (.ref w_NOT_EQUAL), .null, .null, .null, .null] .null := Arv.set Ar_b2 q_b2 S_b2 N_b2 H_b2 G_b2 rfl W6 1 rfl (Nat.le_of_ble_eq_true rfl)
  have K6 : Keep h0 h6 [] := K4.wr W6 (Or.inr sz_b2)
  have N6 := Fr.snoc X6 N4 g_b2
  obtain ⟨T7, X7, e7, st7⟩ := getS2 X6 hx hZ hown (host := "") (Or.inl (hw _ (List.mem_of_getElem? (i := 8) rfl))) Via.refl e6 (((S_LESS.ext E2).wr W4).wr W6) (g := (mkF m 19 #[.val (.int p1), .unset, .unset, .unset] [(.int (2 : Int32)), (.ref b2), (.ref b2)])) rfl (hb hby at_19)
  obtain ⟨cl_b2_22, Ar_b2, q_b2, S_b2, N_b2, H_b2, G_b2⟩ := V_b2_6
  have hin22 : ¬ ((2 : Int32) < 0 ∨ cl_b2_22.slots.size ≤ ((2 : Int32)).toNatClampNeg) := inb_of S_b2 ⟨by decide, by decide⟩
  have Sto22 : Sto Z h6 b2 (.ref w_LESS) := Sto.ofV Ar_b2 q_b2 O2 (Ins.self (((E_w_LESS.ext E2).wr W4).wr W6))
  obtain ⟨T8, h8, X8, e8, W8, st8⟩ := stR X7 hx hZ e7 Ar_b2 (j := (2 : Int32)) hin22 rfl Sto22 (g := (mkF m 22 #[.val (.int p1), .unset, .unset, .unset] [(.ref w_LESS), (.int (2 : Int32)), (.ref b2), (.ref b2)])) rfl rfl (hb hby at_22)
  have V_b2_8 : Arv Z h8 b2 k2 (.object "com/example/bristlecone/bristlecone/strategy/Comparison$Operator") (6 : Int32) [(.ref w_EQUAL), (.ref w_NOT_EQUAL), (.ref w_LESS), .null, .null, .null] .null := Arv.set Ar_b2 q_b2 S_b2 N_b2 H_b2 G_b2 rfl W8 2 rfl (Nat.le_of_ble_eq_true rfl)
  have K8 : Keep h0 h8 [] := K6.wr W8 (Or.inr sz_b2)
  have N8 := Fr.snoc X8 N6 g_b2
  obtain ⟨T9, X9, e9, st9⟩ := getS2 X8 hx hZ hown (host := "") (Or.inl (hw _ (List.mem_of_getElem? (i := 10) rfl))) Via.refl e8 ((((S_GREATER.ext E2).wr W4).wr W6).wr W8) (g := (mkF m 25 #[.val (.int p1), .unset, .unset, .unset] [(.int (3 : Int32)), (.ref b2), (.ref b2)])) rfl (hb hby at_25)
  obtain ⟨cl_b2_28, Ar_b2, q_b2, S_b2, N_b2, H_b2, G_b2⟩ := V_b2_8
  have hin28 : ¬ ((3 : Int32) < 0 ∨ cl_b2_28.slots.size ≤ ((3 : Int32)).toNatClampNeg) := inb_of S_b2 ⟨by decide, by decide⟩
  have Sto28 : Sto Z h8 b2 (.ref w_GREATER) := Sto.ofV Ar_b2 q_b2 O2 (Ins.self ((((E_w_GREATER.ext E2).wr W4).wr W6).wr W8))
  obtain ⟨T10, h10, X10, e10, W10, st10⟩ := stR X9 hx hZ e9 Ar_b2 (j := (3 : Int32)) hin28 rfl Sto28 (g := (mkF m 28 #[.val (.int p1), .unset, .unset, .unset] [(.ref w_GREATER), (.int (3 : Int32)), (.ref b2), (.ref b2)])) rfl rfl (hb hby at_28)
  have V_b2_10 : Arv Z h10 b2 k2 (.object "com/example/bristlecone/bristlecone/strategy/Comparison$Operator") (6 : Int32) [(.ref w_EQUAL), (.ref w_NOT_EQUAL), (.ref w_LESS), (.ref w_GREATER), .null, .null] .null := Arv.set Ar_b2 q_b2 S_b2 N_b2 H_b2 G_b2 rfl W10 3 rfl (Nat.le_of_ble_eq_true rfl)
  have K10 : Keep h0 h10 [] := K8.wr W10 (Or.inr sz_b2)
  have N10 := Fr.snoc X10 N8 g_b2
  obtain ⟨T11, X11, e11, st11⟩ := getS2 X10 hx hZ hown (host := "") (Or.inl (hw _ (List.mem_of_getElem? (i := 12) rfl))) Via.refl e10 (((((S_LESS_OR_EQUAL.ext E2).wr W4).wr W6).wr W8).wr W10) (g := (mkF m 31 #[.val (.int p1), .unset, .unset, .unset] [(.int (4 : Int32)), (.ref b2), (.ref b2)])) rfl (hb hby at_31)
  obtain ⟨cl_b2_34, Ar_b2, q_b2, S_b2, N_b2, H_b2, G_b2⟩ := V_b2_10
  have hin34 : ¬ ((4 : Int32) < 0 ∨ cl_b2_34.slots.size ≤ ((4 : Int32)).toNatClampNeg) := inb_of S_b2 ⟨by decide, by decide⟩
  have Sto34 : Sto Z h10 b2 (.ref w_LESS_OR_EQUAL) := Sto.ofV Ar_b2 q_b2 O2 (Ins.self (((((E_w_LESS_OR_EQUAL.ext E2).wr W4).wr W6).wr W8).wr W10))
  obtain ⟨T12, h12, X12, e12, W12, st12⟩ := stR X11 hx hZ e11 Ar_b2 (j := (4 : Int32)) hin34 rfl Sto34 (g := (mkF m 34 #[.val (.int p1), .unset, .unset, .unset] [(.ref w_LESS_OR_EQUAL), (.int (4 : Int32)), (.ref b2), (.ref b2)])) rfl rfl (hb hby at_34)
  have V_b2_12 : Arv Z h12 b2 k2 (.object "com/example/bristlecone/bristlecone/strategy/Comparison$Operator") (6 : Int32) [(.ref w_EQUAL), (.ref w_NOT_EQUAL), (.ref w_LESS), (.ref w_GREATER), (.ref w_LESS_OR_EQUAL), .null] .null := Arv.set Ar_b2 q_b2 S_b2 N_b2 H_b2 G_b2 rfl W12 4 rfl (Nat.le_of_ble_eq_true rfl)
  have K12 : Keep h0 h12 [] := K10.wr W12 (Or.inr sz_b2)
  have N12 := Fr.snoc X12 N10 g_b2
  obtain ⟨T13, X13, e13, st13⟩ := getS2 X12 hx hZ hown (host := "") (Or.inl (hw _ (List.mem_of_getElem? (i := 14) rfl))) Via.refl e12 ((((((S_GREATER_OR_EQUAL.ext E2).wr W4).wr W6).wr W8).wr W10).wr W12) (g := (mkF m 37 #[.val (.int p1), .unset, .unset, .unset] [(.int (5 : Int32)), (.ref b2), (.ref b2)])) rfl (hb hby at_37)
  obtain ⟨cl_b2_40, Ar_b2, q_b2, S_b2, N_b2, H_b2, G_b2⟩ := V_b2_12
  have hin40 : ¬ ((5 : Int32) < 0 ∨ cl_b2_40.slots.size ≤ ((5 : Int32)).toNatClampNeg) := inb_of S_b2 ⟨by decide, by decide⟩
  have Sto40 : Sto Z h12 b2 (.ref w_GREATER_OR_EQUAL) := Sto.ofV Ar_b2 q_b2 O2 (Ins.self ((((((E_w_GREATER_OR_EQUAL.ext E2).wr W4).wr W6).wr W8).wr W10).wr W12))
  obtain ⟨T14, h14, X14, e14, W14, st14⟩ := stR X13 hx hZ e13 Ar_b2 (j := (5 : Int32)) hin40 rfl Sto40 (g := (mkF m 40 #[.val (.int p1), .unset, .unset, .unset] [(.ref w_GREATER_OR_EQUAL), (.int (5 : Int32)), (.ref b2), (.ref b2)])) rfl rfl (hb hby at_40)
  have V_b2_14 : Arv Z h14 b2 k2 (.object "com/example/bristlecone/bristlecone/strategy/Comparison$Operator") (6 : Int32) [(.ref w_EQUAL), (.ref w_NOT_EQUAL), (.ref w_LESS), (.ref w_GREATER), (.ref w_LESS_OR_EQUAL), (.ref w_GREATER_OR_EQUAL)] .null := Arv.set Ar_b2 q_b2 S_b2 N_b2 H_b2 G_b2 rfl W14 5 rfl (Nat.le_of_ble_eq_true rfl)
  have K14 : Keep h0 h14 [] := K12.wr W14 (Or.inr sz_b2)
  have N14 := Fr.snoc X14 N12 g_b2
  obtain ⟨cl_b2_v15, Ar_b2_v15, q_b2_v15, S_b2_v15, N_b2_v15, H_b2_v15, G_b2_v15⟩ := id V_b2_14
  have hin_b2_v15 : ¬ (((p1 &&& (2147483647 : Int32)) % (6 : Int32)) < 0 ∨ cl_b2_v15.slots.size ≤ (((p1 &&& (2147483647 : Int32)) % (6 : Int32))).toNatClampNeg) := inb_of S_b2_v15 hij73
  have hat_b2_v15 : cl_b2_v15.slots[(((p1 &&& (2147483647 : Int32)) % (6 : Int32))).toNatClampNeg]? = some (.ref w_r) := (H_b2_v15 _ (Nat.lt_of_not_le fun q => hin_b2_v15 (Or.inr q))).trans (congrArg some hsel73)
  obtain ⟨cq16, kq16, q16a, q16b, q16c⟩ := isOf hZ e14 (((((((E_w_r.ext E2).wr W4).wr W6).wr W8).wr W10).wr W12).wr W14)
  obtain ⟨_, _, ⟨T16, L16, k16, n16⟩, -, X16, ⟨Lc16, hQ16, l16, y16, z16⟩, st16⟩ := X14.virtualBack hx (y := (⟨"com/example/bristlecone/bristlecone/strategy/Comparison$Operator", "orders", "()Z"⟩ : MethodName)) (z := (⟨"com/example/bristlecone/bristlecone/strategy/Comparison$Operator", "orders", "()Z"⟩ : MethodName)) hown (mvT hZ (hw _ (List.mem_of_getElem? (i := 17) rfl))) (mvT hZ (hw _ (List.mem_of_getElem? (i := 18) rfl))) (notFace_of_selects (args := #[]) (mvT hZ (hw _ (List.mem_of_getElem? (i := 20) rfl)))) (mvT hZ (hw _ (List.mem_of_getElem? (i := 20) rfl))) (mvT hZ (hw _ (List.mem_of_getElem? (i := 19) rfl))) (by decide) (backOf (W := 0) (rm1 l Z a0 hw [] w_r w_EQUAL w_NOT_EQUAL h14 n0 (Nat.le_trans (Nat.le_trans (Nat.le_trans (Nat.le_trans (Nat.le_trans (Nat.le_trans (Nat.le_trans Z0 E2.1) (Keep.of_wr W4).1) (Keep.of_wr W6).1) (Keep.of_wr W8).1) (Keep.of_wr W10).1) (Keep.of_wr W12).1) (Keep.of_wr W14).1) (((((((S_EQUAL.ext E2).wr W4).wr W6).wr W8).wr W10).wr W12).wr W14) (((((((S_NOT_EQUAL.ext E2).wr W4).wr W6).wr W8).wr W10).wr W12).wr W14)) hZ (hw _ (List.mem_of_getElem? (i := 21) rfl)) (hw _ (List.mem_of_getElem? (i := 3) rfl)) (by decide) (by decide)) q16a q16c (g := (mkF m 74 #[.val (.int p1), .val (.ref b2), .val (.int ((p1 &&& (2147483647 : Int32)) % (6 : Int32))), .val (.int (0 : Int32))] [(.ref w_r)])) rfl (by rw [hml]; rfl) (Steps.refl _) (argsL := []) (rest := []) (lenOf pd_0_0 rfl) rfl (by show 2 * 0 + _ ≤ _; exact Nat.le_of_eq rfl) (hb hby at_74) (fun _ _ => ⟨rfl, e14, (by decide : 1 + 0 ≤ _), (by decide : 6 + 0 ≤ _)⟩)
  dsimp only [Pt.U, Pt.locs, Pt.cells, Pt.slots] at X16 l16 y16 z16 st16 hQ16
  subst l16 y16 z16
  obtain ⟨rfl, N16q, e16⟩ := hQ16
  have N16 := Fr.app N14 N16q
  obtain ⟨fs, hr, hrun, hended, hW, hsame⟩ := X16.leave (v := some (.int (1 : Int32))) (fun h => by rw [Bd.returns] at h; cases h)
  refine ⟨_, _, pre0 _ ?_, hrun, hended, _, _, rfl, ?_, ⟨_, rfl⟩, hW, hsame.mono (by decide) (by decide)⟩
  · show Steps p.tables e below (s₁.setTop (mkF m 0 #[.val (.int p1), .unset, .unset, .unset] [])) _
    refine XS.bipush X0.here hx rfl (hb hby at_0) ?_
    show Steps p.tables e below (s₁.setTop (mkF m 2 #[.val (.int p1), .unset, .unset, .unset] [(.int (6 : Int32))])) _
    refine st2 _ ?_
    show Steps p.tables e below (T2.setTop (mkF m 5 #[.val (.int p1), .unset, .unset, .unset] [(.ref b2)])) _
    refine XS.dup X2.here hx rfl (hb hby at_5) rfl rfl ?_
    show Steps p.tables e below (T2.setTop (mkF m 6 #[.val (.int p1), .unset, .unset, .unset] [(.ref b2), (.ref b2)])) _
    refine XS.iconst X2.here hx rfl (hb hby at_6) ?_
    show Steps p.tables e below (T2.setTop (mkF m 7 #[.val (.int p1), .unset, .unset, .unset] [(.int (0 : Int32)), (.ref b2), (.ref b2)])) _
    refine st3 _ ?_
    show Steps p.tables e below (T3.setTop (mkF m 10 #[.val (.int p1), .unset, .unset, .unset] [(.ref w_EQUAL), (.int (0 : Int32)), (.ref b2), (.ref b2)])) _
    refine st4 _ ?_
    show Steps p.tables e below (T4.setTop (mkF m 11 #[.val (.int p1), .unset, .unset, .unset] [(.ref b2)])) _
    refine XS.dup X4.here hx rfl (hb hby at_11) rfl rfl ?_
    show Steps p.tables e below (T4.setTop (mkF m 12 #[.val (.int p1), .unset, .unset, .unset] [(.ref b2), (.ref b2)])) _
    refine XS.iconst X4.here hx rfl (hb hby at_12) ?_
    show Steps p.tables e below (T4.setTop (mkF m 13 #[.val (.int p1), .unset, .unset, .unset] [(.int (1 : Int32)), (.ref b2), (.ref b2)])) _
    refine st5 _ ?_
    show Steps p.tables e below (T5.setTop (mkF m 16 #[.val (.int p1), .unset, .unset, .unset] [(.ref w_NOT_EQUAL), (.int (1 : Int32)), (.ref b2), (.ref b2)])) _
    refine st6 _ ?_
    show Steps p.tables e below (T6.setTop (mkF m 17 #[.val (.int p1), .unset, .unset, .unset] [(.ref b2)])) _
    refine XS.dup X6.here hx rfl (hb hby at_17) rfl rfl ?_
    show Steps p.tables e below (T6.setTop (mkF m 18 #[.val (.int p1), .unset, .unset, .unset] [(.ref b2), (.ref b2)])) _
    refine XS.iconst X6.here hx rfl (hb hby at_18) ?_
    show Steps p.tables e below (T6.setTop (mkF m 19 #[.val (.int p1), .unset, .unset, .unset] [(.int (2 : Int32)), (.ref b2), (.ref b2)])) _
    refine st7 _ ?_
    show Steps p.tables e below (T7.setTop (mkF m 22 #[.val (.int p1), .unset, .unset, .unset] [(.ref w_LESS), (.int (2 : Int32)), (.ref b2), (.ref b2)])) _
    refine st8 _ ?_
    show Steps p.tables e below (T8.setTop (mkF m 23 #[.val (.int p1), .unset, .unset, .unset] [(.ref b2)])) _
    refine XS.dup X8.here hx rfl (hb hby at_23) rfl rfl ?_
    show Steps p.tables e below (T8.setTop (mkF m 24 #[.val (.int p1), .unset, .unset, .unset] [(.ref b2), (.ref b2)])) _
    refine XS.iconst X8.here hx rfl (hb hby at_24) ?_
    show Steps p.tables e below (T8.setTop (mkF m 25 #[.val (.int p1), .unset, .unset, .unset] [(.int (3 : Int32)), (.ref b2), (.ref b2)])) _
    refine st9 _ ?_
    show Steps p.tables e below (T9.setTop (mkF m 28 #[.val (.int p1), .unset, .unset, .unset] [(.ref w_GREATER), (.int (3 : Int32)), (.ref b2), (.ref b2)])) _
    refine st10 _ ?_
    show Steps p.tables e below (T10.setTop (mkF m 29 #[.val (.int p1), .unset, .unset, .unset] [(.ref b2)])) _
    refine XS.dup X10.here hx rfl (hb hby at_29) rfl rfl ?_
    show Steps p.tables e below (T10.setTop (mkF m 30 #[.val (.int p1), .unset, .unset, .unset] [(.ref b2), (.ref b2)])) _
    refine XS.iconst X10.here hx rfl (hb hby at_30) ?_
    show Steps p.tables e below (T10.setTop (mkF m 31 #[.val (.int p1), .unset, .unset, .unset] [(.int (4 : Int32)), (.ref b2), (.ref b2)])) _
    refine st11 _ ?_
    show Steps p.tables e below (T11.setTop (mkF m 34 #[.val (.int p1), .unset, .unset, .unset] [(.ref w_LESS_OR_EQUAL), (.int (4 : Int32)), (.ref b2), (.ref b2)])) _
    refine st12 _ ?_
    show Steps p.tables e below (T12.setTop (mkF m 35 #[.val (.int p1), .unset, .unset, .unset] [(.ref b2)])) _
    refine XS.dup X12.here hx rfl (hb hby at_35) rfl rfl ?_
    show Steps p.tables e below (T12.setTop (mkF m 36 #[.val (.int p1), .unset, .unset, .unset] [(.ref b2), (.ref b2)])) _
    refine XS.iconst X12.here hx rfl (hb hby at_36) ?_
    show Steps p.tables e below (T12.setTop (mkF m 37 #[.val (.int p1), .unset, .unset, .unset] [(.int (5 : Int32)), (.ref b2), (.ref b2)])) _
    refine st13 _ ?_
    show Steps p.tables e below (T13.setTop (mkF m 40 #[.val (.int p1), .unset, .unset, .unset] [(.ref w_GREATER_OR_EQUAL), (.int (5 : Int32)), (.ref b2), (.ref b2)])) _
    refine st14 _ ?_
    show Steps p.tables e below (T14.setTop (mkF m 41 #[.val (.int p1), .unset, .unset, .unset] [(.ref b2)])) _
    refine XS.astoreN X14.here hx rfl (hb hby at_41) rfl rfl (l' := #[.val (.int p1), .val (.ref b2), .unset, .unset]) rfl ?_
    show Steps p.tables e below (T14.setTop (mkF m 42 #[.val (.int p1), .val (.ref b2), .unset, .unset] [])) _
    refine XS.iloadN X14.here hx rfl (hb hby at_42) rfl ?_
    show Steps p.tables e below (T14.setTop (mkF m 43 #[.val (.int p1), .val (.ref b2), .unset, .unset] [(.int p1)])) _
    refine X14.ldcInt hx hown (mvT hZ (hw _ (List.mem_of_getElem? (i := 16) rfl))) (g := (mkF m 43 #[.val (.int p1), .val (.ref b2), .unset, .unset] [(.int p1)])) rfl (hb hby at_43) _ ?_
    show Steps p.tables e below (T14.setTop (mkF m 45 #[.val (.int p1), .val (.ref b2), .unset, .unset] [(.int (2147483647 : Int32)), (.int p1)])) _
    refine XS.iand X14.here hx rfl (hb hby at_45) rfl ?_
    show Steps p.tables e below (T14.setTop (mkF m 46 #[.val (.int p1), .val (.ref b2), .unset, .unset] [(.int (p1 &&& (2147483647 : Int32)))])) _
    refine XS.bipush X14.here hx rfl (hb hby at_46) ?_
    show Steps p.tables e below (T14.setTop (mkF m 48 #[.val (.int p1), .val (.ref b2), .unset, .unset] [(.int (6 : Int32)), (.int (p1 &&& (2147483647 : Int32)))])) _
    refine iremM X14 hx rfl (hb hby at_48) rfl (by decide) ?_
    show Steps p.tables e below (T14.setTop (mkF m 49 #[.val (.int p1), .val (.ref b2), .unset, .unset] [(.int ((p1 &&& (2147483647 : Int32)) % (6 : Int32)))])) _
    refine XS.istoreN X14.here hx rfl (hb hby at_49) rfl (l' := #[.val (.int p1), .val (.ref b2), .val (.int ((p1 &&& (2147483647 : Int32)) % (6 : Int32))), .unset]) rfl ?_
    show Steps p.tables e below (T14.setTop (mkF m 50 #[.val (.int p1), .val (.ref b2), .val (.int ((p1 &&& (2147483647 : Int32)) % (6 : Int32))), .unset] [])) _
    refine XS.iloadN X14.here hx rfl (hb hby at_50) rfl ?_
    show Steps p.tables e below (T14.setTop (mkF m 51 #[.val (.int p1), .val (.ref b2), .val (.int ((p1 &&& (2147483647 : Int32)) % (6 : Int32))), .unset] [(.int ((p1 &&& (2147483647 : Int32)) % (6 : Int32)))])) _
    refine XS.ifNo X14.here hx rfl (hb hby at_51) rfl ((if0 _ _).trans (teq hc51).2) ?_
    show Steps p.tables e below (T14.setTop (mkF m 54 #[.val (.int p1), .val (.ref b2), .val (.int ((p1 &&& (2147483647 : Int32)) % (6 : Int32))), .unset] [])) _
    refine XS.iconst X14.here hx rfl (hb hby at_54) ?_
    show Steps p.tables e below (T14.setTop (mkF m 55 #[.val (.int p1), .val (.ref b2), .val (.int ((p1 &&& (2147483647 : Int32)) % (6 : Int32))), .unset] [(.int (0 : Int32))])) _
    refine XS.istoreN X14.here hx rfl (hb hby at_55) rfl (l' := #[.val (.int p1), .val (.ref b2), .val (.int ((p1 &&& (2147483647 : Int32)) % (6 : Int32))), .val (.int (0 : Int32))]) rfl ?_
    show Steps p.tables e below (T14.setTop (mkF m 56 #[.val (.int p1), .val (.ref b2), .val (.int ((p1 &&& (2147483647 : Int32)) % (6 : Int32))), .val (.int (0 : Int32))] [])) _
    refine XS.goto X14.here hx rfl (pc0 := 56) (pc' := 71) rfl (hb hby at_56) (by decide) (by decide) ?_
    show Steps p.tables e below (T14.setTop (mkF m 71 #[.val (.int p1), .val (.ref b2), .val (.int ((p1 &&& (2147483647 : Int32)) % (6 : Int32))), .val (.int (0 : Int32))] [])) _
    refine XS.aloadN X14.here hx rfl (hb hby at_71) rfl rfl ?_
    show Steps p.tables e below (T14.setTop (mkF m 72 #[.val (.int p1), .val (.ref b2), .val (.int ((p1 &&& (2147483647 : Int32)) % (6 : Int32))), .val (.int (0 : Int32))] [(.ref b2)])) _
    refine XS.iloadN X14.here hx rfl (hb hby at_72) rfl ?_
    show Steps p.tables e below (T14.setTop (mkF m 73 #[.val (.int p1), .val (.ref b2), .val (.int ((p1 &&& (2147483647 : Int32)) % (6 : Int32))), .val (.int (0 : Int32))] [(.int ((p1 &&& (2147483647 : Int32)) % (6 : Int32))), (.ref b2)])) _
    refine X14.aaload hx (j := ((p1 &&& (2147483647 : Int32)) % (6 : Int32))) (v := (.ref w_r)) (by rw [e14]; exact Ar_b2_v15.1) (State.isArrayOf_alike hZ.alike Ar_b2_v15.2.1) rfl Ar_b2_v15.2.2 hin_b2_v15 hat_b2_v15 (g := (mkF m 73 #[.val (.int p1), .val (.ref b2), .val (.int ((p1 &&& (2147483647 : Int32)) % (6 : Int32))), .val (.int (0 : Int32))] [(.int ((p1 &&& (2147483647 : Int32)) % (6 : Int32))), (.ref b2)])) rfl rfl (hb hby at_73) _ ?_
    show Steps p.tables e below (T14.setTop (mkF m 74 #[.val (.int p1), .val (.ref b2), .val (.int ((p1 &&& (2147483647 : Int32)) % (6 : Int32))), .val (.int (0 : Int32))] [(.ref w_r)])) _
    refine st16.trans ?_
    show Steps p.tables e below (T16.setTop (mkF m 77 #[.val (.int p1), .val (.ref b2), .val (.int ((p1 &&& (2147483647 : Int32)) % (6 : Int32))), .val (.int (0 : Int32))] [(.int (own_ord w_r w_EQUAL w_NOT_EQUAL))])) _
    refine XS.iloadN X16.here hx rfl (hb hby at_77) rfl ?_
    show Steps p.tables e below (T16.setTop (mkF m 78 #[.val (.int p1), .val (.ref b2), .val (.int ((p1 &&& (2147483647 : Int32)) % (6 : Int32))), .val (.int (0 : Int32))] [(.int (0 : Int32)), (.int (own_ord w_r w_EQUAL w_NOT_EQUAL))])) _
    refine XS.icmpNo X16.here hx rfl (hb hby at_78) rfl (teq hc78).2 ?_
    show Steps p.tables e below (T16.setTop (mkF m 81 #[.val (.int p1), .val (.ref b2), .val (.int ((p1 &&& (2147483647 : Int32)) % (6 : Int32))), .val (.int (0 : Int32))] [])) _
    refine XS.iconst X16.here hx rfl (hb hby at_81) ?_
    show Steps p.tables e below (T16.setTop (mkF m 82 #[.val (.int p1), .val (.ref b2), .val (.int ((p1 &&& (2147483647 : Int32)) % (6 : Int32))), .val (.int (0 : Int32))] [(.int (1 : Int32))])) _
    refine XS.goto X16.here hx rfl (pc0 := 82) (pc' := 86) rfl (hb hby at_82) (by decide) (by decide) ?_
    show Steps p.tables e below (T16.setTop (mkF m 86 #[.val (.int p1), .val (.ref b2), .val (.int ((p1 &&& (2147483647 : Int32)) % (6 : Int32))), .val (.int (0 : Int32))] [(.int (1 : Int32))])) _
    exact retN X16 hx (t := .boolean) Bd.returns (by simp) (hb hby at_86) hr
  · show QL h0 n0 _ T16.heap _
    rw [e16]
    exact ⟨rfl, N16⟩
set_option maxRecDepth 65536 in
set_option maxHeartbeats 40000000 in
theorem rm0_tff (l : Launch) (Z : State) (a0 : Array Value) (hw : ∀ d ∈ tables_1, d.before a0 Z = true) (ws : List Jvm.Cond) (p1 : Int32) (w_EQUAL : Addr) (w_NOT_EQUAL : Addr) (w_LESS : Addr) (w_GREATER : Addr) (w_LESS_OR_EQUAL : Addr) (w_GREATER_OR_EQUAL : Addr) (w_r : Addr) (h0 : Heap) (n0 : Nat) (Z0 : n0 ≤ h0.size) (S_EQUAL : Sta Z h0 "com/example/bristlecone/bristlecone/strategy/Comparison$Operator" "EQUAL" "Lcom/example/bristlecone/bristlecone/strategy/Comparison$Operator;" (.ref w_EQUAL)) (E_w_EQUAL : Exa Z h0 w_EQUAL "com/example/bristlecone/bristlecone/strategy/Comparison$Operator") (S_NOT_EQUAL : Sta Z h0 "com/example/bristlecone/bristlecone/strategy/Comparison$Operator" "NOT_EQUAL" "Lcom/example/bristlecone/bristlecone/strategy/Comparison$Operator;" (.ref w_NOT_EQUAL)) (E_w_NOT_EQUAL : Exa Z h0 w_NOT_EQUAL "com/example/bristlecone/bristlecone/strategy/Comparison$Operator") (S_LESS : Sta Z h0 "com/example/bristlecone/bristlecone/strategy/Comparison$Operator" "LESS" "Lcom/example/bristlecone/bristlecone/strategy/Comparison$Operator;" (.ref w_LESS)) (E_w_LESS : Exa Z h0 w_LESS "com/example/bristlecone/bristlecone/strategy/Comparison$Operator") (S_GREATER : Sta Z h0 "com/example/bristlecone/bristlecone/strategy/Comparison$Operator" "GREATER" "Lcom/example/bristlecone/bristlecone/strategy/Comparison$Operator;" (.ref w_GREATER)) (E_w_GREATER : Exa Z h0 w_GREATER "com/example/bristlecone/bristlecone/strategy/Comparison$Operator") (S_LESS_OR_EQUAL : Sta Z h0 "com/example/bristlecone/bristlecone/strategy/Comparison$Operator" "LESS_OR_EQUAL" "Lcom/example/bristlecone/bristlecone/strategy/Comparison$Operator;" (.ref w_LESS_OR_EQUAL)) (E_w_LESS_OR_EQUAL : Exa Z h0 w_LESS_OR_EQUAL "com/example/bristlecone/bristlecone/strategy/Comparison$Operator") (S_GREATER_OR_EQUAL : Sta Z h0 "com/example/bristlecone/bristlecone/strategy/Comparison$Operator" "GREATER_OR_EQUAL" "Lcom/example/bristlecone/bristlecone/strategy/Comparison$Operator;" (.ref w_GREATER_OR_EQUAL)) (E_w_GREATER_OR_EQUAL : Exa Z h0 w_GREATER_OR_EQUAL "com/example/bristlecone/bristlecone/strategy/Comparison$Operator") (hij73 : ¬ ((p1 &&& (2147483647 : Int32)) % (6 : Int32)) < 0 ∧ ((p1 &&& (2147483647 : Int32)) % (6 : Int32)) < (6 : Int32)) (hsel73 : List.getD ([(.ref w_EQUAL), (.ref w_NOT_EQUAL), (.ref w_LESS), (.ref w_GREATER), (.ref w_LESS_OR_EQUAL), (.ref w_GREATER_OR_EQUAL)] : List Value) (((p1 &&& (2147483647 : Int32)) % (6 : Int32))).toNatClampNeg .null = .ref w_r) (E_w_r : Exa Z h0 w_r "com/example/bristlecone/bristlecone/strategy/Comparison$Operator") (hc51 : ¬ (((p1 &&& (2147483647 : Int32)) % (6 : Int32)) = (0 : Int32))) (hc61 : ((p1 &&& (2147483647 : Int32)) % (6 : Int32)) = (1 : Int32)) (hc78 : (own_ord w_r w_EQUAL w_NOT_EQUAL) = (0 : Int32)) :
    MetFree l x (head1 (Jvm.Cond.code x code maxLocals ret :: ws) room_1) (fun a U => a = #[(.int p1)] ∧ Z.Warmed39 U.vm ∧ U.heap = h0) (fun _ _ _ _ _ => True) (fun _ U o U' => ∃ v L, o = .returned v ∧ QL h0 n0 v U'.heap L ∧ FrameEnd U o U' L room_1.cells room_1.slots) := by
  refine MetFree.of_bodySF (plainFor_of_name pn_0) hisR ?_
  intro p e s m args below meth c s₁ Bd hml0 hP hK
  obtain ⟨rfl, hZ, hh⟩ := hP
  have hx := Bd.exec
  have hby := Bd.bytes
  have hml : c.maxLocals = 4 := hml0
  have hown : s.vm.findClass "com/example/bristlecone/bristlecone/strategy/OperatorOrdersPinLaw" = some m.cls := findClass_of_methodNamed Bd.named
  have hnm := (name_of_methodNamed Bd.named Bd.method).1
  have X0 : Stand p l e room_1 s m #[(.int p1)] below meth c s₁ [] 0 0 := Stand.of_body Bd
  have e0 : s₁.heap = h0 := by rw [← hh, Bd.state]; rfl
  have N0 := Fr.nil n0
  have pre0 : ∀ t, Steps p.tables e below (s₁.setTop (mkF m 0 #[.val (.int p1), .unset, .unset, .unset] [])) t → Steps p.tables e below (s₁.setTop (entryFrame m #[(.int p1)] maxLocals)) t := fun t k => castTop (ef_0 m p1) k
  obtain ⟨T2, h2, k2, X2, e2, E2, A2, O2, st2⟩ := newR X0 hx hZ hown (hw _ (List.mem_of_getElem? (i := 0) rfl)) (hw _ (List.mem_of_getElem? (i := 1) rfl)) e0 (g := (mkF m 2 #[.val (.int p1), .unset, .unset, .unset] [(.int (6 : Int32))])) rfl (hb hby at_2) rfl (by decide) (cap := 6) (by decide) (by decide) (by decide) (by decide)
  obtain ⟨b2, g2⟩ : ∃ z, z = h0.size := ⟨_, rfl⟩
  rw [← g2] at A2 st2
  have V_b2 : Arv Z h2 b2 k2 (.object "com/example/bristlecone/bristlecone/strategy/Comparison$Operator") (6 : Int32) [.null, .null, .null, .null, .null, .null] .null := (Arv.new A2 (by decide)).pad (pad_rep [] .null 6)
  skip
  have g_b2 : n0 ≤ b2 := Nat.le_trans Z0 (Nat.le_of_eq g2.symm)
  have sz_b2 : h0.size ≤ b2 := (Nat.le_trans (Keep.refl h0 []).1 (Nat.le_of_eq g2.symm))
  have K2 : Keep h0 h2 [] := (Keep.refl h0 []).ext E2
  obtain ⟨T3, X3, e3, st3⟩ := getS2 X2 hx hZ hown (host := "") (Or.inl (hw _ (List.mem_of_getElem? (i := 2) rfl))) Via.refl e2 (S_EQUAL.ext E2) (g := (mkF m 7 #[.val (.int p1), .unset, .unset, .unset] [(.int (0 : Int32)), (.ref b2), (.ref b2)])) rfl (hb hby at_7)
  obtain ⟨cl_b2_10, Ar_b2, q_b2, S_b2, N_b2, H_b2, G_b2⟩ := V_b2
  have hin10 : ¬ ((0 : Int32) < 0 ∨ cl_b2_10.slots.size ≤ ((0 : Int32)).toNatClampNeg) := inb_of S_b2 ⟨by decide, by decide⟩
  have Sto10 : Sto Z h2 b2 (.ref w_EQUAL) := Sto.ofV Ar_b2 q_b2 O2 (Ins.self (E_w_EQUAL.ext E2))
  obtain ⟨T4, h4, X4, e4, W4, st4⟩ := stR X3 hx hZ e3 Ar_b2 (j := (0 : Int32)) hin10 rfl Sto10 (g := (mkF m 10 #[.val (.int p1), .unset, .unset, .unset] [(.ref w_EQUAL), (.int (0 : Int32)), (.ref b2), (.ref b2)])) rfl rfl (hb hby at_10)
  have V_b2_4 : Arv Z h4 b2 k2 (.object "com/example/bristlecone/bristlecone/strategy/Comparison$Operator") (6 : Int32) [(.ref w_EQUAL), .null, .null, .null, .null, .null] .null := Arv.set Ar_b2 q_b2 S_b2 N_b2 H_b2 G_b2 rfl W4 0 rfl (Nat.le_of_ble_eq_true rfl)
  have K4 : Keep h0 h4 [] := K2.wr W4 (Or.inr sz_b2)
  have N4 := Fr.snoc X4 N0 g_b2
  obtain ⟨T5, X5, e5, st5⟩ := getS2 X4 hx hZ hown (host := "") (Or.inl (hw _ (List.mem_of_getElem? (i := 6) rfl))) Via.refl e4 ((S_NOT_EQUAL.ext E2).wr W4) (g := (mkF m 13 #[.val (.int p1), .unset, .unset, .unset] [(.int (1 : Int32)), (.ref b2), (.ref b2)])) rfl (hb hby at_13)
  obtain ⟨cl_b2_16, Ar_b2, q_b2, S_b2, N_b2, H_b2, G_b2⟩ := V_b2_4
  have hin16 : ¬ ((1 : Int32) < 0 ∨ cl_b2_16.slots.size ≤ ((1 : Int32)).toNatClampNeg) := inb_of S_b2 ⟨by decide, by decide⟩
  have Sto16 : Sto Z h4 b2 (.ref w_NOT_EQUAL) := Sto.ofV Ar_b2 q_b2 O2 (Ins.self ((E_w_NOT_EQUAL.ext E2).wr W4))
  obtain ⟨T6, h6, X6, e6, W6, st6⟩ := stR X5 hx hZ e5 Ar_b2 (j := (1 : Int32)) hin16 rfl Sto16 (g := (mkF m 16 #[.val (.int p1), .unset, .unset, .unset] [(.ref w_NOT_EQUAL), (.int (1 : Int32)), (.ref b2), (.ref b2)])) rfl rfl (hb hby at_16)
  have V_b2_6 : Arv Z h6 b2 k2 (.object "com/example/bristlecone/bristlecone/strategy/Comparison$Operator") (6 : Int32) [(.ref w_EQUAL), (.ref w_NOT_EQUAL), .null, .null, .null, .null] .null := Arv.set Ar_b2 q_b2 S_b2 N_b2 H_b2 G_b2 rfl W6 1 rfl (Nat.le_of_ble_eq_true rfl)
  have K6 : Keep h0 h6 [] := K4.wr W6 (Or.inr sz_b2)
  have N6 := Fr.snoc X6 N4 g_b2
  obtain ⟨T7, X7, e7, st7⟩ := getS2 X6 hx hZ hown (host := "") (Or.inl (hw _ (List.mem_of_getElem? (i := 8) rfl))) Via.refl e6 (((S_LESS.ext E2).wr W4).wr W6) (g := (mkF m 19 #[.val (.int p1), .unset, .unset, .unset] [(.int (2 : Int32)), (.ref b2), (.ref b2)])) rfl (hb hby at_19)
  obtain ⟨cl_b2_22, Ar_b2, q_b2, S_b2, N_b2, H_b2, G_b2⟩ := V_b2_6
  have hin22 : ¬ ((2 : Int32) < 0 ∨ cl_b2_22.slots.size ≤ ((2 : Int32)).toNatClampNeg) := inb_of S_b2 ⟨by decide, by decide⟩
  have Sto22 : Sto Z h6 b2 (.ref w_LESS) := Sto.ofV Ar_b2 q_b2 O2 (Ins.self (((E_w_LESS.ext E2).wr W4).wr W6))
  obtain ⟨T8, h8, X8, e8, W8, st8⟩ := stR X7 hx hZ e7 Ar_b2 (j := (2 : Int32)) hin22 rfl Sto22 (g := (mkF m 22 #[.val (.int p1), .unset, .unset, .unset] [(.ref w_LESS), (.int (2 : Int32)), (.ref b2), (.ref b2)])) rfl rfl (hb hby at_22)
  have V_b2_8 : Arv Z h8 b2 k2 (.object "com/example/bristlecone/bristlecone/strategy/Comparison$Operator") (6 : Int32) [(.ref w_EQUAL), (.ref w_NOT_EQUAL), (.ref w_LESS), .null, .null, .null] .null := Arv.set Ar_b2 q_b2 S_b2 N_b2 H_b2 G_b2 rfl W8 2 rfl (Nat.le_of_ble_eq_true rfl)
  have K8 : Keep h0 h8 [] := K6.wr W8 (Or.inr sz_b2)
  have N8 := Fr.snoc X8 N6 g_b2
  obtain ⟨T9, X9, e9, st9⟩ := getS2 X8 hx hZ hown (host := "") (Or.inl (hw _ (List.mem_of_getElem? (i := 10) rfl))) Via.refl e8 ((((S_GREATER.ext E2).wr W4).wr W6).wr W8) (g := (mkF m 25 #[.val (.int p1), .unset, .unset, .unset] [(.int (3 : Int32)), (.ref b2), (.ref b2)])) rfl (hb hby at_25)
  obtain ⟨cl_b2_28, Ar_b2, q_b2, S_b2, N_b2, H_b2, G_b2⟩ := V_b2_8
  have hin28 : ¬ ((3 : Int32) < 0 ∨ cl_b2_28.slots.size ≤ ((3 : Int32)).toNatClampNeg) := inb_of S_b2 ⟨by decide, by decide⟩
  have Sto28 : Sto Z h8 b2 (.ref w_GREATER) := Sto.ofV Ar_b2 q_b2 O2 (Ins.self ((((E_w_GREATER.ext E2).wr W4).wr W6).wr W8))
  obtain ⟨T10, h10, X10, e10, W10, st10⟩ := stR X9 hx hZ e9 Ar_b2 (j := (3 : Int32)) hin28 rfl Sto28 (g := (mkF m 28 #[.val (.int p1), .unset, .unset, .unset] [(.ref w_GREATER), (.int (3 : Int32)), (.ref b2), (.ref b2)])) rfl rfl (hb hby at_28)
  have V_b2_10 : Arv Z h10 b2 k2 (.object "com/example/bristlecone/bristlecone/strategy/Comparison$Operator") (6 : Int32) [(.ref w_EQUAL), (.ref w_NOT_EQUAL), (.ref w_LESS), (.ref w_GREATER), .null, .null] .null := Arv.set Ar_b2 q_b2 S_b2 N_b2 H_b2 G_b2 rfl W10 3 rfl (Nat.le_of_ble_eq_true rfl)
  have K10 : Keep h0 h10 [] := K8.wr W10 (Or.inr sz_b2)
  have N10 := Fr.snoc X10 N8 g_b2
  obtain ⟨T11, X11, e11, st11⟩ := getS2 X10 hx hZ hown (host := "") (Or.inl (hw _ (List.mem_of_getElem? (i := 12) rfl))) Via.refl e10 (((((S_LESS_OR_EQUAL.ext E2).wr W4).wr W6).wr W8).wr W10) (g := (mkF m 31 #[.val (.int p1), .unset, .unset, .unset] [(.int (4 : Int32)), (.ref b2), (.ref b2)])) rfl (hb hby at_31)
  obtain ⟨cl_b2_34, Ar_b2, q_b2, S_b2, N_b2, H_b2, G_b2⟩ := V_b2_10
  have hin34 : ¬ ((4 : Int32) < 0 ∨ cl_b2_34.slots.size ≤ ((4 : Int32)).toNatClampNeg) := inb_of S_b2 ⟨by decide, by decide⟩
  have Sto34 : Sto Z h10 b2 (.ref w_LESS_OR_EQUAL) := Sto.ofV Ar_b2 q_b2 O2 (Ins.self (((((E_w_LESS_OR_EQUAL.ext E2).wr W4).wr W6).wr W8).wr W10))
  obtain ⟨T12, h12, X12, e12, W12, st12⟩ := stR X11 hx hZ e11 Ar_b2 (j := (4 : Int32)) hin34 rfl Sto34 (g := (mkF m 34 #[.val (.int p1), .unset, .unset, .unset] [(.ref w_LESS_OR_EQUAL), (.int (4 : Int32)), (.ref b2), (.ref b2)])) rfl rfl (hb hby at_34)
  have V_b2_12 : Arv Z h12 b2 k2 (.object "com/example/bristlecone/bristlecone/strategy/Comparison$Operator") (6 : Int32) [(.ref w_EQUAL), (.ref w_NOT_EQUAL), (.ref w_LESS), (.ref w_GREATER), (.ref w_LESS_OR_EQUAL), .null] .null := Arv.set Ar_b2 q_b2 S_b2 N_b2 H_b2 G_b2 rfl W12 4 rfl (Nat.le_of_ble_eq_true rfl)
  have K12 : Keep h0 h12 [] := K10.wr W12 (Or.inr sz_b2)
  have N12 := Fr.snoc X12 N10 g_b2
  obtain ⟨T13, X13, e13, st13⟩ := getS2 X12 hx hZ hown (host := "") (Or.inl (hw _ (List.mem_of_getElem? (i := 14) rfl))) Via.refl e12 ((((((S_GREATER_OR_EQUAL.ext E2).wr W4).wr W6).wr W8).wr W10).wr W12) (g := (mkF m 37 #[.val (.int p1), .unset, .unset, .unset] [(.int (5 : Int32)), (.ref b2), (.ref b2)])) rfl (hb hby at_37)
  obtain ⟨cl_b2_40, Ar_b2, q_b2, S_b2, N_b2, H_b2, G_b2⟩ := V_b2_12
  have hin40 : ¬ ((5 : Int32) < 0 ∨ cl_b2_40.slots.size ≤ ((5 : Int32)).toNatClampNeg) := inb_of S_b2 ⟨by decide, by decide⟩
  have Sto40 : Sto Z h12 b2 (.ref w_GREATER_OR_EQUAL) := Sto.ofV Ar_b2 q_b2 O2 (Ins.self ((((((E_w_GREATER_OR_EQUAL.ext E2).wr W4).wr W6).wr W8).wr W10).wr W12))
  obtain ⟨T14, h14, X14, e14, W14, st14⟩ := stR X13 hx hZ e13 Ar_b2 (j := (5 : Int32)) hin40 rfl Sto40 (g := (mkF m 40 #[.val (.int p1), .unset, .unset, .unset] [(.ref w_GREATER_OR_EQUAL), (.int (5 : Int32)), (.ref b2), (.ref b2)])) rfl rfl (hb hby at_40)
  have V_b2_14 : Arv Z h14 b2 k2 (.object "com/example/bristlecone/bristlecone/strategy/Comparison$Operator") (6 : Int32) [(.ref w_EQUAL), (.ref w_NOT_EQUAL), (.ref w_LESS), (.ref w_GREATER), (.ref w_LESS_OR_EQUAL), (.ref w_GREATER_OR_EQUAL)] .null := Arv.set Ar_b2 q_b2 S_b2 N_b2 H_b2 G_b2 rfl W14 5 rfl (Nat.le_of_ble_eq_true rfl)
  have K14 : Keep h0 h14 [] := K12.wr W14 (Or.inr sz_b2)
  have N14 := Fr.snoc X14 N12 g_b2
  obtain ⟨cl_b2_v15, Ar_b2_v15, q_b2_v15, S_b2_v15, N_b2_v15, H_b2_v15, G_b2_v15⟩ := id V_b2_14
  have hin_b2_v15 : ¬ (((p1 &&& (2147483647 : Int32)) % (6 : Int32)) < 0 ∨ cl_b2_v15.slots.size ≤ (((p1 &&& (2147483647 : Int32)) % (6 : Int32))).toNatClampNeg) := inb_of S_b2_v15 hij73
  have hat_b2_v15 : cl_b2_v15.slots[(((p1 &&& (2147483647 : Int32)) % (6 : Int32))).toNatClampNeg]? = some (.ref w_r) := (H_b2_v15 _ (Nat.lt_of_not_le fun q => hin_b2_v15 (Or.inr q))).trans (congrArg some hsel73)
  obtain ⟨cq16, kq16, q16a, q16b, q16c⟩ := isOf hZ e14 (((((((E_w_r.ext E2).wr W4).wr W6).wr W8).wr W10).wr W12).wr W14)
  obtain ⟨_, _, ⟨T16, L16, k16, n16⟩, -, X16, ⟨Lc16, hQ16, l16, y16, z16⟩, st16⟩ := X14.virtualBack hx (y := (⟨"com/example/bristlecone/bristlecone/strategy/Comparison$Operator", "orders", "()Z"⟩ : MethodName)) (z := (⟨"com/example/bristlecone/bristlecone/strategy/Comparison$Operator", "orders", "()Z"⟩ : MethodName)) hown (mvT hZ (hw _ (List.mem_of_getElem? (i := 17) rfl))) (mvT hZ (hw _ (List.mem_of_getElem? (i := 18) rfl))) (notFace_of_selects (args := #[]) (mvT hZ (hw _ (List.mem_of_getElem? (i := 20) rfl)))) (mvT hZ (hw _ (List.mem_of_getElem? (i := 20) rfl))) (mvT hZ (hw _ (List.mem_of_getElem? (i := 19) rfl))) (by decide) (backOf (W := 0) (rm1 l Z a0 hw [] w_r w_EQUAL w_NOT_EQUAL h14 n0 (Nat.le_trans (Nat.le_trans (Nat.le_trans (Nat.le_trans (Nat.le_trans (Nat.le_trans (Nat.le_trans Z0 E2.1) (Keep.of_wr W4).1) (Keep.of_wr W6).1) (Keep.of_wr W8).1) (Keep.of_wr W10).1) (Keep.of_wr W12).1) (Keep.of_wr W14).1) (((((((S_EQUAL.ext E2).wr W4).wr W6).wr W8).wr W10).wr W12).wr W14) (((((((S_NOT_EQUAL.ext E2).wr W4).wr W6).wr W8).wr W10).wr W12).wr W14)) hZ (hw _ (List.mem_of_getElem? (i := 21) rfl)) (hw _ (List.mem_of_getElem? (i := 3) rfl)) (by decide) (by decide)) q16a q16c (g := (mkF m 74 #[.val (.int p1), .val (.ref b2), .val (.int ((p1 &&& (2147483647 : Int32)) % (6 : Int32))), .val (.int (0 : Int32))] [(.ref w_r)])) rfl (by rw [hml]; rfl) (Steps.refl _) (argsL := []) (rest := []) (lenOf pd_0_0 rfl) rfl (by show 2 * 0 + _ ≤ _; exact Nat.le_of_eq rfl) (hb hby at_74) (fun _ _ => ⟨rfl, e14, (by decide : 1 + 0 ≤ _), (by decide : 6 + 0 ≤ _)⟩)
  dsimp only [Pt.U, Pt.locs, Pt.cells, Pt.slots] at X16 l16 y16 z16 st16 hQ16
  subst l16 y16 z16
  obtain ⟨rfl, N16q, e16⟩ := hQ16
  have N16 := Fr.app N14 N16q
  obtain ⟨fs, hr, hrun, hended, hW, hsame⟩ := X16.leave (v := some (.int (1 : Int32))) (fun h => by rw [Bd.returns] at h; cases h)
  refine ⟨_, _, pre0 _ ?_, hrun, hended, _, _, rfl, ?_, ⟨_, rfl⟩, hW, hsame.mono (by decide) (by decide)⟩
  · show Steps p.tables e below (s₁.setTop (mkF m 0 #[.val (.int p1), .unset, .unset, .unset] [])) _
    refine XS.bipush X0.here hx rfl (hb hby at_0) ?_
    show Steps p.tables e below (s₁.setTop (mkF m 2 #[.val (.int p1), .unset, .unset, .unset] [(.int (6 : Int32))])) _
    refine st2 _ ?_
    show Steps p.tables e below (T2.setTop (mkF m 5 #[.val (.int p1), .unset, .unset, .unset] [(.ref b2)])) _
    refine XS.dup X2.here hx rfl (hb hby at_5) rfl rfl ?_
    show Steps p.tables e below (T2.setTop (mkF m 6 #[.val (.int p1), .unset, .unset, .unset] [(.ref b2), (.ref b2)])) _
    refine XS.iconst X2.here hx rfl (hb hby at_6) ?_
    show Steps p.tables e below (T2.setTop (mkF m 7 #[.val (.int p1), .unset, .unset, .unset] [(.int (0 : Int32)), (.ref b2), (.ref b2)])) _
    refine st3 _ ?_
    show Steps p.tables e below (T3.setTop (mkF m 10 #[.val (.int p1), .unset, .unset, .unset] [(.ref w_EQUAL), (.int (0 : Int32)), (.ref b2), (.ref b2)])) _
    refine st4 _ ?_
    show Steps p.tables e below (T4.setTop (mkF m 11 #[.val (.int p1), .unset, .unset, .unset] [(.ref b2)])) _
    refine XS.dup X4.here hx rfl (hb hby at_11) rfl rfl ?_
    show Steps p.tables e below (T4.setTop (mkF m 12 #[.val (.int p1), .unset, .unset, .unset] [(.ref b2), (.ref b2)])) _
    refine XS.iconst X4.here hx rfl (hb hby at_12) ?_
    show Steps p.tables e below (T4.setTop (mkF m 13 #[.val (.int p1), .unset, .unset, .unset] [(.int (1 : Int32)), (.ref b2), (.ref b2)])) _
    refine st5 _ ?_
    show Steps p.tables e below (T5.setTop (mkF m 16 #[.val (.int p1), .unset, .unset, .unset] [(.ref w_NOT_EQUAL), (.int (1 : Int32)), (.ref b2), (.ref b2)])) _
    refine st6 _ ?_
    show Steps p.tables e below (T6.setTop (mkF m 17 #[.val (.int p1), .unset, .unset, .unset] [(.ref b2)])) _
    refine XS.dup X6.here hx rfl (hb hby at_17) rfl rfl ?_
    show Steps p.tables e below (T6.setTop (mkF m 18 #[.val (.int p1), .unset, .unset, .unset] [(.ref b2), (.ref b2)])) _
    refine XS.iconst X6.here hx rfl (hb hby at_18) ?_
    show Steps p.tables e below (T6.setTop (mkF m 19 #[.val (.int p1), .unset, .unset, .unset] [(.int (2 : Int32)), (.ref b2), (.ref b2)])) _
    refine st7 _ ?_
    show Steps p.tables e below (T7.setTop (mkF m 22 #[.val (.int p1), .unset, .unset, .unset] [(.ref w_LESS), (.int (2 : Int32)), (.ref b2), (.ref b2)])) _
    refine st8 _ ?_
    show Steps p.tables e below (T8.setTop (mkF m 23 #[.val (.int p1), .unset, .unset, .unset] [(.ref b2)])) _
    refine XS.dup X8.here hx rfl (hb hby at_23) rfl rfl ?_
    show Steps p.tables e below (T8.setTop (mkF m 24 #[.val (.int p1), .unset, .unset, .unset] [(.ref b2), (.ref b2)])) _
    refine XS.iconst X8.here hx rfl (hb hby at_24) ?_
    show Steps p.tables e below (T8.setTop (mkF m 25 #[.val (.int p1), .unset, .unset, .unset] [(.int (3 : Int32)), (.ref b2), (.ref b2)])) _
    refine st9 _ ?_
    show Steps p.tables e below (T9.setTop (mkF m 28 #[.val (.int p1), .unset, .unset, .unset] [(.ref w_GREATER), (.int (3 : Int32)), (.ref b2), (.ref b2)])) _
    refine st10 _ ?_
    show Steps p.tables e below (T10.setTop (mkF m 29 #[.val (.int p1), .unset, .unset, .unset] [(.ref b2)])) _
    refine XS.dup X10.here hx rfl (hb hby at_29) rfl rfl ?_
    show Steps p.tables e below (T10.setTop (mkF m 30 #[.val (.int p1), .unset, .unset, .unset] [(.ref b2), (.ref b2)])) _
    refine XS.iconst X10.here hx rfl (hb hby at_30) ?_
    show Steps p.tables e below (T10.setTop (mkF m 31 #[.val (.int p1), .unset, .unset, .unset] [(.int (4 : Int32)), (.ref b2), (.ref b2)])) _
    refine st11 _ ?_
    show Steps p.tables e below (T11.setTop (mkF m 34 #[.val (.int p1), .unset, .unset, .unset] [(.ref w_LESS_OR_EQUAL), (.int (4 : Int32)), (.ref b2), (.ref b2)])) _
    refine st12 _ ?_
    show Steps p.tables e below (T12.setTop (mkF m 35 #[.val (.int p1), .unset, .unset, .unset] [(.ref b2)])) _
    refine XS.dup X12.here hx rfl (hb hby at_35) rfl rfl ?_
    show Steps p.tables e below (T12.setTop (mkF m 36 #[.val (.int p1), .unset, .unset, .unset] [(.ref b2), (.ref b2)])) _
    refine XS.iconst X12.here hx rfl (hb hby at_36) ?_
    show Steps p.tables e below (T12.setTop (mkF m 37 #[.val (.int p1), .unset, .unset, .unset] [(.int (5 : Int32)), (.ref b2), (.ref b2)])) _
    refine st13 _ ?_
    show Steps p.tables e below (T13.setTop (mkF m 40 #[.val (.int p1), .unset, .unset, .unset] [(.ref w_GREATER_OR_EQUAL), (.int (5 : Int32)), (.ref b2), (.ref b2)])) _
    refine st14 _ ?_
    show Steps p.tables e below (T14.setTop (mkF m 41 #[.val (.int p1), .unset, .unset, .unset] [(.ref b2)])) _
    refine XS.astoreN X14.here hx rfl (hb hby at_41) rfl rfl (l' := #[.val (.int p1), .val (.ref b2), .unset, .unset]) rfl ?_
    show Steps p.tables e below (T14.setTop (mkF m 42 #[.val (.int p1), .val (.ref b2), .unset, .unset] [])) _
    refine XS.iloadN X14.here hx rfl (hb hby at_42) rfl ?_
    show Steps p.tables e below (T14.setTop (mkF m 43 #[.val (.int p1), .val (.ref b2), .unset, .unset] [(.int p1)])) _
    refine X14.ldcInt hx hown (mvT hZ (hw _ (List.mem_of_getElem? (i := 16) rfl))) (g := (mkF m 43 #[.val (.int p1), .val (.ref b2), .unset, .unset] [(.int p1)])) rfl (hb hby at_43) _ ?_
    show Steps p.tables e below (T14.setTop (mkF m 45 #[.val (.int p1), .val (.ref b2), .unset, .unset] [(.int (2147483647 : Int32)), (.int p1)])) _
    refine XS.iand X14.here hx rfl (hb hby at_45) rfl ?_
    show Steps p.tables e below (T14.setTop (mkF m 46 #[.val (.int p1), .val (.ref b2), .unset, .unset] [(.int (p1 &&& (2147483647 : Int32)))])) _
    refine XS.bipush X14.here hx rfl (hb hby at_46) ?_
    show Steps p.tables e below (T14.setTop (mkF m 48 #[.val (.int p1), .val (.ref b2), .unset, .unset] [(.int (6 : Int32)), (.int (p1 &&& (2147483647 : Int32)))])) _
    refine iremM X14 hx rfl (hb hby at_48) rfl (by decide) ?_
    show Steps p.tables e below (T14.setTop (mkF m 49 #[.val (.int p1), .val (.ref b2), .unset, .unset] [(.int ((p1 &&& (2147483647 : Int32)) % (6 : Int32)))])) _
    refine XS.istoreN X14.here hx rfl (hb hby at_49) rfl (l' := #[.val (.int p1), .val (.ref b2), .val (.int ((p1 &&& (2147483647 : Int32)) % (6 : Int32))), .unset]) rfl ?_
    show Steps p.tables e below (T14.setTop (mkF m 50 #[.val (.int p1), .val (.ref b2), .val (.int ((p1 &&& (2147483647 : Int32)) % (6 : Int32))), .unset] [])) _
    refine XS.iloadN X14.here hx rfl (hb hby at_50) rfl ?_
    show Steps p.tables e below (T14.setTop (mkF m 51 #[.val (.int p1), .val (.ref b2), .val (.int ((p1 &&& (2147483647 : Int32)) % (6 : Int32))), .unset] [(.int ((p1 &&& (2147483647 : Int32)) % (6 : Int32)))])) _
    refine XS.ifYes X14.here hx rfl (pc0 := 51) (pc' := 59) rfl (hb hby at_51) rfl ((if0 _ _).trans (feq hc51).2) (by decide) (by decide) ?_
    show Steps p.tables e below (T14.setTop (mkF m 59 #[.val (.int p1), .val (.ref b2), .val (.int ((p1 &&& (2147483647 : Int32)) % (6 : Int32))), .unset] [])) _
    refine XS.iloadN X14.here hx rfl (hb hby at_59) rfl ?_
    show Steps p.tables e below (T14.setTop (mkF m 60 #[.val (.int p1), .val (.ref b2), .val (.int ((p1 &&& (2147483647 : Int32)) % (6 : Int32))), .unset] [(.int ((p1 &&& (2147483647 : Int32)) % (6 : Int32)))])) _
    refine XS.iconst X14.here hx rfl (hb hby at_60) ?_
    show Steps p.tables e below (T14.setTop (mkF m 61 #[.val (.int p1), .val (.ref b2), .val (.int ((p1 &&& (2147483647 : Int32)) % (6 : Int32))), .unset] [(.int (1 : Int32)), (.int ((p1 &&& (2147483647 : Int32)) % (6 : Int32)))])) _
    refine XS.icmpNo X14.here hx rfl (hb hby at_61) rfl (teq hc61).2 ?_
    show Steps p.tables e below (T14.setTop (mkF m 64 #[.val (.int p1), .val (.ref b2), .val (.int ((p1 &&& (2147483647 : Int32)) % (6 : Int32))), .unset] [])) _
    refine XS.iconst X14.here hx rfl (hb hby at_64) ?_
    show Steps p.tables e below (T14.setTop (mkF m 65 #[.val (.int p1), .val (.ref b2), .val (.int ((p1 &&& (2147483647 : Int32)) % (6 : Int32))), .unset] [(.int (0 : Int32))])) _
    refine XS.istoreN X14.here hx rfl (hb hby at_65) rfl (l' := #[.val (.int p1), .val (.ref b2), .val (.int ((p1 &&& (2147483647 : Int32)) % (6 : Int32))), .val (.int (0 : Int32))]) rfl ?_
    show Steps p.tables e below (T14.setTop (mkF m 66 #[.val (.int p1), .val (.ref b2), .val (.int ((p1 &&& (2147483647 : Int32)) % (6 : Int32))), .val (.int (0 : Int32))] [])) _
    refine XS.goto X14.here hx rfl (pc0 := 66) (pc' := 71) rfl (hb hby at_66) (by decide) (by decide) ?_
    show Steps p.tables e below (T14.setTop (mkF m 71 #[.val (.int p1), .val (.ref b2), .val (.int ((p1 &&& (2147483647 : Int32)) % (6 : Int32))), .val (.int (0 : Int32))] [])) _
    refine XS.aloadN X14.here hx rfl (hb hby at_71) rfl rfl ?_
    show Steps p.tables e below (T14.setTop (mkF m 72 #[.val (.int p1), .val (.ref b2), .val (.int ((p1 &&& (2147483647 : Int32)) % (6 : Int32))), .val (.int (0 : Int32))] [(.ref b2)])) _
    refine XS.iloadN X14.here hx rfl (hb hby at_72) rfl ?_
    show Steps p.tables e below (T14.setTop (mkF m 73 #[.val (.int p1), .val (.ref b2), .val (.int ((p1 &&& (2147483647 : Int32)) % (6 : Int32))), .val (.int (0 : Int32))] [(.int ((p1 &&& (2147483647 : Int32)) % (6 : Int32))), (.ref b2)])) _
    refine X14.aaload hx (j := ((p1 &&& (2147483647 : Int32)) % (6 : Int32))) (v := (.ref w_r)) (by rw [e14]; exact Ar_b2_v15.1) (State.isArrayOf_alike hZ.alike Ar_b2_v15.2.1) rfl Ar_b2_v15.2.2 hin_b2_v15 hat_b2_v15 (g := (mkF m 73 #[.val (.int p1), .val (.ref b2), .val (.int ((p1 &&& (2147483647 : Int32)) % (6 : Int32))), .val (.int (0 : Int32))] [(.int ((p1 &&& (2147483647 : Int32)) % (6 : Int32))), (.ref b2)])) rfl rfl (hb hby at_73) _ ?_
    show Steps p.tables e below (T14.setTop (mkF m 74 #[.val (.int p1), .val (.ref b2), .val (.int ((p1 &&& (2147483647 : Int32)) % (6 : Int32))), .val (.int (0 : Int32))] [(.ref w_r)])) _
    refine st16.trans ?_
    show Steps p.tables e below (T16.setTop (mkF m 77 #[.val (.int p1), .val (.ref b2), .val (.int ((p1 &&& (2147483647 : Int32)) % (6 : Int32))), .val (.int (0 : Int32))] [(.int (own_ord w_r w_EQUAL w_NOT_EQUAL))])) _
    refine XS.iloadN X16.here hx rfl (hb hby at_77) rfl ?_
    show Steps p.tables e below (T16.setTop (mkF m 78 #[.val (.int p1), .val (.ref b2), .val (.int ((p1 &&& (2147483647 : Int32)) % (6 : Int32))), .val (.int (0 : Int32))] [(.int (0 : Int32)), (.int (own_ord w_r w_EQUAL w_NOT_EQUAL))])) _
    refine XS.icmpNo X16.here hx rfl (hb hby at_78) rfl (teq hc78).2 ?_
    show Steps p.tables e below (T16.setTop (mkF m 81 #[.val (.int p1), .val (.ref b2), .val (.int ((p1 &&& (2147483647 : Int32)) % (6 : Int32))), .val (.int (0 : Int32))] [])) _
    refine XS.iconst X16.here hx rfl (hb hby at_81) ?_
    show Steps p.tables e below (T16.setTop (mkF m 82 #[.val (.int p1), .val (.ref b2), .val (.int ((p1 &&& (2147483647 : Int32)) % (6 : Int32))), .val (.int (0 : Int32))] [(.int (1 : Int32))])) _
    refine XS.goto X16.here hx rfl (pc0 := 82) (pc' := 86) rfl (hb hby at_82) (by decide) (by decide) ?_
    show Steps p.tables e below (T16.setTop (mkF m 86 #[.val (.int p1), .val (.ref b2), .val (.int ((p1 &&& (2147483647 : Int32)) % (6 : Int32))), .val (.int (0 : Int32))] [(.int (1 : Int32))])) _
    exact retN X16 hx (t := .boolean) Bd.returns (by simp) (hb hby at_86) hr
  · show QL h0 n0 _ T16.heap _
    rw [e16]
    exact ⟨rfl, N16⟩
set_option maxRecDepth 65536 in
set_option maxHeartbeats 40000000 in
theorem rm0_ttf (l : Launch) (Z : State) (a0 : Array Value) (hw : ∀ d ∈ tables_1, d.before a0 Z = true) (ws : List Jvm.Cond) (p1 : Int32) (w_EQUAL : Addr) (w_NOT_EQUAL : Addr) (w_LESS : Addr) (w_GREATER : Addr) (w_LESS_OR_EQUAL : Addr) (w_GREATER_OR_EQUAL : Addr) (w_r : Addr) (h0 : Heap) (n0 : Nat) (Z0 : n0 ≤ h0.size) (S_EQUAL : Sta Z h0 "com/example/bristlecone/bristlecone/strategy/Comparison$Operator" "EQUAL" "Lcom/example/bristlecone/bristlecone/strategy/Comparison$Operator;" (.ref w_EQUAL)) (E_w_EQUAL : Exa Z h0 w_EQUAL "com/example/bristlecone/bristlecone/strategy/Comparison$Operator") (S_NOT_EQUAL : Sta Z h0 "com/example/bristlecone/bristlecone/strategy/Comparison$Operator" "NOT_EQUAL" "Lcom/example/bristlecone/bristlecone/strategy/Comparison$Operator;" (.ref w_NOT_EQUAL)) (E_w_NOT_EQUAL : Exa Z h0 w_NOT_EQUAL "com/example/bristlecone/bristlecone/strategy/Comparison$Operator") (S_LESS : Sta Z h0 "com/example/bristlecone/bristlecone/strategy/Comparison$Operator" "LESS" "Lcom/example/bristlecone/bristlecone/strategy/Comparison$Operator;" (.ref w_LESS)) (E_w_LESS : Exa Z h0 w_LESS "com/example/bristlecone/bristlecone/strategy/Comparison$Operator") (S_GREATER : Sta Z h0 "com/example/bristlecone/bristlecone/strategy/Comparison$Operator" "GREATER" "Lcom/example/bristlecone/bristlecone/strategy/Comparison$Operator;" (.ref w_GREATER)) (E_w_GREATER : Exa Z h0 w_GREATER "com/example/bristlecone/bristlecone/strategy/Comparison$Operator") (S_LESS_OR_EQUAL : Sta Z h0 "com/example/bristlecone/bristlecone/strategy/Comparison$Operator" "LESS_OR_EQUAL" "Lcom/example/bristlecone/bristlecone/strategy/Comparison$Operator;" (.ref w_LESS_OR_EQUAL)) (E_w_LESS_OR_EQUAL : Exa Z h0 w_LESS_OR_EQUAL "com/example/bristlecone/bristlecone/strategy/Comparison$Operator") (S_GREATER_OR_EQUAL : Sta Z h0 "com/example/bristlecone/bristlecone/strategy/Comparison$Operator" "GREATER_OR_EQUAL" "Lcom/example/bristlecone/bristlecone/strategy/Comparison$Operator;" (.ref w_GREATER_OR_EQUAL)) (E_w_GREATER_OR_EQUAL : Exa Z h0 w_GREATER_OR_EQUAL "com/example/bristlecone/bristlecone/strategy/Comparison$Operator") (hij73 : ¬ ((p1 &&& (2147483647 : Int32)) % (6 : Int32)) < 0 ∧ ((p1 &&& (2147483647 : Int32)) % (6 : Int32)) < (6 : Int32)) (hsel73 : List.getD ([(.ref w_EQUAL), (.ref w_NOT_EQUAL), (.ref w_LESS), (.ref w_GREATER), (.ref w_LESS_OR_EQUAL), (.ref w_GREATER_OR_EQUAL)] : List Value) (((p1 &&& (2147483647 : Int32)) % (6 : Int32))).toNatClampNeg .null = .ref w_r) (E_w_r : Exa Z h0 w_r "com/example/bristlecone/bristlecone/strategy/Comparison$Operator") (hc51 : ¬ (((p1 &&& (2147483647 : Int32)) % (6 : Int32)) = (0 : Int32))) (hc61 : ¬ (((p1 &&& (2147483647 : Int32)) % (6 : Int32)) = (1 : Int32))) (hc78 : (own_ord w_r w_EQUAL w_NOT_EQUAL) = (1 : Int32)) :
    MetFree l x (head1 (Jvm.Cond.code x code maxLocals ret :: ws) room_1) (fun a U => a = #[(.int p1)] ∧ Z.Warmed39 U.vm ∧ U.heap = h0) (fun _ _ _ _ _ => True) (fun _ U o U' => ∃ v L, o = .returned v ∧ QL h0 n0 v U'.heap L ∧ FrameEnd U o U' L room_1.cells room_1.slots) := by
  refine MetFree.of_bodySF (plainFor_of_name pn_0) hisR ?_
  intro p e s m args below meth c s₁ Bd hml0 hP hK
  obtain ⟨rfl, hZ, hh⟩ := hP
  have hx := Bd.exec
  have hby := Bd.bytes
  have hml : c.maxLocals = 4 := hml0
  have hown : s.vm.findClass "com/example/bristlecone/bristlecone/strategy/OperatorOrdersPinLaw" = some m.cls := findClass_of_methodNamed Bd.named
  have hnm := (name_of_methodNamed Bd.named Bd.method).1
  have X0 : Stand p l e room_1 s m #[(.int p1)] below meth c s₁ [] 0 0 := Stand.of_body Bd
  have e0 : s₁.heap = h0 := by rw [← hh, Bd.state]; rfl
  have N0 := Fr.nil n0
  have pre0 : ∀ t, Steps p.tables e below (s₁.setTop (mkF m 0 #[.val (.int p1), .unset, .unset, .unset] [])) t → Steps p.tables e below (s₁.setTop (entryFrame m #[(.int p1)] maxLocals)) t := fun t k => castTop (ef_0 m p1) k
  obtain ⟨T2, h2, k2, X2, e2, E2, A2, O2, st2⟩ := newR X0 hx hZ hown (hw _ (List.mem_of_getElem? (i := 0) rfl)) (hw _ (List.mem_of_getElem? (i := 1) rfl)) e0 (g := (mkF m 2 #[.val (.int p1), .unset, .unset, .unset] [(.int (6 : Int32))])) rfl (hb hby at_2) rfl (by decide) (cap := 6) (by decide) (by decide) (by decide) (by decide)
  obtain ⟨b2, g2⟩ : ∃ z, z = h0.size := ⟨_, rfl⟩
  rw [← g2] at A2 st2
  have V_b2 : Arv Z h2 b2 k2 (.object "com/example/bristlecone/bristlecone/strategy/Comparison$Operator") (6 : Int32) [.null, .null, .null, .null, .null, .null] .null := (Arv.new A2 (by decide)).pad (pad_rep [] .null 6)
  skip
  have g_b2 : n0 ≤ b2 := Nat.le_trans Z0 (Nat.le_of_eq g2.symm)
  have sz_b2 : h0.size ≤ b2 := (Nat.le_trans (Keep.refl h0 []).1 (Nat.le_of_eq g2.symm))
  have K2 : Keep h0 h2 [] := (Keep.refl h0 []).ext E2
  obtain ⟨T3, X3, e3, st3⟩ := getS2 X2 hx hZ hown (host := "") (Or.inl (hw _ (List.mem_of_getElem? (i := 2) rfl))) Via.refl e2 (S_EQUAL.ext E2) (g := (mkF m 7 #[.val (.int p1), .unset, .unset, .unset] [(.int (0 : Int32)), (.ref b2), (.ref b2)])) rfl (hb hby at_7)
  obtain ⟨cl_b2_10, Ar_b2, q_b2, S_b2, N_b2, H_b2, G_b2⟩ := V_b2
  have hin10 : ¬ ((0 : Int32) < 0 ∨ cl_b2_10.slots.size ≤ ((0 : Int32)).toNatClampNeg) := inb_of S_b2 ⟨by decide, by decide⟩
  have Sto10 : Sto Z h2 b2 (.ref w_EQUAL) := Sto.ofV Ar_b2 q_b2 O2 (Ins.self (E_w_EQUAL.ext E2))
  obtain ⟨T4, h4, X4, e4, W4, st4⟩ := stR X3 hx hZ e3 Ar_b2 (j := (0 : Int32)) hin10 rfl Sto10 (g := (mkF m 10 #[.val (.int p1), .unset, .unset, .unset] [(.ref w_EQUAL), (.int (0 : Int32)), (.ref b2), (.ref b2)])) rfl rfl (hb hby at_10)
  have V_b2_4 : Arv Z h4 b2 k2 (.object "com/example/bristlecone/bristlecone/strategy/Comparison$Operator") (6 : Int32) [(.ref w_EQUAL), .null, .null, .null, .null, .null] .null := Arv.set Ar_b2 q_b2 S_b2 N_b2 H_b2 G_b2 rfl W4 0 rfl (Nat.le_of_ble_eq_true rfl)
  have K4 : Keep h0 h4 [] := K2.wr W4 (Or.inr sz_b2)
  have N4 := Fr.snoc X4 N0 g_b2
  obtain ⟨T5, X5, e5, st5⟩ := getS2 X4 hx hZ hown (host := "") (Or.inl (hw _ (List.mem_of_getElem? (i := 6) rfl))) Via.refl e4 ((S_NOT_EQUAL.ext E2).wr W4) (g := (mkF m 13 #[.val (.int p1), .unset, .unset, .unset] [(.int (1 : Int32)), (.ref b2), (.ref b2)])) rfl (hb hby at_13)
  obtain ⟨cl_b2_16, Ar_b2, q_b2, S_b2, N_b2, H_b2, G_b2⟩ := V_b2_4
  have hin16 : ¬ ((1 : Int32) < 0 ∨ cl_b2_16.slots.size ≤ ((1 : Int32)).toNatClampNeg) := inb_of S_b2 ⟨by decide, by decide⟩
  have Sto16 : Sto Z h4 b2 (.ref w_NOT_EQUAL) := Sto.ofV Ar_b2 q_b2 O2 (Ins.self ((E_w_NOT_EQUAL.ext E2).wr W4))
  obtain ⟨T6, h6, X6, e6, W6, st6⟩ := stR X5 hx hZ e5 Ar_b2 (j := (1 : Int32)) hin16 rfl Sto16 (g := (mkF m 16 #[.val (.int p1), .unset, .unset, .unset] [(.ref w_NOT_EQUAL), (.int (1 : Int32)), (.ref b2), (.ref b2)])) rfl rfl (hb hby at_16)
  have V_b2_6 : Arv Z h6 b2 k2 (.object "com/example/bristlecone/bristlecone/strategy/Comparison$Operator") (6 : Int32) [(.ref w_EQUAL), (.ref w_NOT_EQUAL), .null, .null, .null, .null] .null := Arv.set Ar_b2 q_b2 S_b2 N_b2 H_b2 G_b2 rfl W6 1 rfl (Nat.le_of_ble_eq_true rfl)
  have K6 : Keep h0 h6 [] := K4.wr W6 (Or.inr sz_b2)
  have N6 := Fr.snoc X6 N4 g_b2
  obtain ⟨T7, X7, e7, st7⟩ := getS2 X6 hx hZ hown (host := "") (Or.inl (hw _ (List.mem_of_getElem? (i := 8) rfl))) Via.refl e6 (((S_LESS.ext E2).wr W4).wr W6) (g := (mkF m 19 #[.val (.int p1), .unset, .unset, .unset] [(.int (2 : Int32)), (.ref b2), (.ref b2)])) rfl (hb hby at_19)
  obtain ⟨cl_b2_22, Ar_b2, q_b2, S_b2, N_b2, H_b2, G_b2⟩ := V_b2_6
  have hin22 : ¬ ((2 : Int32) < 0 ∨ cl_b2_22.slots.size ≤ ((2 : Int32)).toNatClampNeg) := inb_of S_b2 ⟨by decide, by decide⟩
  have Sto22 : Sto Z h6 b2 (.ref w_LESS) := Sto.ofV Ar_b2 q_b2 O2 (Ins.self (((E_w_LESS.ext E2).wr W4).wr W6))
  obtain ⟨T8, h8, X8, e8, W8, st8⟩ := stR X7 hx hZ e7 Ar_b2 (j := (2 : Int32)) hin22 rfl Sto22 (g := (mkF m 22 #[.val (.int p1), .unset, .unset, .unset] [(.ref w_LESS), (.int (2 : Int32)), (.ref b2), (.ref b2)])) rfl rfl (hb hby at_22)
  have V_b2_8 : Arv Z h8 b2 k2 (.object "com/example/bristlecone/bristlecone/strategy/Comparison$Operator") (6 : Int32) [(.ref w_EQUAL), (.ref w_NOT_EQUAL), (.ref w_LESS), .null, .null, .null] .null := Arv.set Ar_b2 q_b2 S_b2 N_b2 H_b2 G_b2 rfl W8 2 rfl (Nat.le_of_ble_eq_true rfl)
  have K8 : Keep h0 h8 [] := K6.wr W8 (Or.inr sz_b2)
  have N8 := Fr.snoc X8 N6 g_b2
  obtain ⟨T9, X9, e9, st9⟩ := getS2 X8 hx hZ hown (host := "") (Or.inl (hw _ (List.mem_of_getElem? (i := 10) rfl))) Via.refl e8 ((((S_GREATER.ext E2).wr W4).wr W6).wr W8) (g := (mkF m 25 #[.val (.int p1), .unset, .unset, .unset] [(.int (3 : Int32)), (.ref b2), (.ref b2)])) rfl (hb hby at_25)
  obtain ⟨cl_b2_28, Ar_b2, q_b2, S_b2, N_b2, H_b2, G_b2⟩ := V_b2_8
  have hin28 : ¬ ((3 : Int32) < 0 ∨ cl_b2_28.slots.size ≤ ((3 : Int32)).toNatClampNeg) := inb_of S_b2 ⟨by decide, by decide⟩
  have Sto28 : Sto Z h8 b2 (.ref w_GREATER) := Sto.ofV Ar_b2 q_b2 O2 (Ins.self ((((E_w_GREATER.ext E2).wr W4).wr W6).wr W8))
  obtain ⟨T10, h10, X10, e10, W10, st10⟩ := stR X9 hx hZ e9 Ar_b2 (j := (3 : Int32)) hin28 rfl Sto28 (g := (mkF m 28 #[.val (.int p1), .unset, .unset, .unset] [(.ref w_GREATER), (.int (3 : Int32)), (.ref b2), (.ref b2)])) rfl rfl (hb hby at_28)
  have V_b2_10 : Arv Z h10 b2 k2 (.object "com/example/bristlecone/bristlecone/strategy/Comparison$Operator") (6 : Int32) [(.ref w_EQUAL), (.ref w_NOT_EQUAL), (.ref w_LESS), (.ref w_GREATER), .null, .null] .null := Arv.set Ar_b2 q_b2 S_b2 N_b2 H_b2 G_b2 rfl W10 3 rfl (Nat.le_of_ble_eq_true rfl)
  have K10 : Keep h0 h10 [] := K8.wr W10 (Or.inr sz_b2)
  have N10 := Fr.snoc X10 N8 g_b2
  obtain ⟨T11, X11, e11, st11⟩ := getS2 X10 hx hZ hown (host := "") (Or.inl (hw _ (List.mem_of_getElem? (i := 12) rfl))) Via.refl e10 (((((S_LESS_OR_EQUAL.ext E2).wr W4).wr W6).wr W8).wr W10) (g := (mkF m 31 #[.val (.int p1), .unset, .unset, .unset] [(.int (4 : Int32)), (.ref b2), (.ref b2)])) rfl (hb hby at_31)
  obtain ⟨cl_b2_34, Ar_b2, q_b2, S_b2, N_b2, H_b2, G_b2⟩ := V_b2_10
  have hin34 : ¬ ((4 : Int32) < 0 ∨ cl_b2_34.slots.size ≤ ((4 : Int32)).toNatClampNeg) := inb_of S_b2 ⟨by decide, by decide⟩
  have Sto34 : Sto Z h10 b2 (.ref w_LESS_OR_EQUAL) := Sto.ofV Ar_b2 q_b2 O2 (Ins.self (((((E_w_LESS_OR_EQUAL.ext E2).wr W4).wr W6).wr W8).wr W10))
  obtain ⟨T12, h12, X12, e12, W12, st12⟩ := stR X11 hx hZ e11 Ar_b2 (j := (4 : Int32)) hin34 rfl Sto34 (g := (mkF m 34 #[.val (.int p1), .unset, .unset, .unset] [(.ref w_LESS_OR_EQUAL), (.int (4 : Int32)), (.ref b2), (.ref b2)])) rfl rfl (hb hby at_34)
  have V_b2_12 : Arv Z h12 b2 k2 (.object "com/example/bristlecone/bristlecone/strategy/Comparison$Operator") (6 : Int32) [(.ref w_EQUAL), (.ref w_NOT_EQUAL), (.ref w_LESS), (.ref w_GREATER), (.ref w_LESS_OR_EQUAL), .null] .null := Arv.set Ar_b2 q_b2 S_b2 N_b2 H_b2 G_b2 rfl W12 4 rfl (Nat.le_of_ble_eq_true rfl)
  have K12 : Keep h0 h12 [] := K10.wr W12 (Or.inr sz_b2)
  have N12 := Fr.snoc X12 N10 g_b2
  obtain ⟨T13, X13, e13, st13⟩ := getS2 X12 hx hZ hown (host := "") (Or.inl (hw _ (List.mem_of_getElem? (i := 14) rfl))) Via.refl e12 ((((((S_GREATER_OR_EQUAL.ext E2).wr W4).wr W6).wr W8).wr W10).wr W12) (g := (mkF m 37 #[.val (.int p1), .unset, .unset, .unset] [(.int (5 : Int32)), (.ref b2), (.ref b2)])) rfl (hb hby at_37)
  obtain ⟨cl_b2_40, Ar_b2, q_b2, S_b2, N_b2, H_b2, G_b2⟩ := V_b2_12
  have hin40 : ¬ ((5 : Int32) < 0 ∨ cl_b2_40.slots.size ≤ ((5 : Int32)).toNatClampNeg) := inb_of S_b2 ⟨by decide, by decide⟩
  have Sto40 : Sto Z h12 b2 (.ref w_GREATER_OR_EQUAL) := Sto.ofV Ar_b2 q_b2 O2 (Ins.self ((((((E_w_GREATER_OR_EQUAL.ext E2).wr W4).wr W6).wr W8).wr W10).wr W12))
  obtain ⟨T14, h14, X14, e14, W14, st14⟩ := stR X13 hx hZ e13 Ar_b2 (j := (5 : Int32)) hin40 rfl Sto40 (g := (mkF m 40 #[.val (.int p1), .unset, .unset, .unset] [(.ref w_GREATER_OR_EQUAL), (.int (5 : Int32)), (.ref b2), (.ref b2)])) rfl rfl (hb hby at_40)
  have V_b2_14 : Arv Z h14 b2 k2 (.object "com/example/bristlecone/bristlecone/strategy/Comparison$Operator") (6 : Int32) [(.ref w_EQUAL), (.ref w_NOT_EQUAL), (.ref w_LESS), (.ref w_GREATER), (.ref w_LESS_OR_EQUAL), (.ref w_GREATER_OR_EQUAL)] .null := Arv.set Ar_b2 q_b2 S_b2 N_b2 H_b2 G_b2 rfl W14 5 rfl (Nat.le_of_ble_eq_true rfl)
  have K14 : Keep h0 h14 [] := K12.wr W14 (Or.inr sz_b2)
  have N14 := Fr.snoc X14 N12 g_b2
  obtain ⟨cl_b2_v15, Ar_b2_v15, q_b2_v15, S_b2_v15, N_b2_v15, H_b2_v15, G_b2_v15⟩ := id V_b2_14
  have hin_b2_v15 : ¬ (((p1 &&& (2147483647 : Int32)) % (6 : Int32)) < 0 ∨ cl_b2_v15.slots.size ≤ (((p1 &&& (2147483647 : Int32)) % (6 : Int32))).toNatClampNeg) := inb_of S_b2_v15 hij73
  have hat_b2_v15 : cl_b2_v15.slots[(((p1 &&& (2147483647 : Int32)) % (6 : Int32))).toNatClampNeg]? = some (.ref w_r) := (H_b2_v15 _ (Nat.lt_of_not_le fun q => hin_b2_v15 (Or.inr q))).trans (congrArg some hsel73)
  obtain ⟨cq16, kq16, q16a, q16b, q16c⟩ := isOf hZ e14 (((((((E_w_r.ext E2).wr W4).wr W6).wr W8).wr W10).wr W12).wr W14)
  obtain ⟨_, _, ⟨T16, L16, k16, n16⟩, -, X16, ⟨Lc16, hQ16, l16, y16, z16⟩, st16⟩ := X14.virtualBack hx (y := (⟨"com/example/bristlecone/bristlecone/strategy/Comparison$Operator", "orders", "()Z"⟩ : MethodName)) (z := (⟨"com/example/bristlecone/bristlecone/strategy/Comparison$Operator", "orders", "()Z"⟩ : MethodName)) hown (mvT hZ (hw _ (List.mem_of_getElem? (i := 17) rfl))) (mvT hZ (hw _ (List.mem_of_getElem? (i := 18) rfl))) (notFace_of_selects (args := #[]) (mvT hZ (hw _ (List.mem_of_getElem? (i := 20) rfl)))) (mvT hZ (hw _ (List.mem_of_getElem? (i := 20) rfl))) (mvT hZ (hw _ (List.mem_of_getElem? (i := 19) rfl))) (by decide) (backOf (W := 0) (rm1 l Z a0 hw [] w_r w_EQUAL w_NOT_EQUAL h14 n0 (Nat.le_trans (Nat.le_trans (Nat.le_trans (Nat.le_trans (Nat.le_trans (Nat.le_trans (Nat.le_trans Z0 E2.1) (Keep.of_wr W4).1) (Keep.of_wr W6).1) (Keep.of_wr W8).1) (Keep.of_wr W10).1) (Keep.of_wr W12).1) (Keep.of_wr W14).1) (((((((S_EQUAL.ext E2).wr W4).wr W6).wr W8).wr W10).wr W12).wr W14) (((((((S_NOT_EQUAL.ext E2).wr W4).wr W6).wr W8).wr W10).wr W12).wr W14)) hZ (hw _ (List.mem_of_getElem? (i := 21) rfl)) (hw _ (List.mem_of_getElem? (i := 3) rfl)) (by decide) (by decide)) q16a q16c (g := (mkF m 74 #[.val (.int p1), .val (.ref b2), .val (.int ((p1 &&& (2147483647 : Int32)) % (6 : Int32))), .val (.int (1 : Int32))] [(.ref w_r)])) rfl (by rw [hml]; rfl) (Steps.refl _) (argsL := []) (rest := []) (lenOf pd_0_0 rfl) rfl (by show 2 * 0 + _ ≤ _; exact Nat.le_of_eq rfl) (hb hby at_74) (fun _ _ => ⟨rfl, e14, (by decide : 1 + 0 ≤ _), (by decide : 6 + 0 ≤ _)⟩)
  dsimp only [Pt.U, Pt.locs, Pt.cells, Pt.slots] at X16 l16 y16 z16 st16 hQ16
  subst l16 y16 z16
  obtain ⟨rfl, N16q, e16⟩ := hQ16
  have N16 := Fr.app N14 N16q
  obtain ⟨fs, hr, hrun, hended, hW, hsame⟩ := X16.leave (v := some (.int (1 : Int32))) (fun h => by rw [Bd.returns] at h; cases h)
  refine ⟨_, _, pre0 _ ?_, hrun, hended, _, _, rfl, ?_, ⟨_, rfl⟩, hW, hsame.mono (by decide) (by decide)⟩
  · show Steps p.tables e below (s₁.setTop (mkF m 0 #[.val (.int p1), .unset, .unset, .unset] [])) _
    refine XS.bipush X0.here hx rfl (hb hby at_0) ?_
    show Steps p.tables e below (s₁.setTop (mkF m 2 #[.val (.int p1), .unset, .unset, .unset] [(.int (6 : Int32))])) _
    refine st2 _ ?_
    show Steps p.tables e below (T2.setTop (mkF m 5 #[.val (.int p1), .unset, .unset, .unset] [(.ref b2)])) _
    refine XS.dup X2.here hx rfl (hb hby at_5) rfl rfl ?_
    show Steps p.tables e below (T2.setTop (mkF m 6 #[.val (.int p1), .unset, .unset, .unset] [(.ref b2), (.ref b2)])) _
    refine XS.iconst X2.here hx rfl (hb hby at_6) ?_
    show Steps p.tables e below (T2.setTop (mkF m 7 #[.val (.int p1), .unset, .unset, .unset] [(.int (0 : Int32)), (.ref b2), (.ref b2)])) _
    refine st3 _ ?_
    show Steps p.tables e below (T3.setTop (mkF m 10 #[.val (.int p1), .unset, .unset, .unset] [(.ref w_EQUAL), (.int (0 : Int32)), (.ref b2), (.ref b2)])) _
    refine st4 _ ?_
    show Steps p.tables e below (T4.setTop (mkF m 11 #[.val (.int p1), .unset, .unset, .unset] [(.ref b2)])) _
    refine XS.dup X4.here hx rfl (hb hby at_11) rfl rfl ?_
    show Steps p.tables e below (T4.setTop (mkF m 12 #[.val (.int p1), .unset, .unset, .unset] [(.ref b2), (.ref b2)])) _
    refine XS.iconst X4.here hx rfl (hb hby at_12) ?_
    show Steps p.tables e below (T4.setTop (mkF m 13 #[.val (.int p1), .unset, .unset, .unset] [(.int (1 : Int32)), (.ref b2), (.ref b2)])) _
    refine st5 _ ?_
    show Steps p.tables e below (T5.setTop (mkF m 16 #[.val (.int p1), .unset, .unset, .unset] [(.ref w_NOT_EQUAL), (.int (1 : Int32)), (.ref b2), (.ref b2)])) _
    refine st6 _ ?_
    show Steps p.tables e below (T6.setTop (mkF m 17 #[.val (.int p1), .unset, .unset, .unset] [(.ref b2)])) _
    refine XS.dup X6.here hx rfl (hb hby at_17) rfl rfl ?_
    show Steps p.tables e below (T6.setTop (mkF m 18 #[.val (.int p1), .unset, .unset, .unset] [(.ref b2), (.ref b2)])) _
    refine XS.iconst X6.here hx rfl (hb hby at_18) ?_
    show Steps p.tables e below (T6.setTop (mkF m 19 #[.val (.int p1), .unset, .unset, .unset] [(.int (2 : Int32)), (.ref b2), (.ref b2)])) _
    refine st7 _ ?_
    show Steps p.tables e below (T7.setTop (mkF m 22 #[.val (.int p1), .unset, .unset, .unset] [(.ref w_LESS), (.int (2 : Int32)), (.ref b2), (.ref b2)])) _
    refine st8 _ ?_
    show Steps p.tables e below (T8.setTop (mkF m 23 #[.val (.int p1), .unset, .unset, .unset] [(.ref b2)])) _
    refine XS.dup X8.here hx rfl (hb hby at_23) rfl rfl ?_
    show Steps p.tables e below (T8.setTop (mkF m 24 #[.val (.int p1), .unset, .unset, .unset] [(.ref b2), (.ref b2)])) _
    refine XS.iconst X8.here hx rfl (hb hby at_24) ?_
    show Steps p.tables e below (T8.setTop (mkF m 25 #[.val (.int p1), .unset, .unset, .unset] [(.int (3 : Int32)), (.ref b2), (.ref b2)])) _
    refine st9 _ ?_
    show Steps p.tables e below (T9.setTop (mkF m 28 #[.val (.int p1), .unset, .unset, .unset] [(.ref w_GREATER), (.int (3 : Int32)), (.ref b2), (.ref b2)])) _
    refine st10 _ ?_
    show Steps p.tables e below (T10.setTop (mkF m 29 #[.val (.int p1), .unset, .unset, .unset] [(.ref b2)])) _
    refine XS.dup X10.here hx rfl (hb hby at_29) rfl rfl ?_
    show Steps p.tables e below (T10.setTop (mkF m 30 #[.val (.int p1), .unset, .unset, .unset] [(.ref b2), (.ref b2)])) _
    refine XS.iconst X10.here hx rfl (hb hby at_30) ?_
    show Steps p.tables e below (T10.setTop (mkF m 31 #[.val (.int p1), .unset, .unset, .unset] [(.int (4 : Int32)), (.ref b2), (.ref b2)])) _
    refine st11 _ ?_
    show Steps p.tables e below (T11.setTop (mkF m 34 #[.val (.int p1), .unset, .unset, .unset] [(.ref w_LESS_OR_EQUAL), (.int (4 : Int32)), (.ref b2), (.ref b2)])) _
    refine st12 _ ?_
    show Steps p.tables e below (T12.setTop (mkF m 35 #[.val (.int p1), .unset, .unset, .unset] [(.ref b2)])) _
    refine XS.dup X12.here hx rfl (hb hby at_35) rfl rfl ?_
    show Steps p.tables e below (T12.setTop (mkF m 36 #[.val (.int p1), .unset, .unset, .unset] [(.ref b2), (.ref b2)])) _
    refine XS.iconst X12.here hx rfl (hb hby at_36) ?_
    show Steps p.tables e below (T12.setTop (mkF m 37 #[.val (.int p1), .unset, .unset, .unset] [(.int (5 : Int32)), (.ref b2), (.ref b2)])) _
    refine st13 _ ?_
    show Steps p.tables e below (T13.setTop (mkF m 40 #[.val (.int p1), .unset, .unset, .unset] [(.ref w_GREATER_OR_EQUAL), (.int (5 : Int32)), (.ref b2), (.ref b2)])) _
    refine st14 _ ?_
    show Steps p.tables e below (T14.setTop (mkF m 41 #[.val (.int p1), .unset, .unset, .unset] [(.ref b2)])) _
    refine XS.astoreN X14.here hx rfl (hb hby at_41) rfl rfl (l' := #[.val (.int p1), .val (.ref b2), .unset, .unset]) rfl ?_
    show Steps p.tables e below (T14.setTop (mkF m 42 #[.val (.int p1), .val (.ref b2), .unset, .unset] [])) _
    refine XS.iloadN X14.here hx rfl (hb hby at_42) rfl ?_
    show Steps p.tables e below (T14.setTop (mkF m 43 #[.val (.int p1), .val (.ref b2), .unset, .unset] [(.int p1)])) _
    refine X14.ldcInt hx hown (mvT hZ (hw _ (List.mem_of_getElem? (i := 16) rfl))) (g := (mkF m 43 #[.val (.int p1), .val (.ref b2), .unset, .unset] [(.int p1)])) rfl (hb hby at_43) _ ?_
    show Steps p.tables e below (T14.setTop (mkF m 45 #[.val (.int p1), .val (.ref b2), .unset, .unset] [(.int (2147483647 : Int32)), (.int p1)])) _
    refine XS.iand X14.here hx rfl (hb hby at_45) rfl ?_
    show Steps p.tables e below (T14.setTop (mkF m 46 #[.val (.int p1), .val (.ref b2), .unset, .unset] [(.int (p1 &&& (2147483647 : Int32)))])) _
    refine XS.bipush X14.here hx rfl (hb hby at_46) ?_
    show Steps p.tables e below (T14.setTop (mkF m 48 #[.val (.int p1), .val (.ref b2), .unset, .unset] [(.int (6 : Int32)), (.int (p1 &&& (2147483647 : Int32)))])) _
    refine iremM X14 hx rfl (hb hby at_48) rfl (by decide) ?_
    show Steps p.tables e below (T14.setTop (mkF m 49 #[.val (.int p1), .val (.ref b2), .unset, .unset] [(.int ((p1 &&& (2147483647 : Int32)) % (6 : Int32)))])) _
    refine XS.istoreN X14.here hx rfl (hb hby at_49) rfl (l' := #[.val (.int p1), .val (.ref b2), .val (.int ((p1 &&& (2147483647 : Int32)) % (6 : Int32))), .unset]) rfl ?_
    show Steps p.tables e below (T14.setTop (mkF m 50 #[.val (.int p1), .val (.ref b2), .val (.int ((p1 &&& (2147483647 : Int32)) % (6 : Int32))), .unset] [])) _
    refine XS.iloadN X14.here hx rfl (hb hby at_50) rfl ?_
    show Steps p.tables e below (T14.setTop (mkF m 51 #[.val (.int p1), .val (.ref b2), .val (.int ((p1 &&& (2147483647 : Int32)) % (6 : Int32))), .unset] [(.int ((p1 &&& (2147483647 : Int32)) % (6 : Int32)))])) _
    refine XS.ifYes X14.here hx rfl (pc0 := 51) (pc' := 59) rfl (hb hby at_51) rfl ((if0 _ _).trans (feq hc51).2) (by decide) (by decide) ?_
    show Steps p.tables e below (T14.setTop (mkF m 59 #[.val (.int p1), .val (.ref b2), .val (.int ((p1 &&& (2147483647 : Int32)) % (6 : Int32))), .unset] [])) _
    refine XS.iloadN X14.here hx rfl (hb hby at_59) rfl ?_
    show Steps p.tables e below (T14.setTop (mkF m 60 #[.val (.int p1), .val (.ref b2), .val (.int ((p1 &&& (2147483647 : Int32)) % (6 : Int32))), .unset] [(.int ((p1 &&& (2147483647 : Int32)) % (6 : Int32)))])) _
    refine XS.iconst X14.here hx rfl (hb hby at_60) ?_
    show Steps p.tables e below (T14.setTop (mkF m 61 #[.val (.int p1), .val (.ref b2), .val (.int ((p1 &&& (2147483647 : Int32)) % (6 : Int32))), .unset] [(.int (1 : Int32)), (.int ((p1 &&& (2147483647 : Int32)) % (6 : Int32)))])) _
    refine XS.icmpYes X14.here hx rfl (pc0 := 61) (pc' := 69) rfl (hb hby at_61) rfl (feq hc61).2 (by decide) (by decide) ?_
    show Steps p.tables e below (T14.setTop (mkF m 69 #[.val (.int p1), .val (.ref b2), .val (.int ((p1 &&& (2147483647 : Int32)) % (6 : Int32))), .unset] [])) _
    refine XS.iconst X14.here hx rfl (hb hby at_69) ?_
    show Steps p.tables e below (T14.setTop (mkF m 70 #[.val (.int p1), .val (.ref b2), .val (.int ((p1 &&& (2147483647 : Int32)) % (6 : Int32))), .unset] [(.int (1 : Int32))])) _
    refine XS.istoreN X14.here hx rfl (hb hby at_70) rfl (l' := #[.val (.int p1), .val (.ref b2), .val (.int ((p1 &&& (2147483647 : Int32)) % (6 : Int32))), .val (.int (1 : Int32))]) rfl ?_
    show Steps p.tables e below (T14.setTop (mkF m 71 #[.val (.int p1), .val (.ref b2), .val (.int ((p1 &&& (2147483647 : Int32)) % (6 : Int32))), .val (.int (1 : Int32))] [])) _
    refine XS.aloadN X14.here hx rfl (hb hby at_71) rfl rfl ?_
    show Steps p.tables e below (T14.setTop (mkF m 72 #[.val (.int p1), .val (.ref b2), .val (.int ((p1 &&& (2147483647 : Int32)) % (6 : Int32))), .val (.int (1 : Int32))] [(.ref b2)])) _
    refine XS.iloadN X14.here hx rfl (hb hby at_72) rfl ?_
    show Steps p.tables e below (T14.setTop (mkF m 73 #[.val (.int p1), .val (.ref b2), .val (.int ((p1 &&& (2147483647 : Int32)) % (6 : Int32))), .val (.int (1 : Int32))] [(.int ((p1 &&& (2147483647 : Int32)) % (6 : Int32))), (.ref b2)])) _
    refine X14.aaload hx (j := ((p1 &&& (2147483647 : Int32)) % (6 : Int32))) (v := (.ref w_r)) (by rw [e14]; exact Ar_b2_v15.1) (State.isArrayOf_alike hZ.alike Ar_b2_v15.2.1) rfl Ar_b2_v15.2.2 hin_b2_v15 hat_b2_v15 (g := (mkF m 73 #[.val (.int p1), .val (.ref b2), .val (.int ((p1 &&& (2147483647 : Int32)) % (6 : Int32))), .val (.int (1 : Int32))] [(.int ((p1 &&& (2147483647 : Int32)) % (6 : Int32))), (.ref b2)])) rfl rfl (hb hby at_73) _ ?_
    show Steps p.tables e below (T14.setTop (mkF m 74 #[.val (.int p1), .val (.ref b2), .val (.int ((p1 &&& (2147483647 : Int32)) % (6 : Int32))), .val (.int (1 : Int32))] [(.ref w_r)])) _
    refine st16.trans ?_
    show Steps p.tables e below (T16.setTop (mkF m 77 #[.val (.int p1), .val (.ref b2), .val (.int ((p1 &&& (2147483647 : Int32)) % (6 : Int32))), .val (.int (1 : Int32))] [(.int (own_ord w_r w_EQUAL w_NOT_EQUAL))])) _
    refine XS.iloadN X16.here hx rfl (hb hby at_77) rfl ?_
    show Steps p.tables e below (T16.setTop (mkF m 78 #[.val (.int p1), .val (.ref b2), .val (.int ((p1 &&& (2147483647 : Int32)) % (6 : Int32))), .val (.int (1 : Int32))] [(.int (1 : Int32)), (.int (own_ord w_r w_EQUAL w_NOT_EQUAL))])) _
    refine XS.icmpNo X16.here hx rfl (hb hby at_78) rfl (teq hc78).2 ?_
    show Steps p.tables e below (T16.setTop (mkF m 81 #[.val (.int p1), .val (.ref b2), .val (.int ((p1 &&& (2147483647 : Int32)) % (6 : Int32))), .val (.int (1 : Int32))] [])) _
    refine XS.iconst X16.here hx rfl (hb hby at_81) ?_
    show Steps p.tables e below (T16.setTop (mkF m 82 #[.val (.int p1), .val (.ref b2), .val (.int ((p1 &&& (2147483647 : Int32)) % (6 : Int32))), .val (.int (1 : Int32))] [(.int (1 : Int32))])) _
    refine XS.goto X16.here hx rfl (pc0 := 82) (pc' := 86) rfl (hb hby at_82) (by decide) (by decide) ?_
    show Steps p.tables e below (T16.setTop (mkF m 86 #[.val (.int p1), .val (.ref b2), .val (.int ((p1 &&& (2147483647 : Int32)) % (6 : Int32))), .val (.int (1 : Int32))] [(.int (1 : Int32))])) _
    exact retN X16 hx (t := .boolean) Bd.returns (by simp) (hb hby at_86) hr
  · show QL h0 n0 _ T16.heap _
    rw [e16]
    exact ⟨rfl, N16⟩
theorem rm0 (l : Launch) (Z : State) (a0 : Array Value) (hw : ∀ d ∈ tables_1, d.before a0 Z = true) (ws : List Jvm.Cond) (p1 : Int32) (w_EQUAL : Addr) (w_NOT_EQUAL : Addr) (w_LESS : Addr) (w_GREATER : Addr) (w_LESS_OR_EQUAL : Addr) (w_GREATER_OR_EQUAL : Addr) (h0 : Heap) (n0 : Nat) (Z0 : n0 ≤ h0.size) (S_EQUAL : Sta Z h0 "com/example/bristlecone/bristlecone/strategy/Comparison$Operator" "EQUAL" "Lcom/example/bristlecone/bristlecone/strategy/Comparison$Operator;" (.ref w_EQUAL)) (S_NOT_EQUAL : Sta Z h0 "com/example/bristlecone/bristlecone/strategy/Comparison$Operator" "NOT_EQUAL" "Lcom/example/bristlecone/bristlecone/strategy/Comparison$Operator;" (.ref w_NOT_EQUAL)) (S_LESS : Sta Z h0 "com/example/bristlecone/bristlecone/strategy/Comparison$Operator" "LESS" "Lcom/example/bristlecone/bristlecone/strategy/Comparison$Operator;" (.ref w_LESS)) (S_GREATER : Sta Z h0 "com/example/bristlecone/bristlecone/strategy/Comparison$Operator" "GREATER" "Lcom/example/bristlecone/bristlecone/strategy/Comparison$Operator;" (.ref w_GREATER)) (S_LESS_OR_EQUAL : Sta Z h0 "com/example/bristlecone/bristlecone/strategy/Comparison$Operator" "LESS_OR_EQUAL" "Lcom/example/bristlecone/bristlecone/strategy/Comparison$Operator;" (.ref w_LESS_OR_EQUAL)) (S_GREATER_OR_EQUAL : Sta Z h0 "com/example/bristlecone/bristlecone/strategy/Comparison$Operator" "GREATER_OR_EQUAL" "Lcom/example/bristlecone/bristlecone/strategy/Comparison$Operator;" (.ref w_GREATER_OR_EQUAL)) (E_w_EQUAL : Exa Z h0 w_EQUAL "com/example/bristlecone/bristlecone/strategy/Comparison$Operator") (E_w_NOT_EQUAL : Exa Z h0 w_NOT_EQUAL "com/example/bristlecone/bristlecone/strategy/Comparison$Operator") (E_w_LESS : Exa Z h0 w_LESS "com/example/bristlecone/bristlecone/strategy/Comparison$Operator") (E_w_GREATER : Exa Z h0 w_GREATER "com/example/bristlecone/bristlecone/strategy/Comparison$Operator") (E_w_LESS_OR_EQUAL : Exa Z h0 w_LESS_OR_EQUAL "com/example/bristlecone/bristlecone/strategy/Comparison$Operator") (E_w_GREATER_OR_EQUAL : Exa Z h0 w_GREATER_OR_EQUAL "com/example/bristlecone/bristlecone/strategy/Comparison$Operator") (ne_NOT_EQUAL_EQUAL : ¬ (w_NOT_EQUAL = w_EQUAL)) (ne_LESS_EQUAL : ¬ (w_LESS = w_EQUAL)) (ne_LESS_NOT_EQUAL : ¬ (w_LESS = w_NOT_EQUAL)) (ne_GREATER_EQUAL : ¬ (w_GREATER = w_EQUAL)) (ne_GREATER_NOT_EQUAL : ¬ (w_GREATER = w_NOT_EQUAL)) (ne_LESS_OR_EQUAL_EQUAL : ¬ (w_LESS_OR_EQUAL = w_EQUAL)) (ne_LESS_OR_EQUAL_NOT_EQUAL : ¬ (w_LESS_OR_EQUAL = w_NOT_EQUAL)) (ne_GREATER_OR_EQUAL_EQUAL : ¬ (w_GREATER_OR_EQUAL = w_EQUAL)) (ne_GREATER_OR_EQUAL_NOT_EQUAL : ¬ (w_GREATER_OR_EQUAL = w_NOT_EQUAL)) :
    MetFree l x (head1 (Jvm.Cond.code x code maxLocals ret :: ws) room_1) (fun a U => a = #[(.int p1)] ∧ Z.Warmed39 U.vm ∧ U.heap = h0) (fun _ _ _ _ _ => True) (fun _ U o U' => ∃ v L, o = .returned v ∧ QL h0 n0 v U'.heap L ∧ FrameEnd U o U' L room_1.cells room_1.slots) := by
  obtain ⟨j, e⟩ := own_fin p1 6 6 (by decide) (by decide)
  match j, e with
  | ⟨0, _⟩, e => replace e := e.trans (show _ = Int32.ofInt ((0 : Nat) : Int) from rfl); exact rm0_ff l Z a0 hw ws p1 w_EQUAL w_NOT_EQUAL w_LESS w_GREATER w_LESS_OR_EQUAL w_GREATER_OR_EQUAL w_EQUAL h0 n0 Z0 S_EQUAL E_w_EQUAL S_NOT_EQUAL E_w_NOT_EQUAL S_LESS E_w_LESS S_GREATER E_w_GREATER S_LESS_OR_EQUAL E_w_LESS_OR_EQUAL S_GREATER_OR_EQUAL E_w_GREATER_OR_EQUAL (by rw [e]; exact ⟨by decide, by decide⟩) (by rw [e]; rfl) E_w_EQUAL (by rw [e]; decide) (by unfold own_ord; rw [if_pos rfl])
  | ⟨1, _⟩, e => replace e := e.trans (show _ = Int32.ofInt ((1 : Nat) : Int) from rfl); exact rm0_tff l Z a0 hw ws p1 w_EQUAL w_NOT_EQUAL w_LESS w_GREATER w_LESS_OR_EQUAL w_GREATER_OR_EQUAL w_NOT_EQUAL h0 n0 Z0 S_EQUAL E_w_EQUAL S_NOT_EQUAL E_w_NOT_EQUAL S_LESS E_w_LESS S_GREATER E_w_GREATER S_LESS_OR_EQUAL E_w_LESS_OR_EQUAL S_GREATER_OR_EQUAL E_w_GREATER_OR_EQUAL (by rw [e]; exact ⟨by decide, by decide⟩) (by rw [e]; rfl) E_w_NOT_EQUAL (by rw [e]; decide) (by rw [e]; decide) (by unfold own_ord; rw [if_neg ne_NOT_EQUAL_EQUAL, if_pos rfl])
  | ⟨2, _⟩, e => replace e := e.trans (show _ = Int32.ofInt ((2 : Nat) : Int) from rfl); exact rm0_ttf l Z a0 hw ws p1 w_EQUAL w_NOT_EQUAL w_LESS w_GREATER w_LESS_OR_EQUAL w_GREATER_OR_EQUAL w_LESS h0 n0 Z0 S_EQUAL E_w_EQUAL S_NOT_EQUAL E_w_NOT_EQUAL S_LESS E_w_LESS S_GREATER E_w_GREATER S_LESS_OR_EQUAL E_w_LESS_OR_EQUAL S_GREATER_OR_EQUAL E_w_GREATER_OR_EQUAL (by rw [e]; exact ⟨by decide, by decide⟩) (by rw [e]; rfl) E_w_LESS (by rw [e]; decide) (by rw [e]; decide) (by unfold own_ord; rw [if_neg ne_LESS_EQUAL, if_neg ne_LESS_NOT_EQUAL])
  | ⟨3, _⟩, e => replace e := e.trans (show _ = Int32.ofInt ((3 : Nat) : Int) from rfl); exact rm0_ttf l Z a0 hw ws p1 w_EQUAL w_NOT_EQUAL w_LESS w_GREATER w_LESS_OR_EQUAL w_GREATER_OR_EQUAL w_GREATER h0 n0 Z0 S_EQUAL E_w_EQUAL S_NOT_EQUAL E_w_NOT_EQUAL S_LESS E_w_LESS S_GREATER E_w_GREATER S_LESS_OR_EQUAL E_w_LESS_OR_EQUAL S_GREATER_OR_EQUAL E_w_GREATER_OR_EQUAL (by rw [e]; exact ⟨by decide, by decide⟩) (by rw [e]; rfl) E_w_GREATER (by rw [e]; decide) (by rw [e]; decide) (by unfold own_ord; rw [if_neg ne_GREATER_EQUAL, if_neg ne_GREATER_NOT_EQUAL])
  | ⟨4, _⟩, e => replace e := e.trans (show _ = Int32.ofInt ((4 : Nat) : Int) from rfl); exact rm0_ttf l Z a0 hw ws p1 w_EQUAL w_NOT_EQUAL w_LESS w_GREATER w_LESS_OR_EQUAL w_GREATER_OR_EQUAL w_LESS_OR_EQUAL h0 n0 Z0 S_EQUAL E_w_EQUAL S_NOT_EQUAL E_w_NOT_EQUAL S_LESS E_w_LESS S_GREATER E_w_GREATER S_LESS_OR_EQUAL E_w_LESS_OR_EQUAL S_GREATER_OR_EQUAL E_w_GREATER_OR_EQUAL (by rw [e]; exact ⟨by decide, by decide⟩) (by rw [e]; rfl) E_w_LESS_OR_EQUAL (by rw [e]; decide) (by rw [e]; decide) (by unfold own_ord; rw [if_neg ne_LESS_OR_EQUAL_EQUAL, if_neg ne_LESS_OR_EQUAL_NOT_EQUAL])
  | ⟨5, _⟩, e => replace e := e.trans (show _ = Int32.ofInt ((5 : Nat) : Int) from rfl); exact rm0_ttf l Z a0 hw ws p1 w_EQUAL w_NOT_EQUAL w_LESS w_GREATER w_LESS_OR_EQUAL w_GREATER_OR_EQUAL w_GREATER_OR_EQUAL h0 n0 Z0 S_EQUAL E_w_EQUAL S_NOT_EQUAL E_w_NOT_EQUAL S_LESS E_w_LESS S_GREATER E_w_GREATER S_LESS_OR_EQUAL E_w_LESS_OR_EQUAL S_GREATER_OR_EQUAL E_w_GREATER_OR_EQUAL (by rw [e]; exact ⟨by decide, by decide⟩) (by rw [e]; rfl) E_w_GREATER_OR_EQUAL (by rw [e]; decide) (by rw [e]; decide) (by unfold own_ord; rw [if_neg ne_GREATER_OR_EQUAL_EQUAL, if_neg ne_GREATER_OR_EQUAL_NOT_EQUAL])
set_option maxRecDepth 65536 in
set_option maxHeartbeats 40000000 in
theorem comes_1 {Post : Tables → Env → Array Value → State → Outcome → State → Prop} (hpost : ∀ tb e args s v u, (limb_1_1.after args s (.returned v) u = true ∧ limb_1_2.after args s (.returned v) u = true ∧ True) → FrameEnd s (.returned v) u (Jvm.fieldLocs frame_1_writes args s ++ Jvm.arrayLocs frame_1_arrays args s ++ Jvm.staticLocs frame_1_statics s) 16 128 → Post tb e args s (.returned v) u) :
    ArmFor flags0 classFile x code maxLocals ret World_1 tables_1 room_1 Calls_1 rest_1 Pre_1 Post := by
  intro l hfl _ _ p e ha hc hk s m args below hf hA hF happ hP
  obtain ⟨hcalls, hrest, hpre⟩ := hP
  obtain ⟨-, -, -, hnamed, -, -, -, hat⟩ := (Spec.applies_iff hf).mp happ
  obtain ⟨hg, hn⟩ := and_e (Cond.before_iff.mp (show (Jvm.Cond.and given_1 narrow_1).before args s = true from hpre))
  obtain ⟨g17, g18⟩ := and_e hg
  obtain ⟨w0, rfl⟩ : ∃ w0 : Value, args = #[w0] := by
    have hs : args.size = 1 := by simpa [Cond.value, given_1] using g17
    obtain ⟨L⟩ := args
    match L, hs with
    | [w0], _ => exact ⟨w0, rfl⟩
  have hw := fun d (hd : d ∈ tables_1) => atoms_spec (ws := Jvm.Cond.code x code maxLocals ret :: tables_1) hat d (List.mem_cons_of_mem _ hd)
  have hfit : Fit s := fun {y c} hc i hi => by
    obtain ⟨ha, rfl⟩ := Array.getElem?_eq_some_iff.mp hc
    have q := List.all_eq_true.mp ((Array.all_eq_true_iff_forall_mem.mp hF) _ (Array.getElem_mem ha)) i (List.mem_range.mpr hi)
    simpa [Array.getElem?_eq_getElem hi] using q
  obtain ⟨i0, ei0⟩ := is_v g18
  obtain rfl : w0 = (.int i0) := Option.some.inj ei0
  obtain ⟨k0, hn⟩ := and_e hn
  obtain ⟨w_EQUAL, ev_EQUAL⟩ := exa_v k0
  have E_w_EQUAL := Exa.start ev_EQUAL k0
  have S_EQUAL := Sta.start ev_EQUAL (Or.inr ⟨(hw _ (List.mem_of_getElem? (i := 3) rfl)), (hw _ (List.mem_of_getElem? (i := 4) rfl))⟩)
  obtain ⟨k1, hn⟩ := and_e hn
  obtain ⟨w_NOT_EQUAL, ev_NOT_EQUAL⟩ := exa_v k1
  have E_w_NOT_EQUAL := Exa.start ev_NOT_EQUAL k1
  have S_NOT_EQUAL := Sta.start ev_NOT_EQUAL (Or.inr ⟨(hw _ (List.mem_of_getElem? (i := 3) rfl)), (hw _ (List.mem_of_getElem? (i := 7) rfl))⟩)
  obtain ⟨k2, hn⟩ := and_e hn
  obtain ⟨w_LESS, ev_LESS⟩ := exa_v k2
  have E_w_LESS := Exa.start ev_LESS k2
  have S_LESS := Sta.start ev_LESS (Or.inr ⟨(hw _ (List.mem_of_getElem? (i := 3) rfl)), (hw _ (List.mem_of_getElem? (i := 9) rfl))⟩)
  obtain ⟨k3, hn⟩ := and_e hn
  obtain ⟨w_GREATER, ev_GREATER⟩ := exa_v k3
  have E_w_GREATER := Exa.start ev_GREATER k3
  have S_GREATER := Sta.start ev_GREATER (Or.inr ⟨(hw _ (List.mem_of_getElem? (i := 3) rfl)), (hw _ (List.mem_of_getElem? (i := 11) rfl))⟩)
  obtain ⟨k4, hn⟩ := and_e hn
  obtain ⟨w_LESS_OR_EQUAL, ev_LESS_OR_EQUAL⟩ := exa_v k4
  have E_w_LESS_OR_EQUAL := Exa.start ev_LESS_OR_EQUAL k4
  have S_LESS_OR_EQUAL := Sta.start ev_LESS_OR_EQUAL (Or.inr ⟨(hw _ (List.mem_of_getElem? (i := 3) rfl)), (hw _ (List.mem_of_getElem? (i := 13) rfl))⟩)
  obtain ⟨k5, hn⟩ := and_e hn
  obtain ⟨w_GREATER_OR_EQUAL, ev_GREATER_OR_EQUAL⟩ := exa_v k5
  have E_w_GREATER_OR_EQUAL := Exa.start ev_GREATER_OR_EQUAL k5
  have S_GREATER_OR_EQUAL := Sta.start ev_GREATER_OR_EQUAL (Or.inr ⟨(hw _ (List.mem_of_getElem? (i := 3) rfl)), (hw _ (List.mem_of_getElem? (i := 15) rfl))⟩)
  obtain ⟨k6, hn⟩ := and_e hn
  have o_GREATER := own_eqint k6
  obtain ⟨k7, hn⟩ := and_e hn
  have o_EQUAL := own_eqint k7
  obtain ⟨k8, hn⟩ := and_e hn
  have o_NOT_EQUAL := own_eqint k8
  obtain ⟨k9, hn⟩ := and_e hn
  have o_LESS := own_eqint k9
  obtain ⟨k10, hn⟩ := and_e hn
  have o_GREATER_OR_EQUAL := own_eqint k10
  have k11 := hn
  have o_LESS_OR_EQUAL := own_eqint k11
  have ne_NOT_EQUAL_EQUAL : ¬ (w_NOT_EQUAL = w_EQUAL) := own_ne ev_NOT_EQUAL ev_EQUAL o_NOT_EQUAL o_EQUAL (by decide)
  have ne_LESS_EQUAL : ¬ (w_LESS = w_EQUAL) := own_ne ev_LESS ev_EQUAL o_LESS o_EQUAL (by decide)
  have ne_LESS_NOT_EQUAL : ¬ (w_LESS = w_NOT_EQUAL) := own_ne ev_LESS ev_NOT_EQUAL o_LESS o_NOT_EQUAL (by decide)
  have ne_GREATER_EQUAL : ¬ (w_GREATER = w_EQUAL) := own_ne ev_GREATER ev_EQUAL o_GREATER o_EQUAL (by decide)
  have ne_GREATER_NOT_EQUAL : ¬ (w_GREATER = w_NOT_EQUAL) := own_ne ev_GREATER ev_NOT_EQUAL o_GREATER o_NOT_EQUAL (by decide)
  have ne_LESS_OR_EQUAL_EQUAL : ¬ (w_LESS_OR_EQUAL = w_EQUAL) := own_ne ev_LESS_OR_EQUAL ev_EQUAL o_LESS_OR_EQUAL o_EQUAL (by decide)
  have ne_LESS_OR_EQUAL_NOT_EQUAL : ¬ (w_LESS_OR_EQUAL = w_NOT_EQUAL) := own_ne ev_LESS_OR_EQUAL ev_NOT_EQUAL o_LESS_OR_EQUAL o_NOT_EQUAL (by decide)
  have ne_GREATER_OR_EQUAL_EQUAL : ¬ (w_GREATER_OR_EQUAL = w_EQUAL) := own_ne ev_GREATER_OR_EQUAL ev_EQUAL o_GREATER_OR_EQUAL o_EQUAL (by decide)
  have ne_GREATER_OR_EQUAL_NOT_EQUAL : ¬ (w_GREATER_OR_EQUAL = w_NOT_EQUAL) := own_ne ev_GREATER_OR_EQUAL ev_NOT_EQUAL o_GREATER_OR_EQUAL o_NOT_EQUAL (by decide)
  obtain ⟨n, o, h1, h2, h3, _, L, rfl, ⟨rfl, N⟩, hq⟩ := rm0 l s _ hw tables_1 i0 w_EQUAL w_NOT_EQUAL w_LESS w_GREATER w_LESS_OR_EQUAL w_GREATER_OR_EQUAL s.heap s.heap.size (Nat.le_refl _) S_EQUAL S_NOT_EQUAL S_LESS S_GREATER S_LESS_OR_EQUAL S_GREATER_OR_EQUAL E_w_EQUAL E_w_NOT_EQUAL E_w_LESS E_w_GREATER E_w_LESS_OR_EQUAL E_w_GREATER_OR_EQUAL ne_NOT_EQUAL_EQUAL ne_LESS_EQUAL ne_LESS_NOT_EQUAL ne_GREATER_EQUAL ne_GREATER_NOT_EQUAL ne_LESS_OR_EQUAL_EQUAL ne_LESS_OR_EQUAL_NOT_EQUAL ne_GREATER_OR_EQUAL_EQUAL ne_GREATER_OR_EQUAL_NOT_EQUAL p e ha hc hk s m _ below hf ((Spec.applies_iff_loose hf).mp happ).1 ⟨rfl, State.Warmed39.refl s, rfl⟩ trivial
  refine ⟨n, _, h1, h2, h3, hpost _ _ _ _ _ _ ⟨Cond.after_iff.mpr rfl, Cond.after_iff.mpr (eq_i res_at (Term.int_eval (1)) rfl), trivial⟩ ⟨hq.1, hq.2.1, (hq.2.2.sift fun y hy => Or.inr (N y hy)).mono (by decide) (by decide)⟩⟩
theorem main_1_1 : Claimed_1_1 := comes_1 fun _ _ _ _ _ _ h hF => ⟨h.1, hF⟩
theorem main_1_2 : Claimed_1_2 := comes_1 fun _ _ _ _ _ _ h hF => ⟨h.2.1, hF⟩
end Jvm.Pilot.@@N@@
namespace Jvm.Pilot.@@N@@
open Jvm Jvm.ClassFile Sem Op Lib Jvm.Free Jvm.Stand Jvm.Pilot.@@N@@.Jvm.D
/-! MADE BY PROGRAM (witnessworld.py) out of the Statement's table words and the real class files: 13 classes; the members and pool entries that the words name. The judged class is class 1, her method 1. -/
namespace start1
open Jvm.ClassFile
def u (s : String) : CpInfo := .utf8 (stringToUtf16 s)
/-- a pool by its gaps: so many unusable entries, then the entry; so many at the end -/
def gap : Nat → List CpInfo → List CpInfo
  | 0, r => r
  | n + 1, r => .unusable :: gap n r
def poolList (es : List (Nat × CpInfo)) (last : Nat) : List CpInfo := es.foldr (fun e r => gap e.1 (e.2 :: r)) (gap last [])
def pool (es : List (Nat × CpInfo)) (last : Nat) : Array CpInfo := ⟨poolList es last⟩
def fileOf (pool : Array CpInfo) (this : Nat) (attrs : Array Attribute := #[]) (ms : Array MethodInfo := #[]) (fl : Nat := 33) (sup : Nat := 0) (ifs : Array Nat := #[]) (fds : Array FieldInfo := #[]) : ClassFile where
  minorVersion := 0
  majorVersion := 65
  constantPool := pool
  accessFlags := fl
  thisClass := this
  superClass := sup
  interfaces := ifs
  fields := fds
  methods := ms
  attributes := attrs
def plain (name : String) (sup : Option ClassId) : Class where
  name := name
  kind := .ordinary
  loader := none
  accessFlags := 33
  super := sup
  interfaces := #[]
  cf := none
  fields := #[]
  methods := #[]
  instanceTypes := #[]
  staticTypes := #[]
  resolved := #[]
  callSites := []
  init := .initialized
  statics := none
  mirror := none

def pool0 : Array CpInfo := pool [(5, u "<init>"), (0, u "()V"), (1, .class_ 10), (1, u "java/lang/Object")] 113

def k0m0 : Method := { name := "<init>", desc := "()V", sig := { parameters := [], returnType := none }, accessFlags := 1, code := none }
/-- java/lang/Object -/
def k0 : Class := { plain "java/lang/Object" none with
  accessFlags := 33
  interfaces := #[]
  cf := some (fileOf pool0 8 #[] #[{ accessFlags := 1, nameIndex := 5, descriptorIndex := 6, attributes := #[] }] 33 0 #[] #[])
  fields := #[]
  methods := #[k0m0]
  instanceTypes := #[]
  staticTypes := #[]
  resolved := Array.replicate 124 none
  statics := none }

def pool1 : Array CpInfo := pool [(2, .class_ 4), (1, u "java/lang/Object"), (0, u "<init>"), (0, u "()V"), (0, .class_ 8), (0, u "com/example/bristlecone/bristlecone/strategy/Comparison$Operator"), (0, .fieldref 7 10), (0, .nameAndType 11 12), (0, u "EQUAL"), (0, u "Lcom/example/bristlecone/bristlecone/strategy/Comparison$Operator;"), (0, .fieldref 7 14), (0, .nameAndType 15 12), (0, u "NOT_EQUAL"), (0, .fieldref 7 17), (0, .nameAndType 18 12), (0, u "LESS"), (0, .fieldref 7 20), (0, .nameAndType 21 12), (0, u "GREATER"), (0, .fieldref 7 23), (0, .nameAndType 24 12), (0, u "LESS_OR_EQUAL"), (0, .fieldref 7 26), (0, .nameAndType 27 12), (0, u "GREATER_OR_EQUAL"), (0, .integer 2147483647), (0, .methodref 7 30), (0, .nameAndType 31 32), (0, u "orders"), (0, u "()Z"), (0, .class_ 34), (0, u "com/example/bristlecone/bristlecone/strategy/OperatorOrdersPinLaw"), (2, u "law"), (0, u "(I)Z")] 9

def k1m0 : Method := { name := "<init>", desc := "()V", sig := { parameters := [], returnType := none }, accessFlags := 2, code := none }
def k1c1 : Code := { maxStack := 4, maxLocals := 4, code := code, exceptionTable := #[], attributes := #[] }
def k1m1 : Method := { name := "law", desc := "(I)Z", sig := { parameters := [.int], returnType := some .boolean }, accessFlags := 9, code := some k1c1 }
/-- com/example/bristlecone/bristlecone/strategy/OperatorOrdersPinLaw -/
def k1 : Class := { plain "com/example/bristlecone/bristlecone/strategy/OperatorOrdersPinLaw" (some 0) with
  accessFlags := 49
  interfaces := #[]
  cf := some (fileOf pool1 33 #[] #[{ accessFlags := 2, nameIndex := 5, descriptorIndex := 6, attributes := #[] }, { accessFlags := 9, nameIndex := 37, descriptorIndex := 38, attributes := #[] }] 49 2 #[] #[])
  fields := #[]
  methods := #[k1m0, k1m1]
  instanceTypes := #[]
  staticTypes := #[]
  resolved := Array.replicate 48 none
  statics := none }

def pool2 : Array CpInfo := pool [(1, .class_ 2), (0, u "java/lang/constant/Constable"), (0, .class_ 4), (0, u "java/lang/Object")] 6

/-- java/lang/constant/Constable -/
def k2 : Class := { plain "java/lang/constant/Constable" (some 0) with
  accessFlags := 1537
  interfaces := #[]
  cf := some (fileOf pool2 1 #[] #[] 1537 3 #[] #[])
  fields := #[]
  methods := #[]
  instanceTypes := #[]
  staticTypes := #[]
  resolved := Array.replicate 11 none
  statics := none }

def pool3 : Array CpInfo := pool [(1, .class_ 2), (0, u "java/lang/Comparable"), (0, .class_ 4), (0, u "java/lang/Object")] 7

/-- java/lang/Comparable -/
def k3 : Class := { plain "java/lang/Comparable" (some 0) with
  accessFlags := 1537
  interfaces := #[]
  cf := some (fileOf pool3 1 #[] #[] 1537 3 #[] #[])
  fields := #[]
  methods := #[]
  instanceTypes := #[]
  staticTypes := #[]
  resolved := Array.replicate 12 none
  statics := none }

def pool4 : Array CpInfo := pool [(1, .class_ 2), (0, u "java/io/Serializable"), (0, .class_ 4), (0, u "java/lang/Object")] 2

/-- java/io/Serializable -/
def k4 : Class := { plain "java/io/Serializable" (some 0) with
  accessFlags := 1537
  interfaces := #[]
  cf := some (fileOf pool4 1 #[] #[] 1537 3 #[] #[])
  fields := #[]
  methods := #[]
  instanceTypes := #[]
  staticTypes := #[]
  resolved := Array.replicate 7 none
  statics := none }

def pool5 : Array CpInfo := pool [(2, .class_ 4), (1, u "java/lang/Enum"), (0, u "name"), (0, u "Ljava/lang/String;"), (2, u "ordinal"), (0, u "I"), (1, .class_ 14), (1, u "java/lang/Object"), (4, u "hash"), (86, .class_ 108), (1, u "java/lang/Enum$EnumDesc"), (2, .class_ 112), (0, u "java/lang/constant/Constable"), (0, .class_ 114), (0, u "java/lang/Comparable"), (0, .class_ 116), (0, u "java/io/Serializable")] 87

/-- java/lang/Enum -/
def k5 : Class := { plain "java/lang/Enum" (some 0) with
  accessFlags := 1057
  interfaces := #[2, 3, 4]
  cf := some (fileOf pool5 2 #[.nestMembers #[106]] #[] 1057 12 #[111, 113, 115] #[{ accessFlags := 18, nameIndex := 5, descriptorIndex := 6, attributes := #[] }, { accessFlags := 18, nameIndex := 9, descriptorIndex := 10, attributes := #[] }, { accessFlags := 2, nameIndex := 19, descriptorIndex := 10, attributes := #[] }])
  fields := #[{ name := "name", type := (.object "java/lang/String"), accessFlags := 18, slot := 0, constantValue := 0 }, { name := "ordinal", type := .int, accessFlags := 18, slot := 1, constantValue := 0 }, { name := "hash", type := .int, accessFlags := 2, slot := 2, constantValue := 0 }]
  methods := #[]
  instanceTypes := #[(.object "java/lang/String"), .int, .int]
  staticTypes := #[]
  resolved := Array.replicate 204 none
  statics := none }

def pool6 : Array CpInfo := pool [(1, .class_ 2), (0, u "com/example/bristlecone/bristlecone/strategy/Comparison$Operator"), (0, .fieldref 1 4), (0, .nameAndType 5 6), (0, u "EQUAL"), (0, u "Lcom/example/bristlecone/bristlecone/strategy/Comparison$Operator;"), (0, .fieldref 1 8), (0, .nameAndType 9 6), (0, u "NOT_EQUAL"), (2, u "LESS"), (2, u "GREATER"), (2, u "LESS_OR_EQUAL"), (2, u "GREATER_OR_EQUAL"), (2, u "$VALUES"), (0, u "[Lcom/example/bristlecone/bristlecone/strategy/Comparison$Operator;"), (6, .class_ 34), (1, u "java/lang/Enum"), (8, u "symbol"), (0, u "Ljava/lang/String;"), (48, u "orders"), (0, u "()Z"), (8, .class_ 104), (0, u "com/example/bristlecone/bristlecone/strategy/Comparison")] 2

def k6c0 : Code := { maxStack := 2, maxLocals := 1, code := prog_94_method_6_code, exceptionTable := #[], attributes := #[] }
def k6m0 : Method := { name := "orders", desc := "()Z", sig := { parameters := [], returnType := some .boolean }, accessFlags := 1, code := some k6c0 }
/-- com/example/bristlecone/bristlecone/strategy/Comparison$Operator -/
def k6 : Class := { plain "com/example/bristlecone/bristlecone/strategy/Comparison$Operator" (some 5) with
  accessFlags := 16433
  interfaces := #[]
  cf := some (fileOf pool6 1 #[.nestHost 103] #[{ accessFlags := 1, nameIndex := 93, descriptorIndex := 94, attributes := #[] }] 16433 32 #[] #[{ accessFlags := 16409, nameIndex := 5, descriptorIndex := 6, attributes := #[] }, { accessFlags := 16409, nameIndex := 9, descriptorIndex := 6, attributes := #[] }, { accessFlags := 16409, nameIndex := 12, descriptorIndex := 6, attributes := #[] }, { accessFlags := 16409, nameIndex := 15, descriptorIndex := 6, attributes := #[] }, { accessFlags := 16409, nameIndex := 18, descriptorIndex := 6, attributes := #[] }, { accessFlags := 16409, nameIndex := 21, descriptorIndex := 6, attributes := #[] }, { accessFlags := 18, nameIndex := 43, descriptorIndex := 44, attributes := #[] }, { accessFlags := 4122, nameIndex := 24, descriptorIndex := 25, attributes := #[] }])
  fields := #[{ name := "EQUAL", type := (.object "com/example/bristlecone/bristlecone/strategy/Comparison$Operator"), accessFlags := 16409, slot := 0, constantValue := 0 }, { name := "NOT_EQUAL", type := (.object "com/example/bristlecone/bristlecone/strategy/Comparison$Operator"), accessFlags := 16409, slot := 1, constantValue := 0 }, { name := "LESS", type := (.object "com/example/bristlecone/bristlecone/strategy/Comparison$Operator"), accessFlags := 16409, slot := 2, constantValue := 0 }, { name := "GREATER", type := (.object "com/example/bristlecone/bristlecone/strategy/Comparison$Operator"), accessFlags := 16409, slot := 3, constantValue := 0 }, { name := "LESS_OR_EQUAL", type := (.object "com/example/bristlecone/bristlecone/strategy/Comparison$Operator"), accessFlags := 16409, slot := 4, constantValue := 0 }, { name := "GREATER_OR_EQUAL", type := (.object "com/example/bristlecone/bristlecone/strategy/Comparison$Operator"), accessFlags := 16409, slot := 5, constantValue := 0 }, { name := "symbol", type := (.object "java/lang/String"), accessFlags := 18, slot := 3, constantValue := 0 }, { name := "$VALUES", type := (.array (.object "com/example/bristlecone/bristlecone/strategy/Comparison$Operator")), accessFlags := 4122, slot := 6, constantValue := 0 }]
  methods := #[k6m0]
  instanceTypes := #[(.object "java/lang/String"), .int, .int, (.object "java/lang/String")]
  staticTypes := #[(.object "com/example/bristlecone/bristlecone/strategy/Comparison$Operator"), (.object "com/example/bristlecone/bristlecone/strategy/Comparison$Operator"), (.object "com/example/bristlecone/bristlecone/strategy/Comparison$Operator"), (.object "com/example/bristlecone/bristlecone/strategy/Comparison$Operator"), (.object "com/example/bristlecone/bristlecone/strategy/Comparison$Operator"), (.object "com/example/bristlecone/bristlecone/strategy/Comparison$Operator"), (.array (.object "com/example/bristlecone/bristlecone/strategy/Comparison$Operator"))]
  resolved := Array.replicate 107 none
  statics := some 0 }

def pool7 : Array CpInfo := pool [(1, u "java/lang/Cloneable"), (0, .class_ 1), (0, u "java/lang/Object"), (0, .class_ 3)] 3

/-- java/lang/Cloneable -/
def k7 : Class := { plain "java/lang/Cloneable" (some 0) with
  accessFlags := 1537
  interfaces := #[]
  cf := some (fileOf pool7 2 #[] #[] 1537 4 #[] #[])
  fields := #[]
  methods := #[]
  instanceTypes := #[]
  staticTypes := #[]
  resolved := Array.replicate 8 none
  statics := none }

/-- the primitive byte -/
def k8 : Class := { plain "byte" none with kind := .primitive 'B', accessFlags := 0x411 }
/-- [B -/
def k9 : Class := { plain "[B" (some 0) with kind := .array 8 .byte, interfaces := #[7, 4], accessFlags := 1041 }

/-- the primitive int -/
def k10 : Class := { plain "int" none with kind := .primitive 'I', accessFlags := 0x411 }
/-- [I -/
def k11 : Class := { plain "[I" (some 0) with kind := .array 10 .int, interfaces := #[7, 4], accessFlags := 1041 }

/-- [Lcom/example/bristlecone/bristlecone/strategy/Comparison$Operator; -/
def k12 : Class := { plain "[Lcom/example/bristlecone/bristlecone/strategy/Comparison$Operator;" (some 0) with kind := .array 6 (.object "com/example/bristlecone/bristlecone/strategy/Comparison$Operator"), interfaces := #[7, 4], accessFlags := 1041 }

def heap : Heap := #[{ cls := 6, slots := #[.ref 1, .ref 2, .ref 3, .ref 4, .ref 5, .ref 6, .null], vm := .statics 6 },
  { cls := 6, slots := #[.null, .int 0, .int 0, .null], vm := .none },
  { cls := 6, slots := #[.null, .int 1, .int 0, .null], vm := .none },
  { cls := 6, slots := #[.null, .int 2, .int 0, .null], vm := .none },
  { cls := 6, slots := #[.null, .int 3, .int 0, .null], vm := .none },
  { cls := 6, slots := #[.null, .int 4, .int 0, .null], vm := .none },
  { cls := 6, slots := #[.null, .int 5, .int 0, .null], vm := .none }]
def classes : Array Class := #[k0, k1, k2, k3, k4, k5, k6, k7, k8, k9, k10, k11, k12]
def interned : List (Array UInt16 × Addr) := []
def slotsUsed : Nat := 31
def theMethod : MethodId := ⟨1, 1⟩
def args0 : Array Value := #[.int 5]
def aboutOver (below : List Frame) : State where
  vm := { classes := classes, interned := interned.toArray }
  heap := heap
  slotsUsed := slotsUsed
  threads := #[{ frames := .invoking theMethod args0 :: below }]
def below0 : List Frame := [.native { method := ⟨0, 0⟩, args := #[] }]
def about1 : State := aboutOver below0
def p0 : Program := .bare "" "" ""
def e0 : Env := launch0.env 0 0 0
theorem w_frames : about1.frames = Frame.invoking theMethod args0 :: below0 := rfl
set_option maxRecDepth 65536 in
theorem w_args : argsFit about1.vm theMethod args0 = true := by decide +kernel
set_option maxRecDepth 65536 in
theorem w_heap : heapFits about1 = true := by decide +kernel
set_option maxRecDepth 65536 in
theorem w_runnable : about1.curStatus? = some .runnable := by decide +kernel
set_option maxRecDepth 65536 in
theorem w_alone : about1.alone = true := by decide +kernel
set_option maxRecDepth 65536 in
theorem w_named : about1.methodNamed? x = some theMethod := by decide +kernel
set_option maxRecDepth 65536 in
theorem w_hears : about1.hears theMethod below0 = true := by decide +kernel
set_option maxRecDepth 65536 in
theorem w_ripe : about1.ripe theMethod args0 below0 = true := by decide +kernel
theorem w_running : about1.status = .running := rfl
set_option maxRecDepth 65536 in
theorem w_room : about1.hasRoom e0.platform room_1 = true :=
  launch0.hasRoom_least _ room_1 (by decide +kernel) (by decide +kernel) (by decide +kernel) (by decide +kernel) (by decide +kernel) (by decide +kernel)
theorem allAtoms_all (ts : List Jvm.Cond) (a : Array Jvm.Value) (st : Jvm.State) : (allAtoms ts).before a st = ts.all (fun c => c.before a st) := by
  induction ts with
  | nil => rfl
  | cons c t ih =>
    show (Jvm.Cond.and c (allAtoms t)).before a st = _
    rw [Jvm.Cond.before_and, ih, List.all_cons]
def words1 : List Jvm.Cond := Jvm.Cond.code x code maxLocals ret :: tables_1
/-- a 'code' word, met by the world's own term for the bytes: nothing is compared byte by byte -/
theorem code_word {y : MethodName} {bytes : ByteArray} {mx : Nat} {rt : Option FieldType} {a : Array Value} {s : State} {m : MethodId} {meth : Method} {c : Code} (h1 : s.methodNamed? y = some m) (h2 : s.vm.method? m = some meth) (h3 : meth.code = some c) (h4 : c.code = bytes)
    (h5 : (c.maxLocals == mx && c.exceptionTable.isEmpty && decide (c.maxStack ≤ mostOperands) && decide (meth.sig.returnType = rt) && !meth.locks && decide (parseMethodDescriptor y.desc = some meth.sig)) = true) : (Jvm.Cond.code y bytes mx rt).before a s = true := by
  simp only [Bool.and_eq_true, beq_iff_eq, Bool.not_eq_true', decide_eq_true_eq] at h5
  obtain ⟨⟨⟨⟨⟨g1, g2⟩, g3⟩, g4⟩, g5⟩, g6⟩ := h5
  simp [Cond.before, Cond.holds, Cond.value, h1, h2, h3, h4, g1, g2, g3, g4, g5, g6]
def isCode : Jvm.Cond → Bool
  | .code _ _ _ _ => true
  | _ => false
theorem all_split {L : List Jvm.Cond} {P : Jvm.Cond → Bool} (h1 : L.all (fun c => isCode c || P c) = true) (h2 : ∀ c ∈ L.filter isCode, P c = true) : L.all P = true := by
  refine List.all_eq_true.mpr fun c hc => ?_
  have h := List.all_eq_true.mp h1 c hc
  rcases Bool.eq_false_or_eq_true (isCode c) with hi | hi
  · exact h2 c (List.mem_filter.mpr ⟨hc, hi⟩)
  · simpa [hi] using h
set_option maxRecDepth 65536 in
theorem w_c0 : (Jvm.Cond.code x code maxLocals ret).before args0 about1 = true := code_word (m := ⟨1, 1⟩) (meth := k1m1) (c := k1c1) (by decide +kernel) rfl rfl rfl (by decide +kernel)
set_option maxRecDepth 65536 in
theorem w_c1 : (Jvm.Cond.code ({ cls := "com/example/bristlecone/bristlecone/strategy/Comparison$Operator", name := "orders", desc := "()Z" } : Jvm.MethodName) prog_94_method_6_code (1 : Nat) (Option.some Jvm.ClassFile.FieldType.boolean)).before args0 about1 = true := code_word (m := ⟨6, 0⟩) (meth := k6m0) (c := k6c0) (by decide +kernel) rfl rfl rfl (by decide +kernel)
def codes1 : List Jvm.Cond := [Jvm.Cond.code x code maxLocals ret, Jvm.Cond.code ({ cls := "com/example/bristlecone/bristlecone/strategy/Comparison$Operator", name := "orders", desc := "()Z" } : Jvm.MethodName) prog_94_method_6_code (1 : Nat) (Option.some Jvm.ClassFile.FieldType.boolean)]
set_option maxRecDepth 65536 in
theorem codes_eq : words1.filter isCode = codes1 := rfl
theorem w_codes : ∀ c ∈ words1.filter isCode, c.before args0 about1 = true := by
  rw [codes_eq]
  intro c hc
  simp only [codes1, List.mem_cons, List.not_mem_nil, or_false] at hc
  rcases hc with rfl | rfl
  · exact w_c0
  · exact w_c1
set_option maxRecDepth 65536 in
theorem w_t1 : (words1.take 24).all (fun c => isCode c || c.before args0 about1) = true := by decide +kernel
set_option maxRecDepth 65536 in
theorem w_t2 : (words1.drop 24).all (fun c => isCode c || c.before args0 about1) = true := by decide +kernel
theorem w_tables : (allAtoms (Jvm.Cond.code x code maxLocals ret :: tables_1)).before args0 about1 = true := by
  rw [allAtoms_all]
  show words1.all (fun c => c.before args0 about1) = true
  refine all_split ?_ w_codes
  rw [← List.take_append_drop 24 words1, List.all_append, w_t1, w_t2]
  rfl
set_option maxRecDepth 65536 in
theorem w_case : (Jvm.Cond.and given_1 narrow_1).before args0 about1 = true := by decide +kernel
theorem w_applies : (headSpec (Jvm.Cond.code x code maxLocals ret :: tables_1) room_1).applies x e0.platform about1 = true :=
  (Spec.applies_iff w_frames).mpr ⟨w_running, w_runnable, w_alone, w_named, w_hears, w_ripe, w_room, w_tables⟩
theorem atStart : AtStart classFile x code maxLocals ret World_1 tables_1 room_1 Calls_1 rest_1 Pre_1 launch0 p0 e0 about1 theMethod args0 below0 :=
  ⟨lists_1, trivial, launch0.admits_env _ _ _, launch0.least_env, fairChoices_fair.cas, fairChoices_fair.clock, w_frames, w_args, w_heap, w_applies, trivial, trivial, w_case⟩
end start1
theorem witness_1 : WitnessClaimed_1 := ⟨start1.p0, start1.e0, start1.about1, start1.theMethod, start1.args0, start1.below0, start1.atStart⟩
end Jvm.Pilot.@@N@@
