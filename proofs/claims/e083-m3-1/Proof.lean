import JvmDerived
import JvmDerived.Pilot.@@N@@Statement
import JvmDerived.Pilot.@@N@@Code
set_option linter.unusedVariables false
set_option linter.unusedSimpArgs false
namespace Jvm.RoadKit
open Sem ClassFile Op Lib Jvm.Stand Jvm.Free Jvm.LawKit
section New
variable {p : Program} {l : Launch} {e : Env} {R : Room} {s : State} {m : MethodId} {args : Array Value} {below : List Frame} {meth : Method} {c : Code} {T : State} {locs : List Loc} {cells slots : Nat}
theorem retI (X : Stand p l e R s m args below meth c T locs cells slots) (hx : p.tables.exec = Jvm.exec) {pc : Nat} {Ls : Array Slot} {z : Int32} {rest : List Value} (hret : meth.sig.returnType = some .int) (hd : decode c.code pc = .ok (.ireturn, 1)) {fs : List Frame}
    (hl : ∀ (f : JFrame) (acts : List Action), f.method = m → f.locked = none → f.entered = [] → (doReturn e (T.setTop f) acts (some (.int z))).1 = T.setFrames fs) : Steps p.tables e below (T.setTop (mkF m pc Ls (.int z :: rest))) (T.setFrames fs) := by
  have hm' : T.vm.method? m = some meth := X.method'
  have hn : narrow .int (.int z) = .int z := rfl
  show Steps p.tables e below (T.setTop { method := m, pc := pc, locals := Ls, stack := _ :: rest, locked := none }) _
  jvm_step X.here [X.here.top, hx, hd, hm', hret, hn]
  first | (intro acts; rw [hl _ acts rfl rfl rfl]) | rw [hl _ _ rfl rfl rfl]
  exact Steps.refl _
end New
end Jvm.RoadKit
namespace Jvm.Pilot.@@N@@
open Jvm Jvm.ClassFile Sem Op Lib Jvm.Free Jvm.Stand Jvm.LawKit Jvm.RoadKit Bundle Jvm.Pilot.@@N@@.Jvm.D
theorem own_eqint {t : Term} {n : Int32} {args : Array Value} {s : State} (h : (Cond.eq t (.int n)).value args s none s [] = some true) : t.eval args s none [] s = some (.int n) := by
  obtain ⟨x, y, h1, h2, k1, k2⟩ := cmp_v (Or.inl h)
  cases h2
  obtain ⟨z, rfl⟩ := k2
  have := gotT (P := z = n) (by simp [Cond.value, h1, Term.eval]) h
  rw [h1, this]
theorem own_ne {t u : Term} {C f d : String} {i j : Int32} {a b : Addr} {args : Array Value} {s : State} (ea : t.eval args s none [] s = some (.ref a)) (eb : u.eval args s none [] s = some (.ref b)) (ha : (Term.field t C f d).eval args s none [] s = some (.int i)) (hb : (Term.field u C f d).eval args s none [] s = some (.int j)) (hij : i ≠ j) : ¬ (a = b) := fun e => by
  rw [fld_at ea] at ha; rw [fld_at eb] at hb; rw [e, hb] at ha; cases ha; exact hij rfl
theorem own_and (x : Int32) : 0 ≤ (x &&& 2147483647).toInt := by
  have h : (x &&& 2147483647).toBitVec = x.toBitVec &&& 2147483647#32 := rfl
  show 0 ≤ (x &&& 2147483647).toBitVec.toInt
  rw [h]
  have : (x.toBitVec &&& 2147483647#32).msb = false := by
    rw [BitVec.msb_and, show (2147483647#32).msb = false from by decide, Bool.and_false]
  rw [BitVec.toInt_eq_toNat_of_msb this]; omega
theorem own_rem (x n : Int32) (hn : 0 < n.toInt) : 0 ≤ ((x &&& 2147483647) % n).toInt ∧ ((x &&& 2147483647) % n).toInt < n.toInt := by
  rw [Int32.toInt_mod]
  have := own_and x
  exact ⟨Int.tmod_nonneg _ this, Int.tmod_lt_of_pos _ hn⟩
theorem own_fin (x n : Int32) (k : Nat) (hn : n.toInt = k) (hk : 0 < k) : ∃ j : Fin k, (x &&& 2147483647) % n = Int32.ofInt (j.val : Int) := by
  have := own_rem x n (by omega)
  generalize (x &&& 2147483647) % n = i at *
  refine ⟨⟨i.toInt.toNat, by omega⟩, ?_⟩
  show i = Int32.ofInt ((i.toInt.toNat : Nat) : Int)
  rw [Int.toNat_of_nonneg this.1, Int32.ofInt_toInt]
theorem d1_0 : decode prog_59_method_7_code 0 = .ok (.aload_n 0, 1) := by decide +kernel
theorem d1_1 : decode prog_59_method_7_code 1 = .ok (.getstatic 21, 3) := by decide +kernel
theorem d1_4 : decode prog_59_method_7_code 4 = .ok (.if_acmp .eq 17, 3) := by decide +kernel
theorem d1_21 : decode prog_59_method_7_code 21 = .ok (.iconst 1, 1) := by decide +kernel
theorem d1_22 : decode prog_59_method_7_code 22 = .ok (.goto 4, 3) := by decide +kernel
theorem d1_26 : decode prog_59_method_7_code 26 = .ok (.ireturn, 1) := by decide +kernel
theorem pn_1 : plainName "com/example/sluice/sluice/xpath/AtomicType" = true := by first | (simp [plainName, overriddenIn]; done) | decide +kernel
theorem ef_1 (m : MethodId) (x0 : Addr) : entryFrame m #[(.ref x0)] 1 = mkF m 0 #[.val (.ref x0)] [] := by first | (simp [entryFrame, mkF, argsToLocals, Value.category]; done) | rfl
theorem d1_7 : decode prog_59_method_7_code 7 = .ok (.aload_n 0, 1) := by decide +kernel
theorem d1_8 : decode prog_59_method_7_code 8 = .ok (.getstatic 18, 3) := by decide +kernel
theorem d1_11 : decode prog_59_method_7_code 11 = .ok (.if_acmp .eq 10, 3) := by decide +kernel
theorem d1_14 : decode prog_59_method_7_code 14 = .ok (.aload_n 0, 1) := by decide +kernel
theorem d1_15 : decode prog_59_method_7_code 15 = .ok (.getstatic 24, 3) := by decide +kernel
theorem d1_18 : decode prog_59_method_7_code 18 = .ok (.if_acmp .ne 7, 3) := by decide +kernel
theorem d1_25 : decode prog_59_method_7_code 25 = .ok (.iconst 0, 1) := by decide +kernel
def QP (r : Value) (h0 : Heap) (n0 : Nat) (v : Option Value) (h : Heap) (L : List Loc) : Prop := v = some r ∧ Fr n0 L ∧ h = h0
set_option maxRecDepth 65536 in
set_option maxHeartbeats 40000000 in
theorem rm1_t (l : Launch) (Z : State) (a0 : Array Value) (hw : ∀ d ∈ tables_1, d.before a0 Z = true) (ws : List Jvm.Cond) (a1 : Addr) (w_INTEGER : Addr) (h0 : Heap) (n0 : Nat) (Z0 : n0 ≤ h0.size) (S_INTEGER : Sta Z h0 "com/example/sluice/sluice/xpath/AtomicType" "INTEGER" "Lcom/example/sluice/sluice/xpath/AtomicType;" (.ref w_INTEGER)) (ha4 : a1 = w_INTEGER) :
    MetFree l (⟨"com/example/sluice/sluice/xpath/AtomicType", "isNumeric", "()Z"⟩ : MethodName) (head1 (Jvm.Cond.code (⟨"com/example/sluice/sluice/xpath/AtomicType", "isNumeric", "()Z"⟩ : MethodName) prog_59_method_7_code 1 (some .boolean) :: ws) ({ frames := 0, cells := 0, slots := 0, locals := 0 } : Room)) (fun a U => a = #[(.ref a1)] ∧ Z.Warmed39 U.vm ∧ U.heap = h0) (fun _ _ _ _ _ => True) (fun _ U o U' => ∃ v L, o = .returned v ∧ QP (.int (1 : Int32)) h0 n0 v U'.heap L ∧ FrameEnd U o U' L ({ frames := 0, cells := 0, slots := 0, locals := 0 } : Room).cells ({ frames := 0, cells := 0, slots := 0, locals := 0 } : Room).slots) := by
  refine MetFree.of_bodySF (plainFor_of_name pn_1) hisR ?_
  intro p e s m args below meth c s₁ Bd hml0 hP hK
  obtain ⟨rfl, hZ, hh⟩ := hP
  have hx := Bd.exec
  have hby := Bd.bytes
  have hml : c.maxLocals = 1 := hml0
  have hown : s.vm.findClass "com/example/sluice/sluice/xpath/AtomicType" = some m.cls := findClass_of_methodNamed Bd.named
  have hnm := (name_of_methodNamed Bd.named Bd.method).1
  have X0 : Stand p l e ({ frames := 0, cells := 0, slots := 0, locals := 0 } : Room) s m #[(.ref a1)] below meth c s₁ [] 0 0 := Stand.of_body Bd
  have e0 : s₁.heap = h0 := by rw [← hh, Bd.state]; rfl
  have N0 := Fr.nil n0
  have pre0 : ∀ t, Steps p.tables e below (s₁.setTop (mkF m 0 #[.val (.ref a1)] [])) t → Steps p.tables e below (s₁.setTop (entryFrame m #[(.ref a1)] 1)) t := fun t k => castTop (ef_1 m a1) k
  obtain ⟨T2, X2, e2, st2⟩ := getS2 X0 hx hZ hown (host := "") (Or.inl (hw _ (List.mem_of_getElem? (i := 26) rfl))) Via.refl e0 S_INTEGER (g := (mkF m 1 #[.val (.ref a1)] [(.ref a1)])) rfl (hb hby d1_1)
  obtain ⟨fs, hr, hrun, hended, hW, hsame⟩ := X2.leave (v := some (.int (1 : Int32))) (fun h => by rw [Bd.returns] at h; cases h)
  refine ⟨_, _, pre0 _ ?_, hrun, hended, _, _, rfl, ?_, ⟨_, rfl⟩, hW, hsame.mono (by decide) (by decide)⟩
  · show Steps p.tables e below (s₁.setTop (mkF m 0 #[.val (.ref a1)] [])) _
    refine XS.aloadN X0.here hx rfl (hb hby d1_0) rfl rfl ?_
    show Steps p.tables e below (s₁.setTop (mkF m 1 #[.val (.ref a1)] [(.ref a1)])) _
    refine st2 _ ?_
    show Steps p.tables e below (T2.setTop (mkF m 4 #[.val (.ref a1)] [(.ref w_INTEGER), (.ref a1)])) _
    refine Jvm.RoadKit.acmp (g := (mkF m 4 #[.val (.ref a1)] [(.ref w_INTEGER), (.ref a1)])) X2 hx rfl rfl rfl (pc0 := 4) (pc' := 21) (same := true) rfl (hb hby d1_4) rfl (decide_eq_true (congrArg Value.ref ha4)) (by decide) (by decide) ?_
    show Steps p.tables e below (T2.setTop (mkF m 21 #[.val (.ref a1)] [])) _
    refine XS.iconst X2.here hx rfl (hb hby d1_21) ?_
    show Steps p.tables e below (T2.setTop (mkF m 22 #[.val (.ref a1)] [(.int (1 : Int32))])) _
    refine XS.goto X2.here hx rfl (pc0 := 22) (pc' := 26) rfl (hb hby d1_22) (by decide) (by decide) ?_
    show Steps p.tables e below (T2.setTop (mkF m 26 #[.val (.ref a1)] [(.int (1 : Int32))])) _
    exact retN X2 hx (t := .boolean) Bd.returns (by simp) (hb hby d1_26) hr
  · show QP (.int (1 : Int32)) h0 n0 _ T2.heap _
    rw [e2]
    exact ⟨rfl, N0, rfl⟩
set_option maxRecDepth 65536 in
set_option maxHeartbeats 40000000 in
theorem rm1_ft (l : Launch) (Z : State) (a0 : Array Value) (hw : ∀ d ∈ tables_1, d.before a0 Z = true) (ws : List Jvm.Cond) (a1 : Addr) (w_INTEGER : Addr) (w_DECIMAL : Addr) (h0 : Heap) (n0 : Nat) (Z0 : n0 ≤ h0.size) (S_INTEGER : Sta Z h0 "com/example/sluice/sluice/xpath/AtomicType" "INTEGER" "Lcom/example/sluice/sluice/xpath/AtomicType;" (.ref w_INTEGER)) (S_DECIMAL : Sta Z h0 "com/example/sluice/sluice/xpath/AtomicType" "DECIMAL" "Lcom/example/sluice/sluice/xpath/AtomicType;" (.ref w_DECIMAL)) (ha4 : ¬ (a1 = w_INTEGER)) (ha11 : a1 = w_DECIMAL) :
    MetFree l (⟨"com/example/sluice/sluice/xpath/AtomicType", "isNumeric", "()Z"⟩ : MethodName) (head1 (Jvm.Cond.code (⟨"com/example/sluice/sluice/xpath/AtomicType", "isNumeric", "()Z"⟩ : MethodName) prog_59_method_7_code 1 (some .boolean) :: ws) ({ frames := 0, cells := 0, slots := 0, locals := 0 } : Room)) (fun a U => a = #[(.ref a1)] ∧ Z.Warmed39 U.vm ∧ U.heap = h0) (fun _ _ _ _ _ => True) (fun _ U o U' => ∃ v L, o = .returned v ∧ QP (.int (1 : Int32)) h0 n0 v U'.heap L ∧ FrameEnd U o U' L ({ frames := 0, cells := 0, slots := 0, locals := 0 } : Room).cells ({ frames := 0, cells := 0, slots := 0, locals := 0 } : Room).slots) := by
  refine MetFree.of_bodySF (plainFor_of_name pn_1) hisR ?_
  intro p e s m args below meth c s₁ Bd hml0 hP hK
  obtain ⟨rfl, hZ, hh⟩ := hP
  have hx := Bd.exec
  have hby := Bd.bytes
  have hml : c.maxLocals = 1 := hml0
  have hown : s.vm.findClass "com/example/sluice/sluice/xpath/AtomicType" = some m.cls := findClass_of_methodNamed Bd.named
  have hnm := (name_of_methodNamed Bd.named Bd.method).1
  have X0 : Stand p l e ({ frames := 0, cells := 0, slots := 0, locals := 0 } : Room) s m #[(.ref a1)] below meth c s₁ [] 0 0 := Stand.of_body Bd
  have e0 : s₁.heap = h0 := by rw [← hh, Bd.state]; rfl
  have N0 := Fr.nil n0
  have pre0 : ∀ t, Steps p.tables e below (s₁.setTop (mkF m 0 #[.val (.ref a1)] [])) t → Steps p.tables e below (s₁.setTop (entryFrame m #[(.ref a1)] 1)) t := fun t k => castTop (ef_1 m a1) k
  obtain ⟨T2, X2, e2, st2⟩ := getS2 X0 hx hZ hown (host := "") (Or.inl (hw _ (List.mem_of_getElem? (i := 26) rfl))) Via.refl e0 S_INTEGER (g := (mkF m 1 #[.val (.ref a1)] [(.ref a1)])) rfl (hb hby d1_1)
  obtain ⟨T3, X3, e3, st3⟩ := getS2 X2 hx hZ hown (host := "") (Or.inl (hw _ (List.mem_of_getElem? (i := 27) rfl))) Via.refl e2 S_DECIMAL (g := (mkF m 8 #[.val (.ref a1)] [(.ref a1)])) rfl (hb hby d1_8)
  obtain ⟨fs, hr, hrun, hended, hW, hsame⟩ := X3.leave (v := some (.int (1 : Int32))) (fun h => by rw [Bd.returns] at h; cases h)
  refine ⟨_, _, pre0 _ ?_, hrun, hended, _, _, rfl, ?_, ⟨_, rfl⟩, hW, hsame.mono (by decide) (by decide)⟩
  · show Steps p.tables e below (s₁.setTop (mkF m 0 #[.val (.ref a1)] [])) _
    refine XS.aloadN X0.here hx rfl (hb hby d1_0) rfl rfl ?_
    show Steps p.tables e below (s₁.setTop (mkF m 1 #[.val (.ref a1)] [(.ref a1)])) _
    refine st2 _ ?_
    show Steps p.tables e below (T2.setTop (mkF m 4 #[.val (.ref a1)] [(.ref w_INTEGER), (.ref a1)])) _
    refine Jvm.RoadKit.acmp (g := (mkF m 4 #[.val (.ref a1)] [(.ref w_INTEGER), (.ref a1)])) X2 hx rfl rfl rfl (pc0 := 4) (pc' := 7) (same := false) rfl (hb hby d1_4) rfl (decide_eq_false fun q => ha4 (Value.ref.inj q)) (by decide) (by decide) ?_
    show Steps p.tables e below (T2.setTop (mkF m 7 #[.val (.ref a1)] [])) _
    refine XS.aloadN X2.here hx rfl (hb hby d1_7) rfl rfl ?_
    show Steps p.tables e below (T2.setTop (mkF m 8 #[.val (.ref a1)] [(.ref a1)])) _
    refine st3 _ ?_
    show Steps p.tables e below (T3.setTop (mkF m 11 #[.val (.ref a1)] [(.ref w_DECIMAL), (.ref a1)])) _
    refine Jvm.RoadKit.acmp (g := (mkF m 11 #[.val (.ref a1)] [(.ref w_DECIMAL), (.ref a1)])) X3 hx rfl rfl rfl (pc0 := 11) (pc' := 21) (same := true) rfl (hb hby d1_11) rfl (decide_eq_true (congrArg Value.ref ha11)) (by decide) (by decide) ?_
    show Steps p.tables e below (T3.setTop (mkF m 21 #[.val (.ref a1)] [])) _
    refine XS.iconst X3.here hx rfl (hb hby d1_21) ?_
    show Steps p.tables e below (T3.setTop (mkF m 22 #[.val (.ref a1)] [(.int (1 : Int32))])) _
    refine XS.goto X3.here hx rfl (pc0 := 22) (pc' := 26) rfl (hb hby d1_22) (by decide) (by decide) ?_
    show Steps p.tables e below (T3.setTop (mkF m 26 #[.val (.ref a1)] [(.int (1 : Int32))])) _
    exact retN X3 hx (t := .boolean) Bd.returns (by simp) (hb hby d1_26) hr
  · show QP (.int (1 : Int32)) h0 n0 _ T3.heap _
    rw [e3]
    exact ⟨rfl, N0, rfl⟩
set_option maxRecDepth 65536 in
set_option maxHeartbeats 40000000 in
theorem rm1_fff (l : Launch) (Z : State) (a0 : Array Value) (hw : ∀ d ∈ tables_1, d.before a0 Z = true) (ws : List Jvm.Cond) (a1 : Addr) (w_INTEGER : Addr) (w_DECIMAL : Addr) (w_DOUBLE : Addr) (h0 : Heap) (n0 : Nat) (Z0 : n0 ≤ h0.size) (S_INTEGER : Sta Z h0 "com/example/sluice/sluice/xpath/AtomicType" "INTEGER" "Lcom/example/sluice/sluice/xpath/AtomicType;" (.ref w_INTEGER)) (S_DECIMAL : Sta Z h0 "com/example/sluice/sluice/xpath/AtomicType" "DECIMAL" "Lcom/example/sluice/sluice/xpath/AtomicType;" (.ref w_DECIMAL)) (S_DOUBLE : Sta Z h0 "com/example/sluice/sluice/xpath/AtomicType" "DOUBLE" "Lcom/example/sluice/sluice/xpath/AtomicType;" (.ref w_DOUBLE)) (ha4 : ¬ (a1 = w_INTEGER)) (ha11 : ¬ (a1 = w_DECIMAL)) (ha18 : a1 = w_DOUBLE) :
    MetFree l (⟨"com/example/sluice/sluice/xpath/AtomicType", "isNumeric", "()Z"⟩ : MethodName) (head1 (Jvm.Cond.code (⟨"com/example/sluice/sluice/xpath/AtomicType", "isNumeric", "()Z"⟩ : MethodName) prog_59_method_7_code 1 (some .boolean) :: ws) ({ frames := 0, cells := 0, slots := 0, locals := 0 } : Room)) (fun a U => a = #[(.ref a1)] ∧ Z.Warmed39 U.vm ∧ U.heap = h0) (fun _ _ _ _ _ => True) (fun _ U o U' => ∃ v L, o = .returned v ∧ QP (.int (1 : Int32)) h0 n0 v U'.heap L ∧ FrameEnd U o U' L ({ frames := 0, cells := 0, slots := 0, locals := 0 } : Room).cells ({ frames := 0, cells := 0, slots := 0, locals := 0 } : Room).slots) := by
  refine MetFree.of_bodySF (plainFor_of_name pn_1) hisR ?_
  intro p e s m args below meth c s₁ Bd hml0 hP hK
  obtain ⟨rfl, hZ, hh⟩ := hP
  have hx := Bd.exec
  have hby := Bd.bytes
  have hml : c.maxLocals = 1 := hml0
  have hown : s.vm.findClass "com/example/sluice/sluice/xpath/AtomicType" = some m.cls := findClass_of_methodNamed Bd.named
  have hnm := (name_of_methodNamed Bd.named Bd.method).1
  have X0 : Stand p l e ({ frames := 0, cells := 0, slots := 0, locals := 0 } : Room) s m #[(.ref a1)] below meth c s₁ [] 0 0 := Stand.of_body Bd
  have e0 : s₁.heap = h0 := by rw [← hh, Bd.state]; rfl
  have N0 := Fr.nil n0
  have pre0 : ∀ t, Steps p.tables e below (s₁.setTop (mkF m 0 #[.val (.ref a1)] [])) t → Steps p.tables e below (s₁.setTop (entryFrame m #[(.ref a1)] 1)) t := fun t k => castTop (ef_1 m a1) k
  obtain ⟨T2, X2, e2, st2⟩ := getS2 X0 hx hZ hown (host := "") (Or.inl (hw _ (List.mem_of_getElem? (i := 26) rfl))) Via.refl e0 S_INTEGER (g := (mkF m 1 #[.val (.ref a1)] [(.ref a1)])) rfl (hb hby d1_1)
  obtain ⟨T3, X3, e3, st3⟩ := getS2 X2 hx hZ hown (host := "") (Or.inl (hw _ (List.mem_of_getElem? (i := 27) rfl))) Via.refl e2 S_DECIMAL (g := (mkF m 8 #[.val (.ref a1)] [(.ref a1)])) rfl (hb hby d1_8)
  obtain ⟨T4, X4, e4, st4⟩ := getS2 X3 hx hZ hown (host := "") (Or.inl (hw _ (List.mem_of_getElem? (i := 28) rfl))) Via.refl e3 S_DOUBLE (g := (mkF m 15 #[.val (.ref a1)] [(.ref a1)])) rfl (hb hby d1_15)
  obtain ⟨fs, hr, hrun, hended, hW, hsame⟩ := X4.leave (v := some (.int (1 : Int32))) (fun h => by rw [Bd.returns] at h; cases h)
  refine ⟨_, _, pre0 _ ?_, hrun, hended, _, _, rfl, ?_, ⟨_, rfl⟩, hW, hsame.mono (by decide) (by decide)⟩
  · show Steps p.tables e below (s₁.setTop (mkF m 0 #[.val (.ref a1)] [])) _
    refine XS.aloadN X0.here hx rfl (hb hby d1_0) rfl rfl ?_
    show Steps p.tables e below (s₁.setTop (mkF m 1 #[.val (.ref a1)] [(.ref a1)])) _
    refine st2 _ ?_
    show Steps p.tables e below (T2.setTop (mkF m 4 #[.val (.ref a1)] [(.ref w_INTEGER), (.ref a1)])) _
    refine Jvm.RoadKit.acmp (g := (mkF m 4 #[.val (.ref a1)] [(.ref w_INTEGER), (.ref a1)])) X2 hx rfl rfl rfl (pc0 := 4) (pc' := 7) (same := false) rfl (hb hby d1_4) rfl (decide_eq_false fun q => ha4 (Value.ref.inj q)) (by decide) (by decide) ?_
    show Steps p.tables e below (T2.setTop (mkF m 7 #[.val (.ref a1)] [])) _
    refine XS.aloadN X2.here hx rfl (hb hby d1_7) rfl rfl ?_
    show Steps p.tables e below (T2.setTop (mkF m 8 #[.val (.ref a1)] [(.ref a1)])) _
    refine st3 _ ?_
    show Steps p.tables e below (T3.setTop (mkF m 11 #[.val (.ref a1)] [(.ref w_DECIMAL), (.ref a1)])) _
    refine Jvm.RoadKit.acmp (g := (mkF m 11 #[.val (.ref a1)] [(.ref w_DECIMAL), (.ref a1)])) X3 hx rfl rfl rfl (pc0 := 11) (pc' := 14) (same := false) rfl (hb hby d1_11) rfl (decide_eq_false fun q => ha11 (Value.ref.inj q)) (by decide) (by decide) ?_
    show Steps p.tables e below (T3.setTop (mkF m 14 #[.val (.ref a1)] [])) _
    refine XS.aloadN X3.here hx rfl (hb hby d1_14) rfl rfl ?_
    show Steps p.tables e below (T3.setTop (mkF m 15 #[.val (.ref a1)] [(.ref a1)])) _
    refine st4 _ ?_
    show Steps p.tables e below (T4.setTop (mkF m 18 #[.val (.ref a1)] [(.ref w_DOUBLE), (.ref a1)])) _
    refine Jvm.RoadKit.acmp (g := (mkF m 18 #[.val (.ref a1)] [(.ref w_DOUBLE), (.ref a1)])) X4 hx rfl rfl rfl (pc0 := 18) (pc' := 21) (same := true) rfl (hb hby d1_18) rfl (decide_eq_true (congrArg Value.ref ha18)) (by decide) (by decide) ?_
    show Steps p.tables e below (T4.setTop (mkF m 21 #[.val (.ref a1)] [])) _
    refine XS.iconst X4.here hx rfl (hb hby d1_21) ?_
    show Steps p.tables e below (T4.setTop (mkF m 22 #[.val (.ref a1)] [(.int (1 : Int32))])) _
    refine XS.goto X4.here hx rfl (pc0 := 22) (pc' := 26) rfl (hb hby d1_22) (by decide) (by decide) ?_
    show Steps p.tables e below (T4.setTop (mkF m 26 #[.val (.ref a1)] [(.int (1 : Int32))])) _
    exact retN X4 hx (t := .boolean) Bd.returns (by simp) (hb hby d1_26) hr
  · show QP (.int (1 : Int32)) h0 n0 _ T4.heap _
    rw [e4]
    exact ⟨rfl, N0, rfl⟩
set_option maxRecDepth 65536 in
set_option maxHeartbeats 40000000 in
theorem rm1_fft (l : Launch) (Z : State) (a0 : Array Value) (hw : ∀ d ∈ tables_1, d.before a0 Z = true) (ws : List Jvm.Cond) (a1 : Addr) (w_INTEGER : Addr) (w_DECIMAL : Addr) (w_DOUBLE : Addr) (h0 : Heap) (n0 : Nat) (Z0 : n0 ≤ h0.size) (S_INTEGER : Sta Z h0 "com/example/sluice/sluice/xpath/AtomicType" "INTEGER" "Lcom/example/sluice/sluice/xpath/AtomicType;" (.ref w_INTEGER)) (S_DECIMAL : Sta Z h0 "com/example/sluice/sluice/xpath/AtomicType" "DECIMAL" "Lcom/example/sluice/sluice/xpath/AtomicType;" (.ref w_DECIMAL)) (S_DOUBLE : Sta Z h0 "com/example/sluice/sluice/xpath/AtomicType" "DOUBLE" "Lcom/example/sluice/sluice/xpath/AtomicType;" (.ref w_DOUBLE)) (ha4 : ¬ (a1 = w_INTEGER)) (ha11 : ¬ (a1 = w_DECIMAL)) (ha18 : ¬ (a1 = w_DOUBLE)) :
    MetFree l (⟨"com/example/sluice/sluice/xpath/AtomicType", "isNumeric", "()Z"⟩ : MethodName) (head1 (Jvm.Cond.code (⟨"com/example/sluice/sluice/xpath/AtomicType", "isNumeric", "()Z"⟩ : MethodName) prog_59_method_7_code 1 (some .boolean) :: ws) ({ frames := 0, cells := 0, slots := 0, locals := 0 } : Room)) (fun a U => a = #[(.ref a1)] ∧ Z.Warmed39 U.vm ∧ U.heap = h0) (fun _ _ _ _ _ => True) (fun _ U o U' => ∃ v L, o = .returned v ∧ QP (.int (0 : Int32)) h0 n0 v U'.heap L ∧ FrameEnd U o U' L ({ frames := 0, cells := 0, slots := 0, locals := 0 } : Room).cells ({ frames := 0, cells := 0, slots := 0, locals := 0 } : Room).slots) := by
  refine MetFree.of_bodySF (plainFor_of_name pn_1) hisR ?_
  intro p e s m args below meth c s₁ Bd hml0 hP hK
  obtain ⟨rfl, hZ, hh⟩ := hP
  have hx := Bd.exec
  have hby := Bd.bytes
  have hml : c.maxLocals = 1 := hml0
  have hown : s.vm.findClass "com/example/sluice/sluice/xpath/AtomicType" = some m.cls := findClass_of_methodNamed Bd.named
  have hnm := (name_of_methodNamed Bd.named Bd.method).1
  have X0 : Stand p l e ({ frames := 0, cells := 0, slots := 0, locals := 0 } : Room) s m #[(.ref a1)] below meth c s₁ [] 0 0 := Stand.of_body Bd
  have e0 : s₁.heap = h0 := by rw [← hh, Bd.state]; rfl
  have N0 := Fr.nil n0
  have pre0 : ∀ t, Steps p.tables e below (s₁.setTop (mkF m 0 #[.val (.ref a1)] [])) t → Steps p.tables e below (s₁.setTop (entryFrame m #[(.ref a1)] 1)) t := fun t k => castTop (ef_1 m a1) k
  obtain ⟨T2, X2, e2, st2⟩ := getS2 X0 hx hZ hown (host := "") (Or.inl (hw _ (List.mem_of_getElem? (i := 26) rfl))) Via.refl e0 S_INTEGER (g := (mkF m 1 #[.val (.ref a1)] [(.ref a1)])) rfl (hb hby d1_1)
  obtain ⟨T3, X3, e3, st3⟩ := getS2 X2 hx hZ hown (host := "") (Or.inl (hw _ (List.mem_of_getElem? (i := 27) rfl))) Via.refl e2 S_DECIMAL (g := (mkF m 8 #[.val (.ref a1)] [(.ref a1)])) rfl (hb hby d1_8)
  obtain ⟨T4, X4, e4, st4⟩ := getS2 X3 hx hZ hown (host := "") (Or.inl (hw _ (List.mem_of_getElem? (i := 28) rfl))) Via.refl e3 S_DOUBLE (g := (mkF m 15 #[.val (.ref a1)] [(.ref a1)])) rfl (hb hby d1_15)
  obtain ⟨fs, hr, hrun, hended, hW, hsame⟩ := X4.leave (v := some (.int (0 : Int32))) (fun h => by rw [Bd.returns] at h; cases h)
  refine ⟨_, _, pre0 _ ?_, hrun, hended, _, _, rfl, ?_, ⟨_, rfl⟩, hW, hsame.mono (by decide) (by decide)⟩
  · show Steps p.tables e below (s₁.setTop (mkF m 0 #[.val (.ref a1)] [])) _
    refine XS.aloadN X0.here hx rfl (hb hby d1_0) rfl rfl ?_
    show Steps p.tables e below (s₁.setTop (mkF m 1 #[.val (.ref a1)] [(.ref a1)])) _
    refine st2 _ ?_
    show Steps p.tables e below (T2.setTop (mkF m 4 #[.val (.ref a1)] [(.ref w_INTEGER), (.ref a1)])) _
    refine Jvm.RoadKit.acmp (g := (mkF m 4 #[.val (.ref a1)] [(.ref w_INTEGER), (.ref a1)])) X2 hx rfl rfl rfl (pc0 := 4) (pc' := 7) (same := false) rfl (hb hby d1_4) rfl (decide_eq_false fun q => ha4 (Value.ref.inj q)) (by decide) (by decide) ?_
    show Steps p.tables e below (T2.setTop (mkF m 7 #[.val (.ref a1)] [])) _
    refine XS.aloadN X2.here hx rfl (hb hby d1_7) rfl rfl ?_
    show Steps p.tables e below (T2.setTop (mkF m 8 #[.val (.ref a1)] [(.ref a1)])) _
    refine st3 _ ?_
    show Steps p.tables e below (T3.setTop (mkF m 11 #[.val (.ref a1)] [(.ref w_DECIMAL), (.ref a1)])) _
    refine Jvm.RoadKit.acmp (g := (mkF m 11 #[.val (.ref a1)] [(.ref w_DECIMAL), (.ref a1)])) X3 hx rfl rfl rfl (pc0 := 11) (pc' := 14) (same := false) rfl (hb hby d1_11) rfl (decide_eq_false fun q => ha11 (Value.ref.inj q)) (by decide) (by decide) ?_
    show Steps p.tables e below (T3.setTop (mkF m 14 #[.val (.ref a1)] [])) _
    refine XS.aloadN X3.here hx rfl (hb hby d1_14) rfl rfl ?_
    show Steps p.tables e below (T3.setTop (mkF m 15 #[.val (.ref a1)] [(.ref a1)])) _
    refine st4 _ ?_
    show Steps p.tables e below (T4.setTop (mkF m 18 #[.val (.ref a1)] [(.ref w_DOUBLE), (.ref a1)])) _
    refine Jvm.RoadKit.acmp (g := (mkF m 18 #[.val (.ref a1)] [(.ref w_DOUBLE), (.ref a1)])) X4 hx rfl rfl rfl (pc0 := 18) (pc' := 25) (same := false) rfl (hb hby d1_18) rfl (decide_eq_false fun q => ha18 (Value.ref.inj q)) (by decide) (by decide) ?_
    show Steps p.tables e below (T4.setTop (mkF m 25 #[.val (.ref a1)] [])) _
    refine XS.iconst X4.here hx rfl (hb hby d1_25) ?_
    show Steps p.tables e below (T4.setTop (mkF m 26 #[.val (.ref a1)] [(.int (0 : Int32))])) _
    exact retN X4 hx (t := .boolean) Bd.returns (by simp) (hb hby d1_26) hr
  · show QP (.int (0 : Int32)) h0 n0 _ T4.heap _
    rw [e4]
    exact ⟨rfl, N0, rfl⟩
def own_num (a1 : Addr) (w_INTEGER : Addr) (w_DECIMAL : Addr) (w_DOUBLE : Addr) : Int32 := (if a1 = w_INTEGER then (1 : Int32) else (if a1 = w_DECIMAL then (1 : Int32) else (if a1 = w_DOUBLE then (1 : Int32) else (0 : Int32))))
theorem rm1 (l : Launch) (Z : State) (a0 : Array Value) (hw : ∀ d ∈ tables_1, d.before a0 Z = true) (ws : List Jvm.Cond) (a1 : Addr) (w_INTEGER : Addr) (w_DECIMAL : Addr) (w_DOUBLE : Addr) (h0 : Heap) (n0 : Nat) (Z0 : n0 ≤ h0.size) (S_INTEGER : Sta Z h0 "com/example/sluice/sluice/xpath/AtomicType" "INTEGER" "Lcom/example/sluice/sluice/xpath/AtomicType;" (.ref w_INTEGER)) (S_DECIMAL : Sta Z h0 "com/example/sluice/sluice/xpath/AtomicType" "DECIMAL" "Lcom/example/sluice/sluice/xpath/AtomicType;" (.ref w_DECIMAL)) (S_DOUBLE : Sta Z h0 "com/example/sluice/sluice/xpath/AtomicType" "DOUBLE" "Lcom/example/sluice/sluice/xpath/AtomicType;" (.ref w_DOUBLE)) :
    MetFree l (⟨"com/example/sluice/sluice/xpath/AtomicType", "isNumeric", "()Z"⟩ : MethodName) (head1 (Jvm.Cond.code (⟨"com/example/sluice/sluice/xpath/AtomicType", "isNumeric", "()Z"⟩ : MethodName) prog_59_method_7_code 1 (some .boolean) :: ws) ({ frames := 0, cells := 0, slots := 0, locals := 0 } : Room)) (fun a U => a = #[(.ref a1)] ∧ Z.Warmed39 U.vm ∧ U.heap = h0) (fun _ _ _ _ _ => True) (fun _ U o U' => ∃ v L, o = .returned v ∧ QP (.int (own_num a1 w_INTEGER w_DECIMAL w_DOUBLE)) h0 n0 v U'.heap L ∧ FrameEnd U o U' L ({ frames := 0, cells := 0, slots := 0, locals := 0 } : Room).cells ({ frames := 0, cells := 0, slots := 0, locals := 0 } : Room).slots) := by
  by_cases ha4 : a1 = w_INTEGER
  · skip
    rw [show own_num a1 w_INTEGER w_DECIMAL w_DOUBLE = (1 : Int32) from by unfold own_num; rw [if_pos ha4]]
    exact rm1_t l Z a0 hw ws a1 w_INTEGER h0 n0 Z0 S_INTEGER ha4
  · skip
    by_cases ha11 : a1 = w_DECIMAL
    · skip
      rw [show own_num a1 w_INTEGER w_DECIMAL w_DOUBLE = (1 : Int32) from by unfold own_num; rw [if_neg ha4, if_pos ha11]]
      exact rm1_ft l Z a0 hw ws a1 w_INTEGER w_DECIMAL h0 n0 Z0 S_INTEGER S_DECIMAL ha4 ha11
    · skip
      by_cases ha18 : a1 = w_DOUBLE
      · skip
        rw [show own_num a1 w_INTEGER w_DECIMAL w_DOUBLE = (1 : Int32) from by unfold own_num; rw [if_neg ha4, if_neg ha11, if_pos ha18]]
        exact rm1_fff l Z a0 hw ws a1 w_INTEGER w_DECIMAL w_DOUBLE h0 n0 Z0 S_INTEGER S_DECIMAL S_DOUBLE ha4 ha11 ha18
      · skip
        rw [show own_num a1 w_INTEGER w_DECIMAL w_DOUBLE = (0 : Int32) from by unfold own_num; rw [if_neg ha4, if_neg ha11, if_neg ha18]]
        exact rm1_fft l Z a0 hw ws a1 w_INTEGER w_DECIMAL w_DOUBLE h0 n0 Z0 S_INTEGER S_DECIMAL S_DOUBLE ha4 ha11 ha18
theorem d2_0 : decode prog_59_method_8_code 0 = .ok (.aload_n 1, 1) := by decide +kernel
theorem d2_1 : decode prog_59_method_8_code 1 = .ok (.getstatic 27, 3) := by decide +kernel
theorem d2_4 : decode prog_59_method_8_code 4 = .ok (.if_acmp .ne 23, 3) := by decide +kernel
theorem d2_27 : decode prog_59_method_8_code 27 = .ok (.aload_n 0, 1) := by decide +kernel
theorem d2_28 : decode prog_59_method_8_code 28 = .ok (.astore_n 2, 1) := by decide +kernel
theorem d2_29 : decode prog_59_method_8_code 29 = .ok (.aload_n 2, 1) := by decide +kernel
theorem d2_30 : decode prog_59_method_8_code 30 = .ok (.ifnull 18, 3) := by decide +kernel
theorem d2_33 : decode prog_59_method_8_code 33 = .ok (.aload_n 2, 1) := by decide +kernel
theorem d2_34 : decode prog_59_method_8_code 34 = .ok (.aload_n 1, 1) := by decide +kernel
theorem d2_35 : decode prog_59_method_8_code 35 = .ok (.if_acmp .ne 5, 3) := by decide +kernel
theorem d2_38 : decode prog_59_method_8_code 38 = .ok (.iconst 1, 1) := by decide +kernel
theorem d2_39 : decode prog_59_method_8_code 39 = .ok (.ireturn, 1) := by decide +kernel
theorem pn_2 : plainName "com/example/sluice/sluice/xpath/AtomicType" = true := by first | (simp [plainName, overriddenIn]; done) | decide +kernel
theorem ef_2 (m : MethodId) (x0 : Addr) (x1 : Addr) : entryFrame m #[(.ref x0), (.ref x1)] 3 = mkF m 0 #[.val (.ref x0), .val (.ref x1), .unset] [] := by first | (simp [entryFrame, mkF, argsToLocals, Value.category]; done) | rfl
set_option maxRecDepth 65536 in
set_option maxHeartbeats 40000000 in
theorem rm2_tff (l : Launch) (Z : State) (a0 : Array Value) (hw : ∀ d ∈ tables_1, d.before a0 Z = true) (ws : List Jvm.Cond) (a1 : Addr) (a2 : Addr) (w_NUMERIC : Addr) (h0 : Heap) (n0 : Nat) (Z0 : n0 ≤ h0.size) (S_NUMERIC : Sta Z h0 "com/example/sluice/sluice/xpath/AtomicType" "NUMERIC" "Lcom/example/sluice/sluice/xpath/AtomicType;" (.ref w_NUMERIC)) (ha4 : ¬ (a2 = w_NUMERIC)) (ha35 : a1 = a2) :
    MetFree l (⟨"com/example/sluice/sluice/xpath/AtomicType", "isSubtypeOf", "(Lcom/example/sluice/sluice/xpath/AtomicType;)Z"⟩ : MethodName) (head1 (Jvm.Cond.code (⟨"com/example/sluice/sluice/xpath/AtomicType", "isSubtypeOf", "(Lcom/example/sluice/sluice/xpath/AtomicType;)Z"⟩ : MethodName) prog_59_method_8_code 3 (some .boolean) :: ws) ({ frames := 0, cells := 0, slots := 0, locals := 0 } : Room)) (fun a U => a = #[(.ref a1), (.ref a2)] ∧ Z.Warmed39 U.vm ∧ U.heap = h0) (fun _ _ _ _ _ => True) (fun _ U o U' => ∃ v L, o = .returned v ∧ QP (.int (1 : Int32)) h0 n0 v U'.heap L ∧ FrameEnd U o U' L ({ frames := 0, cells := 0, slots := 0, locals := 0 } : Room).cells ({ frames := 0, cells := 0, slots := 0, locals := 0 } : Room).slots) := by
  refine MetFree.of_bodySF (plainFor_of_name pn_2) hisR ?_
  intro p e s m args below meth c s₁ Bd hml0 hP hK
  obtain ⟨rfl, hZ, hh⟩ := hP
  have hx := Bd.exec
  have hby := Bd.bytes
  have hml : c.maxLocals = 3 := hml0
  have hown : s.vm.findClass "com/example/sluice/sluice/xpath/AtomicType" = some m.cls := findClass_of_methodNamed Bd.named
  have hnm := (name_of_methodNamed Bd.named Bd.method).1
  have X0 : Stand p l e ({ frames := 0, cells := 0, slots := 0, locals := 0 } : Room) s m #[(.ref a1), (.ref a2)] below meth c s₁ [] 0 0 := Stand.of_body Bd
  have e0 : s₁.heap = h0 := by rw [← hh, Bd.state]; rfl
  have N0 := Fr.nil n0
  have pre0 : ∀ t, Steps p.tables e below (s₁.setTop (mkF m 0 #[.val (.ref a1), .val (.ref a2), .unset] [])) t → Steps p.tables e below (s₁.setTop (entryFrame m #[(.ref a1), (.ref a2)] 3)) t := fun t k => castTop (ef_2 m a1 a2) k
  obtain ⟨T3, X3, e3, st3⟩ := getS2 X0 hx hZ hown (host := "") (Or.inl (hw _ (List.mem_of_getElem? (i := 34) rfl))) Via.refl e0 S_NUMERIC (g := (mkF m 1 #[.val (.ref a1), .val (.ref a2), .unset] [(.ref a2)])) rfl (hb hby d2_1)
  obtain ⟨fs, hr, hrun, hended, hW, hsame⟩ := X3.leave (v := some (.int (1 : Int32))) (fun h => by rw [Bd.returns] at h; cases h)
  refine ⟨_, _, pre0 _ ?_, hrun, hended, _, _, rfl, ?_, ⟨_, rfl⟩, hW, hsame.mono (by decide) (by decide)⟩
  · show Steps p.tables e below (s₁.setTop (mkF m 0 #[.val (.ref a1), .val (.ref a2), .unset] [])) _
    refine XS.aloadN X0.here hx rfl (hb hby d2_0) rfl rfl ?_
    show Steps p.tables e below (s₁.setTop (mkF m 1 #[.val (.ref a1), .val (.ref a2), .unset] [(.ref a2)])) _
    refine st3 _ ?_
    show Steps p.tables e below (T3.setTop (mkF m 4 #[.val (.ref a1), .val (.ref a2), .unset] [(.ref w_NUMERIC), (.ref a2)])) _
    refine Jvm.RoadKit.acmp (g := (mkF m 4 #[.val (.ref a1), .val (.ref a2), .unset] [(.ref w_NUMERIC), (.ref a2)])) X3 hx rfl rfl rfl (pc0 := 4) (pc' := 27) (same := false) rfl (hb hby d2_4) rfl (decide_eq_false fun q => ha4 (Value.ref.inj q)) (by decide) (by decide) ?_
    show Steps p.tables e below (T3.setTop (mkF m 27 #[.val (.ref a1), .val (.ref a2), .unset] [])) _
    refine XS.aloadN X3.here hx rfl (hb hby d2_27) rfl rfl ?_
    show Steps p.tables e below (T3.setTop (mkF m 28 #[.val (.ref a1), .val (.ref a2), .unset] [(.ref a1)])) _
    refine XS.astoreN X3.here hx rfl (hb hby d2_28) rfl rfl (l' := #[.val (.ref a1), .val (.ref a2), .val (.ref a1)]) rfl ?_
    show Steps p.tables e below (T3.setTop (mkF m 29 #[.val (.ref a1), .val (.ref a2), .val (.ref a1)] [])) _
    refine XS.aloadN X3.here hx rfl (hb hby d2_29) rfl rfl ?_
    show Steps p.tables e below (T3.setTop (mkF m 30 #[.val (.ref a1), .val (.ref a2), .val (.ref a1)] [(.ref a1)])) _
    refine XS.ifnullNo X3.here hx rfl (hb hby d2_30) rfl ?_
    show Steps p.tables e below (T3.setTop (mkF m 33 #[.val (.ref a1), .val (.ref a2), .val (.ref a1)] [])) _
    refine XS.aloadN X3.here hx rfl (hb hby d2_33) rfl rfl ?_
    show Steps p.tables e below (T3.setTop (mkF m 34 #[.val (.ref a1), .val (.ref a2), .val (.ref a1)] [(.ref a1)])) _
    refine XS.aloadN X3.here hx rfl (hb hby d2_34) rfl rfl ?_
    show Steps p.tables e below (T3.setTop (mkF m 35 #[.val (.ref a1), .val (.ref a2), .val (.ref a1)] [(.ref a2), (.ref a1)])) _
    refine Jvm.RoadKit.acmp (g := (mkF m 35 #[.val (.ref a1), .val (.ref a2), .val (.ref a1)] [(.ref a2), (.ref a1)])) X3 hx rfl rfl rfl (pc0 := 35) (pc' := 38) (same := true) rfl (hb hby d2_35) rfl (decide_eq_true (congrArg Value.ref ha35)) (by decide) (by decide) ?_
    show Steps p.tables e below (T3.setTop (mkF m 38 #[.val (.ref a1), .val (.ref a2), .val (.ref a1)] [])) _
    refine XS.iconst X3.here hx rfl (hb hby d2_38) ?_
    show Steps p.tables e below (T3.setTop (mkF m 39 #[.val (.ref a1), .val (.ref a2), .val (.ref a1)] [(.int (1 : Int32))])) _
    exact retN X3 hx (t := .boolean) Bd.returns (by simp) (hb hby d2_39) hr
  · show QP (.int (1 : Int32)) h0 n0 _ T3.heap _
    rw [e3]
    exact ⟨rfl, N0, rfl⟩
theorem d2_40 : decode prog_59_method_8_code 40 = .ok (.aload_n 2, 1) := by decide +kernel
theorem d2_41 : decode prog_59_method_8_code 41 = .ok (.getfield 53, 3) := by decide +kernel
theorem d2_44 : decode prog_59_method_8_code 44 = .ok (.astore_n 2, 1) := by decide +kernel
theorem d2_45 : decode prog_59_method_8_code 45 = .ok (.goto (-16), 3) := by decide +kernel
theorem d2_48 : decode prog_59_method_8_code 48 = .ok (.iconst 0, 1) := by decide +kernel
theorem d2_49 : decode prog_59_method_8_code 49 = .ok (.ireturn, 1) := by decide +kernel
set_option maxRecDepth 65536 in
set_option maxHeartbeats 40000000 in
theorem rm2_tftt (l : Launch) (Z : State) (a0 : Array Value) (hw : ∀ d ∈ tables_1, d.before a0 Z = true) (ws : List Jvm.Cond) (a1 : Addr) (a2 : Addr) (w_NUMERIC : Addr) (h0 : Heap) (n0 : Nat) (Z0 : n0 ≤ h0.size) (S_NUMERIC : Sta Z h0 "com/example/sluice/sluice/xpath/AtomicType" "NUMERIC" "Lcom/example/sluice/sluice/xpath/AtomicType;" (.ref w_NUMERIC)) (F_base_a1 : Fld Z h0 a1 "com/example/sluice/sluice/xpath/AtomicType" "base" "Lcom/example/sluice/sluice/xpath/AtomicType;" .null) (ha4 : ¬ (a2 = w_NUMERIC)) (ha35 : ¬ (a1 = a2)) :
    MetFree l (⟨"com/example/sluice/sluice/xpath/AtomicType", "isSubtypeOf", "(Lcom/example/sluice/sluice/xpath/AtomicType;)Z"⟩ : MethodName) (head1 (Jvm.Cond.code (⟨"com/example/sluice/sluice/xpath/AtomicType", "isSubtypeOf", "(Lcom/example/sluice/sluice/xpath/AtomicType;)Z"⟩ : MethodName) prog_59_method_8_code 3 (some .boolean) :: ws) ({ frames := 0, cells := 0, slots := 0, locals := 0 } : Room)) (fun a U => a = #[(.ref a1), (.ref a2)] ∧ Z.Warmed39 U.vm ∧ U.heap = h0) (fun _ _ _ _ _ => True) (fun _ U o U' => ∃ v L, o = .returned v ∧ QP (.int (0 : Int32)) h0 n0 v U'.heap L ∧ FrameEnd U o U' L ({ frames := 0, cells := 0, slots := 0, locals := 0 } : Room).cells ({ frames := 0, cells := 0, slots := 0, locals := 0 } : Room).slots) := by
  refine MetFree.of_bodySF (plainFor_of_name pn_2) hisR ?_
  intro p e s m args below meth c s₁ Bd hml0 hP hK
  obtain ⟨rfl, hZ, hh⟩ := hP
  have hx := Bd.exec
  have hby := Bd.bytes
  have hml : c.maxLocals = 3 := hml0
  have hown : s.vm.findClass "com/example/sluice/sluice/xpath/AtomicType" = some m.cls := findClass_of_methodNamed Bd.named
  have hnm := (name_of_methodNamed Bd.named Bd.method).1
  have X0 : Stand p l e ({ frames := 0, cells := 0, slots := 0, locals := 0 } : Room) s m #[(.ref a1), (.ref a2)] below meth c s₁ [] 0 0 := Stand.of_body Bd
  have e0 : s₁.heap = h0 := by rw [← hh, Bd.state]; rfl
  have N0 := Fr.nil n0
  have pre0 : ∀ t, Steps p.tables e below (s₁.setTop (mkF m 0 #[.val (.ref a1), .val (.ref a2), .unset] [])) t → Steps p.tables e below (s₁.setTop (entryFrame m #[(.ref a1), (.ref a2)] 3)) t := fun t k => castTop (ef_2 m a1 a2) k
  obtain ⟨T3, X3, e3, st3⟩ := getS2 X0 hx hZ hown (host := "") (Or.inl (hw _ (List.mem_of_getElem? (i := 34) rfl))) Via.refl e0 S_NUMERIC (g := (mkF m 1 #[.val (.ref a1), .val (.ref a2), .unset] [(.ref a2)])) rfl (hb hby d2_1)
  obtain ⟨T4, X4, e4, st4⟩ := getF X3 hx hZ hown (host := "") (Or.inl (hw _ (List.mem_of_getElem? (i := 35) rfl))) Via.refl e3 F_base_a1 (g := (mkF m 41 #[.val (.ref a1), .val (.ref a2), .val (.ref a1)] [(.ref a1)])) rfl rfl (hb hby d2_41)
  obtain ⟨fs, hr, hrun, hended, hW, hsame⟩ := X4.leave (v := some (.int (0 : Int32))) (fun h => by rw [Bd.returns] at h; cases h)
  refine ⟨_, _, pre0 _ ?_, hrun, hended, _, _, rfl, ?_, ⟨_, rfl⟩, hW, hsame.mono (by decide) (by decide)⟩
  · show Steps p.tables e below (s₁.setTop (mkF m 0 #[.val (.ref a1), .val (.ref a2), .unset] [])) _
    refine XS.aloadN X0.here hx rfl (hb hby d2_0) rfl rfl ?_
    show Steps p.tables e below (s₁.setTop (mkF m 1 #[.val (.ref a1), .val (.ref a2), .unset] [(.ref a2)])) _
    refine st3 _ ?_
    show Steps p.tables e below (T3.setTop (mkF m 4 #[.val (.ref a1), .val (.ref a2), .unset] [(.ref w_NUMERIC), (.ref a2)])) _
    refine Jvm.RoadKit.acmp (g := (mkF m 4 #[.val (.ref a1), .val (.ref a2), .unset] [(.ref w_NUMERIC), (.ref a2)])) X3 hx rfl rfl rfl (pc0 := 4) (pc' := 27) (same := false) rfl (hb hby d2_4) rfl (decide_eq_false fun q => ha4 (Value.ref.inj q)) (by decide) (by decide) ?_
    show Steps p.tables e below (T3.setTop (mkF m 27 #[.val (.ref a1), .val (.ref a2), .unset] [])) _
    refine XS.aloadN X3.here hx rfl (hb hby d2_27) rfl rfl ?_
    show Steps p.tables e below (T3.setTop (mkF m 28 #[.val (.ref a1), .val (.ref a2), .unset] [(.ref a1)])) _
    refine XS.astoreN X3.here hx rfl (hb hby d2_28) rfl rfl (l' := #[.val (.ref a1), .val (.ref a2), .val (.ref a1)]) rfl ?_
    show Steps p.tables e below (T3.setTop (mkF m 29 #[.val (.ref a1), .val (.ref a2), .val (.ref a1)] [])) _
    refine XS.aloadN X3.here hx rfl (hb hby d2_29) rfl rfl ?_
    show Steps p.tables e below (T3.setTop (mkF m 30 #[.val (.ref a1), .val (.ref a2), .val (.ref a1)] [(.ref a1)])) _
    refine XS.ifnullNo X3.here hx rfl (hb hby d2_30) rfl ?_
    show Steps p.tables e below (T3.setTop (mkF m 33 #[.val (.ref a1), .val (.ref a2), .val (.ref a1)] [])) _
    refine XS.aloadN X3.here hx rfl (hb hby d2_33) rfl rfl ?_
    show Steps p.tables e below (T3.setTop (mkF m 34 #[.val (.ref a1), .val (.ref a2), .val (.ref a1)] [(.ref a1)])) _
    refine XS.aloadN X3.here hx rfl (hb hby d2_34) rfl rfl ?_
    show Steps p.tables e below (T3.setTop (mkF m 35 #[.val (.ref a1), .val (.ref a2), .val (.ref a1)] [(.ref a2), (.ref a1)])) _
    refine Jvm.RoadKit.acmp (g := (mkF m 35 #[.val (.ref a1), .val (.ref a2), .val (.ref a1)] [(.ref a2), (.ref a1)])) X3 hx rfl rfl rfl (pc0 := 35) (pc' := 40) (same := false) rfl (hb hby d2_35) rfl (decide_eq_false fun q => ha35 (Value.ref.inj q)) (by decide) (by decide) ?_
    show Steps p.tables e below (T3.setTop (mkF m 40 #[.val (.ref a1), .val (.ref a2), .val (.ref a1)] [])) _
    refine XS.aloadN X3.here hx rfl (hb hby d2_40) rfl rfl ?_
    show Steps p.tables e below (T3.setTop (mkF m 41 #[.val (.ref a1), .val (.ref a2), .val (.ref a1)] [(.ref a1)])) _
    refine st4 _ ?_
    show Steps p.tables e below (T4.setTop (mkF m 44 #[.val (.ref a1), .val (.ref a2), .val (.ref a1)] [.null])) _
    refine XS.astoreN X4.here hx rfl (hb hby d2_44) rfl rfl (l' := #[.val (.ref a1), .val (.ref a2), .val .null]) rfl ?_
    show Steps p.tables e below (T4.setTop (mkF m 45 #[.val (.ref a1), .val (.ref a2), .val .null] [])) _
    refine XS.goto X4.here hx rfl (pc0 := 45) (pc' := 29) rfl (hb hby d2_45) (by decide) (by decide) ?_
    show Steps p.tables e below (T4.setTop (mkF m 29 #[.val (.ref a1), .val (.ref a2), .val .null] [])) _
    refine XS.aloadN X4.here hx rfl (hb hby d2_29) rfl rfl ?_
    show Steps p.tables e below (T4.setTop (mkF m 30 #[.val (.ref a1), .val (.ref a2), .val .null] [.null])) _
    refine XS.ifnullYes X4.here hx rfl (pc0 := 30) (pc' := 48) rfl (hb hby d2_30) rfl (by decide) (by decide) ?_
    show Steps p.tables e below (T4.setTop (mkF m 48 #[.val (.ref a1), .val (.ref a2), .val .null] [])) _
    refine XS.iconst X4.here hx rfl (hb hby d2_48) ?_
    show Steps p.tables e below (T4.setTop (mkF m 49 #[.val (.ref a1), .val (.ref a2), .val .null] [(.int (0 : Int32))])) _
    exact retN X4 hx (t := .boolean) Bd.returns (by simp) (hb hby d2_49) hr
  · show QP (.int (0 : Int32)) h0 n0 _ T4.heap _
    rw [e4]
    exact ⟨rfl, N0, rfl⟩
set_option maxRecDepth 65536 in
set_option maxHeartbeats 40000000 in
theorem rm2_tftff (l : Launch) (Z : State) (a0 : Array Value) (hw : ∀ d ∈ tables_1, d.before a0 Z = true) (ws : List Jvm.Cond) (a1 : Addr) (a2 : Addr) (w_NUMERIC : Addr) (v_base_a1 : Addr) (h0 : Heap) (n0 : Nat) (Z0 : n0 ≤ h0.size) (S_NUMERIC : Sta Z h0 "com/example/sluice/sluice/xpath/AtomicType" "NUMERIC" "Lcom/example/sluice/sluice/xpath/AtomicType;" (.ref w_NUMERIC)) (F_base_a1 : Fld Z h0 a1 "com/example/sluice/sluice/xpath/AtomicType" "base" "Lcom/example/sluice/sluice/xpath/AtomicType;" (.ref v_base_a1)) (ha4 : ¬ (a2 = w_NUMERIC)) (ha35 : ¬ (a1 = a2)) (ha35_2 : v_base_a1 = a2) :
    MetFree l (⟨"com/example/sluice/sluice/xpath/AtomicType", "isSubtypeOf", "(Lcom/example/sluice/sluice/xpath/AtomicType;)Z"⟩ : MethodName) (head1 (Jvm.Cond.code (⟨"com/example/sluice/sluice/xpath/AtomicType", "isSubtypeOf", "(Lcom/example/sluice/sluice/xpath/AtomicType;)Z"⟩ : MethodName) prog_59_method_8_code 3 (some .boolean) :: ws) ({ frames := 0, cells := 0, slots := 0, locals := 0 } : Room)) (fun a U => a = #[(.ref a1), (.ref a2)] ∧ Z.Warmed39 U.vm ∧ U.heap = h0) (fun _ _ _ _ _ => True) (fun _ U o U' => ∃ v L, o = .returned v ∧ QP (.int (1 : Int32)) h0 n0 v U'.heap L ∧ FrameEnd U o U' L ({ frames := 0, cells := 0, slots := 0, locals := 0 } : Room).cells ({ frames := 0, cells := 0, slots := 0, locals := 0 } : Room).slots) := by
  refine MetFree.of_bodySF (plainFor_of_name pn_2) hisR ?_
  intro p e s m args below meth c s₁ Bd hml0 hP hK
  obtain ⟨rfl, hZ, hh⟩ := hP
  have hx := Bd.exec
  have hby := Bd.bytes
  have hml : c.maxLocals = 3 := hml0
  have hown : s.vm.findClass "com/example/sluice/sluice/xpath/AtomicType" = some m.cls := findClass_of_methodNamed Bd.named
  have hnm := (name_of_methodNamed Bd.named Bd.method).1
  have X0 : Stand p l e ({ frames := 0, cells := 0, slots := 0, locals := 0 } : Room) s m #[(.ref a1), (.ref a2)] below meth c s₁ [] 0 0 := Stand.of_body Bd
  have e0 : s₁.heap = h0 := by rw [← hh, Bd.state]; rfl
  have N0 := Fr.nil n0
  have pre0 : ∀ t, Steps p.tables e below (s₁.setTop (mkF m 0 #[.val (.ref a1), .val (.ref a2), .unset] [])) t → Steps p.tables e below (s₁.setTop (entryFrame m #[(.ref a1), (.ref a2)] 3)) t := fun t k => castTop (ef_2 m a1 a2) k
  obtain ⟨T3, X3, e3, st3⟩ := getS2 X0 hx hZ hown (host := "") (Or.inl (hw _ (List.mem_of_getElem? (i := 34) rfl))) Via.refl e0 S_NUMERIC (g := (mkF m 1 #[.val (.ref a1), .val (.ref a2), .unset] [(.ref a2)])) rfl (hb hby d2_1)
  obtain ⟨T4, X4, e4, st4⟩ := getF X3 hx hZ hown (host := "") (Or.inl (hw _ (List.mem_of_getElem? (i := 35) rfl))) Via.refl e3 F_base_a1 (g := (mkF m 41 #[.val (.ref a1), .val (.ref a2), .val (.ref a1)] [(.ref a1)])) rfl rfl (hb hby d2_41)
  obtain ⟨fs, hr, hrun, hended, hW, hsame⟩ := X4.leave (v := some (.int (1 : Int32))) (fun h => by rw [Bd.returns] at h; cases h)
  refine ⟨_, _, pre0 _ ?_, hrun, hended, _, _, rfl, ?_, ⟨_, rfl⟩, hW, hsame.mono (by decide) (by decide)⟩
  · show Steps p.tables e below (s₁.setTop (mkF m 0 #[.val (.ref a1), .val (.ref a2), .unset] [])) _
    refine XS.aloadN X0.here hx rfl (hb hby d2_0) rfl rfl ?_
    show Steps p.tables e below (s₁.setTop (mkF m 1 #[.val (.ref a1), .val (.ref a2), .unset] [(.ref a2)])) _
    refine st3 _ ?_
    show Steps p.tables e below (T3.setTop (mkF m 4 #[.val (.ref a1), .val (.ref a2), .unset] [(.ref w_NUMERIC), (.ref a2)])) _
    refine Jvm.RoadKit.acmp (g := (mkF m 4 #[.val (.ref a1), .val (.ref a2), .unset] [(.ref w_NUMERIC), (.ref a2)])) X3 hx rfl rfl rfl (pc0 := 4) (pc' := 27) (same := false) rfl (hb hby d2_4) rfl (decide_eq_false fun q => ha4 (Value.ref.inj q)) (by decide) (by decide) ?_
    show Steps p.tables e below (T3.setTop (mkF m 27 #[.val (.ref a1), .val (.ref a2), .unset] [])) _
    refine XS.aloadN X3.here hx rfl (hb hby d2_27) rfl rfl ?_
    show Steps p.tables e below (T3.setTop (mkF m 28 #[.val (.ref a1), .val (.ref a2), .unset] [(.ref a1)])) _
    refine XS.astoreN X3.here hx rfl (hb hby d2_28) rfl rfl (l' := #[.val (.ref a1), .val (.ref a2), .val (.ref a1)]) rfl ?_
    show Steps p.tables e below (T3.setTop (mkF m 29 #[.val (.ref a1), .val (.ref a2), .val (.ref a1)] [])) _
    refine XS.aloadN X3.here hx rfl (hb hby d2_29) rfl rfl ?_
    show Steps p.tables e below (T3.setTop (mkF m 30 #[.val (.ref a1), .val (.ref a2), .val (.ref a1)] [(.ref a1)])) _
    refine XS.ifnullNo X3.here hx rfl (hb hby d2_30) rfl ?_
    show Steps p.tables e below (T3.setTop (mkF m 33 #[.val (.ref a1), .val (.ref a2), .val (.ref a1)] [])) _
    refine XS.aloadN X3.here hx rfl (hb hby d2_33) rfl rfl ?_
    show Steps p.tables e below (T3.setTop (mkF m 34 #[.val (.ref a1), .val (.ref a2), .val (.ref a1)] [(.ref a1)])) _
    refine XS.aloadN X3.here hx rfl (hb hby d2_34) rfl rfl ?_
    show Steps p.tables e below (T3.setTop (mkF m 35 #[.val (.ref a1), .val (.ref a2), .val (.ref a1)] [(.ref a2), (.ref a1)])) _
    refine Jvm.RoadKit.acmp (g := (mkF m 35 #[.val (.ref a1), .val (.ref a2), .val (.ref a1)] [(.ref a2), (.ref a1)])) X3 hx rfl rfl rfl (pc0 := 35) (pc' := 40) (same := false) rfl (hb hby d2_35) rfl (decide_eq_false fun q => ha35 (Value.ref.inj q)) (by decide) (by decide) ?_
    show Steps p.tables e below (T3.setTop (mkF m 40 #[.val (.ref a1), .val (.ref a2), .val (.ref a1)] [])) _
    refine XS.aloadN X3.here hx rfl (hb hby d2_40) rfl rfl ?_
    show Steps p.tables e below (T3.setTop (mkF m 41 #[.val (.ref a1), .val (.ref a2), .val (.ref a1)] [(.ref a1)])) _
    refine st4 _ ?_
    show Steps p.tables e below (T4.setTop (mkF m 44 #[.val (.ref a1), .val (.ref a2), .val (.ref a1)] [(.ref v_base_a1)])) _
    refine XS.astoreN X4.here hx rfl (hb hby d2_44) rfl rfl (l' := #[.val (.ref a1), .val (.ref a2), .val (.ref v_base_a1)]) rfl ?_
    show Steps p.tables e below (T4.setTop (mkF m 45 #[.val (.ref a1), .val (.ref a2), .val (.ref v_base_a1)] [])) _
    refine XS.goto X4.here hx rfl (pc0 := 45) (pc' := 29) rfl (hb hby d2_45) (by decide) (by decide) ?_
    show Steps p.tables e below (T4.setTop (mkF m 29 #[.val (.ref a1), .val (.ref a2), .val (.ref v_base_a1)] [])) _
    refine XS.aloadN X4.here hx rfl (hb hby d2_29) rfl rfl ?_
    show Steps p.tables e below (T4.setTop (mkF m 30 #[.val (.ref a1), .val (.ref a2), .val (.ref v_base_a1)] [(.ref v_base_a1)])) _
    refine XS.ifnullNo X4.here hx rfl (hb hby d2_30) rfl ?_
    show Steps p.tables e below (T4.setTop (mkF m 33 #[.val (.ref a1), .val (.ref a2), .val (.ref v_base_a1)] [])) _
    refine XS.aloadN X4.here hx rfl (hb hby d2_33) rfl rfl ?_
    show Steps p.tables e below (T4.setTop (mkF m 34 #[.val (.ref a1), .val (.ref a2), .val (.ref v_base_a1)] [(.ref v_base_a1)])) _
    refine XS.aloadN X4.here hx rfl (hb hby d2_34) rfl rfl ?_
    show Steps p.tables e below (T4.setTop (mkF m 35 #[.val (.ref a1), .val (.ref a2), .val (.ref v_base_a1)] [(.ref a2), (.ref v_base_a1)])) _
    refine Jvm.RoadKit.acmp (g := (mkF m 35 #[.val (.ref a1), .val (.ref a2), .val (.ref v_base_a1)] [(.ref a2), (.ref v_base_a1)])) X4 hx rfl rfl rfl (pc0 := 35) (pc' := 38) (same := true) rfl (hb hby d2_35) rfl (decide_eq_true (congrArg Value.ref ha35_2)) (by decide) (by decide) ?_
    show Steps p.tables e below (T4.setTop (mkF m 38 #[.val (.ref a1), .val (.ref a2), .val (.ref v_base_a1)] [])) _
    refine XS.iconst X4.here hx rfl (hb hby d2_38) ?_
    show Steps p.tables e below (T4.setTop (mkF m 39 #[.val (.ref a1), .val (.ref a2), .val (.ref v_base_a1)] [(.int (1 : Int32))])) _
    exact retN X4 hx (t := .boolean) Bd.returns (by simp) (hb hby d2_39) hr
  · show QP (.int (1 : Int32)) h0 n0 _ T4.heap _
    rw [e4]
    exact ⟨rfl, N0, rfl⟩
set_option maxRecDepth 65536 in
set_option maxHeartbeats 40000000 in
theorem rm2_tftftt (l : Launch) (Z : State) (a0 : Array Value) (hw : ∀ d ∈ tables_1, d.before a0 Z = true) (ws : List Jvm.Cond) (a1 : Addr) (a2 : Addr) (w_NUMERIC : Addr) (v_base_a1 : Addr) (h0 : Heap) (n0 : Nat) (Z0 : n0 ≤ h0.size) (S_NUMERIC : Sta Z h0 "com/example/sluice/sluice/xpath/AtomicType" "NUMERIC" "Lcom/example/sluice/sluice/xpath/AtomicType;" (.ref w_NUMERIC)) (F_base_a1 : Fld Z h0 a1 "com/example/sluice/sluice/xpath/AtomicType" "base" "Lcom/example/sluice/sluice/xpath/AtomicType;" (.ref v_base_a1)) (F_base_v_base_a1 : Fld Z h0 v_base_a1 "com/example/sluice/sluice/xpath/AtomicType" "base" "Lcom/example/sluice/sluice/xpath/AtomicType;" .null) (ha4 : ¬ (a2 = w_NUMERIC)) (ha35 : ¬ (a1 = a2)) (ha35_2 : ¬ (v_base_a1 = a2)) :
    MetFree l (⟨"com/example/sluice/sluice/xpath/AtomicType", "isSubtypeOf", "(Lcom/example/sluice/sluice/xpath/AtomicType;)Z"⟩ : MethodName) (head1 (Jvm.Cond.code (⟨"com/example/sluice/sluice/xpath/AtomicType", "isSubtypeOf", "(Lcom/example/sluice/sluice/xpath/AtomicType;)Z"⟩ : MethodName) prog_59_method_8_code 3 (some .boolean) :: ws) ({ frames := 0, cells := 0, slots := 0, locals := 0 } : Room)) (fun a U => a = #[(.ref a1), (.ref a2)] ∧ Z.Warmed39 U.vm ∧ U.heap = h0) (fun _ _ _ _ _ => True) (fun _ U o U' => ∃ v L, o = .returned v ∧ QP (.int (0 : Int32)) h0 n0 v U'.heap L ∧ FrameEnd U o U' L ({ frames := 0, cells := 0, slots := 0, locals := 0 } : Room).cells ({ frames := 0, cells := 0, slots := 0, locals := 0 } : Room).slots) := by
  refine MetFree.of_bodySF (plainFor_of_name pn_2) hisR ?_
  intro p e s m args below meth c s₁ Bd hml0 hP hK
  obtain ⟨rfl, hZ, hh⟩ := hP
  have hx := Bd.exec
  have hby := Bd.bytes
  have hml : c.maxLocals = 3 := hml0
  have hown : s.vm.findClass "com/example/sluice/sluice/xpath/AtomicType" = some m.cls := findClass_of_methodNamed Bd.named
  have hnm := (name_of_methodNamed Bd.named Bd.method).1
  have X0 : Stand p l e ({ frames := 0, cells := 0, slots := 0, locals := 0 } : Room) s m #[(.ref a1), (.ref a2)] below meth c s₁ [] 0 0 := Stand.of_body Bd
  have e0 : s₁.heap = h0 := by rw [← hh, Bd.state]; rfl
  have N0 := Fr.nil n0
  have pre0 : ∀ t, Steps p.tables e below (s₁.setTop (mkF m 0 #[.val (.ref a1), .val (.ref a2), .unset] [])) t → Steps p.tables e below (s₁.setTop (entryFrame m #[(.ref a1), (.ref a2)] 3)) t := fun t k => castTop (ef_2 m a1 a2) k
  obtain ⟨T3, X3, e3, st3⟩ := getS2 X0 hx hZ hown (host := "") (Or.inl (hw _ (List.mem_of_getElem? (i := 34) rfl))) Via.refl e0 S_NUMERIC (g := (mkF m 1 #[.val (.ref a1), .val (.ref a2), .unset] [(.ref a2)])) rfl (hb hby d2_1)
  obtain ⟨T4, X4, e4, st4⟩ := getF X3 hx hZ hown (host := "") (Or.inl (hw _ (List.mem_of_getElem? (i := 35) rfl))) Via.refl e3 F_base_a1 (g := (mkF m 41 #[.val (.ref a1), .val (.ref a2), .val (.ref a1)] [(.ref a1)])) rfl rfl (hb hby d2_41)
  obtain ⟨T5, X5, e5, st5⟩ := getF X4 hx hZ hown (host := "") (Or.inl (hw _ (List.mem_of_getElem? (i := 35) rfl))) Via.refl e4 F_base_v_base_a1 (g := (mkF m 41 #[.val (.ref a1), .val (.ref a2), .val (.ref v_base_a1)] [(.ref v_base_a1)])) rfl rfl (hb hby d2_41)
  obtain ⟨fs, hr, hrun, hended, hW, hsame⟩ := X5.leave (v := some (.int (0 : Int32))) (fun h => by rw [Bd.returns] at h; cases h)
  refine ⟨_, _, pre0 _ ?_, hrun, hended, _, _, rfl, ?_, ⟨_, rfl⟩, hW, hsame.mono (by decide) (by decide)⟩
  · show Steps p.tables e below (s₁.setTop (mkF m 0 #[.val (.ref a1), .val (.ref a2), .unset] [])) _
    refine XS.aloadN X0.here hx rfl (hb hby d2_0) rfl rfl ?_
    show Steps p.tables e below (s₁.setTop (mkF m 1 #[.val (.ref a1), .val (.ref a2), .unset] [(.ref a2)])) _
    refine st3 _ ?_
    show Steps p.tables e below (T3.setTop (mkF m 4 #[.val (.ref a1), .val (.ref a2), .unset] [(.ref w_NUMERIC), (.ref a2)])) _
    refine Jvm.RoadKit.acmp (g := (mkF m 4 #[.val (.ref a1), .val (.ref a2), .unset] [(.ref w_NUMERIC), (.ref a2)])) X3 hx rfl rfl rfl (pc0 := 4) (pc' := 27) (same := false) rfl (hb hby d2_4) rfl (decide_eq_false fun q => ha4 (Value.ref.inj q)) (by decide) (by decide) ?_
    show Steps p.tables e below (T3.setTop (mkF m 27 #[.val (.ref a1), .val (.ref a2), .unset] [])) _
    refine XS.aloadN X3.here hx rfl (hb hby d2_27) rfl rfl ?_
    show Steps p.tables e below (T3.setTop (mkF m 28 #[.val (.ref a1), .val (.ref a2), .unset] [(.ref a1)])) _
    refine XS.astoreN X3.here hx rfl (hb hby d2_28) rfl rfl (l' := #[.val (.ref a1), .val (.ref a2), .val (.ref a1)]) rfl ?_
    show Steps p.tables e below (T3.setTop (mkF m 29 #[.val (.ref a1), .val (.ref a2), .val (.ref a1)] [])) _
    refine XS.aloadN X3.here hx rfl (hb hby d2_29) rfl rfl ?_
    show Steps p.tables e below (T3.setTop (mkF m 30 #[.val (.ref a1), .val (.ref a2), .val (.ref a1)] [(.ref a1)])) _
    refine XS.ifnullNo X3.here hx rfl (hb hby d2_30) rfl ?_
    show Steps p.tables e below (T3.setTop (mkF m 33 #[.val (.ref a1), .val (.ref a2), .val (.ref a1)] [])) _
    refine XS.aloadN X3.here hx rfl (hb hby d2_33) rfl rfl ?_
    show Steps p.tables e below (T3.setTop (mkF m 34 #[.val (.ref a1), .val (.ref a2), .val (.ref a1)] [(.ref a1)])) _
    refine XS.aloadN X3.here hx rfl (hb hby d2_34) rfl rfl ?_
    show Steps p.tables e below (T3.setTop (mkF m 35 #[.val (.ref a1), .val (.ref a2), .val (.ref a1)] [(.ref a2), (.ref a1)])) _
    refine Jvm.RoadKit.acmp (g := (mkF m 35 #[.val (.ref a1), .val (.ref a2), .val (.ref a1)] [(.ref a2), (.ref a1)])) X3 hx rfl rfl rfl (pc0 := 35) (pc' := 40) (same := false) rfl (hb hby d2_35) rfl (decide_eq_false fun q => ha35 (Value.ref.inj q)) (by decide) (by decide) ?_
    show Steps p.tables e below (T3.setTop (mkF m 40 #[.val (.ref a1), .val (.ref a2), .val (.ref a1)] [])) _
    refine XS.aloadN X3.here hx rfl (hb hby d2_40) rfl rfl ?_
    show Steps p.tables e below (T3.setTop (mkF m 41 #[.val (.ref a1), .val (.ref a2), .val (.ref a1)] [(.ref a1)])) _
    refine st4 _ ?_
    show Steps p.tables e below (T4.setTop (mkF m 44 #[.val (.ref a1), .val (.ref a2), .val (.ref a1)] [(.ref v_base_a1)])) _
    refine XS.astoreN X4.here hx rfl (hb hby d2_44) rfl rfl (l' := #[.val (.ref a1), .val (.ref a2), .val (.ref v_base_a1)]) rfl ?_
    show Steps p.tables e below (T4.setTop (mkF m 45 #[.val (.ref a1), .val (.ref a2), .val (.ref v_base_a1)] [])) _
    refine XS.goto X4.here hx rfl (pc0 := 45) (pc' := 29) rfl (hb hby d2_45) (by decide) (by decide) ?_
    show Steps p.tables e below (T4.setTop (mkF m 29 #[.val (.ref a1), .val (.ref a2), .val (.ref v_base_a1)] [])) _
    refine XS.aloadN X4.here hx rfl (hb hby d2_29) rfl rfl ?_
    show Steps p.tables e below (T4.setTop (mkF m 30 #[.val (.ref a1), .val (.ref a2), .val (.ref v_base_a1)] [(.ref v_base_a1)])) _
    refine XS.ifnullNo X4.here hx rfl (hb hby d2_30) rfl ?_
    show Steps p.tables e below (T4.setTop (mkF m 33 #[.val (.ref a1), .val (.ref a2), .val (.ref v_base_a1)] [])) _
    refine XS.aloadN X4.here hx rfl (hb hby d2_33) rfl rfl ?_
    show Steps p.tables e below (T4.setTop (mkF m 34 #[.val (.ref a1), .val (.ref a2), .val (.ref v_base_a1)] [(.ref v_base_a1)])) _
    refine XS.aloadN X4.here hx rfl (hb hby d2_34) rfl rfl ?_
    show Steps p.tables e below (T4.setTop (mkF m 35 #[.val (.ref a1), .val (.ref a2), .val (.ref v_base_a1)] [(.ref a2), (.ref v_base_a1)])) _
    refine Jvm.RoadKit.acmp (g := (mkF m 35 #[.val (.ref a1), .val (.ref a2), .val (.ref v_base_a1)] [(.ref a2), (.ref v_base_a1)])) X4 hx rfl rfl rfl (pc0 := 35) (pc' := 40) (same := false) rfl (hb hby d2_35) rfl (decide_eq_false fun q => ha35_2 (Value.ref.inj q)) (by decide) (by decide) ?_
    show Steps p.tables e below (T4.setTop (mkF m 40 #[.val (.ref a1), .val (.ref a2), .val (.ref v_base_a1)] [])) _
    refine XS.aloadN X4.here hx rfl (hb hby d2_40) rfl rfl ?_
    show Steps p.tables e below (T4.setTop (mkF m 41 #[.val (.ref a1), .val (.ref a2), .val (.ref v_base_a1)] [(.ref v_base_a1)])) _
    refine st5 _ ?_
    show Steps p.tables e below (T5.setTop (mkF m 44 #[.val (.ref a1), .val (.ref a2), .val (.ref v_base_a1)] [.null])) _
    refine XS.astoreN X5.here hx rfl (hb hby d2_44) rfl rfl (l' := #[.val (.ref a1), .val (.ref a2), .val .null]) rfl ?_
    show Steps p.tables e below (T5.setTop (mkF m 45 #[.val (.ref a1), .val (.ref a2), .val .null] [])) _
    refine XS.goto X5.here hx rfl (pc0 := 45) (pc' := 29) rfl (hb hby d2_45) (by decide) (by decide) ?_
    show Steps p.tables e below (T5.setTop (mkF m 29 #[.val (.ref a1), .val (.ref a2), .val .null] [])) _
    refine XS.aloadN X5.here hx rfl (hb hby d2_29) rfl rfl ?_
    show Steps p.tables e below (T5.setTop (mkF m 30 #[.val (.ref a1), .val (.ref a2), .val .null] [.null])) _
    refine XS.ifnullYes X5.here hx rfl (pc0 := 30) (pc' := 48) rfl (hb hby d2_30) rfl (by decide) (by decide) ?_
    show Steps p.tables e below (T5.setTop (mkF m 48 #[.val (.ref a1), .val (.ref a2), .val .null] [])) _
    refine XS.iconst X5.here hx rfl (hb hby d2_48) ?_
    show Steps p.tables e below (T5.setTop (mkF m 49 #[.val (.ref a1), .val (.ref a2), .val .null] [(.int (0 : Int32))])) _
    exact retN X5 hx (t := .boolean) Bd.returns (by simp) (hb hby d2_49) hr
  · show QP (.int (0 : Int32)) h0 n0 _ T5.heap _
    rw [e5]
    exact ⟨rfl, N0, rfl⟩
def Sub (Z : State) (h0 : Heap) (a1 a2 : Addr) (r : Int32) : Prop := (a1 = a2 ∧ r = 1) ∨ (¬ a1 = a2 ∧ Fld Z h0 a1 "com/example/sluice/sluice/xpath/AtomicType" "base" "Lcom/example/sluice/sluice/xpath/AtomicType;" .null ∧ r = 0) ∨ (∃ b, ¬ a1 = a2 ∧ Fld Z h0 a1 "com/example/sluice/sluice/xpath/AtomicType" "base" "Lcom/example/sluice/sluice/xpath/AtomicType;" (.ref b) ∧ b = a2 ∧ r = 1) ∨ (∃ b, ¬ a1 = a2 ∧ Fld Z h0 a1 "com/example/sluice/sluice/xpath/AtomicType" "base" "Lcom/example/sluice/sluice/xpath/AtomicType;" (.ref b) ∧ ¬ b = a2 ∧ Fld Z h0 b "com/example/sluice/sluice/xpath/AtomicType" "base" "Lcom/example/sluice/sluice/xpath/AtomicType;" .null ∧ r = 0)
theorem own_mem0 (a : Addr) : a ∉ ([] : List Addr) := fun h => nomatch h
theorem Sub.keep {Z : State} {h h' : Heap} {a1 a2 : Addr} {r : Int32} (S : Sub Z h a1 a2 r) (K : Keep h h' []) : Sub Z h' a1 a2 r := by
  rcases S with S | ⟨n1, f1, e⟩ | ⟨b, n1, f1, e1, e⟩ | ⟨b, n1, f1, n2, f2, e⟩
  · exact Or.inl S
  · exact Or.inr (Or.inl ⟨n1, f1.keep K (own_mem0 _), e⟩)
  · exact Or.inr (Or.inr (Or.inl ⟨b, n1, f1.keep K (own_mem0 _), e1, e⟩))
  · exact Or.inr (Or.inr (Or.inr ⟨b, n1, f1.keep K (own_mem0 _), n2, f2.keep K (own_mem0 _), e⟩))
theorem rm2 (l : Launch) (Z : State) (a0 : Array Value) (hw : ∀ d ∈ tables_1, d.before a0 Z = true) (ws : List Jvm.Cond) (a1 : Addr) (a2 : Addr) (w_NUMERIC : Addr) (r : Int32) (h0 : Heap) (n0 : Nat) (Z0 : n0 ≤ h0.size) (S_NUMERIC : Sta Z h0 "com/example/sluice/sluice/xpath/AtomicType" "NUMERIC" "Lcom/example/sluice/sluice/xpath/AtomicType;" (.ref w_NUMERIC)) (ha4 : ¬ (a2 = w_NUMERIC)) (hs : Sub Z h0 a1 a2 r) :
    MetFree l (⟨"com/example/sluice/sluice/xpath/AtomicType", "isSubtypeOf", "(Lcom/example/sluice/sluice/xpath/AtomicType;)Z"⟩ : MethodName) (head1 (Jvm.Cond.code (⟨"com/example/sluice/sluice/xpath/AtomicType", "isSubtypeOf", "(Lcom/example/sluice/sluice/xpath/AtomicType;)Z"⟩ : MethodName) prog_59_method_8_code 3 (some .boolean) :: ws) ({ frames := 0, cells := 0, slots := 0, locals := 0 } : Room)) (fun a U => a = #[(.ref a1), (.ref a2)] ∧ Z.Warmed39 U.vm ∧ U.heap = h0) (fun _ _ _ _ _ => True) (fun _ U o U' => ∃ v L, o = .returned v ∧ QP (.int r) h0 n0 v U'.heap L ∧ FrameEnd U o U' L ({ frames := 0, cells := 0, slots := 0, locals := 0 } : Room).cells ({ frames := 0, cells := 0, slots := 0, locals := 0 } : Room).slots) := by
  rcases hs with ⟨e1, rfl⟩ | ⟨n1, f1, rfl⟩ | ⟨b, n1, f1, e1, rfl⟩ | ⟨b, n1, f1, n2, f2, rfl⟩
  · exact rm2_tff l Z a0 hw ws a1 a2 w_NUMERIC h0 n0 Z0 S_NUMERIC ha4 e1
  · exact rm2_tftt l Z a0 hw ws a1 a2 w_NUMERIC h0 n0 Z0 S_NUMERIC f1 ha4 n1
  · exact rm2_tftff l Z a0 hw ws a1 a2 w_NUMERIC b h0 n0 Z0 S_NUMERIC f1 ha4 n1 e1
  · exact rm2_tftftt l Z a0 hw ws a1 a2 w_NUMERIC b h0 n0 Z0 S_NUMERIC f1 f2 ha4 n1 n2
theorem pn_0 : plainName "com/example/sluice/sluice/xpath/AtomicTypeIsNumericPinLaw" = true := by first | (simp [plainName, overriddenIn]; done) | decide +kernel
theorem pd_0_0 : parseMethodDescriptor "()Z" = some ⟨[], some .boolean⟩ := by decide +kernel
theorem pd_0_1 : parseMethodDescriptor "(Lcom/example/sluice/sluice/xpath/AtomicType;)Z" = some ⟨[(.object "com/example/sluice/sluice/xpath/AtomicType")], some .boolean⟩ := by decide +kernel
theorem ef_0 (m : MethodId) (x0 : Int32) : entryFrame m #[(.int x0)] maxLocals = mkF m 0 #[.val (.int x0), .unset, .unset, .unset, .unset, .unset, .unset] [] := by first | (simp [entryFrame, mkF, argsToLocals, Value.category, maxLocals]; done) | rfl
def QL (h0 : Heap) (n0 : Nat) (v : Option Value) (h : Heap) (L : List Loc) : Prop := v = some (.int 1) ∧ Fr n0 L
set_option maxRecDepth 65536 in
set_option maxHeartbeats 40000000 in
theorem rm0_fftftff (l : Launch) (Z : State) (a0 : Array Value) (hw : ∀ d ∈ tables_1, d.before a0 Z = true) (ws : List Jvm.Cond) (p1 : Int32) (w_ANY_ATOMIC : Addr) (w_UNTYPED_ATOMIC : Addr) (w_STRING : Addr) (w_BOOLEAN : Addr) (w_DECIMAL : Addr) (w_INTEGER : Addr) (w_DOUBLE : Addr) (w_NUMERIC : Addr) (w_r : Addr) (s1 : Int32) (s2 : Int32) (h0 : Heap) (n0 : Nat) (Z0 : n0 ≤ h0.size) (S_ANY_ATOMIC : Sta Z h0 "com/example/sluice/sluice/xpath/AtomicType" "ANY_ATOMIC" "Lcom/example/sluice/sluice/xpath/AtomicType;" (.ref w_ANY_ATOMIC)) (E_w_ANY_ATOMIC : Exa Z h0 w_ANY_ATOMIC "com/example/sluice/sluice/xpath/AtomicType") (S_UNTYPED_ATOMIC : Sta Z h0 "com/example/sluice/sluice/xpath/AtomicType" "UNTYPED_ATOMIC" "Lcom/example/sluice/sluice/xpath/AtomicType;" (.ref w_UNTYPED_ATOMIC)) (E_w_UNTYPED_ATOMIC : Exa Z h0 w_UNTYPED_ATOMIC "com/example/sluice/sluice/xpath/AtomicType") (S_STRING : Sta Z h0 "com/example/sluice/sluice/xpath/AtomicType" "STRING" "Lcom/example/sluice/sluice/xpath/AtomicType;" (.ref w_STRING)) (E_w_STRING : Exa Z h0 w_STRING "com/example/sluice/sluice/xpath/AtomicType") (S_BOOLEAN : Sta Z h0 "com/example/sluice/sluice/xpath/AtomicType" "BOOLEAN" "Lcom/example/sluice/sluice/xpath/AtomicType;" (.ref w_BOOLEAN)) (E_w_BOOLEAN : Exa Z h0 w_BOOLEAN "com/example/sluice/sluice/xpath/AtomicType") (S_DECIMAL : Sta Z h0 "com/example/sluice/sluice/xpath/AtomicType" "DECIMAL" "Lcom/example/sluice/sluice/xpath/AtomicType;" (.ref w_DECIMAL)) (E_w_DECIMAL : Exa Z h0 w_DECIMAL "com/example/sluice/sluice/xpath/AtomicType") (S_INTEGER : Sta Z h0 "com/example/sluice/sluice/xpath/AtomicType" "INTEGER" "Lcom/example/sluice/sluice/xpath/AtomicType;" (.ref w_INTEGER)) (E_w_INTEGER : Exa Z h0 w_INTEGER "com/example/sluice/sluice/xpath/AtomicType") (S_DOUBLE : Sta Z h0 "com/example/sluice/sluice/xpath/AtomicType" "DOUBLE" "Lcom/example/sluice/sluice/xpath/AtomicType;" (.ref w_DOUBLE)) (E_w_DOUBLE : Exa Z h0 w_DOUBLE "com/example/sluice/sluice/xpath/AtomicType") (S_NUMERIC : Sta Z h0 "com/example/sluice/sluice/xpath/AtomicType" "NUMERIC" "Lcom/example/sluice/sluice/xpath/AtomicType;" (.ref w_NUMERIC)) (E_w_NUMERIC : Exa Z h0 w_NUMERIC "com/example/sluice/sluice/xpath/AtomicType") (hij66 : ¬ ((p1 &&& (2147483647 : Int32)) % (8 : Int32)) < 0 ∧ ((p1 &&& (2147483647 : Int32)) % (8 : Int32)) < (8 : Int32)) (hsel66 : List.getD ([(.ref w_ANY_ATOMIC), (.ref w_UNTYPED_ATOMIC), (.ref w_STRING), (.ref w_BOOLEAN), (.ref w_DECIMAL), (.ref w_INTEGER), (.ref w_DOUBLE), (.ref w_NUMERIC)] : List Value) (((p1 &&& (2147483647 : Int32)) % (8 : Int32))).toNatClampNeg .null = .ref w_r) (E_w_r : Exa Z h0 w_r "com/example/sluice/sluice/xpath/AtomicType") (nq1 : ¬ (w_DECIMAL = w_NUMERIC)) (nq2 : ¬ (w_DOUBLE = w_NUMERIC)) (hs1 : Sub Z h0 w_r w_DECIMAL s1) (hs2 : Sub Z h0 w_r w_DOUBLE s2) (hc76 : ¬ (((p1 &&& (2147483647 : Int32)) % (8 : Int32)) = (4 : Int32))) (hc81 : ¬ (((p1 &&& (2147483647 : Int32)) % (8 : Int32)) = (5 : Int32))) (hc87 : ¬ (((p1 &&& (2147483647 : Int32)) % (8 : Int32)) = (6 : Int32))) (hc104 : s1 = (0 : Int32)) (hc114 : s2 = (0 : Int32)) (hc128 : (own_num w_r w_INTEGER w_DECIMAL w_DOUBLE) = (0 : Int32)) (hc135 : (own_num w_r w_INTEGER w_DECIMAL w_DOUBLE) = (0 : Int32)) :
    MetFree l x (head1 (Jvm.Cond.code x code maxLocals ret :: ws) room_1) (fun a U => a = #[(.int p1)] ∧ Z.Warmed39 U.vm ∧ U.heap = h0) (fun _ _ _ _ _ => True) (fun _ U o U' => ∃ v L, o = .returned v ∧ QL h0 n0 v U'.heap L ∧ FrameEnd U o U' L room_1.cells room_1.slots) := by
  refine MetFree.of_bodySF (plainFor_of_name pn_0) hisR ?_
  intro p e s m args below meth c s₁ Bd hml0 hP hK
  obtain ⟨rfl, hZ, hh⟩ := hP
  have hx := Bd.exec
  have hby := Bd.bytes
  have hml : c.maxLocals = 7 := hml0
  have hown : s.vm.findClass "com/example/sluice/sluice/xpath/AtomicTypeIsNumericPinLaw" = some m.cls := findClass_of_methodNamed Bd.named
  have hnm := (name_of_methodNamed Bd.named Bd.method).1
  have X0 : Stand p l e room_1 s m #[(.int p1)] below meth c s₁ [] 0 0 := Stand.of_body Bd
  have e0 : s₁.heap = h0 := by rw [← hh, Bd.state]; rfl
  have N0 := Fr.nil n0
  have pre0 : ∀ t, Steps p.tables e below (s₁.setTop (mkF m 0 #[.val (.int p1), .unset, .unset, .unset, .unset, .unset, .unset] [])) t → Steps p.tables e below (s₁.setTop (entryFrame m #[(.int p1)] maxLocals)) t := fun t k => castTop (ef_0 m p1) k
  obtain ⟨T2, h2, k2, X2, e2, E2, A2, O2, st2⟩ := newR X0 hx hZ hown (hw _ (List.mem_of_getElem? (i := 0) rfl)) (hw _ (List.mem_of_getElem? (i := 1) rfl)) e0 (g := (mkF m 2 #[.val (.int p1), .unset, .unset, .unset, .unset, .unset, .unset] [(.int (8 : Int32))])) rfl (hb hby at_2) rfl (by decide) (cap := 8) (by decide) (by decide) (by decide) (by decide)
  obtain ⟨b2, g2⟩ : ∃ z, z = h0.size := ⟨_, rfl⟩
  rw [← g2] at A2 st2
  have V_b2 : Arv Z h2 b2 k2 (.object "com/example/sluice/sluice/xpath/AtomicType") (8 : Int32) [.null, .null, .null, .null, .null, .null, .null, .null] .null := (Arv.new A2 (by decide)).pad (pad_rep [] .null 8)
  skip
  have g_b2 : n0 ≤ b2 := Nat.le_trans Z0 (Nat.le_of_eq g2.symm)
  have sz_b2 : h0.size ≤ b2 := (Nat.le_trans (Keep.refl h0 []).1 (Nat.le_of_eq g2.symm))
  have K2 : Keep h0 h2 [] := (Keep.refl h0 []).ext E2
  obtain ⟨T3, X3, e3, st3⟩ := getS2 X2 hx hZ hown (host := "") (Or.inl (hw _ (List.mem_of_getElem? (i := 2) rfl))) Via.refl e2 (S_ANY_ATOMIC.ext E2) (g := (mkF m 7 #[.val (.int p1), .unset, .unset, .unset, .unset, .unset, .unset] [(.int (0 : Int32)), (.ref b2), (.ref b2)])) rfl (hb hby at_7)
  obtain ⟨cl_b2_10, Ar_b2, q_b2, S_b2, N_b2, H_b2, G_b2⟩ := V_b2
  have hin10 : ¬ ((0 : Int32) < 0 ∨ cl_b2_10.slots.size ≤ ((0 : Int32)).toNatClampNeg) := inb_of S_b2 ⟨by decide, by decide⟩
  have Sto10 : Sto Z h2 b2 (.ref w_ANY_ATOMIC) := Sto.ofV Ar_b2 q_b2 O2 (Ins.self (E_w_ANY_ATOMIC.ext E2))
  obtain ⟨T4, h4, X4, e4, W4, st4⟩ := stR X3 hx hZ e3 Ar_b2 (j := (0 : Int32)) hin10 rfl Sto10 (g := (mkF m 10 #[.val (.int p1), .unset, .unset, .unset, .unset, .unset, .unset] [(.ref w_ANY_ATOMIC), (.int (0 : Int32)), (.ref b2), (.ref b2)])) rfl rfl (hb hby at_10)
  have V_b2_4 : Arv Z h4 b2 k2 (.object "com/example/sluice/sluice/xpath/AtomicType") (8 : Int32) [(.ref w_ANY_ATOMIC), .null, .null, .null, .null, .null, .null, .null] .null := Arv.set Ar_b2 q_b2 S_b2 N_b2 H_b2 G_b2 rfl W4 0 rfl (Nat.le_of_ble_eq_true rfl)
  have K4 : Keep h0 h4 [] := K2.wr W4 (Or.inr sz_b2)
  have N4 := Fr.snoc X4 N0 g_b2
  obtain ⟨T5, X5, e5, st5⟩ := getS2 X4 hx hZ hown (host := "") (Or.inl (hw _ (List.mem_of_getElem? (i := 6) rfl))) Via.refl e4 ((S_UNTYPED_ATOMIC.ext E2).wr W4) (g := (mkF m 13 #[.val (.int p1), .unset, .unset, .unset, .unset, .unset, .unset] [(.int (1 : Int32)), (.ref b2), (.ref b2)])) rfl (hb hby at_13)
  obtain ⟨cl_b2_16, Ar_b2, q_b2, S_b2, N_b2, H_b2, G_b2⟩ := V_b2_4
  have hin16 : ¬ ((1 : Int32) < 0 ∨ cl_b2_16.slots.size ≤ ((1 : Int32)).toNatClampNeg) := inb_of S_b2 ⟨by decide, by decide⟩
  have Sto16 : Sto Z h4 b2 (.ref w_UNTYPED_ATOMIC) := Sto.ofV Ar_b2 q_b2 O2 (Ins.self ((E_w_UNTYPED_ATOMIC.ext E2).wr W4))
  obtain ⟨T6, h6, X6, e6, W6, st6⟩ := stR X5 hx hZ e5 Ar_b2 (j := (1 : Int32)) hin16 rfl Sto16 (g := (mkF m 16 #[.val (.int p1), .unset, .unset, .unset, .unset, .unset, .unset] [(.ref w_UNTYPED_ATOMIC), (.int (1 : Int32)), (.ref b2), (.ref b2)])) rfl rfl (hb hby at_16)
  have V_b2_6 : Arv Z h6 b2 k2 (.object "com/example/sluice/sluice/xpath/AtomicType") (8 : Int32) [(.ref w_ANY_ATOMIC), (.ref w_UNTYPED_ATOMIC), .null, .null, .null, .null, .null, .null] .null := Arv.set Ar_b2 q_b2 S_b2 N_b2 H_b2 G_b2 rfl W6 1 rfl (Nat.le_of_ble_eq_true rfl)
  have K6 : Keep h0 h6 [] := K4.wr W6 (Or.inr sz_b2)
  have N6 := Fr.snoc X6 N4 g_b2
  obtain ⟨T7, X7, e7, st7⟩ := getS2 X6 hx hZ hown (host := "") (Or.inl (hw _ (List.mem_of_getElem? (i := 8) rfl))) Via.refl e6 (((S_STRING.ext E2).wr W4).wr W6) (g := (mkF m 19 #[.val (.int p1), .unset, .unset, .unset, .unset, .unset, .unset] [(.int (2 : Int32)), (.ref b2), (.ref b2)])) rfl (hb hby at_19)
  obtain ⟨cl_b2_22, Ar_b2, q_b2, S_b2, N_b2, H_b2, G_b2⟩ := V_b2_6
  have hin22 : ¬ ((2 : Int32) < 0 ∨ cl_b2_22.slots.size ≤ ((2 : Int32)).toNatClampNeg) := inb_of S_b2 ⟨by decide, by decide⟩
  have Sto22 : Sto Z h6 b2 (.ref w_STRING) := Sto.ofV Ar_b2 q_b2 O2 (Ins.self (((E_w_STRING.ext E2).wr W4).wr W6))
  obtain ⟨T8, h8, X8, e8, W8, st8⟩ := stR X7 hx hZ e7 Ar_b2 (j := (2 : Int32)) hin22 rfl Sto22 (g := (mkF m 22 #[.val (.int p1), .unset, .unset, .unset, .unset, .unset, .unset] [(.ref w_STRING), (.int (2 : Int32)), (.ref b2), (.ref b2)])) rfl rfl (hb hby at_22)
  have V_b2_8 : Arv Z h8 b2 k2 (.object "com/example/sluice/sluice/xpath/AtomicType") (8 : Int32) [(.ref w_ANY_ATOMIC), (.ref w_UNTYPED_ATOMIC), (.ref w_STRING), .null, .null, .null, .null, .null] .null := Arv.set Ar_b2 q_b2 S_b2 N_b2 H_b2 G_b2 rfl W8 2 rfl (Nat.le_of_ble_eq_true rfl)
  have K8 : Keep h0 h8 [] := K6.wr W8 (Or.inr sz_b2)
  have N8 := Fr.snoc X8 N6 g_b2
  obtain ⟨T9, X9, e9, st9⟩ := getS2 X8 hx hZ hown (host := "") (Or.inl (hw _ (List.mem_of_getElem? (i := 10) rfl))) Via.refl e8 ((((S_BOOLEAN.ext E2).wr W4).wr W6).wr W8) (g := (mkF m 25 #[.val (.int p1), .unset, .unset, .unset, .unset, .unset, .unset] [(.int (3 : Int32)), (.ref b2), (.ref b2)])) rfl (hb hby at_25)
  obtain ⟨cl_b2_28, Ar_b2, q_b2, S_b2, N_b2, H_b2, G_b2⟩ := V_b2_8
  have hin28 : ¬ ((3 : Int32) < 0 ∨ cl_b2_28.slots.size ≤ ((3 : Int32)).toNatClampNeg) := inb_of S_b2 ⟨by decide, by decide⟩
  have Sto28 : Sto Z h8 b2 (.ref w_BOOLEAN) := Sto.ofV Ar_b2 q_b2 O2 (Ins.self ((((E_w_BOOLEAN.ext E2).wr W4).wr W6).wr W8))
  obtain ⟨T10, h10, X10, e10, W10, st10⟩ := stR X9 hx hZ e9 Ar_b2 (j := (3 : Int32)) hin28 rfl Sto28 (g := (mkF m 28 #[.val (.int p1), .unset, .unset, .unset, .unset, .unset, .unset] [(.ref w_BOOLEAN), (.int (3 : Int32)), (.ref b2), (.ref b2)])) rfl rfl (hb hby at_28)
  have V_b2_10 : Arv Z h10 b2 k2 (.object "com/example/sluice/sluice/xpath/AtomicType") (8 : Int32) [(.ref w_ANY_ATOMIC), (.ref w_UNTYPED_ATOMIC), (.ref w_STRING), (.ref w_BOOLEAN), .null, .null, .null, .null] .null := Arv.set Ar_b2 q_b2 S_b2 N_b2 H_b2 G_b2 rfl W10 3 rfl (Nat.le_of_ble_eq_true rfl)
  have K10 : Keep h0 h10 [] := K8.wr W10 (Or.inr sz_b2)
  have N10 := Fr.snoc X10 N8 g_b2
  obtain ⟨T11, X11, e11, st11⟩ := getS2 X10 hx hZ hown (host := "") (Or.inl (hw _ (List.mem_of_getElem? (i := 12) rfl))) Via.refl e10 (((((S_DECIMAL.ext E2).wr W4).wr W6).wr W8).wr W10) (g := (mkF m 31 #[.val (.int p1), .unset, .unset, .unset, .unset, .unset, .unset] [(.int (4 : Int32)), (.ref b2), (.ref b2)])) rfl (hb hby at_31)
  obtain ⟨cl_b2_34, Ar_b2, q_b2, S_b2, N_b2, H_b2, G_b2⟩ := V_b2_10
  have hin34 : ¬ ((4 : Int32) < 0 ∨ cl_b2_34.slots.size ≤ ((4 : Int32)).toNatClampNeg) := inb_of S_b2 ⟨by decide, by decide⟩
  have Sto34 : Sto Z h10 b2 (.ref w_DECIMAL) := Sto.ofV Ar_b2 q_b2 O2 (Ins.self (((((E_w_DECIMAL.ext E2).wr W4).wr W6).wr W8).wr W10))
  obtain ⟨T12, h12, X12, e12, W12, st12⟩ := stR X11 hx hZ e11 Ar_b2 (j := (4 : Int32)) hin34 rfl Sto34 (g := (mkF m 34 #[.val (.int p1), .unset, .unset, .unset, .unset, .unset, .unset] [(.ref w_DECIMAL), (.int (4 : Int32)), (.ref b2), (.ref b2)])) rfl rfl (hb hby at_34)
  have V_b2_12 : Arv Z h12 b2 k2 (.object "com/example/sluice/sluice/xpath/AtomicType") (8 : Int32) [(.ref w_ANY_ATOMIC), (.ref w_UNTYPED_ATOMIC), (.ref w_STRING), (.ref w_BOOLEAN), (.ref w_DECIMAL), .null, .null, .null] .null := Arv.set Ar_b2 q_b2 S_b2 N_b2 H_b2 G_b2 rfl W12 4 rfl (Nat.le_of_ble_eq_true rfl)
  have K12 : Keep h0 h12 [] := K10.wr W12 (Or.inr sz_b2)
  have N12 := Fr.snoc X12 N10 g_b2
  obtain ⟨T13, X13, e13, st13⟩ := getS2 X12 hx hZ hown (host := "") (Or.inl (hw _ (List.mem_of_getElem? (i := 14) rfl))) Via.refl e12 ((((((S_INTEGER.ext E2).wr W4).wr W6).wr W8).wr W10).wr W12) (g := (mkF m 37 #[.val (.int p1), .unset, .unset, .unset, .unset, .unset, .unset] [(.int (5 : Int32)), (.ref b2), (.ref b2)])) rfl (hb hby at_37)
  obtain ⟨cl_b2_40, Ar_b2, q_b2, S_b2, N_b2, H_b2, G_b2⟩ := V_b2_12
  have hin40 : ¬ ((5 : Int32) < 0 ∨ cl_b2_40.slots.size ≤ ((5 : Int32)).toNatClampNeg) := inb_of S_b2 ⟨by decide, by decide⟩
  have Sto40 : Sto Z h12 b2 (.ref w_INTEGER) := Sto.ofV Ar_b2 q_b2 O2 (Ins.self ((((((E_w_INTEGER.ext E2).wr W4).wr W6).wr W8).wr W10).wr W12))
  obtain ⟨T14, h14, X14, e14, W14, st14⟩ := stR X13 hx hZ e13 Ar_b2 (j := (5 : Int32)) hin40 rfl Sto40 (g := (mkF m 40 #[.val (.int p1), .unset, .unset, .unset, .unset, .unset, .unset] [(.ref w_INTEGER), (.int (5 : Int32)), (.ref b2), (.ref b2)])) rfl rfl (hb hby at_40)
  have V_b2_14 : Arv Z h14 b2 k2 (.object "com/example/sluice/sluice/xpath/AtomicType") (8 : Int32) [(.ref w_ANY_ATOMIC), (.ref w_UNTYPED_ATOMIC), (.ref w_STRING), (.ref w_BOOLEAN), (.ref w_DECIMAL), (.ref w_INTEGER), .null, .null] .null := Arv.set Ar_b2 q_b2 S_b2 N_b2 H_b2 G_b2 rfl W14 5 rfl (Nat.le_of_ble_eq_true rfl)
  have K14 : Keep h0 h14 [] := K12.wr W14 (Or.inr sz_b2)
  have N14 := Fr.snoc X14 N12 g_b2
  obtain ⟨T15, X15, e15, st15⟩ := getS2 X14 hx hZ hown (host := "") (Or.inl (hw _ (List.mem_of_getElem? (i := 16) rfl))) Via.refl e14 (((((((S_DOUBLE.ext E2).wr W4).wr W6).wr W8).wr W10).wr W12).wr W14) (g := (mkF m 44 #[.val (.int p1), .unset, .unset, .unset, .unset, .unset, .unset] [(.int (6 : Int32)), (.ref b2), (.ref b2)])) rfl (hb hby at_44)
  obtain ⟨cl_b2_47, Ar_b2, q_b2, S_b2, N_b2, H_b2, G_b2⟩ := V_b2_14
  have hin47 : ¬ ((6 : Int32) < 0 ∨ cl_b2_47.slots.size ≤ ((6 : Int32)).toNatClampNeg) := inb_of S_b2 ⟨by decide, by decide⟩
  have Sto47 : Sto Z h14 b2 (.ref w_DOUBLE) := Sto.ofV Ar_b2 q_b2 O2 (Ins.self (((((((E_w_DOUBLE.ext E2).wr W4).wr W6).wr W8).wr W10).wr W12).wr W14))
  obtain ⟨T16, h16, X16, e16, W16, st16⟩ := stR X15 hx hZ e15 Ar_b2 (j := (6 : Int32)) hin47 rfl Sto47 (g := (mkF m 47 #[.val (.int p1), .unset, .unset, .unset, .unset, .unset, .unset] [(.ref w_DOUBLE), (.int (6 : Int32)), (.ref b2), (.ref b2)])) rfl rfl (hb hby at_47)
  have V_b2_16 : Arv Z h16 b2 k2 (.object "com/example/sluice/sluice/xpath/AtomicType") (8 : Int32) [(.ref w_ANY_ATOMIC), (.ref w_UNTYPED_ATOMIC), (.ref w_STRING), (.ref w_BOOLEAN), (.ref w_DECIMAL), (.ref w_INTEGER), (.ref w_DOUBLE), .null] .null := Arv.set Ar_b2 q_b2 S_b2 N_b2 H_b2 G_b2 rfl W16 6 rfl (Nat.le_of_ble_eq_true rfl)
  have K16 : Keep h0 h16 [] := K14.wr W16 (Or.inr sz_b2)
  have N16 := Fr.snoc X16 N14 g_b2
  obtain ⟨T17, X17, e17, st17⟩ := getS2 X16 hx hZ hown (host := "") (Or.inl (hw _ (List.mem_of_getElem? (i := 18) rfl))) Via.refl e16 ((((((((S_NUMERIC.ext E2).wr W4).wr W6).wr W8).wr W10).wr W12).wr W14).wr W16) (g := (mkF m 51 #[.val (.int p1), .unset, .unset, .unset, .unset, .unset, .unset] [(.int (7 : Int32)), (.ref b2), (.ref b2)])) rfl (hb hby at_51)
  obtain ⟨cl_b2_54, Ar_b2, q_b2, S_b2, N_b2, H_b2, G_b2⟩ := V_b2_16
  have hin54 : ¬ ((7 : Int32) < 0 ∨ cl_b2_54.slots.size ≤ ((7 : Int32)).toNatClampNeg) := inb_of S_b2 ⟨by decide, by decide⟩
  have Sto54 : Sto Z h16 b2 (.ref w_NUMERIC) := Sto.ofV Ar_b2 q_b2 O2 (Ins.self ((((((((E_w_NUMERIC.ext E2).wr W4).wr W6).wr W8).wr W10).wr W12).wr W14).wr W16))
  obtain ⟨T18, h18, X18, e18, W18, st18⟩ := stR X17 hx hZ e17 Ar_b2 (j := (7 : Int32)) hin54 rfl Sto54 (g := (mkF m 54 #[.val (.int p1), .unset, .unset, .unset, .unset, .unset, .unset] [(.ref w_NUMERIC), (.int (7 : Int32)), (.ref b2), (.ref b2)])) rfl rfl (hb hby at_54)
  have V_b2_18 : Arv Z h18 b2 k2 (.object "com/example/sluice/sluice/xpath/AtomicType") (8 : Int32) [(.ref w_ANY_ATOMIC), (.ref w_UNTYPED_ATOMIC), (.ref w_STRING), (.ref w_BOOLEAN), (.ref w_DECIMAL), (.ref w_INTEGER), (.ref w_DOUBLE), (.ref w_NUMERIC)] .null := Arv.set Ar_b2 q_b2 S_b2 N_b2 H_b2 G_b2 rfl W18 7 rfl (Nat.le_of_ble_eq_true rfl)
  have K18 : Keep h0 h18 [] := K16.wr W18 (Or.inr sz_b2)
  have N18 := Fr.snoc X18 N16 g_b2
  obtain ⟨cl_b2_v19, Ar_b2_v19, q_b2_v19, S_b2_v19, N_b2_v19, H_b2_v19, G_b2_v19⟩ := id V_b2_18
  have hin_b2_v19 : ¬ (((p1 &&& (2147483647 : Int32)) % (8 : Int32)) < 0 ∨ cl_b2_v19.slots.size ≤ (((p1 &&& (2147483647 : Int32)) % (8 : Int32))).toNatClampNeg) := inb_of S_b2_v19 hij66
  have hat_b2_v19 : cl_b2_v19.slots[(((p1 &&& (2147483647 : Int32)) % (8 : Int32))).toNatClampNeg]? = some (.ref w_r) := (H_b2_v19 _ (Nat.lt_of_not_le fun q => hin_b2_v19 (Or.inr q))).trans (congrArg some hsel66)
  obtain ⟨cq20, kq20, q20a, q20b, q20c⟩ := isOf hZ e18 (((((((((E_w_r.ext E2).wr W4).wr W6).wr W8).wr W10).wr W12).wr W14).wr W16).wr W18)
  obtain ⟨_, _, ⟨T20, L20, k20, n20⟩, -, X20, ⟨Lc20, hQ20, l20, y20, z20⟩, st20⟩ := X18.virtualBack hx (y := (⟨"com/example/sluice/sluice/xpath/AtomicType", "isNumeric", "()Z"⟩ : MethodName)) (z := (⟨"com/example/sluice/sluice/xpath/AtomicType", "isNumeric", "()Z"⟩ : MethodName)) hown (mvT hZ (hw _ (List.mem_of_getElem? (i := 21) rfl))) (mvT hZ (hw _ (List.mem_of_getElem? (i := 22) rfl))) (notFace_of_selects (args := #[]) (mvT hZ (hw _ (List.mem_of_getElem? (i := 24) rfl)))) (mvT hZ (hw _ (List.mem_of_getElem? (i := 24) rfl))) (mvT hZ (hw _ (List.mem_of_getElem? (i := 23) rfl))) (by decide) (backOf (W := 0) (rm1 l Z a0 hw [] w_r w_INTEGER w_DECIMAL w_DOUBLE h18 n0 (Nat.le_trans (Nat.le_trans (Nat.le_trans (Nat.le_trans (Nat.le_trans (Nat.le_trans (Nat.le_trans (Nat.le_trans (Nat.le_trans Z0 E2.1) (Keep.of_wr W4).1) (Keep.of_wr W6).1) (Keep.of_wr W8).1) (Keep.of_wr W10).1) (Keep.of_wr W12).1) (Keep.of_wr W14).1) (Keep.of_wr W16).1) (Keep.of_wr W18).1) (((((((((S_INTEGER.ext E2).wr W4).wr W6).wr W8).wr W10).wr W12).wr W14).wr W16).wr W18) (((((((((S_DECIMAL.ext E2).wr W4).wr W6).wr W8).wr W10).wr W12).wr W14).wr W16).wr W18) (((((((((S_DOUBLE.ext E2).wr W4).wr W6).wr W8).wr W10).wr W12).wr W14).wr W16).wr W18)) hZ (hw _ (List.mem_of_getElem? (i := 25) rfl)) (hw _ (List.mem_of_getElem? (i := 3) rfl)) (by decide) (by decide)) q20a q20c (g := (mkF m 69 #[.val (.int p1), .val (.ref b2), .val (.int ((p1 &&& (2147483647 : Int32)) % (8 : Int32))), .val (.ref w_r), .unset, .unset, .unset] [(.ref w_r)])) rfl (by rw [hml]; rfl) (Steps.refl _) (argsL := []) (rest := []) (lenOf pd_0_0 rfl) rfl (by show 2 * 0 + _ ≤ _; exact Nat.le_of_eq rfl) (hb hby at_69) (fun _ _ => ⟨rfl, e18, (by decide : 1 + 0 ≤ _), (by decide : 8 + 0 ≤ _)⟩)
  dsimp only [Pt.U, Pt.locs, Pt.cells, Pt.slots] at X20 l20 y20 z20 st20 hQ20
  subst l20 y20 z20
  obtain ⟨rfl, N20q, e20⟩ := hQ20
  have N20 := Fr.app N18 N20q
  obtain ⟨T21, X21, e21, st21⟩ := getS2 X20 hx hZ hown (host := "") (Or.inl (hw _ (List.mem_of_getElem? (i := 12) rfl))) Via.refl e20 (((((((((S_DECIMAL.ext E2).wr W4).wr W6).wr W8).wr W10).wr W12).wr W14).wr W16).wr W18) (g := (mkF m 98 #[.val (.int p1), .val (.ref b2), .val (.int ((p1 &&& (2147483647 : Int32)) % (8 : Int32))), .val (.ref w_r), .val (.int (own_num w_r w_INTEGER w_DECIMAL w_DOUBLE)), .val (.int (0 : Int32)), .unset] [(.ref w_r)])) rfl (hb hby at_98)
  obtain ⟨cq22, kq22, q22a, q22b, q22c⟩ := isOf hZ e21 (((((((((E_w_r.ext E2).wr W4).wr W6).wr W8).wr W10).wr W12).wr W14).wr W16).wr W18)
  obtain ⟨_, _, ⟨T22, L22, k22, n22⟩, -, X22, ⟨Lc22, hQ22, l22, y22, z22⟩, st22⟩ := X21.virtualBack hx (y := (⟨"com/example/sluice/sluice/xpath/AtomicType", "isSubtypeOf", "(Lcom/example/sluice/sluice/xpath/AtomicType;)Z"⟩ : MethodName)) (z := (⟨"com/example/sluice/sluice/xpath/AtomicType", "isSubtypeOf", "(Lcom/example/sluice/sluice/xpath/AtomicType;)Z"⟩ : MethodName)) hown (mvT hZ (hw _ (List.mem_of_getElem? (i := 29) rfl))) (mvT hZ (hw _ (List.mem_of_getElem? (i := 30) rfl))) (notFace_of_selects (args := #[]) (mvT hZ (hw _ (List.mem_of_getElem? (i := 32) rfl)))) (mvT hZ (hw _ (List.mem_of_getElem? (i := 32) rfl))) (mvT hZ (hw _ (List.mem_of_getElem? (i := 31) rfl))) (by decide) (backOf (W := 0) (rm2 l Z a0 hw [] w_r w_DECIMAL w_NUMERIC s1 h18 n0 (Nat.le_trans (Nat.le_trans (Nat.le_trans (Nat.le_trans (Nat.le_trans (Nat.le_trans (Nat.le_trans (Nat.le_trans (Nat.le_trans Z0 E2.1) (Keep.of_wr W4).1) (Keep.of_wr W6).1) (Keep.of_wr W8).1) (Keep.of_wr W10).1) (Keep.of_wr W12).1) (Keep.of_wr W14).1) (Keep.of_wr W16).1) (Keep.of_wr W18).1) (((((((((S_NUMERIC.ext E2).wr W4).wr W6).wr W8).wr W10).wr W12).wr W14).wr W16).wr W18) nq1 (hs1.keep K18)) hZ (hw _ (List.mem_of_getElem? (i := 33) rfl)) (hw _ (List.mem_of_getElem? (i := 3) rfl)) (by decide) (by decide)) q22a q22c (g := (mkF m 101 #[.val (.int p1), .val (.ref b2), .val (.int ((p1 &&& (2147483647 : Int32)) % (8 : Int32))), .val (.ref w_r), .val (.int (own_num w_r w_INTEGER w_DECIMAL w_DOUBLE)), .val (.int (0 : Int32)), .unset] [(.ref w_DECIMAL), (.ref w_r)])) rfl (by rw [hml]; rfl) (Steps.refl _) (argsL := [(.ref w_DECIMAL)]) (rest := []) (lenOf pd_0_1 rfl) rfl (by show 2 * 0 + _ ≤ _; exact Nat.le_of_eq rfl) (hb hby at_101) (fun _ _ => ⟨rfl, e21, (by decide : 1 + 0 ≤ _), (by decide : 8 + 0 ≤ _)⟩)
  dsimp only [Pt.U, Pt.locs, Pt.cells, Pt.slots] at X22 l22 y22 z22 st22 hQ22
  subst l22 y22 z22
  obtain ⟨rfl, N22q, e22⟩ := hQ22
  have N22 := Fr.app N20 N22q
  obtain ⟨T23, X23, e23, st23⟩ := getS2 X22 hx hZ hown (host := "") (Or.inl (hw _ (List.mem_of_getElem? (i := 16) rfl))) Via.refl e22 (((((((((S_DOUBLE.ext E2).wr W4).wr W6).wr W8).wr W10).wr W12).wr W14).wr W16).wr W18) (g := (mkF m 108 #[.val (.int p1), .val (.ref b2), .val (.int ((p1 &&& (2147483647 : Int32)) % (8 : Int32))), .val (.ref w_r), .val (.int (own_num w_r w_INTEGER w_DECIMAL w_DOUBLE)), .val (.int (0 : Int32)), .unset] [(.ref w_r)])) rfl (hb hby at_108)
  obtain ⟨cq24, kq24, q24a, q24b, q24c⟩ := isOf hZ e23 (((((((((E_w_r.ext E2).wr W4).wr W6).wr W8).wr W10).wr W12).wr W14).wr W16).wr W18)
  obtain ⟨_, _, ⟨T24, L24, k24, n24⟩, -, X24, ⟨Lc24, hQ24, l24, y24, z24⟩, st24⟩ := X23.virtualBack hx (y := (⟨"com/example/sluice/sluice/xpath/AtomicType", "isSubtypeOf", "(Lcom/example/sluice/sluice/xpath/AtomicType;)Z"⟩ : MethodName)) (z := (⟨"com/example/sluice/sluice/xpath/AtomicType", "isSubtypeOf", "(Lcom/example/sluice/sluice/xpath/AtomicType;)Z"⟩ : MethodName)) hown (mvT hZ (hw _ (List.mem_of_getElem? (i := 29) rfl))) (mvT hZ (hw _ (List.mem_of_getElem? (i := 30) rfl))) (notFace_of_selects (args := #[]) (mvT hZ (hw _ (List.mem_of_getElem? (i := 32) rfl)))) (mvT hZ (hw _ (List.mem_of_getElem? (i := 32) rfl))) (mvT hZ (hw _ (List.mem_of_getElem? (i := 31) rfl))) (by decide) (backOf (W := 0) (rm2 l Z a0 hw [] w_r w_DOUBLE w_NUMERIC s2 h18 n0 (Nat.le_trans (Nat.le_trans (Nat.le_trans (Nat.le_trans (Nat.le_trans (Nat.le_trans (Nat.le_trans (Nat.le_trans (Nat.le_trans Z0 E2.1) (Keep.of_wr W4).1) (Keep.of_wr W6).1) (Keep.of_wr W8).1) (Keep.of_wr W10).1) (Keep.of_wr W12).1) (Keep.of_wr W14).1) (Keep.of_wr W16).1) (Keep.of_wr W18).1) (((((((((S_NUMERIC.ext E2).wr W4).wr W6).wr W8).wr W10).wr W12).wr W14).wr W16).wr W18) nq2 (hs2.keep K18)) hZ (hw _ (List.mem_of_getElem? (i := 33) rfl)) (hw _ (List.mem_of_getElem? (i := 3) rfl)) (by decide) (by decide)) q24a q24c (g := (mkF m 111 #[.val (.int p1), .val (.ref b2), .val (.int ((p1 &&& (2147483647 : Int32)) % (8 : Int32))), .val (.ref w_r), .val (.int (own_num w_r w_INTEGER w_DECIMAL w_DOUBLE)), .val (.int (0 : Int32)), .unset] [(.ref w_DOUBLE), (.ref w_r)])) rfl (by rw [hml]; rfl) (Steps.refl _) (argsL := [(.ref w_DOUBLE)]) (rest := []) (lenOf pd_0_1 rfl) rfl (by show 2 * 0 + _ ≤ _; exact Nat.le_of_eq rfl) (hb hby at_111) (fun _ _ => ⟨rfl, e23, (by decide : 1 + 0 ≤ _), (by decide : 8 + 0 ≤ _)⟩)
  dsimp only [Pt.U, Pt.locs, Pt.cells, Pt.slots] at X24 l24 y24 z24 st24 hQ24
  subst l24 y24 z24
  obtain ⟨rfl, N24q, e24⟩ := hQ24
  have N24 := Fr.app N22 N24q
  obtain ⟨fs, hr, hrun, hended, hW, hsame⟩ := X24.leave (v := some (.int (1 : Int32))) (fun h => by rw [Bd.returns] at h; cases h)
  refine ⟨_, _, pre0 _ ?_, hrun, hended, _, _, rfl, ?_, ⟨_, rfl⟩, hW, hsame.mono (by decide) (by decide)⟩
  · show Steps p.tables e below (s₁.setTop (mkF m 0 #[.val (.int p1), .unset, .unset, .unset, .unset, .unset, .unset] [])) _
    refine XS.bipush X0.here hx rfl (hb hby at_0) ?_
    show Steps p.tables e below (s₁.setTop (mkF m 2 #[.val (.int p1), .unset, .unset, .unset, .unset, .unset, .unset] [(.int (8 : Int32))])) _
    refine st2 _ ?_
    show Steps p.tables e below (T2.setTop (mkF m 5 #[.val (.int p1), .unset, .unset, .unset, .unset, .unset, .unset] [(.ref b2)])) _
    refine XS.dup X2.here hx rfl (hb hby at_5) rfl rfl ?_
    show Steps p.tables e below (T2.setTop (mkF m 6 #[.val (.int p1), .unset, .unset, .unset, .unset, .unset, .unset] [(.ref b2), (.ref b2)])) _
    refine XS.iconst X2.here hx rfl (hb hby at_6) ?_
    show Steps p.tables e below (T2.setTop (mkF m 7 #[.val (.int p1), .unset, .unset, .unset, .unset, .unset, .unset] [(.int (0 : Int32)), (.ref b2), (.ref b2)])) _
    refine st3 _ ?_
    show Steps p.tables e below (T3.setTop (mkF m 10 #[.val (.int p1), .unset, .unset, .unset, .unset, .unset, .unset] [(.ref w_ANY_ATOMIC), (.int (0 : Int32)), (.ref b2), (.ref b2)])) _
    refine st4 _ ?_
    show Steps p.tables e below (T4.setTop (mkF m 11 #[.val (.int p1), .unset, .unset, .unset, .unset, .unset, .unset] [(.ref b2)])) _
    refine XS.dup X4.here hx rfl (hb hby at_11) rfl rfl ?_
    show Steps p.tables e below (T4.setTop (mkF m 12 #[.val (.int p1), .unset, .unset, .unset, .unset, .unset, .unset] [(.ref b2), (.ref b2)])) _
    refine XS.iconst X4.here hx rfl (hb hby at_12) ?_
    show Steps p.tables e below (T4.setTop (mkF m 13 #[.val (.int p1), .unset, .unset, .unset, .unset, .unset, .unset] [(.int (1 : Int32)), (.ref b2), (.ref b2)])) _
    refine st5 _ ?_
    show Steps p.tables e below (T5.setTop (mkF m 16 #[.val (.int p1), .unset, .unset, .unset, .unset, .unset, .unset] [(.ref w_UNTYPED_ATOMIC), (.int (1 : Int32)), (.ref b2), (.ref b2)])) _
    refine st6 _ ?_
    show Steps p.tables e below (T6.setTop (mkF m 17 #[.val (.int p1), .unset, .unset, .unset, .unset, .unset, .unset] [(.ref b2)])) _
    refine XS.dup X6.here hx rfl (hb hby at_17) rfl rfl ?_
    show Steps p.tables e below (T6.setTop (mkF m 18 #[.val (.int p1), .unset, .unset, .unset, .unset, .unset, .unset] [(.ref b2), (.ref b2)])) _
    refine XS.iconst X6.here hx rfl (hb hby at_18) ?_
    show Steps p.tables e below (T6.setTop (mkF m 19 #[.val (.int p1), .unset, .unset, .unset, .unset, .unset, .unset] [(.int (2 : Int32)), (.ref b2), (.ref b2)])) _
    refine st7 _ ?_
    show Steps p.tables e below (T7.setTop (mkF m 22 #[.val (.int p1), .unset, .unset, .unset, .unset, .unset, .unset] [(.ref w_STRING), (.int (2 : Int32)), (.ref b2), (.ref b2)])) _
    refine st8 _ ?_
    show Steps p.tables e below (T8.setTop (mkF m 23 #[.val (.int p1), .unset, .unset, .unset, .unset, .unset, .unset] [(.ref b2)])) _
    refine XS.dup X8.here hx rfl (hb hby at_23) rfl rfl ?_
    show Steps p.tables e below (T8.setTop (mkF m 24 #[.val (.int p1), .unset, .unset, .unset, .unset, .unset, .unset] [(.ref b2), (.ref b2)])) _
    refine XS.iconst X8.here hx rfl (hb hby at_24) ?_
    show Steps p.tables e below (T8.setTop (mkF m 25 #[.val (.int p1), .unset, .unset, .unset, .unset, .unset, .unset] [(.int (3 : Int32)), (.ref b2), (.ref b2)])) _
    refine st9 _ ?_
    show Steps p.tables e below (T9.setTop (mkF m 28 #[.val (.int p1), .unset, .unset, .unset, .unset, .unset, .unset] [(.ref w_BOOLEAN), (.int (3 : Int32)), (.ref b2), (.ref b2)])) _
    refine st10 _ ?_
    show Steps p.tables e below (T10.setTop (mkF m 29 #[.val (.int p1), .unset, .unset, .unset, .unset, .unset, .unset] [(.ref b2)])) _
    refine XS.dup X10.here hx rfl (hb hby at_29) rfl rfl ?_
    show Steps p.tables e below (T10.setTop (mkF m 30 #[.val (.int p1), .unset, .unset, .unset, .unset, .unset, .unset] [(.ref b2), (.ref b2)])) _
    refine XS.iconst X10.here hx rfl (hb hby at_30) ?_
    show Steps p.tables e below (T10.setTop (mkF m 31 #[.val (.int p1), .unset, .unset, .unset, .unset, .unset, .unset] [(.int (4 : Int32)), (.ref b2), (.ref b2)])) _
    refine st11 _ ?_
    show Steps p.tables e below (T11.setTop (mkF m 34 #[.val (.int p1), .unset, .unset, .unset, .unset, .unset, .unset] [(.ref w_DECIMAL), (.int (4 : Int32)), (.ref b2), (.ref b2)])) _
    refine st12 _ ?_
    show Steps p.tables e below (T12.setTop (mkF m 35 #[.val (.int p1), .unset, .unset, .unset, .unset, .unset, .unset] [(.ref b2)])) _
    refine XS.dup X12.here hx rfl (hb hby at_35) rfl rfl ?_
    show Steps p.tables e below (T12.setTop (mkF m 36 #[.val (.int p1), .unset, .unset, .unset, .unset, .unset, .unset] [(.ref b2), (.ref b2)])) _
    refine XS.iconst X12.here hx rfl (hb hby at_36) ?_
    show Steps p.tables e below (T12.setTop (mkF m 37 #[.val (.int p1), .unset, .unset, .unset, .unset, .unset, .unset] [(.int (5 : Int32)), (.ref b2), (.ref b2)])) _
    refine st13 _ ?_
    show Steps p.tables e below (T13.setTop (mkF m 40 #[.val (.int p1), .unset, .unset, .unset, .unset, .unset, .unset] [(.ref w_INTEGER), (.int (5 : Int32)), (.ref b2), (.ref b2)])) _
    refine st14 _ ?_
    show Steps p.tables e below (T14.setTop (mkF m 41 #[.val (.int p1), .unset, .unset, .unset, .unset, .unset, .unset] [(.ref b2)])) _
    refine XS.dup X14.here hx rfl (hb hby at_41) rfl rfl ?_
    show Steps p.tables e below (T14.setTop (mkF m 42 #[.val (.int p1), .unset, .unset, .unset, .unset, .unset, .unset] [(.ref b2), (.ref b2)])) _
    refine XS.bipush X14.here hx rfl (hb hby at_42) ?_
    show Steps p.tables e below (T14.setTop (mkF m 44 #[.val (.int p1), .unset, .unset, .unset, .unset, .unset, .unset] [(.int (6 : Int32)), (.ref b2), (.ref b2)])) _
    refine st15 _ ?_
    show Steps p.tables e below (T15.setTop (mkF m 47 #[.val (.int p1), .unset, .unset, .unset, .unset, .unset, .unset] [(.ref w_DOUBLE), (.int (6 : Int32)), (.ref b2), (.ref b2)])) _
    refine st16 _ ?_
    show Steps p.tables e below (T16.setTop (mkF m 48 #[.val (.int p1), .unset, .unset, .unset, .unset, .unset, .unset] [(.ref b2)])) _
    refine XS.dup X16.here hx rfl (hb hby at_48) rfl rfl ?_
    show Steps p.tables e below (T16.setTop (mkF m 49 #[.val (.int p1), .unset, .unset, .unset, .unset, .unset, .unset] [(.ref b2), (.ref b2)])) _
    refine XS.bipush X16.here hx rfl (hb hby at_49) ?_
    show Steps p.tables e below (T16.setTop (mkF m 51 #[.val (.int p1), .unset, .unset, .unset, .unset, .unset, .unset] [(.int (7 : Int32)), (.ref b2), (.ref b2)])) _
    refine st17 _ ?_
    show Steps p.tables e below (T17.setTop (mkF m 54 #[.val (.int p1), .unset, .unset, .unset, .unset, .unset, .unset] [(.ref w_NUMERIC), (.int (7 : Int32)), (.ref b2), (.ref b2)])) _
    refine st18 _ ?_
    show Steps p.tables e below (T18.setTop (mkF m 55 #[.val (.int p1), .unset, .unset, .unset, .unset, .unset, .unset] [(.ref b2)])) _
    refine XS.astoreN X18.here hx rfl (hb hby at_55) rfl rfl (l' := #[.val (.int p1), .val (.ref b2), .unset, .unset, .unset, .unset, .unset]) rfl ?_
    show Steps p.tables e below (T18.setTop (mkF m 56 #[.val (.int p1), .val (.ref b2), .unset, .unset, .unset, .unset, .unset] [])) _
    refine XS.iloadN X18.here hx rfl (hb hby at_56) rfl ?_
    show Steps p.tables e below (T18.setTop (mkF m 57 #[.val (.int p1), .val (.ref b2), .unset, .unset, .unset, .unset, .unset] [(.int p1)])) _
    refine X18.ldcInt hx hown (mvT hZ (hw _ (List.mem_of_getElem? (i := 20) rfl))) (g := (mkF m 57 #[.val (.int p1), .val (.ref b2), .unset, .unset, .unset, .unset, .unset] [(.int p1)])) rfl (hb hby at_57) _ ?_
    show Steps p.tables e below (T18.setTop (mkF m 59 #[.val (.int p1), .val (.ref b2), .unset, .unset, .unset, .unset, .unset] [(.int (2147483647 : Int32)), (.int p1)])) _
    refine XS.iand X18.here hx rfl (hb hby at_59) rfl ?_
    show Steps p.tables e below (T18.setTop (mkF m 60 #[.val (.int p1), .val (.ref b2), .unset, .unset, .unset, .unset, .unset] [(.int (p1 &&& (2147483647 : Int32)))])) _
    refine XS.bipush X18.here hx rfl (hb hby at_60) ?_
    show Steps p.tables e below (T18.setTop (mkF m 62 #[.val (.int p1), .val (.ref b2), .unset, .unset, .unset, .unset, .unset] [(.int (8 : Int32)), (.int (p1 &&& (2147483647 : Int32)))])) _
    refine iremM X18 hx rfl (hb hby at_62) rfl (by decide) ?_
    show Steps p.tables e below (T18.setTop (mkF m 63 #[.val (.int p1), .val (.ref b2), .unset, .unset, .unset, .unset, .unset] [(.int ((p1 &&& (2147483647 : Int32)) % (8 : Int32)))])) _
    refine XS.istoreN X18.here hx rfl (hb hby at_63) rfl (l' := #[.val (.int p1), .val (.ref b2), .val (.int ((p1 &&& (2147483647 : Int32)) % (8 : Int32))), .unset, .unset, .unset, .unset]) rfl ?_
    show Steps p.tables e below (T18.setTop (mkF m 64 #[.val (.int p1), .val (.ref b2), .val (.int ((p1 &&& (2147483647 : Int32)) % (8 : Int32))), .unset, .unset, .unset, .unset] [])) _
    refine XS.aloadN X18.here hx rfl (hb hby at_64) rfl rfl ?_
    show Steps p.tables e below (T18.setTop (mkF m 65 #[.val (.int p1), .val (.ref b2), .val (.int ((p1 &&& (2147483647 : Int32)) % (8 : Int32))), .unset, .unset, .unset, .unset] [(.ref b2)])) _
    refine XS.iloadN X18.here hx rfl (hb hby at_65) rfl ?_
    show Steps p.tables e below (T18.setTop (mkF m 66 #[.val (.int p1), .val (.ref b2), .val (.int ((p1 &&& (2147483647 : Int32)) % (8 : Int32))), .unset, .unset, .unset, .unset] [(.int ((p1 &&& (2147483647 : Int32)) % (8 : Int32))), (.ref b2)])) _
    refine X18.aaload hx (j := ((p1 &&& (2147483647 : Int32)) % (8 : Int32))) (v := (.ref w_r)) (by rw [e18]; exact Ar_b2_v19.1) (State.isArrayOf_alike hZ.alike Ar_b2_v19.2.1) rfl Ar_b2_v19.2.2 hin_b2_v19 hat_b2_v19 (g := (mkF m 66 #[.val (.int p1), .val (.ref b2), .val (.int ((p1 &&& (2147483647 : Int32)) % (8 : Int32))), .unset, .unset, .unset, .unset] [(.int ((p1 &&& (2147483647 : Int32)) % (8 : Int32))), (.ref b2)])) rfl rfl (hb hby at_66) _ ?_
    show Steps p.tables e below (T18.setTop (mkF m 67 #[.val (.int p1), .val (.ref b2), .val (.int ((p1 &&& (2147483647 : Int32)) % (8 : Int32))), .unset, .unset, .unset, .unset] [(.ref w_r)])) _
    refine XS.astoreN X18.here hx rfl (hb hby at_67) rfl rfl (l' := #[.val (.int p1), .val (.ref b2), .val (.int ((p1 &&& (2147483647 : Int32)) % (8 : Int32))), .val (.ref w_r), .unset, .unset, .unset]) rfl ?_
    show Steps p.tables e below (T18.setTop (mkF m 68 #[.val (.int p1), .val (.ref b2), .val (.int ((p1 &&& (2147483647 : Int32)) % (8 : Int32))), .val (.ref w_r), .unset, .unset, .unset] [])) _
    refine XS.aloadN X18.here hx rfl (hb hby at_68) rfl rfl ?_
    show Steps p.tables e below (T18.setTop (mkF m 69 #[.val (.int p1), .val (.ref b2), .val (.int ((p1 &&& (2147483647 : Int32)) % (8 : Int32))), .val (.ref w_r), .unset, .unset, .unset] [(.ref w_r)])) _
    refine st20.trans ?_
    show Steps p.tables e below (T20.setTop (mkF m 72 #[.val (.int p1), .val (.ref b2), .val (.int ((p1 &&& (2147483647 : Int32)) % (8 : Int32))), .val (.ref w_r), .unset, .unset, .unset] [(.int (own_num w_r w_INTEGER w_DECIMAL w_DOUBLE))])) _
    refine XS.istore X20.here hx rfl (hb hby at_72) rfl (l' := #[.val (.int p1), .val (.ref b2), .val (.int ((p1 &&& (2147483647 : Int32)) % (8 : Int32))), .val (.ref w_r), .val (.int (own_num w_r w_INTEGER w_DECIMAL w_DOUBLE)), .unset, .unset]) rfl ?_
    show Steps p.tables e below (T20.setTop (mkF m 74 #[.val (.int p1), .val (.ref b2), .val (.int ((p1 &&& (2147483647 : Int32)) % (8 : Int32))), .val (.ref w_r), .val (.int (own_num w_r w_INTEGER w_DECIMAL w_DOUBLE)), .unset, .unset] [])) _
    refine XS.iloadN X20.here hx rfl (hb hby at_74) rfl ?_
    show Steps p.tables e below (T20.setTop (mkF m 75 #[.val (.int p1), .val (.ref b2), .val (.int ((p1 &&& (2147483647 : Int32)) % (8 : Int32))), .val (.ref w_r), .val (.int (own_num w_r w_INTEGER w_DECIMAL w_DOUBLE)), .unset, .unset] [(.int ((p1 &&& (2147483647 : Int32)) % (8 : Int32)))])) _
    refine XS.iconst X20.here hx rfl (hb hby at_75) ?_
    show Steps p.tables e below (T20.setTop (mkF m 76 #[.val (.int p1), .val (.ref b2), .val (.int ((p1 &&& (2147483647 : Int32)) % (8 : Int32))), .val (.ref w_r), .val (.int (own_num w_r w_INTEGER w_DECIMAL w_DOUBLE)), .unset, .unset] [(.int (4 : Int32)), (.int ((p1 &&& (2147483647 : Int32)) % (8 : Int32)))])) _
    refine XS.icmpNo X20.here hx rfl (hb hby at_76) rfl (feq hc76).1 ?_
    show Steps p.tables e below (T20.setTop (mkF m 79 #[.val (.int p1), .val (.ref b2), .val (.int ((p1 &&& (2147483647 : Int32)) % (8 : Int32))), .val (.ref w_r), .val (.int (own_num w_r w_INTEGER w_DECIMAL w_DOUBLE)), .unset, .unset] [])) _
    refine XS.iloadN X20.here hx rfl (hb hby at_79) rfl ?_
    show Steps p.tables e below (T20.setTop (mkF m 80 #[.val (.int p1), .val (.ref b2), .val (.int ((p1 &&& (2147483647 : Int32)) % (8 : Int32))), .val (.ref w_r), .val (.int (own_num w_r w_INTEGER w_DECIMAL w_DOUBLE)), .unset, .unset] [(.int ((p1 &&& (2147483647 : Int32)) % (8 : Int32)))])) _
    refine XS.iconst X20.here hx rfl (hb hby at_80) ?_
    show Steps p.tables e below (T20.setTop (mkF m 81 #[.val (.int p1), .val (.ref b2), .val (.int ((p1 &&& (2147483647 : Int32)) % (8 : Int32))), .val (.ref w_r), .val (.int (own_num w_r w_INTEGER w_DECIMAL w_DOUBLE)), .unset, .unset] [(.int (5 : Int32)), (.int ((p1 &&& (2147483647 : Int32)) % (8 : Int32)))])) _
    refine XS.icmpNo X20.here hx rfl (hb hby at_81) rfl (feq hc81).1 ?_
    show Steps p.tables e below (T20.setTop (mkF m 84 #[.val (.int p1), .val (.ref b2), .val (.int ((p1 &&& (2147483647 : Int32)) % (8 : Int32))), .val (.ref w_r), .val (.int (own_num w_r w_INTEGER w_DECIMAL w_DOUBLE)), .unset, .unset] [])) _
    refine XS.iloadN X20.here hx rfl (hb hby at_84) rfl ?_
    show Steps p.tables e below (T20.setTop (mkF m 85 #[.val (.int p1), .val (.ref b2), .val (.int ((p1 &&& (2147483647 : Int32)) % (8 : Int32))), .val (.ref w_r), .val (.int (own_num w_r w_INTEGER w_DECIMAL w_DOUBLE)), .unset, .unset] [(.int ((p1 &&& (2147483647 : Int32)) % (8 : Int32)))])) _
    refine XS.bipush X20.here hx rfl (hb hby at_85) ?_
    show Steps p.tables e below (T20.setTop (mkF m 87 #[.val (.int p1), .val (.ref b2), .val (.int ((p1 &&& (2147483647 : Int32)) % (8 : Int32))), .val (.ref w_r), .val (.int (own_num w_r w_INTEGER w_DECIMAL w_DOUBLE)), .unset, .unset] [(.int (6 : Int32)), (.int ((p1 &&& (2147483647 : Int32)) % (8 : Int32)))])) _
    refine XS.icmpYes X20.here hx rfl (pc0 := 87) (pc' := 94) rfl (hb hby at_87) rfl (feq hc87).2 (by decide) (by decide) ?_
    show Steps p.tables e below (T20.setTop (mkF m 94 #[.val (.int p1), .val (.ref b2), .val (.int ((p1 &&& (2147483647 : Int32)) % (8 : Int32))), .val (.ref w_r), .val (.int (own_num w_r w_INTEGER w_DECIMAL w_DOUBLE)), .unset, .unset] [])) _
    refine XS.iconst X20.here hx rfl (hb hby at_94) ?_
    show Steps p.tables e below (T20.setTop (mkF m 95 #[.val (.int p1), .val (.ref b2), .val (.int ((p1 &&& (2147483647 : Int32)) % (8 : Int32))), .val (.ref w_r), .val (.int (own_num w_r w_INTEGER w_DECIMAL w_DOUBLE)), .unset, .unset] [(.int (0 : Int32))])) _
    refine XS.istore X20.here hx rfl (hb hby at_95) rfl (l' := #[.val (.int p1), .val (.ref b2), .val (.int ((p1 &&& (2147483647 : Int32)) % (8 : Int32))), .val (.ref w_r), .val (.int (own_num w_r w_INTEGER w_DECIMAL w_DOUBLE)), .val (.int (0 : Int32)), .unset]) rfl ?_
    show Steps p.tables e below (T20.setTop (mkF m 97 #[.val (.int p1), .val (.ref b2), .val (.int ((p1 &&& (2147483647 : Int32)) % (8 : Int32))), .val (.ref w_r), .val (.int (own_num w_r w_INTEGER w_DECIMAL w_DOUBLE)), .val (.int (0 : Int32)), .unset] [])) _
    refine XS.aloadN X20.here hx rfl (hb hby at_97) rfl rfl ?_
    show Steps p.tables e below (T20.setTop (mkF m 98 #[.val (.int p1), .val (.ref b2), .val (.int ((p1 &&& (2147483647 : Int32)) % (8 : Int32))), .val (.ref w_r), .val (.int (own_num w_r w_INTEGER w_DECIMAL w_DOUBLE)), .val (.int (0 : Int32)), .unset] [(.ref w_r)])) _
    refine st21 _ ?_
    show Steps p.tables e below (T21.setTop (mkF m 101 #[.val (.int p1), .val (.ref b2), .val (.int ((p1 &&& (2147483647 : Int32)) % (8 : Int32))), .val (.ref w_r), .val (.int (own_num w_r w_INTEGER w_DECIMAL w_DOUBLE)), .val (.int (0 : Int32)), .unset] [(.ref w_DECIMAL), (.ref w_r)])) _
    refine st22.trans ?_
    show Steps p.tables e below (T22.setTop (mkF m 104 #[.val (.int p1), .val (.ref b2), .val (.int ((p1 &&& (2147483647 : Int32)) % (8 : Int32))), .val (.ref w_r), .val (.int (own_num w_r w_INTEGER w_DECIMAL w_DOUBLE)), .val (.int (0 : Int32)), .unset] [(.int s1)])) _
    refine XS.ifNo X22.here hx rfl (hb hby at_104) rfl ((if0 _ _).trans (teq hc104).2) ?_
    show Steps p.tables e below (T22.setTop (mkF m 107 #[.val (.int p1), .val (.ref b2), .val (.int ((p1 &&& (2147483647 : Int32)) % (8 : Int32))), .val (.ref w_r), .val (.int (own_num w_r w_INTEGER w_DECIMAL w_DOUBLE)), .val (.int (0 : Int32)), .unset] [])) _
    refine XS.aloadN X22.here hx rfl (hb hby at_107) rfl rfl ?_
    show Steps p.tables e below (T22.setTop (mkF m 108 #[.val (.int p1), .val (.ref b2), .val (.int ((p1 &&& (2147483647 : Int32)) % (8 : Int32))), .val (.ref w_r), .val (.int (own_num w_r w_INTEGER w_DECIMAL w_DOUBLE)), .val (.int (0 : Int32)), .unset] [(.ref w_r)])) _
    refine st23 _ ?_
    show Steps p.tables e below (T23.setTop (mkF m 111 #[.val (.int p1), .val (.ref b2), .val (.int ((p1 &&& (2147483647 : Int32)) % (8 : Int32))), .val (.ref w_r), .val (.int (own_num w_r w_INTEGER w_DECIMAL w_DOUBLE)), .val (.int (0 : Int32)), .unset] [(.ref w_DOUBLE), (.ref w_r)])) _
    refine st24.trans ?_
    show Steps p.tables e below (T24.setTop (mkF m 114 #[.val (.int p1), .val (.ref b2), .val (.int ((p1 &&& (2147483647 : Int32)) % (8 : Int32))), .val (.ref w_r), .val (.int (own_num w_r w_INTEGER w_DECIMAL w_DOUBLE)), .val (.int (0 : Int32)), .unset] [(.int s2)])) _
    refine XS.ifYes X24.here hx rfl (pc0 := 114) (pc' := 121) rfl (hb hby at_114) rfl ((if0 _ _).trans (teq hc114).1) (by decide) (by decide) ?_
    show Steps p.tables e below (T24.setTop (mkF m 121 #[.val (.int p1), .val (.ref b2), .val (.int ((p1 &&& (2147483647 : Int32)) % (8 : Int32))), .val (.ref w_r), .val (.int (own_num w_r w_INTEGER w_DECIMAL w_DOUBLE)), .val (.int (0 : Int32)), .unset] [])) _
    refine XS.iconst X24.here hx rfl (hb hby at_121) ?_
    show Steps p.tables e below (T24.setTop (mkF m 122 #[.val (.int p1), .val (.ref b2), .val (.int ((p1 &&& (2147483647 : Int32)) % (8 : Int32))), .val (.ref w_r), .val (.int (own_num w_r w_INTEGER w_DECIMAL w_DOUBLE)), .val (.int (0 : Int32)), .unset] [(.int (0 : Int32))])) _
    refine XS.istore X24.here hx rfl (hb hby at_122) rfl (l' := #[.val (.int p1), .val (.ref b2), .val (.int ((p1 &&& (2147483647 : Int32)) % (8 : Int32))), .val (.ref w_r), .val (.int (own_num w_r w_INTEGER w_DECIMAL w_DOUBLE)), .val (.int (0 : Int32)), .val (.int (0 : Int32))]) rfl ?_
    show Steps p.tables e below (T24.setTop (mkF m 124 #[.val (.int p1), .val (.ref b2), .val (.int ((p1 &&& (2147483647 : Int32)) % (8 : Int32))), .val (.ref w_r), .val (.int (own_num w_r w_INTEGER w_DECIMAL w_DOUBLE)), .val (.int (0 : Int32)), .val (.int (0 : Int32))] [])) _
    refine XS.iload X24.here hx rfl (hb hby at_124) rfl ?_
    show Steps p.tables e below (T24.setTop (mkF m 126 #[.val (.int p1), .val (.ref b2), .val (.int ((p1 &&& (2147483647 : Int32)) % (8 : Int32))), .val (.ref w_r), .val (.int (own_num w_r w_INTEGER w_DECIMAL w_DOUBLE)), .val (.int (0 : Int32)), .val (.int (0 : Int32))] [(.int (own_num w_r w_INTEGER w_DECIMAL w_DOUBLE))])) _
    refine XS.iload X24.here hx rfl (hb hby at_126) rfl ?_
    show Steps p.tables e below (T24.setTop (mkF m 128 #[.val (.int p1), .val (.ref b2), .val (.int ((p1 &&& (2147483647 : Int32)) % (8 : Int32))), .val (.ref w_r), .val (.int (own_num w_r w_INTEGER w_DECIMAL w_DOUBLE)), .val (.int (0 : Int32)), .val (.int (0 : Int32))] [(.int (0 : Int32)), (.int (own_num w_r w_INTEGER w_DECIMAL w_DOUBLE))])) _
    refine XS.icmpNo X24.here hx rfl (hb hby at_128) rfl (teq hc128).2 ?_
    show Steps p.tables e below (T24.setTop (mkF m 131 #[.val (.int p1), .val (.ref b2), .val (.int ((p1 &&& (2147483647 : Int32)) % (8 : Int32))), .val (.ref w_r), .val (.int (own_num w_r w_INTEGER w_DECIMAL w_DOUBLE)), .val (.int (0 : Int32)), .val (.int (0 : Int32))] [])) _
    refine XS.iload X24.here hx rfl (hb hby at_131) rfl ?_
    show Steps p.tables e below (T24.setTop (mkF m 133 #[.val (.int p1), .val (.ref b2), .val (.int ((p1 &&& (2147483647 : Int32)) % (8 : Int32))), .val (.ref w_r), .val (.int (own_num w_r w_INTEGER w_DECIMAL w_DOUBLE)), .val (.int (0 : Int32)), .val (.int (0 : Int32))] [(.int (own_num w_r w_INTEGER w_DECIMAL w_DOUBLE))])) _
    refine XS.iload X24.here hx rfl (hb hby at_133) rfl ?_
    show Steps p.tables e below (T24.setTop (mkF m 135 #[.val (.int p1), .val (.ref b2), .val (.int ((p1 &&& (2147483647 : Int32)) % (8 : Int32))), .val (.ref w_r), .val (.int (own_num w_r w_INTEGER w_DECIMAL w_DOUBLE)), .val (.int (0 : Int32)), .val (.int (0 : Int32))] [(.int (0 : Int32)), (.int (own_num w_r w_INTEGER w_DECIMAL w_DOUBLE))])) _
    refine XS.icmpNo X24.here hx rfl (hb hby at_135) rfl (teq hc135).2 ?_
    show Steps p.tables e below (T24.setTop (mkF m 138 #[.val (.int p1), .val (.ref b2), .val (.int ((p1 &&& (2147483647 : Int32)) % (8 : Int32))), .val (.ref w_r), .val (.int (own_num w_r w_INTEGER w_DECIMAL w_DOUBLE)), .val (.int (0 : Int32)), .val (.int (0 : Int32))] [])) _
    refine XS.iconst X24.here hx rfl (hb hby at_138) ?_
    show Steps p.tables e below (T24.setTop (mkF m 139 #[.val (.int p1), .val (.ref b2), .val (.int ((p1 &&& (2147483647 : Int32)) % (8 : Int32))), .val (.ref w_r), .val (.int (own_num w_r w_INTEGER w_DECIMAL w_DOUBLE)), .val (.int (0 : Int32)), .val (.int (0 : Int32))] [(.int (1 : Int32))])) _
    refine XS.goto X24.here hx rfl (pc0 := 139) (pc' := 143) rfl (hb hby at_139) (by decide) (by decide) ?_
    show Steps p.tables e below (T24.setTop (mkF m 143 #[.val (.int p1), .val (.ref b2), .val (.int ((p1 &&& (2147483647 : Int32)) % (8 : Int32))), .val (.ref w_r), .val (.int (own_num w_r w_INTEGER w_DECIMAL w_DOUBLE)), .val (.int (0 : Int32)), .val (.int (0 : Int32))] [(.int (1 : Int32))])) _
    exact retN X24 hx (t := .boolean) Bd.returns (by simp) (hb hby at_143) hr
  · show QL h0 n0 _ T24.heap _
    rw [e24]
    exact ⟨rfl, N24⟩
set_option maxRecDepth 65536 in
set_option maxHeartbeats 40000000 in
theorem rm0_ttff (l : Launch) (Z : State) (a0 : Array Value) (hw : ∀ d ∈ tables_1, d.before a0 Z = true) (ws : List Jvm.Cond) (p1 : Int32) (w_ANY_ATOMIC : Addr) (w_UNTYPED_ATOMIC : Addr) (w_STRING : Addr) (w_BOOLEAN : Addr) (w_DECIMAL : Addr) (w_INTEGER : Addr) (w_DOUBLE : Addr) (w_NUMERIC : Addr) (w_r : Addr) (s1 : Int32) (h0 : Heap) (n0 : Nat) (Z0 : n0 ≤ h0.size) (S_ANY_ATOMIC : Sta Z h0 "com/example/sluice/sluice/xpath/AtomicType" "ANY_ATOMIC" "Lcom/example/sluice/sluice/xpath/AtomicType;" (.ref w_ANY_ATOMIC)) (E_w_ANY_ATOMIC : Exa Z h0 w_ANY_ATOMIC "com/example/sluice/sluice/xpath/AtomicType") (S_UNTYPED_ATOMIC : Sta Z h0 "com/example/sluice/sluice/xpath/AtomicType" "UNTYPED_ATOMIC" "Lcom/example/sluice/sluice/xpath/AtomicType;" (.ref w_UNTYPED_ATOMIC)) (E_w_UNTYPED_ATOMIC : Exa Z h0 w_UNTYPED_ATOMIC "com/example/sluice/sluice/xpath/AtomicType") (S_STRING : Sta Z h0 "com/example/sluice/sluice/xpath/AtomicType" "STRING" "Lcom/example/sluice/sluice/xpath/AtomicType;" (.ref w_STRING)) (E_w_STRING : Exa Z h0 w_STRING "com/example/sluice/sluice/xpath/AtomicType") (S_BOOLEAN : Sta Z h0 "com/example/sluice/sluice/xpath/AtomicType" "BOOLEAN" "Lcom/example/sluice/sluice/xpath/AtomicType;" (.ref w_BOOLEAN)) (E_w_BOOLEAN : Exa Z h0 w_BOOLEAN "com/example/sluice/sluice/xpath/AtomicType") (S_DECIMAL : Sta Z h0 "com/example/sluice/sluice/xpath/AtomicType" "DECIMAL" "Lcom/example/sluice/sluice/xpath/AtomicType;" (.ref w_DECIMAL)) (E_w_DECIMAL : Exa Z h0 w_DECIMAL "com/example/sluice/sluice/xpath/AtomicType") (S_INTEGER : Sta Z h0 "com/example/sluice/sluice/xpath/AtomicType" "INTEGER" "Lcom/example/sluice/sluice/xpath/AtomicType;" (.ref w_INTEGER)) (E_w_INTEGER : Exa Z h0 w_INTEGER "com/example/sluice/sluice/xpath/AtomicType") (S_DOUBLE : Sta Z h0 "com/example/sluice/sluice/xpath/AtomicType" "DOUBLE" "Lcom/example/sluice/sluice/xpath/AtomicType;" (.ref w_DOUBLE)) (E_w_DOUBLE : Exa Z h0 w_DOUBLE "com/example/sluice/sluice/xpath/AtomicType") (S_NUMERIC : Sta Z h0 "com/example/sluice/sluice/xpath/AtomicType" "NUMERIC" "Lcom/example/sluice/sluice/xpath/AtomicType;" (.ref w_NUMERIC)) (E_w_NUMERIC : Exa Z h0 w_NUMERIC "com/example/sluice/sluice/xpath/AtomicType") (hij66 : ¬ ((p1 &&& (2147483647 : Int32)) % (8 : Int32)) < 0 ∧ ((p1 &&& (2147483647 : Int32)) % (8 : Int32)) < (8 : Int32)) (hsel66 : List.getD ([(.ref w_ANY_ATOMIC), (.ref w_UNTYPED_ATOMIC), (.ref w_STRING), (.ref w_BOOLEAN), (.ref w_DECIMAL), (.ref w_INTEGER), (.ref w_DOUBLE), (.ref w_NUMERIC)] : List Value) (((p1 &&& (2147483647 : Int32)) % (8 : Int32))).toNatClampNeg .null = .ref w_r) (E_w_r : Exa Z h0 w_r "com/example/sluice/sluice/xpath/AtomicType") (nq1 : ¬ (w_DECIMAL = w_NUMERIC)) (hs1 : Sub Z h0 w_r w_DECIMAL s1) (hc76 : ((p1 &&& (2147483647 : Int32)) % (8 : Int32)) = (4 : Int32)) (hc104 : ¬ (s1 = (0 : Int32))) (hc128 : (own_num w_r w_INTEGER w_DECIMAL w_DOUBLE) = (1 : Int32)) (hc135 : (own_num w_r w_INTEGER w_DECIMAL w_DOUBLE) = (1 : Int32)) :
    MetFree l x (head1 (Jvm.Cond.code x code maxLocals ret :: ws) room_1) (fun a U => a = #[(.int p1)] ∧ Z.Warmed39 U.vm ∧ U.heap = h0) (fun _ _ _ _ _ => True) (fun _ U o U' => ∃ v L, o = .returned v ∧ QL h0 n0 v U'.heap L ∧ FrameEnd U o U' L room_1.cells room_1.slots) := by
  refine MetFree.of_bodySF (plainFor_of_name pn_0) hisR ?_
  intro p e s m args below meth c s₁ Bd hml0 hP hK
  obtain ⟨rfl, hZ, hh⟩ := hP
  have hx := Bd.exec
  have hby := Bd.bytes
  have hml : c.maxLocals = 7 := hml0
  have hown : s.vm.findClass "com/example/sluice/sluice/xpath/AtomicTypeIsNumericPinLaw" = some m.cls := findClass_of_methodNamed Bd.named
  have hnm := (name_of_methodNamed Bd.named Bd.method).1
  have X0 : Stand p l e room_1 s m #[(.int p1)] below meth c s₁ [] 0 0 := Stand.of_body Bd
  have e0 : s₁.heap = h0 := by rw [← hh, Bd.state]; rfl
  have N0 := Fr.nil n0
  have pre0 : ∀ t, Steps p.tables e below (s₁.setTop (mkF m 0 #[.val (.int p1), .unset, .unset, .unset, .unset, .unset, .unset] [])) t → Steps p.tables e below (s₁.setTop (entryFrame m #[(.int p1)] maxLocals)) t := fun t k => castTop (ef_0 m p1) k
  obtain ⟨T2, h2, k2, X2, e2, E2, A2, O2, st2⟩ := newR X0 hx hZ hown (hw _ (List.mem_of_getElem? (i := 0) rfl)) (hw _ (List.mem_of_getElem? (i := 1) rfl)) e0 (g := (mkF m 2 #[.val (.int p1), .unset, .unset, .unset, .unset, .unset, .unset] [(.int (8 : Int32))])) rfl (hb hby at_2) rfl (by decide) (cap := 8) (by decide) (by decide) (by decide) (by decide)
  obtain ⟨b2, g2⟩ : ∃ z, z = h0.size := ⟨_, rfl⟩
  rw [← g2] at A2 st2
  have V_b2 : Arv Z h2 b2 k2 (.object "com/example/sluice/sluice/xpath/AtomicType") (8 : Int32) [.null, .null, .null, .null, .null, .null, .null, .null] .null := (Arv.new A2 (by decide)).pad (pad_rep [] .null 8)
  skip
  have g_b2 : n0 ≤ b2 := Nat.le_trans Z0 (Nat.le_of_eq g2.symm)
  have sz_b2 : h0.size ≤ b2 := (Nat.le_trans (Keep.refl h0 []).1 (Nat.le_of_eq g2.symm))
  have K2 : Keep h0 h2 [] := (Keep.refl h0 []).ext E2
  obtain ⟨T3, X3, e3, st3⟩ := getS2 X2 hx hZ hown (host := "") (Or.inl (hw _ (List.mem_of_getElem? (i := 2) rfl))) Via.refl e2 (S_ANY_ATOMIC.ext E2) (g := (mkF m 7 #[.val (.int p1), .unset, .unset, .unset, .unset, .unset, .unset] [(.int (0 : Int32)), (.ref b2), (.ref b2)])) rfl (hb hby at_7)
  obtain ⟨cl_b2_10, Ar_b2, q_b2, S_b2, N_b2, H_b2, G_b2⟩ := V_b2
  have hin10 : ¬ ((0 : Int32) < 0 ∨ cl_b2_10.slots.size ≤ ((0 : Int32)).toNatClampNeg) := inb_of S_b2 ⟨by decide, by decide⟩
  have Sto10 : Sto Z h2 b2 (.ref w_ANY_ATOMIC) := Sto.ofV Ar_b2 q_b2 O2 (Ins.self (E_w_ANY_ATOMIC.ext E2))
  obtain ⟨T4, h4, X4, e4, W4, st4⟩ := stR X3 hx hZ e3 Ar_b2 (j := (0 : Int32)) hin10 rfl Sto10 (g := (mkF m 10 #[.val (.int p1), .unset, .unset, .unset, .unset, .unset, .unset] [(.ref w_ANY_ATOMIC), (.int (0 : Int32)), (.ref b2), (.ref b2)])) rfl rfl (hb hby at_10)
  have V_b2_4 : Arv Z h4 b2 k2 (.object "com/example/sluice/sluice/xpath/AtomicType") (8 : Int32) [(.ref w_ANY_ATOMIC), .null, .null, .null, .null, .null, .null, .null] .null := Arv.set Ar_b2 q_b2 S_b2 N_b2 H_b2 G_b2 rfl W4 0 rfl (Nat.le_of_ble_eq_true rfl)
  have K4 : Keep h0 h4 [] := K2.wr W4 (Or.inr sz_b2)
  have N4 := Fr.snoc X4 N0 g_b2
  obtain ⟨T5, X5, e5, st5⟩ := getS2 X4 hx hZ hown (host := "") (Or.inl (hw _ (List.mem_of_getElem? (i := 6) rfl))) Via.refl e4 ((S_UNTYPED_ATOMIC.ext E2).wr W4) (g := (mkF m 13 #[.val (.int p1), .unset, .unset, .unset, .unset, .unset, .unset] [(.int (1 : Int32)), (.ref b2), (.ref b2)])) rfl (hb hby at_13)
  obtain ⟨cl_b2_16, Ar_b2, q_b2, S_b2, N_b2, H_b2, G_b2⟩ := V_b2_4
  have hin16 : ¬ ((1 : Int32) < 0 ∨ cl_b2_16.slots.size ≤ ((1 : Int32)).toNatClampNeg) := inb_of S_b2 ⟨by decide, by decide⟩
  have Sto16 : Sto Z h4 b2 (.ref w_UNTYPED_ATOMIC) := Sto.ofV Ar_b2 q_b2 O2 (Ins.self ((E_w_UNTYPED_ATOMIC.ext E2).wr W4))
  obtain ⟨T6, h6, X6, e6, W6, st6⟩ := stR X5 hx hZ e5 Ar_b2 (j := (1 : Int32)) hin16 rfl Sto16 (g := (mkF m 16 #[.val (.int p1), .unset, .unset, .unset, .unset, .unset, .unset] [(.ref w_UNTYPED_ATOMIC), (.int (1 : Int32)), (.ref b2), (.ref b2)])) rfl rfl (hb hby at_16)
  have V_b2_6 : Arv Z h6 b2 k2 (.object "com/example/sluice/sluice/xpath/AtomicType") (8 : Int32) [(.ref w_ANY_ATOMIC), (.ref w_UNTYPED_ATOMIC), .null, .null, .null, .null, .null, .null] .null := Arv.set Ar_b2 q_b2 S_b2 N_b2 H_b2 G_b2 rfl W6 1 rfl (Nat.le_of_ble_eq_true rfl)
  have K6 : Keep h0 h6 [] := K4.wr W6 (Or.inr sz_b2)
  have N6 := Fr.snoc X6 N4 g_b2
  obtain ⟨T7, X7, e7, st7⟩ := getS2 X6 hx hZ hown (host := "") (Or.inl (hw _ (List.mem_of_getElem? (i := 8) rfl))) Via.refl e6 (((S_STRING.ext E2).wr W4).wr W6) (g := (mkF m 19 #[.val (.int p1), .unset, .unset, .unset, .unset, .unset, .unset] [(.int (2 : Int32)), (.ref b2), (.ref b2)])) rfl (hb hby at_19)
  obtain ⟨cl_b2_22, Ar_b2, q_b2, S_b2, N_b2, H_b2, G_b2⟩ := V_b2_6
  have hin22 : ¬ ((2 : Int32) < 0 ∨ cl_b2_22.slots.size ≤ ((2 : Int32)).toNatClampNeg) := inb_of S_b2 ⟨by decide, by decide⟩
  have Sto22 : Sto Z h6 b2 (.ref w_STRING) := Sto.ofV Ar_b2 q_b2 O2 (Ins.self (((E_w_STRING.ext E2).wr W4).wr W6))
  obtain ⟨T8, h8, X8, e8, W8, st8⟩ := stR X7 hx hZ e7 Ar_b2 (j := (2 : Int32)) hin22 rfl Sto22 (g := (mkF m 22 #[.val (.int p1), .unset, .unset, .unset, .unset, .unset, .unset] [(.ref w_STRING), (.int (2 : Int32)), (.ref b2), (.ref b2)])) rfl rfl (hb hby at_22)
  have V_b2_8 : Arv Z h8 b2 k2 (.object "com/example/sluice/sluice/xpath/AtomicType") (8 : Int32) [(.ref w_ANY_ATOMIC), (.ref w_UNTYPED_ATOMIC), (.ref w_STRING), .null, .null, .null, .null, .null] .null := Arv.set Ar_b2 q_b2 S_b2 N_b2 H_b2 G_b2 rfl W8 2 rfl (Nat.le_of_ble_eq_true rfl)
  have K8 : Keep h0 h8 [] := K6.wr W8 (Or.inr sz_b2)
  have N8 := Fr.snoc X8 N6 g_b2
  obtain ⟨T9, X9, e9, st9⟩ := getS2 X8 hx hZ hown (host := "") (Or.inl (hw _ (List.mem_of_getElem? (i := 10) rfl))) Via.refl e8 ((((S_BOOLEAN.ext E2).wr W4).wr W6).wr W8) (g := (mkF m 25 #[.val (.int p1), .unset, .unset, .unset, .unset, .unset, .unset] [(.int (3 : Int32)), (.ref b2), (.ref b2)])) rfl (hb hby at_25)
  obtain ⟨cl_b2_28, Ar_b2, q_b2, S_b2, N_b2, H_b2, G_b2⟩ := V_b2_8
  have hin28 : ¬ ((3 : Int32) < 0 ∨ cl_b2_28.slots.size ≤ ((3 : Int32)).toNatClampNeg) := inb_of S_b2 ⟨by decide, by decide⟩
  have Sto28 : Sto Z h8 b2 (.ref w_BOOLEAN) := Sto.ofV Ar_b2 q_b2 O2 (Ins.self ((((E_w_BOOLEAN.ext E2).wr W4).wr W6).wr W8))
  obtain ⟨T10, h10, X10, e10, W10, st10⟩ := stR X9 hx hZ e9 Ar_b2 (j := (3 : Int32)) hin28 rfl Sto28 (g := (mkF m 28 #[.val (.int p1), .unset, .unset, .unset, .unset, .unset, .unset] [(.ref w_BOOLEAN), (.int (3 : Int32)), (.ref b2), (.ref b2)])) rfl rfl (hb hby at_28)
  have V_b2_10 : Arv Z h10 b2 k2 (.object "com/example/sluice/sluice/xpath/AtomicType") (8 : Int32) [(.ref w_ANY_ATOMIC), (.ref w_UNTYPED_ATOMIC), (.ref w_STRING), (.ref w_BOOLEAN), .null, .null, .null, .null] .null := Arv.set Ar_b2 q_b2 S_b2 N_b2 H_b2 G_b2 rfl W10 3 rfl (Nat.le_of_ble_eq_true rfl)
  have K10 : Keep h0 h10 [] := K8.wr W10 (Or.inr sz_b2)
  have N10 := Fr.snoc X10 N8 g_b2
  obtain ⟨T11, X11, e11, st11⟩ := getS2 X10 hx hZ hown (host := "") (Or.inl (hw _ (List.mem_of_getElem? (i := 12) rfl))) Via.refl e10 (((((S_DECIMAL.ext E2).wr W4).wr W6).wr W8).wr W10) (g := (mkF m 31 #[.val (.int p1), .unset, .unset, .unset, .unset, .unset, .unset] [(.int (4 : Int32)), (.ref b2), (.ref b2)])) rfl (hb hby at_31)
  obtain ⟨cl_b2_34, Ar_b2, q_b2, S_b2, N_b2, H_b2, G_b2⟩ := V_b2_10
  have hin34 : ¬ ((4 : Int32) < 0 ∨ cl_b2_34.slots.size ≤ ((4 : Int32)).toNatClampNeg) := inb_of S_b2 ⟨by decide, by decide⟩
  have Sto34 : Sto Z h10 b2 (.ref w_DECIMAL) := Sto.ofV Ar_b2 q_b2 O2 (Ins.self (((((E_w_DECIMAL.ext E2).wr W4).wr W6).wr W8).wr W10))
  obtain ⟨T12, h12, X12, e12, W12, st12⟩ := stR X11 hx hZ e11 Ar_b2 (j := (4 : Int32)) hin34 rfl Sto34 (g := (mkF m 34 #[.val (.int p1), .unset, .unset, .unset, .unset, .unset, .unset] [(.ref w_DECIMAL), (.int (4 : Int32)), (.ref b2), (.ref b2)])) rfl rfl (hb hby at_34)
  have V_b2_12 : Arv Z h12 b2 k2 (.object "com/example/sluice/sluice/xpath/AtomicType") (8 : Int32) [(.ref w_ANY_ATOMIC), (.ref w_UNTYPED_ATOMIC), (.ref w_STRING), (.ref w_BOOLEAN), (.ref w_DECIMAL), .null, .null, .null] .null := Arv.set Ar_b2 q_b2 S_b2 N_b2 H_b2 G_b2 rfl W12 4 rfl (Nat.le_of_ble_eq_true rfl)
  have K12 : Keep h0 h12 [] := K10.wr W12 (Or.inr sz_b2)
  have N12 := Fr.snoc X12 N10 g_b2
  obtain ⟨T13, X13, e13, st13⟩ := getS2 X12 hx hZ hown (host := "") (Or.inl (hw _ (List.mem_of_getElem? (i := 14) rfl))) Via.refl e12 ((((((S_INTEGER.ext E2).wr W4).wr W6).wr W8).wr W10).wr W12) (g := (mkF m 37 #[.val (.int p1), .unset, .unset, .unset, .unset, .unset, .unset] [(.int (5 : Int32)), (.ref b2), (.ref b2)])) rfl (hb hby at_37)
  obtain ⟨cl_b2_40, Ar_b2, q_b2, S_b2, N_b2, H_b2, G_b2⟩ := V_b2_12
  have hin40 : ¬ ((5 : Int32) < 0 ∨ cl_b2_40.slots.size ≤ ((5 : Int32)).toNatClampNeg) := inb_of S_b2 ⟨by decide, by decide⟩
  have Sto40 : Sto Z h12 b2 (.ref w_INTEGER) := Sto.ofV Ar_b2 q_b2 O2 (Ins.self ((((((E_w_INTEGER.ext E2).wr W4).wr W6).wr W8).wr W10).wr W12))
  obtain ⟨T14, h14, X14, e14, W14, st14⟩ := stR X13 hx hZ e13 Ar_b2 (j := (5 : Int32)) hin40 rfl Sto40 (g := (mkF m 40 #[.val (.int p1), .unset, .unset, .unset, .unset, .unset, .unset] [(.ref w_INTEGER), (.int (5 : Int32)), (.ref b2), (.ref b2)])) rfl rfl (hb hby at_40)
  have V_b2_14 : Arv Z h14 b2 k2 (.object "com/example/sluice/sluice/xpath/AtomicType") (8 : Int32) [(.ref w_ANY_ATOMIC), (.ref w_UNTYPED_ATOMIC), (.ref w_STRING), (.ref w_BOOLEAN), (.ref w_DECIMAL), (.ref w_INTEGER), .null, .null] .null := Arv.set Ar_b2 q_b2 S_b2 N_b2 H_b2 G_b2 rfl W14 5 rfl (Nat.le_of_ble_eq_true rfl)
  have K14 : Keep h0 h14 [] := K12.wr W14 (Or.inr sz_b2)
  have N14 := Fr.snoc X14 N12 g_b2
  obtain ⟨T15, X15, e15, st15⟩ := getS2 X14 hx hZ hown (host := "") (Or.inl (hw _ (List.mem_of_getElem? (i := 16) rfl))) Via.refl e14 (((((((S_DOUBLE.ext E2).wr W4).wr W6).wr W8).wr W10).wr W12).wr W14) (g := (mkF m 44 #[.val (.int p1), .unset, .unset, .unset, .unset, .unset, .unset] [(.int (6 : Int32)), (.ref b2), (.ref b2)])) rfl (hb hby at_44)
  obtain ⟨cl_b2_47, Ar_b2, q_b2, S_b2, N_b2, H_b2, G_b2⟩ := V_b2_14
  have hin47 : ¬ ((6 : Int32) < 0 ∨ cl_b2_47.slots.size ≤ ((6 : Int32)).toNatClampNeg) := inb_of S_b2 ⟨by decide, by decide⟩
  have Sto47 : Sto Z h14 b2 (.ref w_DOUBLE) := Sto.ofV Ar_b2 q_b2 O2 (Ins.self (((((((E_w_DOUBLE.ext E2).wr W4).wr W6).wr W8).wr W10).wr W12).wr W14))
  obtain ⟨T16, h16, X16, e16, W16, st16⟩ := stR X15 hx hZ e15 Ar_b2 (j := (6 : Int32)) hin47 rfl Sto47 (g := (mkF m 47 #[.val (.int p1), .unset, .unset, .unset, .unset, .unset, .unset] [(.ref w_DOUBLE), (.int (6 : Int32)), (.ref b2), (.ref b2)])) rfl rfl (hb hby at_47)
  have V_b2_16 : Arv Z h16 b2 k2 (.object "com/example/sluice/sluice/xpath/AtomicType") (8 : Int32) [(.ref w_ANY_ATOMIC), (.ref w_UNTYPED_ATOMIC), (.ref w_STRING), (.ref w_BOOLEAN), (.ref w_DECIMAL), (.ref w_INTEGER), (.ref w_DOUBLE), .null] .null := Arv.set Ar_b2 q_b2 S_b2 N_b2 H_b2 G_b2 rfl W16 6 rfl (Nat.le_of_ble_eq_true rfl)
  have K16 : Keep h0 h16 [] := K14.wr W16 (Or.inr sz_b2)
  have N16 := Fr.snoc X16 N14 g_b2
  obtain ⟨T17, X17, e17, st17⟩ := getS2 X16 hx hZ hown (host := "") (Or.inl (hw _ (List.mem_of_getElem? (i := 18) rfl))) Via.refl e16 ((((((((S_NUMERIC.ext E2).wr W4).wr W6).wr W8).wr W10).wr W12).wr W14).wr W16) (g := (mkF m 51 #[.val (.int p1), .unset, .unset, .unset, .unset, .unset, .unset] [(.int (7 : Int32)), (.ref b2), (.ref b2)])) rfl (hb hby at_51)
  obtain ⟨cl_b2_54, Ar_b2, q_b2, S_b2, N_b2, H_b2, G_b2⟩ := V_b2_16
  have hin54 : ¬ ((7 : Int32) < 0 ∨ cl_b2_54.slots.size ≤ ((7 : Int32)).toNatClampNeg) := inb_of S_b2 ⟨by decide, by decide⟩
  have Sto54 : Sto Z h16 b2 (.ref w_NUMERIC) := Sto.ofV Ar_b2 q_b2 O2 (Ins.self ((((((((E_w_NUMERIC.ext E2).wr W4).wr W6).wr W8).wr W10).wr W12).wr W14).wr W16))
  obtain ⟨T18, h18, X18, e18, W18, st18⟩ := stR X17 hx hZ e17 Ar_b2 (j := (7 : Int32)) hin54 rfl Sto54 (g := (mkF m 54 #[.val (.int p1), .unset, .unset, .unset, .unset, .unset, .unset] [(.ref w_NUMERIC), (.int (7 : Int32)), (.ref b2), (.ref b2)])) rfl rfl (hb hby at_54)
  have V_b2_18 : Arv Z h18 b2 k2 (.object "com/example/sluice/sluice/xpath/AtomicType") (8 : Int32) [(.ref w_ANY_ATOMIC), (.ref w_UNTYPED_ATOMIC), (.ref w_STRING), (.ref w_BOOLEAN), (.ref w_DECIMAL), (.ref w_INTEGER), (.ref w_DOUBLE), (.ref w_NUMERIC)] .null := Arv.set Ar_b2 q_b2 S_b2 N_b2 H_b2 G_b2 rfl W18 7 rfl (Nat.le_of_ble_eq_true rfl)
  have K18 : Keep h0 h18 [] := K16.wr W18 (Or.inr sz_b2)
  have N18 := Fr.snoc X18 N16 g_b2
  obtain ⟨cl_b2_v19, Ar_b2_v19, q_b2_v19, S_b2_v19, N_b2_v19, H_b2_v19, G_b2_v19⟩ := id V_b2_18
  have hin_b2_v19 : ¬ (((p1 &&& (2147483647 : Int32)) % (8 : Int32)) < 0 ∨ cl_b2_v19.slots.size ≤ (((p1 &&& (2147483647 : Int32)) % (8 : Int32))).toNatClampNeg) := inb_of S_b2_v19 hij66
  have hat_b2_v19 : cl_b2_v19.slots[(((p1 &&& (2147483647 : Int32)) % (8 : Int32))).toNatClampNeg]? = some (.ref w_r) := (H_b2_v19 _ (Nat.lt_of_not_le fun q => hin_b2_v19 (Or.inr q))).trans (congrArg some hsel66)
  obtain ⟨cq20, kq20, q20a, q20b, q20c⟩ := isOf hZ e18 (((((((((E_w_r.ext E2).wr W4).wr W6).wr W8).wr W10).wr W12).wr W14).wr W16).wr W18)
  obtain ⟨_, _, ⟨T20, L20, k20, n20⟩, -, X20, ⟨Lc20, hQ20, l20, y20, z20⟩, st20⟩ := X18.virtualBack hx (y := (⟨"com/example/sluice/sluice/xpath/AtomicType", "isNumeric", "()Z"⟩ : MethodName)) (z := (⟨"com/example/sluice/sluice/xpath/AtomicType", "isNumeric", "()Z"⟩ : MethodName)) hown (mvT hZ (hw _ (List.mem_of_getElem? (i := 21) rfl))) (mvT hZ (hw _ (List.mem_of_getElem? (i := 22) rfl))) (notFace_of_selects (args := #[]) (mvT hZ (hw _ (List.mem_of_getElem? (i := 24) rfl)))) (mvT hZ (hw _ (List.mem_of_getElem? (i := 24) rfl))) (mvT hZ (hw _ (List.mem_of_getElem? (i := 23) rfl))) (by decide) (backOf (W := 0) (rm1 l Z a0 hw [] w_r w_INTEGER w_DECIMAL w_DOUBLE h18 n0 (Nat.le_trans (Nat.le_trans (Nat.le_trans (Nat.le_trans (Nat.le_trans (Nat.le_trans (Nat.le_trans (Nat.le_trans (Nat.le_trans Z0 E2.1) (Keep.of_wr W4).1) (Keep.of_wr W6).1) (Keep.of_wr W8).1) (Keep.of_wr W10).1) (Keep.of_wr W12).1) (Keep.of_wr W14).1) (Keep.of_wr W16).1) (Keep.of_wr W18).1) (((((((((S_INTEGER.ext E2).wr W4).wr W6).wr W8).wr W10).wr W12).wr W14).wr W16).wr W18) (((((((((S_DECIMAL.ext E2).wr W4).wr W6).wr W8).wr W10).wr W12).wr W14).wr W16).wr W18) (((((((((S_DOUBLE.ext E2).wr W4).wr W6).wr W8).wr W10).wr W12).wr W14).wr W16).wr W18)) hZ (hw _ (List.mem_of_getElem? (i := 25) rfl)) (hw _ (List.mem_of_getElem? (i := 3) rfl)) (by decide) (by decide)) q20a q20c (g := (mkF m 69 #[.val (.int p1), .val (.ref b2), .val (.int ((p1 &&& (2147483647 : Int32)) % (8 : Int32))), .val (.ref w_r), .unset, .unset, .unset] [(.ref w_r)])) rfl (by rw [hml]; rfl) (Steps.refl _) (argsL := []) (rest := []) (lenOf pd_0_0 rfl) rfl (by show 2 * 0 + _ ≤ _; exact Nat.le_of_eq rfl) (hb hby at_69) (fun _ _ => ⟨rfl, e18, (by decide : 1 + 0 ≤ _), (by decide : 8 + 0 ≤ _)⟩)
  dsimp only [Pt.U, Pt.locs, Pt.cells, Pt.slots] at X20 l20 y20 z20 st20 hQ20
  subst l20 y20 z20
  obtain ⟨rfl, N20q, e20⟩ := hQ20
  have N20 := Fr.app N18 N20q
  obtain ⟨T21, X21, e21, st21⟩ := getS2 X20 hx hZ hown (host := "") (Or.inl (hw _ (List.mem_of_getElem? (i := 12) rfl))) Via.refl e20 (((((((((S_DECIMAL.ext E2).wr W4).wr W6).wr W8).wr W10).wr W12).wr W14).wr W16).wr W18) (g := (mkF m 98 #[.val (.int p1), .val (.ref b2), .val (.int ((p1 &&& (2147483647 : Int32)) % (8 : Int32))), .val (.ref w_r), .val (.int (own_num w_r w_INTEGER w_DECIMAL w_DOUBLE)), .val (.int (1 : Int32)), .unset] [(.ref w_r)])) rfl (hb hby at_98)
  obtain ⟨cq22, kq22, q22a, q22b, q22c⟩ := isOf hZ e21 (((((((((E_w_r.ext E2).wr W4).wr W6).wr W8).wr W10).wr W12).wr W14).wr W16).wr W18)
  obtain ⟨_, _, ⟨T22, L22, k22, n22⟩, -, X22, ⟨Lc22, hQ22, l22, y22, z22⟩, st22⟩ := X21.virtualBack hx (y := (⟨"com/example/sluice/sluice/xpath/AtomicType", "isSubtypeOf", "(Lcom/example/sluice/sluice/xpath/AtomicType;)Z"⟩ : MethodName)) (z := (⟨"com/example/sluice/sluice/xpath/AtomicType", "isSubtypeOf", "(Lcom/example/sluice/sluice/xpath/AtomicType;)Z"⟩ : MethodName)) hown (mvT hZ (hw _ (List.mem_of_getElem? (i := 29) rfl))) (mvT hZ (hw _ (List.mem_of_getElem? (i := 30) rfl))) (notFace_of_selects (args := #[]) (mvT hZ (hw _ (List.mem_of_getElem? (i := 32) rfl)))) (mvT hZ (hw _ (List.mem_of_getElem? (i := 32) rfl))) (mvT hZ (hw _ (List.mem_of_getElem? (i := 31) rfl))) (by decide) (backOf (W := 0) (rm2 l Z a0 hw [] w_r w_DECIMAL w_NUMERIC s1 h18 n0 (Nat.le_trans (Nat.le_trans (Nat.le_trans (Nat.le_trans (Nat.le_trans (Nat.le_trans (Nat.le_trans (Nat.le_trans (Nat.le_trans Z0 E2.1) (Keep.of_wr W4).1) (Keep.of_wr W6).1) (Keep.of_wr W8).1) (Keep.of_wr W10).1) (Keep.of_wr W12).1) (Keep.of_wr W14).1) (Keep.of_wr W16).1) (Keep.of_wr W18).1) (((((((((S_NUMERIC.ext E2).wr W4).wr W6).wr W8).wr W10).wr W12).wr W14).wr W16).wr W18) nq1 (hs1.keep K18)) hZ (hw _ (List.mem_of_getElem? (i := 33) rfl)) (hw _ (List.mem_of_getElem? (i := 3) rfl)) (by decide) (by decide)) q22a q22c (g := (mkF m 101 #[.val (.int p1), .val (.ref b2), .val (.int ((p1 &&& (2147483647 : Int32)) % (8 : Int32))), .val (.ref w_r), .val (.int (own_num w_r w_INTEGER w_DECIMAL w_DOUBLE)), .val (.int (1 : Int32)), .unset] [(.ref w_DECIMAL), (.ref w_r)])) rfl (by rw [hml]; rfl) (Steps.refl _) (argsL := [(.ref w_DECIMAL)]) (rest := []) (lenOf pd_0_1 rfl) rfl (by show 2 * 0 + _ ≤ _; exact Nat.le_of_eq rfl) (hb hby at_101) (fun _ _ => ⟨rfl, e21, (by decide : 1 + 0 ≤ _), (by decide : 8 + 0 ≤ _)⟩)
  dsimp only [Pt.U, Pt.locs, Pt.cells, Pt.slots] at X22 l22 y22 z22 st22 hQ22
  subst l22 y22 z22
  obtain ⟨rfl, N22q, e22⟩ := hQ22
  have N22 := Fr.app N20 N22q
  obtain ⟨fs, hr, hrun, hended, hW, hsame⟩ := X22.leave (v := some (.int (1 : Int32))) (fun h => by rw [Bd.returns] at h; cases h)
  refine ⟨_, _, pre0 _ ?_, hrun, hended, _, _, rfl, ?_, ⟨_, rfl⟩, hW, hsame.mono (by decide) (by decide)⟩
  · show Steps p.tables e below (s₁.setTop (mkF m 0 #[.val (.int p1), .unset, .unset, .unset, .unset, .unset, .unset] [])) _
    refine XS.bipush X0.here hx rfl (hb hby at_0) ?_
    show Steps p.tables e below (s₁.setTop (mkF m 2 #[.val (.int p1), .unset, .unset, .unset, .unset, .unset, .unset] [(.int (8 : Int32))])) _
    refine st2 _ ?_
    show Steps p.tables e below (T2.setTop (mkF m 5 #[.val (.int p1), .unset, .unset, .unset, .unset, .unset, .unset] [(.ref b2)])) _
    refine XS.dup X2.here hx rfl (hb hby at_5) rfl rfl ?_
    show Steps p.tables e below (T2.setTop (mkF m 6 #[.val (.int p1), .unset, .unset, .unset, .unset, .unset, .unset] [(.ref b2), (.ref b2)])) _
    refine XS.iconst X2.here hx rfl (hb hby at_6) ?_
    show Steps p.tables e below (T2.setTop (mkF m 7 #[.val (.int p1), .unset, .unset, .unset, .unset, .unset, .unset] [(.int (0 : Int32)), (.ref b2), (.ref b2)])) _
    refine st3 _ ?_
    show Steps p.tables e below (T3.setTop (mkF m 10 #[.val (.int p1), .unset, .unset, .unset, .unset, .unset, .unset] [(.ref w_ANY_ATOMIC), (.int (0 : Int32)), (.ref b2), (.ref b2)])) _
    refine st4 _ ?_
    show Steps p.tables e below (T4.setTop (mkF m 11 #[.val (.int p1), .unset, .unset, .unset, .unset, .unset, .unset] [(.ref b2)])) _
    refine XS.dup X4.here hx rfl (hb hby at_11) rfl rfl ?_
    show Steps p.tables e below (T4.setTop (mkF m 12 #[.val (.int p1), .unset, .unset, .unset, .unset, .unset, .unset] [(.ref b2), (.ref b2)])) _
    refine XS.iconst X4.here hx rfl (hb hby at_12) ?_
    show Steps p.tables e below (T4.setTop (mkF m 13 #[.val (.int p1), .unset, .unset, .unset, .unset, .unset, .unset] [(.int (1 : Int32)), (.ref b2), (.ref b2)])) _
    refine st5 _ ?_
    show Steps p.tables e below (T5.setTop (mkF m 16 #[.val (.int p1), .unset, .unset, .unset, .unset, .unset, .unset] [(.ref w_UNTYPED_ATOMIC), (.int (1 : Int32)), (.ref b2), (.ref b2)])) _
    refine st6 _ ?_
    show Steps p.tables e below (T6.setTop (mkF m 17 #[.val (.int p1), .unset, .unset, .unset, .unset, .unset, .unset] [(.ref b2)])) _
    refine XS.dup X6.here hx rfl (hb hby at_17) rfl rfl ?_
    show Steps p.tables e below (T6.setTop (mkF m 18 #[.val (.int p1), .unset, .unset, .unset, .unset, .unset, .unset] [(.ref b2), (.ref b2)])) _
    refine XS.iconst X6.here hx rfl (hb hby at_18) ?_
    show Steps p.tables e below (T6.setTop (mkF m 19 #[.val (.int p1), .unset, .unset, .unset, .unset, .unset, .unset] [(.int (2 : Int32)), (.ref b2), (.ref b2)])) _
    refine st7 _ ?_
    show Steps p.tables e below (T7.setTop (mkF m 22 #[.val (.int p1), .unset, .unset, .unset, .unset, .unset, .unset] [(.ref w_STRING), (.int (2 : Int32)), (.ref b2), (.ref b2)])) _
    refine st8 _ ?_
    show Steps p.tables e below (T8.setTop (mkF m 23 #[.val (.int p1), .unset, .unset, .unset, .unset, .unset, .unset] [(.ref b2)])) _
    refine XS.dup X8.here hx rfl (hb hby at_23) rfl rfl ?_
    show Steps p.tables e below (T8.setTop (mkF m 24 #[.val (.int p1), .unset, .unset, .unset, .unset, .unset, .unset] [(.ref b2), (.ref b2)])) _
    refine XS.iconst X8.here hx rfl (hb hby at_24) ?_
    show Steps p.tables e below (T8.setTop (mkF m 25 #[.val (.int p1), .unset, .unset, .unset, .unset, .unset, .unset] [(.int (3 : Int32)), (.ref b2), (.ref b2)])) _
    refine st9 _ ?_
    show Steps p.tables e below (T9.setTop (mkF m 28 #[.val (.int p1), .unset, .unset, .unset, .unset, .unset, .unset] [(.ref w_BOOLEAN), (.int (3 : Int32)), (.ref b2), (.ref b2)])) _
    refine st10 _ ?_
    show Steps p.tables e below (T10.setTop (mkF m 29 #[.val (.int p1), .unset, .unset, .unset, .unset, .unset, .unset] [(.ref b2)])) _
    refine XS.dup X10.here hx rfl (hb hby at_29) rfl rfl ?_
    show Steps p.tables e below (T10.setTop (mkF m 30 #[.val (.int p1), .unset, .unset, .unset, .unset, .unset, .unset] [(.ref b2), (.ref b2)])) _
    refine XS.iconst X10.here hx rfl (hb hby at_30) ?_
    show Steps p.tables e below (T10.setTop (mkF m 31 #[.val (.int p1), .unset, .unset, .unset, .unset, .unset, .unset] [(.int (4 : Int32)), (.ref b2), (.ref b2)])) _
    refine st11 _ ?_
    show Steps p.tables e below (T11.setTop (mkF m 34 #[.val (.int p1), .unset, .unset, .unset, .unset, .unset, .unset] [(.ref w_DECIMAL), (.int (4 : Int32)), (.ref b2), (.ref b2)])) _
    refine st12 _ ?_
    show Steps p.tables e below (T12.setTop (mkF m 35 #[.val (.int p1), .unset, .unset, .unset, .unset, .unset, .unset] [(.ref b2)])) _
    refine XS.dup X12.here hx rfl (hb hby at_35) rfl rfl ?_
    show Steps p.tables e below (T12.setTop (mkF m 36 #[.val (.int p1), .unset, .unset, .unset, .unset, .unset, .unset] [(.ref b2), (.ref b2)])) _
    refine XS.iconst X12.here hx rfl (hb hby at_36) ?_
    show Steps p.tables e below (T12.setTop (mkF m 37 #[.val (.int p1), .unset, .unset, .unset, .unset, .unset, .unset] [(.int (5 : Int32)), (.ref b2), (.ref b2)])) _
    refine st13 _ ?_
    show Steps p.tables e below (T13.setTop (mkF m 40 #[.val (.int p1), .unset, .unset, .unset, .unset, .unset, .unset] [(.ref w_INTEGER), (.int (5 : Int32)), (.ref b2), (.ref b2)])) _
    refine st14 _ ?_
    show Steps p.tables e below (T14.setTop (mkF m 41 #[.val (.int p1), .unset, .unset, .unset, .unset, .unset, .unset] [(.ref b2)])) _
    refine XS.dup X14.here hx rfl (hb hby at_41) rfl rfl ?_
    show Steps p.tables e below (T14.setTop (mkF m 42 #[.val (.int p1), .unset, .unset, .unset, .unset, .unset, .unset] [(.ref b2), (.ref b2)])) _
    refine XS.bipush X14.here hx rfl (hb hby at_42) ?_
    show Steps p.tables e below (T14.setTop (mkF m 44 #[.val (.int p1), .unset, .unset, .unset, .unset, .unset, .unset] [(.int (6 : Int32)), (.ref b2), (.ref b2)])) _
    refine st15 _ ?_
    show Steps p.tables e below (T15.setTop (mkF m 47 #[.val (.int p1), .unset, .unset, .unset, .unset, .unset, .unset] [(.ref w_DOUBLE), (.int (6 : Int32)), (.ref b2), (.ref b2)])) _
    refine st16 _ ?_
    show Steps p.tables e below (T16.setTop (mkF m 48 #[.val (.int p1), .unset, .unset, .unset, .unset, .unset, .unset] [(.ref b2)])) _
    refine XS.dup X16.here hx rfl (hb hby at_48) rfl rfl ?_
    show Steps p.tables e below (T16.setTop (mkF m 49 #[.val (.int p1), .unset, .unset, .unset, .unset, .unset, .unset] [(.ref b2), (.ref b2)])) _
    refine XS.bipush X16.here hx rfl (hb hby at_49) ?_
    show Steps p.tables e below (T16.setTop (mkF m 51 #[.val (.int p1), .unset, .unset, .unset, .unset, .unset, .unset] [(.int (7 : Int32)), (.ref b2), (.ref b2)])) _
    refine st17 _ ?_
    show Steps p.tables e below (T17.setTop (mkF m 54 #[.val (.int p1), .unset, .unset, .unset, .unset, .unset, .unset] [(.ref w_NUMERIC), (.int (7 : Int32)), (.ref b2), (.ref b2)])) _
    refine st18 _ ?_
    show Steps p.tables e below (T18.setTop (mkF m 55 #[.val (.int p1), .unset, .unset, .unset, .unset, .unset, .unset] [(.ref b2)])) _
    refine XS.astoreN X18.here hx rfl (hb hby at_55) rfl rfl (l' := #[.val (.int p1), .val (.ref b2), .unset, .unset, .unset, .unset, .unset]) rfl ?_
    show Steps p.tables e below (T18.setTop (mkF m 56 #[.val (.int p1), .val (.ref b2), .unset, .unset, .unset, .unset, .unset] [])) _
    refine XS.iloadN X18.here hx rfl (hb hby at_56) rfl ?_
    show Steps p.tables e below (T18.setTop (mkF m 57 #[.val (.int p1), .val (.ref b2), .unset, .unset, .unset, .unset, .unset] [(.int p1)])) _
    refine X18.ldcInt hx hown (mvT hZ (hw _ (List.mem_of_getElem? (i := 20) rfl))) (g := (mkF m 57 #[.val (.int p1), .val (.ref b2), .unset, .unset, .unset, .unset, .unset] [(.int p1)])) rfl (hb hby at_57) _ ?_
    show Steps p.tables e below (T18.setTop (mkF m 59 #[.val (.int p1), .val (.ref b2), .unset, .unset, .unset, .unset, .unset] [(.int (2147483647 : Int32)), (.int p1)])) _
    refine XS.iand X18.here hx rfl (hb hby at_59) rfl ?_
    show Steps p.tables e below (T18.setTop (mkF m 60 #[.val (.int p1), .val (.ref b2), .unset, .unset, .unset, .unset, .unset] [(.int (p1 &&& (2147483647 : Int32)))])) _
    refine XS.bipush X18.here hx rfl (hb hby at_60) ?_
    show Steps p.tables e below (T18.setTop (mkF m 62 #[.val (.int p1), .val (.ref b2), .unset, .unset, .unset, .unset, .unset] [(.int (8 : Int32)), (.int (p1 &&& (2147483647 : Int32)))])) _
    refine iremM X18 hx rfl (hb hby at_62) rfl (by decide) ?_
    show Steps p.tables e below (T18.setTop (mkF m 63 #[.val (.int p1), .val (.ref b2), .unset, .unset, .unset, .unset, .unset] [(.int ((p1 &&& (2147483647 : Int32)) % (8 : Int32)))])) _
    refine XS.istoreN X18.here hx rfl (hb hby at_63) rfl (l' := #[.val (.int p1), .val (.ref b2), .val (.int ((p1 &&& (2147483647 : Int32)) % (8 : Int32))), .unset, .unset, .unset, .unset]) rfl ?_
    show Steps p.tables e below (T18.setTop (mkF m 64 #[.val (.int p1), .val (.ref b2), .val (.int ((p1 &&& (2147483647 : Int32)) % (8 : Int32))), .unset, .unset, .unset, .unset] [])) _
    refine XS.aloadN X18.here hx rfl (hb hby at_64) rfl rfl ?_
    show Steps p.tables e below (T18.setTop (mkF m 65 #[.val (.int p1), .val (.ref b2), .val (.int ((p1 &&& (2147483647 : Int32)) % (8 : Int32))), .unset, .unset, .unset, .unset] [(.ref b2)])) _
    refine XS.iloadN X18.here hx rfl (hb hby at_65) rfl ?_
    show Steps p.tables e below (T18.setTop (mkF m 66 #[.val (.int p1), .val (.ref b2), .val (.int ((p1 &&& (2147483647 : Int32)) % (8 : Int32))), .unset, .unset, .unset, .unset] [(.int ((p1 &&& (2147483647 : Int32)) % (8 : Int32))), (.ref b2)])) _
    refine X18.aaload hx (j := ((p1 &&& (2147483647 : Int32)) % (8 : Int32))) (v := (.ref w_r)) (by rw [e18]; exact Ar_b2_v19.1) (State.isArrayOf_alike hZ.alike Ar_b2_v19.2.1) rfl Ar_b2_v19.2.2 hin_b2_v19 hat_b2_v19 (g := (mkF m 66 #[.val (.int p1), .val (.ref b2), .val (.int ((p1 &&& (2147483647 : Int32)) % (8 : Int32))), .unset, .unset, .unset, .unset] [(.int ((p1 &&& (2147483647 : Int32)) % (8 : Int32))), (.ref b2)])) rfl rfl (hb hby at_66) _ ?_
    show Steps p.tables e below (T18.setTop (mkF m 67 #[.val (.int p1), .val (.ref b2), .val (.int ((p1 &&& (2147483647 : Int32)) % (8 : Int32))), .unset, .unset, .unset, .unset] [(.ref w_r)])) _
    refine XS.astoreN X18.here hx rfl (hb hby at_67) rfl rfl (l' := #[.val (.int p1), .val (.ref b2), .val (.int ((p1 &&& (2147483647 : Int32)) % (8 : Int32))), .val (.ref w_r), .unset, .unset, .unset]) rfl ?_
    show Steps p.tables e below (T18.setTop (mkF m 68 #[.val (.int p1), .val (.ref b2), .val (.int ((p1 &&& (2147483647 : Int32)) % (8 : Int32))), .val (.ref w_r), .unset, .unset, .unset] [])) _
    refine XS.aloadN X18.here hx rfl (hb hby at_68) rfl rfl ?_
    show Steps p.tables e below (T18.setTop (mkF m 69 #[.val (.int p1), .val (.ref b2), .val (.int ((p1 &&& (2147483647 : Int32)) % (8 : Int32))), .val (.ref w_r), .unset, .unset, .unset] [(.ref w_r)])) _
    refine st20.trans ?_
    show Steps p.tables e below (T20.setTop (mkF m 72 #[.val (.int p1), .val (.ref b2), .val (.int ((p1 &&& (2147483647 : Int32)) % (8 : Int32))), .val (.ref w_r), .unset, .unset, .unset] [(.int (own_num w_r w_INTEGER w_DECIMAL w_DOUBLE))])) _
    refine XS.istore X20.here hx rfl (hb hby at_72) rfl (l' := #[.val (.int p1), .val (.ref b2), .val (.int ((p1 &&& (2147483647 : Int32)) % (8 : Int32))), .val (.ref w_r), .val (.int (own_num w_r w_INTEGER w_DECIMAL w_DOUBLE)), .unset, .unset]) rfl ?_
    show Steps p.tables e below (T20.setTop (mkF m 74 #[.val (.int p1), .val (.ref b2), .val (.int ((p1 &&& (2147483647 : Int32)) % (8 : Int32))), .val (.ref w_r), .val (.int (own_num w_r w_INTEGER w_DECIMAL w_DOUBLE)), .unset, .unset] [])) _
    refine XS.iloadN X20.here hx rfl (hb hby at_74) rfl ?_
    show Steps p.tables e below (T20.setTop (mkF m 75 #[.val (.int p1), .val (.ref b2), .val (.int ((p1 &&& (2147483647 : Int32)) % (8 : Int32))), .val (.ref w_r), .val (.int (own_num w_r w_INTEGER w_DECIMAL w_DOUBLE)), .unset, .unset] [(.int ((p1 &&& (2147483647 : Int32)) % (8 : Int32)))])) _
    refine XS.iconst X20.here hx rfl (hb hby at_75) ?_
    show Steps p.tables e below (T20.setTop (mkF m 76 #[.val (.int p1), .val (.ref b2), .val (.int ((p1 &&& (2147483647 : Int32)) % (8 : Int32))), .val (.ref w_r), .val (.int (own_num w_r w_INTEGER w_DECIMAL w_DOUBLE)), .unset, .unset] [(.int (4 : Int32)), (.int ((p1 &&& (2147483647 : Int32)) % (8 : Int32)))])) _
    refine XS.icmpYes X20.here hx rfl (pc0 := 76) (pc' := 90) rfl (hb hby at_76) rfl (teq hc76).1 (by decide) (by decide) ?_
    show Steps p.tables e below (T20.setTop (mkF m 90 #[.val (.int p1), .val (.ref b2), .val (.int ((p1 &&& (2147483647 : Int32)) % (8 : Int32))), .val (.ref w_r), .val (.int (own_num w_r w_INTEGER w_DECIMAL w_DOUBLE)), .unset, .unset] [])) _
    refine XS.iconst X20.here hx rfl (hb hby at_90) ?_
    show Steps p.tables e below (T20.setTop (mkF m 91 #[.val (.int p1), .val (.ref b2), .val (.int ((p1 &&& (2147483647 : Int32)) % (8 : Int32))), .val (.ref w_r), .val (.int (own_num w_r w_INTEGER w_DECIMAL w_DOUBLE)), .unset, .unset] [(.int (1 : Int32))])) _
    refine XS.goto X20.here hx rfl (pc0 := 91) (pc' := 95) rfl (hb hby at_91) (by decide) (by decide) ?_
    show Steps p.tables e below (T20.setTop (mkF m 95 #[.val (.int p1), .val (.ref b2), .val (.int ((p1 &&& (2147483647 : Int32)) % (8 : Int32))), .val (.ref w_r), .val (.int (own_num w_r w_INTEGER w_DECIMAL w_DOUBLE)), .unset, .unset] [(.int (1 : Int32))])) _
    refine XS.istore X20.here hx rfl (hb hby at_95) rfl (l' := #[.val (.int p1), .val (.ref b2), .val (.int ((p1 &&& (2147483647 : Int32)) % (8 : Int32))), .val (.ref w_r), .val (.int (own_num w_r w_INTEGER w_DECIMAL w_DOUBLE)), .val (.int (1 : Int32)), .unset]) rfl ?_
    show Steps p.tables e below (T20.setTop (mkF m 97 #[.val (.int p1), .val (.ref b2), .val (.int ((p1 &&& (2147483647 : Int32)) % (8 : Int32))), .val (.ref w_r), .val (.int (own_num w_r w_INTEGER w_DECIMAL w_DOUBLE)), .val (.int (1 : Int32)), .unset] [])) _
    refine XS.aloadN X20.here hx rfl (hb hby at_97) rfl rfl ?_
    show Steps p.tables e below (T20.setTop (mkF m 98 #[.val (.int p1), .val (.ref b2), .val (.int ((p1 &&& (2147483647 : Int32)) % (8 : Int32))), .val (.ref w_r), .val (.int (own_num w_r w_INTEGER w_DECIMAL w_DOUBLE)), .val (.int (1 : Int32)), .unset] [(.ref w_r)])) _
    refine st21 _ ?_
    show Steps p.tables e below (T21.setTop (mkF m 101 #[.val (.int p1), .val (.ref b2), .val (.int ((p1 &&& (2147483647 : Int32)) % (8 : Int32))), .val (.ref w_r), .val (.int (own_num w_r w_INTEGER w_DECIMAL w_DOUBLE)), .val (.int (1 : Int32)), .unset] [(.ref w_DECIMAL), (.ref w_r)])) _
    refine st22.trans ?_
    show Steps p.tables e below (T22.setTop (mkF m 104 #[.val (.int p1), .val (.ref b2), .val (.int ((p1 &&& (2147483647 : Int32)) % (8 : Int32))), .val (.ref w_r), .val (.int (own_num w_r w_INTEGER w_DECIMAL w_DOUBLE)), .val (.int (1 : Int32)), .unset] [(.int s1)])) _
    refine XS.ifYes X22.here hx rfl (pc0 := 104) (pc' := 117) rfl (hb hby at_104) rfl ((if0 _ _).trans (feq hc104).2) (by decide) (by decide) ?_
    show Steps p.tables e below (T22.setTop (mkF m 117 #[.val (.int p1), .val (.ref b2), .val (.int ((p1 &&& (2147483647 : Int32)) % (8 : Int32))), .val (.ref w_r), .val (.int (own_num w_r w_INTEGER w_DECIMAL w_DOUBLE)), .val (.int (1 : Int32)), .unset] [])) _
    refine XS.iconst X22.here hx rfl (hb hby at_117) ?_
    show Steps p.tables e below (T22.setTop (mkF m 118 #[.val (.int p1), .val (.ref b2), .val (.int ((p1 &&& (2147483647 : Int32)) % (8 : Int32))), .val (.ref w_r), .val (.int (own_num w_r w_INTEGER w_DECIMAL w_DOUBLE)), .val (.int (1 : Int32)), .unset] [(.int (1 : Int32))])) _
    refine XS.goto X22.here hx rfl (pc0 := 118) (pc' := 122) rfl (hb hby at_118) (by decide) (by decide) ?_
    show Steps p.tables e below (T22.setTop (mkF m 122 #[.val (.int p1), .val (.ref b2), .val (.int ((p1 &&& (2147483647 : Int32)) % (8 : Int32))), .val (.ref w_r), .val (.int (own_num w_r w_INTEGER w_DECIMAL w_DOUBLE)), .val (.int (1 : Int32)), .unset] [(.int (1 : Int32))])) _
    refine XS.istore X22.here hx rfl (hb hby at_122) rfl (l' := #[.val (.int p1), .val (.ref b2), .val (.int ((p1 &&& (2147483647 : Int32)) % (8 : Int32))), .val (.ref w_r), .val (.int (own_num w_r w_INTEGER w_DECIMAL w_DOUBLE)), .val (.int (1 : Int32)), .val (.int (1 : Int32))]) rfl ?_
    show Steps p.tables e below (T22.setTop (mkF m 124 #[.val (.int p1), .val (.ref b2), .val (.int ((p1 &&& (2147483647 : Int32)) % (8 : Int32))), .val (.ref w_r), .val (.int (own_num w_r w_INTEGER w_DECIMAL w_DOUBLE)), .val (.int (1 : Int32)), .val (.int (1 : Int32))] [])) _
    refine XS.iload X22.here hx rfl (hb hby at_124) rfl ?_
    show Steps p.tables e below (T22.setTop (mkF m 126 #[.val (.int p1), .val (.ref b2), .val (.int ((p1 &&& (2147483647 : Int32)) % (8 : Int32))), .val (.ref w_r), .val (.int (own_num w_r w_INTEGER w_DECIMAL w_DOUBLE)), .val (.int (1 : Int32)), .val (.int (1 : Int32))] [(.int (own_num w_r w_INTEGER w_DECIMAL w_DOUBLE))])) _
    refine XS.iload X22.here hx rfl (hb hby at_126) rfl ?_
    show Steps p.tables e below (T22.setTop (mkF m 128 #[.val (.int p1), .val (.ref b2), .val (.int ((p1 &&& (2147483647 : Int32)) % (8 : Int32))), .val (.ref w_r), .val (.int (own_num w_r w_INTEGER w_DECIMAL w_DOUBLE)), .val (.int (1 : Int32)), .val (.int (1 : Int32))] [(.int (1 : Int32)), (.int (own_num w_r w_INTEGER w_DECIMAL w_DOUBLE))])) _
    refine XS.icmpNo X22.here hx rfl (hb hby at_128) rfl (teq hc128).2 ?_
    show Steps p.tables e below (T22.setTop (mkF m 131 #[.val (.int p1), .val (.ref b2), .val (.int ((p1 &&& (2147483647 : Int32)) % (8 : Int32))), .val (.ref w_r), .val (.int (own_num w_r w_INTEGER w_DECIMAL w_DOUBLE)), .val (.int (1 : Int32)), .val (.int (1 : Int32))] [])) _
    refine XS.iload X22.here hx rfl (hb hby at_131) rfl ?_
    show Steps p.tables e below (T22.setTop (mkF m 133 #[.val (.int p1), .val (.ref b2), .val (.int ((p1 &&& (2147483647 : Int32)) % (8 : Int32))), .val (.ref w_r), .val (.int (own_num w_r w_INTEGER w_DECIMAL w_DOUBLE)), .val (.int (1 : Int32)), .val (.int (1 : Int32))] [(.int (own_num w_r w_INTEGER w_DECIMAL w_DOUBLE))])) _
    refine XS.iload X22.here hx rfl (hb hby at_133) rfl ?_
    show Steps p.tables e below (T22.setTop (mkF m 135 #[.val (.int p1), .val (.ref b2), .val (.int ((p1 &&& (2147483647 : Int32)) % (8 : Int32))), .val (.ref w_r), .val (.int (own_num w_r w_INTEGER w_DECIMAL w_DOUBLE)), .val (.int (1 : Int32)), .val (.int (1 : Int32))] [(.int (1 : Int32)), (.int (own_num w_r w_INTEGER w_DECIMAL w_DOUBLE))])) _
    refine XS.icmpNo X22.here hx rfl (hb hby at_135) rfl (teq hc135).2 ?_
    show Steps p.tables e below (T22.setTop (mkF m 138 #[.val (.int p1), .val (.ref b2), .val (.int ((p1 &&& (2147483647 : Int32)) % (8 : Int32))), .val (.ref w_r), .val (.int (own_num w_r w_INTEGER w_DECIMAL w_DOUBLE)), .val (.int (1 : Int32)), .val (.int (1 : Int32))] [])) _
    refine XS.iconst X22.here hx rfl (hb hby at_138) ?_
    show Steps p.tables e below (T22.setTop (mkF m 139 #[.val (.int p1), .val (.ref b2), .val (.int ((p1 &&& (2147483647 : Int32)) % (8 : Int32))), .val (.ref w_r), .val (.int (own_num w_r w_INTEGER w_DECIMAL w_DOUBLE)), .val (.int (1 : Int32)), .val (.int (1 : Int32))] [(.int (1 : Int32))])) _
    refine XS.goto X22.here hx rfl (pc0 := 139) (pc' := 143) rfl (hb hby at_139) (by decide) (by decide) ?_
    show Steps p.tables e below (T22.setTop (mkF m 143 #[.val (.int p1), .val (.ref b2), .val (.int ((p1 &&& (2147483647 : Int32)) % (8 : Int32))), .val (.ref w_r), .val (.int (own_num w_r w_INTEGER w_DECIMAL w_DOUBLE)), .val (.int (1 : Int32)), .val (.int (1 : Int32))] [(.int (1 : Int32))])) _
    exact retN X22 hx (t := .boolean) Bd.returns (by simp) (hb hby at_143) hr
  · show QL h0 n0 _ T22.heap _
    rw [e22]
    exact ⟨rfl, N22⟩
set_option maxRecDepth 65536 in
set_option maxHeartbeats 40000000 in
theorem rm0_fttff (l : Launch) (Z : State) (a0 : Array Value) (hw : ∀ d ∈ tables_1, d.before a0 Z = true) (ws : List Jvm.Cond) (p1 : Int32) (w_ANY_ATOMIC : Addr) (w_UNTYPED_ATOMIC : Addr) (w_STRING : Addr) (w_BOOLEAN : Addr) (w_DECIMAL : Addr) (w_INTEGER : Addr) (w_DOUBLE : Addr) (w_NUMERIC : Addr) (w_r : Addr) (s1 : Int32) (h0 : Heap) (n0 : Nat) (Z0 : n0 ≤ h0.size) (S_ANY_ATOMIC : Sta Z h0 "com/example/sluice/sluice/xpath/AtomicType" "ANY_ATOMIC" "Lcom/example/sluice/sluice/xpath/AtomicType;" (.ref w_ANY_ATOMIC)) (E_w_ANY_ATOMIC : Exa Z h0 w_ANY_ATOMIC "com/example/sluice/sluice/xpath/AtomicType") (S_UNTYPED_ATOMIC : Sta Z h0 "com/example/sluice/sluice/xpath/AtomicType" "UNTYPED_ATOMIC" "Lcom/example/sluice/sluice/xpath/AtomicType;" (.ref w_UNTYPED_ATOMIC)) (E_w_UNTYPED_ATOMIC : Exa Z h0 w_UNTYPED_ATOMIC "com/example/sluice/sluice/xpath/AtomicType") (S_STRING : Sta Z h0 "com/example/sluice/sluice/xpath/AtomicType" "STRING" "Lcom/example/sluice/sluice/xpath/AtomicType;" (.ref w_STRING)) (E_w_STRING : Exa Z h0 w_STRING "com/example/sluice/sluice/xpath/AtomicType") (S_BOOLEAN : Sta Z h0 "com/example/sluice/sluice/xpath/AtomicType" "BOOLEAN" "Lcom/example/sluice/sluice/xpath/AtomicType;" (.ref w_BOOLEAN)) (E_w_BOOLEAN : Exa Z h0 w_BOOLEAN "com/example/sluice/sluice/xpath/AtomicType") (S_DECIMAL : Sta Z h0 "com/example/sluice/sluice/xpath/AtomicType" "DECIMAL" "Lcom/example/sluice/sluice/xpath/AtomicType;" (.ref w_DECIMAL)) (E_w_DECIMAL : Exa Z h0 w_DECIMAL "com/example/sluice/sluice/xpath/AtomicType") (S_INTEGER : Sta Z h0 "com/example/sluice/sluice/xpath/AtomicType" "INTEGER" "Lcom/example/sluice/sluice/xpath/AtomicType;" (.ref w_INTEGER)) (E_w_INTEGER : Exa Z h0 w_INTEGER "com/example/sluice/sluice/xpath/AtomicType") (S_DOUBLE : Sta Z h0 "com/example/sluice/sluice/xpath/AtomicType" "DOUBLE" "Lcom/example/sluice/sluice/xpath/AtomicType;" (.ref w_DOUBLE)) (E_w_DOUBLE : Exa Z h0 w_DOUBLE "com/example/sluice/sluice/xpath/AtomicType") (S_NUMERIC : Sta Z h0 "com/example/sluice/sluice/xpath/AtomicType" "NUMERIC" "Lcom/example/sluice/sluice/xpath/AtomicType;" (.ref w_NUMERIC)) (E_w_NUMERIC : Exa Z h0 w_NUMERIC "com/example/sluice/sluice/xpath/AtomicType") (hij66 : ¬ ((p1 &&& (2147483647 : Int32)) % (8 : Int32)) < 0 ∧ ((p1 &&& (2147483647 : Int32)) % (8 : Int32)) < (8 : Int32)) (hsel66 : List.getD ([(.ref w_ANY_ATOMIC), (.ref w_UNTYPED_ATOMIC), (.ref w_STRING), (.ref w_BOOLEAN), (.ref w_DECIMAL), (.ref w_INTEGER), (.ref w_DOUBLE), (.ref w_NUMERIC)] : List Value) (((p1 &&& (2147483647 : Int32)) % (8 : Int32))).toNatClampNeg .null = .ref w_r) (E_w_r : Exa Z h0 w_r "com/example/sluice/sluice/xpath/AtomicType") (nq1 : ¬ (w_DECIMAL = w_NUMERIC)) (hs1 : Sub Z h0 w_r w_DECIMAL s1) (hc76 : ¬ (((p1 &&& (2147483647 : Int32)) % (8 : Int32)) = (4 : Int32))) (hc81 : ((p1 &&& (2147483647 : Int32)) % (8 : Int32)) = (5 : Int32)) (hc104 : ¬ (s1 = (0 : Int32))) (hc128 : (own_num w_r w_INTEGER w_DECIMAL w_DOUBLE) = (1 : Int32)) (hc135 : (own_num w_r w_INTEGER w_DECIMAL w_DOUBLE) = (1 : Int32)) :
    MetFree l x (head1 (Jvm.Cond.code x code maxLocals ret :: ws) room_1) (fun a U => a = #[(.int p1)] ∧ Z.Warmed39 U.vm ∧ U.heap = h0) (fun _ _ _ _ _ => True) (fun _ U o U' => ∃ v L, o = .returned v ∧ QL h0 n0 v U'.heap L ∧ FrameEnd U o U' L room_1.cells room_1.slots) := by
  refine MetFree.of_bodySF (plainFor_of_name pn_0) hisR ?_
  intro p e s m args below meth c s₁ Bd hml0 hP hK
  obtain ⟨rfl, hZ, hh⟩ := hP
  have hx := Bd.exec
  have hby := Bd.bytes
  have hml : c.maxLocals = 7 := hml0
  have hown : s.vm.findClass "com/example/sluice/sluice/xpath/AtomicTypeIsNumericPinLaw" = some m.cls := findClass_of_methodNamed Bd.named
  have hnm := (name_of_methodNamed Bd.named Bd.method).1
  have X0 : Stand p l e room_1 s m #[(.int p1)] below meth c s₁ [] 0 0 := Stand.of_body Bd
  have e0 : s₁.heap = h0 := by rw [← hh, Bd.state]; rfl
  have N0 := Fr.nil n0
  have pre0 : ∀ t, Steps p.tables e below (s₁.setTop (mkF m 0 #[.val (.int p1), .unset, .unset, .unset, .unset, .unset, .unset] [])) t → Steps p.tables e below (s₁.setTop (entryFrame m #[(.int p1)] maxLocals)) t := fun t k => castTop (ef_0 m p1) k
  obtain ⟨T2, h2, k2, X2, e2, E2, A2, O2, st2⟩ := newR X0 hx hZ hown (hw _ (List.mem_of_getElem? (i := 0) rfl)) (hw _ (List.mem_of_getElem? (i := 1) rfl)) e0 (g := (mkF m 2 #[.val (.int p1), .unset, .unset, .unset, .unset, .unset, .unset] [(.int (8 : Int32))])) rfl (hb hby at_2) rfl (by decide) (cap := 8) (by decide) (by decide) (by decide) (by decide)
  obtain ⟨b2, g2⟩ : ∃ z, z = h0.size := ⟨_, rfl⟩
  rw [← g2] at A2 st2
  have V_b2 : Arv Z h2 b2 k2 (.object "com/example/sluice/sluice/xpath/AtomicType") (8 : Int32) [.null, .null, .null, .null, .null, .null, .null, .null] .null := (Arv.new A2 (by decide)).pad (pad_rep [] .null 8)
  skip
  have g_b2 : n0 ≤ b2 := Nat.le_trans Z0 (Nat.le_of_eq g2.symm)
  have sz_b2 : h0.size ≤ b2 := (Nat.le_trans (Keep.refl h0 []).1 (Nat.le_of_eq g2.symm))
  have K2 : Keep h0 h2 [] := (Keep.refl h0 []).ext E2
  obtain ⟨T3, X3, e3, st3⟩ := getS2 X2 hx hZ hown (host := "") (Or.inl (hw _ (List.mem_of_getElem? (i := 2) rfl))) Via.refl e2 (S_ANY_ATOMIC.ext E2) (g := (mkF m 7 #[.val (.int p1), .unset, .unset, .unset, .unset, .unset, .unset] [(.int (0 : Int32)), (.ref b2), (.ref b2)])) rfl (hb hby at_7)
  obtain ⟨cl_b2_10, Ar_b2, q_b2, S_b2, N_b2, H_b2, G_b2⟩ := V_b2
  have hin10 : ¬ ((0 : Int32) < 0 ∨ cl_b2_10.slots.size ≤ ((0 : Int32)).toNatClampNeg) := inb_of S_b2 ⟨by decide, by decide⟩
  have Sto10 : Sto Z h2 b2 (.ref w_ANY_ATOMIC) := Sto.ofV Ar_b2 q_b2 O2 (Ins.self (E_w_ANY_ATOMIC.ext E2))
  obtain ⟨T4, h4, X4, e4, W4, st4⟩ := stR X3 hx hZ e3 Ar_b2 (j := (0 : Int32)) hin10 rfl Sto10 (g := (mkF m 10 #[.val (.int p1), .unset, .unset, .unset, .unset, .unset, .unset] [(.ref w_ANY_ATOMIC), (.int (0 : Int32)), (.ref b2), (.ref b2)])) rfl rfl (hb hby at_10)
  have V_b2_4 : Arv Z h4 b2 k2 (.object "com/example/sluice/sluice/xpath/AtomicType") (8 : Int32) [(.ref w_ANY_ATOMIC), .null, .null, .null, .null, .null, .null, .null] .null := Arv.set Ar_b2 q_b2 S_b2 N_b2 H_b2 G_b2 rfl W4 0 rfl (Nat.le_of_ble_eq_true rfl)
  have K4 : Keep h0 h4 [] := K2.wr W4 (Or.inr sz_b2)
  have N4 := Fr.snoc X4 N0 g_b2
  obtain ⟨T5, X5, e5, st5⟩ := getS2 X4 hx hZ hown (host := "") (Or.inl (hw _ (List.mem_of_getElem? (i := 6) rfl))) Via.refl e4 ((S_UNTYPED_ATOMIC.ext E2).wr W4) (g := (mkF m 13 #[.val (.int p1), .unset, .unset, .unset, .unset, .unset, .unset] [(.int (1 : Int32)), (.ref b2), (.ref b2)])) rfl (hb hby at_13)
  obtain ⟨cl_b2_16, Ar_b2, q_b2, S_b2, N_b2, H_b2, G_b2⟩ := V_b2_4
  have hin16 : ¬ ((1 : Int32) < 0 ∨ cl_b2_16.slots.size ≤ ((1 : Int32)).toNatClampNeg) := inb_of S_b2 ⟨by decide, by decide⟩
  have Sto16 : Sto Z h4 b2 (.ref w_UNTYPED_ATOMIC) := Sto.ofV Ar_b2 q_b2 O2 (Ins.self ((E_w_UNTYPED_ATOMIC.ext E2).wr W4))
  obtain ⟨T6, h6, X6, e6, W6, st6⟩ := stR X5 hx hZ e5 Ar_b2 (j := (1 : Int32)) hin16 rfl Sto16 (g := (mkF m 16 #[.val (.int p1), .unset, .unset, .unset, .unset, .unset, .unset] [(.ref w_UNTYPED_ATOMIC), (.int (1 : Int32)), (.ref b2), (.ref b2)])) rfl rfl (hb hby at_16)
  have V_b2_6 : Arv Z h6 b2 k2 (.object "com/example/sluice/sluice/xpath/AtomicType") (8 : Int32) [(.ref w_ANY_ATOMIC), (.ref w_UNTYPED_ATOMIC), .null, .null, .null, .null, .null, .null] .null := Arv.set Ar_b2 q_b2 S_b2 N_b2 H_b2 G_b2 rfl W6 1 rfl (Nat.le_of_ble_eq_true rfl)
  have K6 : Keep h0 h6 [] := K4.wr W6 (Or.inr sz_b2)
  have N6 := Fr.snoc X6 N4 g_b2
  obtain ⟨T7, X7, e7, st7⟩ := getS2 X6 hx hZ hown (host := "") (Or.inl (hw _ (List.mem_of_getElem? (i := 8) rfl))) Via.refl e6 (((S_STRING.ext E2).wr W4).wr W6) (g := (mkF m 19 #[.val (.int p1), .unset, .unset, .unset, .unset, .unset, .unset] [(.int (2 : Int32)), (.ref b2), (.ref b2)])) rfl (hb hby at_19)
  obtain ⟨cl_b2_22, Ar_b2, q_b2, S_b2, N_b2, H_b2, G_b2⟩ := V_b2_6
  have hin22 : ¬ ((2 : Int32) < 0 ∨ cl_b2_22.slots.size ≤ ((2 : Int32)).toNatClampNeg) := inb_of S_b2 ⟨by decide, by decide⟩
  have Sto22 : Sto Z h6 b2 (.ref w_STRING) := Sto.ofV Ar_b2 q_b2 O2 (Ins.self (((E_w_STRING.ext E2).wr W4).wr W6))
  obtain ⟨T8, h8, X8, e8, W8, st8⟩ := stR X7 hx hZ e7 Ar_b2 (j := (2 : Int32)) hin22 rfl Sto22 (g := (mkF m 22 #[.val (.int p1), .unset, .unset, .unset, .unset, .unset, .unset] [(.ref w_STRING), (.int (2 : Int32)), (.ref b2), (.ref b2)])) rfl rfl (hb hby at_22)
  have V_b2_8 : Arv Z h8 b2 k2 (.object "com/example/sluice/sluice/xpath/AtomicType") (8 : Int32) [(.ref w_ANY_ATOMIC), (.ref w_UNTYPED_ATOMIC), (.ref w_STRING), .null, .null, .null, .null, .null] .null := Arv.set Ar_b2 q_b2 S_b2 N_b2 H_b2 G_b2 rfl W8 2 rfl (Nat.le_of_ble_eq_true rfl)
  have K8 : Keep h0 h8 [] := K6.wr W8 (Or.inr sz_b2)
  have N8 := Fr.snoc X8 N6 g_b2
  obtain ⟨T9, X9, e9, st9⟩ := getS2 X8 hx hZ hown (host := "") (Or.inl (hw _ (List.mem_of_getElem? (i := 10) rfl))) Via.refl e8 ((((S_BOOLEAN.ext E2).wr W4).wr W6).wr W8) (g := (mkF m 25 #[.val (.int p1), .unset, .unset, .unset, .unset, .unset, .unset] [(.int (3 : Int32)), (.ref b2), (.ref b2)])) rfl (hb hby at_25)
  obtain ⟨cl_b2_28, Ar_b2, q_b2, S_b2, N_b2, H_b2, G_b2⟩ := V_b2_8
  have hin28 : ¬ ((3 : Int32) < 0 ∨ cl_b2_28.slots.size ≤ ((3 : Int32)).toNatClampNeg) := inb_of S_b2 ⟨by decide, by decide⟩
  have Sto28 : Sto Z h8 b2 (.ref w_BOOLEAN) := Sto.ofV Ar_b2 q_b2 O2 (Ins.self ((((E_w_BOOLEAN.ext E2).wr W4).wr W6).wr W8))
  obtain ⟨T10, h10, X10, e10, W10, st10⟩ := stR X9 hx hZ e9 Ar_b2 (j := (3 : Int32)) hin28 rfl Sto28 (g := (mkF m 28 #[.val (.int p1), .unset, .unset, .unset, .unset, .unset, .unset] [(.ref w_BOOLEAN), (.int (3 : Int32)), (.ref b2), (.ref b2)])) rfl rfl (hb hby at_28)
  have V_b2_10 : Arv Z h10 b2 k2 (.object "com/example/sluice/sluice/xpath/AtomicType") (8 : Int32) [(.ref w_ANY_ATOMIC), (.ref w_UNTYPED_ATOMIC), (.ref w_STRING), (.ref w_BOOLEAN), .null, .null, .null, .null] .null := Arv.set Ar_b2 q_b2 S_b2 N_b2 H_b2 G_b2 rfl W10 3 rfl (Nat.le_of_ble_eq_true rfl)
  have K10 : Keep h0 h10 [] := K8.wr W10 (Or.inr sz_b2)
  have N10 := Fr.snoc X10 N8 g_b2
  obtain ⟨T11, X11, e11, st11⟩ := getS2 X10 hx hZ hown (host := "") (Or.inl (hw _ (List.mem_of_getElem? (i := 12) rfl))) Via.refl e10 (((((S_DECIMAL.ext E2).wr W4).wr W6).wr W8).wr W10) (g := (mkF m 31 #[.val (.int p1), .unset, .unset, .unset, .unset, .unset, .unset] [(.int (4 : Int32)), (.ref b2), (.ref b2)])) rfl (hb hby at_31)
  obtain ⟨cl_b2_34, Ar_b2, q_b2, S_b2, N_b2, H_b2, G_b2⟩ := V_b2_10
  have hin34 : ¬ ((4 : Int32) < 0 ∨ cl_b2_34.slots.size ≤ ((4 : Int32)).toNatClampNeg) := inb_of S_b2 ⟨by decide, by decide⟩
  have Sto34 : Sto Z h10 b2 (.ref w_DECIMAL) := Sto.ofV Ar_b2 q_b2 O2 (Ins.self (((((E_w_DECIMAL.ext E2).wr W4).wr W6).wr W8).wr W10))
  obtain ⟨T12, h12, X12, e12, W12, st12⟩ := stR X11 hx hZ e11 Ar_b2 (j := (4 : Int32)) hin34 rfl Sto34 (g := (mkF m 34 #[.val (.int p1), .unset, .unset, .unset, .unset, .unset, .unset] [(.ref w_DECIMAL), (.int (4 : Int32)), (.ref b2), (.ref b2)])) rfl rfl (hb hby at_34)
  have V_b2_12 : Arv Z h12 b2 k2 (.object "com/example/sluice/sluice/xpath/AtomicType") (8 : Int32) [(.ref w_ANY_ATOMIC), (.ref w_UNTYPED_ATOMIC), (.ref w_STRING), (.ref w_BOOLEAN), (.ref w_DECIMAL), .null, .null, .null] .null := Arv.set Ar_b2 q_b2 S_b2 N_b2 H_b2 G_b2 rfl W12 4 rfl (Nat.le_of_ble_eq_true rfl)
  have K12 : Keep h0 h12 [] := K10.wr W12 (Or.inr sz_b2)
  have N12 := Fr.snoc X12 N10 g_b2
  obtain ⟨T13, X13, e13, st13⟩ := getS2 X12 hx hZ hown (host := "") (Or.inl (hw _ (List.mem_of_getElem? (i := 14) rfl))) Via.refl e12 ((((((S_INTEGER.ext E2).wr W4).wr W6).wr W8).wr W10).wr W12) (g := (mkF m 37 #[.val (.int p1), .unset, .unset, .unset, .unset, .unset, .unset] [(.int (5 : Int32)), (.ref b2), (.ref b2)])) rfl (hb hby at_37)
  obtain ⟨cl_b2_40, Ar_b2, q_b2, S_b2, N_b2, H_b2, G_b2⟩ := V_b2_12
  have hin40 : ¬ ((5 : Int32) < 0 ∨ cl_b2_40.slots.size ≤ ((5 : Int32)).toNatClampNeg) := inb_of S_b2 ⟨by decide, by decide⟩
  have Sto40 : Sto Z h12 b2 (.ref w_INTEGER) := Sto.ofV Ar_b2 q_b2 O2 (Ins.self ((((((E_w_INTEGER.ext E2).wr W4).wr W6).wr W8).wr W10).wr W12))
  obtain ⟨T14, h14, X14, e14, W14, st14⟩ := stR X13 hx hZ e13 Ar_b2 (j := (5 : Int32)) hin40 rfl Sto40 (g := (mkF m 40 #[.val (.int p1), .unset, .unset, .unset, .unset, .unset, .unset] [(.ref w_INTEGER), (.int (5 : Int32)), (.ref b2), (.ref b2)])) rfl rfl (hb hby at_40)
  have V_b2_14 : Arv Z h14 b2 k2 (.object "com/example/sluice/sluice/xpath/AtomicType") (8 : Int32) [(.ref w_ANY_ATOMIC), (.ref w_UNTYPED_ATOMIC), (.ref w_STRING), (.ref w_BOOLEAN), (.ref w_DECIMAL), (.ref w_INTEGER), .null, .null] .null := Arv.set Ar_b2 q_b2 S_b2 N_b2 H_b2 G_b2 rfl W14 5 rfl (Nat.le_of_ble_eq_true rfl)
  have K14 : Keep h0 h14 [] := K12.wr W14 (Or.inr sz_b2)
  have N14 := Fr.snoc X14 N12 g_b2
  obtain ⟨T15, X15, e15, st15⟩ := getS2 X14 hx hZ hown (host := "") (Or.inl (hw _ (List.mem_of_getElem? (i := 16) rfl))) Via.refl e14 (((((((S_DOUBLE.ext E2).wr W4).wr W6).wr W8).wr W10).wr W12).wr W14) (g := (mkF m 44 #[.val (.int p1), .unset, .unset, .unset, .unset, .unset, .unset] [(.int (6 : Int32)), (.ref b2), (.ref b2)])) rfl (hb hby at_44)
  obtain ⟨cl_b2_47, Ar_b2, q_b2, S_b2, N_b2, H_b2, G_b2⟩ := V_b2_14
  have hin47 : ¬ ((6 : Int32) < 0 ∨ cl_b2_47.slots.size ≤ ((6 : Int32)).toNatClampNeg) := inb_of S_b2 ⟨by decide, by decide⟩
  have Sto47 : Sto Z h14 b2 (.ref w_DOUBLE) := Sto.ofV Ar_b2 q_b2 O2 (Ins.self (((((((E_w_DOUBLE.ext E2).wr W4).wr W6).wr W8).wr W10).wr W12).wr W14))
  obtain ⟨T16, h16, X16, e16, W16, st16⟩ := stR X15 hx hZ e15 Ar_b2 (j := (6 : Int32)) hin47 rfl Sto47 (g := (mkF m 47 #[.val (.int p1), .unset, .unset, .unset, .unset, .unset, .unset] [(.ref w_DOUBLE), (.int (6 : Int32)), (.ref b2), (.ref b2)])) rfl rfl (hb hby at_47)
  have V_b2_16 : Arv Z h16 b2 k2 (.object "com/example/sluice/sluice/xpath/AtomicType") (8 : Int32) [(.ref w_ANY_ATOMIC), (.ref w_UNTYPED_ATOMIC), (.ref w_STRING), (.ref w_BOOLEAN), (.ref w_DECIMAL), (.ref w_INTEGER), (.ref w_DOUBLE), .null] .null := Arv.set Ar_b2 q_b2 S_b2 N_b2 H_b2 G_b2 rfl W16 6 rfl (Nat.le_of_ble_eq_true rfl)
  have K16 : Keep h0 h16 [] := K14.wr W16 (Or.inr sz_b2)
  have N16 := Fr.snoc X16 N14 g_b2
  obtain ⟨T17, X17, e17, st17⟩ := getS2 X16 hx hZ hown (host := "") (Or.inl (hw _ (List.mem_of_getElem? (i := 18) rfl))) Via.refl e16 ((((((((S_NUMERIC.ext E2).wr W4).wr W6).wr W8).wr W10).wr W12).wr W14).wr W16) (g := (mkF m 51 #[.val (.int p1), .unset, .unset, .unset, .unset, .unset, .unset] [(.int (7 : Int32)), (.ref b2), (.ref b2)])) rfl (hb hby at_51)
  obtain ⟨cl_b2_54, Ar_b2, q_b2, S_b2, N_b2, H_b2, G_b2⟩ := V_b2_16
  have hin54 : ¬ ((7 : Int32) < 0 ∨ cl_b2_54.slots.size ≤ ((7 : Int32)).toNatClampNeg) := inb_of S_b2 ⟨by decide, by decide⟩
  have Sto54 : Sto Z h16 b2 (.ref w_NUMERIC) := Sto.ofV Ar_b2 q_b2 O2 (Ins.self ((((((((E_w_NUMERIC.ext E2).wr W4).wr W6).wr W8).wr W10).wr W12).wr W14).wr W16))
  obtain ⟨T18, h18, X18, e18, W18, st18⟩ := stR X17 hx hZ e17 Ar_b2 (j := (7 : Int32)) hin54 rfl Sto54 (g := (mkF m 54 #[.val (.int p1), .unset, .unset, .unset, .unset, .unset, .unset] [(.ref w_NUMERIC), (.int (7 : Int32)), (.ref b2), (.ref b2)])) rfl rfl (hb hby at_54)
  have V_b2_18 : Arv Z h18 b2 k2 (.object "com/example/sluice/sluice/xpath/AtomicType") (8 : Int32) [(.ref w_ANY_ATOMIC), (.ref w_UNTYPED_ATOMIC), (.ref w_STRING), (.ref w_BOOLEAN), (.ref w_DECIMAL), (.ref w_INTEGER), (.ref w_DOUBLE), (.ref w_NUMERIC)] .null := Arv.set Ar_b2 q_b2 S_b2 N_b2 H_b2 G_b2 rfl W18 7 rfl (Nat.le_of_ble_eq_true rfl)
  have K18 : Keep h0 h18 [] := K16.wr W18 (Or.inr sz_b2)
  have N18 := Fr.snoc X18 N16 g_b2
  obtain ⟨cl_b2_v19, Ar_b2_v19, q_b2_v19, S_b2_v19, N_b2_v19, H_b2_v19, G_b2_v19⟩ := id V_b2_18
  have hin_b2_v19 : ¬ (((p1 &&& (2147483647 : Int32)) % (8 : Int32)) < 0 ∨ cl_b2_v19.slots.size ≤ (((p1 &&& (2147483647 : Int32)) % (8 : Int32))).toNatClampNeg) := inb_of S_b2_v19 hij66
  have hat_b2_v19 : cl_b2_v19.slots[(((p1 &&& (2147483647 : Int32)) % (8 : Int32))).toNatClampNeg]? = some (.ref w_r) := (H_b2_v19 _ (Nat.lt_of_not_le fun q => hin_b2_v19 (Or.inr q))).trans (congrArg some hsel66)
  obtain ⟨cq20, kq20, q20a, q20b, q20c⟩ := isOf hZ e18 (((((((((E_w_r.ext E2).wr W4).wr W6).wr W8).wr W10).wr W12).wr W14).wr W16).wr W18)
  obtain ⟨_, _, ⟨T20, L20, k20, n20⟩, -, X20, ⟨Lc20, hQ20, l20, y20, z20⟩, st20⟩ := X18.virtualBack hx (y := (⟨"com/example/sluice/sluice/xpath/AtomicType", "isNumeric", "()Z"⟩ : MethodName)) (z := (⟨"com/example/sluice/sluice/xpath/AtomicType", "isNumeric", "()Z"⟩ : MethodName)) hown (mvT hZ (hw _ (List.mem_of_getElem? (i := 21) rfl))) (mvT hZ (hw _ (List.mem_of_getElem? (i := 22) rfl))) (notFace_of_selects (args := #[]) (mvT hZ (hw _ (List.mem_of_getElem? (i := 24) rfl)))) (mvT hZ (hw _ (List.mem_of_getElem? (i := 24) rfl))) (mvT hZ (hw _ (List.mem_of_getElem? (i := 23) rfl))) (by decide) (backOf (W := 0) (rm1 l Z a0 hw [] w_r w_INTEGER w_DECIMAL w_DOUBLE h18 n0 (Nat.le_trans (Nat.le_trans (Nat.le_trans (Nat.le_trans (Nat.le_trans (Nat.le_trans (Nat.le_trans (Nat.le_trans (Nat.le_trans Z0 E2.1) (Keep.of_wr W4).1) (Keep.of_wr W6).1) (Keep.of_wr W8).1) (Keep.of_wr W10).1) (Keep.of_wr W12).1) (Keep.of_wr W14).1) (Keep.of_wr W16).1) (Keep.of_wr W18).1) (((((((((S_INTEGER.ext E2).wr W4).wr W6).wr W8).wr W10).wr W12).wr W14).wr W16).wr W18) (((((((((S_DECIMAL.ext E2).wr W4).wr W6).wr W8).wr W10).wr W12).wr W14).wr W16).wr W18) (((((((((S_DOUBLE.ext E2).wr W4).wr W6).wr W8).wr W10).wr W12).wr W14).wr W16).wr W18)) hZ (hw _ (List.mem_of_getElem? (i := 25) rfl)) (hw _ (List.mem_of_getElem? (i := 3) rfl)) (by decide) (by decide)) q20a q20c (g := (mkF m 69 #[.val (.int p1), .val (.ref b2), .val (.int ((p1 &&& (2147483647 : Int32)) % (8 : Int32))), .val (.ref w_r), .unset, .unset, .unset] [(.ref w_r)])) rfl (by rw [hml]; rfl) (Steps.refl _) (argsL := []) (rest := []) (lenOf pd_0_0 rfl) rfl (by show 2 * 0 + _ ≤ _; exact Nat.le_of_eq rfl) (hb hby at_69) (fun _ _ => ⟨rfl, e18, (by decide : 1 + 0 ≤ _), (by decide : 8 + 0 ≤ _)⟩)
  dsimp only [Pt.U, Pt.locs, Pt.cells, Pt.slots] at X20 l20 y20 z20 st20 hQ20
  subst l20 y20 z20
  obtain ⟨rfl, N20q, e20⟩ := hQ20
  have N20 := Fr.app N18 N20q
  obtain ⟨T21, X21, e21, st21⟩ := getS2 X20 hx hZ hown (host := "") (Or.inl (hw _ (List.mem_of_getElem? (i := 12) rfl))) Via.refl e20 (((((((((S_DECIMAL.ext E2).wr W4).wr W6).wr W8).wr W10).wr W12).wr W14).wr W16).wr W18) (g := (mkF m 98 #[.val (.int p1), .val (.ref b2), .val (.int ((p1 &&& (2147483647 : Int32)) % (8 : Int32))), .val (.ref w_r), .val (.int (own_num w_r w_INTEGER w_DECIMAL w_DOUBLE)), .val (.int (1 : Int32)), .unset] [(.ref w_r)])) rfl (hb hby at_98)
  obtain ⟨cq22, kq22, q22a, q22b, q22c⟩ := isOf hZ e21 (((((((((E_w_r.ext E2).wr W4).wr W6).wr W8).wr W10).wr W12).wr W14).wr W16).wr W18)
  obtain ⟨_, _, ⟨T22, L22, k22, n22⟩, -, X22, ⟨Lc22, hQ22, l22, y22, z22⟩, st22⟩ := X21.virtualBack hx (y := (⟨"com/example/sluice/sluice/xpath/AtomicType", "isSubtypeOf", "(Lcom/example/sluice/sluice/xpath/AtomicType;)Z"⟩ : MethodName)) (z := (⟨"com/example/sluice/sluice/xpath/AtomicType", "isSubtypeOf", "(Lcom/example/sluice/sluice/xpath/AtomicType;)Z"⟩ : MethodName)) hown (mvT hZ (hw _ (List.mem_of_getElem? (i := 29) rfl))) (mvT hZ (hw _ (List.mem_of_getElem? (i := 30) rfl))) (notFace_of_selects (args := #[]) (mvT hZ (hw _ (List.mem_of_getElem? (i := 32) rfl)))) (mvT hZ (hw _ (List.mem_of_getElem? (i := 32) rfl))) (mvT hZ (hw _ (List.mem_of_getElem? (i := 31) rfl))) (by decide) (backOf (W := 0) (rm2 l Z a0 hw [] w_r w_DECIMAL w_NUMERIC s1 h18 n0 (Nat.le_trans (Nat.le_trans (Nat.le_trans (Nat.le_trans (Nat.le_trans (Nat.le_trans (Nat.le_trans (Nat.le_trans (Nat.le_trans Z0 E2.1) (Keep.of_wr W4).1) (Keep.of_wr W6).1) (Keep.of_wr W8).1) (Keep.of_wr W10).1) (Keep.of_wr W12).1) (Keep.of_wr W14).1) (Keep.of_wr W16).1) (Keep.of_wr W18).1) (((((((((S_NUMERIC.ext E2).wr W4).wr W6).wr W8).wr W10).wr W12).wr W14).wr W16).wr W18) nq1 (hs1.keep K18)) hZ (hw _ (List.mem_of_getElem? (i := 33) rfl)) (hw _ (List.mem_of_getElem? (i := 3) rfl)) (by decide) (by decide)) q22a q22c (g := (mkF m 101 #[.val (.int p1), .val (.ref b2), .val (.int ((p1 &&& (2147483647 : Int32)) % (8 : Int32))), .val (.ref w_r), .val (.int (own_num w_r w_INTEGER w_DECIMAL w_DOUBLE)), .val (.int (1 : Int32)), .unset] [(.ref w_DECIMAL), (.ref w_r)])) rfl (by rw [hml]; rfl) (Steps.refl _) (argsL := [(.ref w_DECIMAL)]) (rest := []) (lenOf pd_0_1 rfl) rfl (by show 2 * 0 + _ ≤ _; exact Nat.le_of_eq rfl) (hb hby at_101) (fun _ _ => ⟨rfl, e21, (by decide : 1 + 0 ≤ _), (by decide : 8 + 0 ≤ _)⟩)
  dsimp only [Pt.U, Pt.locs, Pt.cells, Pt.slots] at X22 l22 y22 z22 st22 hQ22
  subst l22 y22 z22
  obtain ⟨rfl, N22q, e22⟩ := hQ22
  have N22 := Fr.app N20 N22q
  obtain ⟨fs, hr, hrun, hended, hW, hsame⟩ := X22.leave (v := some (.int (1 : Int32))) (fun h => by rw [Bd.returns] at h; cases h)
  refine ⟨_, _, pre0 _ ?_, hrun, hended, _, _, rfl, ?_, ⟨_, rfl⟩, hW, hsame.mono (by decide) (by decide)⟩
  · show Steps p.tables e below (s₁.setTop (mkF m 0 #[.val (.int p1), .unset, .unset, .unset, .unset, .unset, .unset] [])) _
    refine XS.bipush X0.here hx rfl (hb hby at_0) ?_
    show Steps p.tables e below (s₁.setTop (mkF m 2 #[.val (.int p1), .unset, .unset, .unset, .unset, .unset, .unset] [(.int (8 : Int32))])) _
    refine st2 _ ?_
    show Steps p.tables e below (T2.setTop (mkF m 5 #[.val (.int p1), .unset, .unset, .unset, .unset, .unset, .unset] [(.ref b2)])) _
    refine XS.dup X2.here hx rfl (hb hby at_5) rfl rfl ?_
    show Steps p.tables e below (T2.setTop (mkF m 6 #[.val (.int p1), .unset, .unset, .unset, .unset, .unset, .unset] [(.ref b2), (.ref b2)])) _
    refine XS.iconst X2.here hx rfl (hb hby at_6) ?_
    show Steps p.tables e below (T2.setTop (mkF m 7 #[.val (.int p1), .unset, .unset, .unset, .unset, .unset, .unset] [(.int (0 : Int32)), (.ref b2), (.ref b2)])) _
    refine st3 _ ?_
    show Steps p.tables e below (T3.setTop (mkF m 10 #[.val (.int p1), .unset, .unset, .unset, .unset, .unset, .unset] [(.ref w_ANY_ATOMIC), (.int (0 : Int32)), (.ref b2), (.ref b2)])) _
    refine st4 _ ?_
    show Steps p.tables e below (T4.setTop (mkF m 11 #[.val (.int p1), .unset, .unset, .unset, .unset, .unset, .unset] [(.ref b2)])) _
    refine XS.dup X4.here hx rfl (hb hby at_11) rfl rfl ?_
    show Steps p.tables e below (T4.setTop (mkF m 12 #[.val (.int p1), .unset, .unset, .unset, .unset, .unset, .unset] [(.ref b2), (.ref b2)])) _
    refine XS.iconst X4.here hx rfl (hb hby at_12) ?_
    show Steps p.tables e below (T4.setTop (mkF m 13 #[.val (.int p1), .unset, .unset, .unset, .unset, .unset, .unset] [(.int (1 : Int32)), (.ref b2), (.ref b2)])) _
    refine st5 _ ?_
    show Steps p.tables e below (T5.setTop (mkF m 16 #[.val (.int p1), .unset, .unset, .unset, .unset, .unset, .unset] [(.ref w_UNTYPED_ATOMIC), (.int (1 : Int32)), (.ref b2), (.ref b2)])) _
    refine st6 _ ?_
    show Steps p.tables e below (T6.setTop (mkF m 17 #[.val (.int p1), .unset, .unset, .unset, .unset, .unset, .unset] [(.ref b2)])) _
    refine XS.dup X6.here hx rfl (hb hby at_17) rfl rfl ?_
    show Steps p.tables e below (T6.setTop (mkF m 18 #[.val (.int p1), .unset, .unset, .unset, .unset, .unset, .unset] [(.ref b2), (.ref b2)])) _
    refine XS.iconst X6.here hx rfl (hb hby at_18) ?_
    show Steps p.tables e below (T6.setTop (mkF m 19 #[.val (.int p1), .unset, .unset, .unset, .unset, .unset, .unset] [(.int (2 : Int32)), (.ref b2), (.ref b2)])) _
    refine st7 _ ?_
    show Steps p.tables e below (T7.setTop (mkF m 22 #[.val (.int p1), .unset, .unset, .unset, .unset, .unset, .unset] [(.ref w_STRING), (.int (2 : Int32)), (.ref b2), (.ref b2)])) _
    refine st8 _ ?_
    show Steps p.tables e below (T8.setTop (mkF m 23 #[.val (.int p1), .unset, .unset, .unset, .unset, .unset, .unset] [(.ref b2)])) _
    refine XS.dup X8.here hx rfl (hb hby at_23) rfl rfl ?_
    show Steps p.tables e below (T8.setTop (mkF m 24 #[.val (.int p1), .unset, .unset, .unset, .unset, .unset, .unset] [(.ref b2), (.ref b2)])) _
    refine XS.iconst X8.here hx rfl (hb hby at_24) ?_
    show Steps p.tables e below (T8.setTop (mkF m 25 #[.val (.int p1), .unset, .unset, .unset, .unset, .unset, .unset] [(.int (3 : Int32)), (.ref b2), (.ref b2)])) _
    refine st9 _ ?_
    show Steps p.tables e below (T9.setTop (mkF m 28 #[.val (.int p1), .unset, .unset, .unset, .unset, .unset, .unset] [(.ref w_BOOLEAN), (.int (3 : Int32)), (.ref b2), (.ref b2)])) _
    refine st10 _ ?_
    show Steps p.tables e below (T10.setTop (mkF m 29 #[.val (.int p1), .unset, .unset, .unset, .unset, .unset, .unset] [(.ref b2)])) _
    refine XS.dup X10.here hx rfl (hb hby at_29) rfl rfl ?_
    show Steps p.tables e below (T10.setTop (mkF m 30 #[.val (.int p1), .unset, .unset, .unset, .unset, .unset, .unset] [(.ref b2), (.ref b2)])) _
    refine XS.iconst X10.here hx rfl (hb hby at_30) ?_
    show Steps p.tables e below (T10.setTop (mkF m 31 #[.val (.int p1), .unset, .unset, .unset, .unset, .unset, .unset] [(.int (4 : Int32)), (.ref b2), (.ref b2)])) _
    refine st11 _ ?_
    show Steps p.tables e below (T11.setTop (mkF m 34 #[.val (.int p1), .unset, .unset, .unset, .unset, .unset, .unset] [(.ref w_DECIMAL), (.int (4 : Int32)), (.ref b2), (.ref b2)])) _
    refine st12 _ ?_
    show Steps p.tables e below (T12.setTop (mkF m 35 #[.val (.int p1), .unset, .unset, .unset, .unset, .unset, .unset] [(.ref b2)])) _
    refine XS.dup X12.here hx rfl (hb hby at_35) rfl rfl ?_
    show Steps p.tables e below (T12.setTop (mkF m 36 #[.val (.int p1), .unset, .unset, .unset, .unset, .unset, .unset] [(.ref b2), (.ref b2)])) _
    refine XS.iconst X12.here hx rfl (hb hby at_36) ?_
    show Steps p.tables e below (T12.setTop (mkF m 37 #[.val (.int p1), .unset, .unset, .unset, .unset, .unset, .unset] [(.int (5 : Int32)), (.ref b2), (.ref b2)])) _
    refine st13 _ ?_
    show Steps p.tables e below (T13.setTop (mkF m 40 #[.val (.int p1), .unset, .unset, .unset, .unset, .unset, .unset] [(.ref w_INTEGER), (.int (5 : Int32)), (.ref b2), (.ref b2)])) _
    refine st14 _ ?_
    show Steps p.tables e below (T14.setTop (mkF m 41 #[.val (.int p1), .unset, .unset, .unset, .unset, .unset, .unset] [(.ref b2)])) _
    refine XS.dup X14.here hx rfl (hb hby at_41) rfl rfl ?_
    show Steps p.tables e below (T14.setTop (mkF m 42 #[.val (.int p1), .unset, .unset, .unset, .unset, .unset, .unset] [(.ref b2), (.ref b2)])) _
    refine XS.bipush X14.here hx rfl (hb hby at_42) ?_
    show Steps p.tables e below (T14.setTop (mkF m 44 #[.val (.int p1), .unset, .unset, .unset, .unset, .unset, .unset] [(.int (6 : Int32)), (.ref b2), (.ref b2)])) _
    refine st15 _ ?_
    show Steps p.tables e below (T15.setTop (mkF m 47 #[.val (.int p1), .unset, .unset, .unset, .unset, .unset, .unset] [(.ref w_DOUBLE), (.int (6 : Int32)), (.ref b2), (.ref b2)])) _
    refine st16 _ ?_
    show Steps p.tables e below (T16.setTop (mkF m 48 #[.val (.int p1), .unset, .unset, .unset, .unset, .unset, .unset] [(.ref b2)])) _
    refine XS.dup X16.here hx rfl (hb hby at_48) rfl rfl ?_
    show Steps p.tables e below (T16.setTop (mkF m 49 #[.val (.int p1), .unset, .unset, .unset, .unset, .unset, .unset] [(.ref b2), (.ref b2)])) _
    refine XS.bipush X16.here hx rfl (hb hby at_49) ?_
    show Steps p.tables e below (T16.setTop (mkF m 51 #[.val (.int p1), .unset, .unset, .unset, .unset, .unset, .unset] [(.int (7 : Int32)), (.ref b2), (.ref b2)])) _
    refine st17 _ ?_
    show Steps p.tables e below (T17.setTop (mkF m 54 #[.val (.int p1), .unset, .unset, .unset, .unset, .unset, .unset] [(.ref w_NUMERIC), (.int (7 : Int32)), (.ref b2), (.ref b2)])) _
    refine st18 _ ?_
    show Steps p.tables e below (T18.setTop (mkF m 55 #[.val (.int p1), .unset, .unset, .unset, .unset, .unset, .unset] [(.ref b2)])) _
    refine XS.astoreN X18.here hx rfl (hb hby at_55) rfl rfl (l' := #[.val (.int p1), .val (.ref b2), .unset, .unset, .unset, .unset, .unset]) rfl ?_
    show Steps p.tables e below (T18.setTop (mkF m 56 #[.val (.int p1), .val (.ref b2), .unset, .unset, .unset, .unset, .unset] [])) _
    refine XS.iloadN X18.here hx rfl (hb hby at_56) rfl ?_
    show Steps p.tables e below (T18.setTop (mkF m 57 #[.val (.int p1), .val (.ref b2), .unset, .unset, .unset, .unset, .unset] [(.int p1)])) _
    refine X18.ldcInt hx hown (mvT hZ (hw _ (List.mem_of_getElem? (i := 20) rfl))) (g := (mkF m 57 #[.val (.int p1), .val (.ref b2), .unset, .unset, .unset, .unset, .unset] [(.int p1)])) rfl (hb hby at_57) _ ?_
    show Steps p.tables e below (T18.setTop (mkF m 59 #[.val (.int p1), .val (.ref b2), .unset, .unset, .unset, .unset, .unset] [(.int (2147483647 : Int32)), (.int p1)])) _
    refine XS.iand X18.here hx rfl (hb hby at_59) rfl ?_
    show Steps p.tables e below (T18.setTop (mkF m 60 #[.val (.int p1), .val (.ref b2), .unset, .unset, .unset, .unset, .unset] [(.int (p1 &&& (2147483647 : Int32)))])) _
    refine XS.bipush X18.here hx rfl (hb hby at_60) ?_
    show Steps p.tables e below (T18.setTop (mkF m 62 #[.val (.int p1), .val (.ref b2), .unset, .unset, .unset, .unset, .unset] [(.int (8 : Int32)), (.int (p1 &&& (2147483647 : Int32)))])) _
    refine iremM X18 hx rfl (hb hby at_62) rfl (by decide) ?_
    show Steps p.tables e below (T18.setTop (mkF m 63 #[.val (.int p1), .val (.ref b2), .unset, .unset, .unset, .unset, .unset] [(.int ((p1 &&& (2147483647 : Int32)) % (8 : Int32)))])) _
    refine XS.istoreN X18.here hx rfl (hb hby at_63) rfl (l' := #[.val (.int p1), .val (.ref b2), .val (.int ((p1 &&& (2147483647 : Int32)) % (8 : Int32))), .unset, .unset, .unset, .unset]) rfl ?_
    show Steps p.tables e below (T18.setTop (mkF m 64 #[.val (.int p1), .val (.ref b2), .val (.int ((p1 &&& (2147483647 : Int32)) % (8 : Int32))), .unset, .unset, .unset, .unset] [])) _
    refine XS.aloadN X18.here hx rfl (hb hby at_64) rfl rfl ?_
    show Steps p.tables e below (T18.setTop (mkF m 65 #[.val (.int p1), .val (.ref b2), .val (.int ((p1 &&& (2147483647 : Int32)) % (8 : Int32))), .unset, .unset, .unset, .unset] [(.ref b2)])) _
    refine XS.iloadN X18.here hx rfl (hb hby at_65) rfl ?_
    show Steps p.tables e below (T18.setTop (mkF m 66 #[.val (.int p1), .val (.ref b2), .val (.int ((p1 &&& (2147483647 : Int32)) % (8 : Int32))), .unset, .unset, .unset, .unset] [(.int ((p1 &&& (2147483647 : Int32)) % (8 : Int32))), (.ref b2)])) _
    refine X18.aaload hx (j := ((p1 &&& (2147483647 : Int32)) % (8 : Int32))) (v := (.ref w_r)) (by rw [e18]; exact Ar_b2_v19.1) (State.isArrayOf_alike hZ.alike Ar_b2_v19.2.1) rfl Ar_b2_v19.2.2 hin_b2_v19 hat_b2_v19 (g := (mkF m 66 #[.val (.int p1), .val (.ref b2), .val (.int ((p1 &&& (2147483647 : Int32)) % (8 : Int32))), .unset, .unset, .unset, .unset] [(.int ((p1 &&& (2147483647 : Int32)) % (8 : Int32))), (.ref b2)])) rfl rfl (hb hby at_66) _ ?_
    show Steps p.tables e below (T18.setTop (mkF m 67 #[.val (.int p1), .val (.ref b2), .val (.int ((p1 &&& (2147483647 : Int32)) % (8 : Int32))), .unset, .unset, .unset, .unset] [(.ref w_r)])) _
    refine XS.astoreN X18.here hx rfl (hb hby at_67) rfl rfl (l' := #[.val (.int p1), .val (.ref b2), .val (.int ((p1 &&& (2147483647 : Int32)) % (8 : Int32))), .val (.ref w_r), .unset, .unset, .unset]) rfl ?_
    show Steps p.tables e below (T18.setTop (mkF m 68 #[.val (.int p1), .val (.ref b2), .val (.int ((p1 &&& (2147483647 : Int32)) % (8 : Int32))), .val (.ref w_r), .unset, .unset, .unset] [])) _
    refine XS.aloadN X18.here hx rfl (hb hby at_68) rfl rfl ?_
    show Steps p.tables e below (T18.setTop (mkF m 69 #[.val (.int p1), .val (.ref b2), .val (.int ((p1 &&& (2147483647 : Int32)) % (8 : Int32))), .val (.ref w_r), .unset, .unset, .unset] [(.ref w_r)])) _
    refine st20.trans ?_
    show Steps p.tables e below (T20.setTop (mkF m 72 #[.val (.int p1), .val (.ref b2), .val (.int ((p1 &&& (2147483647 : Int32)) % (8 : Int32))), .val (.ref w_r), .unset, .unset, .unset] [(.int (own_num w_r w_INTEGER w_DECIMAL w_DOUBLE))])) _
    refine XS.istore X20.here hx rfl (hb hby at_72) rfl (l' := #[.val (.int p1), .val (.ref b2), .val (.int ((p1 &&& (2147483647 : Int32)) % (8 : Int32))), .val (.ref w_r), .val (.int (own_num w_r w_INTEGER w_DECIMAL w_DOUBLE)), .unset, .unset]) rfl ?_
    show Steps p.tables e below (T20.setTop (mkF m 74 #[.val (.int p1), .val (.ref b2), .val (.int ((p1 &&& (2147483647 : Int32)) % (8 : Int32))), .val (.ref w_r), .val (.int (own_num w_r w_INTEGER w_DECIMAL w_DOUBLE)), .unset, .unset] [])) _
    refine XS.iloadN X20.here hx rfl (hb hby at_74) rfl ?_
    show Steps p.tables e below (T20.setTop (mkF m 75 #[.val (.int p1), .val (.ref b2), .val (.int ((p1 &&& (2147483647 : Int32)) % (8 : Int32))), .val (.ref w_r), .val (.int (own_num w_r w_INTEGER w_DECIMAL w_DOUBLE)), .unset, .unset] [(.int ((p1 &&& (2147483647 : Int32)) % (8 : Int32)))])) _
    refine XS.iconst X20.here hx rfl (hb hby at_75) ?_
    show Steps p.tables e below (T20.setTop (mkF m 76 #[.val (.int p1), .val (.ref b2), .val (.int ((p1 &&& (2147483647 : Int32)) % (8 : Int32))), .val (.ref w_r), .val (.int (own_num w_r w_INTEGER w_DECIMAL w_DOUBLE)), .unset, .unset] [(.int (4 : Int32)), (.int ((p1 &&& (2147483647 : Int32)) % (8 : Int32)))])) _
    refine XS.icmpNo X20.here hx rfl (hb hby at_76) rfl (feq hc76).1 ?_
    show Steps p.tables e below (T20.setTop (mkF m 79 #[.val (.int p1), .val (.ref b2), .val (.int ((p1 &&& (2147483647 : Int32)) % (8 : Int32))), .val (.ref w_r), .val (.int (own_num w_r w_INTEGER w_DECIMAL w_DOUBLE)), .unset, .unset] [])) _
    refine XS.iloadN X20.here hx rfl (hb hby at_79) rfl ?_
    show Steps p.tables e below (T20.setTop (mkF m 80 #[.val (.int p1), .val (.ref b2), .val (.int ((p1 &&& (2147483647 : Int32)) % (8 : Int32))), .val (.ref w_r), .val (.int (own_num w_r w_INTEGER w_DECIMAL w_DOUBLE)), .unset, .unset] [(.int ((p1 &&& (2147483647 : Int32)) % (8 : Int32)))])) _
    refine XS.iconst X20.here hx rfl (hb hby at_80) ?_
    show Steps p.tables e below (T20.setTop (mkF m 81 #[.val (.int p1), .val (.ref b2), .val (.int ((p1 &&& (2147483647 : Int32)) % (8 : Int32))), .val (.ref w_r), .val (.int (own_num w_r w_INTEGER w_DECIMAL w_DOUBLE)), .unset, .unset] [(.int (5 : Int32)), (.int ((p1 &&& (2147483647 : Int32)) % (8 : Int32)))])) _
    refine XS.icmpYes X20.here hx rfl (pc0 := 81) (pc' := 90) rfl (hb hby at_81) rfl (teq hc81).1 (by decide) (by decide) ?_
    show Steps p.tables e below (T20.setTop (mkF m 90 #[.val (.int p1), .val (.ref b2), .val (.int ((p1 &&& (2147483647 : Int32)) % (8 : Int32))), .val (.ref w_r), .val (.int (own_num w_r w_INTEGER w_DECIMAL w_DOUBLE)), .unset, .unset] [])) _
    refine XS.iconst X20.here hx rfl (hb hby at_90) ?_
    show Steps p.tables e below (T20.setTop (mkF m 91 #[.val (.int p1), .val (.ref b2), .val (.int ((p1 &&& (2147483647 : Int32)) % (8 : Int32))), .val (.ref w_r), .val (.int (own_num w_r w_INTEGER w_DECIMAL w_DOUBLE)), .unset, .unset] [(.int (1 : Int32))])) _
    refine XS.goto X20.here hx rfl (pc0 := 91) (pc' := 95) rfl (hb hby at_91) (by decide) (by decide) ?_
    show Steps p.tables e below (T20.setTop (mkF m 95 #[.val (.int p1), .val (.ref b2), .val (.int ((p1 &&& (2147483647 : Int32)) % (8 : Int32))), .val (.ref w_r), .val (.int (own_num w_r w_INTEGER w_DECIMAL w_DOUBLE)), .unset, .unset] [(.int (1 : Int32))])) _
    refine XS.istore X20.here hx rfl (hb hby at_95) rfl (l' := #[.val (.int p1), .val (.ref b2), .val (.int ((p1 &&& (2147483647 : Int32)) % (8 : Int32))), .val (.ref w_r), .val (.int (own_num w_r w_INTEGER w_DECIMAL w_DOUBLE)), .val (.int (1 : Int32)), .unset]) rfl ?_
    show Steps p.tables e below (T20.setTop (mkF m 97 #[.val (.int p1), .val (.ref b2), .val (.int ((p1 &&& (2147483647 : Int32)) % (8 : Int32))), .val (.ref w_r), .val (.int (own_num w_r w_INTEGER w_DECIMAL w_DOUBLE)), .val (.int (1 : Int32)), .unset] [])) _
    refine XS.aloadN X20.here hx rfl (hb hby at_97) rfl rfl ?_
    show Steps p.tables e below (T20.setTop (mkF m 98 #[.val (.int p1), .val (.ref b2), .val (.int ((p1 &&& (2147483647 : Int32)) % (8 : Int32))), .val (.ref w_r), .val (.int (own_num w_r w_INTEGER w_DECIMAL w_DOUBLE)), .val (.int (1 : Int32)), .unset] [(.ref w_r)])) _
    refine st21 _ ?_
    show Steps p.tables e below (T21.setTop (mkF m 101 #[.val (.int p1), .val (.ref b2), .val (.int ((p1 &&& (2147483647 : Int32)) % (8 : Int32))), .val (.ref w_r), .val (.int (own_num w_r w_INTEGER w_DECIMAL w_DOUBLE)), .val (.int (1 : Int32)), .unset] [(.ref w_DECIMAL), (.ref w_r)])) _
    refine st22.trans ?_
    show Steps p.tables e below (T22.setTop (mkF m 104 #[.val (.int p1), .val (.ref b2), .val (.int ((p1 &&& (2147483647 : Int32)) % (8 : Int32))), .val (.ref w_r), .val (.int (own_num w_r w_INTEGER w_DECIMAL w_DOUBLE)), .val (.int (1 : Int32)), .unset] [(.int s1)])) _
    refine XS.ifYes X22.here hx rfl (pc0 := 104) (pc' := 117) rfl (hb hby at_104) rfl ((if0 _ _).trans (feq hc104).2) (by decide) (by decide) ?_
    show Steps p.tables e below (T22.setTop (mkF m 117 #[.val (.int p1), .val (.ref b2), .val (.int ((p1 &&& (2147483647 : Int32)) % (8 : Int32))), .val (.ref w_r), .val (.int (own_num w_r w_INTEGER w_DECIMAL w_DOUBLE)), .val (.int (1 : Int32)), .unset] [])) _
    refine XS.iconst X22.here hx rfl (hb hby at_117) ?_
    show Steps p.tables e below (T22.setTop (mkF m 118 #[.val (.int p1), .val (.ref b2), .val (.int ((p1 &&& (2147483647 : Int32)) % (8 : Int32))), .val (.ref w_r), .val (.int (own_num w_r w_INTEGER w_DECIMAL w_DOUBLE)), .val (.int (1 : Int32)), .unset] [(.int (1 : Int32))])) _
    refine XS.goto X22.here hx rfl (pc0 := 118) (pc' := 122) rfl (hb hby at_118) (by decide) (by decide) ?_
    show Steps p.tables e below (T22.setTop (mkF m 122 #[.val (.int p1), .val (.ref b2), .val (.int ((p1 &&& (2147483647 : Int32)) % (8 : Int32))), .val (.ref w_r), .val (.int (own_num w_r w_INTEGER w_DECIMAL w_DOUBLE)), .val (.int (1 : Int32)), .unset] [(.int (1 : Int32))])) _
    refine XS.istore X22.here hx rfl (hb hby at_122) rfl (l' := #[.val (.int p1), .val (.ref b2), .val (.int ((p1 &&& (2147483647 : Int32)) % (8 : Int32))), .val (.ref w_r), .val (.int (own_num w_r w_INTEGER w_DECIMAL w_DOUBLE)), .val (.int (1 : Int32)), .val (.int (1 : Int32))]) rfl ?_
    show Steps p.tables e below (T22.setTop (mkF m 124 #[.val (.int p1), .val (.ref b2), .val (.int ((p1 &&& (2147483647 : Int32)) % (8 : Int32))), .val (.ref w_r), .val (.int (own_num w_r w_INTEGER w_DECIMAL w_DOUBLE)), .val (.int (1 : Int32)), .val (.int (1 : Int32))] [])) _
    refine XS.iload X22.here hx rfl (hb hby at_124) rfl ?_
    show Steps p.tables e below (T22.setTop (mkF m 126 #[.val (.int p1), .val (.ref b2), .val (.int ((p1 &&& (2147483647 : Int32)) % (8 : Int32))), .val (.ref w_r), .val (.int (own_num w_r w_INTEGER w_DECIMAL w_DOUBLE)), .val (.int (1 : Int32)), .val (.int (1 : Int32))] [(.int (own_num w_r w_INTEGER w_DECIMAL w_DOUBLE))])) _
    refine XS.iload X22.here hx rfl (hb hby at_126) rfl ?_
    show Steps p.tables e below (T22.setTop (mkF m 128 #[.val (.int p1), .val (.ref b2), .val (.int ((p1 &&& (2147483647 : Int32)) % (8 : Int32))), .val (.ref w_r), .val (.int (own_num w_r w_INTEGER w_DECIMAL w_DOUBLE)), .val (.int (1 : Int32)), .val (.int (1 : Int32))] [(.int (1 : Int32)), (.int (own_num w_r w_INTEGER w_DECIMAL w_DOUBLE))])) _
    refine XS.icmpNo X22.here hx rfl (hb hby at_128) rfl (teq hc128).2 ?_
    show Steps p.tables e below (T22.setTop (mkF m 131 #[.val (.int p1), .val (.ref b2), .val (.int ((p1 &&& (2147483647 : Int32)) % (8 : Int32))), .val (.ref w_r), .val (.int (own_num w_r w_INTEGER w_DECIMAL w_DOUBLE)), .val (.int (1 : Int32)), .val (.int (1 : Int32))] [])) _
    refine XS.iload X22.here hx rfl (hb hby at_131) rfl ?_
    show Steps p.tables e below (T22.setTop (mkF m 133 #[.val (.int p1), .val (.ref b2), .val (.int ((p1 &&& (2147483647 : Int32)) % (8 : Int32))), .val (.ref w_r), .val (.int (own_num w_r w_INTEGER w_DECIMAL w_DOUBLE)), .val (.int (1 : Int32)), .val (.int (1 : Int32))] [(.int (own_num w_r w_INTEGER w_DECIMAL w_DOUBLE))])) _
    refine XS.iload X22.here hx rfl (hb hby at_133) rfl ?_
    show Steps p.tables e below (T22.setTop (mkF m 135 #[.val (.int p1), .val (.ref b2), .val (.int ((p1 &&& (2147483647 : Int32)) % (8 : Int32))), .val (.ref w_r), .val (.int (own_num w_r w_INTEGER w_DECIMAL w_DOUBLE)), .val (.int (1 : Int32)), .val (.int (1 : Int32))] [(.int (1 : Int32)), (.int (own_num w_r w_INTEGER w_DECIMAL w_DOUBLE))])) _
    refine XS.icmpNo X22.here hx rfl (hb hby at_135) rfl (teq hc135).2 ?_
    show Steps p.tables e below (T22.setTop (mkF m 138 #[.val (.int p1), .val (.ref b2), .val (.int ((p1 &&& (2147483647 : Int32)) % (8 : Int32))), .val (.ref w_r), .val (.int (own_num w_r w_INTEGER w_DECIMAL w_DOUBLE)), .val (.int (1 : Int32)), .val (.int (1 : Int32))] [])) _
    refine XS.iconst X22.here hx rfl (hb hby at_138) ?_
    show Steps p.tables e below (T22.setTop (mkF m 139 #[.val (.int p1), .val (.ref b2), .val (.int ((p1 &&& (2147483647 : Int32)) % (8 : Int32))), .val (.ref w_r), .val (.int (own_num w_r w_INTEGER w_DECIMAL w_DOUBLE)), .val (.int (1 : Int32)), .val (.int (1 : Int32))] [(.int (1 : Int32))])) _
    refine XS.goto X22.here hx rfl (pc0 := 139) (pc' := 143) rfl (hb hby at_139) (by decide) (by decide) ?_
    show Steps p.tables e below (T22.setTop (mkF m 143 #[.val (.int p1), .val (.ref b2), .val (.int ((p1 &&& (2147483647 : Int32)) % (8 : Int32))), .val (.ref w_r), .val (.int (own_num w_r w_INTEGER w_DECIMAL w_DOUBLE)), .val (.int (1 : Int32)), .val (.int (1 : Int32))] [(.int (1 : Int32))])) _
    exact retN X22 hx (t := .boolean) Bd.returns (by simp) (hb hby at_143) hr
  · show QL h0 n0 _ T22.heap _
    rw [e22]
    exact ⟨rfl, N22⟩
set_option maxRecDepth 65536 in
set_option maxHeartbeats 40000000 in
theorem rm0_fffffff (l : Launch) (Z : State) (a0 : Array Value) (hw : ∀ d ∈ tables_1, d.before a0 Z = true) (ws : List Jvm.Cond) (p1 : Int32) (w_ANY_ATOMIC : Addr) (w_UNTYPED_ATOMIC : Addr) (w_STRING : Addr) (w_BOOLEAN : Addr) (w_DECIMAL : Addr) (w_INTEGER : Addr) (w_DOUBLE : Addr) (w_NUMERIC : Addr) (w_r : Addr) (s1 : Int32) (s2 : Int32) (h0 : Heap) (n0 : Nat) (Z0 : n0 ≤ h0.size) (S_ANY_ATOMIC : Sta Z h0 "com/example/sluice/sluice/xpath/AtomicType" "ANY_ATOMIC" "Lcom/example/sluice/sluice/xpath/AtomicType;" (.ref w_ANY_ATOMIC)) (E_w_ANY_ATOMIC : Exa Z h0 w_ANY_ATOMIC "com/example/sluice/sluice/xpath/AtomicType") (S_UNTYPED_ATOMIC : Sta Z h0 "com/example/sluice/sluice/xpath/AtomicType" "UNTYPED_ATOMIC" "Lcom/example/sluice/sluice/xpath/AtomicType;" (.ref w_UNTYPED_ATOMIC)) (E_w_UNTYPED_ATOMIC : Exa Z h0 w_UNTYPED_ATOMIC "com/example/sluice/sluice/xpath/AtomicType") (S_STRING : Sta Z h0 "com/example/sluice/sluice/xpath/AtomicType" "STRING" "Lcom/example/sluice/sluice/xpath/AtomicType;" (.ref w_STRING)) (E_w_STRING : Exa Z h0 w_STRING "com/example/sluice/sluice/xpath/AtomicType") (S_BOOLEAN : Sta Z h0 "com/example/sluice/sluice/xpath/AtomicType" "BOOLEAN" "Lcom/example/sluice/sluice/xpath/AtomicType;" (.ref w_BOOLEAN)) (E_w_BOOLEAN : Exa Z h0 w_BOOLEAN "com/example/sluice/sluice/xpath/AtomicType") (S_DECIMAL : Sta Z h0 "com/example/sluice/sluice/xpath/AtomicType" "DECIMAL" "Lcom/example/sluice/sluice/xpath/AtomicType;" (.ref w_DECIMAL)) (E_w_DECIMAL : Exa Z h0 w_DECIMAL "com/example/sluice/sluice/xpath/AtomicType") (S_INTEGER : Sta Z h0 "com/example/sluice/sluice/xpath/AtomicType" "INTEGER" "Lcom/example/sluice/sluice/xpath/AtomicType;" (.ref w_INTEGER)) (E_w_INTEGER : Exa Z h0 w_INTEGER "com/example/sluice/sluice/xpath/AtomicType") (S_DOUBLE : Sta Z h0 "com/example/sluice/sluice/xpath/AtomicType" "DOUBLE" "Lcom/example/sluice/sluice/xpath/AtomicType;" (.ref w_DOUBLE)) (E_w_DOUBLE : Exa Z h0 w_DOUBLE "com/example/sluice/sluice/xpath/AtomicType") (S_NUMERIC : Sta Z h0 "com/example/sluice/sluice/xpath/AtomicType" "NUMERIC" "Lcom/example/sluice/sluice/xpath/AtomicType;" (.ref w_NUMERIC)) (E_w_NUMERIC : Exa Z h0 w_NUMERIC "com/example/sluice/sluice/xpath/AtomicType") (hij66 : ¬ ((p1 &&& (2147483647 : Int32)) % (8 : Int32)) < 0 ∧ ((p1 &&& (2147483647 : Int32)) % (8 : Int32)) < (8 : Int32)) (hsel66 : List.getD ([(.ref w_ANY_ATOMIC), (.ref w_UNTYPED_ATOMIC), (.ref w_STRING), (.ref w_BOOLEAN), (.ref w_DECIMAL), (.ref w_INTEGER), (.ref w_DOUBLE), (.ref w_NUMERIC)] : List Value) (((p1 &&& (2147483647 : Int32)) % (8 : Int32))).toNatClampNeg .null = .ref w_r) (E_w_r : Exa Z h0 w_r "com/example/sluice/sluice/xpath/AtomicType") (nq1 : ¬ (w_DECIMAL = w_NUMERIC)) (nq2 : ¬ (w_DOUBLE = w_NUMERIC)) (hs1 : Sub Z h0 w_r w_DECIMAL s1) (hs2 : Sub Z h0 w_r w_DOUBLE s2) (hc76 : ¬ (((p1 &&& (2147483647 : Int32)) % (8 : Int32)) = (4 : Int32))) (hc81 : ¬ (((p1 &&& (2147483647 : Int32)) % (8 : Int32)) = (5 : Int32))) (hc87 : ((p1 &&& (2147483647 : Int32)) % (8 : Int32)) = (6 : Int32)) (hc104 : s1 = (0 : Int32)) (hc114 : ¬ (s2 = (0 : Int32))) (hc128 : (own_num w_r w_INTEGER w_DECIMAL w_DOUBLE) = (1 : Int32)) (hc135 : (own_num w_r w_INTEGER w_DECIMAL w_DOUBLE) = (1 : Int32)) :
    MetFree l x (head1 (Jvm.Cond.code x code maxLocals ret :: ws) room_1) (fun a U => a = #[(.int p1)] ∧ Z.Warmed39 U.vm ∧ U.heap = h0) (fun _ _ _ _ _ => True) (fun _ U o U' => ∃ v L, o = .returned v ∧ QL h0 n0 v U'.heap L ∧ FrameEnd U o U' L room_1.cells room_1.slots) := by
  refine MetFree.of_bodySF (plainFor_of_name pn_0) hisR ?_
  intro p e s m args below meth c s₁ Bd hml0 hP hK
  obtain ⟨rfl, hZ, hh⟩ := hP
  have hx := Bd.exec
  have hby := Bd.bytes
  have hml : c.maxLocals = 7 := hml0
  have hown : s.vm.findClass "com/example/sluice/sluice/xpath/AtomicTypeIsNumericPinLaw" = some m.cls := findClass_of_methodNamed Bd.named
  have hnm := (name_of_methodNamed Bd.named Bd.method).1
  have X0 : Stand p l e room_1 s m #[(.int p1)] below meth c s₁ [] 0 0 := Stand.of_body Bd
  have e0 : s₁.heap = h0 := by rw [← hh, Bd.state]; rfl
  have N0 := Fr.nil n0
  have pre0 : ∀ t, Steps p.tables e below (s₁.setTop (mkF m 0 #[.val (.int p1), .unset, .unset, .unset, .unset, .unset, .unset] [])) t → Steps p.tables e below (s₁.setTop (entryFrame m #[(.int p1)] maxLocals)) t := fun t k => castTop (ef_0 m p1) k
  obtain ⟨T2, h2, k2, X2, e2, E2, A2, O2, st2⟩ := newR X0 hx hZ hown (hw _ (List.mem_of_getElem? (i := 0) rfl)) (hw _ (List.mem_of_getElem? (i := 1) rfl)) e0 (g := (mkF m 2 #[.val (.int p1), .unset, .unset, .unset, .unset, .unset, .unset] [(.int (8 : Int32))])) rfl (hb hby at_2) rfl (by decide) (cap := 8) (by decide) (by decide) (by decide) (by decide)
  obtain ⟨b2, g2⟩ : ∃ z, z = h0.size := ⟨_, rfl⟩
  rw [← g2] at A2 st2
  have V_b2 : Arv Z h2 b2 k2 (.object "com/example/sluice/sluice/xpath/AtomicType") (8 : Int32) [.null, .null, .null, .null, .null, .null, .null, .null] .null := (Arv.new A2 (by decide)).pad (pad_rep [] .null 8)
  skip
  have g_b2 : n0 ≤ b2 := Nat.le_trans Z0 (Nat.le_of_eq g2.symm)
  have sz_b2 : h0.size ≤ b2 := (Nat.le_trans (Keep.refl h0 []).1 (Nat.le_of_eq g2.symm))
  have K2 : Keep h0 h2 [] := (Keep.refl h0 []).ext E2
  obtain ⟨T3, X3, e3, st3⟩ := getS2 X2 hx hZ hown (host := "") (Or.inl (hw _ (List.mem_of_getElem? (i := 2) rfl))) Via.refl e2 (S_ANY_ATOMIC.ext E2) (g := (mkF m 7 #[.val (.int p1), .unset, .unset, .unset, .unset, .unset, .unset] [(.int (0 : Int32)), (.ref b2), (.ref b2)])) rfl (hb hby at_7)
  obtain ⟨cl_b2_10, Ar_b2, q_b2, S_b2, N_b2, H_b2, G_b2⟩ := V_b2
  have hin10 : ¬ ((0 : Int32) < 0 ∨ cl_b2_10.slots.size ≤ ((0 : Int32)).toNatClampNeg) := inb_of S_b2 ⟨by decide, by decide⟩
  have Sto10 : Sto Z h2 b2 (.ref w_ANY_ATOMIC) := Sto.ofV Ar_b2 q_b2 O2 (Ins.self (E_w_ANY_ATOMIC.ext E2))
  obtain ⟨T4, h4, X4, e4, W4, st4⟩ := stR X3 hx hZ e3 Ar_b2 (j := (0 : Int32)) hin10 rfl Sto10 (g := (mkF m 10 #[.val (.int p1), .unset, .unset, .unset, .unset, .unset, .unset] [(.ref w_ANY_ATOMIC), (.int (0 : Int32)), (.ref b2), (.ref b2)])) rfl rfl (hb hby at_10)
  have V_b2_4 : Arv Z h4 b2 k2 (.object "com/example/sluice/sluice/xpath/AtomicType") (8 : Int32) [(.ref w_ANY_ATOMIC), .null, .null, .null, .null, .null, .null, .null] .null := Arv.set Ar_b2 q_b2 S_b2 N_b2 H_b2 G_b2 rfl W4 0 rfl (Nat.le_of_ble_eq_true rfl)
  have K4 : Keep h0 h4 [] := K2.wr W4 (Or.inr sz_b2)
  have N4 := Fr.snoc X4 N0 g_b2
  obtain ⟨T5, X5, e5, st5⟩ := getS2 X4 hx hZ hown (host := "") (Or.inl (hw _ (List.mem_of_getElem? (i := 6) rfl))) Via.refl e4 ((S_UNTYPED_ATOMIC.ext E2).wr W4) (g := (mkF m 13 #[.val (.int p1), .unset, .unset, .unset, .unset, .unset, .unset] [(.int (1 : Int32)), (.ref b2), (.ref b2)])) rfl (hb hby at_13)
  obtain ⟨cl_b2_16, Ar_b2, q_b2, S_b2, N_b2, H_b2, G_b2⟩ := V_b2_4
  have hin16 : ¬ ((1 : Int32) < 0 ∨ cl_b2_16.slots.size ≤ ((1 : Int32)).toNatClampNeg) := inb_of S_b2 ⟨by decide, by decide⟩
  have Sto16 : Sto Z h4 b2 (.ref w_UNTYPED_ATOMIC) := Sto.ofV Ar_b2 q_b2 O2 (Ins.self ((E_w_UNTYPED_ATOMIC.ext E2).wr W4))
  obtain ⟨T6, h6, X6, e6, W6, st6⟩ := stR X5 hx hZ e5 Ar_b2 (j := (1 : Int32)) hin16 rfl Sto16 (g := (mkF m 16 #[.val (.int p1), .unset, .unset, .unset, .unset, .unset, .unset] [(.ref w_UNTYPED_ATOMIC), (.int (1 : Int32)), (.ref b2), (.ref b2)])) rfl rfl (hb hby at_16)
  have V_b2_6 : Arv Z h6 b2 k2 (.object "com/example/sluice/sluice/xpath/AtomicType") (8 : Int32) [(.ref w_ANY_ATOMIC), (.ref w_UNTYPED_ATOMIC), .null, .null, .null, .null, .null, .null] .null := Arv.set Ar_b2 q_b2 S_b2 N_b2 H_b2 G_b2 rfl W6 1 rfl (Nat.le_of_ble_eq_true rfl)
  have K6 : Keep h0 h6 [] := K4.wr W6 (Or.inr sz_b2)
  have N6 := Fr.snoc X6 N4 g_b2
  obtain ⟨T7, X7, e7, st7⟩ := getS2 X6 hx hZ hown (host := "") (Or.inl (hw _ (List.mem_of_getElem? (i := 8) rfl))) Via.refl e6 (((S_STRING.ext E2).wr W4).wr W6) (g := (mkF m 19 #[.val (.int p1), .unset, .unset, .unset, .unset, .unset, .unset] [(.int (2 : Int32)), (.ref b2), (.ref b2)])) rfl (hb hby at_19)
  obtain ⟨cl_b2_22, Ar_b2, q_b2, S_b2, N_b2, H_b2, G_b2⟩ := V_b2_6
  have hin22 : ¬ ((2 : Int32) < 0 ∨ cl_b2_22.slots.size ≤ ((2 : Int32)).toNatClampNeg) := inb_of S_b2 ⟨by decide, by decide⟩
  have Sto22 : Sto Z h6 b2 (.ref w_STRING) := Sto.ofV Ar_b2 q_b2 O2 (Ins.self (((E_w_STRING.ext E2).wr W4).wr W6))
  obtain ⟨T8, h8, X8, e8, W8, st8⟩ := stR X7 hx hZ e7 Ar_b2 (j := (2 : Int32)) hin22 rfl Sto22 (g := (mkF m 22 #[.val (.int p1), .unset, .unset, .unset, .unset, .unset, .unset] [(.ref w_STRING), (.int (2 : Int32)), (.ref b2), (.ref b2)])) rfl rfl (hb hby at_22)
  have V_b2_8 : Arv Z h8 b2 k2 (.object "com/example/sluice/sluice/xpath/AtomicType") (8 : Int32) [(.ref w_ANY_ATOMIC), (.ref w_UNTYPED_ATOMIC), (.ref w_STRING), .null, .null, .null, .null, .null] .null := Arv.set Ar_b2 q_b2 S_b2 N_b2 H_b2 G_b2 rfl W8 2 rfl (Nat.le_of_ble_eq_true rfl)
  have K8 : Keep h0 h8 [] := K6.wr W8 (Or.inr sz_b2)
  have N8 := Fr.snoc X8 N6 g_b2
  obtain ⟨T9, X9, e9, st9⟩ := getS2 X8 hx hZ hown (host := "") (Or.inl (hw _ (List.mem_of_getElem? (i := 10) rfl))) Via.refl e8 ((((S_BOOLEAN.ext E2).wr W4).wr W6).wr W8) (g := (mkF m 25 #[.val (.int p1), .unset, .unset, .unset, .unset, .unset, .unset] [(.int (3 : Int32)), (.ref b2), (.ref b2)])) rfl (hb hby at_25)
  obtain ⟨cl_b2_28, Ar_b2, q_b2, S_b2, N_b2, H_b2, G_b2⟩ := V_b2_8
  have hin28 : ¬ ((3 : Int32) < 0 ∨ cl_b2_28.slots.size ≤ ((3 : Int32)).toNatClampNeg) := inb_of S_b2 ⟨by decide, by decide⟩
  have Sto28 : Sto Z h8 b2 (.ref w_BOOLEAN) := Sto.ofV Ar_b2 q_b2 O2 (Ins.self ((((E_w_BOOLEAN.ext E2).wr W4).wr W6).wr W8))
  obtain ⟨T10, h10, X10, e10, W10, st10⟩ := stR X9 hx hZ e9 Ar_b2 (j := (3 : Int32)) hin28 rfl Sto28 (g := (mkF m 28 #[.val (.int p1), .unset, .unset, .unset, .unset, .unset, .unset] [(.ref w_BOOLEAN), (.int (3 : Int32)), (.ref b2), (.ref b2)])) rfl rfl (hb hby at_28)
  have V_b2_10 : Arv Z h10 b2 k2 (.object "com/example/sluice/sluice/xpath/AtomicType") (8 : Int32) [(.ref w_ANY_ATOMIC), (.ref w_UNTYPED_ATOMIC), (.ref w_STRING), (.ref w_BOOLEAN), .null, .null, .null, .null] .null := Arv.set Ar_b2 q_b2 S_b2 N_b2 H_b2 G_b2 rfl W10 3 rfl (Nat.le_of_ble_eq_true rfl)
  have K10 : Keep h0 h10 [] := K8.wr W10 (Or.inr sz_b2)
  have N10 := Fr.snoc X10 N8 g_b2
  obtain ⟨T11, X11, e11, st11⟩ := getS2 X10 hx hZ hown (host := "") (Or.inl (hw _ (List.mem_of_getElem? (i := 12) rfl))) Via.refl e10 (((((S_DECIMAL.ext E2).wr W4).wr W6).wr W8).wr W10) (g := (mkF m 31 #[.val (.int p1), .unset, .unset, .unset, .unset, .unset, .unset] [(.int (4 : Int32)), (.ref b2), (.ref b2)])) rfl (hb hby at_31)
  obtain ⟨cl_b2_34, Ar_b2, q_b2, S_b2, N_b2, H_b2, G_b2⟩ := V_b2_10
  have hin34 : ¬ ((4 : Int32) < 0 ∨ cl_b2_34.slots.size ≤ ((4 : Int32)).toNatClampNeg) := inb_of S_b2 ⟨by decide, by decide⟩
  have Sto34 : Sto Z h10 b2 (.ref w_DECIMAL) := Sto.ofV Ar_b2 q_b2 O2 (Ins.self (((((E_w_DECIMAL.ext E2).wr W4).wr W6).wr W8).wr W10))
  obtain ⟨T12, h12, X12, e12, W12, st12⟩ := stR X11 hx hZ e11 Ar_b2 (j := (4 : Int32)) hin34 rfl Sto34 (g := (mkF m 34 #[.val (.int p1), .unset, .unset, .unset, .unset, .unset, .unset] [(.ref w_DECIMAL), (.int (4 : Int32)), (.ref b2), (.ref b2)])) rfl rfl (hb hby at_34)
  have V_b2_12 : Arv Z h12 b2 k2 (.object "com/example/sluice/sluice/xpath/AtomicType") (8 : Int32) [(.ref w_ANY_ATOMIC), (.ref w_UNTYPED_ATOMIC), (.ref w_STRING), (.ref w_BOOLEAN), (.ref w_DECIMAL), .null, .null, .null] .null := Arv.set Ar_b2 q_b2 S_b2 N_b2 H_b2 G_b2 rfl W12 4 rfl (Nat.le_of_ble_eq_true rfl)
  have K12 : Keep h0 h12 [] := K10.wr W12 (Or.inr sz_b2)
  have N12 := Fr.snoc X12 N10 g_b2
  obtain ⟨T13, X13, e13, st13⟩ := getS2 X12 hx hZ hown (host := "") (Or.inl (hw _ (List.mem_of_getElem? (i := 14) rfl))) Via.refl e12 ((((((S_INTEGER.ext E2).wr W4).wr W6).wr W8).wr W10).wr W12) (g := (mkF m 37 #[.val (.int p1), .unset, .unset, .unset, .unset, .unset, .unset] [(.int (5 : Int32)), (.ref b2), (.ref b2)])) rfl (hb hby at_37)
  obtain ⟨cl_b2_40, Ar_b2, q_b2, S_b2, N_b2, H_b2, G_b2⟩ := V_b2_12
  have hin40 : ¬ ((5 : Int32) < 0 ∨ cl_b2_40.slots.size ≤ ((5 : Int32)).toNatClampNeg) := inb_of S_b2 ⟨by decide, by decide⟩
  have Sto40 : Sto Z h12 b2 (.ref w_INTEGER) := Sto.ofV Ar_b2 q_b2 O2 (Ins.self ((((((E_w_INTEGER.ext E2).wr W4).wr W6).wr W8).wr W10).wr W12))
  obtain ⟨T14, h14, X14, e14, W14, st14⟩ := stR X13 hx hZ e13 Ar_b2 (j := (5 : Int32)) hin40 rfl Sto40 (g := (mkF m 40 #[.val (.int p1), .unset, .unset, .unset, .unset, .unset, .unset] [(.ref w_INTEGER), (.int (5 : Int32)), (.ref b2), (.ref b2)])) rfl rfl (hb hby at_40)
  have V_b2_14 : Arv Z h14 b2 k2 (.object "com/example/sluice/sluice/xpath/AtomicType") (8 : Int32) [(.ref w_ANY_ATOMIC), (.ref w_UNTYPED_ATOMIC), (.ref w_STRING), (.ref w_BOOLEAN), (.ref w_DECIMAL), (.ref w_INTEGER), .null, .null] .null := Arv.set Ar_b2 q_b2 S_b2 N_b2 H_b2 G_b2 rfl W14 5 rfl (Nat.le_of_ble_eq_true rfl)
  have K14 : Keep h0 h14 [] := K12.wr W14 (Or.inr sz_b2)
  have N14 := Fr.snoc X14 N12 g_b2
  obtain ⟨T15, X15, e15, st15⟩ := getS2 X14 hx hZ hown (host := "") (Or.inl (hw _ (List.mem_of_getElem? (i := 16) rfl))) Via.refl e14 (((((((S_DOUBLE.ext E2).wr W4).wr W6).wr W8).wr W10).wr W12).wr W14) (g := (mkF m 44 #[.val (.int p1), .unset, .unset, .unset, .unset, .unset, .unset] [(.int (6 : Int32)), (.ref b2), (.ref b2)])) rfl (hb hby at_44)
  obtain ⟨cl_b2_47, Ar_b2, q_b2, S_b2, N_b2, H_b2, G_b2⟩ := V_b2_14
  have hin47 : ¬ ((6 : Int32) < 0 ∨ cl_b2_47.slots.size ≤ ((6 : Int32)).toNatClampNeg) := inb_of S_b2 ⟨by decide, by decide⟩
  have Sto47 : Sto Z h14 b2 (.ref w_DOUBLE) := Sto.ofV Ar_b2 q_b2 O2 (Ins.self (((((((E_w_DOUBLE.ext E2).wr W4).wr W6).wr W8).wr W10).wr W12).wr W14))
  obtain ⟨T16, h16, X16, e16, W16, st16⟩ := stR X15 hx hZ e15 Ar_b2 (j := (6 : Int32)) hin47 rfl Sto47 (g := (mkF m 47 #[.val (.int p1), .unset, .unset, .unset, .unset, .unset, .unset] [(.ref w_DOUBLE), (.int (6 : Int32)), (.ref b2), (.ref b2)])) rfl rfl (hb hby at_47)
  have V_b2_16 : Arv Z h16 b2 k2 (.object "com/example/sluice/sluice/xpath/AtomicType") (8 : Int32) [(.ref w_ANY_ATOMIC), (.ref w_UNTYPED_ATOMIC), (.ref w_STRING), (.ref w_BOOLEAN), (.ref w_DECIMAL), (.ref w_INTEGER), (.ref w_DOUBLE), .null] .null := Arv.set Ar_b2 q_b2 S_b2 N_b2 H_b2 G_b2 rfl W16 6 rfl (Nat.le_of_ble_eq_true rfl)
  have K16 : Keep h0 h16 [] := K14.wr W16 (Or.inr sz_b2)
  have N16 := Fr.snoc X16 N14 g_b2
  obtain ⟨T17, X17, e17, st17⟩ := getS2 X16 hx hZ hown (host := "") (Or.inl (hw _ (List.mem_of_getElem? (i := 18) rfl))) Via.refl e16 ((((((((S_NUMERIC.ext E2).wr W4).wr W6).wr W8).wr W10).wr W12).wr W14).wr W16) (g := (mkF m 51 #[.val (.int p1), .unset, .unset, .unset, .unset, .unset, .unset] [(.int (7 : Int32)), (.ref b2), (.ref b2)])) rfl (hb hby at_51)
  obtain ⟨cl_b2_54, Ar_b2, q_b2, S_b2, N_b2, H_b2, G_b2⟩ := V_b2_16
  have hin54 : ¬ ((7 : Int32) < 0 ∨ cl_b2_54.slots.size ≤ ((7 : Int32)).toNatClampNeg) := inb_of S_b2 ⟨by decide, by decide⟩
  have Sto54 : Sto Z h16 b2 (.ref w_NUMERIC) := Sto.ofV Ar_b2 q_b2 O2 (Ins.self ((((((((E_w_NUMERIC.ext E2).wr W4).wr W6).wr W8).wr W10).wr W12).wr W14).wr W16))
  obtain ⟨T18, h18, X18, e18, W18, st18⟩ := stR X17 hx hZ e17 Ar_b2 (j := (7 : Int32)) hin54 rfl Sto54 (g := (mkF m 54 #[.val (.int p1), .unset, .unset, .unset, .unset, .unset, .unset] [(.ref w_NUMERIC), (.int (7 : Int32)), (.ref b2), (.ref b2)])) rfl rfl (hb hby at_54)
  have V_b2_18 : Arv Z h18 b2 k2 (.object "com/example/sluice/sluice/xpath/AtomicType") (8 : Int32) [(.ref w_ANY_ATOMIC), (.ref w_UNTYPED_ATOMIC), (.ref w_STRING), (.ref w_BOOLEAN), (.ref w_DECIMAL), (.ref w_INTEGER), (.ref w_DOUBLE), (.ref w_NUMERIC)] .null := Arv.set Ar_b2 q_b2 S_b2 N_b2 H_b2 G_b2 rfl W18 7 rfl (Nat.le_of_ble_eq_true rfl)
  have K18 : Keep h0 h18 [] := K16.wr W18 (Or.inr sz_b2)
  have N18 := Fr.snoc X18 N16 g_b2
  obtain ⟨cl_b2_v19, Ar_b2_v19, q_b2_v19, S_b2_v19, N_b2_v19, H_b2_v19, G_b2_v19⟩ := id V_b2_18
  have hin_b2_v19 : ¬ (((p1 &&& (2147483647 : Int32)) % (8 : Int32)) < 0 ∨ cl_b2_v19.slots.size ≤ (((p1 &&& (2147483647 : Int32)) % (8 : Int32))).toNatClampNeg) := inb_of S_b2_v19 hij66
  have hat_b2_v19 : cl_b2_v19.slots[(((p1 &&& (2147483647 : Int32)) % (8 : Int32))).toNatClampNeg]? = some (.ref w_r) := (H_b2_v19 _ (Nat.lt_of_not_le fun q => hin_b2_v19 (Or.inr q))).trans (congrArg some hsel66)
  obtain ⟨cq20, kq20, q20a, q20b, q20c⟩ := isOf hZ e18 (((((((((E_w_r.ext E2).wr W4).wr W6).wr W8).wr W10).wr W12).wr W14).wr W16).wr W18)
  obtain ⟨_, _, ⟨T20, L20, k20, n20⟩, -, X20, ⟨Lc20, hQ20, l20, y20, z20⟩, st20⟩ := X18.virtualBack hx (y := (⟨"com/example/sluice/sluice/xpath/AtomicType", "isNumeric", "()Z"⟩ : MethodName)) (z := (⟨"com/example/sluice/sluice/xpath/AtomicType", "isNumeric", "()Z"⟩ : MethodName)) hown (mvT hZ (hw _ (List.mem_of_getElem? (i := 21) rfl))) (mvT hZ (hw _ (List.mem_of_getElem? (i := 22) rfl))) (notFace_of_selects (args := #[]) (mvT hZ (hw _ (List.mem_of_getElem? (i := 24) rfl)))) (mvT hZ (hw _ (List.mem_of_getElem? (i := 24) rfl))) (mvT hZ (hw _ (List.mem_of_getElem? (i := 23) rfl))) (by decide) (backOf (W := 0) (rm1 l Z a0 hw [] w_r w_INTEGER w_DECIMAL w_DOUBLE h18 n0 (Nat.le_trans (Nat.le_trans (Nat.le_trans (Nat.le_trans (Nat.le_trans (Nat.le_trans (Nat.le_trans (Nat.le_trans (Nat.le_trans Z0 E2.1) (Keep.of_wr W4).1) (Keep.of_wr W6).1) (Keep.of_wr W8).1) (Keep.of_wr W10).1) (Keep.of_wr W12).1) (Keep.of_wr W14).1) (Keep.of_wr W16).1) (Keep.of_wr W18).1) (((((((((S_INTEGER.ext E2).wr W4).wr W6).wr W8).wr W10).wr W12).wr W14).wr W16).wr W18) (((((((((S_DECIMAL.ext E2).wr W4).wr W6).wr W8).wr W10).wr W12).wr W14).wr W16).wr W18) (((((((((S_DOUBLE.ext E2).wr W4).wr W6).wr W8).wr W10).wr W12).wr W14).wr W16).wr W18)) hZ (hw _ (List.mem_of_getElem? (i := 25) rfl)) (hw _ (List.mem_of_getElem? (i := 3) rfl)) (by decide) (by decide)) q20a q20c (g := (mkF m 69 #[.val (.int p1), .val (.ref b2), .val (.int ((p1 &&& (2147483647 : Int32)) % (8 : Int32))), .val (.ref w_r), .unset, .unset, .unset] [(.ref w_r)])) rfl (by rw [hml]; rfl) (Steps.refl _) (argsL := []) (rest := []) (lenOf pd_0_0 rfl) rfl (by show 2 * 0 + _ ≤ _; exact Nat.le_of_eq rfl) (hb hby at_69) (fun _ _ => ⟨rfl, e18, (by decide : 1 + 0 ≤ _), (by decide : 8 + 0 ≤ _)⟩)
  dsimp only [Pt.U, Pt.locs, Pt.cells, Pt.slots] at X20 l20 y20 z20 st20 hQ20
  subst l20 y20 z20
  obtain ⟨rfl, N20q, e20⟩ := hQ20
  have N20 := Fr.app N18 N20q
  obtain ⟨T21, X21, e21, st21⟩ := getS2 X20 hx hZ hown (host := "") (Or.inl (hw _ (List.mem_of_getElem? (i := 12) rfl))) Via.refl e20 (((((((((S_DECIMAL.ext E2).wr W4).wr W6).wr W8).wr W10).wr W12).wr W14).wr W16).wr W18) (g := (mkF m 98 #[.val (.int p1), .val (.ref b2), .val (.int ((p1 &&& (2147483647 : Int32)) % (8 : Int32))), .val (.ref w_r), .val (.int (own_num w_r w_INTEGER w_DECIMAL w_DOUBLE)), .val (.int (1 : Int32)), .unset] [(.ref w_r)])) rfl (hb hby at_98)
  obtain ⟨cq22, kq22, q22a, q22b, q22c⟩ := isOf hZ e21 (((((((((E_w_r.ext E2).wr W4).wr W6).wr W8).wr W10).wr W12).wr W14).wr W16).wr W18)
  obtain ⟨_, _, ⟨T22, L22, k22, n22⟩, -, X22, ⟨Lc22, hQ22, l22, y22, z22⟩, st22⟩ := X21.virtualBack hx (y := (⟨"com/example/sluice/sluice/xpath/AtomicType", "isSubtypeOf", "(Lcom/example/sluice/sluice/xpath/AtomicType;)Z"⟩ : MethodName)) (z := (⟨"com/example/sluice/sluice/xpath/AtomicType", "isSubtypeOf", "(Lcom/example/sluice/sluice/xpath/AtomicType;)Z"⟩ : MethodName)) hown (mvT hZ (hw _ (List.mem_of_getElem? (i := 29) rfl))) (mvT hZ (hw _ (List.mem_of_getElem? (i := 30) rfl))) (notFace_of_selects (args := #[]) (mvT hZ (hw _ (List.mem_of_getElem? (i := 32) rfl)))) (mvT hZ (hw _ (List.mem_of_getElem? (i := 32) rfl))) (mvT hZ (hw _ (List.mem_of_getElem? (i := 31) rfl))) (by decide) (backOf (W := 0) (rm2 l Z a0 hw [] w_r w_DECIMAL w_NUMERIC s1 h18 n0 (Nat.le_trans (Nat.le_trans (Nat.le_trans (Nat.le_trans (Nat.le_trans (Nat.le_trans (Nat.le_trans (Nat.le_trans (Nat.le_trans Z0 E2.1) (Keep.of_wr W4).1) (Keep.of_wr W6).1) (Keep.of_wr W8).1) (Keep.of_wr W10).1) (Keep.of_wr W12).1) (Keep.of_wr W14).1) (Keep.of_wr W16).1) (Keep.of_wr W18).1) (((((((((S_NUMERIC.ext E2).wr W4).wr W6).wr W8).wr W10).wr W12).wr W14).wr W16).wr W18) nq1 (hs1.keep K18)) hZ (hw _ (List.mem_of_getElem? (i := 33) rfl)) (hw _ (List.mem_of_getElem? (i := 3) rfl)) (by decide) (by decide)) q22a q22c (g := (mkF m 101 #[.val (.int p1), .val (.ref b2), .val (.int ((p1 &&& (2147483647 : Int32)) % (8 : Int32))), .val (.ref w_r), .val (.int (own_num w_r w_INTEGER w_DECIMAL w_DOUBLE)), .val (.int (1 : Int32)), .unset] [(.ref w_DECIMAL), (.ref w_r)])) rfl (by rw [hml]; rfl) (Steps.refl _) (argsL := [(.ref w_DECIMAL)]) (rest := []) (lenOf pd_0_1 rfl) rfl (by show 2 * 0 + _ ≤ _; exact Nat.le_of_eq rfl) (hb hby at_101) (fun _ _ => ⟨rfl, e21, (by decide : 1 + 0 ≤ _), (by decide : 8 + 0 ≤ _)⟩)
  dsimp only [Pt.U, Pt.locs, Pt.cells, Pt.slots] at X22 l22 y22 z22 st22 hQ22
  subst l22 y22 z22
  obtain ⟨rfl, N22q, e22⟩ := hQ22
  have N22 := Fr.app N20 N22q
  obtain ⟨T23, X23, e23, st23⟩ := getS2 X22 hx hZ hown (host := "") (Or.inl (hw _ (List.mem_of_getElem? (i := 16) rfl))) Via.refl e22 (((((((((S_DOUBLE.ext E2).wr W4).wr W6).wr W8).wr W10).wr W12).wr W14).wr W16).wr W18) (g := (mkF m 108 #[.val (.int p1), .val (.ref b2), .val (.int ((p1 &&& (2147483647 : Int32)) % (8 : Int32))), .val (.ref w_r), .val (.int (own_num w_r w_INTEGER w_DECIMAL w_DOUBLE)), .val (.int (1 : Int32)), .unset] [(.ref w_r)])) rfl (hb hby at_108)
  obtain ⟨cq24, kq24, q24a, q24b, q24c⟩ := isOf hZ e23 (((((((((E_w_r.ext E2).wr W4).wr W6).wr W8).wr W10).wr W12).wr W14).wr W16).wr W18)
  obtain ⟨_, _, ⟨T24, L24, k24, n24⟩, -, X24, ⟨Lc24, hQ24, l24, y24, z24⟩, st24⟩ := X23.virtualBack hx (y := (⟨"com/example/sluice/sluice/xpath/AtomicType", "isSubtypeOf", "(Lcom/example/sluice/sluice/xpath/AtomicType;)Z"⟩ : MethodName)) (z := (⟨"com/example/sluice/sluice/xpath/AtomicType", "isSubtypeOf", "(Lcom/example/sluice/sluice/xpath/AtomicType;)Z"⟩ : MethodName)) hown (mvT hZ (hw _ (List.mem_of_getElem? (i := 29) rfl))) (mvT hZ (hw _ (List.mem_of_getElem? (i := 30) rfl))) (notFace_of_selects (args := #[]) (mvT hZ (hw _ (List.mem_of_getElem? (i := 32) rfl)))) (mvT hZ (hw _ (List.mem_of_getElem? (i := 32) rfl))) (mvT hZ (hw _ (List.mem_of_getElem? (i := 31) rfl))) (by decide) (backOf (W := 0) (rm2 l Z a0 hw [] w_r w_DOUBLE w_NUMERIC s2 h18 n0 (Nat.le_trans (Nat.le_trans (Nat.le_trans (Nat.le_trans (Nat.le_trans (Nat.le_trans (Nat.le_trans (Nat.le_trans (Nat.le_trans Z0 E2.1) (Keep.of_wr W4).1) (Keep.of_wr W6).1) (Keep.of_wr W8).1) (Keep.of_wr W10).1) (Keep.of_wr W12).1) (Keep.of_wr W14).1) (Keep.of_wr W16).1) (Keep.of_wr W18).1) (((((((((S_NUMERIC.ext E2).wr W4).wr W6).wr W8).wr W10).wr W12).wr W14).wr W16).wr W18) nq2 (hs2.keep K18)) hZ (hw _ (List.mem_of_getElem? (i := 33) rfl)) (hw _ (List.mem_of_getElem? (i := 3) rfl)) (by decide) (by decide)) q24a q24c (g := (mkF m 111 #[.val (.int p1), .val (.ref b2), .val (.int ((p1 &&& (2147483647 : Int32)) % (8 : Int32))), .val (.ref w_r), .val (.int (own_num w_r w_INTEGER w_DECIMAL w_DOUBLE)), .val (.int (1 : Int32)), .unset] [(.ref w_DOUBLE), (.ref w_r)])) rfl (by rw [hml]; rfl) (Steps.refl _) (argsL := [(.ref w_DOUBLE)]) (rest := []) (lenOf pd_0_1 rfl) rfl (by show 2 * 0 + _ ≤ _; exact Nat.le_of_eq rfl) (hb hby at_111) (fun _ _ => ⟨rfl, e23, (by decide : 1 + 0 ≤ _), (by decide : 8 + 0 ≤ _)⟩)
  dsimp only [Pt.U, Pt.locs, Pt.cells, Pt.slots] at X24 l24 y24 z24 st24 hQ24
  subst l24 y24 z24
  obtain ⟨rfl, N24q, e24⟩ := hQ24
  have N24 := Fr.app N22 N24q
  obtain ⟨fs, hr, hrun, hended, hW, hsame⟩ := X24.leave (v := some (.int (1 : Int32))) (fun h => by rw [Bd.returns] at h; cases h)
  refine ⟨_, _, pre0 _ ?_, hrun, hended, _, _, rfl, ?_, ⟨_, rfl⟩, hW, hsame.mono (by decide) (by decide)⟩
  · show Steps p.tables e below (s₁.setTop (mkF m 0 #[.val (.int p1), .unset, .unset, .unset, .unset, .unset, .unset] [])) _
    refine XS.bipush X0.here hx rfl (hb hby at_0) ?_
    show Steps p.tables e below (s₁.setTop (mkF m 2 #[.val (.int p1), .unset, .unset, .unset, .unset, .unset, .unset] [(.int (8 : Int32))])) _
    refine st2 _ ?_
    show Steps p.tables e below (T2.setTop (mkF m 5 #[.val (.int p1), .unset, .unset, .unset, .unset, .unset, .unset] [(.ref b2)])) _
    refine XS.dup X2.here hx rfl (hb hby at_5) rfl rfl ?_
    show Steps p.tables e below (T2.setTop (mkF m 6 #[.val (.int p1), .unset, .unset, .unset, .unset, .unset, .unset] [(.ref b2), (.ref b2)])) _
    refine XS.iconst X2.here hx rfl (hb hby at_6) ?_
    show Steps p.tables e below (T2.setTop (mkF m 7 #[.val (.int p1), .unset, .unset, .unset, .unset, .unset, .unset] [(.int (0 : Int32)), (.ref b2), (.ref b2)])) _
    refine st3 _ ?_
    show Steps p.tables e below (T3.setTop (mkF m 10 #[.val (.int p1), .unset, .unset, .unset, .unset, .unset, .unset] [(.ref w_ANY_ATOMIC), (.int (0 : Int32)), (.ref b2), (.ref b2)])) _
    refine st4 _ ?_
    show Steps p.tables e below (T4.setTop (mkF m 11 #[.val (.int p1), .unset, .unset, .unset, .unset, .unset, .unset] [(.ref b2)])) _
    refine XS.dup X4.here hx rfl (hb hby at_11) rfl rfl ?_
    show Steps p.tables e below (T4.setTop (mkF m 12 #[.val (.int p1), .unset, .unset, .unset, .unset, .unset, .unset] [(.ref b2), (.ref b2)])) _
    refine XS.iconst X4.here hx rfl (hb hby at_12) ?_
    show Steps p.tables e below (T4.setTop (mkF m 13 #[.val (.int p1), .unset, .unset, .unset, .unset, .unset, .unset] [(.int (1 : Int32)), (.ref b2), (.ref b2)])) _
    refine st5 _ ?_
    show Steps p.tables e below (T5.setTop (mkF m 16 #[.val (.int p1), .unset, .unset, .unset, .unset, .unset, .unset] [(.ref w_UNTYPED_ATOMIC), (.int (1 : Int32)), (.ref b2), (.ref b2)])) _
    refine st6 _ ?_
    show Steps p.tables e below (T6.setTop (mkF m 17 #[.val (.int p1), .unset, .unset, .unset, .unset, .unset, .unset] [(.ref b2)])) _
    refine XS.dup X6.here hx rfl (hb hby at_17) rfl rfl ?_
    show Steps p.tables e below (T6.setTop (mkF m 18 #[.val (.int p1), .unset, .unset, .unset, .unset, .unset, .unset] [(.ref b2), (.ref b2)])) _
    refine XS.iconst X6.here hx rfl (hb hby at_18) ?_
    show Steps p.tables e below (T6.setTop (mkF m 19 #[.val (.int p1), .unset, .unset, .unset, .unset, .unset, .unset] [(.int (2 : Int32)), (.ref b2), (.ref b2)])) _
    refine st7 _ ?_
    show Steps p.tables e below (T7.setTop (mkF m 22 #[.val (.int p1), .unset, .unset, .unset, .unset, .unset, .unset] [(.ref w_STRING), (.int (2 : Int32)), (.ref b2), (.ref b2)])) _
    refine st8 _ ?_
    show Steps p.tables e below (T8.setTop (mkF m 23 #[.val (.int p1), .unset, .unset, .unset, .unset, .unset, .unset] [(.ref b2)])) _
    refine XS.dup X8.here hx rfl (hb hby at_23) rfl rfl ?_
    show Steps p.tables e below (T8.setTop (mkF m 24 #[.val (.int p1), .unset, .unset, .unset, .unset, .unset, .unset] [(.ref b2), (.ref b2)])) _
    refine XS.iconst X8.here hx rfl (hb hby at_24) ?_
    show Steps p.tables e below (T8.setTop (mkF m 25 #[.val (.int p1), .unset, .unset, .unset, .unset, .unset, .unset] [(.int (3 : Int32)), (.ref b2), (.ref b2)])) _
    refine st9 _ ?_
    show Steps p.tables e below (T9.setTop (mkF m 28 #[.val (.int p1), .unset, .unset, .unset, .unset, .unset, .unset] [(.ref w_BOOLEAN), (.int (3 : Int32)), (.ref b2), (.ref b2)])) _
    refine st10 _ ?_
    show Steps p.tables e below (T10.setTop (mkF m 29 #[.val (.int p1), .unset, .unset, .unset, .unset, .unset, .unset] [(.ref b2)])) _
    refine XS.dup X10.here hx rfl (hb hby at_29) rfl rfl ?_
    show Steps p.tables e below (T10.setTop (mkF m 30 #[.val (.int p1), .unset, .unset, .unset, .unset, .unset, .unset] [(.ref b2), (.ref b2)])) _
    refine XS.iconst X10.here hx rfl (hb hby at_30) ?_
    show Steps p.tables e below (T10.setTop (mkF m 31 #[.val (.int p1), .unset, .unset, .unset, .unset, .unset, .unset] [(.int (4 : Int32)), (.ref b2), (.ref b2)])) _
    refine st11 _ ?_
    show Steps p.tables e below (T11.setTop (mkF m 34 #[.val (.int p1), .unset, .unset, .unset, .unset, .unset, .unset] [(.ref w_DECIMAL), (.int (4 : Int32)), (.ref b2), (.ref b2)])) _
    refine st12 _ ?_
    show Steps p.tables e below (T12.setTop (mkF m 35 #[.val (.int p1), .unset, .unset, .unset, .unset, .unset, .unset] [(.ref b2)])) _
    refine XS.dup X12.here hx rfl (hb hby at_35) rfl rfl ?_
    show Steps p.tables e below (T12.setTop (mkF m 36 #[.val (.int p1), .unset, .unset, .unset, .unset, .unset, .unset] [(.ref b2), (.ref b2)])) _
    refine XS.iconst X12.here hx rfl (hb hby at_36) ?_
    show Steps p.tables e below (T12.setTop (mkF m 37 #[.val (.int p1), .unset, .unset, .unset, .unset, .unset, .unset] [(.int (5 : Int32)), (.ref b2), (.ref b2)])) _
    refine st13 _ ?_
    show Steps p.tables e below (T13.setTop (mkF m 40 #[.val (.int p1), .unset, .unset, .unset, .unset, .unset, .unset] [(.ref w_INTEGER), (.int (5 : Int32)), (.ref b2), (.ref b2)])) _
    refine st14 _ ?_
    show Steps p.tables e below (T14.setTop (mkF m 41 #[.val (.int p1), .unset, .unset, .unset, .unset, .unset, .unset] [(.ref b2)])) _
    refine XS.dup X14.here hx rfl (hb hby at_41) rfl rfl ?_
    show Steps p.tables e below (T14.setTop (mkF m 42 #[.val (.int p1), .unset, .unset, .unset, .unset, .unset, .unset] [(.ref b2), (.ref b2)])) _
    refine XS.bipush X14.here hx rfl (hb hby at_42) ?_
    show Steps p.tables e below (T14.setTop (mkF m 44 #[.val (.int p1), .unset, .unset, .unset, .unset, .unset, .unset] [(.int (6 : Int32)), (.ref b2), (.ref b2)])) _
    refine st15 _ ?_
    show Steps p.tables e below (T15.setTop (mkF m 47 #[.val (.int p1), .unset, .unset, .unset, .unset, .unset, .unset] [(.ref w_DOUBLE), (.int (6 : Int32)), (.ref b2), (.ref b2)])) _
    refine st16 _ ?_
    show Steps p.tables e below (T16.setTop (mkF m 48 #[.val (.int p1), .unset, .unset, .unset, .unset, .unset, .unset] [(.ref b2)])) _
    refine XS.dup X16.here hx rfl (hb hby at_48) rfl rfl ?_
    show Steps p.tables e below (T16.setTop (mkF m 49 #[.val (.int p1), .unset, .unset, .unset, .unset, .unset, .unset] [(.ref b2), (.ref b2)])) _
    refine XS.bipush X16.here hx rfl (hb hby at_49) ?_
    show Steps p.tables e below (T16.setTop (mkF m 51 #[.val (.int p1), .unset, .unset, .unset, .unset, .unset, .unset] [(.int (7 : Int32)), (.ref b2), (.ref b2)])) _
    refine st17 _ ?_
    show Steps p.tables e below (T17.setTop (mkF m 54 #[.val (.int p1), .unset, .unset, .unset, .unset, .unset, .unset] [(.ref w_NUMERIC), (.int (7 : Int32)), (.ref b2), (.ref b2)])) _
    refine st18 _ ?_
    show Steps p.tables e below (T18.setTop (mkF m 55 #[.val (.int p1), .unset, .unset, .unset, .unset, .unset, .unset] [(.ref b2)])) _
    refine XS.astoreN X18.here hx rfl (hb hby at_55) rfl rfl (l' := #[.val (.int p1), .val (.ref b2), .unset, .unset, .unset, .unset, .unset]) rfl ?_
    show Steps p.tables e below (T18.setTop (mkF m 56 #[.val (.int p1), .val (.ref b2), .unset, .unset, .unset, .unset, .unset] [])) _
    refine XS.iloadN X18.here hx rfl (hb hby at_56) rfl ?_
    show Steps p.tables e below (T18.setTop (mkF m 57 #[.val (.int p1), .val (.ref b2), .unset, .unset, .unset, .unset, .unset] [(.int p1)])) _
    refine X18.ldcInt hx hown (mvT hZ (hw _ (List.mem_of_getElem? (i := 20) rfl))) (g := (mkF m 57 #[.val (.int p1), .val (.ref b2), .unset, .unset, .unset, .unset, .unset] [(.int p1)])) rfl (hb hby at_57) _ ?_
    show Steps p.tables e below (T18.setTop (mkF m 59 #[.val (.int p1), .val (.ref b2), .unset, .unset, .unset, .unset, .unset] [(.int (2147483647 : Int32)), (.int p1)])) _
    refine XS.iand X18.here hx rfl (hb hby at_59) rfl ?_
    show Steps p.tables e below (T18.setTop (mkF m 60 #[.val (.int p1), .val (.ref b2), .unset, .unset, .unset, .unset, .unset] [(.int (p1 &&& (2147483647 : Int32)))])) _
    refine XS.bipush X18.here hx rfl (hb hby at_60) ?_
    show Steps p.tables e below (T18.setTop (mkF m 62 #[.val (.int p1), .val (.ref b2), .unset, .unset, .unset, .unset, .unset] [(.int (8 : Int32)), (.int (p1 &&& (2147483647 : Int32)))])) _
    refine iremM X18 hx rfl (hb hby at_62) rfl (by decide) ?_
    show Steps p.tables e below (T18.setTop (mkF m 63 #[.val (.int p1), .val (.ref b2), .unset, .unset, .unset, .unset, .unset] [(.int ((p1 &&& (2147483647 : Int32)) % (8 : Int32)))])) _
    refine XS.istoreN X18.here hx rfl (hb hby at_63) rfl (l' := #[.val (.int p1), .val (.ref b2), .val (.int ((p1 &&& (2147483647 : Int32)) % (8 : Int32))), .unset, .unset, .unset, .unset]) rfl ?_
    show Steps p.tables e below (T18.setTop (mkF m 64 #[.val (.int p1), .val (.ref b2), .val (.int ((p1 &&& (2147483647 : Int32)) % (8 : Int32))), .unset, .unset, .unset, .unset] [])) _
    refine XS.aloadN X18.here hx rfl (hb hby at_64) rfl rfl ?_
    show Steps p.tables e below (T18.setTop (mkF m 65 #[.val (.int p1), .val (.ref b2), .val (.int ((p1 &&& (2147483647 : Int32)) % (8 : Int32))), .unset, .unset, .unset, .unset] [(.ref b2)])) _
    refine XS.iloadN X18.here hx rfl (hb hby at_65) rfl ?_
    show Steps p.tables e below (T18.setTop (mkF m 66 #[.val (.int p1), .val (.ref b2), .val (.int ((p1 &&& (2147483647 : Int32)) % (8 : Int32))), .unset, .unset, .unset, .unset] [(.int ((p1 &&& (2147483647 : Int32)) % (8 : Int32))), (.ref b2)])) _
    refine X18.aaload hx (j := ((p1 &&& (2147483647 : Int32)) % (8 : Int32))) (v := (.ref w_r)) (by rw [e18]; exact Ar_b2_v19.1) (State.isArrayOf_alike hZ.alike Ar_b2_v19.2.1) rfl Ar_b2_v19.2.2 hin_b2_v19 hat_b2_v19 (g := (mkF m 66 #[.val (.int p1), .val (.ref b2), .val (.int ((p1 &&& (2147483647 : Int32)) % (8 : Int32))), .unset, .unset, .unset, .unset] [(.int ((p1 &&& (2147483647 : Int32)) % (8 : Int32))), (.ref b2)])) rfl rfl (hb hby at_66) _ ?_
    show Steps p.tables e below (T18.setTop (mkF m 67 #[.val (.int p1), .val (.ref b2), .val (.int ((p1 &&& (2147483647 : Int32)) % (8 : Int32))), .unset, .unset, .unset, .unset] [(.ref w_r)])) _
    refine XS.astoreN X18.here hx rfl (hb hby at_67) rfl rfl (l' := #[.val (.int p1), .val (.ref b2), .val (.int ((p1 &&& (2147483647 : Int32)) % (8 : Int32))), .val (.ref w_r), .unset, .unset, .unset]) rfl ?_
    show Steps p.tables e below (T18.setTop (mkF m 68 #[.val (.int p1), .val (.ref b2), .val (.int ((p1 &&& (2147483647 : Int32)) % (8 : Int32))), .val (.ref w_r), .unset, .unset, .unset] [])) _
    refine XS.aloadN X18.here hx rfl (hb hby at_68) rfl rfl ?_
    show Steps p.tables e below (T18.setTop (mkF m 69 #[.val (.int p1), .val (.ref b2), .val (.int ((p1 &&& (2147483647 : Int32)) % (8 : Int32))), .val (.ref w_r), .unset, .unset, .unset] [(.ref w_r)])) _
    refine st20.trans ?_
    show Steps p.tables e below (T20.setTop (mkF m 72 #[.val (.int p1), .val (.ref b2), .val (.int ((p1 &&& (2147483647 : Int32)) % (8 : Int32))), .val (.ref w_r), .unset, .unset, .unset] [(.int (own_num w_r w_INTEGER w_DECIMAL w_DOUBLE))])) _
    refine XS.istore X20.here hx rfl (hb hby at_72) rfl (l' := #[.val (.int p1), .val (.ref b2), .val (.int ((p1 &&& (2147483647 : Int32)) % (8 : Int32))), .val (.ref w_r), .val (.int (own_num w_r w_INTEGER w_DECIMAL w_DOUBLE)), .unset, .unset]) rfl ?_
    show Steps p.tables e below (T20.setTop (mkF m 74 #[.val (.int p1), .val (.ref b2), .val (.int ((p1 &&& (2147483647 : Int32)) % (8 : Int32))), .val (.ref w_r), .val (.int (own_num w_r w_INTEGER w_DECIMAL w_DOUBLE)), .unset, .unset] [])) _
    refine XS.iloadN X20.here hx rfl (hb hby at_74) rfl ?_
    show Steps p.tables e below (T20.setTop (mkF m 75 #[.val (.int p1), .val (.ref b2), .val (.int ((p1 &&& (2147483647 : Int32)) % (8 : Int32))), .val (.ref w_r), .val (.int (own_num w_r w_INTEGER w_DECIMAL w_DOUBLE)), .unset, .unset] [(.int ((p1 &&& (2147483647 : Int32)) % (8 : Int32)))])) _
    refine XS.iconst X20.here hx rfl (hb hby at_75) ?_
    show Steps p.tables e below (T20.setTop (mkF m 76 #[.val (.int p1), .val (.ref b2), .val (.int ((p1 &&& (2147483647 : Int32)) % (8 : Int32))), .val (.ref w_r), .val (.int (own_num w_r w_INTEGER w_DECIMAL w_DOUBLE)), .unset, .unset] [(.int (4 : Int32)), (.int ((p1 &&& (2147483647 : Int32)) % (8 : Int32)))])) _
    refine XS.icmpNo X20.here hx rfl (hb hby at_76) rfl (feq hc76).1 ?_
    show Steps p.tables e below (T20.setTop (mkF m 79 #[.val (.int p1), .val (.ref b2), .val (.int ((p1 &&& (2147483647 : Int32)) % (8 : Int32))), .val (.ref w_r), .val (.int (own_num w_r w_INTEGER w_DECIMAL w_DOUBLE)), .unset, .unset] [])) _
    refine XS.iloadN X20.here hx rfl (hb hby at_79) rfl ?_
    show Steps p.tables e below (T20.setTop (mkF m 80 #[.val (.int p1), .val (.ref b2), .val (.int ((p1 &&& (2147483647 : Int32)) % (8 : Int32))), .val (.ref w_r), .val (.int (own_num w_r w_INTEGER w_DECIMAL w_DOUBLE)), .unset, .unset] [(.int ((p1 &&& (2147483647 : Int32)) % (8 : Int32)))])) _
    refine XS.iconst X20.here hx rfl (hb hby at_80) ?_
    show Steps p.tables e below (T20.setTop (mkF m 81 #[.val (.int p1), .val (.ref b2), .val (.int ((p1 &&& (2147483647 : Int32)) % (8 : Int32))), .val (.ref w_r), .val (.int (own_num w_r w_INTEGER w_DECIMAL w_DOUBLE)), .unset, .unset] [(.int (5 : Int32)), (.int ((p1 &&& (2147483647 : Int32)) % (8 : Int32)))])) _
    refine XS.icmpNo X20.here hx rfl (hb hby at_81) rfl (feq hc81).1 ?_
    show Steps p.tables e below (T20.setTop (mkF m 84 #[.val (.int p1), .val (.ref b2), .val (.int ((p1 &&& (2147483647 : Int32)) % (8 : Int32))), .val (.ref w_r), .val (.int (own_num w_r w_INTEGER w_DECIMAL w_DOUBLE)), .unset, .unset] [])) _
    refine XS.iloadN X20.here hx rfl (hb hby at_84) rfl ?_
    show Steps p.tables e below (T20.setTop (mkF m 85 #[.val (.int p1), .val (.ref b2), .val (.int ((p1 &&& (2147483647 : Int32)) % (8 : Int32))), .val (.ref w_r), .val (.int (own_num w_r w_INTEGER w_DECIMAL w_DOUBLE)), .unset, .unset] [(.int ((p1 &&& (2147483647 : Int32)) % (8 : Int32)))])) _
    refine XS.bipush X20.here hx rfl (hb hby at_85) ?_
    show Steps p.tables e below (T20.setTop (mkF m 87 #[.val (.int p1), .val (.ref b2), .val (.int ((p1 &&& (2147483647 : Int32)) % (8 : Int32))), .val (.ref w_r), .val (.int (own_num w_r w_INTEGER w_DECIMAL w_DOUBLE)), .unset, .unset] [(.int (6 : Int32)), (.int ((p1 &&& (2147483647 : Int32)) % (8 : Int32)))])) _
    refine XS.icmpNo X20.here hx rfl (hb hby at_87) rfl (teq hc87).2 ?_
    show Steps p.tables e below (T20.setTop (mkF m 90 #[.val (.int p1), .val (.ref b2), .val (.int ((p1 &&& (2147483647 : Int32)) % (8 : Int32))), .val (.ref w_r), .val (.int (own_num w_r w_INTEGER w_DECIMAL w_DOUBLE)), .unset, .unset] [])) _
    refine XS.iconst X20.here hx rfl (hb hby at_90) ?_
    show Steps p.tables e below (T20.setTop (mkF m 91 #[.val (.int p1), .val (.ref b2), .val (.int ((p1 &&& (2147483647 : Int32)) % (8 : Int32))), .val (.ref w_r), .val (.int (own_num w_r w_INTEGER w_DECIMAL w_DOUBLE)), .unset, .unset] [(.int (1 : Int32))])) _
    refine XS.goto X20.here hx rfl (pc0 := 91) (pc' := 95) rfl (hb hby at_91) (by decide) (by decide) ?_
    show Steps p.tables e below (T20.setTop (mkF m 95 #[.val (.int p1), .val (.ref b2), .val (.int ((p1 &&& (2147483647 : Int32)) % (8 : Int32))), .val (.ref w_r), .val (.int (own_num w_r w_INTEGER w_DECIMAL w_DOUBLE)), .unset, .unset] [(.int (1 : Int32))])) _
    refine XS.istore X20.here hx rfl (hb hby at_95) rfl (l' := #[.val (.int p1), .val (.ref b2), .val (.int ((p1 &&& (2147483647 : Int32)) % (8 : Int32))), .val (.ref w_r), .val (.int (own_num w_r w_INTEGER w_DECIMAL w_DOUBLE)), .val (.int (1 : Int32)), .unset]) rfl ?_
    show Steps p.tables e below (T20.setTop (mkF m 97 #[.val (.int p1), .val (.ref b2), .val (.int ((p1 &&& (2147483647 : Int32)) % (8 : Int32))), .val (.ref w_r), .val (.int (own_num w_r w_INTEGER w_DECIMAL w_DOUBLE)), .val (.int (1 : Int32)), .unset] [])) _
    refine XS.aloadN X20.here hx rfl (hb hby at_97) rfl rfl ?_
    show Steps p.tables e below (T20.setTop (mkF m 98 #[.val (.int p1), .val (.ref b2), .val (.int ((p1 &&& (2147483647 : Int32)) % (8 : Int32))), .val (.ref w_r), .val (.int (own_num w_r w_INTEGER w_DECIMAL w_DOUBLE)), .val (.int (1 : Int32)), .unset] [(.ref w_r)])) _
    refine st21 _ ?_
    show Steps p.tables e below (T21.setTop (mkF m 101 #[.val (.int p1), .val (.ref b2), .val (.int ((p1 &&& (2147483647 : Int32)) % (8 : Int32))), .val (.ref w_r), .val (.int (own_num w_r w_INTEGER w_DECIMAL w_DOUBLE)), .val (.int (1 : Int32)), .unset] [(.ref w_DECIMAL), (.ref w_r)])) _
    refine st22.trans ?_
    show Steps p.tables e below (T22.setTop (mkF m 104 #[.val (.int p1), .val (.ref b2), .val (.int ((p1 &&& (2147483647 : Int32)) % (8 : Int32))), .val (.ref w_r), .val (.int (own_num w_r w_INTEGER w_DECIMAL w_DOUBLE)), .val (.int (1 : Int32)), .unset] [(.int s1)])) _
    refine XS.ifNo X22.here hx rfl (hb hby at_104) rfl ((if0 _ _).trans (teq hc104).2) ?_
    show Steps p.tables e below (T22.setTop (mkF m 107 #[.val (.int p1), .val (.ref b2), .val (.int ((p1 &&& (2147483647 : Int32)) % (8 : Int32))), .val (.ref w_r), .val (.int (own_num w_r w_INTEGER w_DECIMAL w_DOUBLE)), .val (.int (1 : Int32)), .unset] [])) _
    refine XS.aloadN X22.here hx rfl (hb hby at_107) rfl rfl ?_
    show Steps p.tables e below (T22.setTop (mkF m 108 #[.val (.int p1), .val (.ref b2), .val (.int ((p1 &&& (2147483647 : Int32)) % (8 : Int32))), .val (.ref w_r), .val (.int (own_num w_r w_INTEGER w_DECIMAL w_DOUBLE)), .val (.int (1 : Int32)), .unset] [(.ref w_r)])) _
    refine st23 _ ?_
    show Steps p.tables e below (T23.setTop (mkF m 111 #[.val (.int p1), .val (.ref b2), .val (.int ((p1 &&& (2147483647 : Int32)) % (8 : Int32))), .val (.ref w_r), .val (.int (own_num w_r w_INTEGER w_DECIMAL w_DOUBLE)), .val (.int (1 : Int32)), .unset] [(.ref w_DOUBLE), (.ref w_r)])) _
    refine st24.trans ?_
    show Steps p.tables e below (T24.setTop (mkF m 114 #[.val (.int p1), .val (.ref b2), .val (.int ((p1 &&& (2147483647 : Int32)) % (8 : Int32))), .val (.ref w_r), .val (.int (own_num w_r w_INTEGER w_DECIMAL w_DOUBLE)), .val (.int (1 : Int32)), .unset] [(.int s2)])) _
    refine XS.ifNo X24.here hx rfl (hb hby at_114) rfl ((if0 _ _).trans (feq hc114).1) ?_
    show Steps p.tables e below (T24.setTop (mkF m 117 #[.val (.int p1), .val (.ref b2), .val (.int ((p1 &&& (2147483647 : Int32)) % (8 : Int32))), .val (.ref w_r), .val (.int (own_num w_r w_INTEGER w_DECIMAL w_DOUBLE)), .val (.int (1 : Int32)), .unset] [])) _
    refine XS.iconst X24.here hx rfl (hb hby at_117) ?_
    show Steps p.tables e below (T24.setTop (mkF m 118 #[.val (.int p1), .val (.ref b2), .val (.int ((p1 &&& (2147483647 : Int32)) % (8 : Int32))), .val (.ref w_r), .val (.int (own_num w_r w_INTEGER w_DECIMAL w_DOUBLE)), .val (.int (1 : Int32)), .unset] [(.int (1 : Int32))])) _
    refine XS.goto X24.here hx rfl (pc0 := 118) (pc' := 122) rfl (hb hby at_118) (by decide) (by decide) ?_
    show Steps p.tables e below (T24.setTop (mkF m 122 #[.val (.int p1), .val (.ref b2), .val (.int ((p1 &&& (2147483647 : Int32)) % (8 : Int32))), .val (.ref w_r), .val (.int (own_num w_r w_INTEGER w_DECIMAL w_DOUBLE)), .val (.int (1 : Int32)), .unset] [(.int (1 : Int32))])) _
    refine XS.istore X24.here hx rfl (hb hby at_122) rfl (l' := #[.val (.int p1), .val (.ref b2), .val (.int ((p1 &&& (2147483647 : Int32)) % (8 : Int32))), .val (.ref w_r), .val (.int (own_num w_r w_INTEGER w_DECIMAL w_DOUBLE)), .val (.int (1 : Int32)), .val (.int (1 : Int32))]) rfl ?_
    show Steps p.tables e below (T24.setTop (mkF m 124 #[.val (.int p1), .val (.ref b2), .val (.int ((p1 &&& (2147483647 : Int32)) % (8 : Int32))), .val (.ref w_r), .val (.int (own_num w_r w_INTEGER w_DECIMAL w_DOUBLE)), .val (.int (1 : Int32)), .val (.int (1 : Int32))] [])) _
    refine XS.iload X24.here hx rfl (hb hby at_124) rfl ?_
    show Steps p.tables e below (T24.setTop (mkF m 126 #[.val (.int p1), .val (.ref b2), .val (.int ((p1 &&& (2147483647 : Int32)) % (8 : Int32))), .val (.ref w_r), .val (.int (own_num w_r w_INTEGER w_DECIMAL w_DOUBLE)), .val (.int (1 : Int32)), .val (.int (1 : Int32))] [(.int (own_num w_r w_INTEGER w_DECIMAL w_DOUBLE))])) _
    refine XS.iload X24.here hx rfl (hb hby at_126) rfl ?_
    show Steps p.tables e below (T24.setTop (mkF m 128 #[.val (.int p1), .val (.ref b2), .val (.int ((p1 &&& (2147483647 : Int32)) % (8 : Int32))), .val (.ref w_r), .val (.int (own_num w_r w_INTEGER w_DECIMAL w_DOUBLE)), .val (.int (1 : Int32)), .val (.int (1 : Int32))] [(.int (1 : Int32)), (.int (own_num w_r w_INTEGER w_DECIMAL w_DOUBLE))])) _
    refine XS.icmpNo X24.here hx rfl (hb hby at_128) rfl (teq hc128).2 ?_
    show Steps p.tables e below (T24.setTop (mkF m 131 #[.val (.int p1), .val (.ref b2), .val (.int ((p1 &&& (2147483647 : Int32)) % (8 : Int32))), .val (.ref w_r), .val (.int (own_num w_r w_INTEGER w_DECIMAL w_DOUBLE)), .val (.int (1 : Int32)), .val (.int (1 : Int32))] [])) _
    refine XS.iload X24.here hx rfl (hb hby at_131) rfl ?_
    show Steps p.tables e below (T24.setTop (mkF m 133 #[.val (.int p1), .val (.ref b2), .val (.int ((p1 &&& (2147483647 : Int32)) % (8 : Int32))), .val (.ref w_r), .val (.int (own_num w_r w_INTEGER w_DECIMAL w_DOUBLE)), .val (.int (1 : Int32)), .val (.int (1 : Int32))] [(.int (own_num w_r w_INTEGER w_DECIMAL w_DOUBLE))])) _
    refine XS.iload X24.here hx rfl (hb hby at_133) rfl ?_
    show Steps p.tables e below (T24.setTop (mkF m 135 #[.val (.int p1), .val (.ref b2), .val (.int ((p1 &&& (2147483647 : Int32)) % (8 : Int32))), .val (.ref w_r), .val (.int (own_num w_r w_INTEGER w_DECIMAL w_DOUBLE)), .val (.int (1 : Int32)), .val (.int (1 : Int32))] [(.int (1 : Int32)), (.int (own_num w_r w_INTEGER w_DECIMAL w_DOUBLE))])) _
    refine XS.icmpNo X24.here hx rfl (hb hby at_135) rfl (teq hc135).2 ?_
    show Steps p.tables e below (T24.setTop (mkF m 138 #[.val (.int p1), .val (.ref b2), .val (.int ((p1 &&& (2147483647 : Int32)) % (8 : Int32))), .val (.ref w_r), .val (.int (own_num w_r w_INTEGER w_DECIMAL w_DOUBLE)), .val (.int (1 : Int32)), .val (.int (1 : Int32))] [])) _
    refine XS.iconst X24.here hx rfl (hb hby at_138) ?_
    show Steps p.tables e below (T24.setTop (mkF m 139 #[.val (.int p1), .val (.ref b2), .val (.int ((p1 &&& (2147483647 : Int32)) % (8 : Int32))), .val (.ref w_r), .val (.int (own_num w_r w_INTEGER w_DECIMAL w_DOUBLE)), .val (.int (1 : Int32)), .val (.int (1 : Int32))] [(.int (1 : Int32))])) _
    refine XS.goto X24.here hx rfl (pc0 := 139) (pc' := 143) rfl (hb hby at_139) (by decide) (by decide) ?_
    show Steps p.tables e below (T24.setTop (mkF m 143 #[.val (.int p1), .val (.ref b2), .val (.int ((p1 &&& (2147483647 : Int32)) % (8 : Int32))), .val (.ref w_r), .val (.int (own_num w_r w_INTEGER w_DECIMAL w_DOUBLE)), .val (.int (1 : Int32)), .val (.int (1 : Int32))] [(.int (1 : Int32))])) _
    exact retN X24 hx (t := .boolean) Bd.returns (by simp) (hb hby at_143) hr
  · show QL h0 n0 _ T24.heap _
    rw [e24]
    exact ⟨rfl, N24⟩
theorem rm0 (l : Launch) (Z : State) (a0 : Array Value) (hw : ∀ d ∈ tables_1, d.before a0 Z = true) (ws : List Jvm.Cond) (p1 : Int32) (w_ANY_ATOMIC : Addr) (w_UNTYPED_ATOMIC : Addr) (w_STRING : Addr) (w_BOOLEAN : Addr) (w_DECIMAL : Addr) (w_INTEGER : Addr) (w_DOUBLE : Addr) (w_NUMERIC : Addr) (h0 : Heap) (n0 : Nat) (Z0 : n0 ≤ h0.size) (S_ANY_ATOMIC : Sta Z h0 "com/example/sluice/sluice/xpath/AtomicType" "ANY_ATOMIC" "Lcom/example/sluice/sluice/xpath/AtomicType;" (.ref w_ANY_ATOMIC)) (S_UNTYPED_ATOMIC : Sta Z h0 "com/example/sluice/sluice/xpath/AtomicType" "UNTYPED_ATOMIC" "Lcom/example/sluice/sluice/xpath/AtomicType;" (.ref w_UNTYPED_ATOMIC)) (S_STRING : Sta Z h0 "com/example/sluice/sluice/xpath/AtomicType" "STRING" "Lcom/example/sluice/sluice/xpath/AtomicType;" (.ref w_STRING)) (S_BOOLEAN : Sta Z h0 "com/example/sluice/sluice/xpath/AtomicType" "BOOLEAN" "Lcom/example/sluice/sluice/xpath/AtomicType;" (.ref w_BOOLEAN)) (S_DECIMAL : Sta Z h0 "com/example/sluice/sluice/xpath/AtomicType" "DECIMAL" "Lcom/example/sluice/sluice/xpath/AtomicType;" (.ref w_DECIMAL)) (S_INTEGER : Sta Z h0 "com/example/sluice/sluice/xpath/AtomicType" "INTEGER" "Lcom/example/sluice/sluice/xpath/AtomicType;" (.ref w_INTEGER)) (S_DOUBLE : Sta Z h0 "com/example/sluice/sluice/xpath/AtomicType" "DOUBLE" "Lcom/example/sluice/sluice/xpath/AtomicType;" (.ref w_DOUBLE)) (S_NUMERIC : Sta Z h0 "com/example/sluice/sluice/xpath/AtomicType" "NUMERIC" "Lcom/example/sluice/sluice/xpath/AtomicType;" (.ref w_NUMERIC)) (E_w_ANY_ATOMIC : Exa Z h0 w_ANY_ATOMIC "com/example/sluice/sluice/xpath/AtomicType") (E_w_UNTYPED_ATOMIC : Exa Z h0 w_UNTYPED_ATOMIC "com/example/sluice/sluice/xpath/AtomicType") (E_w_STRING : Exa Z h0 w_STRING "com/example/sluice/sluice/xpath/AtomicType") (E_w_BOOLEAN : Exa Z h0 w_BOOLEAN "com/example/sluice/sluice/xpath/AtomicType") (E_w_DECIMAL : Exa Z h0 w_DECIMAL "com/example/sluice/sluice/xpath/AtomicType") (E_w_INTEGER : Exa Z h0 w_INTEGER "com/example/sluice/sluice/xpath/AtomicType") (E_w_DOUBLE : Exa Z h0 w_DOUBLE "com/example/sluice/sluice/xpath/AtomicType") (E_w_NUMERIC : Exa Z h0 w_NUMERIC "com/example/sluice/sluice/xpath/AtomicType") (F_ANY_ATOMIC : Fld Z h0 w_ANY_ATOMIC "com/example/sluice/sluice/xpath/AtomicType" "base" "Lcom/example/sluice/sluice/xpath/AtomicType;" .null) (F_UNTYPED_ATOMIC : Fld Z h0 w_UNTYPED_ATOMIC "com/example/sluice/sluice/xpath/AtomicType" "base" "Lcom/example/sluice/sluice/xpath/AtomicType;" (.ref w_ANY_ATOMIC)) (F_STRING : Fld Z h0 w_STRING "com/example/sluice/sluice/xpath/AtomicType" "base" "Lcom/example/sluice/sluice/xpath/AtomicType;" (.ref w_ANY_ATOMIC)) (F_BOOLEAN : Fld Z h0 w_BOOLEAN "com/example/sluice/sluice/xpath/AtomicType" "base" "Lcom/example/sluice/sluice/xpath/AtomicType;" (.ref w_ANY_ATOMIC)) (F_DECIMAL : Fld Z h0 w_DECIMAL "com/example/sluice/sluice/xpath/AtomicType" "base" "Lcom/example/sluice/sluice/xpath/AtomicType;" (.ref w_ANY_ATOMIC)) (F_INTEGER : Fld Z h0 w_INTEGER "com/example/sluice/sluice/xpath/AtomicType" "base" "Lcom/example/sluice/sluice/xpath/AtomicType;" (.ref w_DECIMAL)) (F_DOUBLE : Fld Z h0 w_DOUBLE "com/example/sluice/sluice/xpath/AtomicType" "base" "Lcom/example/sluice/sluice/xpath/AtomicType;" (.ref w_ANY_ATOMIC)) (F_NUMERIC : Fld Z h0 w_NUMERIC "com/example/sluice/sluice/xpath/AtomicType" "base" "Lcom/example/sluice/sluice/xpath/AtomicType;" (.ref w_ANY_ATOMIC)) (ne_DECIMAL_NUMERIC : ¬ (w_DECIMAL = w_NUMERIC)) (ne_DOUBLE_NUMERIC : ¬ (w_DOUBLE = w_NUMERIC)) (ne_ANY_ATOMIC_DECIMAL : ¬ (w_ANY_ATOMIC = w_DECIMAL)) (ne_ANY_ATOMIC_DOUBLE : ¬ (w_ANY_ATOMIC = w_DOUBLE)) (ne_ANY_ATOMIC_INTEGER : ¬ (w_ANY_ATOMIC = w_INTEGER)) (ne_UNTYPED_ATOMIC_DECIMAL : ¬ (w_UNTYPED_ATOMIC = w_DECIMAL)) (ne_UNTYPED_ATOMIC_DOUBLE : ¬ (w_UNTYPED_ATOMIC = w_DOUBLE)) (ne_UNTYPED_ATOMIC_INTEGER : ¬ (w_UNTYPED_ATOMIC = w_INTEGER)) (ne_STRING_DECIMAL : ¬ (w_STRING = w_DECIMAL)) (ne_STRING_DOUBLE : ¬ (w_STRING = w_DOUBLE)) (ne_STRING_INTEGER : ¬ (w_STRING = w_INTEGER)) (ne_BOOLEAN_DECIMAL : ¬ (w_BOOLEAN = w_DECIMAL)) (ne_BOOLEAN_DOUBLE : ¬ (w_BOOLEAN = w_DOUBLE)) (ne_BOOLEAN_INTEGER : ¬ (w_BOOLEAN = w_INTEGER)) (ne_DECIMAL_DOUBLE : ¬ (w_DECIMAL = w_DOUBLE)) (ne_DECIMAL_INTEGER : ¬ (w_DECIMAL = w_INTEGER)) (ne_INTEGER_DECIMAL : ¬ (w_INTEGER = w_DECIMAL)) (ne_DOUBLE_DECIMAL : ¬ (w_DOUBLE = w_DECIMAL)) (ne_DOUBLE_INTEGER : ¬ (w_DOUBLE = w_INTEGER)) (ne_NUMERIC_DECIMAL : ¬ (w_NUMERIC = w_DECIMAL)) (ne_NUMERIC_DOUBLE : ¬ (w_NUMERIC = w_DOUBLE)) (ne_NUMERIC_INTEGER : ¬ (w_NUMERIC = w_INTEGER)) :
    MetFree l x (head1 (Jvm.Cond.code x code maxLocals ret :: ws) room_1) (fun a U => a = #[(.int p1)] ∧ Z.Warmed39 U.vm ∧ U.heap = h0) (fun _ _ _ _ _ => True) (fun _ U o U' => ∃ v L, o = .returned v ∧ QL h0 n0 v U'.heap L ∧ FrameEnd U o U' L room_1.cells room_1.slots) := by
  obtain ⟨j, e⟩ := own_fin p1 8 8 (by decide) (by decide)
  match j, e with
  | ⟨0, _⟩, e => replace e := e.trans (show _ = Int32.ofInt ((0 : Nat) : Int) from rfl); exact rm0_fftftff l Z a0 hw ws p1 w_ANY_ATOMIC w_UNTYPED_ATOMIC w_STRING w_BOOLEAN w_DECIMAL w_INTEGER w_DOUBLE w_NUMERIC w_ANY_ATOMIC 0 0 h0 n0 Z0 S_ANY_ATOMIC E_w_ANY_ATOMIC S_UNTYPED_ATOMIC E_w_UNTYPED_ATOMIC S_STRING E_w_STRING S_BOOLEAN E_w_BOOLEAN S_DECIMAL E_w_DECIMAL S_INTEGER E_w_INTEGER S_DOUBLE E_w_DOUBLE S_NUMERIC E_w_NUMERIC (by rw [e]; exact ⟨by decide, by decide⟩) (by rw [e]; rfl) E_w_ANY_ATOMIC ne_DECIMAL_NUMERIC ne_DOUBLE_NUMERIC (Or.inr (Or.inl ⟨ne_ANY_ATOMIC_DECIMAL, F_ANY_ATOMIC, rfl⟩)) (Or.inr (Or.inl ⟨ne_ANY_ATOMIC_DOUBLE, F_ANY_ATOMIC, rfl⟩)) (by rw [e]; decide) (by rw [e]; decide) (by rw [e]; decide) (by decide) (by decide) (by rw [(show own_num w_ANY_ATOMIC w_INTEGER w_DECIMAL w_DOUBLE = 0 from by unfold own_num; rw [if_neg ne_ANY_ATOMIC_INTEGER, if_neg ne_ANY_ATOMIC_DECIMAL, if_neg ne_ANY_ATOMIC_DOUBLE])]) (by rw [(show own_num w_ANY_ATOMIC w_INTEGER w_DECIMAL w_DOUBLE = 0 from by unfold own_num; rw [if_neg ne_ANY_ATOMIC_INTEGER, if_neg ne_ANY_ATOMIC_DECIMAL, if_neg ne_ANY_ATOMIC_DOUBLE])])
  | ⟨1, _⟩, e => replace e := e.trans (show _ = Int32.ofInt ((1 : Nat) : Int) from rfl); exact rm0_fftftff l Z a0 hw ws p1 w_ANY_ATOMIC w_UNTYPED_ATOMIC w_STRING w_BOOLEAN w_DECIMAL w_INTEGER w_DOUBLE w_NUMERIC w_UNTYPED_ATOMIC 0 0 h0 n0 Z0 S_ANY_ATOMIC E_w_ANY_ATOMIC S_UNTYPED_ATOMIC E_w_UNTYPED_ATOMIC S_STRING E_w_STRING S_BOOLEAN E_w_BOOLEAN S_DECIMAL E_w_DECIMAL S_INTEGER E_w_INTEGER S_DOUBLE E_w_DOUBLE S_NUMERIC E_w_NUMERIC (by rw [e]; exact ⟨by decide, by decide⟩) (by rw [e]; rfl) E_w_UNTYPED_ATOMIC ne_DECIMAL_NUMERIC ne_DOUBLE_NUMERIC (Or.inr (Or.inr (Or.inr ⟨_, ne_UNTYPED_ATOMIC_DECIMAL, F_UNTYPED_ATOMIC, ne_ANY_ATOMIC_DECIMAL, F_ANY_ATOMIC, rfl⟩))) (Or.inr (Or.inr (Or.inr ⟨_, ne_UNTYPED_ATOMIC_DOUBLE, F_UNTYPED_ATOMIC, ne_ANY_ATOMIC_DOUBLE, F_ANY_ATOMIC, rfl⟩))) (by rw [e]; decide) (by rw [e]; decide) (by rw [e]; decide) (by decide) (by decide) (by rw [(show own_num w_UNTYPED_ATOMIC w_INTEGER w_DECIMAL w_DOUBLE = 0 from by unfold own_num; rw [if_neg ne_UNTYPED_ATOMIC_INTEGER, if_neg ne_UNTYPED_ATOMIC_DECIMAL, if_neg ne_UNTYPED_ATOMIC_DOUBLE])]) (by rw [(show own_num w_UNTYPED_ATOMIC w_INTEGER w_DECIMAL w_DOUBLE = 0 from by unfold own_num; rw [if_neg ne_UNTYPED_ATOMIC_INTEGER, if_neg ne_UNTYPED_ATOMIC_DECIMAL, if_neg ne_UNTYPED_ATOMIC_DOUBLE])])
  | ⟨2, _⟩, e => replace e := e.trans (show _ = Int32.ofInt ((2 : Nat) : Int) from rfl); exact rm0_fftftff l Z a0 hw ws p1 w_ANY_ATOMIC w_UNTYPED_ATOMIC w_STRING w_BOOLEAN w_DECIMAL w_INTEGER w_DOUBLE w_NUMERIC w_STRING 0 0 h0 n0 Z0 S_ANY_ATOMIC E_w_ANY_ATOMIC S_UNTYPED_ATOMIC E_w_UNTYPED_ATOMIC S_STRING E_w_STRING S_BOOLEAN E_w_BOOLEAN S_DECIMAL E_w_DECIMAL S_INTEGER E_w_INTEGER S_DOUBLE E_w_DOUBLE S_NUMERIC E_w_NUMERIC (by rw [e]; exact ⟨by decide, by decide⟩) (by rw [e]; rfl) E_w_STRING ne_DECIMAL_NUMERIC ne_DOUBLE_NUMERIC (Or.inr (Or.inr (Or.inr ⟨_, ne_STRING_DECIMAL, F_STRING, ne_ANY_ATOMIC_DECIMAL, F_ANY_ATOMIC, rfl⟩))) (Or.inr (Or.inr (Or.inr ⟨_, ne_STRING_DOUBLE, F_STRING, ne_ANY_ATOMIC_DOUBLE, F_ANY_ATOMIC, rfl⟩))) (by rw [e]; decide) (by rw [e]; decide) (by rw [e]; decide) (by decide) (by decide) (by rw [(show own_num w_STRING w_INTEGER w_DECIMAL w_DOUBLE = 0 from by unfold own_num; rw [if_neg ne_STRING_INTEGER, if_neg ne_STRING_DECIMAL, if_neg ne_STRING_DOUBLE])]) (by rw [(show own_num w_STRING w_INTEGER w_DECIMAL w_DOUBLE = 0 from by unfold own_num; rw [if_neg ne_STRING_INTEGER, if_neg ne_STRING_DECIMAL, if_neg ne_STRING_DOUBLE])])
  | ⟨3, _⟩, e => replace e := e.trans (show _ = Int32.ofInt ((3 : Nat) : Int) from rfl); exact rm0_fftftff l Z a0 hw ws p1 w_ANY_ATOMIC w_UNTYPED_ATOMIC w_STRING w_BOOLEAN w_DECIMAL w_INTEGER w_DOUBLE w_NUMERIC w_BOOLEAN 0 0 h0 n0 Z0 S_ANY_ATOMIC E_w_ANY_ATOMIC S_UNTYPED_ATOMIC E_w_UNTYPED_ATOMIC S_STRING E_w_STRING S_BOOLEAN E_w_BOOLEAN S_DECIMAL E_w_DECIMAL S_INTEGER E_w_INTEGER S_DOUBLE E_w_DOUBLE S_NUMERIC E_w_NUMERIC (by rw [e]; exact ⟨by decide, by decide⟩) (by rw [e]; rfl) E_w_BOOLEAN ne_DECIMAL_NUMERIC ne_DOUBLE_NUMERIC (Or.inr (Or.inr (Or.inr ⟨_, ne_BOOLEAN_DECIMAL, F_BOOLEAN, ne_ANY_ATOMIC_DECIMAL, F_ANY_ATOMIC, rfl⟩))) (Or.inr (Or.inr (Or.inr ⟨_, ne_BOOLEAN_DOUBLE, F_BOOLEAN, ne_ANY_ATOMIC_DOUBLE, F_ANY_ATOMIC, rfl⟩))) (by rw [e]; decide) (by rw [e]; decide) (by rw [e]; decide) (by decide) (by decide) (by rw [(show own_num w_BOOLEAN w_INTEGER w_DECIMAL w_DOUBLE = 0 from by unfold own_num; rw [if_neg ne_BOOLEAN_INTEGER, if_neg ne_BOOLEAN_DECIMAL, if_neg ne_BOOLEAN_DOUBLE])]) (by rw [(show own_num w_BOOLEAN w_INTEGER w_DECIMAL w_DOUBLE = 0 from by unfold own_num; rw [if_neg ne_BOOLEAN_INTEGER, if_neg ne_BOOLEAN_DECIMAL, if_neg ne_BOOLEAN_DOUBLE])])
  | ⟨4, _⟩, e => replace e := e.trans (show _ = Int32.ofInt ((4 : Nat) : Int) from rfl); exact rm0_ttff l Z a0 hw ws p1 w_ANY_ATOMIC w_UNTYPED_ATOMIC w_STRING w_BOOLEAN w_DECIMAL w_INTEGER w_DOUBLE w_NUMERIC w_DECIMAL 1 h0 n0 Z0 S_ANY_ATOMIC E_w_ANY_ATOMIC S_UNTYPED_ATOMIC E_w_UNTYPED_ATOMIC S_STRING E_w_STRING S_BOOLEAN E_w_BOOLEAN S_DECIMAL E_w_DECIMAL S_INTEGER E_w_INTEGER S_DOUBLE E_w_DOUBLE S_NUMERIC E_w_NUMERIC (by rw [e]; exact ⟨by decide, by decide⟩) (by rw [e]; rfl) E_w_DECIMAL ne_DECIMAL_NUMERIC (Or.inl ⟨rfl, rfl⟩) (by rw [e]; decide) (by decide) (by rw [(show own_num w_DECIMAL w_INTEGER w_DECIMAL w_DOUBLE = 1 from by unfold own_num; rw [if_neg ne_DECIMAL_INTEGER, if_pos rfl])]) (by rw [(show own_num w_DECIMAL w_INTEGER w_DECIMAL w_DOUBLE = 1 from by unfold own_num; rw [if_neg ne_DECIMAL_INTEGER, if_pos rfl])])
  | ⟨5, _⟩, e => replace e := e.trans (show _ = Int32.ofInt ((5 : Nat) : Int) from rfl); exact rm0_fttff l Z a0 hw ws p1 w_ANY_ATOMIC w_UNTYPED_ATOMIC w_STRING w_BOOLEAN w_DECIMAL w_INTEGER w_DOUBLE w_NUMERIC w_INTEGER 1 h0 n0 Z0 S_ANY_ATOMIC E_w_ANY_ATOMIC S_UNTYPED_ATOMIC E_w_UNTYPED_ATOMIC S_STRING E_w_STRING S_BOOLEAN E_w_BOOLEAN S_DECIMAL E_w_DECIMAL S_INTEGER E_w_INTEGER S_DOUBLE E_w_DOUBLE S_NUMERIC E_w_NUMERIC (by rw [e]; exact ⟨by decide, by decide⟩) (by rw [e]; rfl) E_w_INTEGER ne_DECIMAL_NUMERIC (Or.inr (Or.inr (Or.inl ⟨_, ne_INTEGER_DECIMAL, F_INTEGER, rfl, rfl⟩))) (by rw [e]; decide) (by rw [e]; decide) (by decide) (by rw [(show own_num w_INTEGER w_INTEGER w_DECIMAL w_DOUBLE = 1 from by unfold own_num; rw [if_pos rfl])]) (by rw [(show own_num w_INTEGER w_INTEGER w_DECIMAL w_DOUBLE = 1 from by unfold own_num; rw [if_pos rfl])])
  | ⟨6, _⟩, e => replace e := e.trans (show _ = Int32.ofInt ((6 : Nat) : Int) from rfl); exact rm0_fffffff l Z a0 hw ws p1 w_ANY_ATOMIC w_UNTYPED_ATOMIC w_STRING w_BOOLEAN w_DECIMAL w_INTEGER w_DOUBLE w_NUMERIC w_DOUBLE 0 1 h0 n0 Z0 S_ANY_ATOMIC E_w_ANY_ATOMIC S_UNTYPED_ATOMIC E_w_UNTYPED_ATOMIC S_STRING E_w_STRING S_BOOLEAN E_w_BOOLEAN S_DECIMAL E_w_DECIMAL S_INTEGER E_w_INTEGER S_DOUBLE E_w_DOUBLE S_NUMERIC E_w_NUMERIC (by rw [e]; exact ⟨by decide, by decide⟩) (by rw [e]; rfl) E_w_DOUBLE ne_DECIMAL_NUMERIC ne_DOUBLE_NUMERIC (Or.inr (Or.inr (Or.inr ⟨_, ne_DOUBLE_DECIMAL, F_DOUBLE, ne_ANY_ATOMIC_DECIMAL, F_ANY_ATOMIC, rfl⟩))) (Or.inl ⟨rfl, rfl⟩) (by rw [e]; decide) (by rw [e]; decide) (by rw [e]; decide) (by decide) (by decide) (by rw [(show own_num w_DOUBLE w_INTEGER w_DECIMAL w_DOUBLE = 1 from by unfold own_num; rw [if_neg ne_DOUBLE_INTEGER, if_neg ne_DOUBLE_DECIMAL, if_pos rfl])]) (by rw [(show own_num w_DOUBLE w_INTEGER w_DECIMAL w_DOUBLE = 1 from by unfold own_num; rw [if_neg ne_DOUBLE_INTEGER, if_neg ne_DOUBLE_DECIMAL, if_pos rfl])])
  | ⟨7, _⟩, e => replace e := e.trans (show _ = Int32.ofInt ((7 : Nat) : Int) from rfl); exact rm0_fftftff l Z a0 hw ws p1 w_ANY_ATOMIC w_UNTYPED_ATOMIC w_STRING w_BOOLEAN w_DECIMAL w_INTEGER w_DOUBLE w_NUMERIC w_NUMERIC 0 0 h0 n0 Z0 S_ANY_ATOMIC E_w_ANY_ATOMIC S_UNTYPED_ATOMIC E_w_UNTYPED_ATOMIC S_STRING E_w_STRING S_BOOLEAN E_w_BOOLEAN S_DECIMAL E_w_DECIMAL S_INTEGER E_w_INTEGER S_DOUBLE E_w_DOUBLE S_NUMERIC E_w_NUMERIC (by rw [e]; exact ⟨by decide, by decide⟩) (by rw [e]; rfl) E_w_NUMERIC ne_DECIMAL_NUMERIC ne_DOUBLE_NUMERIC (Or.inr (Or.inr (Or.inr ⟨_, ne_NUMERIC_DECIMAL, F_NUMERIC, ne_ANY_ATOMIC_DECIMAL, F_ANY_ATOMIC, rfl⟩))) (Or.inr (Or.inr (Or.inr ⟨_, ne_NUMERIC_DOUBLE, F_NUMERIC, ne_ANY_ATOMIC_DOUBLE, F_ANY_ATOMIC, rfl⟩))) (by rw [e]; decide) (by rw [e]; decide) (by rw [e]; decide) (by decide) (by decide) (by rw [(show own_num w_NUMERIC w_INTEGER w_DECIMAL w_DOUBLE = 0 from by unfold own_num; rw [if_neg ne_NUMERIC_INTEGER, if_neg ne_NUMERIC_DECIMAL, if_neg ne_NUMERIC_DOUBLE])]) (by rw [(show own_num w_NUMERIC w_INTEGER w_DECIMAL w_DOUBLE = 0 from by unfold own_num; rw [if_neg ne_NUMERIC_INTEGER, if_neg ne_NUMERIC_DECIMAL, if_neg ne_NUMERIC_DOUBLE])])
theorem own_eqref {t u : Term} {args : Array Value} {s : State} {a : Addr} (h : (Cond.eq t u).value args s none s [] = some true) (hu : u.eval args s none [] s = some (.ref a)) : t.eval args s none [] s = some (.ref a) := by
  obtain ⟨x, y, h1, h2, k1, k2⟩ := cmp_v (Or.inl h)
  cases h2.symm.trans hu
  have q : x.isRef = true := k2.2
  have := gotT (eq_R h1 hu q rfl) h
  rw [h1, this]
set_option maxRecDepth 65536 in
set_option maxHeartbeats 40000000 in
theorem comes_1 {Post : Tables → Env → Array Value → State → Outcome → State → Prop} (hpost : ∀ tb e args s v u, (limb_1_1.after args s (.returned v) u = true ∧ limb_1_2.after args s (.returned v) u = true ∧ True) → FrameEnd s (.returned v) u (Jvm.fieldLocs frame_1_writes args s ++ Jvm.arrayLocs frame_1_arrays args s ++ Jvm.staticLocs frame_1_statics s) 16 128 → Post tb e args s (.returned v) u) :
    ArmFor flags0 classFile x code maxLocals ret World_1 tables_1 room_1 Calls_1 rest_1 Pre_1 Post := by
  intro l hfl _ _ p e ha hc hk s m args below hf hA hF happ hP
  obtain ⟨hcalls, hrest, hpre⟩ := hP
  obtain ⟨-, -, -, hnamed, -, -, -, hat⟩ := (Spec.applies_iff hf).mp happ
  obtain ⟨hg, hn⟩ := and_e (Cond.before_iff.mp (show (Jvm.Cond.and given_1 narrow_1).before args s = true from hpre))
  obtain ⟨g23, g24⟩ := and_e hg
  obtain ⟨w0, rfl⟩ : ∃ w0 : Value, args = #[w0] := by
    have hs : args.size = 1 := by simpa [Cond.value, given_1] using g23
    obtain ⟨L⟩ := args
    match L, hs with
    | [w0], _ => exact ⟨w0, rfl⟩
  have hw := fun d (hd : d ∈ tables_1) => atoms_spec (ws := Jvm.Cond.code x code maxLocals ret :: tables_1) hat d (List.mem_cons_of_mem _ hd)
  have hfit : Fit s := fun {y c} hc i hi => by
    obtain ⟨ha, rfl⟩ := Array.getElem?_eq_some_iff.mp hc
    have q := List.all_eq_true.mp ((Array.all_eq_true_iff_forall_mem.mp hF) _ (Array.getElem_mem ha)) i (List.mem_range.mpr hi)
    simpa [Array.getElem?_eq_getElem hi] using q
  obtain ⟨i0, ei0⟩ := is_v g24
  obtain rfl : w0 = (.int i0) := Option.some.inj ei0
  obtain ⟨k0, hn⟩ := and_e hn
  obtain ⟨w_ANY_ATOMIC, ev_ANY_ATOMIC⟩ := exa_v k0
  have E_w_ANY_ATOMIC := Exa.start ev_ANY_ATOMIC k0
  have S_ANY_ATOMIC := Sta.start ev_ANY_ATOMIC (Or.inr ⟨(hw _ (List.mem_of_getElem? (i := 3) rfl)), (hw _ (List.mem_of_getElem? (i := 4) rfl))⟩)
  obtain ⟨k1, hn⟩ := and_e hn
  obtain ⟨w_UNTYPED_ATOMIC, ev_UNTYPED_ATOMIC⟩ := exa_v k1
  have E_w_UNTYPED_ATOMIC := Exa.start ev_UNTYPED_ATOMIC k1
  have S_UNTYPED_ATOMIC := Sta.start ev_UNTYPED_ATOMIC (Or.inr ⟨(hw _ (List.mem_of_getElem? (i := 3) rfl)), (hw _ (List.mem_of_getElem? (i := 7) rfl))⟩)
  obtain ⟨k2, hn⟩ := and_e hn
  obtain ⟨w_STRING, ev_STRING⟩ := exa_v k2
  have E_w_STRING := Exa.start ev_STRING k2
  have S_STRING := Sta.start ev_STRING (Or.inr ⟨(hw _ (List.mem_of_getElem? (i := 3) rfl)), (hw _ (List.mem_of_getElem? (i := 9) rfl))⟩)
  obtain ⟨k3, hn⟩ := and_e hn
  obtain ⟨w_BOOLEAN, ev_BOOLEAN⟩ := exa_v k3
  have E_w_BOOLEAN := Exa.start ev_BOOLEAN k3
  have S_BOOLEAN := Sta.start ev_BOOLEAN (Or.inr ⟨(hw _ (List.mem_of_getElem? (i := 3) rfl)), (hw _ (List.mem_of_getElem? (i := 11) rfl))⟩)
  obtain ⟨k4, hn⟩ := and_e hn
  obtain ⟨w_DECIMAL, ev_DECIMAL⟩ := exa_v k4
  have E_w_DECIMAL := Exa.start ev_DECIMAL k4
  have S_DECIMAL := Sta.start ev_DECIMAL (Or.inr ⟨(hw _ (List.mem_of_getElem? (i := 3) rfl)), (hw _ (List.mem_of_getElem? (i := 13) rfl))⟩)
  obtain ⟨k5, hn⟩ := and_e hn
  obtain ⟨w_INTEGER, ev_INTEGER⟩ := exa_v k5
  have E_w_INTEGER := Exa.start ev_INTEGER k5
  have S_INTEGER := Sta.start ev_INTEGER (Or.inr ⟨(hw _ (List.mem_of_getElem? (i := 3) rfl)), (hw _ (List.mem_of_getElem? (i := 15) rfl))⟩)
  obtain ⟨k6, hn⟩ := and_e hn
  obtain ⟨w_DOUBLE, ev_DOUBLE⟩ := exa_v k6
  have E_w_DOUBLE := Exa.start ev_DOUBLE k6
  have S_DOUBLE := Sta.start ev_DOUBLE (Or.inr ⟨(hw _ (List.mem_of_getElem? (i := 3) rfl)), (hw _ (List.mem_of_getElem? (i := 17) rfl))⟩)
  obtain ⟨k7, hn⟩ := and_e hn
  obtain ⟨w_NUMERIC, ev_NUMERIC⟩ := exa_v k7
  have E_w_NUMERIC := Exa.start ev_NUMERIC k7
  have S_NUMERIC := Sta.start ev_NUMERIC (Or.inr ⟨(hw _ (List.mem_of_getElem? (i := 3) rfl)), (hw _ (List.mem_of_getElem? (i := 19) rfl))⟩)
  obtain ⟨k8, hn⟩ := and_e hn
  have o_ANY_ATOMIC := own_eqint k8
  obtain ⟨k9, hn⟩ := and_e hn
  have o_INTEGER := own_eqint k9
  obtain ⟨k10, hn⟩ := and_e hn
  have o_DECIMAL := own_eqint k10
  obtain ⟨k11, hn⟩ := and_e hn
  have o_DOUBLE := own_eqint k11
  obtain ⟨k12, hn⟩ := and_e hn
  have o_NUMERIC := own_eqint k12
  obtain ⟨k13, hn⟩ := and_e hn
  obtain ⟨k14, hn⟩ := and_e hn
  have o_BOOLEAN := own_eqint k14
  obtain ⟨k15, hn⟩ := and_e hn
  obtain ⟨k16, hn⟩ := and_e hn
  obtain ⟨k17, hn⟩ := and_e hn
  obtain ⟨k18, hn⟩ := and_e hn
  have o_STRING := own_eqint k18
  obtain ⟨k19, hn⟩ := and_e hn
  obtain ⟨k20, hn⟩ := and_e hn
  have o_UNTYPED_ATOMIC := own_eqint k20
  obtain ⟨k21, hn⟩ := and_e hn
  obtain ⟨k22, hn⟩ := and_e hn
  have k23 := hn
  have F_ANY_ATOMIC := Fld.start ((fld_at ev_ANY_ATOMIC).symm.trans (null_v k13))
  have F_BOOLEAN := Fld.start ((fld_at ev_BOOLEAN).symm.trans (own_eqref k15 ev_ANY_ATOMIC))
  have F_DOUBLE := Fld.start ((fld_at ev_DOUBLE).symm.trans (own_eqref k16 ev_ANY_ATOMIC))
  have F_NUMERIC := Fld.start ((fld_at ev_NUMERIC).symm.trans (own_eqref k17 ev_ANY_ATOMIC))
  have F_STRING := Fld.start ((fld_at ev_STRING).symm.trans (own_eqref k19 ev_ANY_ATOMIC))
  have F_UNTYPED_ATOMIC := Fld.start ((fld_at ev_UNTYPED_ATOMIC).symm.trans (own_eqref k21 ev_ANY_ATOMIC))
  have F_INTEGER := Fld.start ((fld_at ev_INTEGER).symm.trans (own_eqref k22 ev_DECIMAL))
  have F_DECIMAL := Fld.start ((fld_at ev_DECIMAL).symm.trans (own_eqref k23 ev_ANY_ATOMIC))
  have ne_DECIMAL_NUMERIC : ¬ (w_DECIMAL = w_NUMERIC) := own_ne ev_DECIMAL ev_NUMERIC o_DECIMAL o_NUMERIC (by decide)
  have ne_DOUBLE_NUMERIC : ¬ (w_DOUBLE = w_NUMERIC) := own_ne ev_DOUBLE ev_NUMERIC o_DOUBLE o_NUMERIC (by decide)
  have ne_ANY_ATOMIC_DECIMAL : ¬ (w_ANY_ATOMIC = w_DECIMAL) := own_ne ev_ANY_ATOMIC ev_DECIMAL o_ANY_ATOMIC o_DECIMAL (by decide)
  have ne_ANY_ATOMIC_DOUBLE : ¬ (w_ANY_ATOMIC = w_DOUBLE) := own_ne ev_ANY_ATOMIC ev_DOUBLE o_ANY_ATOMIC o_DOUBLE (by decide)
  have ne_ANY_ATOMIC_INTEGER : ¬ (w_ANY_ATOMIC = w_INTEGER) := own_ne ev_ANY_ATOMIC ev_INTEGER o_ANY_ATOMIC o_INTEGER (by decide)
  have ne_UNTYPED_ATOMIC_DECIMAL : ¬ (w_UNTYPED_ATOMIC = w_DECIMAL) := own_ne ev_UNTYPED_ATOMIC ev_DECIMAL o_UNTYPED_ATOMIC o_DECIMAL (by decide)
  have ne_UNTYPED_ATOMIC_DOUBLE : ¬ (w_UNTYPED_ATOMIC = w_DOUBLE) := own_ne ev_UNTYPED_ATOMIC ev_DOUBLE o_UNTYPED_ATOMIC o_DOUBLE (by decide)
  have ne_UNTYPED_ATOMIC_INTEGER : ¬ (w_UNTYPED_ATOMIC = w_INTEGER) := own_ne ev_UNTYPED_ATOMIC ev_INTEGER o_UNTYPED_ATOMIC o_INTEGER (by decide)
  have ne_STRING_DECIMAL : ¬ (w_STRING = w_DECIMAL) := own_ne ev_STRING ev_DECIMAL o_STRING o_DECIMAL (by decide)
  have ne_STRING_DOUBLE : ¬ (w_STRING = w_DOUBLE) := own_ne ev_STRING ev_DOUBLE o_STRING o_DOUBLE (by decide)
  have ne_STRING_INTEGER : ¬ (w_STRING = w_INTEGER) := own_ne ev_STRING ev_INTEGER o_STRING o_INTEGER (by decide)
  have ne_BOOLEAN_DECIMAL : ¬ (w_BOOLEAN = w_DECIMAL) := own_ne ev_BOOLEAN ev_DECIMAL o_BOOLEAN o_DECIMAL (by decide)
  have ne_BOOLEAN_DOUBLE : ¬ (w_BOOLEAN = w_DOUBLE) := own_ne ev_BOOLEAN ev_DOUBLE o_BOOLEAN o_DOUBLE (by decide)
  have ne_BOOLEAN_INTEGER : ¬ (w_BOOLEAN = w_INTEGER) := own_ne ev_BOOLEAN ev_INTEGER o_BOOLEAN o_INTEGER (by decide)
  have ne_DECIMAL_DOUBLE : ¬ (w_DECIMAL = w_DOUBLE) := own_ne ev_DECIMAL ev_DOUBLE o_DECIMAL o_DOUBLE (by decide)
  have ne_DECIMAL_INTEGER : ¬ (w_DECIMAL = w_INTEGER) := own_ne ev_DECIMAL ev_INTEGER o_DECIMAL o_INTEGER (by decide)
  have ne_INTEGER_DECIMAL : ¬ (w_INTEGER = w_DECIMAL) := own_ne ev_INTEGER ev_DECIMAL o_INTEGER o_DECIMAL (by decide)
  have ne_DOUBLE_DECIMAL : ¬ (w_DOUBLE = w_DECIMAL) := own_ne ev_DOUBLE ev_DECIMAL o_DOUBLE o_DECIMAL (by decide)
  have ne_DOUBLE_INTEGER : ¬ (w_DOUBLE = w_INTEGER) := own_ne ev_DOUBLE ev_INTEGER o_DOUBLE o_INTEGER (by decide)
  have ne_NUMERIC_DECIMAL : ¬ (w_NUMERIC = w_DECIMAL) := own_ne ev_NUMERIC ev_DECIMAL o_NUMERIC o_DECIMAL (by decide)
  have ne_NUMERIC_DOUBLE : ¬ (w_NUMERIC = w_DOUBLE) := own_ne ev_NUMERIC ev_DOUBLE o_NUMERIC o_DOUBLE (by decide)
  have ne_NUMERIC_INTEGER : ¬ (w_NUMERIC = w_INTEGER) := own_ne ev_NUMERIC ev_INTEGER o_NUMERIC o_INTEGER (by decide)
  obtain ⟨n, o, h1, h2, h3, _, L, rfl, ⟨rfl, N⟩, hq⟩ := rm0 l s _ hw tables_1 i0 w_ANY_ATOMIC w_UNTYPED_ATOMIC w_STRING w_BOOLEAN w_DECIMAL w_INTEGER w_DOUBLE w_NUMERIC s.heap s.heap.size (Nat.le_refl _) S_ANY_ATOMIC S_UNTYPED_ATOMIC S_STRING S_BOOLEAN S_DECIMAL S_INTEGER S_DOUBLE S_NUMERIC E_w_ANY_ATOMIC E_w_UNTYPED_ATOMIC E_w_STRING E_w_BOOLEAN E_w_DECIMAL E_w_INTEGER E_w_DOUBLE E_w_NUMERIC F_ANY_ATOMIC F_UNTYPED_ATOMIC F_STRING F_BOOLEAN F_DECIMAL F_INTEGER F_DOUBLE F_NUMERIC ne_DECIMAL_NUMERIC ne_DOUBLE_NUMERIC ne_ANY_ATOMIC_DECIMAL ne_ANY_ATOMIC_DOUBLE ne_ANY_ATOMIC_INTEGER ne_UNTYPED_ATOMIC_DECIMAL ne_UNTYPED_ATOMIC_DOUBLE ne_UNTYPED_ATOMIC_INTEGER ne_STRING_DECIMAL ne_STRING_DOUBLE ne_STRING_INTEGER ne_BOOLEAN_DECIMAL ne_BOOLEAN_DOUBLE ne_BOOLEAN_INTEGER ne_DECIMAL_DOUBLE ne_DECIMAL_INTEGER ne_INTEGER_DECIMAL ne_DOUBLE_DECIMAL ne_DOUBLE_INTEGER ne_NUMERIC_DECIMAL ne_NUMERIC_DOUBLE ne_NUMERIC_INTEGER p e ha hc hk s m _ below hf ((Spec.applies_iff_loose hf).mp happ).1 ⟨rfl, State.Warmed39.refl s, rfl⟩ trivial
  refine ⟨n, _, h1, h2, h3, hpost _ _ _ _ _ _ ⟨Cond.after_iff.mpr rfl, Cond.after_iff.mpr (eq_i res_at (Term.int_eval (1)) rfl), trivial⟩ ⟨hq.1, hq.2.1, (hq.2.2.sift fun y hy => Or.inr (N y hy)).mono (by decide) (by decide)⟩⟩
theorem main_1_1 : Claimed_1_1 := comes_1 fun _ _ _ _ _ _ h hF => ⟨h.1, hF⟩
theorem main_1_2 : Claimed_1_2 := comes_1 fun _ _ _ _ _ _ h hF => ⟨h.2.1, hF⟩
end Jvm.Pilot.@@N@@
namespace Jvm.Pilot.@@N@@
open Jvm Jvm.ClassFile Sem Op Lib Jvm.Free Jvm.Stand Jvm.Pilot.@@N@@.Jvm.D
/-! MADE BY PROGRAM (witnessworld.py) out of the Statement's table words and the real class files: 13 classes; the members and pool entries that the words name. The judged class is class 1, her method 1. -/
namespace start1
open Jvm.ClassFile
def u (s : String) : CpInfo := .utf8 (stringToUtf16 s)
/-- a pool by its gaps: so many unusable entries, then the entry; so many at the end -/
def gap : Nat → List CpInfo → List CpInfo
  | 0, r => r
  | n + 1, r => .unusable :: gap n r
def poolList (es : List (Nat × CpInfo)) (last : Nat) : List CpInfo := es.foldr (fun e r => gap e.1 (e.2 :: r)) (gap last [])
def pool (es : List (Nat × CpInfo)) (last : Nat) : Array CpInfo := ⟨poolList es last⟩
def fileOf (pool : Array CpInfo) (this : Nat) (attrs : Array Attribute := #[]) (ms : Array MethodInfo := #[]) (fl : Nat := 33) (sup : Nat := 0) (ifs : Array Nat := #[]) (fds : Array FieldInfo := #[]) : ClassFile where
  minorVersion := 0
  majorVersion := 65
  constantPool := pool
  accessFlags := fl
  thisClass := this
  superClass := sup
  interfaces := ifs
  fields := fds
  methods := ms
  attributes := attrs
def plain (name : String) (sup : Option ClassId) : Class where
  name := name
  kind := .ordinary
  loader := none
  accessFlags := 33
  super := sup
  interfaces := #[]
  cf := none
  fields := #[]
  methods := #[]
  instanceTypes := #[]
  staticTypes := #[]
  resolved := #[]
  callSites := []
  init := .initialized
  statics := none
  mirror := none

def pool0 : Array CpInfo := pool [(5, u "<init>"), (0, u "()V"), (1, .class_ 10), (1, u "java/lang/Object")] 113

def k0m0 : Method := { name := "<init>", desc := "()V", sig := { parameters := [], returnType := none }, accessFlags := 1, code := none }
/-- java/lang/Object -/
def k0 : Class := { plain "java/lang/Object" none with
  accessFlags := 33
  interfaces := #[]
  cf := some (fileOf pool0 8 #[] #[{ accessFlags := 1, nameIndex := 5, descriptorIndex := 6, attributes := #[] }] 33 0 #[] #[])
  fields := #[]
  methods := #[k0m0]
  instanceTypes := #[]
  staticTypes := #[]
  resolved := Array.replicate 124 none
  statics := none }

def pool1 : Array CpInfo := pool [(2, .class_ 4), (1, u "java/lang/Object"), (0, u "<init>"), (0, u "()V"), (0, .class_ 8), (0, u "com/example/sluice/sluice/xpath/AtomicType"), (0, .fieldref 7 10), (0, .nameAndType 11 12), (0, u "ANY_ATOMIC"), (0, u "Lcom/example/sluice/sluice/xpath/AtomicType;"), (0, .fieldref 7 14), (0, .nameAndType 15 12), (0, u "UNTYPED_ATOMIC"), (0, .fieldref 7 17), (0, .nameAndType 18 12), (0, u "STRING"), (0, .fieldref 7 20), (0, .nameAndType 21 12), (0, u "BOOLEAN"), (0, .fieldref 7 23), (0, .nameAndType 24 12), (0, u "DECIMAL"), (0, .fieldref 7 26), (0, .nameAndType 27 12), (0, u "INTEGER"), (0, .fieldref 7 29), (0, .nameAndType 30 12), (0, u "DOUBLE"), (0, .fieldref 7 32), (0, .nameAndType 33 12), (0, u "NUMERIC"), (0, .integer 2147483647), (0, .methodref 7 36), (0, .nameAndType 37 38), (0, u "isNumeric"), (0, u "()Z"), (0, .methodref 7 40), (0, .nameAndType 41 42), (0, u "isSubtypeOf"), (0, u "(Lcom/example/sluice/sluice/xpath/AtomicType;)Z"), (0, .class_ 44), (0, u "com/example/sluice/sluice/xpath/AtomicTypeIsNumericPinLaw"), (2, u "law"), (0, u "(I)Z")] 5

def k1m0 : Method := { name := "<init>", desc := "()V", sig := { parameters := [], returnType := none }, accessFlags := 1, code := none }
def k1c1 : Code := { maxStack := 4, maxLocals := 7, code := code, exceptionTable := #[], attributes := #[] }
def k1m1 : Method := { name := "law", desc := "(I)Z", sig := { parameters := [.int], returnType := some .boolean }, accessFlags := 9, code := some k1c1 }
/-- com/example/sluice/sluice/xpath/AtomicTypeIsNumericPinLaw -/
def k1 : Class := { plain "com/example/sluice/sluice/xpath/AtomicTypeIsNumericPinLaw" (some 0) with
  accessFlags := 49
  interfaces := #[]
  cf := some (fileOf pool1 43 #[] #[{ accessFlags := 1, nameIndex := 5, descriptorIndex := 6, attributes := #[] }, { accessFlags := 9, nameIndex := 47, descriptorIndex := 48, attributes := #[] }] 49 2 #[] #[])
  fields := #[]
  methods := #[k1m0, k1m1]
  instanceTypes := #[]
  staticTypes := #[]
  resolved := Array.replicate 54 none
  statics := none }

def pool2 : Array CpInfo := pool [(1, .class_ 2), (0, u "java/lang/constant/Constable"), (0, .class_ 4), (0, u "java/lang/Object")] 6

/-- java/lang/constant/Constable -/
def k2 : Class := { plain "java/lang/constant/Constable" (some 0) with
  accessFlags := 1537
  interfaces := #[]
  cf := some (fileOf pool2 1 #[] #[] 1537 3 #[] #[])
  fields := #[]
  methods := #[]
  instanceTypes := #[]
  staticTypes := #[]
  resolved := Array.replicate 11 none
  statics := none }

def pool3 : Array CpInfo := pool [(1, .class_ 2), (0, u "java/lang/Comparable"), (0, .class_ 4), (0, u "java/lang/Object")] 7

/-- java/lang/Comparable -/
def k3 : Class := { plain "java/lang/Comparable" (some 0) with
  accessFlags := 1537
  interfaces := #[]
  cf := some (fileOf pool3 1 #[] #[] 1537 3 #[] #[])
  fields := #[]
  methods := #[]
  instanceTypes := #[]
  staticTypes := #[]
  resolved := Array.replicate 12 none
  statics := none }

def pool4 : Array CpInfo := pool [(1, .class_ 2), (0, u "java/io/Serializable"), (0, .class_ 4), (0, u "java/lang/Object")] 2

/-- java/io/Serializable -/
def k4 : Class := { plain "java/io/Serializable" (some 0) with
  accessFlags := 1537
  interfaces := #[]
  cf := some (fileOf pool4 1 #[] #[] 1537 3 #[] #[])
  fields := #[]
  methods := #[]
  instanceTypes := #[]
  staticTypes := #[]
  resolved := Array.replicate 7 none
  statics := none }

def pool5 : Array CpInfo := pool [(2, .class_ 4), (1, u "java/lang/Enum"), (0, u "name"), (0, u "Ljava/lang/String;"), (2, u "ordinal"), (0, u "I"), (1, .class_ 14), (1, u "java/lang/Object"), (4, u "hash"), (86, .class_ 108), (1, u "java/lang/Enum$EnumDesc"), (2, .class_ 112), (0, u "java/lang/constant/Constable"), (0, .class_ 114), (0, u "java/lang/Comparable"), (0, .class_ 116), (0, u "java/io/Serializable")] 87

/-- java/lang/Enum -/
def k5 : Class := { plain "java/lang/Enum" (some 0) with
  accessFlags := 1057
  interfaces := #[2, 3, 4]
  cf := some (fileOf pool5 2 #[.nestMembers #[106]] #[] 1057 12 #[111, 113, 115] #[{ accessFlags := 18, nameIndex := 5, descriptorIndex := 6, attributes := #[] }, { accessFlags := 18, nameIndex := 9, descriptorIndex := 10, attributes := #[] }, { accessFlags := 2, nameIndex := 19, descriptorIndex := 10, attributes := #[] }])
  fields := #[{ name := "name", type := (.object "java/lang/String"), accessFlags := 18, slot := 0, constantValue := 0 }, { name := "ordinal", type := .int, accessFlags := 18, slot := 1, constantValue := 0 }, { name := "hash", type := .int, accessFlags := 2, slot := 2, constantValue := 0 }]
  methods := #[]
  instanceTypes := #[(.object "java/lang/String"), .int, .int]
  staticTypes := #[]
  resolved := Array.replicate 204 none
  statics := none }

def pool6 : Array CpInfo := pool [(3, .class_ 4), (0, u "com/example/sluice/sluice/xpath/AtomicType"), (2, u "ANY_ATOMIC"), (0, u "Lcom/example/sluice/sluice/xpath/AtomicType;"), (2, u "UNTYPED_ATOMIC"), (2, u "STRING"), (2, u "BOOLEAN"), (0, .fieldref 3 19), (0, .nameAndType 20 8), (0, u "DECIMAL"), (0, .fieldref 3 22), (0, .nameAndType 23 8), (0, u "INTEGER"), (0, .fieldref 3 25), (0, .nameAndType 26 8), (0, u "DOUBLE"), (0, .fieldref 3 28), (0, .nameAndType 29 8), (0, u "NUMERIC"), (2, u "$VALUES"), (0, u "[Lcom/example/sluice/sluice/xpath/AtomicType;"), (6, .class_ 42), (1, u "java/lang/Enum"), (8, u "localName"), (0, u "Ljava/lang/String;"), (0, .fieldref 3 54), (0, .nameAndType 55 8), (0, u "base"), (27, u "OTHER_ATOMIC_TYPES"), (0, u "Ljava/util/Set;"), (7, u "isNumeric"), (0, u "()Z"), (112, u "XS"), (14, u "isSubtypeOf"), (0, u "(Lcom/example/sluice/sluice/xpath/AtomicType;)Z")] 20

def k6c0 : Code := { maxStack := 2, maxLocals := 1, code := prog_59_method_7_code, exceptionTable := #[], attributes := #[] }
def k6m0 : Method := { name := "isNumeric", desc := "()Z", sig := { parameters := [], returnType := some .boolean }, accessFlags := 0, code := some k6c0 }
def k6c1 : Code := { maxStack := 2, maxLocals := 3, code := prog_59_method_8_code, exceptionTable := #[], attributes := #[] }
def k6m1 : Method := { name := "isSubtypeOf", desc := "(Lcom/example/sluice/sluice/xpath/AtomicType;)Z", sig := { parameters := [(.object "com/example/sluice/sluice/xpath/AtomicType")], returnType := some .boolean }, accessFlags := 0, code := some k6c1 }
/-- com/example/sluice/sluice/xpath/AtomicType -/
def k6 : Class := { plain "com/example/sluice/sluice/xpath/AtomicType" (some 5) with
  accessFlags := 16433
  interfaces := #[]
  cf := some (fileOf pool6 3 #[] #[{ accessFlags := 0, nameIndex := 92, descriptorIndex := 93, attributes := #[] }, { accessFlags := 0, nameIndex := 221, descriptorIndex := 222, attributes := #[] }] 16433 40 #[] #[{ accessFlags := 16409, nameIndex := 7, descriptorIndex := 8, attributes := #[] }, { accessFlags := 16409, nameIndex := 11, descriptorIndex := 8, attributes := #[] }, { accessFlags := 16409, nameIndex := 14, descriptorIndex := 8, attributes := #[] }, { accessFlags := 16409, nameIndex := 17, descriptorIndex := 8, attributes := #[] }, { accessFlags := 16409, nameIndex := 20, descriptorIndex := 8, attributes := #[] }, { accessFlags := 16409, nameIndex := 23, descriptorIndex := 8, attributes := #[] }, { accessFlags := 16409, nameIndex := 26, descriptorIndex := 8, attributes := #[] }, { accessFlags := 16409, nameIndex := 29, descriptorIndex := 8, attributes := #[] }, { accessFlags := 24, nameIndex := 206, descriptorIndex := 52, attributes := #[] }, { accessFlags := 26, nameIndex := 83, descriptorIndex := 84, attributes := #[] }, { accessFlags := 18, nameIndex := 51, descriptorIndex := 52, attributes := #[] }, { accessFlags := 18, nameIndex := 55, descriptorIndex := 8, attributes := #[] }, { accessFlags := 4122, nameIndex := 32, descriptorIndex := 33, attributes := #[] }])
  fields := #[{ name := "ANY_ATOMIC", type := (.object "com/example/sluice/sluice/xpath/AtomicType"), accessFlags := 16409, slot := 0, constantValue := 0 }, { name := "UNTYPED_ATOMIC", type := (.object "com/example/sluice/sluice/xpath/AtomicType"), accessFlags := 16409, slot := 1, constantValue := 0 }, { name := "STRING", type := (.object "com/example/sluice/sluice/xpath/AtomicType"), accessFlags := 16409, slot := 2, constantValue := 0 }, { name := "BOOLEAN", type := (.object "com/example/sluice/sluice/xpath/AtomicType"), accessFlags := 16409, slot := 3, constantValue := 0 }, { name := "DECIMAL", type := (.object "com/example/sluice/sluice/xpath/AtomicType"), accessFlags := 16409, slot := 4, constantValue := 0 }, { name := "INTEGER", type := (.object "com/example/sluice/sluice/xpath/AtomicType"), accessFlags := 16409, slot := 5, constantValue := 0 }, { name := "DOUBLE", type := (.object "com/example/sluice/sluice/xpath/AtomicType"), accessFlags := 16409, slot := 6, constantValue := 0 }, { name := "NUMERIC", type := (.object "com/example/sluice/sluice/xpath/AtomicType"), accessFlags := 16409, slot := 7, constantValue := 0 }, { name := "XS", type := (.object "java/lang/String"), accessFlags := 24, slot := 8, constantValue := 0 }, { name := "OTHER_ATOMIC_TYPES", type := (.object "java/util/Set"), accessFlags := 26, slot := 9, constantValue := 0 }, { name := "localName", type := (.object "java/lang/String"), accessFlags := 18, slot := 3, constantValue := 0 }, { name := "base", type := (.object "com/example/sluice/sluice/xpath/AtomicType"), accessFlags := 18, slot := 4, constantValue := 0 }, { name := "$VALUES", type := (.array (.object "com/example/sluice/sluice/xpath/AtomicType")), accessFlags := 4122, slot := 10, constantValue := 0 }]
  methods := #[k6m0, k6m1]
  instanceTypes := #[(.object "java/lang/String"), .int, .int, (.object "java/lang/String"), (.object "com/example/sluice/sluice/xpath/AtomicType")]
  staticTypes := #[(.object "com/example/sluice/sluice/xpath/AtomicType"), (.object "com/example/sluice/sluice/xpath/AtomicType"), (.object "com/example/sluice/sluice/xpath/AtomicType"), (.object "com/example/sluice/sluice/xpath/AtomicType"), (.object "com/example/sluice/sluice/xpath/AtomicType"), (.object "com/example/sluice/sluice/xpath/AtomicType"), (.object "com/example/sluice/sluice/xpath/AtomicType"), (.object "com/example/sluice/sluice/xpath/AtomicType"), (.object "java/lang/String"), (.object "java/util/Set"), (.array (.object "com/example/sluice/sluice/xpath/AtomicType"))]
  resolved := Array.replicate 243 none
  statics := some 0 }

def pool7 : Array CpInfo := pool [(1, u "java/lang/Cloneable"), (0, .class_ 1), (0, u "java/lang/Object"), (0, .class_ 3)] 3

/-- java/lang/Cloneable -/
def k7 : Class := { plain "java/lang/Cloneable" (some 0) with
  accessFlags := 1537
  interfaces := #[]
  cf := some (fileOf pool7 2 #[] #[] 1537 4 #[] #[])
  fields := #[]
  methods := #[]
  instanceTypes := #[]
  staticTypes := #[]
  resolved := Array.replicate 8 none
  statics := none }

/-- the primitive byte -/
def k8 : Class := { plain "byte" none with kind := .primitive 'B', accessFlags := 0x411 }
/-- [B -/
def k9 : Class := { plain "[B" (some 0) with kind := .array 8 .byte, interfaces := #[7, 4], accessFlags := 1041 }

/-- the primitive int -/
def k10 : Class := { plain "int" none with kind := .primitive 'I', accessFlags := 0x411 }
/-- [I -/
def k11 : Class := { plain "[I" (some 0) with kind := .array 10 .int, interfaces := #[7, 4], accessFlags := 1041 }

/-- [Lcom/example/sluice/sluice/xpath/AtomicType; -/
def k12 : Class := { plain "[Lcom/example/sluice/sluice/xpath/AtomicType;" (some 0) with kind := .array 6 (.object "com/example/sluice/sluice/xpath/AtomicType"), interfaces := #[7, 4], accessFlags := 1041 }

def heap : Heap := #[{ cls := 6, slots := #[.ref 1, .ref 2, .ref 3, .ref 4, .ref 5, .ref 6, .ref 7, .ref 8, .null, .null, .null], vm := .statics 6 },
  { cls := 6, slots := #[.null, .int 0, .int 0, .null, .null], vm := .none },
  { cls := 6, slots := #[.null, .int 1, .int 0, .null, .ref 1], vm := .none },
  { cls := 6, slots := #[.null, .int 2, .int 0, .null, .ref 1], vm := .none },
  { cls := 6, slots := #[.null, .int 3, .int 0, .null, .ref 1], vm := .none },
  { cls := 6, slots := #[.null, .int 4, .int 0, .null, .ref 1], vm := .none },
  { cls := 6, slots := #[.null, .int 5, .int 0, .null, .ref 5], vm := .none },
  { cls := 6, slots := #[.null, .int 6, .int 0, .null, .ref 1], vm := .none },
  { cls := 6, slots := #[.null, .int 7, .int 0, .null, .ref 1], vm := .none }]
def classes : Array Class := #[k0, k1, k2, k3, k4, k5, k6, k7, k8, k9, k10, k11, k12]
def interned : List (Array UInt16 × Addr) := []
def slotsUsed : Nat := 51
def theMethod : MethodId := ⟨1, 1⟩
def args0 : Array Value := #[.int 5]
def aboutOver (below : List Frame) : State where
  vm := { classes := classes, interned := interned.toArray }
  heap := heap
  slotsUsed := slotsUsed
  threads := #[{ frames := .invoking theMethod args0 :: below }]
def below0 : List Frame := [.native { method := ⟨0, 0⟩, args := #[] }]
def about1 : State := aboutOver below0
def p0 : Program := .bare "" "" ""
def e0 : Env := launch0.env 0 0 0
theorem w_frames : about1.frames = Frame.invoking theMethod args0 :: below0 := rfl
set_option maxRecDepth 65536 in
theorem w_args : argsFit about1.vm theMethod args0 = true := by decide +kernel
set_option maxRecDepth 65536 in
theorem w_heap : heapFits about1 = true := by decide +kernel
set_option maxRecDepth 65536 in
theorem w_runnable : about1.curStatus? = some .runnable := by decide +kernel
set_option maxRecDepth 65536 in
theorem w_alone : about1.alone = true := by decide +kernel
set_option maxRecDepth 65536 in
theorem w_named : about1.methodNamed? x = some theMethod := by decide +kernel
set_option maxRecDepth 65536 in
theorem w_hears : about1.hears theMethod below0 = true := by decide +kernel
set_option maxRecDepth 65536 in
theorem w_ripe : about1.ripe theMethod args0 below0 = true := by decide +kernel
theorem w_running : about1.status = .running := rfl
set_option maxRecDepth 65536 in
theorem w_room : about1.hasRoom e0.platform room_1 = true :=
  launch0.hasRoom_least _ room_1 (by decide +kernel) (by decide +kernel) (by decide +kernel) (by decide +kernel) (by decide +kernel) (by decide +kernel)
theorem allAtoms_all (ts : List Jvm.Cond) (a : Array Jvm.Value) (st : Jvm.State) : (allAtoms ts).before a st = ts.all (fun c => c.before a st) := by
  induction ts with
  | nil => rfl
  | cons c t ih =>
    show (Jvm.Cond.and c (allAtoms t)).before a st = _
    rw [Jvm.Cond.before_and, ih, List.all_cons]
def words1 : List Jvm.Cond := Jvm.Cond.code x code maxLocals ret :: tables_1
/-- a 'code' word, met by the world's own term for the bytes: nothing is compared byte by byte -/
theorem code_word {y : MethodName} {bytes : ByteArray} {mx : Nat} {rt : Option FieldType} {a : Array Value} {s : State} {m : MethodId} {meth : Method} {c : Code} (h1 : s.methodNamed? y = some m) (h2 : s.vm.method? m = some meth) (h3 : meth.code = some c) (h4 : c.code = bytes)
    (h5 : (c.maxLocals == mx && c.exceptionTable.isEmpty && decide (c.maxStack ≤ mostOperands) && decide (meth.sig.returnType = rt) && !meth.locks && decide (parseMethodDescriptor y.desc = some meth.sig)) = true) : (Jvm.Cond.code y bytes mx rt).before a s = true := by
  simp only [Bool.and_eq_true, beq_iff_eq, Bool.not_eq_true', decide_eq_true_eq] at h5
  obtain ⟨⟨⟨⟨⟨g1, g2⟩, g3⟩, g4⟩, g5⟩, g6⟩ := h5
  simp [Cond.before, Cond.holds, Cond.value, h1, h2, h3, h4, g1, g2, g3, g4, g5, g6]
def isCode : Jvm.Cond → Bool
  | .code _ _ _ _ => true
  | _ => false
theorem all_split {L : List Jvm.Cond} {P : Jvm.Cond → Bool} (h1 : L.all (fun c => isCode c || P c) = true) (h2 : ∀ c ∈ L.filter isCode, P c = true) : L.all P = true := by
  refine List.all_eq_true.mpr fun c hc => ?_
  have h := List.all_eq_true.mp h1 c hc
  rcases Bool.eq_false_or_eq_true (isCode c) with hi | hi
  · exact h2 c (List.mem_filter.mpr ⟨hc, hi⟩)
  · simpa [hi] using h
set_option maxRecDepth 65536 in
theorem w_c0 : (Jvm.Cond.code x code maxLocals ret).before args0 about1 = true := code_word (m := ⟨1, 1⟩) (meth := k1m1) (c := k1c1) (by decide +kernel) rfl rfl rfl (by decide +kernel)
set_option maxRecDepth 65536 in
theorem w_c1 : (Jvm.Cond.code ({ cls := "com/example/sluice/sluice/xpath/AtomicType", name := "isNumeric", desc := "()Z" } : Jvm.MethodName) prog_59_method_7_code (1 : Nat) (Option.some Jvm.ClassFile.FieldType.boolean)).before args0 about1 = true := code_word (m := ⟨6, 0⟩) (meth := k6m0) (c := k6c0) (by decide +kernel) rfl rfl rfl (by decide +kernel)
set_option maxRecDepth 65536 in
theorem w_c2 : (Jvm.Cond.code ({ cls := "com/example/sluice/sluice/xpath/AtomicType", name := "isSubtypeOf", desc := "(Lcom/example/sluice/sluice/xpath/AtomicType;)Z" } : Jvm.MethodName) prog_59_method_8_code (3 : Nat) (Option.some Jvm.ClassFile.FieldType.boolean)).before args0 about1 = true := code_word (m := ⟨6, 1⟩) (meth := k6m1) (c := k6c1) (by decide +kernel) rfl rfl rfl (by decide +kernel)
def codes1 : List Jvm.Cond := [Jvm.Cond.code x code maxLocals ret, Jvm.Cond.code ({ cls := "com/example/sluice/sluice/xpath/AtomicType", name := "isNumeric", desc := "()Z" } : Jvm.MethodName) prog_59_method_7_code (1 : Nat) (Option.some Jvm.ClassFile.FieldType.boolean), Jvm.Cond.code ({ cls := "com/example/sluice/sluice/xpath/AtomicType", name := "isSubtypeOf", desc := "(Lcom/example/sluice/sluice/xpath/AtomicType;)Z" } : Jvm.MethodName) prog_59_method_8_code (3 : Nat) (Option.some Jvm.ClassFile.FieldType.boolean)]
set_option maxRecDepth 65536 in
theorem codes_eq : words1.filter isCode = codes1 := rfl
theorem w_codes : ∀ c ∈ words1.filter isCode, c.before args0 about1 = true := by
  rw [codes_eq]
  intro c hc
  simp only [codes1, List.mem_cons, List.not_mem_nil, or_false] at hc
  rcases hc with rfl | rfl | rfl
  · exact w_c0
  · exact w_c1
  · exact w_c2
set_option maxRecDepth 65536 in
theorem w_t1 : (words1.take 24).all (fun c => isCode c || c.before args0 about1) = true := by decide +kernel
set_option maxRecDepth 65536 in
theorem w_t2 : (words1.drop 24).all (fun c => isCode c || c.before args0 about1) = true := by decide +kernel
theorem w_tables : (allAtoms (Jvm.Cond.code x code maxLocals ret :: tables_1)).before args0 about1 = true := by
  rw [allAtoms_all]
  show words1.all (fun c => c.before args0 about1) = true
  refine all_split ?_ w_codes
  rw [← List.take_append_drop 24 words1, List.all_append, w_t1, w_t2]
  rfl
set_option maxRecDepth 65536 in
theorem w_case : (Jvm.Cond.and given_1 narrow_1).before args0 about1 = true := by decide +kernel
theorem w_applies : (headSpec (Jvm.Cond.code x code maxLocals ret :: tables_1) room_1).applies x e0.platform about1 = true :=
  (Spec.applies_iff w_frames).mpr ⟨w_running, w_runnable, w_alone, w_named, w_hears, w_ripe, w_room, w_tables⟩
theorem atStart : AtStart classFile x code maxLocals ret World_1 tables_1 room_1 Calls_1 rest_1 Pre_1 launch0 p0 e0 about1 theMethod args0 below0 :=
  ⟨lists_1, trivial, launch0.admits_env _ _ _, launch0.least_env, fairChoices_fair.cas, fairChoices_fair.clock, w_frames, w_args, w_heap, w_applies, trivial, trivial, w_case⟩
end start1
theorem witness_1 : WitnessClaimed_1 := ⟨start1.p0, start1.e0, start1.about1, start1.theMethod, start1.args0, start1.below0, start1.atStart⟩
end Jvm.Pilot.@@N@@
