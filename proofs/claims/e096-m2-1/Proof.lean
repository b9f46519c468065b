import JvmDerived
import JvmDerived.Pilot.@@N@@Statement
import JvmDerived.Pilot.@@N@@Code
set_option linter.unusedVariables false
set_option linter.unusedSimpArgs false
namespace Jvm.RoadKit
open Sem ClassFile Op Lib Jvm.Stand Jvm.Free Jvm.LawKit
section New
variable {p : Program} {l : Launch} {e : Env} {R : Room} {s : State} {m : MethodId} {args : Array Value} {below : List Frame} {meth : Method} {c : Code} {T : State} {locs : List Loc} {cells slots : Nat}
theorem retI (X : Stand p l e R s m args below meth c T locs cells slots) (hx : p.tables.exec = Jvm.exec) {pc : Nat} {Ls : Array Slot} {z : Int32} {rest : List Value} (hret : meth.sig.returnType = some .int) (hd : decode c.code pc = .ok (.ireturn, 1)) {fs : List Frame}
    (hl : ∀ (f : JFrame) (acts : List Action), f.method = m → f.locked = none → f.entered = [] → (doReturn e (T.setTop f) acts (some (.int z))).1 = T.setFrames fs) : Steps p.tables e below (T.setTop (mkF m pc Ls (.int z :: rest))) (T.setFrames fs) := by
  have hm' : T.vm.method? m = some meth := X.method'
  have hn : narrow .int (.int z) = .int z := rfl
  show Steps p.tables e below (T.setTop { method := m, pc := pc, locals := Ls, stack := _ :: rest, locked := none }) _
  jvm_step X.here [X.here.top, hx, hd, hm', hret, hn]
  first | (intro acts; rw [hl _ acts rfl rfl rfl]) | rw [hl _ _ rfl rfl rfl]
  exact Steps.refl _
end New
end Jvm.RoadKit
/- laws to paste: Road.backV, Road.eqW (cut by pick.py; bodies as the Statement names them) -/
namespace Jvm.Pilot.@@N@@
namespace StrChars
open Jvm Sem ClassFile Op Lib Jvm.Stand Jvm.Free.XT Jvm.Free.ALB Jvm.Free.JM Jvm.Free
open Jvm.Lib.Cold (StaticIs)
/-- a char array whose places are chars -/
def Ch (a : Addr) (A : Cell) (U : State) : Prop := Arr .char a A U ∧ Typed .char A
theorem Ch.mv {a : Addr} {A : Cell} {U U' : State} (h : Ch a A U) (hal : U.vm.Alike U'.vm) (hh : U'.heap = U.heap) : Ch a A U' := ⟨h.1.mv hal hh, h.2⟩
theorem Ch.keep {a : Addr} {A : Cell} {U U' : State} (h : Ch a A U) (hal : U.vm.Alike U'.vm) (hk : U'.heap[a]? = some A) : Ch a A U' := ⟨h.1.keep hal hk, h.2⟩
/-- what place i of a char[]'s cell holds -/
def cv (A : Cell) (i : Nat) : Int32 := match A.slots[i]? with | some (.int x) => x | _ => 0
theorem Ch.get {a : Addr} {A : Cell} {U : State} (h : Ch a A U) {i : Nat} (hi : i < A.slots.size) : A.slots[i]? = some (.int (cv A i)) := by
  have e := Array.getElem?_eq_getElem hi
  have f := h.2 i _ e
  unfold cv; rw [e]
  generalize A.slots[i] = v at f
  cases v <;> simp [fits] at f ⊢
/-- the byte that i2b leaves of a char -/
def lo8 (x : Int32) : Int32 := x.toInt8.toInt32
theorem fits_lo8 (y : Int32) : fits .byte (.int (lo8 y)) = true := by
  have h1 := y.toInt8.le_toInt
  have h2 := y.toInt8.toInt_lt
  simp only [lo8, fits, Bool.and_eq_true, decide_eq_true_eq, Int32.le_iff_toInt_le, Int8.toInt_toInt32, show (-128 : Int32).toInt = -128 from by decide, show (127 : Int32).toInt = 127 from by decide]
  omega
/-- A' is A but that each place j of lo .. hi - 1 holds f j -/
def Laid (A A' : Cell) (lo hi : Nat) (f : Nat → Value) : Prop := A'.cls = A.cls ∧ A'.vm = A.vm ∧ A'.slots.size = A.slots.size ∧ ∀ i, A'.slots[i]? = if lo ≤ i ∧ i < hi then some (f i) else A.slots[i]?
theorem Laid.zero (A : Cell) (lo : Nat) (f : Nat → Value) : Laid A A lo (lo + 0) f := ⟨rfl, rfl, rfl, fun i => by rw [if_neg (by omega)]⟩
theorem Laid.step {A Ak : Cell} {lo k : Nat} {f : Nat → Value} {v : Value} (h : Laid A Ak lo k f) (hlo : lo ≤ k) (hk : k < Ak.slots.size) (hv : v = f k) : Laid A (Ak.setSlot k v) lo (k + 1) f := by
  refine ⟨h.1, h.2.1, by simpa [Cell.setSlot] using h.2.2.1, fun i => ?_⟩
  by_cases e : k = i
  · subst e; rw [Cell.slots_setSlot_self v hk, if_pos (by omega), hv]
  · rw [Cell.slots_setSlot_ne v e, h.2.2.2 i]
    by_cases q : lo ≤ i ∧ i < k
    · rw [if_pos q, if_pos (by omega)]
    · rw [if_neg q, if_neg (by omega)]
def U16 : String := "java/lang/StringUTF16"
namespace Cmp5
def yN : MethodName := ⟨"java/lang/StringUTF16", "compress", "([CI[BII)I"⟩
abbrev yB : ByteArray := jdk_52_method_21_code
theorem d0 : decode yB 0 = .ok (.iconst 0, 1) := by decide +kernel
theorem d1 : decode yB 1 = .ok (.istore 5, 2) := by decide +kernel
theorem d3 : decode yB 3 = .ok (.iload 5, 2) := by decide +kernel
theorem d5 : decode yB 5 = .ok (.iload 4, 2) := by decide +kernel
theorem d7 : decode yB 7 = .ok (.if_icmp (.ge) 37, 3) := by decide +kernel
theorem d10 : decode yB 10 = .ok (.aload_n 0, 1) := by decide +kernel
theorem d11 : decode yB 11 = .ok (.iload_n 1, 1) := by decide +kernel
theorem d12 : decode yB 12 = .ok (.caload, 1) := by decide +kernel
theorem d13 : decode yB 13 = .ok (.istore 6, 2) := by decide +kernel
theorem d15 : decode yB 15 = .ok (.iload 6, 2) := by decide +kernel
theorem d17 : decode yB 17 = .ok (.sipush 255, 3) := by decide +kernel
theorem d20 : decode yB 20 = .ok (.if_icmp (.le) 6, 3) := by decide +kernel
theorem d26 : decode yB 26 = .ok (.aload_n 2, 1) := by decide +kernel
theorem d27 : decode yB 27 = .ok (.iload_n 3, 1) := by decide +kernel
theorem d28 : decode yB 28 = .ok (.iload 6, 2) := by decide +kernel
theorem d30 : decode yB 30 = .ok (.i2b, 1) := by decide +kernel
theorem d31 : decode yB 31 = .ok (.bastore, 1) := by decide +kernel
theorem d32 : decode yB 32 = .ok (.iinc 1 1, 3) := by decide +kernel
theorem d35 : decode yB 35 = .ok (.iinc 3 1, 3) := by decide +kernel
theorem d38 : decode yB 38 = .ok (.iinc 5 1, 3) := by decide +kernel
theorem d41 : decode yB 41 = .ok (.goto (-38), 3) := by decide +kernel
theorem d44 : decode yB 44 = .ok (.iload 4, 2) := by decide +kernel
theorem d46 : decode yB 46 = .ok (.ireturn, 1) := by decide +kernel
def site : List Cond := []
def tab : Cond := tabOf yN yB 7 (some .int) site
def P (b : Addr) (A : Cell) (d : Addr) (B : Cell) (o q len : Nat) (args : Array Value) (s : State) : Prop := args = #[.ref b, .int (Int32.ofNat o), .ref d, .int (Int32.ofNat q), .int (Int32.ofNat len)] ∧ Ch b A s ∧ Arr .byte d B s ∧ b ≠ d ∧ o + len ≤ A.slots.size ∧ q + len ≤ B.slots.size ∧ ∀ i, i < len → ¬ 255 < cv A (o + i)
def E (b : Addr) (A : Cell) (d : Addr) (B : Cell) (o q len : Nat) (r : Option Value) (s u : State) : Prop := r = some (.int (Int32.ofNat len)) ∧ ∃ B', Put d B' s u ∧ Laid B B' q (q + len) (fun j => Value.int (lo8 (cv A (o + (j - q)))))
/-- no char of the range above 255: len; the places written hold each char's low byte -/
theorem law (l : Launch) (b : Addr) (A : Cell) (d : Addr) (B : Cell) (o q len : Nat) : Law l yN 5 5 0 0 yB 7 (some .int) site (P b A d B o q len) (E b A d B o q len) (copyLocs d q len) 0 0 := by
  refine Law.of_walk (plainFor_of_name (by decide +kernel)) (by decide +kernel) (by decide +kernel) (by decide) (fun _ _ h => by rw [h.1]; rfl) (fun _ U U' hal hh h => ⟨h.1, h.2.1.mv hal hh, h.2.2.1.mv hal hh, h.2.2.2⟩) (fun r U U' V V' h1 hal h2 h => ⟨h.1, h.2.elim fun B' q => ⟨B', q.1.mv h1 h2, q.2⟩⟩) ?_
  intro p e s m args below meth c s₁ X0 hexec hbytes hml hret hlk hnm hown hh0 W hP
  obtain ⟨rfl, hA, hB, hne, l1, l2, hp⟩ := hP
  have c1 : Steps p.tables e below (s₁.setTop (entryFrame m #[.ref b, .int (Int32.ofNat o), .ref d, .int (Int32.ofNat q), .int (Int32.ofNat len)] 7)) (s₁.setTop (mkF m 0 #[.val (.ref b), .val (.int (Int32.ofNat o)), .val (.ref d), .val (.int (Int32.ofNat q)), .val (.int (Int32.ofNat len)), .unset, .unset] [])) := entry rfl
  have hA0 := hA.1.mv X0.warmed.alike hh0
  have hB0 := hB.mv X0.warmed.alike hh0
  have a31 := hA.1.2.2.2
  have c2 : Steps p.tables e below (s₁.setTop (entryFrame m #[.ref b, .int (Int32.ofNat o), .ref d, .int (Int32.ofNat q), .int (Int32.ofNat len)] 7)) (s₁.setTop (mkF m 3 #[.val (.ref b), .val (.int (Int32.ofNat o)), .val (.ref d), .val (.int (Int32.ofNat q)), .val (.int (Int32.ofNat len)), .val (.int 0), .unset] [])) := c1.trans (by
    refine iconstV X0.here hexec rfl 0 (hb hbytes d0) (by decide) ?_
    refine XS.istore X0.here hexec rfl (hb hbytes d1) rfl rfl ?_
    exact Steps.refl _)
  have loop : ∀ (r i : Nat), i + r = len → ∀ (z : Slot), (z = .unset ∨ ∃ w, z = .val w ∧ w.category = 1) → ∀ (Tl : State) (Bk : Cell), Stand p l e { frames := 0, locals := 0, cells := 0, slots := 0 } s m #[.ref b, .int (Int32.ofNat o), .ref d, .int (Int32.ofNat q), .int (Int32.ofNat len)] below meth c Tl ([] ++ copyLocs d q i) 0 0 → Put d Bk s₁ Tl → Laid B Bk q (q + i) (fun j => Value.int (lo8 (cv A (o + (j - q))))) →
      Steps p.tables e below (s₁.setTop (entryFrame m #[.ref b, .int (Int32.ofNat o), .ref d, .int (Int32.ofNat q), .int (Int32.ofNat len)] 7)) (Tl.setTop (mkF m 3 #[.val (.ref b), .val (.int (Int32.ofNat (o + i))), .val (.ref d), .val (.int (Int32.ofNat (q + i))), .val (.int (Int32.ofNat len)), .val (.int (Int32.ofNat i)), z] [])) → ∃ (T' : State) (B' : Cell) (z' : Slot), Stand p l e { frames := 0, locals := 0, cells := 0, slots := 0 } s m #[.ref b, .int (Int32.ofNat o), .ref d, .int (Int32.ofNat q), .int (Int32.ofNat len)] below meth c T' ([] ++ copyLocs d q len) 0 0 ∧ Put d B' s₁ T' ∧ Laid B B' q (q + len) (fun j => Value.int (lo8 (cv A (o + (j - q))))) ∧
      Steps p.tables e below (s₁.setTop (entryFrame m #[.ref b, .int (Int32.ofNat o), .ref d, .int (Int32.ofNat q), .int (Int32.ofNat len)] 7)) (T'.setTop (mkF m 3 #[.val (.ref b), .val (.int (Int32.ofNat (o + len))), .val (.ref d), .val (.int (Int32.ofNat (q + len))), .val (.int (Int32.ofNat len)), .val (.int (Int32.ofNat len)), z'] [])) := by
    intro r
    induction r with
    | zero =>
      intro i hi z hz Tl Bk Xl pl fl cl
      have hil : i = len := by omega
      rw [hil] at Xl fl cl
      exact ⟨Tl, Bk, z, Xl, pl, fl, cl⟩
    | succ r ih =>
      intro i hi z hz Tl Bk Xl pl fl cl
      have all := X0.warmed.alike.symm.trans Xl.warmed.alike
      have hAl := hA0.keep all (pl.other hne hA0.1)
      have hBk := hB0.like all pl.1 fl.1 fl.2.1 fl.2.2.1
      have hlt : q + i < Bk.slots.size := by rw [fl.2.2.1]; omega
      have c3 : Steps p.tables e below (s₁.setTop (entryFrame m #[.ref b, .int (Int32.ofNat o), .ref d, .int (Int32.ofNat q), .int (Int32.ofNat len)] 7)) (Tl.setTop (mkF m 12 #[.val (.ref b), .val (.int (Int32.ofNat (o + i))), .val (.ref d), .val (.int (Int32.ofNat (q + i))), .val (.int (Int32.ofNat len)), .val (.int (Int32.ofNat i)), z] [.int (Int32.ofNat (o + i)), .ref b])) := cl.trans (by
        refine XS.iload Xl.here hexec rfl (hb hbytes d3) rfl ?_
        refine XS.iload Xl.here hexec rfl (hb hbytes d5) rfl ?_
        refine XS.icmpNo Xl.here hexec rfl (hb hbytes d7) rfl (ii_ge_f (lt32 (by omega) (by omega))) ?_
        refine XS.aloadN Xl.here hexec rfl (hb hbytes d10) rfl rfl ?_
        refine XS.iloadN Xl.here hexec rfl (hb hbytes d11) rfl ?_
        exact Steps.refl _)
      have c4 : Steps p.tables e below (s₁.setTop (entryFrame m #[.ref b, .int (Int32.ofNat o), .ref d, .int (Int32.ofNat q), .int (Int32.ofNat len)] 7)) (Tl.setTop (mkF m 13 #[.val (.ref b), .val (.int (Int32.ofNat (o + i))), .val (.ref d), .val (.int (Int32.ofNat (q + i))), .val (.int (Int32.ofNat len)), .val (.int (Int32.ofNat i)), z] [.int (cv A (o + i))])) := c3.trans (by
        refine Xl.aget hexec hAl rfl (hA.get (i := o + i) (by omega)) rfl rfl (hb hbytes d12) ?_
        exact Steps.refl _)
      have c5 : Steps p.tables e below (s₁.setTop (entryFrame m #[.ref b, .int (Int32.ofNat o), .ref d, .int (Int32.ofNat q), .int (Int32.ofNat len)] 7)) (Tl.setTop (mkF m 15 #[.val (.ref b), .val (.int (Int32.ofNat (o + i))), .val (.ref d), .val (.int (Int32.ofNat (q + i))), .val (.int (Int32.ofNat len)), .val (.int (Int32.ofNat i)), .val (.int (cv A (o + i)))] [])) := c4.trans (by
        refine XS.istoreS Xl.here hexec rfl (hb hbytes d13) rfl rfl hz ?_
        exact Steps.refl _)
      have c6 : Steps p.tables e below (s₁.setTop (entryFrame m #[.ref b, .int (Int32.ofNat o), .ref d, .int (Int32.ofNat q), .int (Int32.ofNat len)] 7)) (Tl.setTop (mkF m 31 #[.val (.ref b), .val (.int (Int32.ofNat (o + i))), .val (.ref d), .val (.int (Int32.ofNat (q + i))), .val (.int (Int32.ofNat len)), .val (.int (Int32.ofNat i)), .val (.int (cv A (o + i)))] [.int (lo8 (cv A (o + i))), .int (Int32.ofNat (q + i)), .ref d])) := c5.trans (by
        refine XS.iload Xl.here hexec rfl (hb hbytes d15) rfl ?_
        refine sipushV Xl.here hexec rfl 255 (hb hbytes d17) (by decide) ?_
        refine XS.icmpYes Xl.here hexec rfl (pc0 := 20) rfl (hb hbytes d20) rfl (ii_le_t (hp i (by omega))) (by decide) rfl ?_
        refine XS.aloadN Xl.here hexec rfl (hb hbytes d26) rfl rfl ?_
        refine XS.iloadN Xl.here hexec rfl (hb hbytes d27) rfl ?_
        refine XS.iload Xl.here hexec rfl (hb hbytes d28) rfl ?_
        refine i2b Xl.here hexec rfl (hb hbytes d30) rfl ?_
        exact Steps.refl _)
      obtain ⟨T7, X7, p7, st7⟩ := Xl.aput hexec hBk rfl hlt rfl (fits_lo8 (cv A (o + i))) (g := (mkF m 31 #[.val (.ref b), .val (.int (Int32.ofNat (o + i))), .val (.ref d), .val (.int (Int32.ofNat (q + i))), .val (.int (Int32.ofNat len)), .val (.int (Int32.ofNat i)), .val (.int (cv A (o + i)))] [.int (lo8 (cv A (o + i))), .int (Int32.ofNat (q + i)), .ref d])) rfl (rest := []) rfl (hb hbytes d31)
      have c8 : Steps p.tables e below (s₁.setTop (entryFrame m #[.ref b, .int (Int32.ofNat o), .ref d, .int (Int32.ofNat q), .int (Int32.ofNat len)] 7)) (T7.setTop (mkF m 32 #[.val (.ref b), .val (.int (Int32.ofNat (o + i))), .val (.ref d), .val (.int (Int32.ofNat (q + i))), .val (.int (Int32.ofNat len)), .val (.int (Int32.ofNat i)), .val (.int (cv A (o + i)))] [])) := c6.trans (st7 _ (Steps.refl _))
      have c9 : Steps p.tables e below (s₁.setTop (entryFrame m #[.ref b, .int (Int32.ofNat o), .ref d, .int (Int32.ofNat q), .int (Int32.ofNat len)] 7)) (T7.setTop (mkF m 3 #[.val (.ref b), .val (.int (Int32.ofNat (o + i) + 1)), .val (.ref d), .val (.int (Int32.ofNat (q + i) + 1)), .val (.int (Int32.ofNat len)), .val (.int (Int32.ofNat i + 1)), .val (.int (cv A (o + i)))] [])) := c8.trans (by
        refine iincV X7.here hexec rfl 1 (hb hbytes d32) (by decide) rfl rfl ?_
        refine iincV X7.here hexec rfl 1 (hb hbytes d35) (by decide) rfl rfl ?_
        refine iincV X7.here hexec rfl 1 (hb hbytes d38) (by decide) rfl rfl ?_
        refine XS.goto X7.here hexec rfl (pc0 := 41) rfl (hb hbytes d41) (by decide) rfl ?_
        exact Steps.refl _)
      have c10 : Steps p.tables e below (s₁.setTop (entryFrame m #[.ref b, .int (Int32.ofNat o), .ref d, .int (Int32.ofNat q), .int (Int32.ofNat len)] 7)) (T7.setTop (mkF m 3 #[.val (.ref b), .val (.int (Int32.ofNat (o + (i + 1)))), .val (.ref d), .val (.int (Int32.ofNat (q + (i + 1)))), .val (.int (Int32.ofNat len)), .val (.int (Int32.ofNat (i + 1))), .val (.int (cv A (o + i)))] [])) := by
        have := c9
        rw [succ32, succ32, succ32] at this
        exact this
      exact ih (i + 1) (by omega) _ (Or.inr ⟨_, rfl, rfl⟩) T7 _ (by rw [copyLocs_step, ← List.append_assoc]; exact X7) (pl.trans p7) (fl.step (by omega) hlt (by simp)) c10
  obtain ⟨T9, B9, z9, X9, p9, f9, g9⟩ := loop len 0 (by omega) .unset (Or.inl rfl) s₁ B (by simpa [copyLocs] using X0) ⟨hB0.1, fun _ _ => rfl, rfl⟩ (Laid.zero _ _ _) c2
  have c11 : Steps p.tables e below (s₁.setTop (entryFrame m #[.ref b, .int (Int32.ofNat o), .ref d, .int (Int32.ofNat q), .int (Int32.ofNat len)] 7)) (T9.setTop (mkF m 46 #[.val (.ref b), .val (.int (Int32.ofNat (o + len))), .val (.ref d), .val (.int (Int32.ofNat (q + len))), .val (.int (Int32.ofNat len)), .val (.int (Int32.ofNat len)), z9] [.int (Int32.ofNat len)])) := g9.trans (by
    refine XS.iload X9.here hexec rfl (hb hbytes d3) rfl ?_
    refine XS.iload X9.here hexec rfl (hb hbytes d5) rfl ?_
    refine XS.icmpYes X9.here hexec rfl (pc0 := 7) rfl (hb hbytes d7) rfl (ii_ge_t (nlt32 (by omega) (Nat.le_refl _))) (by decide) rfl ?_
    refine XS.iload X9.here hexec rfl (hb hbytes d44) rfl ?_
    exact Steps.refl _)
  exact ⟨T9, some (.int (Int32.ofNat len)), _, _, _, X9, by simp, rfl, rfl, (fun h => by cases h), ⟨rfl, B9, p9.from hh0, f9⟩, fun fs hl => c11.trans (X9.ireturnOut hexec hret rfl (Or.inl rfl) (hb hbytes d46) hl)⟩
end Cmp5
namespace Cmp3
def yN : MethodName := ⟨"java/lang/StringUTF16", "compress", "([CII)[B"⟩
abbrev yB : ByteArray := jdk_52_method_16_code
theorem d0 : decode yB 0 = .ok (.iload_n 2, 1) := by decide +kernel
theorem d1 : decode yB 1 = .ok (.newarray .byte, 2) := by decide +kernel
theorem d3 : decode yB 3 = .ok (.astore_n 3, 1) := by decide +kernel
theorem d4 : decode yB 4 = .ok (.aload_n 0, 1) := by decide +kernel
theorem d5 : decode yB 5 = .ok (.iload_n 1, 1) := by decide +kernel
theorem d6 : decode yB 6 = .ok (.aload_n 3, 1) := by decide +kernel
theorem d7 : decode yB 7 = .ok (.iconst 0, 1) := by decide +kernel
theorem d8 : decode yB 8 = .ok (.iload_n 2, 1) := by decide +kernel
theorem d9 : decode yB 9 = .ok (.invokestatic 115, 3) := by decide +kernel
theorem d12 : decode yB 12 = .ok (.istore 4, 2) := by decide +kernel
theorem d14 : decode yB 14 = .ok (.iload 4, 2) := by decide +kernel
theorem d16 : decode yB 16 = .ok (.iload_n 2, 1) := by decide +kernel
theorem d17 : decode yB 17 = .ok (.if_icmp (.eq) 40, 3) := by decide +kernel
theorem d57 : decode yB 57 = .ok (.aload_n 3, 1) := by decide +kernel
theorem d58 : decode yB 58 = .ok (.areturn, 1) := by decide +kernel
def site : List Cond := [.arrayClass .byte, Cmp5.tab] ++ staticW U16 115 Cmp5.yN
def tab : Cond := tabOf yN yB 6 (some (.array .byte)) site
def P (b : Addr) (A : Cell) (o len : Nat) (args : Array Value) (s : State) : Prop := args = #[.ref b, .int (Int32.ofNat o), .int (Int32.ofNat len)] ∧ Ch b A s ∧ o + len ≤ A.slots.size ∧ len ≤ 536870912 ∧ ∀ i, i < len → ¬ 255 < cv A (o + i)
def E (b : Addr) (A : Cell) (o len : Nat) (r : Option Value) (s u : State) : Prop := NewArr .byte "[B" len (fun j => .int (lo8 (cv A (o + j)))) r s u ∧ u.heap.size = s.heap.size + 1
/-- no char of the range above 255: a new byte[] of their low bytes -/
theorem law (l : Launch) (b : Addr) (A : Cell) (o len : Nat) : Law l yN 3 3 1 18 yB 6 (some (.array .byte)) site (P b A o len) (E b A o len) [] 1 len := by
  refine Law.of_walk (plainFor_of_name (by decide +kernel)) (by decide +kernel) (by decide +kernel) (by decide) (fun _ _ h => by rw [h.1]; rfl) (fun _ U U' hal hh h => ⟨h.1, h.2.1.mv hal hh, h.2.2⟩) (fun r U U' V V' h1 hal h2 h => ⟨NewArr.mv r U U' V V' h1 hal h2 h.1, by rw [h1, h2]; exact h.2⟩) ?_
  intro p e s m args below meth c s₁ X0 hexec hbytes hml hret hlk hnm hown hh0 W hP
  obtain ⟨rfl, hA, l1, l2, hp⟩ := hP
  have a31 := hA.1.2.2.2
  have c1 : Steps p.tables e below (s₁.setTop (entryFrame m #[.ref b, .int (Int32.ofNat o), .int (Int32.ofNat len)] 6)) (s₁.setTop (mkF m 0 #[.val (.ref b), .val (.int (Int32.ofNat o)), .val (.int (Int32.ofNat len)), .unset, .unset, .unset] [])) := entry rfl
  have c2 : Steps p.tables e below (s₁.setTop (entryFrame m #[.ref b, .int (Int32.ofNat o), .int (Int32.ofNat len)] 6)) (s₁.setTop (mkF m 1 #[.val (.ref b), .val (.int (Int32.ofNat o)), .val (.int (Int32.ofNat len)), .unset, .unset, .unset] [.int (Int32.ofNat len)])) := c1.trans (by
    refine XS.iloadN X0.here hexec rfl (hb hbytes d0) rfl ?_
    exact Steps.refl _)
  obtain ⟨T3, B3, X3, ba3, bs3, bv3, bh3, bf3, st3⟩ := X0.anew hexec (atype := .byte) (wk W (.arrayClass .byte)) rfl (by show len * 1 ≤ _; omega) (by omega) (g := (mkF m 1 #[.val (.ref b), .val (.int (Int32.ofNat o)), .val (.int (Int32.ofNat len)), .unset, .unset, .unset] [.int (Int32.ofNat len)])) rfl (hb hbytes d1) (rest := []) rfl (Nat.le_refl _) (by show 0 + len ≤ len; omega)
  rw [hh0] at ba3 st3
  have kp3 : XT.Kept s T3 := (XT.Kept.of_eq hh0).push bh3
  have hA3 := hA.keep X3.warmed.alike (kp3 _ _ hA.1.1)
  have hne : b ≠ s.heap.size := hA.1.ne
  have c4 : Steps p.tables e below (s₁.setTop (entryFrame m #[.ref b, .int (Int32.ofNat o), .int (Int32.ofNat len)] 6)) (T3.setTop (mkF m 3 #[.val (.ref b), .val (.int (Int32.ofNat o)), .val (.int (Int32.ofNat len)), .unset, .unset, .unset] [.ref s.heap.size])) := c2.trans (st3 _ (Steps.refl _))
  have c5 : Steps p.tables e below (s₁.setTop (entryFrame m #[.ref b, .int (Int32.ofNat o), .int (Int32.ofNat len)] 6)) (T3.setTop (mkF m 9 #[.val (.ref b), .val (.int (Int32.ofNat o)), .val (.int (Int32.ofNat len)), .val (.ref s.heap.size), .unset, .unset] [.int (Int32.ofNat len), .int 0, .ref s.heap.size, .int (Int32.ofNat o), .ref b])) := c4.trans (by
    refine XS.astoreN X3.here hexec rfl (hb hbytes d3) rfl rfl rfl ?_
    refine XS.aloadN X3.here hexec rfl (hb hbytes d4) rfl rfl ?_
    refine XS.iloadN X3.here hexec rfl (hb hbytes d5) rfl ?_
    refine XS.aloadN X3.here hexec rfl (hb hbytes d6) rfl rfl ?_
    refine iconstV X3.here hexec rfl 0 (hb hbytes d7) (by decide) ?_
    refine XS.iloadN X3.here hexec rfl (hb hbytes d8) rfl ?_
    exact Steps.refl _)
  obtain ⟨v6, T6, X6, E6, g6⟩ := X3.callS hexec (Cmp5.law l b A s.heap.size B3 o 0 len) hown (wks W (staticW U16 115 Cmp5.yN)) (wk W Cmp5.tab) (W := 0) (Nat.le_of_ble_eq_true rfl) (Nat.le_of_ble_eq_true rfl) (Nat.le_refl _) (by show 0 + len + 0 ≤ len; omega) (g := (mkF m 9 #[.val (.ref b), .val (.int (Int32.ofNat o)), .val (.int (Int32.ofNat len)), .val (.ref s.heap.size), .unset, .unset] [.int (Int32.ofNat len), .int (Int32.ofNat 0), .ref s.heap.size, .int (Int32.ofNat o), .ref b])) rfl (by rw [hml]; rfl) c5 (argsL := [.ref b, .int (Int32.ofNat o), .ref s.heap.size, .int (Int32.ofNat 0), .int (Int32.ofNat len)]) (rest := []) rfl rfl (by show 2 * 0 + 0 ≤ _; decide) (hb hbytes d9) (⟨rfl, hA3, ba3, hne, l1, by rw [bs3]; simp, hp⟩)
  obtain ⟨rfl, B6, p6, f6⟩ := E6
  have c7 : Steps p.tables e below (s₁.setTop (entryFrame m #[.ref b, .int (Int32.ofNat o), .int (Int32.ofNat len)] 6)) (T6.setTop (mkF m 12 #[.val (.ref b), .val (.int (Int32.ofNat o)), .val (.int (Int32.ofNat len)), .val (.ref s.heap.size), .unset, .unset] [.int (Int32.ofNat len)])) := g6
  have c8 : Steps p.tables e below (s₁.setTop (entryFrame m #[.ref b, .int (Int32.ofNat o), .int (Int32.ofNat len)] 6)) (T6.setTop (mkF m 58 #[.val (.ref b), .val (.int (Int32.ofNat o)), .val (.int (Int32.ofNat len)), .val (.ref s.heap.size), .val (.int (Int32.ofNat len)), .unset] [.ref s.heap.size])) := c7.trans (by
    refine XS.istore X6.here hexec rfl (hb hbytes d12) rfl rfl ?_
    refine XS.iload X6.here hexec rfl (hb hbytes d14) rfl ?_
    refine XS.iloadN X6.here hexec rfl (hb hbytes d16) rfl ?_
    refine XS.icmpYes X6.here hexec rfl (pc0 := 17) rfl (hb hbytes d17) rfl (ii_eq_t rfl) (by decide) rfl ?_
    refine XS.aloadN X6.here hexec rfl (hb hbytes d57) rfl rfl ?_
    exact Steps.refl _)
  have X8 := X6.wide (L' := []) (cells' := 1) (slots' := len) (fun x hx hlt => by
    simp only [List.nil_append, copyLocs, List.mem_map, List.mem_range] at hx
    obtain ⟨i, -, rfl⟩ := hx
    exact absurd hlt (Nat.lt_irrefl _)) (Nat.le_refl _) (by omega)
  exact ⟨T6, some (.ref s.heap.size), _, _, _, X8, rfl, rfl, rfl, (fun h => by cases h), ⟨⟨rfl, B6, ba3.like (X3.warmed.alike.symm.trans X6.warmed.alike) p6.1 f6.1 f6.2.1 f6.2.2.1, f6.2.1.trans bv3, by rw [X6.warmed.alike.findClass, f6.1]; exact bf3, by rw [f6.2.2.1, bs3]; simp, fun j hj => by rw [f6.2.2.2 j, if_pos (by omega)]; rfl, kp3.put p6 (Nat.le_refl _)⟩, by rw [p6.2.2, bh3, hh0]; simp⟩, fun fs hl => c8.trans (X8.areturnOut hexec rfl hret rfl (hb hbytes d58) hl)⟩
end Cmp3
namespace CodL
def yN : MethodName := ⟨"java/lang/StringUTF16", "coderFromArrayLen", "([BI)B"⟩
abbrev yB : ByteArray := jdk_52_method_15_code
theorem d0 : decode yB 0 = .ok (.iload_n 1, 1) := by decide +kernel
theorem d1 : decode yB 1 = .ok (.aload_n 0, 1) := by decide +kernel
theorem d2 : decode yB 2 = .ok (.arraylength, 1) := by decide +kernel
theorem d3 : decode yB 3 = .ok (.isub, 1) := by decide +kernel
theorem d4 : decode yB 4 = .ok (.bipush 31, 2) := by decide +kernel
theorem d6 : decode yB 6 = .ok (.iushr, 1) := by decide +kernel
theorem d7 : decode yB 7 = .ok (.i2b, 1) := by decide +kernel
theorem d8 : decode yB 8 = .ok (.ireturn, 1) := by decide +kernel
def site : List Cond := []
def tab : Cond := tabOf yN yB 2 (some .byte) site
def P (d : Addr) (B : Cell) (args : Array Value) (s : State) : Prop := args = #[.ref d, .int (Int32.ofNat B.slots.size)] ∧ Arr .byte d B s
def E (r : Option Value) (s u : State) : Prop := XT.PureE (some (.int 0)) r s u
/-- an array as long as the number of chars: LATIN1 -/
theorem law (l : Launch) (d : Addr) (B : Cell) : Law l yN 2 2 0 0 yB 2 (some .byte) site (P d B) E [] 0 0 := by
  refine Law.of_walk (plainFor_of_name (by decide +kernel)) (by decide +kernel) (by decide +kernel) (by decide) (fun _ _ h => by rw [h.1]; rfl) (fun _ U U' hal hh h => ⟨h.1, h.2.mv hal hh⟩) (fun r U U' V V' h1 hal h2 h => XT.PureE.mv r U U' V V' h1 hal h2 h) ?_
  intro p e s m args below meth c s₁ X0 hexec hbytes hml hret hlk hnm hown hh0 W hP
  obtain ⟨rfl, hB⟩ := hP
  have hB0 := hB.mv X0.warmed.alike hh0
  have c1 : Steps p.tables e below (s₁.setTop (entryFrame m #[.ref d, .int (Int32.ofNat B.slots.size)] 2)) (s₁.setTop (mkF m 0 #[.val (.ref d), .val (.int (Int32.ofNat B.slots.size))] [])) := entry rfl
  have c2 : Steps p.tables e below (s₁.setTop (entryFrame m #[.ref d, .int (Int32.ofNat B.slots.size)] 2)) (s₁.setTop (mkF m 2 #[.val (.ref d), .val (.int (Int32.ofNat B.slots.size))] [.ref d, .int (Int32.ofNat B.slots.size)])) := c1.trans (by
    refine XS.iloadN X0.here hexec rfl (hb hbytes d0) rfl ?_
    refine XS.aloadN X0.here hexec rfl (hb hbytes d1) rfl rfl ?_
    exact Steps.refl _)
  have c3 : Steps p.tables e below (s₁.setTop (entryFrame m #[.ref d, .int (Int32.ofNat B.slots.size)] 2)) (s₁.setTop (mkF m 8 #[.val (.ref d), .val (.int (Int32.ofNat B.slots.size))] [.int (lo8 (ushr (Int32.ofNat B.slots.size - Int32.ofNat B.slots.size) 31))])) := c2.trans (by
    refine X0.alen hexec hB0 rfl rfl (hb hbytes d2) ?_
    refine XS.isub X0.here hexec rfl (hb hbytes d3) rfl ?_
    refine bipushV X0.here hexec rfl 31 (hb hbytes d4) (by decide) ?_
    refine iushr X0.here hexec rfl (hb hbytes d6) rfl ?_
    refine i2b X0.here hexec rfl (hb hbytes d7) rfl ?_
    exact Steps.refl _)
  have e0 : lo8 (ushr (Int32.ofNat B.slots.size - Int32.ofNat B.slots.size) 31) = 0 := by rw [Int32.sub_self]; decide
  rw [e0] at c3
  exact ⟨s₁, some (.int 0), _, _, _, X0, rfl, rfl, rfl, (fun h => by cases h), ⟨rfl, hh0⟩, fun fs hl => c3.trans (X0.ireturnOut hexec hret rfl (Or.inr (Or.inr (Or.inl rfl))) (hb hbytes d8) hl)⟩
end CodL
/-- the String at a is Latin-1 over a new byte[] (the heap's one new cell): the low bytes of the len chars of A from o on; every cell but a is kept -/
def Got (a : Addr) (D : Cell) (fV fC : Field) (A : Cell) (o len : Nat) (r : Option Value) (s u : State) : Prop := r = none ∧ ∃ D' V : Cell, Blank "java/lang/String" a D' u ∧ Same D D' [fV.slot, fC.slot] ∧ D'.slots[fV.slot]? = some (.ref s.heap.size) ∧ D'.slots[fC.slot]? = some (.int 0) ∧ Arr .byte s.heap.size V u ∧ V.vm = .none ∧ u.vm.findClass "[B" = some V.cls ∧ V.slots.size = len ∧ (∀ j, j < len → V.slots[j]? = some (.int (lo8 (cv A (o + j))))) ∧ (∀ (y : Addr) (c : Cell), y ≠ a → s.heap[y]? = some c → u.heap[y]? = some c) ∧ u.heap.size = s.heap.size + 1
theorem Got.mv {a : Addr} {D A : Cell} {fV fC : Field} {o len : Nat} : ∀ r (U U' V V' : State), U'.heap = U.heap → V.vm.Alike V'.vm → V'.heap = V.heap → Got a D fV fC A o len r U V → Got a D fV fC A o len r U' V' :=
  fun r U U' V V' h1 hal h2 ⟨e0, D', X, a1, a2, a3, a4, a5, a6, a7, a8, a9, a10, a11⟩ => ⟨e0, D', X, a1.mv hal h2, a2, by rw [h1]; exact a3, a4, by rw [h1]; exact a5.mv hal h2, a6, by rw [hal.findClass]; exact a7, a8, a9, by rw [h1, h2]; exact a10, by rw [h1, h2]; exact a11⟩
namespace New4
def yN : MethodName := ⟨"java/lang/String", "<init>", "([CIILjava/lang/Void;)V"⟩
abbrev yB : ByteArray := jdk_42_method_149_code
theorem d0 : decode yB 0 = .ok (.aload_n 0, 1) := by decide +kernel
theorem d1 : decode yB 1 = .ok (.invokespecial 1, 3) := by decide +kernel
theorem d4 : decode yB 4 = .ok (.iload_n 3, 1) := by decide +kernel
theorem d5 : decode yB 5 = .ok (.ifCond (.ne) 22, 3) := by decide +kernel
theorem d27 : decode yB 27 = .ok (.getstatic 38, 3) := by decide +kernel
theorem d30 : decode yB 30 = .ok (.ifCond (.eq) 28, 3) := by decide +kernel
theorem d33 : decode yB 33 = .ok (.aload_n 1, 1) := by decide +kernel
theorem d34 : decode yB 34 = .ok (.iload_n 2, 1) := by decide +kernel
theorem d35 : decode yB 35 = .ok (.iload_n 3, 1) := by decide +kernel
theorem d36 : decode yB 36 = .ok (.invokestatic 177, 3) := by decide +kernel
theorem d39 : decode yB 39 = .ok (.astore 5, 2) := by decide +kernel
theorem d41 : decode yB 41 = .ok (.aload_n 0, 1) := by decide +kernel
theorem d42 : decode yB 42 = .ok (.aload 5, 2) := by decide +kernel
theorem d44 : decode yB 44 = .ok (.iload_n 3, 1) := by decide +kernel
theorem d45 : decode yB 45 = .ok (.invokestatic 47, 3) := by decide +kernel
theorem d48 : decode yB 48 = .ok (.putfield 15, 3) := by decide +kernel
theorem d51 : decode yB 51 = .ok (.aload_n 0, 1) := by decide +kernel
theorem d52 : decode yB 52 = .ok (.aload 5, 2) := by decide +kernel
theorem d54 : decode yB 54 = .ok (.putfield 9, 3) := by decide +kernel
theorem d57 : decode yB 57 = .ok (.return_, 1) := by decide +kernel
def site : List Cond := [.fieldLink "java/lang/String" 38 "java/lang/String" "COMPACT_STRINGS" "Z", Cmp3.tab, CodL.tab, .laysFinal "java/lang/String" "java/lang/String" "value" "[B", .fieldLink "java/lang/String" 9 "java/lang/String" "value" "[B", .laysFinal "java/lang/String" "java/lang/String" "coder" "B", .fieldLink "java/lang/String" 15 "java/lang/String" "coder" "B"] ++ objW "java/lang/String" 1 ++ staticW "java/lang/String" 177 Cmp3.yN ++ staticW "java/lang/String" 47 CodL.yN
def tab : Cond := tabOf yN yB 6 none site
def P (a : Addr) (D : Cell) (fV fC : Field) (b : Addr) (A : Cell) (z : Int32) (o len : Nat) (args : Array Value) (s : State) : Prop := args = #[.ref a, .ref b, .int (Int32.ofNat o), .int (Int32.ofNat len), .null] ∧ Blank "java/lang/String" a D s ∧ Found "java/lang/String" "value" "[B" fV s ∧ Found "java/lang/String" "coder" "B" fC s ∧ Ch b A s ∧ StaticIs s "java/lang/String" "COMPACT_STRINGS" "Z" (.int z) ∧ ¬ z = 0 ∧ 0 < len ∧ o + len ≤ A.slots.size ∧ len ≤ 536870912 ∧ ∀ i, i < len → ¬ 255 < cv A (o + i)
def E (a : Addr) (D : Cell) (fV fC : Field) (A : Cell) (o len : Nat) (r : Option Value) (s u : State) : Prop := Got a D fV fC A o len r s u
/-- len > 0, no char of the range above 255: a Latin-1 String of their low bytes -/
theorem law (l : Launch) (a : Addr) (D : Cell) (fV fC : Field) (b : Addr) (A : Cell) (z : Int32) (o len : Nat) : Law l yN 5 4 2 35 yB 6 none site (P a D fV fC b A z o len) (E a D fV fC A o len) [⟨a, fC.slot⟩, ⟨a, fV.slot⟩] 1 len := by
  refine Law.of_walk (plainFor_of_name (by decide +kernel)) (by decide +kernel) (by decide +kernel) (by decide) (fun _ _ h => by rw [h.1]; rfl) (fun _ U U' hal hh h => ⟨h.1, h.2.1.mv hal hh, h.2.2.1.al hal, h.2.2.2.1.al hal, h.2.2.2.2.1.mv hal hh, h.2.2.2.2.2.1.there hal hh, h.2.2.2.2.2.2⟩) (fun r U U' V V' h1 hal h2 h => Got.mv r U U' V V' h1 hal h2 h) ?_
  intro p e s m args below meth c s₁ X0 hexec hbytes hml hret hlk hnm hown hh0 W hP
  obtain ⟨rfl, hB, f1, f2, hA, s1, hz, l0, l1, l2, hp⟩ := hP
  have a31 := hA.1.2.2.2
  have c1 : Steps p.tables e below (s₁.setTop (entryFrame m #[.ref a, .ref b, .int (Int32.ofNat o), .int (Int32.ofNat len), .null] 6)) (s₁.setTop (mkF m 0 #[.val (.ref a), .val (.ref b), .val (.int (Int32.ofNat o)), .val (.int (Int32.ofNat len)), .val .null, .unset] [])) := entry rfl
  have c2 : Steps p.tables e below (s₁.setTop (entryFrame m #[.ref a, .ref b, .int (Int32.ofNat o), .int (Int32.ofNat len), .null] 6)) (s₁.setTop (mkF m 1 #[.val (.ref a), .val (.ref b), .val (.int (Int32.ofNat o)), .val (.int (Int32.ofNat len)), .val .null, .unset] [.ref a])) := c1.trans (by
    refine XS.aloadN X0.here hexec rfl (hb hbytes d0) rfl rfl ?_
    exact Steps.refl _)
  obtain ⟨T3, X3, q3, st3⟩ := X0.oinit hexec hown (wks W (objW "java/lang/String" 1)) (g := (mkF m 1 #[.val (.ref a), .val (.ref b), .val (.int (Int32.ofNat o)), .val (.int (Int32.ofNat len)), .val .null, .unset] [.ref a])) rfl (by rw [hml]; rfl) (rest := []) rfl (hb hbytes d1) (W := 0) (by show 2 * 0 + 0 ≤ _; decide) (Nat.le_of_ble_eq_true rfl) (Nat.le_of_ble_eq_true rfl)
  have hh3 := q3.trans hh0
  have c4 : Steps p.tables e below (s₁.setTop (entryFrame m #[.ref a, .ref b, .int (Int32.ofNat o), .int (Int32.ofNat len), .null] 6)) (T3.setTop (mkF m 27 #[.val (.ref a), .val (.ref b), .val (.int (Int32.ofNat o)), .val (.int (Int32.ofNat len)), .val .null, .unset] [])) := (c2.trans (st3 _ (Steps.refl _))).trans (by
    refine XS.iloadN X3.here hexec rfl (hb hbytes d4) rfl ?_
    refine XS.ifYes X3.here hexec rfl (pc0 := 5) rfl (hb hbytes d5) rfl (i0_ne_t (nz32 (by omega) l0)) (by decide) rfl ?_
    exact Steps.refl _)
  obtain ⟨T5, X5, q5, st5⟩ := X3.sget hexec hown (wk W (.fieldLink "java/lang/String" 38 "java/lang/String" "COMPACT_STRINGS" "Z")) s1 (fun _ _ h => by rw [hh3]; exact h) (g := (mkF m 27 #[.val (.ref a), .val (.ref b), .val (.int (Int32.ofNat o)), .val (.int (Int32.ofNat len)), .val .null, .unset] [])) rfl (hb hbytes d27)
  have hh5 := q5.trans hh3
  have c6 : Steps p.tables e below (s₁.setTop (entryFrame m #[.ref a, .ref b, .int (Int32.ofNat o), .int (Int32.ofNat len), .null] 6)) (T5.setTop (mkF m 30 #[.val (.ref a), .val (.ref b), .val (.int (Int32.ofNat o)), .val (.int (Int32.ofNat len)), .val .null, .unset] [.int z])) := c4.trans (st5 _ (Steps.refl _))
  have c7 : Steps p.tables e below (s₁.setTop (entryFrame m #[.ref a, .ref b, .int (Int32.ofNat o), .int (Int32.ofNat len), .null] 6)) (T5.setTop (mkF m 36 #[.val (.ref a), .val (.ref b), .val (.int (Int32.ofNat o)), .val (.int (Int32.ofNat len)), .val .null, .unset] [.int (Int32.ofNat len), .int (Int32.ofNat o), .ref b])) := c6.trans (by
    refine XS.ifNo X5.here hexec rfl (hb hbytes d30) rfl (i0_eq_f hz) ?_
    refine XS.aloadN X5.here hexec rfl (hb hbytes d33) rfl rfl ?_
    refine XS.iloadN X5.here hexec rfl (hb hbytes d34) rfl ?_
    refine XS.iloadN X5.here hexec rfl (hb hbytes d35) rfl ?_
    exact Steps.refl _)
  obtain ⟨v8, T8, X8, E8, g8⟩ := X5.callS hexec (Cmp3.law l b A o len) hown (wks W (staticW "java/lang/String" 177 Cmp3.yN)) (wk W Cmp3.tab) (W := 0) (Nat.le_of_ble_eq_true rfl) (Nat.le_of_ble_eq_true rfl) (Nat.le_refl _) (by show 0 + len ≤ len; omega) (g := (mkF m 36 #[.val (.ref a), .val (.ref b), .val (.int (Int32.ofNat o)), .val (.int (Int32.ofNat len)), .val .null, .unset] [.int (Int32.ofNat len), .int (Int32.ofNat o), .ref b])) rfl (by rw [hml]; rfl) c7 (argsL := [.ref b, .int (Int32.ofNat o), .int (Int32.ofNat len)]) (rest := []) rfl rfl (by show 2 * 0 + 0 ≤ _; decide) (hb hbytes d36) (⟨rfl, hA.mv X5.warmed.alike hh5, l1, l2, hp⟩)
  obtain ⟨e8, z8⟩ := E8
  obtain ⟨rfl, N, n1, n2, n3, n4, n5, n6⟩ := NewArr.mv _ T5 s _ _ hh5.symm (Vm.Alike.refl _) rfl e8
  rw [hh5] at z8
  have hB1 := hB.keep X8.warmed.alike (n6 _ _ hB.1)
  have hne : s.heap.size ≠ a := (Nat.ne_of_lt (Array.getElem?_eq_some_iff.mp hB.1).1).symm
  have c9 : Steps p.tables e below (s₁.setTop (entryFrame m #[.ref a, .ref b, .int (Int32.ofNat o), .int (Int32.ofNat len), .null] 6)) (T8.setTop (mkF m 39 #[.val (.ref a), .val (.ref b), .val (.int (Int32.ofNat o)), .val (.int (Int32.ofNat len)), .val .null, .unset] [.ref s.heap.size])) := g8
  have c10 : Steps p.tables e below (s₁.setTop (entryFrame m #[.ref a, .ref b, .int (Int32.ofNat o), .int (Int32.ofNat len), .null] 6)) (T8.setTop (mkF m 45 #[.val (.ref a), .val (.ref b), .val (.int (Int32.ofNat o)), .val (.int (Int32.ofNat len)), .val .null, .val (.ref s.heap.size)] [.int (Int32.ofNat N.slots.size), .ref s.heap.size, .ref a])) := by
    have hc : Steps p.tables e below (s₁.setTop (entryFrame m #[.ref a, .ref b, .int (Int32.ofNat o), .int (Int32.ofNat len), .null] 6)) (T8.setTop (mkF m 45 #[.val (.ref a), .val (.ref b), .val (.int (Int32.ofNat o)), .val (.int (Int32.ofNat len)), .val .null, .val (.ref s.heap.size)] [.int (Int32.ofNat len), .ref s.heap.size, .ref a])) := c9.trans (by
      refine XS.astore X8.here hexec rfl (hb hbytes d39) rfl rfl rfl ?_
      refine XS.aloadN X8.here hexec rfl (hb hbytes d41) rfl rfl ?_
      refine XS.aload X8.here hexec rfl (hb hbytes d42) rfl rfl ?_
      refine XS.iloadN X8.here hexec rfl (hb hbytes d44) rfl ?_
      exact Steps.refl _)
    rw [n4]; exact hc
  obtain ⟨v11, T11, X11, E11, g11⟩ := X8.callS hexec (CodL.law l s.heap.size N) hown (wks W (staticW "java/lang/String" 47 CodL.yN)) (wk W CodL.tab) (W := 1) (Nat.le_of_ble_eq_true rfl) (Nat.le_of_ble_eq_true rfl) (Nat.le_refl _) (by show 0 + len + 0 ≤ len; omega) (g := (mkF m 45 #[.val (.ref a), .val (.ref b), .val (.int (Int32.ofNat o)), .val (.int (Int32.ofNat len)), .val .null, .val (.ref s.heap.size)] [.int (Int32.ofNat N.slots.size), .ref s.heap.size, .ref a])) rfl (by rw [hml]; rfl) c10 (argsL := [.ref s.heap.size, .int (Int32.ofNat N.slots.size)]) (rest := [.ref a]) rfl rfl (by show 2 * 0 + (1 + 0) ≤ _; decide) (hb hbytes d45) (⟨rfl, n1⟩)
  obtain ⟨rfl, q11⟩ := E11
  have hB11 := hB1.mv (X8.warmed.alike.symm.trans X11.warmed.alike) q11
  have c12 : Steps p.tables e below (s₁.setTop (entryFrame m #[.ref a, .ref b, .int (Int32.ofNat o), .int (Int32.ofNat len), .null] 6)) (T11.setTop (mkF m 48 #[.val (.ref a), .val (.ref b), .val (.int (Int32.ofNat o)), .val (.int (Int32.ofNat len)), .val .null, .val (.ref s.heap.size)] [.int 0, .ref a])) := g11
  obtain ⟨T13, X13, p13, bl13, sl13, st13⟩ := X11.finit hexec hown (wk W (.fieldLink "java/lang/String" 15 "java/lang/String" "coder" "B")) (Or.inr ⟨_, (wk W (.laysFinal "java/lang/String" "java/lang/String" "coder" "B"))⟩) (Or.inl ⟨rfl, hnm⟩) f2 (Or.inl rfl) hB11 (t := .byte) (by decide +kernel) rfl (g := (mkF m 48 #[.val (.ref a), .val (.ref b), .val (.int (Int32.ofNat o)), .val (.int (Int32.ofNat len)), .val .null, .val (.ref s.heap.size)] [.int 0, .ref a])) rfl (rest := []) rfl (hb hbytes d48)
  have c14 : Steps p.tables e below (s₁.setTop (entryFrame m #[.ref a, .ref b, .int (Int32.ofNat o), .int (Int32.ofNat len), .null] 6)) (T13.setTop (mkF m 54 #[.val (.ref a), .val (.ref b), .val (.int (Int32.ofNat o)), .val (.int (Int32.ofNat len)), .val .null, .val (.ref s.heap.size)] [.ref s.heap.size, .ref a])) := (c12.trans (st13 _ (Steps.refl _))).trans (by
    refine XS.aloadN X13.here hexec rfl (hb hbytes d51) rfl rfl ?_
    refine XS.aload X13.here hexec rfl (hb hbytes d52) rfl rfl ?_
    exact Steps.refl _)
  obtain ⟨T15, X15, p15, bl15, sl15, st15⟩ := X13.finit hexec hown (wk W (.fieldLink "java/lang/String" 9 "java/lang/String" "value" "[B")) (Or.inr ⟨_, (wk W (.laysFinal "java/lang/String" "java/lang/String" "value" "[B"))⟩) (Or.inl ⟨rfl, hnm⟩) f1 (Or.inl rfl) bl13 (t := (.array .byte)) (by decide +kernel) rfl (g := (mkF m 54 #[.val (.ref a), .val (.ref b), .val (.int (Int32.ofNat o)), .val (.int (Int32.ofNat len)), .val .null, .val (.ref s.heap.size)] [.ref s.heap.size, .ref a])) rfl (rest := []) rfl (hb hbytes d54)
  have c16 : Steps p.tables e below (s₁.setTop (entryFrame m #[.ref a, .ref b, .int (Int32.ofNat o), .int (Int32.ofNat len), .null] 6)) (T15.setTop (mkF m 57 #[.val (.ref a), .val (.ref b), .val (.int (Int32.ofNat o)), .val (.int (Int32.ofNat len)), .val .null, .val (.ref s.heap.size)] [])) := c14.trans (st15 _ (Steps.refl _))
  have ap := apart (Or.inr ⟨_, (wk W (.laysFinal "java/lang/String" "java/lang/String" "value" "[B"))⟩) (Or.inr ⟨_, (wk W (.laysFinal "java/lang/String" "java/lang/String" "coder" "B"))⟩) f1 f2 (t₁ := .array .byte) (t₂ := .byte) (by decide +kernel) (by decide +kernel) (by decide)
  have al := X8.warmed.alike.symm.trans X15.warmed.alike
  have n7 : T11.heap[s.heap.size]? = some N := by rw [q11]; exact n1.1
  exact ⟨T15, none, _, _, _, X15, by simp, rfl, by omega, (fun _ => rfl), ⟨rfl, _, N, bl15, ((Same.refl D _).set _ (by simp)).set _ (by simp), sl15, (Cell.slots_setSlot_ne _ ap).trans sl13, n1.keep al (p15.other hne (p13.other hne n7)), n2, by rw [al.findClass]; exact n3, n4, n5, fun y c h1 h2 => p15.other h1 (p13.other h1 (by rw [q11]; exact n6 y c h2)), by rw [p15.2.2, p13.2.2, q11]; exact z8⟩, fun fs hl => c16.trans (X15.returnOut hexec hret (hb hbytes d57) hl)⟩
end New4
namespace New1
def yN : MethodName := ⟨"java/lang/String", "<init>", "([C)V"⟩
abbrev yB : ByteArray := jdk_42_method_3_code
theorem d0 : decode yB 0 = .ok (.aload_n 0, 1) := by decide +kernel
theorem d1 : decode yB 1 = .ok (.aload_n 1, 1) := by decide +kernel
theorem d2 : decode yB 2 = .ok (.iconst 0, 1) := by decide +kernel
theorem d3 : decode yB 3 = .ok (.aload_n 1, 1) := by decide +kernel
theorem d4 : decode yB 4 = .ok (.arraylength, 1) := by decide +kernel
theorem d5 : decode yB 5 = .ok (.aconst_null, 1) := by decide +kernel
theorem d6 : decode yB 6 = .ok (.invokespecial 27, 3) := by decide +kernel
theorem d9 : decode yB 9 = .ok (.return_, 1) := by decide +kernel
def site : List Cond := [New4.tab] ++ initW "java/lang/String" 27 New4.yN
def tab : Cond := tabOf yN yB 2 none site
def P (a : Addr) (D : Cell) (fV fC : Field) (b : Addr) (A : Cell) (z : Int32) (args : Array Value) (s : State) : Prop := args = #[.ref a, .ref b] ∧ Blank "java/lang/String" a D s ∧ Found "java/lang/String" "value" "[B" fV s ∧ Found "java/lang/String" "coder" "B" fC s ∧ Ch b A s ∧ StaticIs s "java/lang/String" "COMPACT_STRINGS" "Z" (.int z) ∧ ¬ z = 0 ∧ 0 < A.slots.size ∧ A.slots.size ≤ 536870912 ∧ ∀ i, i < A.slots.size → ¬ 255 < cv A i
def E (a : Addr) (D : Cell) (fV fC : Field) (A : Cell) (r : Option Value) (s u : State) : Prop := Got a D fV fC A 0 A.slots.size r s u
/-- new String(chars), not empty, no char above 255: a Latin-1 String of their low bytes -/
theorem law (l : Launch) (a : Addr) (D : Cell) (fV fC : Field) (b : Addr) (A : Cell) (z : Int32) : Law l yN 2 1 3 52 yB 2 none site (P a D fV fC b A z) (E a D fV fC A) [⟨a, fC.slot⟩, ⟨a, fV.slot⟩] 1 A.slots.size := by
  refine Law.of_walk (plainFor_of_name (by decide +kernel)) (by decide +kernel) (by decide +kernel) (by decide) (fun _ _ h => by rw [h.1]; rfl) (fun _ U U' hal hh h => ⟨h.1, h.2.1.mv hal hh, h.2.2.1.al hal, h.2.2.2.1.al hal, h.2.2.2.2.1.mv hal hh, h.2.2.2.2.2.1.there hal hh, h.2.2.2.2.2.2⟩) (fun r U U' V V' h1 hal h2 h => Got.mv r U U' V V' h1 hal h2 h) ?_
  intro p e s m args below meth c s₁ X0 hexec hbytes hml hret hlk hnm hown hh0 W hP
  obtain ⟨rfl, hB, f1, f2, hA, s1, hz, l0, l2, hp⟩ := hP
  have c1 : Steps p.tables e below (s₁.setTop (entryFrame m #[.ref a, .ref b] 2)) (s₁.setTop (mkF m 0 #[.val (.ref a), .val (.ref b)] [])) := entry rfl
  have c2 : Steps p.tables e below (s₁.setTop (entryFrame m #[.ref a, .ref b] 2)) (s₁.setTop (mkF m 6 #[.val (.ref a), .val (.ref b)] [.null, .int (Int32.ofNat A.slots.size), .int 0, .ref b, .ref a])) := c1.trans (by
    refine XS.aloadN X0.here hexec rfl (hb hbytes d0) rfl rfl ?_
    refine XS.aloadN X0.here hexec rfl (hb hbytes d1) rfl rfl ?_
    refine iconstV X0.here hexec rfl 0 (hb hbytes d2) (by decide) ?_
    refine XS.aloadN X0.here hexec rfl (hb hbytes d3) rfl rfl ?_
    refine X0.alen hexec (hA.1.mv X0.warmed.alike hh0) rfl rfl (hb hbytes d4) ?_
    refine XS.aconstNull X0.here hexec rfl (hb hbytes d5) ?_
    exact Steps.refl _)
  obtain ⟨v3, T3, X3, E3, g3⟩ := X0.callN hexec (New4.law l a D fV fC b A z 0 A.slots.size) rfl hown (wks W (initW "java/lang/String" 27 New4.yN)) (W New4.tab (by simp only [site, List.mem_cons, List.mem_append, true_or, or_true])) (W := 0) (Nat.le_of_ble_eq_true rfl) (Nat.le_of_ble_eq_true rfl) (Nat.le_refl _) (by show 0 + A.slots.size ≤ A.slots.size; omega) (g := (mkF m 6 #[.val (.ref a), .val (.ref b)] [.null, .int (Int32.ofNat A.slots.size), .int (Int32.ofNat 0), .ref b, .ref a])) rfl (by rw [hml]; rfl) c2 (argsL := [.ref b, .int (Int32.ofNat 0), .int (Int32.ofNat A.slots.size), .null]) (rest := []) rfl rfl (by show 2 * 0 + 0 ≤ _; decide) (hb hbytes d6) (⟨rfl, hB.mv X0.warmed.alike hh0, f1.al X0.warmed.alike, f2.al X0.warmed.alike, hA.mv X0.warmed.alike hh0, s1.there X0.warmed.alike hh0, hz, l0, by omega, l2, fun i hi => by rw [Nat.zero_add]; exact hp i hi⟩)
  have e0 := Got.mv _ s₁ s _ _ hh0.symm (Vm.Alike.refl _) rfl E3
  obtain rfl := e0.1
  have c4 : Steps p.tables e below (s₁.setTop (entryFrame m #[.ref a, .ref b] 2)) (T3.setTop (mkF m 9 #[.val (.ref a), .val (.ref b)] [])) := g3
  exact ⟨T3, none, _, _, _, X3, by simp, rfl, by omega, (fun _ => rfl), e0, fun fs hl => c4.trans (X3.returnOut hexec hret (hb hbytes d9) hl)⟩
theorem pays {l : Launch} {R : Room} {p : Program} {e : Env} {below : List Frame} {s : State} {sargs : Array Value} {len W : Nat} (a : Addr) (D : Cell) (fV fC : Field) (b : Addr) (A : Cell) (z : Int32) (htab : tab.before sargs s = true) (hfr : 4 ≤ R.frames) (hlo : W + 65 ≤ R.locals) :
    Back l R p e below s sargs yN len W (fun A₁ a₁ => A₁.cells + 1 ≤ R.cells ∧ A₁.slots + A.slots.size ≤ R.slots ∧ P a D fV fC b A z a₁ A₁.U) (fun A₁ _ v₁ B₁ => E a D fV fC A v₁ A₁.U B₁.U ∧ B₁.locs = A₁.locs ++ [⟨a, fC.slot⟩, ⟨a, fV.slot⟩] ∧ B₁.cells = A₁.cells + 1 ∧ B₁.slots = A₁.slots + A.slots.size) :=
  (law l a D fV fC b A z).pays htab hfr (by omega)
end New1
/-- the byte, read back as charAt reads it, is the char -/
theorem lo8_mask {x : Int32} (h0 : ¬ x < 0) (h1 : ¬ 255 < x) : lo8 x &&& 255 = x := by
  have t : ∀ k : Fin 256, lo8 (Int32.ofNat k.val) &&& 255 = Int32.ofNat k.val := by decide +kernel
  rw [Int32.lt_iff_toInt_lt] at h0 h1
  have e0 : (0 : Int32).toInt = 0 := rfl
  have e1 : (255 : Int32).toInt = 255 := rfl
  obtain ⟨k, hk⟩ : ∃ k : Nat, x.toInt = k := ⟨x.toInt.toNat, by omega⟩
  have hx : x = Int32.ofNat k := Int32.toInt_inj.mp (by rw [hk, Int32.toInt_ofNat_small (by omega)])
  rw [hx]
  exact t ⟨k, by omega⟩
end StrChars
namespace StrChars.Road
open Jvm Sem ClassFile Op Lib Jvm.Stand Jvm.Free Jvm.Free.XT
open Jvm.Lib.Cold (StaticIs)
abbrev ST : String := "java/lang/String"
/-- every table word that New1's law asks, flat -/
abbrev words : List Jvm.Cond := [.code New1.yN New1.yB 2 none, .initialized ST, .methodLink ST 27 New4.yN, .instanceMethod New4.yN,
  .code New4.yN New4.yB 6 none, .fieldLink ST 38 ST "COMPACT_STRINGS" "Z", .laysFinal ST ST "value" "[B", .fieldLink ST 9 ST "value" "[B", .laysFinal ST ST "coder" "B", .fieldLink ST 15 ST "coder" "B",
  .methodLink ST 1 Lib.objectInit, .instanceMethod Lib.objectInit, .code Lib.objectInit ⟨#[0xb1]⟩ 1 none, .methodLink ST 177 Cmp3.yN, .static Cmp3.yN, .methodLink ST 47 CodL.yN, .static CodL.yN,
  .code Cmp3.yN Cmp3.yB 6 (some (.array .byte)), .initialized U16, .arrayClass .byte, .methodLink U16 115 Cmp5.yN, .static Cmp5.yN, .code Cmp5.yN Cmp5.yB 7 (some .int), .code CodL.yN CodL.yB 2 (some .byte)]
theorem tab_of {a : Array Value} {s : State} (h : ∀ w ∈ words, w.before a s = true) : New1.tab.before a s = true := by
  have h5 : Cmp5.tab.before a s = true := unparts (wk h (.code Cmp5.yN Cmp5.yB 7 (some .int))) (wks h (.initialized Cmp5.yN.cls :: Cmp5.site))
  have hc : CodL.tab.before a s = true := unparts (wk h (.code CodL.yN CodL.yB 2 (some .byte))) (wks h (.initialized CodL.yN.cls :: CodL.site))
  have q5 : ∀ w ∈ Cmp5.tab :: words, w.before a s = true := fun w hw => (List.mem_cons.mp hw).elim (fun e => e ▸ h5) (h w)
  have h3 : Cmp3.tab.before a s = true := unparts (wk q5 (.code Cmp3.yN Cmp3.yB 6 (some (.array .byte)))) (wks q5 (.initialized Cmp3.yN.cls :: Cmp3.site))
  have q3 : ∀ w ∈ Cmp3.tab :: CodL.tab :: words, w.before a s = true := fun w hw => (List.mem_cons.mp hw).elim (fun e => e ▸ h3) fun hw => (List.mem_cons.mp hw).elim (fun e => e ▸ hc) (h w)
  have h4 : New4.tab.before a s = true := unparts (wk q3 (.code New4.yN New4.yB 6 none)) (wks q3 (.initialized New4.yN.cls :: New4.site))
  have q4 : ∀ w ∈ New4.tab :: words, w.before a s = true := fun w hw => (List.mem_cons.mp hw).elim (fun e => e ▸ h4) (h w)
  exact unparts (wk q4 (.code New1.yN New1.yB 2 none)) (wks q4 (.initialized New1.yN.cls :: New1.site))
/-- the words ride from the start Z to the walk's own state -/
theorem moved {Z s : State} {a0 args : Array Value} (hZ : Z.Warmed39 s.vm) (hw : ∀ d ∈ words, d.before a0 Z = true) : ∀ d ∈ words, d.before args s = true := fun d hd => by
  have q := hw d hd
  have t : ∀ d ∈ words, d = .arrayClass .byte ∨ (d.onTables && d.keepsFace) = true := by decide +kernel
  rcases t d hd with rfl | t
  · exact RoadKit.mvA hZ q
  · exact RoadKit.mv hZ q t
/-- WHAT COMES BACK, over the tables of the start Z: h the heap at the call, h' behind it -/
def Q (Z : State) (x : Addr) (A : Cell) (h : Heap) (v : Option Value) (h' : Heap) (L : List Loc) : Prop := v = none ∧ (∀ y ∈ L, y.base = x) ∧ RoadKit.Keep h h' [x] ∧ h'.size = h.size + 1 ∧ RoadKit.Exa Z h' x ST ∧ RoadKit.Fld Z h' x ST "value" "[B" (.ref h.size) ∧ RoadKit.Fld Z h' x ST "coder" "B" (.int 0) ∧
  (∃ V : Cell, RoadKit.Arr Z h' h.size V .byte ∧ V.vm = .none ∧ Z.vm.findClass "[B" = some V.cls ∧ V.slots.size = A.slots.size ∧ ∀ j, j < A.slots.size → V.slots[j]? = some (.int (lo8 (cv A j)))) ∧
  ∀ (O n d : String) (w : Value), RoadKit.Fld Z h x O n d w → RoadKit.slotOf Z O n d ≠ RoadKit.slotOf Z ST "value" "[B" → RoadKit.slotOf Z O n d ≠ RoadKit.slotOf Z ST "coder" "B" → RoadKit.Fld Z h' x O n d w
/-- **new String(chars) AT A CALL, IN THE ROAD'S FORM**: for specialBack behind newO: x the fresh String, b the char[] with the cell A -/
theorem back {p : Program} {l : Launch} {e : Env} {R : Room} {s : State} {args : Array Value} {below : List Frame} {len W : Nat} {Z : State} {a0 : Array Value} {h : Heap} (hZ : Z.Warmed39 s.vm) (hw : ∀ d ∈ words, d.before a0 Z = true) {kI : Nat} (wi : (Jvm.Cond.instantiable ST kI).before a0 Z = true)
    {x b : Addr} {A : Cell} {z : Int32} {v0 c0 : Value} (E : RoadKit.Exa Z h x ST) (V : RoadKit.Fld Z h x ST "value" "[B" v0) (C : RoadKit.Fld Z h x ST "coder" "B" c0) (K : RoadKit.Arr Z h b A .char) (hty : Typed .char A) (S : RoadKit.Sta Z h ST "COMPACT_STRINGS" "Z" (.int z)) (hz : ¬ z = 0)
    (l0 : 0 < A.slots.size) (l2 : A.slots.size ≤ 536870912) (hp : ∀ i, i < A.slots.size → ¬ 255 < cv A i) (hfr : 4 ≤ R.frames) (hlo : W + 65 ≤ R.locals) :
    Back l R p e below s args New1.yN len W (fun P a => a = #[.ref x, .ref b] ∧ P.U.heap = h ∧ P.cells + 1 ≤ R.cells ∧ P.slots + A.slots.size ≤ R.slots)
      (fun P _ v B => ∃ L, Q Z x A h v B.U.heap L ∧ B.locs = P.locs ++ L ∧ B.cells = P.cells + 1 ∧ B.slots = P.slots + A.slots.size) := by
  intro m meth c P g ig mk a X hg hsize hdg hW hn hp'
  obtain ⟨rfl, rfl, r1, r2⟩ := hp'
  have al : Z.vm.Alike P.U.vm := hZ.alike.trans X.warmed.alike
  obtain ⟨D, cfV, kV, iV, fV, hD, gV, stV, knV, obV, asV, slV⟩ := id V
  obtain ⟨D', cfC, kC, iC, fC, hD', gC, stC, -, -, asC, slC⟩ := id C
  cases hD.symm.trans hD'
  obtain ⟨D2, kD, e1, e2, e3, e4, e5⟩ := id E
  cases hD.symm.trans e1
  obtain ⟨c2, k2, i1, i2, i3, -⟩ := Cond.instantiable_spec wi
  cases e2.symm.trans i1
  cases e3.symm.trans i2
  obtain ⟨kU, u1, u2⟩ := al.2.2 _ _ e3
  have hB : Blank ST x D P.U := ⟨hD, ⟨knV, fun q hq => by rw [hq] at obV; cases obV⟩, by rw [al.findClass]; exact e2, kU, u1, by rw [u2]; exact i3, by rw [u2]; exact e5 i3⟩
  have F1 : Found ST "value" "[B" fV P.U := ⟨SBG.found_only al ⟨cfV, kV, iV, gV⟩, stV⟩
  have F2 : Found ST "coder" "B" fC P.U := ⟨SBG.found_only al ⟨cfC, kC, iC, gC⟩, stC⟩
  have hA : Ch b A P.U := ⟨⟨K.1, State.isArrayOf_alike al K.2.1, K.2.2, by omega⟩, hty⟩
  have hS : StaticIs P.U ST "COMPACT_STRINGS" "Z" (.int z) := by
    obtain ⟨cfS, iS, kS, fS, st, cS, t1, t2, t3, t4, t5, t6, t7⟩ := S
    exact StaticIs.there (s := { Z with heap := P.U.heap }) ⟨cfS, iS, kS, fS, st, cS, t1, t2, t3, t4, t5, (fun q => by rw [q] at t6; cases t6), t7⟩ al rfl
  obtain ⟨v, B, X', ⟨⟨hv, E', V', q1, q2, q3, q4, q5, q6, q7, q8, q9, q10, q11⟩, hl, hc, hs⟩, st⟩ := New1.pays x D fV fC b A z (tab_of (moved hZ hw)) hfr hlo m meth c P g ig mk _ X hg hsize hdg hW hn ⟨r1, r2, rfl, hB, F1, F2, hA, hS, hz, l0, l2, hp⟩
  have al' : Z.vm.Alike B.U.vm := hZ.alike.trans X'.warmed.alike
  have hsz : E'.slots.size = D.slots.size := by
    obtain ⟨-, -, -, kB, w1, w2, w3⟩ := q1
    obtain ⟨kB', y1, y2⟩ := al'.2.2 _ _ e3
    rw [q2.2.1] at w1
    cases w1.symm.trans y1
    rw [w3, e5 i3, y2]
  refine ⟨v, B, X', ⟨_, ⟨hv, ?_, ⟨by omega, fun y cy hy hn' => q10 y cy (by simpa using hn') hy, fun y cy hy => ?_⟩, q11, ⟨E', _, q1.1, by rw [q2.2.1]; exact e2, by rw [q2.2.1]; exact e3, by rw [q2.1]; exact obV, fun _ => by rw [hsz]; exact e5 i3⟩,
    ⟨E', cfV, kV, iV, fV, q1.1, gV, stV, by rw [q2.1]; exact knV, by rw [q2.1]; exact obV, by rw [q2.2.1]; exact asV, q3⟩, ⟨E', cfC, kC, iC, fC, q1.1, gC, stC, by rw [q2.1]; exact knV, by rw [q2.1]; exact obV, by rw [q2.2.1]; exact asC, q4⟩,
    ⟨V', ⟨q5.1, State.isArrayOf_alike al'.symm q5.2.1, q5.2.2.1⟩, q6, by rw [← al'.findClass]; exact q7, q8, fun j hj => by have := q9 j hj; rwa [Nat.zero_add] at this⟩, fun O n d w F n1 n2 => ?_⟩, hl, hc, hs⟩, st⟩
  · intro y hy
    simp only [List.mem_cons, List.not_mem_nil, or_false] at hy
    rcases hy with rfl | rfl <;> rfl
  · by_cases q : y = x
    · subst q
      cases hD.symm.trans hy
      exact ⟨E', q1.1, q2.2.1, q2.1, hsz⟩
    · exact ⟨cy, q10 y cy q hy, rfl, rfl, rfl⟩
  · obtain ⟨D3, cf, k, i, f, g1, g2, g3, g4, g5, g6, g7⟩ := F
    cases hD.symm.trans g1
    simp only [RoadKit.slotOf, g2, gV, gC, Option.map_some, Option.getD_some] at n1 n2
    exact ⟨E', cf, k, i, f, q1.1, g2, g3, by rw [q2.1]; exact g4, by rw [q2.1]; exact g5, by rw [q2.2.1]; exact g6, by rw [q2.2.2 f.slot (by simp [n1, n2])]; exact g7⟩
end StrChars.Road
namespace StrChars.Road
open Jvm Sem ClassFile Op Lib Jvm.Stand Jvm.Free Jvm.Free.XT
/-- WHAT COMES BACK, the byte[] as a list of values -/
def QA (Z : State) (x : Addr) (zn : Int32) (cs : List Int32) (h : Heap) (v : Option Value) (h' : Heap) (L : List Loc) : Prop := v = none ∧ (∀ y ∈ L, y.base = x) ∧ RoadKit.Keep h h' [x] ∧ h'.size = h.size + 1 ∧ RoadKit.Exa Z h' x ST ∧ RoadKit.Fld Z h' x ST "value" "[B" (.ref h.size) ∧ RoadKit.Fld Z h' x ST "coder" "B" (.int 0) ∧
  (∃ kb, Z.vm.findClass "[B" = some kb ∧ RoadKit.Arv Z h' h.size kb .byte zn (cs.map fun c => .int (lo8 c)) (.int 0)) ∧
  ∀ (O n d : String) (w : Value), RoadKit.Fld Z h x O n d w → RoadKit.slotOf Z O n d ≠ RoadKit.slotOf Z ST "value" "[B" → RoadKit.slotOf Z O n d ≠ RoadKit.slotOf Z ST "coder" "B" → RoadKit.Fld Z h' x O n d w
/-- **new String(chars) AT A CALL, THE ARRAYS AS LISTS**: the char[] at b holds cs, not empty, no char above 255 -/
theorem backArv {p : Program} {l : Launch} {e : Env} {R : Room} {s : State} {args : Array Value} {below : List Frame} {len W : Nat} {Z : State} {a0 : Array Value} {h : Heap} (hZ : Z.Warmed39 s.vm) (hw : ∀ d ∈ words, d.before a0 Z = true) {kI : Nat} (wi : (Jvm.Cond.instantiable ST kI).before a0 Z = true)
    {x b : Addr} {k : ClassId} {zn z : Int32} {cs : List Int32} {dv v0 c0 : Value} (E : RoadKit.Exa Z h x ST) (V : RoadKit.Fld Z h x ST "value" "[B" v0) (C : RoadKit.Fld Z h x ST "coder" "B" c0) (K : RoadKit.Arv Z h b k .char zn (cs.map Value.int) dv) (S : RoadKit.Sta Z h ST "COMPACT_STRINGS" "Z" (.int z)) (hz : ¬ z = 0)
    (hlen : zn.toNatClampNeg = cs.length) (h0 : 0 < cs.length) (hbig : cs.length ≤ 536870912) (hall : ∀ c ∈ cs, ¬ 255 < c) (hfr : 4 ≤ R.frames) (hlo : W + 65 ≤ R.locals) :
    Back l R p e below s args New1.yN len W (fun P a => a = #[.ref x, .ref b] ∧ P.U.heap = h ∧ P.cells + 1 ≤ R.cells ∧ P.slots + cs.length ≤ R.slots)
      (fun P _ v B => ∃ L, QA Z x zn cs h v B.U.heap L ∧ B.locs = P.locs ++ L ∧ B.cells = P.cells + 1 ∧ B.slots = P.slots + cs.length) := by
  obtain ⟨A, K1, K2, K3, K4, K5, K6⟩ := K
  have e : A.slots.size = cs.length := K3.trans hlen
  have hat : ∀ (i : Nat) (hi : i < cs.length), A.slots[i]? = some (.int cs[i]) := fun i hi => by rw [K5 i (by omega)]; simp [List.getD_eq_getElem?_getD, hi]
  have hcv : ∀ (i : Nat) (hi : i < cs.length), cv A i = cs[i] := fun i hi => by unfold cv; rw [hat i hi]
  have hty : Typed .char A := fun i v hv => by
    have hi : i < A.slots.size := (Array.getElem?_eq_some_iff.mp hv).1
    have q := K5 i hi
    rw [hv] at q
    rw [Option.some.inj q]
    exact K6 i hi
  refine Back.mono (back hZ hw wi E V C K1 hty S hz (by omega) (by omega) (fun i hi => by rw [hcv i (by omega)]; exact hall _ (List.getElem_mem _)) hfr hlo) (fun P a hp => ⟨hp.1, hp.2.1, hp.2.2.1, by rw [e]; exact hp.2.2.2⟩) (fun P a v B hp hq => ?_)
  obtain ⟨L, ⟨q1, q2, q3, q4, q5, q6, q7, ⟨V', v1, v2, v3, v4, v5⟩, q9⟩, hl, hc, hs⟩ := hq
  refine ⟨L, ⟨q1, q2, q3, q4, q5, q6, q7, ⟨V'.cls, v3, V', v1, rfl, by rw [v4, e, hlen], K4, fun i hi => ?_, fun i hi => ?_⟩, q9⟩, hl, hc, by rw [hs, e]⟩
  · have hi' : i < cs.length := by omega
    rw [v5 i (by omega), hcv i hi']; simp [List.getD_eq_getElem?_getD, hi']
  · have hi' : i < cs.length := by omega
    simp only [List.getD_eq_getElem?_getD, List.getElem?_map, List.getElem?_eq_getElem hi', Option.map_some, Option.getD_some]
    exact fits_lo8 _
end StrChars.Road
namespace StrChars.Road
open Jvm Sem ClassFile Op Lib Jvm.Stand Jvm.Free Jvm.Free.XT
/-- WHAT COMES BACK, in the writer's own shape -/
def QV (Z : State) (x : Addr) (N : Int32) (bs : List Int32) (h : Heap) (n0 : Nat) (v : Option Value) (h' : Heap) (L : List Loc) : Prop := v = none ∧ RoadKit.Fr n0 L ∧ RoadKit.Keep h h' [x] ∧ RoadKit.Exa Z h' x ST ∧ RoadKit.Fld Z h' x ST "coder" "B" (.int 0) ∧
  ∃ (t : Addr) (kb : ClassId), n0 ≤ t ∧ h.size ≤ t ∧ ¬ t = x ∧ RoadKit.Fld Z h' x ST "value" "[B" (.ref t) ∧ RoadKit.Arv Z h' t kb .byte N (bs.map Value.int) (.int 0)
/-- **new String(chars) AT A CALL, FOR THE WRITER**: a char[] of n known ints, each 0 to 255 -/
theorem backV {p : Program} {l : Launch} {e : Env} {R : Room} {s : State} {args : Array Value} {below : List Frame} {len W : Nat} {Z : State} {a0 : Array Value} {h : Heap} (hZ : Z.Warmed39 s.vm) (hw : ∀ d ∈ words, d.before a0 Z = true) {kI : Nat} (wi : (Jvm.Cond.instantiable ST kI).before a0 Z = true)
    {x b : Addr} {kC : ClassId} {cs bs : List Int32} {d v0 c0 : Value} {z N : Int32} {n n0 : Nat} (hx0 : n0 ≤ x) (hh0 : n0 ≤ h.size) (E : RoadKit.Exa Z h x ST) (V : RoadKit.Fld Z h x ST "value" "[B" v0) (C : RoadKit.Fld Z h x ST "coder" "B" c0) (K : RoadKit.Arv Z h b kC .char N (cs.map Value.int) d) (S : RoadKit.Sta Z h ST "COMPACT_STRINGS" "Z" (.int z)) (hz : ¬ z = 0)
    (hn : cs.length = n) (hN : N = Int32.ofNat n) (l0 : 0 < n) (l2 : n ≤ 4000) (hp : ∀ c ∈ cs, ¬ c < 0 ∧ ¬ (255 : Int32) < c) (hb : bs = cs.map (fun c => c.toInt8.toInt32)) (hfr : 4 ≤ R.frames) (hlo : W + 65 ≤ R.locals) :
    Back l R p e below s args (⟨"java/lang/String", "<init>", "([C)V"⟩ : MethodName) len W (fun P a => a = #[.ref x, .ref b] ∧ P.U.heap = h ∧ P.cells + 1 ≤ R.cells ∧ P.slots + n ≤ R.slots)
      (fun P _ v B => ∃ L, QV Z x N bs h n0 v B.U.heap L ∧ B.locs = P.locs ++ L ∧ B.cells = P.cells + 1 ∧ B.slots = P.slots + n) := by
  subst hn hN hb
  refine Back.mono (backArv hZ hw wi E V C K S hz (n32 (by omega)) l0 (by omega) (fun c hc => (hp c hc).2) hfr hlo) (fun P a hp => hp) (fun P a v B hp hq => ?_)
  obtain ⟨L, ⟨q1, q2, q3, q4, q5, q6, q7, ⟨kb, v1, v2⟩, q9⟩, hl, hc, hs⟩ := hq
  exact ⟨L, ⟨q1, fun y hy => by rw [q2 y hy]; exact hx0, q3, q5, q7, h.size, kb, hh0, Nat.le_refl _, Nat.ne_of_gt E.lt, q6, by rw [List.map_map]; exact v2⟩, hl, hc, hs⟩
end StrChars.Road
namespace StrChars
open Jvm Sem ClassFile Op Lib Jvm.Stand Jvm.Free.XT Jvm.Free.ALB Jvm.Free.JM Jvm.Free
open Jvm.Lib.Cold (StaticIs)
def hi8 (x : Int32) : Int32 := lo8 (x >>> ((8 : Int32) &&& 31))
/-- what StringUTF16.getChar makes of two bytes -/
def pairCh (u v : Int32) : Int32 := (((u &&& 255) <<< ((0 : Int32) &&& 31)) ||| ((v &&& 255) <<< ((8 : Int32) &&& 31))).toUInt32.toUInt16.toUInt32.toInt32
theorem lo8_and (x : Int32) : (lo8 x &&& 255).toBitVec.toNat = x.toBitVec.toNat % 256 := by
  have h : (lo8 x).toBitVec = (x.toBitVec.signExtend 8).signExtend 32 := by rw [lo8, Int8.toBitVec_toInt32, Int32.toBitVec_toInt8]
  rw [Int32.toBitVec_and, BitVec.toNat_and, h]
  have e : ((x.toBitVec.signExtend 8).signExtend 32).toNat % 256 = x.toBitVec.toNat % 256 := by
    rw [BitVec.toNat_signExtend]
    have hlt := x.toBitVec.isLt
    simp only [BitVec.toNat_setWidth, BitVec.toNat_signExtend]
    split <;> split <;> omega
  rw [← e]
  exact Nat.and_two_pow_sub_one_eq_mod _ 8
theorem pair_says {c : Int32} (h0 : ¬ c < 0) (h1 : ¬ 65535 < c) : pairCh (lo8 c) (hi8 c) = c := by
  rw [Int32.lt_iff_toInt_lt] at h0 h1
  have e0 : (0 : Int32).toInt = 0 := rfl
  have e1 : (65535 : Int32).toInt = 65535 := rfl
  have hc : c.toInt = c.toBitVec.toNat := by
    have := c.toBitVec.isLt
    have e : c.toInt = c.toBitVec.toInt := rfl
    rw [e] at h0 h1
    rw [e]
    rw [BitVec.toInt_eq_toNat_cond] at h0 h1 ⊢
    split at h0 <;> split <;> omega
  have hn : c.toBitVec.toNat < 65536 := by omega
  have a1 := lo8_and c
  have a2 : (hi8 c &&& 255).toBitVec.toNat = c.toBitVec.toNat / 256 := by
    rw [hi8, lo8_and]
    have e : ((8 : Int32) &&& 31) = 8 := by decide
    rw [e, Int32.toBitVec_shiftRight]
    have e2 : ((8 : Int32).toBitVec.smod 32) = 8#32 := by decide
    rw [e2, BitVec.sshiftRight_eq', BitVec.toNat_sshiftRight_of_msb_false (by rw [BitVec.msb_eq_false_iff_two_mul_lt]; omega)]
    show c.toBitVec.toNat >>> 8 % 256 = _
    rw [Nat.shiftRight_eq_div_pow]
    omega
  unfold pairCh
  apply Int32.toBitVec_inj.mp
  apply BitVec.eq_of_toNat_eq
  have f0 : ((0 : Int32) &&& 31) = 0 := by decide
  have f8 : ((8 : Int32) &&& 31) = 8 := by decide
  rw [f0, f8]
  have g : (((lo8 c &&& 255) <<< (0 : Int32)) ||| ((hi8 c &&& 255) <<< (8 : Int32))).toBitVec.toNat = c.toBitVec.toNat := by
    rw [Int32.toBitVec_or, Int32.toBitVec_shiftLeft, Int32.toBitVec_shiftLeft]
    have s0 : ((0 : Int32).toBitVec.smod 32) = 0#32 := by decide
    have s8 : ((8 : Int32).toBitVec.smod 32) = 8#32 := by decide
    rw [s0, s8, BitVec.toNat_or]
    simp only [BitVec.shiftLeft_eq', BitVec.toNat_shiftLeft, a1, a2]
    show (c.toBitVec.toNat % 256) <<< 0 % 2 ^ 32 ||| (c.toBitVec.toNat / 256) <<< 8 % 2 ^ 32 = _
    rw [Nat.shiftLeft_zero, Nat.mod_eq_of_lt (show c.toBitVec.toNat % 256 < 2 ^ 32 by omega), Nat.mod_eq_of_lt (show (c.toBitVec.toNat / 256) <<< 8 < 2 ^ 32 by rw [Nat.shiftLeft_eq]; omega), Nat.or_comm, ← Nat.shiftLeft_add_eq_or_of_lt (by omega), Nat.shiftLeft_eq]
    omega
  show BitVec.toNat (((((lo8 c &&& 255) <<< (0 : Int32)) ||| ((hi8 c &&& 255) <<< (8 : Int32))).toBitVec.setWidth 16).setWidth 32) = _
  rw [BitVec.toNat_setWidth, BitVec.toNat_setWidth, g]
  omega
end StrChars
namespace StrChars
open Jvm Sem ClassFile Op Lib Jvm.Stand Jvm.Free.XT Jvm.Free.ALB Jvm.Free.JM Jvm.Free
open Jvm.Lib.Cold (StaticIs)
/-- the array's cell V codes the n chars f 0 .. f (n - 1) by the coder cd, as the JDK does: coder 1 just where some char is above 255 -/
def Cod (cd : Int32) (n : Nat) (f : Nat → Int32) (V : Cell) : Prop := (cd = 0 ∧ V.slots.size = n ∧ ∀ j, j < n → V.slots[j]? = some (.int (lo8 (f j))) ∧ ¬ 255 < f j) ∨ (cd = 1 ∧ V.slots.size = 2 * n ∧ (∀ j, j < n → V.slots[2 * j]? = some (.int (lo8 (f j))) ∧ V.slots[2 * j + 1]? = some (.int (hi8 (f j)))) ∧ ∃ j, j < n ∧ 255 < f j)
/-- **x is a String of the n chars f 0 .. f (n - 1)**, Latin-1 or UTF-16; its array at t has the cell V -/
def Txt (x t : Addr) (V : Cell) (cd : Int32) (n : Nat) (f : Nat → Int32) (U : State) : Prop := Exact "java/lang/String" x U ∧ Has x "java/lang/String" "value" "[B" (.ref t) U ∧ Has x "java/lang/String" "coder" "B" (.int cd) U ∧ XT.Arr .byte t V U ∧ Cod cd n f V ∧ ∀ j, j < n → ¬ f j < 0 ∧ ¬ 65535 < f j
theorem Txt.mv {x t : Addr} {V : Cell} {cd : Int32} {n : Nat} {f : Nat → Int32} {U U' : State} (h : Txt x t V cd n f U) (hal : U.vm.Alike U'.vm) (hh : U'.heap = U.heap) : Txt x t V cd n f U' := ⟨h.1.mv hal hh, h.2.1.mv hal hh, h.2.2.1.mv hal hh, h.2.2.2.1.mv hal hh, h.2.2.2.2⟩
end StrChars
namespace StrChars.Road
open Jvm Sem ClassFile Op Lib Jvm.Stand Jvm.Free Jvm.Free.XT
open Jvm.Lib.Cold (StaticIs)
theorem consq {a : Array Value} {s : State} {c : Jvm.Cond} {L : List Jvm.Cond} (h0 : c.before a s = true) (h : ∀ w ∈ L, w.before a s = true) : ∀ w ∈ c :: L, w.before a s = true := fun w hw => (List.mem_cons.mp hw).elim (fun e => e ▸ h0) (h w)
/-- the bytes of the chars cs, low before high -/
def wideBytes : List Int32 → List Value
  | [] => []
  | c :: cs => .int (lo8 c) :: .int (hi8 c) :: wideBytes cs
theorem wide_lo (d : Value) : ∀ (cs : List Int32) (j : Nat), j < cs.length → (wideBytes cs).getD (2 * j) d = .int (lo8 (cs.getD j 0))
  | [], j, h => absurd h (Nat.not_lt_zero j)
  | c :: cs, 0, _ => rfl
  | c :: cs, j + 1, h => by
    have q := wide_lo d cs j (by simpa using h)
    rw [show 2 * (j + 1) = 2 * j + 1 + 1 from by omega]
    simpa [wideBytes] using q
theorem wide_hi (d : Value) : ∀ (cs : List Int32) (j : Nat), j < cs.length → (wideBytes cs).getD (2 * j + 1) d = .int (hi8 (cs.getD j 0))
  | [], j, h => absurd h (Nat.not_lt_zero j)
  | c :: cs, 0, _ => rfl
  | c :: cs, j + 1, h => by
    have q := wide_hi d cs j (by simpa using h)
    rw [show 2 * (j + 1) + 1 = 2 * j + 1 + 1 + 1 from by omega]
    simpa [wideBytes] using q
theorem low_at (d : Value) (cs : List Int32) (j : Nat) (h : j < cs.length) : (cs.map fun c => Value.int (lo8 c)).getD j d = .int (lo8 (cs.getD j 0)) := by
  simp [List.getD_eq_getElem?_getD, h]
/-- an array of N2 bytes vs codes the chars cs by the coder cd -/
def CodA (cs : List Int32) (cd N2 : Int32) (vs : List Value) : Prop := (cd = 0 ∧ N2 = Int32.ofNat cs.length ∧ vs = (cs.map fun c => Value.int (lo8 c)) ∧ ∀ c ∈ cs, ¬ 255 < c) ∨ (cd = 1 ∧ N2 = Int32.ofNat (2 * cs.length) ∧ vs = wideBytes cs ∧ ∃ c ∈ cs, 255 < c)
theorem CodA.cod {cs : List Int32} {cd N2 : Int32} {vs : List Value} {V : Cell} (h : CodA cs cd N2 vs) (hn : 2 * cs.length < 2 ^ 31) (hs : V.slots.size = N2.toNatClampNeg) (hv : RoadKit.Has V vs (.int 0)) : Cod cd cs.length (fun j => cs.getD j 0) V := by
  rcases h with ⟨rfl, rfl, rfl, h⟩ | ⟨rfl, rfl, rfl, c, hc, hw⟩
  · rw [n32 (by omega)] at hs
    exact Or.inl ⟨rfl, hs, fun j hj => ⟨by rw [hv j (by omega), low_at _ _ _ hj], by
      have e : cs.getD j 0 = cs[j] := by simp [List.getD_eq_getElem?_getD, hj]
      show ¬ 255 < cs.getD j 0
      rw [e]; exact h _ (List.getElem_mem _)⟩⟩
  · rw [n32 (by omega)] at hs
    obtain ⟨j, hj, rfl⟩ := List.getElem_of_mem hc
    exact Or.inr ⟨rfl, hs, fun j hj => ⟨by rw [hv _ (by omega), wide_lo _ _ _ hj], by rw [hv _ (by omega), wide_hi _ _ _ hj]⟩, j, hj, by
      have e : cs.getD j 0 = cs[j] := by simp [List.getD_eq_getElem?_getD, hj]
      show 255 < cs.getD j 0
      rw [e]; exact hw⟩
/-- an object of exactly java/lang/String, its two fields found: as the laws ask it -/
theorem strObj {Z U : State} {a0 : Array Value} {kI : Nat} (wi : (Jvm.Cond.instantiable ST kI).before a0 Z = true) (al : Z.vm.Alike U.vm) {x : Addr} {v0 c0 : Value} (E : RoadKit.Exa Z U.heap x ST) (V : RoadKit.Fld Z U.heap x ST "value" "[B" v0) (C : RoadKit.Fld Z U.heap x ST "coder" "B" c0) :
    ∃ (D : Cell) (fV fC : Field), Blank ST x D U ∧ Found ST "value" "[B" fV U ∧ Found ST "coder" "B" fC U ∧ D.slots[fV.slot]? = some v0 ∧ D.slots[fC.slot]? = some c0 ∧ RoadKit.slotOf Z ST "value" "[B" = fV.slot ∧ RoadKit.slotOf Z ST "coder" "B" = fC.slot := by
  obtain ⟨D, cfV, kV, iV, fV, hD, gV, stV, knV, obV, asV, slV⟩ := V
  obtain ⟨D', cfC, kC, iC, fC, hD', gC, stC, -, -, asC, slC⟩ := C
  cases hD.symm.trans hD'
  obtain ⟨D2, kD, e1, e2, e3, e4, e5⟩ := E
  cases hD.symm.trans e1
  obtain ⟨c2, k2, i1, i2, i3, -⟩ := Cond.instantiable_spec wi
  cases e2.symm.trans i1
  cases e3.symm.trans i2
  obtain ⟨kU, u1, u2⟩ := al.2.2 _ _ e3
  exact ⟨D, fV, fC, ⟨hD, ⟨knV, fun q hq => by rw [hq] at obV; cases obV⟩, by rw [al.findClass]; exact e2, kU, u1, by rw [u2]; exact i3, by rw [u2]; exact e5 i3⟩, ⟨SBG.found_only al ⟨cfV, kV, iV, gV⟩, stV⟩, ⟨SBG.found_only al ⟨cfC, kC, iC, gC⟩, stC⟩, slV, slC, by simp [RoadKit.slotOf, gV], by simp [RoadKit.slotOf, gC]⟩
theorem sta_is {Z U : State} (al : Z.vm.Alike U.vm) {C n d : String} {v : Value} (S : RoadKit.Sta Z U.heap C n d v) : StaticIs U C n d v := by
  obtain ⟨cfS, iS, kS, fS, st, cS, t1, t2, t3, t4, t5, t6, t7⟩ := S
  exact StaticIs.there (s := { Z with heap := U.heap }) ⟨cfS, iS, kS, fS, st, cS, t1, t2, t3, t4, t5, (fun q => by rw [q] at t6; cases t6), t7⟩ al rfl
end StrChars.Road
namespace StrChars
open Jvm Sem ClassFile Op Lib Jvm.Stand Jvm.Free.XT Jvm.Free.ALB Jvm.Free.JM Jvm.Free
open Jvm.Lib.Cold (StaticIs)
/-- what place i of a byte[]'s cell holds -/
def yv (A : Cell) (i : Nat) : Int32 := match A.slots[i]? with | some (.int x) => x | _ => 0
theorem yv_get {a : Addr} {A : Cell} {U : State} (h : XT.Arr .byte a A U) (ht : Typed .byte A) {i : Nat} (hi : i < A.slots.size) : A.slots[i]? = some (.int (yv A i)) := by
  have e := Array.getElem?_eq_getElem hi
  have f := ht i _ e
  unfold yv; rw [e]
  generalize A.slots[i] = v at f
  cases v <;> simp [fits] at f ⊢
/-- the two arrays are equal, place for place -/
def EqC (A B : Cell) : Prop := A.slots.size = B.slots.size ∧ ∀ i, i < A.slots.size → yv A i = yv B i
/-- a boolean that says whether p -/
def Says01 (q : Prop) (r : Option Value) (s u : State) : Prop := ∃ v : Int32, r = some (.int v) ∧ u.heap = s.heap ∧ ((v = 1 ∧ q) ∨ (v = 0 ∧ ¬ q))
theorem Says01.mv {q : Prop} : ∀ r (U U' V V' : State), U'.heap = U.heap → V.vm.Alike V'.vm → V'.heap = V.heap → Says01 q r U V → Says01 q r U' V' :=
  fun r U U' V V' h1 _ h2 ⟨v, a, b, c⟩ => ⟨v, a, by rw [h1, h2]; exact b, c⟩
namespace LEq
def yN : MethodName := ⟨"java/lang/StringLatin1", "equals", "([B[B)Z"⟩
abbrev yB : ByteArray := jdk_43_method_13_code
theorem d0 : decode yB 0 = .ok (.aload_n 0, 1) := by decide +kernel
theorem d1 : decode yB 1 = .ok (.arraylength, 1) := by decide +kernel
theorem d2 : decode yB 2 = .ok (.aload_n 1, 1) := by decide +kernel
theorem d3 : decode yB 3 = .ok (.arraylength, 1) := by decide +kernel
theorem d4 : decode yB 4 = .ok (.if_icmp (.ne) 30, 3) := by decide +kernel
theorem d7 : decode yB 7 = .ok (.iconst 0, 1) := by decide +kernel
theorem d8 : decode yB 8 = .ok (.istore_n 2, 1) := by decide +kernel
theorem d9 : decode yB 9 = .ok (.iload_n 2, 1) := by decide +kernel
theorem d10 : decode yB 10 = .ok (.aload_n 0, 1) := by decide +kernel
theorem d11 : decode yB 11 = .ok (.arraylength, 1) := by decide +kernel
theorem d12 : decode yB 12 = .ok (.if_icmp (.ge) 20, 3) := by decide +kernel
theorem d15 : decode yB 15 = .ok (.aload_n 0, 1) := by decide +kernel
theorem d16 : decode yB 16 = .ok (.iload_n 2, 1) := by decide +kernel
theorem d17 : decode yB 17 = .ok (.baload, 1) := by decide +kernel
theorem d18 : decode yB 18 = .ok (.aload_n 1, 1) := by decide +kernel
theorem d19 : decode yB 19 = .ok (.iload_n 2, 1) := by decide +kernel
theorem d20 : decode yB 20 = .ok (.baload, 1) := by decide +kernel
theorem d21 : decode yB 21 = .ok (.if_icmp (.eq) 5, 3) := by decide +kernel
theorem d24 : decode yB 24 = .ok (.iconst 0, 1) := by decide +kernel
theorem d25 : decode yB 25 = .ok (.ireturn, 1) := by decide +kernel
theorem d26 : decode yB 26 = .ok (.iinc 2 1, 3) := by decide +kernel
theorem d29 : decode yB 29 = .ok (.goto (-20), 3) := by decide +kernel
theorem d32 : decode yB 32 = .ok (.iconst 1, 1) := by decide +kernel
theorem d33 : decode yB 33 = .ok (.ireturn, 1) := by decide +kernel
theorem d34 : decode yB 34 = .ok (.iconst 0, 1) := by decide +kernel
theorem d35 : decode yB 35 = .ok (.ireturn, 1) := by decide +kernel
def site : List Cond := []
def tab : Cond := tabOf yN yB 3 (some .boolean) site
def P (a : Addr) (A : Cell) (b : Addr) (B : Cell) (args : Array Value) (s : State) : Prop := args = #[.ref a, .ref b] ∧ XT.Arr .byte a A s ∧ Typed .byte A ∧ XT.Arr .byte b B s ∧ Typed .byte B
/-- whether two byte[] are equal, place for place -/
theorem law (l : Launch) (a : Addr) (A : Cell) (b : Addr) (B : Cell) : Law l yN 2 2 0 0 yB 3 (some .boolean) site (P a A b B) (Says01 (EqC A B)) [] 0 0 := by
  refine Law.of_walk (plainFor_of_name (by decide +kernel)) (by decide +kernel) (by decide +kernel) (by decide) (fun _ _ h => by rw [h.1]; rfl) (fun _ U U' hal hh h => ⟨h.1, h.2.1.mv hal hh, h.2.2.1, h.2.2.2.1.mv hal hh, h.2.2.2.2⟩) (fun r U U' V V' h1 hal h2 h => Says01.mv r U U' V V' h1 hal h2 h) ?_
  intro p e s m args below meth c s₁ X0 hexec hbytes hml hret hlk hnm hown hh0 W hP
  obtain ⟨rfl, hA, tA, hB, tB⟩ := hP
  have a31 := hA.2.2.2
  have b31 := hB.2.2.2
  have hA0 := hA.mv X0.warmed.alike hh0
  have hB0 := hB.mv X0.warmed.alike hh0
  have c1 : Steps p.tables e below (s₁.setTop (entryFrame m #[.ref a, .ref b] 3)) (s₁.setTop (mkF m 0 #[.val (.ref a), .val (.ref b), .unset] [])) := entry rfl
  have c2 : Steps p.tables e below (s₁.setTop (entryFrame m #[.ref a, .ref b] 3)) (s₁.setTop (mkF m 4 #[.val (.ref a), .val (.ref b), .unset] [.int (Int32.ofNat B.slots.size), .int (Int32.ofNat A.slots.size)])) := c1.trans (by
    refine XS.aloadN X0.here hexec rfl (hb hbytes d0) rfl rfl ?_
    refine X0.alen hexec hA0 rfl rfl (hb hbytes d1) ?_
    refine XS.aloadN X0.here hexec rfl (hb hbytes d2) rfl rfl ?_
    refine X0.alen hexec hB0 rfl rfl (hb hbytes d3) ?_
    exact Steps.refl _)
  by_cases hs : A.slots.size = B.slots.size
  · have c3 : Steps p.tables e below (s₁.setTop (entryFrame m #[.ref a, .ref b] 3)) (s₁.setTop (mkF m 9 #[.val (.ref a), .val (.ref b), .val (.int 0)] [])) := c2.trans (by
      refine XS.icmpNo X0.here hexec rfl (hb hbytes d4) rfl (ii_ne_f (by rw [hs])) ?_
      refine iconstV X0.here hexec rfl 0 (hb hbytes d7) (by decide) ?_
      refine XS.istoreN X0.here hexec rfl (hb hbytes d8) rfl rfl ?_
      exact Steps.refl _)
    have loop : ∀ (r i : Nat), i + r = A.slots.size → (∀ j, j < i → yv A j = yv B j) → Steps p.tables e below (s₁.setTop (entryFrame m #[.ref a, .ref b] 3)) (s₁.setTop (mkF m 9 #[.val (.ref a), .val (.ref b), .val (.int (Int32.ofNat i))] [])) → ∃ (pc : Nat) (Ls : Array Slot) (v : Int32), (pc = 25 ∨ pc = 33) ∧ ((v = 1 ∧ EqC A B) ∨ (v = 0 ∧ ¬ EqC A B)) ∧ Steps p.tables e below (s₁.setTop (entryFrame m #[.ref a, .ref b] 3)) (s₁.setTop (mkF m pc Ls [.int v])) := by
      intro r
      induction r with
      | zero =>
        intro i hi he cl
        exact ⟨33, _, 1, Or.inr rfl, Or.inl ⟨rfl, hs, fun j hj => he j (by omega)⟩, cl.trans (by
          refine XS.iloadN X0.here hexec rfl (hb hbytes d9) rfl ?_
          refine XS.aloadN X0.here hexec rfl (hb hbytes d10) rfl rfl ?_
          refine X0.alen hexec hA0 rfl rfl (hb hbytes d11) ?_
          refine XS.icmpYes X0.here hexec rfl (pc0 := 12) rfl (hb hbytes d12) rfl (ii_ge_t (nlt32 (by omega) (by omega))) (by decide) rfl ?_
          refine iconstV X0.here hexec rfl 1 (hb hbytes d32) (by decide) ?_
          exact Steps.refl _)⟩
      | succ r ih =>
        intro i hi he cl
        have c4 : Steps p.tables e below (s₁.setTop (entryFrame m #[.ref a, .ref b] 3)) (s₁.setTop (mkF m 21 #[.val (.ref a), .val (.ref b), .val (.int (Int32.ofNat i))] [.int (yv B i), .int (yv A i)])) := cl.trans (by
          refine XS.iloadN X0.here hexec rfl (hb hbytes d9) rfl ?_
          refine XS.aloadN X0.here hexec rfl (hb hbytes d10) rfl rfl ?_
          refine X0.alen hexec hA0 rfl rfl (hb hbytes d11) ?_
          refine XS.icmpNo X0.here hexec rfl (hb hbytes d12) rfl (ii_ge_f (lt32 (by omega) (by omega))) ?_
          refine XS.aloadN X0.here hexec rfl (hb hbytes d15) rfl rfl ?_
          refine XS.iloadN X0.here hexec rfl (hb hbytes d16) rfl ?_
          refine X0.aget hexec hA0 rfl (yv_get hA tA (i := i) (by omega)) rfl rfl (hb hbytes d17) ?_
          refine XS.aloadN X0.here hexec rfl (hb hbytes d18) rfl rfl ?_
          refine XS.iloadN X0.here hexec rfl (hb hbytes d19) rfl ?_
          refine X0.aget hexec hB0 rfl (yv_get hB tB (i := i) (by omega)) rfl rfl (hb hbytes d20) ?_
          exact Steps.refl _)
        by_cases hv : yv A i = yv B i
        · have c5 : Steps p.tables e below (s₁.setTop (entryFrame m #[.ref a, .ref b] 3)) (s₁.setTop (mkF m 9 #[.val (.ref a), .val (.ref b), .val (.int (Int32.ofNat i + 1))] [])) := c4.trans (by
            refine XS.icmpYes X0.here hexec rfl (pc0 := 21) rfl (hb hbytes d21) rfl (ii_eq_t hv) (by decide) rfl ?_
            refine iincV X0.here hexec rfl 1 (hb hbytes d26) (by decide) rfl rfl ?_
            refine XS.goto X0.here hexec rfl (pc0 := 29) rfl (hb hbytes d29) (by decide) rfl ?_
            exact Steps.refl _)
          rw [succ32] at c5
          exact ih (i + 1) (by omega) (fun j hj => by
            by_cases e : j = i
            · rw [e]; exact hv
            · exact he j (by omega)) c5
        · exact ⟨25, _, 0, Or.inl rfl, Or.inr ⟨rfl, fun q => hv (q.2 i (by omega))⟩, c4.trans (by
            refine XS.icmpNo X0.here hexec rfl (hb hbytes d21) rfl (ii_eq_f hv) ?_
            refine iconstV X0.here hexec rfl 0 (hb hbytes d24) (by decide) ?_
            exact Steps.refl _)⟩
    obtain ⟨pc, Ls, v, hpc, hv, cz⟩ := loop A.slots.size 0 (by omega) (fun j hj => absurd hj (Nat.not_lt_zero j)) c3
    have nv : narrow .boolean (.int v) = .int v := by rcases hv with ⟨rfl, -⟩ | ⟨rfl, -⟩ <;> rfl
    rcases hpc with rfl | rfl
    · exact ⟨s₁, some (.int v), _, _, _, X0, rfl, rfl, rfl, (fun h => by cases h), ⟨v, rfl, hh0, hv⟩, fun fs hl => cz.trans (X0.ireturnOut hexec hret nv (Or.inr (Or.inl rfl)) (hb hbytes d25) hl)⟩
    · exact ⟨s₁, some (.int v), _, _, _, X0, rfl, rfl, rfl, (fun h => by cases h), ⟨v, rfl, hh0, hv⟩, fun fs hl => cz.trans (X0.ireturnOut hexec hret nv (Or.inr (Or.inl rfl)) (hb hbytes d33) hl)⟩
  · have c3 : Steps p.tables e below (s₁.setTop (entryFrame m #[.ref a, .ref b] 3)) (s₁.setTop (mkF m 35 #[.val (.ref a), .val (.ref b), .unset] [.int 0])) := c2.trans (by
      refine XS.icmpYes X0.here hexec rfl (pc0 := 4) rfl (hb hbytes d4) rfl (ii_ne_t (ne32 a31 b31 hs)) (by decide) rfl ?_
      refine iconstV X0.here hexec rfl 0 (hb hbytes d34) (by decide) ?_
      exact Steps.refl _)
    exact ⟨s₁, some (.int 0), _, _, _, X0, rfl, rfl, rfl, (fun h => by cases h), ⟨0, rfl, hh0, Or.inr ⟨rfl, fun q => hs q.1⟩⟩, fun fs hl => c3.trans (X0.ireturnOut hexec hret rfl (Or.inr (Or.inl rfl)) (hb hbytes d35) hl)⟩
end LEq
theorem Cod.ty {cd : Int32} {n : Nat} {f : Nat → Int32} {V : Cell} (h : Cod cd n f V) : Typed .byte V := fun i v hv => by
  have hi : i < V.slots.size := (Array.getElem?_eq_some_iff.mp hv).1
  rcases h with ⟨-, k1, k2⟩ | ⟨-, k1, k2, -⟩
  · rw [(k2 i (by omega)).1] at hv; cases hv; exact fits_lo8 _
  · rcases Nat.mod_two_eq_zero_or_one i with e | e
    · obtain ⟨j, rfl⟩ : ∃ j, i = 2 * j := ⟨i / 2, by omega⟩
      rw [(k2 j (by omega)).1] at hv; cases hv; exact fits_lo8 _
    · obtain ⟨j, rfl⟩ : ∃ j, i = 2 * j + 1 := ⟨i / 2, by omega⟩
      rw [(k2 j (by omega)).2] at hv; cases hv; exact fits_lo8 _
/-- the same text -/
def SameT (n : Nat) (f : Nat → Int32) (k : Nat) (g : Nat → Int32) : Prop := n = k ∧ ∀ j, j < n → f j = g j
theorem lo8_inj {x y : Int32} (h0 : ¬ x < 0) (h1 : ¬ 255 < x) (k0 : ¬ y < 0) (k1 : ¬ 255 < y) (h : lo8 x = lo8 y) : x = y := by
  rw [← lo8_mask h0 h1, ← lo8_mask k0 k1, h]
/-- arrays coded by one coder are equal just where the texts are -/
theorem Cod.eqv {cd : Int32} {n k : Nat} {f g : Nat → Int32} {V V' : Cell} (h : Cod cd n f V) (h' : Cod cd k g V') (hf : ∀ j, j < n → ¬ f j < 0 ∧ ¬ 65535 < f j) (hg : ∀ j, j < k → ¬ g j < 0 ∧ ¬ 65535 < g j) : EqC V V' ↔ SameT n f k g := by
  have yvv : ∀ {W : Cell} {i : Nat} {x : Int32}, W.slots[i]? = some (.int x) → yv W i = x := fun q => by unfold yv; rw [q]
  rcases h with ⟨rfl, k1, k2⟩ | ⟨rfl, k1, k2, -⟩
  · rcases h' with ⟨-, m1, m2⟩ | ⟨e, -⟩
    · constructor
      · rintro ⟨e1, e2⟩
        refine ⟨by omega, fun j hj => ?_⟩
        have q := e2 j (by omega)
        rw [yvv (k2 j hj).1, yvv (m2 j (by omega)).1] at q
        exact lo8_inj (hf j hj).1 (k2 j hj).2 (hg j (by omega)).1 (m2 j (by omega)).2 q
      · rintro ⟨rfl, e2⟩
        refine ⟨by omega, fun j hj => ?_⟩
        rw [yvv (k2 j (by omega)).1, yvv (m2 j (by omega)).1, e2 j (by omega)]
    · exact absurd e (by decide)
  · rcases h' with ⟨e, -⟩ | ⟨-, m1, m2, -⟩
    · exact absurd e (by decide)
    · constructor
      · rintro ⟨e1, e2⟩
        refine ⟨by omega, fun j hj => ?_⟩
        have q1 := e2 (2 * j) (by omega)
        have q2 := e2 (2 * j + 1) (by omega)
        rw [yvv (k2 j hj).1, yvv (m2 j (by omega)).1] at q1
        rw [yvv (k2 j hj).2, yvv (m2 j (by omega)).2] at q2
        rw [← pair_says (hf j hj).1 (hf j hj).2, ← pair_says (hg j (by omega)).1 (hg j (by omega)).2, q1, q2]
      · rintro ⟨rfl, e2⟩
        refine ⟨by omega, fun i hi => ?_⟩
        rcases Nat.mod_two_eq_zero_or_one i with e | e
        · obtain ⟨j, rfl⟩ : ∃ j, i = 2 * j := ⟨i / 2, by omega⟩
          rw [yvv (k2 j (by omega)).1, yvv (m2 j (by omega)).1, e2 j (by omega)]
        · obtain ⟨j, rfl⟩ : ∃ j, i = 2 * j + 1 := ⟨i / 2, by omega⟩
          rw [yvv (k2 j (by omega)).2, yvv (m2 j (by omega)).2, e2 j (by omega)]
/-- two codings differ: so do the texts -/
theorem Cod.dif {cd cd' : Int32} {n k : Nat} {f g : Nat → Int32} {V V' : Cell} (h : Cod cd n f V) (h' : Cod cd' k g V') (hne : ¬ cd = cd') : ¬ SameT n f k g := by
  rintro ⟨rfl, e⟩
  rcases h with ⟨rfl, -, k2⟩ | ⟨rfl, -, -, j, hj, hw⟩
  · rcases h' with ⟨rfl, -⟩ | ⟨-, -, -, j, hj, hw⟩
    · exact hne rfl
    · exact (k2 j hj).2 (by rw [e j hj]; exact hw)
  · rcases h' with ⟨-, -, m2⟩ | ⟨rfl, -⟩
    · exact (m2 j hj).2 (by rw [← e j hj]; exact hw)
    · exact hne rfl
/-- an object of exactly C is an instance of C -/
theorem cinst {p : Program} {l : Launch} {e : Env} {R : Room} {s : State} {m : MethodId} {args : Array Value} {below : List Frame} {meth : Method} {c : Code} {T : State} {locs : List Loc} {cells slots : Nat} (X : Stand p l e R s m args below meth c T locs cells slots) (hexec : p.tables.exec = Jvm.exec) {own C : String} {index : Nat} (hown : s.vm.findClass own = some m.cls) (hlink : (Cond.classLink own index C).before args s = true) {a : Addr} (hE : Exact C a T)
    {g : JFrame} (hg : g.method = m) {rest : List Value} (hstack : g.stack = .ref a :: rest) (hdg : decode c.code g.pc = .ok (.instanceof index, 3)) :
    ∃ T', Stand p l e R s m args below meth c T' locs cells slots ∧ T'.heap = T.heap ∧ ∀ target, Steps p.tables e below (T'.setTop { g with pc := g.pc + 3, stack := .int 1 :: rest }) target → Steps p.tables e below (T.setTop g) target := by
  obtain ⟨cB, h1, D, h2, h3, h4⟩ := hE
  have h1' : s.vm.findClass C = some cB := by rw [← X.warmed.alike.findClass]; exact h1
  obtain ⟨vm', X', st⟩ := X.instanceofYes hexec hown hlink h2 h4 h1' (by rw [h3]; exact Jvm.Free.SB.assignable_self _ _) hg hstack hdg
  exact ⟨_, X', rfl, st⟩
theorem cself {p : Program} {l : Launch} {e : Env} {R : Room} {s : State} {m : MethodId} {args : Array Value} {below : List Frame} {meth : Method} {c : Code} {T : State} {locs : List Loc} {cells slots : Nat} (X : Stand p l e R s m args below meth c T locs cells slots) (hexec : p.tables.exec = Jvm.exec) {own C : String} {index : Nat} (hown : s.vm.findClass own = some m.cls) (hlink : (Cond.classLink own index C).before args s = true) {a : Addr} (hE : Exact C a T)
    {g : JFrame} (hg : g.method = m) {rest : List Value} (hstack : g.stack = .ref a :: rest) (hdg : decode c.code g.pc = .ok (.checkcast index, 3)) :
    ∃ T', Stand p l e R s m args below meth c T' locs cells slots ∧ T'.heap = T.heap ∧ ∀ target, Steps p.tables e below (T'.setTop { g with pc := g.pc + 3, stack := .ref a :: rest }) target → Steps p.tables e below (T.setTop g) target := by
  obtain ⟨cB, h1, D, h2, h3, h4⟩ := hE
  have h1' : s.vm.findClass C = some cB := by rw [← X.warmed.alike.findClass]; exact h1
  obtain ⟨vm', X', st⟩ := X.checkcastYes hexec hown hlink h2 h4 h1' (by rw [h3]; exact Jvm.Free.SB.assignable_self _ _) hg hstack hdg
  exact ⟨_, X', rfl, fun t h => st t (by rw [← hstack] at h; exact h)⟩
namespace SEq
def yN : MethodName := ⟨"java/lang/String", "equals", "(Ljava/lang/Object;)Z"⟩
abbrev yB : ByteArray := jdk_42_method_66_code
theorem d0 : decode yB 0 = .ok (.aload_n 0, 1) := by decide +kernel
theorem d1 : decode yB 1 = .ok (.aload_n 1, 1) := by decide +kernel
theorem d2 : decode yB 2 = .ok (.if_acmp (.ne) 5, 3) := by decide +kernel
theorem d5 : decode yB 5 = .ok (.iconst 1, 1) := by decide +kernel
theorem d6 : decode yB 6 = .ok (.ireturn, 1) := by decide +kernel
theorem d7 : decode yB 7 = .ok (.aload_n 1, 1) := by decide +kernel
theorem d8 : decode yB 8 = .ok (.instanceof 10, 3) := by decide +kernel
theorem d11 : decode yB 11 = .ok (.ifCond (.eq) 43, 3) := by decide +kernel
theorem d14 : decode yB 14 = .ok (.aload_n 1, 1) := by decide +kernel
theorem d15 : decode yB 15 = .ok (.checkcast 10, 3) := by decide +kernel
theorem d18 : decode yB 18 = .ok (.astore_n 2, 1) := by decide +kernel
theorem d19 : decode yB 19 = .ok (.getstatic 38, 3) := by decide +kernel
theorem d22 : decode yB 22 = .ok (.ifCond (.eq) 14, 3) := by decide +kernel
theorem d25 : decode yB 25 = .ok (.aload_n 0, 1) := by decide +kernel
theorem d26 : decode yB 26 = .ok (.getfield 15, 3) := by decide +kernel
theorem d29 : decode yB 29 = .ok (.aload_n 2, 1) := by decide +kernel
theorem d30 : decode yB 30 = .ok (.getfield 15, 3) := by decide +kernel
theorem d33 : decode yB 33 = .ok (.if_icmp (.ne) 21, 3) := by decide +kernel
theorem d36 : decode yB 36 = .ok (.aload_n 0, 1) := by decide +kernel
theorem d37 : decode yB 37 = .ok (.getfield 9, 3) := by decide +kernel
theorem d40 : decode yB 40 = .ok (.aload_n 2, 1) := by decide +kernel
theorem d41 : decode yB 41 = .ok (.getfield 9, 3) := by decide +kernel
theorem d44 : decode yB 44 = .ok (.invokestatic 541, 3) := by decide +kernel
theorem d47 : decode yB 47 = .ok (.ifCond (.eq) 7, 3) := by decide +kernel
theorem d50 : decode yB 50 = .ok (.iconst 1, 1) := by decide +kernel
theorem d51 : decode yB 51 = .ok (.goto 4, 3) := by decide +kernel
theorem d54 : decode yB 54 = .ok (.iconst 0, 1) := by decide +kernel
theorem d55 : decode yB 55 = .ok (.ireturn, 1) := by decide +kernel
def site : List Cond := [.classLink "java/lang/String" 10 "java/lang/String", .fieldLink "java/lang/String" 38 "java/lang/String" "COMPACT_STRINGS" "Z", .fieldLink "java/lang/String" 15 "java/lang/String" "coder" "B", .fieldLink "java/lang/String" 9 "java/lang/String" "value" "[B", LEq.tab] ++ staticW "java/lang/String" 541 LEq.yN
def tab : Cond := tabOf yN yB 3 (some .boolean) site
def P (x t : Addr) (V : Cell) (cd : Int32) (n : Nat) (f : Nat → Int32) (y t' : Addr) (V' : Cell) (cd' : Int32) (k : Nat) (g : Nat → Int32) (z : Int32) (args : Array Value) (s : State) : Prop := args = #[.ref x, .ref y] ∧ Txt x t V cd n f s ∧ Txt y t' V' cd' k g s ∧ StaticIs s "java/lang/String" "COMPACT_STRINGS" "Z" (.int z) ∧ ¬ z = 0
/-- equals(Object) of two Strings: whether the texts are the same -/
theorem law (l : Launch) (x t : Addr) (V : Cell) (cd : Int32) (n : Nat) (f : Nat → Int32) (y t' : Addr) (V' : Cell) (cd' : Int32) (k : Nat) (g : Nat → Int32) (z : Int32) : Law l yN 2 1 1 14 yB 3 (some .boolean) site (P x t V cd n f y t' V' cd' k g z) (Says01 (SameT n f k g)) [] 0 0 := by
  refine Law.of_walk (plainFor_of_name (by decide +kernel)) (by decide +kernel) (by decide +kernel) (by decide) (fun _ _ h => by rw [h.1]; rfl) (fun _ U U' hal hh h => ⟨h.1, h.2.1.mv hal hh, h.2.2.1.mv hal hh, h.2.2.2.1.there hal hh, h.2.2.2.2⟩) (fun r U U' V V' h1 hal h2 h => Says01.mv r U U' V V' h1 hal h2 h) ?_
  intro p e s m args below meth c s₁ X0 hexec hbytes hml hret hlk hnm hown hh0 W hP
  obtain ⟨rfl, hx, hy, s1, hz⟩ := hP
  have c1 : Steps p.tables e below (s₁.setTop (entryFrame m #[.ref x, .ref y] 3)) (s₁.setTop (mkF m 2 #[.val (.ref x), .val (.ref y), .unset] [.ref y, .ref x])) := Steps.trans (entry rfl) (by
    show Steps p.tables e below (s₁.setTop (mkF m 0 #[.val (.ref x), .val (.ref y), .unset] [])) _
    refine XS.aloadN X0.here hexec rfl (hb hbytes d0) rfl rfl ?_
    refine XS.aloadN X0.here hexec rfl (hb hbytes d1) rfl rfl ?_
    exact Steps.refl _)
  by_cases hxy : x = y
  · have c2 : Steps p.tables e below (s₁.setTop (entryFrame m #[.ref x, .ref y] 3)) (s₁.setTop (mkF m 6 #[.val (.ref x), .val (.ref y), .unset] [.int 1])) := c1.trans (by
      refine acmpNo X0.here hexec rfl (hb hbytes d2) rfl rfl rfl (by simp [acmp, hxy]) ?_
      refine iconstV X0.here hexec rfl 1 (hb hbytes d5) (by decide) ?_
      exact Steps.refl _)
    subst hxy
    have ec : cd = cd' := by
      obtain ⟨D, fd, a1, a2, a3⟩ := hx.2.2.1
      obtain ⟨D', fd', b1, b2, b3⟩ := hy.2.2.1
      cases a1.symm.trans b1
      obtain ⟨q1, q2, q3, q4⟩ := a2.1
      obtain ⟨r1, r2, r3, r4⟩ := b2.1
      cases q4.symm.trans r4
      cases a3.symm.trans b3; rfl
    have et : t = t' := by
      obtain ⟨D, fd, a1, a2, a3⟩ := hx.2.1
      obtain ⟨D', fd', b1, b2, b3⟩ := hy.2.1
      cases a1.symm.trans b1
      obtain ⟨q1, q2, q3, q4⟩ := a2.1
      obtain ⟨r1, r2, r3, r4⟩ := b2.1
      cases q4.symm.trans r4
      cases a3.symm.trans b3; rfl
    subst ec et
    have ev : V = V' := by cases hx.2.2.2.1.1.symm.trans hy.2.2.2.1.1; rfl
    subst ev
    have hs : SameT n f k g := (Cod.eqv hx.2.2.2.2.1 hy.2.2.2.2.1 hx.2.2.2.2.2 hy.2.2.2.2.2).mp ⟨rfl, fun _ _ => rfl⟩
    exact ⟨s₁, some (.int 1), _, _, _, X0, rfl, rfl, rfl, (fun h => by cases h), ⟨1, rfl, hh0, Or.inl ⟨rfl, hs⟩⟩, fun fs hl => c2.trans (X0.ireturnOut hexec hret rfl (Or.inr (Or.inl rfl)) (hb hbytes d6) hl)⟩
  · have c2 : Steps p.tables e below (s₁.setTop (entryFrame m #[.ref x, .ref y] 3)) (s₁.setTop (mkF m 8 #[.val (.ref x), .val (.ref y), .unset] [.ref y])) := c1.trans (by
      refine acmpYes X0.here hexec rfl (pc0 := 2) rfl (hb hbytes d2) rfl rfl rfl (by simp [acmp, hxy]) (by decide) rfl ?_
      refine XS.aloadN X0.here hexec rfl (hb hbytes d7) rfl rfl ?_
      exact Steps.refl _)
    obtain ⟨T3, X3, q3, st3⟩ := cinst X0 hexec hown (wk W (.classLink "java/lang/String" 10 "java/lang/String")) (hy.mv X0.warmed.alike hh0).1 (g := (mkF m 8 #[.val (.ref x), .val (.ref y), .unset] [.ref y])) rfl (rest := []) rfl (hb hbytes d8)
    have hh3 := q3.trans hh0
    have c4 : Steps p.tables e below (s₁.setTop (entryFrame m #[.ref x, .ref y] 3)) (T3.setTop (mkF m 15 #[.val (.ref x), .val (.ref y), .unset] [.ref y])) := (c2.trans (st3 _ (Steps.refl _))).trans (by
      refine XS.ifNo X3.here hexec rfl (hb hbytes d11) rfl (i0_eq_f (by decide)) ?_
      refine XS.aloadN X3.here hexec rfl (hb hbytes d14) rfl rfl ?_
      exact Steps.refl _)
    obtain ⟨T5, X5, q5, st5⟩ := cself X3 hexec hown (wk W (.classLink "java/lang/String" 10 "java/lang/String")) (hy.mv X3.warmed.alike hh3).1 (g := (mkF m 15 #[.val (.ref x), .val (.ref y), .unset] [.ref y])) rfl (rest := []) rfl (hb hbytes d15)
    have hh5 := q5.trans hh3
    have c6 : Steps p.tables e below (s₁.setTop (entryFrame m #[.ref x, .ref y] 3)) (T5.setTop (mkF m 19 #[.val (.ref x), .val (.ref y), .val (.ref y)] [])) := (c4.trans (st5 _ (Steps.refl _))).trans (by
      refine XS.astoreN X5.here hexec rfl (hb hbytes d18) rfl rfl rfl ?_
      exact Steps.refl _)
    obtain ⟨T7, X7, q7, st7⟩ := X5.sget hexec hown (wk W (.fieldLink "java/lang/String" 38 "java/lang/String" "COMPACT_STRINGS" "Z")) s1 (fun _ _ h => by rw [hh5]; exact h) (g := (mkF m 19 #[.val (.ref x), .val (.ref y), .val (.ref y)] [])) rfl (hb hbytes d19)
    have hh7 := q7.trans hh5
    have c8 : Steps p.tables e below (s₁.setTop (entryFrame m #[.ref x, .ref y] 3)) (T7.setTop (mkF m 26 #[.val (.ref x), .val (.ref y), .val (.ref y)] [.ref x])) := (c6.trans (st7 _ (Steps.refl _))).trans (by
      refine XS.ifNo X7.here hexec rfl (hb hbytes d22) rfl (i0_eq_f hz) ?_
      refine XS.aloadN X7.here hexec rfl (hb hbytes d25) rfl rfl ?_
      exact Steps.refl _)
    obtain ⟨T9, X9, q9, st9⟩ := X7.hget hexec hown (wk W (.fieldLink "java/lang/String" 15 "java/lang/String" "coder" "B")) (hx.mv X7.warmed.alike hh7).2.2.1 (g := (mkF m 26 #[.val (.ref x), .val (.ref y), .val (.ref y)] [.ref x])) rfl (rest := []) rfl (hb hbytes d26)
    have hh9 := q9.trans hh7
    have c10 : Steps p.tables e below (s₁.setTop (entryFrame m #[.ref x, .ref y] 3)) (T9.setTop (mkF m 30 #[.val (.ref x), .val (.ref y), .val (.ref y)] [.ref y, .int cd])) := (c8.trans (st9 _ (Steps.refl _))).trans (by
      refine XS.aloadN X9.here hexec rfl (hb hbytes d29) rfl rfl ?_
      exact Steps.refl _)
    obtain ⟨T11, X11, q11, st11⟩ := X9.hget hexec hown (wk W (.fieldLink "java/lang/String" 15 "java/lang/String" "coder" "B")) (hy.mv X9.warmed.alike hh9).2.2.1 (g := (mkF m 30 #[.val (.ref x), .val (.ref y), .val (.ref y)] [.ref y, .int cd])) rfl (rest := [.int cd]) rfl (hb hbytes d30)
    have hh11 := q11.trans hh9
    have c12 : Steps p.tables e below (s₁.setTop (entryFrame m #[.ref x, .ref y] 3)) (T11.setTop (mkF m 33 #[.val (.ref x), .val (.ref y), .val (.ref y)] [.int cd', .int cd])) := c10.trans (st11 _ (Steps.refl _))
    by_cases hcd : cd = cd'
    · subst hcd
      have c13 : Steps p.tables e below (s₁.setTop (entryFrame m #[.ref x, .ref y] 3)) (T11.setTop (mkF m 37 #[.val (.ref x), .val (.ref y), .val (.ref y)] [.ref x])) := c12.trans (by
        refine XS.icmpNo X11.here hexec rfl (hb hbytes d33) rfl (ii_ne_f rfl) ?_
        refine XS.aloadN X11.here hexec rfl (hb hbytes d36) rfl rfl ?_
        exact Steps.refl _)
      obtain ⟨T14, X14, q14, st14⟩ := X11.hget hexec hown (wk W (.fieldLink "java/lang/String" 9 "java/lang/String" "value" "[B")) (hx.mv X11.warmed.alike hh11).2.1 (g := (mkF m 37 #[.val (.ref x), .val (.ref y), .val (.ref y)] [.ref x])) rfl (rest := []) rfl (hb hbytes d37)
      have hh14 := q14.trans hh11
      have c15 : Steps p.tables e below (s₁.setTop (entryFrame m #[.ref x, .ref y] 3)) (T14.setTop (mkF m 41 #[.val (.ref x), .val (.ref y), .val (.ref y)] [.ref y, .ref t])) := (c13.trans (st14 _ (Steps.refl _))).trans (by
        refine XS.aloadN X14.here hexec rfl (hb hbytes d40) rfl rfl ?_
        exact Steps.refl _)
      obtain ⟨T16, X16, q16, st16⟩ := X14.hget hexec hown (wk W (.fieldLink "java/lang/String" 9 "java/lang/String" "value" "[B")) (hy.mv X14.warmed.alike hh14).2.1 (g := (mkF m 41 #[.val (.ref x), .val (.ref y), .val (.ref y)] [.ref y, .ref t])) rfl (rest := [.ref t]) rfl (hb hbytes d41)
      have hh16 := q16.trans hh14
      have c17 : Steps p.tables e below (s₁.setTop (entryFrame m #[.ref x, .ref y] 3)) (T16.setTop (mkF m 44 #[.val (.ref x), .val (.ref y), .val (.ref y)] [.ref t', .ref t])) := c15.trans (st16 _ (Steps.refl _))
      obtain ⟨v18, T18, X18, E18, g18⟩ := X16.callS hexec (LEq.law l t V t' V') hown (wks W (staticW "java/lang/String" 541 LEq.yN)) (wk W LEq.tab) (W := 0) (Nat.le_of_ble_eq_true rfl) (Nat.le_of_ble_eq_true rfl) (Nat.le_refl _) (Nat.le_refl _) (g := (mkF m 44 #[.val (.ref x), .val (.ref y), .val (.ref y)] [.ref t', .ref t])) rfl (by rw [hml]; rfl) c17 (argsL := [.ref t, .ref t']) (rest := []) rfl rfl (by show 2 * 0 + 0 ≤ _; decide) (hb hbytes d44) (⟨rfl, hx.2.2.2.1.mv X16.warmed.alike hh16, hx.2.2.2.2.1.ty, hy.2.2.2.1.mv X16.warmed.alike hh16, hy.2.2.2.2.1.ty⟩)
      obtain ⟨v, rfl, q18, hv⟩ := E18
      have iff := Cod.eqv hx.2.2.2.2.1 hy.2.2.2.2.1 hx.2.2.2.2.2 hy.2.2.2.2.2
      rcases hv with ⟨rfl, he⟩ | ⟨rfl, he⟩
      · have c19 : Steps p.tables e below (s₁.setTop (entryFrame m #[.ref x, .ref y] 3)) (T18.setTop (mkF m 55 #[.val (.ref x), .val (.ref y), .val (.ref y)] [.int 1])) := Steps.trans g18 (by
          refine XS.ifNo X18.here hexec rfl (hb hbytes d47) rfl (i0_eq_f (by decide)) ?_
          refine iconstV X18.here hexec rfl 1 (hb hbytes d50) (by decide) ?_
          refine XS.goto X18.here hexec rfl (pc0 := 51) rfl (hb hbytes d51) (by decide) rfl ?_
          exact Steps.refl _)
        exact ⟨T18, some (.int 1), _, _, _, X18, rfl, rfl, rfl, (fun h => by cases h), ⟨1, rfl, q18.trans hh16, Or.inl ⟨rfl, iff.mp he⟩⟩, fun fs hl => c19.trans (X18.ireturnOut hexec hret rfl (Or.inr (Or.inl rfl)) (hb hbytes d55) hl)⟩
      · have c19 : Steps p.tables e below (s₁.setTop (entryFrame m #[.ref x, .ref y] 3)) (T18.setTop (mkF m 55 #[.val (.ref x), .val (.ref y), .val (.ref y)] [.int 0])) := Steps.trans g18 (by
          refine XS.ifYes X18.here hexec rfl (pc0 := 47) rfl (hb hbytes d47) rfl (i0_eq_t rfl) (by decide) rfl ?_
          refine iconstV X18.here hexec rfl 0 (hb hbytes d54) (by decide) ?_
          exact Steps.refl _)
        exact ⟨T18, some (.int 0), _, _, _, X18, rfl, rfl, rfl, (fun h => by cases h), ⟨0, rfl, q18.trans hh16, Or.inr ⟨rfl, fun q => he (iff.mpr q)⟩⟩, fun fs hl => c19.trans (X18.ireturnOut hexec hret rfl (Or.inr (Or.inl rfl)) (hb hbytes d55) hl)⟩
    · have c13 : Steps p.tables e below (s₁.setTop (entryFrame m #[.ref x, .ref y] 3)) (T11.setTop (mkF m 55 #[.val (.ref x), .val (.ref y), .val (.ref y)] [.int 0])) := c12.trans (by
        refine XS.icmpYes X11.here hexec rfl (pc0 := 33) rfl (hb hbytes d33) rfl (ii_ne_t hcd) (by decide) rfl ?_
        refine iconstV X11.here hexec rfl 0 (hb hbytes d54) (by decide) ?_
        exact Steps.refl _)
      exact ⟨T11, some (.int 0), _, _, _, X11, rfl, rfl, rfl, (fun h => by cases h), ⟨0, rfl, hh11, Or.inr ⟨rfl, Cod.dif hx.2.2.2.2.1 hy.2.2.2.2.1 hcd⟩⟩, fun fs hl => c13.trans (X11.ireturnOut hexec hret rfl (Or.inr (Or.inl rfl)) (hb hbytes d55) hl)⟩
theorem pays {l : Launch} {R : Room} {p : Program} {e : Env} {below : List Frame} {s : State} {sargs : Array Value} {len W : Nat} (x t : Addr) (V : Cell) (cd : Int32) (n : Nat) (f : Nat → Int32) (y t' : Addr) (V' : Cell) (cd' : Int32) (k : Nat) (g : Nat → Int32) (z : Int32) (htab : tab.before sargs s = true) (hfr : 2 ≤ R.frames) (hlo : W + 28 ≤ R.locals) :
    Back l R p e below s sargs yN len W (fun A₁ a₁ => A₁.cells + 0 ≤ R.cells ∧ A₁.slots + 0 ≤ R.slots ∧ P x t V cd n f y t' V' cd' k g z a₁ A₁.U) (fun A₁ _ v₁ B₁ => Says01 (SameT n f k g) v₁ A₁.U B₁.U ∧ B₁.locs = A₁.locs ++ [] ∧ B₁.cells = A₁.cells + 0 ∧ B₁.slots = A₁.slots + 0) :=
  (law l x t V cd n f y t' V' cd' k g z).pays htab hfr (by omega)
end SEq
end StrChars
namespace StrChars.Road
open Jvm Sem ClassFile Op Lib Jvm.Stand Jvm.Free Jvm.Free.XT
open Jvm.Lib.Cold (StaticIs)
/-- the words of String.equals(Object) -/
abbrev wordsEq : List Jvm.Cond := [.code SEq.yN SEq.yB 3 (some .boolean), .initialized ST, .classLink ST 10 ST, .fieldLink ST 38 ST "COMPACT_STRINGS" "Z", .fieldLink ST 15 ST "coder" "B", .fieldLink ST 9 ST "value" "[B", .methodLink ST 541 LEq.yN, .static LEq.yN, .code LEq.yN LEq.yB 3 (some .boolean), .initialized "java/lang/StringLatin1"]
theorem tabEq_of {a : Array Value} {s : State} (h : ∀ w ∈ wordsEq, w.before a s = true) : SEq.tab.before a s = true := by
  have hl : LEq.tab.before a s = true := unparts (wk h (.code LEq.yN LEq.yB 3 (some .boolean))) (wks h (.initialized LEq.yN.cls :: LEq.site))
  have q := consq hl h
  exact unparts (wk q (.code SEq.yN SEq.yB 3 (some .boolean))) (wks q (.initialized SEq.yN.cls :: SEq.site))
theorem movedEq {Z s : State} {a0 args : Array Value} (hZ : Z.Warmed39 s.vm) (hw : ∀ d ∈ wordsEq, d.before a0 Z = true) : ∀ d ∈ wordsEq, d.before args s = true := fun d hd => by
  have t : ∀ d ∈ wordsEq, (d.onTables && d.keepsFace) = true := by decide +kernel
  exact RoadKit.mv hZ (hw d hd) (t d hd)
/-- the road's facts of a String, as the laws ask it -/
theorem txt_of {Z U : State} {a0 : Array Value} {kI : Nat} (wi : (Jvm.Cond.instantiable ST kI).before a0 Z = true) (al : Z.vm.Alike U.vm) {x t : Addr} {kb : ClassId} {cs : List Int32} {cd N2 : Int32} {vs : List Value} (E : RoadKit.Exa Z U.heap x ST) (V : RoadKit.Fld Z U.heap x ST "value" "[B" (.ref t)) (C : RoadKit.Fld Z U.heap x ST "coder" "B" (.int cd)) (K : RoadKit.Arv Z U.heap t kb .byte N2 vs (.int 0)) (hc : CodA cs cd N2 vs) (hb : ∀ c ∈ cs, ¬ c < 0 ∧ ¬ (65535 : Int32) < c) (l2 : cs.length ≤ 4000) :
    ∃ A, Txt x t A cd cs.length (fun j => cs.getD j 0) U := by
  obtain ⟨A, K1, K2, K3, K4, K5, K6⟩ := K
  have hcod := hc.cod (by omega) K3 K5
  obtain ⟨D, fV, fC, hB, F1, F2, g1, g2, -, -⟩ := strObj wi al E V C
  exact ⟨A, ⟨_, hB.2.2.1, D, hB.1, rfl, by cases q : D.vm <;> first | rfl | exact absurd q (hB.2.1.2 _)⟩, Has.of hB F1 g1, Has.of hB F2 g2, ⟨K1.1, State.isArrayOf_alike al K1.2.1, K1.2.2, by rcases hcod with ⟨-, q, -⟩ | ⟨-, q, -⟩ <;> omega⟩, hcod, fun j hj => by
    have e : cs.getD j 0 = cs[j] := by simp [List.getD_eq_getElem?_getD, hj]
    show ¬ cs.getD j 0 < 0 ∧ ¬ 65535 < cs.getD j 0
    rw [e]; exact hb _ (List.getElem_mem _)⟩
theorem same_list (cs ds : List Int32) : SameT cs.length (fun j => cs.getD j 0) ds.length (fun j => ds.getD j 0) ↔ cs = ds := by
  constructor
  · rintro ⟨e, q⟩
    refine List.ext_getElem e fun j h1 h2 => ?_
    have := q j h1
    simpa [List.getD_eq_getElem?_getD, h1, h2] using this
  · rintro rfl
    exact ⟨rfl, fun _ _ => rfl⟩
/-- **equals(Object) OF TWO SUCH STRINGS**: 1 just where the chars are the same -/
theorem eqW {p : Program} {l : Launch} {e : Env} {R : Room} {s : State} {args : Array Value} {below : List Frame} {len W : Nat} {Z : State} {a0 : Array Value} {h : Heap} (hZ : Z.Warmed39 s.vm) (hw : ∀ d ∈ wordsEq, d.before a0 Z = true) {kI : Nat} (wi : (Jvm.Cond.instantiable ST kI).before a0 Z = true)
    {x t : Addr} {kb : ClassId} {cs : List Int32} {cd N2 : Int32} {vs : List Value} (E : RoadKit.Exa Z h x ST) (V : RoadKit.Fld Z h x ST "value" "[B" (.ref t)) (C : RoadKit.Fld Z h x ST "coder" "B" (.int cd)) (K : RoadKit.Arv Z h t kb .byte N2 vs (.int 0)) (hc : CodA cs cd N2 vs) (hb : ∀ c ∈ cs, ¬ c < 0 ∧ ¬ (65535 : Int32) < c) (l2 : cs.length ≤ 4000)
    {y t' : Addr} {kb' : ClassId} {ds : List Int32} {cd' N2' : Int32} {vs' : List Value} (E' : RoadKit.Exa Z h y ST) (V' : RoadKit.Fld Z h y ST "value" "[B" (.ref t')) (C' : RoadKit.Fld Z h y ST "coder" "B" (.int cd')) (K' : RoadKit.Arv Z h t' kb' .byte N2' vs' (.int 0)) (hc' : CodA ds cd' N2' vs') (hb' : ∀ c ∈ ds, ¬ c < 0 ∧ ¬ (65535 : Int32) < c) (l2' : ds.length ≤ 4000)
    {z : Int32} (S : RoadKit.Sta Z h ST "COMPACT_STRINGS" "Z" (.int z)) (hz : ¬ z = 0) (hfr : 2 ≤ R.frames) (hlo : W + 28 ≤ R.locals) :
    Back l R p e below s args (⟨"java/lang/String", "equals", "(Ljava/lang/Object;)Z"⟩ : MethodName) len W (fun P a => a = #[.ref x, .ref y] ∧ P.U.heap = h ∧ P.cells + 0 ≤ R.cells ∧ P.slots + 0 ≤ R.slots)
      (fun P _ v B => ∃ L, (((v = some (.int 1) ∧ cs = ds) ∨ (v = some (.int 0) ∧ ¬ cs = ds)) ∧ L = [] ∧ B.U.heap = h) ∧ B.locs = P.locs ++ L ∧ B.cells = P.cells + 0 ∧ B.slots = P.slots + 0) := by
  intro m meth c P g ig mk a X hg hsize hdg hW hn hp'
  obtain ⟨rfl, rfl, r1, r2⟩ := hp'
  have al : Z.vm.Alike P.U.vm := hZ.alike.trans X.warmed.alike
  obtain ⟨A, hx⟩ := txt_of wi al E V C K hc hb l2
  obtain ⟨A', hy⟩ := txt_of wi al E' V' C' K' hc' hb' l2'
  obtain ⟨v, B, X', ⟨⟨w, hv, hh, hq⟩, hl, hk, hs⟩, st⟩ := SEq.pays x t A cd cs.length (fun j => cs.getD j 0) y t' A' cd' ds.length (fun j => ds.getD j 0) z (tabEq_of (movedEq hZ hw)) hfr hlo m meth c P g ig mk _ X hg hsize hdg hW hn ⟨r1, r2, rfl, hx, hy, sta_is al S, hz⟩
  refine ⟨v, B, X', ⟨[], ⟨?_, rfl, hh⟩, hl, hk, hs⟩, st⟩
  rcases hq with ⟨rfl, q⟩ | ⟨rfl, q⟩
  · exact Or.inl ⟨hv, (same_list cs ds).mp q⟩
  · exact Or.inr ⟨hv, fun e => q ((same_list cs ds).mpr e)⟩
end StrChars.Road
end Jvm.Pilot.@@N@@
namespace Jvm.Pilot.@@N@@
open Jvm Jvm.ClassFile Sem Op Lib Jvm.Free Jvm.Stand Jvm.LawKit Jvm.RoadKit Bundle Jvm.Pilot.@@N@@.Jvm.D
theorem own_eqint {t : Term} {n : Int32} {args : Array Value} {s : State} (h : (Cond.eq t (.int n)).value args s none s [] = some true) : t.eval args s none [] s = some (.int n) := by
  obtain ⟨x, y, h1, h2, k1, k2⟩ := cmp_v (Or.inl h)
  cases h2
  obtain ⟨z, rfl⟩ := k2
  have := gotT (P := z = n) (by simp [Cond.value, h1, Term.eval]) h
  rw [h1, this]
theorem own_ne {t u : Term} {C f d : String} {i j : Int32} {a b : Addr} {args : Array Value} {s : State} (ea : t.eval args s none [] s = some (.ref a)) (eb : u.eval args s none [] s = some (.ref b)) (ha : (Term.field t C f d).eval args s none [] s = some (.int i)) (hb : (Term.field u C f d).eval args s none [] s = some (.int j)) (hij : i ≠ j) : ¬ (a = b) := fun e => by
  rw [fld_at ea] at ha; rw [fld_at eb] at hb; rw [e, hb] at ha; cases ha; exact hij rfl
theorem own_and (x : Int32) : 0 ≤ (x &&& 2147483647).toInt := by
  have h : (x &&& 2147483647).toBitVec = x.toBitVec &&& 2147483647#32 := rfl
  show 0 ≤ (x &&& 2147483647).toBitVec.toInt
  rw [h]
  have : (x.toBitVec &&& 2147483647#32).msb = false := by
    rw [BitVec.msb_and, show (2147483647#32).msb = false from by decide, Bool.and_false]
  rw [BitVec.toInt_eq_toNat_of_msb this]; omega
theorem own_rem (x n : Int32) (hn : 0 < n.toInt) : 0 ≤ ((x &&& 2147483647) % n).toInt ∧ ((x &&& 2147483647) % n).toInt < n.toInt := by
  rw [Int32.toInt_mod]
  have := own_and x
  exact ⟨Int.tmod_nonneg _ this, Int.tmod_lt_of_pos _ hn⟩
theorem own_fin (x n : Int32) (k : Nat) (hn : n.toInt = k) (hk : 0 < k) : ∃ j : Fin k, (x &&& 2147483647) % n = Int32.ofInt (j.val : Int) := by
  have := own_rem x n (by omega)
  generalize (x &&& 2147483647) % n = i at *
  refine ⟨⟨i.toInt.toNat, by omega⟩, ?_⟩
  show i = Int32.ofInt ((i.toInt.toNat : Nat) : Int)
  rw [Int.toNat_of_nonneg this.1, Int32.ofInt_toInt]
def EL : List (String × Nat) := [("java/lang/String", 7)]
theorem own_nil {a : Addr} : a ∉ ([] : List Addr) := fun h => nomatch h
theorem own_notin1 {a x : Addr} (h : a ≠ x) : a ∉ [x] := fun q => h (List.mem_singleton.mp q)
theorem own_sta0 {Z : State} {h h' : Heap} {C n d : String} {v : Value} (F : Sta Z h C n d v) (K : Keep h h' []) : Sta Z h' C n d v := by
  obtain ⟨cf, i, k, f, st, cell, h1, h2, h3, h4, h5, r⟩ := F
  exact ⟨cf, i, k, f, st, cell, h1, h2, h3, h4, K.2.1 _ _ h5 own_nil, r⟩
theorem own_sta1 {Z : State} {h h' : Heap} {C n d D : String} {v : Value} {x : Addr} (F : Sta Z h C n d v) (K : Keep h h' [x]) (E : Exa Z h x D) : Sta Z h' C n d v := by
  obtain ⟨cf, i, k, f, st, cell, h1, h2, h3, h4, h5, h6, r⟩ := F
  refine ⟨cf, i, k, f, st, cell, h1, h2, h3, h4, K.2.1 _ _ h5 (own_notin1 fun e => ?_), h6, r⟩
  subst e
  rw [E.nostat _ h5] at h6; cases h6
theorem own_wS {Z : State} {a0 : Array Value} (hw : ∀ d ∈ tables_1, d.before a0 Z = true) : ∀ a ∈ Bundle.stringAtoms, a.before a0 Z = true := fun d hd => hw d ((by decide +kernel : ∀ d ∈ Bundle.stringAtoms, d ∈ tables_1) d hd)
theorem own_EW {Z : State} {a0 : Array Value} (hw : ∀ d ∈ tables_1, d.before a0 Z = true) : EW Z a0 EL := EW.cons (hw _ (List.mem_of_getElem? (i := 19) rfl)) (by decide) (EW.nil)
theorem own_words {Z : State} {a0 : Array Value} (hw : ∀ d ∈ tables_1, d.before a0 Z = true) : ∀ d ∈ StrChars.Road.words, d.before a0 Z = true := fun d hd => hw d ((by decide +kernel : ∀ d ∈ StrChars.Road.words, d ∈ tables_1) d hd)
theorem own_wordsEq {Z : State} {a0 : Array Value} (hw : ∀ d ∈ tables_1, d.before a0 Z = true) : ∀ d ∈ StrChars.Road.wordsEq, d.before a0 Z = true := fun d hd => hw d ((by decide +kernel : ∀ d ∈ StrChars.Road.wordsEq, d ∈ tables_1) d hd)
theorem own_hk {T : State} {h : Heap} {k : Nat} (e : T.heap = h) (hk : k ≤ h.size) : k ≤ T.heap.size := by rw [e]; exact hk
theorem own_backSH {p : Program} {l : Launch} {e : Env} {R : Room} {s : State} {args : Array Value} {below : List Frame} {Z : State} {a0 : Array Value} {h : Heap} {vm0 : Vm} {y : MethodName} {bytes : ByteArray} {maxL : Nat} {ret : Option FieldType} {rm : Room} {len W : Nat} {as' : Array Value} {Q : Option Value → Heap → List Loc → Prop} {ws : List Addr}
    (hM : MetFree l y (head1 [Cond.code y bytes maxL ret] rm) (fun a U => a = as' ∧ Z.Warmed39 U.vm ∧ U.heap = h ∧ CHv Z EL U.vm h ∧ ∀ x ∈ ws, Safe Z EL U.vm h x) (fun _ _ _ _ _ => True) (fun _ U o U' => ∃ v L, o = .returned v ∧ Q v U'.heap L ∧ CHr Z EL U.vm U.heap U'.vm U'.heap ∧ ReturnedEndW U o U' L rm.cells rm.slots))
    (hZ : Z.Warmed39 vm0) (wc : (Cond.code y bytes maxL ret).before a0 Z = true) (wz : (Cond.initialized y.cls).before a0 Z = true) (hf : rm.frames + 1 ≤ R.frames) (hl : W + (maxL + 11) + rm.locals ≤ R.locals) (hEL : EW Z a0 EL) (H : CHv Z EL vm0 h) (hs : ∀ x ∈ ws, x < h.size ∧ Safe Z EL vm0 h x) :
    BackS l R p e below (s.setVm vm0) args y len W (fun A a => a = as' ∧ A.U.heap = h ∧ A.cells + rm.cells ≤ R.cells ∧ A.slots + rm.slots ≤ R.slots)
      (fun A _ v B => ∃ L, Q v B.U.heap L ∧ B.locs = A.locs ++ L ∧ B.cells = A.cells + rm.cells ∧ B.slots = A.slots + rm.slots ∧ CHr Z EL vm0 h B.U.vm B.U.heap) := by
  have here : ∀ {m meth c} {A : Pt}, Stand p l e R (s.setVm vm0) m args below meth c A.U A.locs A.cells A.slots → Z.Warmed39 A.U.vm ∧ CHr Z EL vm0 h A.U.vm h := fun Y => ⟨wtrans (s := s.setVm vm0) hZ Y.warmed, CHv.at Y hZ hEL H⟩
  refine BackS.of_freeW (bytes := bytes) (maxL := maxL) (ret := ret) (E := fun _ first o t L k n => k = rm.cells ∧ n = rm.slots ∧ (∃ v, o = .returned v ∧ Q v t.heap L) ∧ CHr Z EL first.vm first.heap t.vm t.heap) hM hf hl ?_ ?_ (fun _ _ _ _ _ _ _ _ _ => trivial) ?_ ?_
  · intro m meth c A a Y hp
    have hU := (here Y).1
    exact ⟨by show (Cond.and _ .tt).before a A.U = true; rw [Cond.before_and, mv hU wc]; rfl, mv hU wc, mv hU wz, hp.2.2.1, hp.2.2.2⟩
  · intro m meth c A a g mk Y hp
    exact ⟨hp.1, (here Y).1, hp.2.1, (here Y).2.1, fun x hx => (here Y).2.safe (hs x hx).1 (hs x hx).2⟩
  · rintro _ _ _ _ ⟨v, L, h1, h2, h3, h4⟩
    exact ⟨L, _, _, h4, rfl, rfl, ⟨v, h1, h2⟩, h3⟩
  · rintro m meth c A a g mk v t L k n Y hp - - ⟨e1, e2, ⟨v', e3, e4⟩, e5⟩
    cases e3; subst e1 e2
    refine ⟨L, e4, rfl, rfl, rfl, (here Y).2.trans ?_⟩
    rw [← hp.2.1]; exact e5
def Str (Z : State) (h : Heap) (r : Addr) (cs : List Int32) : Prop := ∃ (t : Addr) (kb : ClassId) (N : Int32) (vs : List Value), Exa Z h r "java/lang/String" ∧ Fld Z h r "java/lang/String" "value" "[B" (.ref t) ∧ Fld Z h r "java/lang/String" "coder" "B" (.int 0) ∧ Arv Z h t kb .byte N vs (.int 0) ∧ StrChars.Road.CodA cs 0 N vs ∧ (∀ c ∈ cs, ¬ c < 0 ∧ ¬ (65535 : Int32) < c) ∧ cs.length ≤ 4000
theorem Str.keep0 {Z : State} {h h' : Heap} {r : Addr} {cs : List Int32} (S : Str Z h r cs) (K : Keep h h' []) : Str Z h' r cs := by
  obtain ⟨t, kb, N, vs, E, V, C, A, q⟩ := S
  exact ⟨t, kb, N, vs, E.keep K, V.keep K own_nil, C.keep K own_nil, A.keep K own_nil, q⟩
theorem Str.ext {Z : State} {h h' : Heap} {r : Addr} {cs : List Int32} (S : Str Z h r cs) (K : Ext h h') : Str Z h' r cs := by
  obtain ⟨t, kb, N, vs, E, V, C, A, q⟩ := S
  exact ⟨t, kb, N, vs, E.ext K, V.ext K, C.ext K, A.ext K, q⟩
theorem Str.keep1 {Z : State} {h h' : Heap} {r b : Addr} {cs : List Int32} {D : String} {n : Nat} {a0 : Array Value} (S : Str Z h r cs) (K : Keep h h' [b]) (F : Exa Z h b D) (hD : D ≠ "java/lang/String") (w : (Cond.instantiable D n).before a0 Z = true) : Str Z h' r cs := by
  obtain ⟨t, kb, N, vs, E, V, C, A, q⟩ := S
  have n1 : r ≠ b := (Exa.ne F E hD).symm
  have n2 : t ≠ b := (Exa.neArv F A w).symm
  exact ⟨t, kb, N, vs, E.keep K, V.keep K (own_notin1 n1), C.keep K (own_notin1 n1), A.keep K (own_notin1 n2), q⟩
def QE (Z : State) (x : Addr) (h0 : Heap) (n0 : Nat) (v : Option Value) (h : Heap) (L : List Loc) : Prop := v = none ∧ Fr n0 L ∧ Keep h0 h [x] ∧ Str Z h x []
def own_name (l a b : Int32) : List Int32 := if l = 0 then [] else if l = 1 then [nar .char a] else [nar .char a, nar .char b]
def QName (Z : State) (cs : List Int32) (h0 : Heap) (n0 : Nat) (v : Option Value) (h : Heap) (L : List Loc) : Prop := ∃ r, v = some (.ref r) ∧ Fr n0 L ∧ Keep h0 h [] ∧ Str Z h r cs
theorem d3_0 : decode jdk_42_method_149_code 0 = .ok (.aload_n 0, 1) := by decide +kernel
theorem d3_1 : decode jdk_42_method_149_code 1 = .ok (.invokespecial 1, 3) := by decide +kernel
theorem d3_4 : decode jdk_42_method_149_code 4 = .ok (.iload_n 3, 1) := by decide +kernel
theorem d3_5 : decode jdk_42_method_149_code 5 = .ok (.ifCond .ne 22, 3) := by decide +kernel
theorem d3_8 : decode jdk_42_method_149_code 8 = .ok (.aload_n 0, 1) := by decide +kernel
theorem d3_9 : decode jdk_42_method_149_code 9 = .ok (.ldc 7, 2) := by decide +kernel
theorem d3_11 : decode jdk_42_method_149_code 11 = .ok (.getfield 9, 3) := by decide +kernel
theorem d3_14 : decode jdk_42_method_149_code 14 = .ok (.putfield 9, 3) := by decide +kernel
theorem d3_17 : decode jdk_42_method_149_code 17 = .ok (.aload_n 0, 1) := by decide +kernel
theorem d3_18 : decode jdk_42_method_149_code 18 = .ok (.ldc 7, 2) := by decide +kernel
theorem d3_20 : decode jdk_42_method_149_code 20 = .ok (.getfield 15, 3) := by decide +kernel
theorem d3_23 : decode jdk_42_method_149_code 23 = .ok (.putfield 15, 3) := by decide +kernel
theorem d3_26 : decode jdk_42_method_149_code 26 = .ok (.return_, 1) := by decide +kernel
theorem pn_3 : plainName "java/lang/String" = true := by first | (simp [plainName, overriddenIn]; done) | decide +kernel
theorem ef_3 (m : MethodId) (x0 : Addr) (x1 : Addr) (x2 : Int32) (x3 : Int32) : entryFrame m #[(.ref x0), (.ref x1), (.int x2), (.int x3), .null] 6 = mkF m 0 #[.val (.ref x0), .val (.ref x1), .val (.int x2), .val (.int x3), .val .null, .unset] [] := by first | (simp [entryFrame, mkF, argsToLocals, Value.category]; done) | rfl
set_option maxRecDepth 65536 in
set_option maxHeartbeats 40000000 in
theorem rm3H (l : Launch) (Z : State) (a0 : Array Value) (hw : ∀ d ∈ tables_1, d.before a0 Z = true) (ws : List Jvm.Cond) (a1 : Addr) (a2 : Addr) (p3 : Int32) (p4 : Int32) (u_value_a1 : Value) (u_coder_a1 : Value) (h0 : Heap) (n0 : Nat) (Z0 : n0 ≤ h0.size) (E_a1 : Exa Z h0 a1 "java/lang/String") (F_value_a1 : Fld Z h0 a1 "java/lang/String" "value" "[B" u_value_a1) (g_a1 : n0 ≤ a1) (F_coder_a1 : Fld Z h0 a1 "java/lang/String" "coder" "B" u_coder_a1) (hc5 : p4 = (0 : Int32)) :
    MetFree l (⟨"java/lang/String", "<init>", "([CIILjava/lang/Void;)V"⟩ : MethodName) (head1 (Jvm.Cond.code (⟨"java/lang/String", "<init>", "([CIILjava/lang/Void;)V"⟩ : MethodName) jdk_42_method_149_code 6 none :: ws) ({ frames := 1, cells := 2, slots := 4, locals := 12 } : Room)) (fun a U => a = #[(.ref a1), (.ref a2), (.int p3), (.int p4), .null] ∧ Z.Warmed39 U.vm ∧ U.heap = h0 ∧ CHv Z EL U.vm h0 ∧ ∀ x ∈ ([a1] : List Addr), Safe Z EL U.vm h0 x) (fun _ _ _ _ _ => True) (fun _ U o U' => ∃ v L, o = .returned v ∧ QE Z a1 h0 n0 v U'.heap L ∧ CHr Z EL U.vm U.heap U'.vm U'.heap ∧ ReturnedEndW U o U' L ({ frames := 1, cells := 2, slots := 4, locals := 12 } : Room).cells ({ frames := 1, cells := 2, slots := 4, locals := 12 } : Room).slots) := by
  refine MetFree.of_bodySF (plainFor_of_name pn_3) hisR ?_
  intro p e s m args below meth c s₁ Bd hml0 hP hK
  obtain ⟨rfl, hZ, hh, CH0, hsf⟩ := hP
  have hx := Bd.exec
  have hby := Bd.bytes
  have hml : c.maxLocals = 6 := hml0
  have hown : s.vm.findClass "java/lang/String" = some m.cls := findClass_of_methodNamed Bd.named
  have hnm := (name_of_methodNamed Bd.named Bd.method).1
  have X0 : Stand p l e ({ frames := 1, cells := 2, slots := 4, locals := 12 } : Room) (s.setVm s.vm) m #[(.ref a1), (.ref a2), (.int p3), (.int p4), .null] below meth c s₁ [] 0 0 := Stand.of_body Bd
  have e0 : s₁.heap = h0 := by rw [← hh, Bd.state]; rfl
  have N0 := Fr.nil n0
  have hS0 : s.Since s.vm h0.size := (State.WarmedH.refl s).since _
  have hk0 : h0.size ≤ h0.size := Nat.le_refl _
  have CR0 : CHr Z EL s.vm h0 s.vm h0 := CHr.refl CH0
  have SF_a1 : Safe Z EL s.vm h0 a1 := hsf a1 (List.mem_singleton.mpr rfl)
  have pre0 : ∀ t, Steps p.tables e below (s₁.setTop (mkF m 0 #[.val (.ref a1), .val (.ref a2), .val (.int p3), .val (.int p4), .val .null, .unset] [])) t → Steps p.tables e below (s₁.setTop (entryFrame m #[(.ref a1), (.ref a2), (.int p3), (.int p4), .null] 6)) t := fun t k => castTop (ef_3 m a1 a2 p3 p4) k
  obtain ⟨T5, X5, e5, st5⟩ := initO X0 hx hZ hown (hw _ (List.mem_of_getElem? (i := 16) rfl)) (hw _ (List.mem_of_getElem? (i := 17) rfl)) (hw _ (List.mem_of_getElem? (i := 18) rfl)) e0 (g := (mkF m 1 #[.val (.ref a1), .val (.ref a2), .val (.int p3), .val (.int p4), .val .null, .unset] [(.ref a1)])) rfl (by rw [hml]; rfl) rfl (hb hby d3_1) (by decide) (W := 0) (by show 2 * 0 + _ ≤ _; exact Nat.le_of_eq rfl) (by decide)
  obtain ⟨la6, T6, h6, k16, lb6, lk6, X6, e6, E6, hS6, hk6, hZ6, hown6, LE6, LC6, LV6, LA6, llt6, lbt6, CI6, LL6, LS6, st6⟩ := ldcCH X5 hx hZ hown (hw _ (List.mem_of_getElem? (i := 19) rfl)) (own_wS hw) e5 hS0 hk0 (own_EW hw) (by simp [EL]) CR0.1 (vs := []) (z := 0) ⟨by decide, by decide⟩ (by decide) rfl (g := (mkF m 9 #[.val (.ref a1), .val (.ref a2), .val (.int p3), .val (.int p4), .val .null, .unset] [(.ref a1)])) rfl (hb hby d3_9) (n := 0) (by decide) (by decide) (by decide) (by decide)
  have SF_a1 := CI6.safe E_a1.lt SF_a1
  have NE6_a1 := LS6 _ SF_a1
  have CR6 := CR0.trans CI6
  have K6 : Keep h0 h6 [a1] := (Keep.refl h0 [a1]).ext E6
  have hS6 : s.Since T6.vm k16 := hS6
  have hk6 : k16 ≤ h6.size := hk6
  obtain ⟨T7, X7, e7, st7⟩ := getF X6 hx hZ6 hown6 (host := "") (Or.inl (hw _ (List.mem_of_getElem? (i := 25) rfl))) Via.refl e6 LV6 (g := (mkF m 11 #[.val (.ref a1), .val (.ref a2), .val (.int p3), .val (.int p4), .val .null, .unset] [(.ref la6), (.ref a1)])) rfl rfl (hb hby d3_11)
  obtain ⟨T8, h8, X8, e8, W8, st8⟩ := putF X7 hx hZ6 hown6 (host := "") (Or.inl (hw _ (List.mem_of_getElem? (i := 25) rfl))) Via.refl e7 (F_value_a1.ext E6) (E_a1.ext E6) (Or.inr ⟨(hw _ (List.mem_of_getElem? (i := 21) rfl)), rfl, hnm⟩) (hw _ (List.mem_of_getElem? (i := 6) rfl)) (ty := (.array .byte)) (by decide) rfl rfl (g := (mkF m 14 #[.val (.ref a1), .val (.ref a2), .val (.int p3), .val (.int p4), .val .null, .unset] [(.ref lb6), (.ref a1)])) rfl rfl (hb hby d3_14)
  have Fw8 := (F_value_a1.ext E6).same W8
  have K8 : Keep h0 h8 [a1] := K6.wr W8 (Or.inl (List.mem_of_getElem? (i := 0) rfl))
  have CR8 := CR6.trans (CHr.wr W8 SF_a1 CR6.1)
  have hk8 := Nat.le_trans hk6 (Nat.le_of_eq W8.size.symm)
  have SF_a1 := Safe.wr W8 SF_a1 CR6.1 SF_a1
  have N8 := Fr.snoc X8 N0 g_a1
  obtain ⟨T9, X9, e9, st9⟩ := getF X8 hx hZ6 hown6 (host := "") (Or.inl (hw _ (List.mem_of_getElem? (i := 26) rfl))) Via.refl e8 (LC6.other W8 (Or.inl NE6_a1.1.symm)) (g := (mkF m 20 #[.val (.ref a1), .val (.ref a2), .val (.int p3), .val (.int p4), .val .null, .unset] [(.ref la6), (.ref a1)])) rfl rfl (hb hby d3_20)
  obtain ⟨T10, h10, X10, e10, W10, st10⟩ := putFN X9 hx hZ6 hown6 (hw _ (List.mem_of_getElem? (i := 26) rfl)) Via.refl e9 ((F_coder_a1.ext E6).other W8 (Or.inr (slot_ne (Or.inr (hw _ (List.mem_of_getElem? (i := 22) rfl))) (Or.inr (hw _ (List.mem_of_getElem? (i := 21) rfl))) (by decide) (t := .byte) (t' := (.array .byte)) (by decide) (by decide)))) ((E_a1.ext E6).wr W8) (Or.inr ⟨(hw _ (List.mem_of_getElem? (i := 22) rfl)), rfl, hnm⟩) (hw _ (List.mem_of_getElem? (i := 6) rfl)) (ty := .byte) (v' := (.int (0 : Int32))) (by decide) rfl (by first | exact fits_nar_byte _ | decide) (g := (mkF m 23 #[.val (.ref a1), .val (.ref a2), .val (.int p3), .val (.int p4), .val .null, .unset] [(.int (0 : Int32)), (.ref a1)])) rfl rfl (hb hby d3_23)
  have Fw10 := ((F_coder_a1.ext E6).other W8 (Or.inr (slot_ne (Or.inr (hw _ (List.mem_of_getElem? (i := 22) rfl))) (Or.inr (hw _ (List.mem_of_getElem? (i := 21) rfl))) (by decide) (t := .byte) (t' := (.array .byte)) (by decide) (by decide)))).same W10
  have K10 : Keep h0 h10 [a1] := K8.wr W10 (Or.inl (List.mem_of_getElem? (i := 0) rfl))
  have CR10 := CR8.trans (CHr.wr W10 SF_a1 CR8.1)
  have hk10 := Nat.le_trans hk8 (Nat.le_of_eq W10.size.symm)
  have SF_a1 := Safe.wr W10 SF_a1 CR8.1 SF_a1
  have N10 := Fr.snoc X10 N8 g_a1
  have OUT0 := (((E_a1.ext E6).wr W8).wr W10)
  have OUT1 := (Fw8.other W10 (Or.inr (slot_ne (Or.inr (hw _ (List.mem_of_getElem? (i := 21) rfl))) (Or.inr (hw _ (List.mem_of_getElem? (i := 22) rfl))) (by decide) (t := (.array .byte)) (t' := .byte) (by decide) (by decide))))
  have OUT2 := Fw10
  have OUT3 := ((LA6.other W8 NE6_a1.2.symm).other W10 NE6_a1.2.symm)
  have OUTK := K10
  have hSE := hS6
  have hkE := own_hk (T := T10) (h := h10) e10 hk10
  have CRE := CR10.trans (CHv.at X10 hZ6 (own_EW hw) CR10.1)
  obtain ⟨fs, hr, hrun, hended, hRE⟩ := X10.leaveW hSE hkE (v := none) (fun _ => rfl)
  refine ⟨_, _, pre0 _ ?_, hrun, hended, _, _, rfl, ?_, ?_, hRE.1, hRE.2.1, hRE.2.2.1, hRE.2.2.2.mono (by decide) (by decide)⟩
  · show Steps p.tables e below (s₁.setTop (mkF m 0 #[.val (.ref a1), .val (.ref a2), .val (.int p3), .val (.int p4), .val .null, .unset] [])) _
    refine XS.aloadN X0.here hx rfl (hb hby d3_0) rfl rfl ?_
    show Steps p.tables e below (s₁.setTop (mkF m 1 #[.val (.ref a1), .val (.ref a2), .val (.int p3), .val (.int p4), .val .null, .unset] [(.ref a1)])) _
    refine st5 _ ?_
    show Steps p.tables e below (T5.setTop (mkF m 4 #[.val (.ref a1), .val (.ref a2), .val (.int p3), .val (.int p4), .val .null, .unset] [])) _
    refine XS.iloadN X5.here hx rfl (hb hby d3_4) rfl ?_
    show Steps p.tables e below (T5.setTop (mkF m 5 #[.val (.ref a1), .val (.ref a2), .val (.int p3), .val (.int p4), .val .null, .unset] [(.int p4)])) _
    refine XS.ifNo X5.here hx rfl (hb hby d3_5) rfl ((if0 _ _).trans (teq hc5).2) ?_
    show Steps p.tables e below (T5.setTop (mkF m 8 #[.val (.ref a1), .val (.ref a2), .val (.int p3), .val (.int p4), .val .null, .unset] [])) _
    refine XS.aloadN X5.here hx rfl (hb hby d3_8) rfl rfl ?_
    show Steps p.tables e below (T5.setTop (mkF m 9 #[.val (.ref a1), .val (.ref a2), .val (.int p3), .val (.int p4), .val .null, .unset] [(.ref a1)])) _
    refine st6 _ ?_
    show Steps p.tables e below (T6.setTop (mkF m 11 #[.val (.ref a1), .val (.ref a2), .val (.int p3), .val (.int p4), .val .null, .unset] [(.ref la6), (.ref a1)])) _
    refine st7 _ ?_
    show Steps p.tables e below (T7.setTop (mkF m 14 #[.val (.ref a1), .val (.ref a2), .val (.int p3), .val (.int p4), .val .null, .unset] [(.ref lb6), (.ref a1)])) _
    refine st8 _ ?_
    show Steps p.tables e below (T8.setTop (mkF m 17 #[.val (.ref a1), .val (.ref a2), .val (.int p3), .val (.int p4), .val .null, .unset] [])) _
    refine XS.aloadN X8.here hx rfl (hb hby d3_17) rfl rfl ?_
    show Steps p.tables e below (T8.setTop (mkF m 18 #[.val (.ref a1), .val (.ref a2), .val (.int p3), .val (.int p4), .val .null, .unset] [(.ref a1)])) _
    refine ldcAgain X8 hx hZ6 hown6 (hw _ (List.mem_of_getElem? (i := 19) rfl)) LL6 (g := (mkF m 18 #[.val (.ref a1), .val (.ref a2), .val (.int p3), .val (.int p4), .val .null, .unset] [(.ref a1)])) rfl (hb hby d3_18) _ ?_
    show Steps p.tables e below (T8.setTop (mkF m 20 #[.val (.ref a1), .val (.ref a2), .val (.int p3), .val (.int p4), .val .null, .unset] [(.ref la6), (.ref a1)])) _
    refine st9 _ ?_
    show Steps p.tables e below (T9.setTop (mkF m 23 #[.val (.ref a1), .val (.ref a2), .val (.int p3), .val (.int p4), .val .null, .unset] [(.int (0 : Int32)), (.ref a1)])) _
    refine st10 _ ?_
    show Steps p.tables e below (T10.setTop (mkF m 26 #[.val (.ref a1), .val (.ref a2), .val (.int p3), .val (.int p4), .val .null, .unset] [])) _
    exact X10.returnOut hx Bd.returns (hb hby d3_26) hr
  · show QE Z a1 h0 n0 _ T10.heap _
    rw [e10]
    exact ⟨rfl, N10, OUTK, lb6, lk6, 0, [], OUT0, OUT1, OUT2, OUT3, Or.inl ⟨rfl, rfl, rfl, fun c hc => nomatch hc⟩, (fun c hc => nomatch hc), Nat.zero_le _⟩
  · show CHr Z EL s.vm s.heap T10.vm T10.heap
    rw [show s.heap = h0 from hh, e10]; exact CRE
theorem d2_0 : decode jdk_42_method_3_code 0 = .ok (.aload_n 0, 1) := by decide +kernel
theorem d2_1 : decode jdk_42_method_3_code 1 = .ok (.aload_n 1, 1) := by decide +kernel
theorem d2_2 : decode jdk_42_method_3_code 2 = .ok (.iconst 0, 1) := by decide +kernel
theorem d2_3 : decode jdk_42_method_3_code 3 = .ok (.aload_n 1, 1) := by decide +kernel
theorem d2_4 : decode jdk_42_method_3_code 4 = .ok (.arraylength, 1) := by decide +kernel
theorem d2_5 : decode jdk_42_method_3_code 5 = .ok (.aconst_null, 1) := by decide +kernel
theorem d2_6 : decode jdk_42_method_3_code 6 = .ok (.invokespecial 27, 3) := by decide +kernel
theorem d2_9 : decode jdk_42_method_3_code 9 = .ok (.return_, 1) := by decide +kernel
theorem pn_2 : plainName "java/lang/String" = true := by first | (simp [plainName, overriddenIn]; done) | decide +kernel
theorem pd_2_2 : parseMethodDescriptor "([CIILjava/lang/Void;)V" = some ⟨[(.array .char), .int, .int, (.object "java/lang/Void")], none⟩ := by decide +kernel
theorem ef_2 (m : MethodId) (x0 : Addr) (x1 : Addr) : entryFrame m #[(.ref x0), (.ref x1)] 2 = mkF m 0 #[.val (.ref x0), .val (.ref x1)] [] := by first | (simp [entryFrame, mkF, argsToLocals, Value.category]; done) | rfl
set_option maxRecDepth 65536 in
set_option maxHeartbeats 40000000 in
theorem rm2H (l : Launch) (Z : State) (a0 : Array Value) (hw : ∀ d ∈ tables_1, d.before a0 Z = true) (ws : List Jvm.Cond) (a1 : Addr) (a2 : Addr) (cl_a2 : Cell) (z_a2 : Int32) (u_value_a1 : Value) (u_coder_a1 : Value) (h0 : Heap) (n0 : Nat) (Z0 : n0 ≤ h0.size) (E_a1 : Exa Z h0 a1 "java/lang/String") (Ar_a2 : Arr Z h0 a2 cl_a2 .char) (S_a2 : cl_a2.slots.size = z_a2.toNatClampNeg) (N_a2 : ¬ z_a2 < 0) (F_value_a1 : Fld Z h0 a1 "java/lang/String" "value" "[B" u_value_a1) (g_a1 : n0 ≤ a1) (F_coder_a1 : Fld Z h0 a1 "java/lang/String" "coder" "B" u_coder_a1) (hz : z_a2 = (0 : Int32)) :
    MetFree l (⟨"java/lang/String", "<init>", "([C)V"⟩ : MethodName) (head1 (Jvm.Cond.code (⟨"java/lang/String", "<init>", "([C)V"⟩ : MethodName) jdk_42_method_3_code 2 none :: ws) ({ frames := 2, cells := 2, slots := 4, locals := 29 } : Room)) (fun a U => a = #[(.ref a1), (.ref a2)] ∧ Z.Warmed39 U.vm ∧ U.heap = h0 ∧ CHv Z EL U.vm h0 ∧ ∀ x ∈ ([a1] : List Addr), Safe Z EL U.vm h0 x) (fun _ _ _ _ _ => True) (fun _ U o U' => ∃ v L, o = .returned v ∧ QE Z a1 h0 n0 v U'.heap L ∧ CHr Z EL U.vm U.heap U'.vm U'.heap ∧ ReturnedEndW U o U' L ({ frames := 2, cells := 2, slots := 4, locals := 29 } : Room).cells ({ frames := 2, cells := 2, slots := 4, locals := 29 } : Room).slots) := by
  refine MetFree.of_bodySF (plainFor_of_name pn_2) hisR ?_
  intro p e s m args below meth c s₁ Bd hml0 hP hK
  obtain ⟨rfl, hZ, hh, CH0, hsf⟩ := hP
  have hx := Bd.exec
  have hby := Bd.bytes
  have hml : c.maxLocals = 2 := hml0
  have hown : s.vm.findClass "java/lang/String" = some m.cls := findClass_of_methodNamed Bd.named
  have hnm := (name_of_methodNamed Bd.named Bd.method).1
  have X0 : Stand p l e ({ frames := 2, cells := 2, slots := 4, locals := 29 } : Room) (s.setVm s.vm) m #[(.ref a1), (.ref a2)] below meth c s₁ [] 0 0 := Stand.of_body Bd
  have e0 : s₁.heap = h0 := by rw [← hh, Bd.state]; rfl
  have N0 := Fr.nil n0
  have hS0 : s.Since s.vm h0.size := (State.WarmedH.refl s).since _
  have hk0 : h0.size ≤ h0.size := Nat.le_refl _
  have CR0 : CHr Z EL s.vm h0 s.vm h0 := CHr.refl CH0
  have SF_a1 : Safe Z EL s.vm h0 a1 := hsf a1 (List.mem_singleton.mpr rfl)
  have pre0 : ∀ t, Steps p.tables e below (s₁.setTop (mkF m 0 #[.val (.ref a1), .val (.ref a2)] [])) t → Steps p.tables e below (s₁.setTop (entryFrame m #[(.ref a1), (.ref a2)] 2)) t := fun t k => castTop (ef_2 m a1 a2) k
  obtain ⟨_, _, ⟨T3, L3, k3, n3⟩, -, Y3, hS3, hg3, ⟨Lc3, hQ3, l3, y3, z3, CI3⟩, st3⟩ := X0.specialBackS hx (y := (⟨"java/lang/String", "<init>", "([CIILjava/lang/Void;)V"⟩ : MethodName)) rfl hown (mvT hZ (hw _ (List.mem_of_getElem? (i := 12) rfl))) (mvT hZ (hw _ (List.mem_of_getElem? (i := 13) rfl))) (mvT hZ (hw _ (List.mem_of_getElem? (i := 15) rfl))) (by decide) (own_backSH (ws := [a1]) (W := 0) (rm3H l Z a0 hw [] a1 a2 (0 : Int32) z_a2 u_value_a1 u_coder_a1 h0 n0 Z0 E_a1 F_value_a1 g_a1 F_coder_a1 hz) hZ (hw _ (List.mem_of_getElem? (i := 15) rfl)) (hw _ (List.mem_of_getElem? (i := 7) rfl)) (by decide) (by decide) (own_EW hw) CR0.1 (fun x hx => by cases List.mem_singleton.mp hx; exact ⟨E_a1.lt, SF_a1⟩)) (g := (mkF m 6 #[.val (.ref a1), .val (.ref a2)] [.null, (.int z_a2), (.int (0 : Int32)), (.ref a2), (.ref a1)])) rfl (by rw [hml]; rfl) (Steps.refl _) (a := a1) (argsL := [(.ref a2), (.int (0 : Int32)), (.int z_a2), .null]) (rest := []) (lenOf pd_2_2 rfl) rfl (by show 2 * 0 + _ ≤ _; exact Nat.le_of_eq rfl) (hb hby d2_6) (fun _ _ => ⟨rfl, e0, (by decide : 0 + 2 ≤ _), (by decide : 0 + 4 ≤ _)⟩)
  dsimp only [Pt.U, Pt.locs, Pt.cells, Pt.slots] at Y3 l3 y3 z3 st3 hQ3 hg3 hS3 CI3
  subst l3 y3 z3
  obtain ⟨rfl, N3q, K3q, Str3⟩ := hQ3
  have N3 := Fr.app N0 N3q
  obtain ⟨X3, hS3, hZ3, hown3⟩ := rebS hS0 (own_hk (T := s₁) (h := h0) e0 hk0) Y3 hS3 hg3 hZ hown
  have hk3 : T3.heap.size ≤ T3.heap.size := Nat.le_refl _
  have CR3 := CR0.trans CI3
  have SF_a1 := CI3.safe E_a1.lt SF_a1
  have K3 : Keep h0 T3.heap [a1] := (Keep.refl h0 [a1]).trans K3q (fun x hx => by exact Or.inl hx)
  have OUTK := K3
  have hSE := hS3
  have hkE := own_hk (T := T3) (h := T3.heap) rfl hk3
  have CRE := CR3.trans (CHv.at X3 hZ3 (own_EW hw) CR3.1)
  obtain ⟨fs, hr, hrun, hended, hRE⟩ := X3.leaveW hSE hkE (v := none) (fun _ => rfl)
  refine ⟨_, _, pre0 _ ?_, hrun, hended, _, _, rfl, ?_, ?_, hRE.1, hRE.2.1, hRE.2.2.1, hRE.2.2.2.mono (by decide) (by decide)⟩
  · show Steps p.tables e below (s₁.setTop (mkF m 0 #[.val (.ref a1), .val (.ref a2)] [])) _
    refine XS.aloadN X0.here hx rfl (hb hby d2_0) rfl rfl ?_
    show Steps p.tables e below (s₁.setTop (mkF m 1 #[.val (.ref a1), .val (.ref a2)] [(.ref a1)])) _
    refine XS.aloadN X0.here hx rfl (hb hby d2_1) rfl rfl ?_
    show Steps p.tables e below (s₁.setTop (mkF m 2 #[.val (.ref a1), .val (.ref a2)] [(.ref a2), (.ref a1)])) _
    refine XS.iconst X0.here hx rfl (hb hby d2_2) ?_
    show Steps p.tables e below (s₁.setTop (mkF m 3 #[.val (.ref a1), .val (.ref a2)] [(.int (0 : Int32)), (.ref a2), (.ref a1)])) _
    refine XS.aloadN X0.here hx rfl (hb hby d2_3) rfl rfl ?_
    show Steps p.tables e below (s₁.setTop (mkF m 4 #[.val (.ref a1), .val (.ref a2)] [(.ref a2), (.int (0 : Int32)), (.ref a2), (.ref a1)])) _
    refine X0.arraylength hx (by rw [e0]; exact Ar_a2.1) (State.isArrayOf_alike hZ.alike Ar_a2.2.1) (g := (mkF m 4 #[.val (.ref a1), .val (.ref a2)] [(.ref a2), (.int (0 : Int32)), (.ref a2), (.ref a1)])) rfl rfl (hb hby d2_4) _ ?_
    rw [len_of S_a2 N_a2]
    show Steps p.tables e below (s₁.setTop (mkF m 5 #[.val (.ref a1), .val (.ref a2)] [(.int z_a2), (.int (0 : Int32)), (.ref a2), (.ref a1)])) _
    refine XS.aconstNull X0.here hx rfl (hb hby d2_5) ?_
    show Steps p.tables e below (s₁.setTop (mkF m 6 #[.val (.ref a1), .val (.ref a2)] [.null, (.int z_a2), (.int (0 : Int32)), (.ref a2), (.ref a1)])) _
    refine st3.trans ?_
    show Steps p.tables e below (T3.setTop (mkF m 9 #[.val (.ref a1), .val (.ref a2)] [])) _
    exact X3.returnOut hx Bd.returns (hb hby d2_9) hr
  · show QE Z a1 h0 n0 _ T3.heap _
    exact ⟨rfl, N3, OUTK, Str3⟩
  · show CHr Z EL s.vm s.heap T3.vm T3.heap
    rw [show s.heap = h0 from hh]; exact CRE
theorem d1_0 : decode method_2_code 0 = .ok (.iload_n 0, 1) := by decide +kernel
theorem d1_1 : decode method_2_code 1 = .ok (.ifCond .ne 14, 3) := by decide +kernel
theorem d1_4 : decode method_2_code 4 = .ok (.new 7, 3) := by decide +kernel
theorem d1_7 : decode method_2_code 7 = .ok (.dup, 1) := by decide +kernel
theorem d1_8 : decode method_2_code 8 = .ok (.iconst 0, 1) := by decide +kernel
theorem d1_9 : decode method_2_code 9 = .ok (.newarray .char, 2) := by decide +kernel
theorem d1_11 : decode method_2_code 11 = .ok (.invokespecial 9, 3) := by decide +kernel
theorem d1_14 : decode method_2_code 14 = .ok (.areturn, 1) := by decide +kernel
theorem pn_1 : plainName "com/example/niyama/niyama/relational/model/AttributeEqualsPinLaw" = true := by first | (simp [plainName, overriddenIn]; done) | decide +kernel
theorem pd_1_1 : parseMethodDescriptor "([C)V" = some ⟨[(.array .char)], none⟩ := by decide +kernel
theorem ef_1 (m : MethodId) (x0 : Int32) (x1 : Int32) (x2 : Int32) : entryFrame m #[(.int x0), (.int x1), (.int x2)] 3 = mkF m 0 #[.val (.int x0), .val (.int x1), .val (.int x2)] [] := by first | (simp [entryFrame, mkF, argsToLocals, Value.category]; done) | rfl
set_option maxRecDepth 65536 in
set_option maxHeartbeats 40000000 in
theorem rm1_f (l : Launch) (Z : State) (a0 : Array Value) (hw : ∀ d ∈ tables_1, d.before a0 Z = true) (ws : List Jvm.Cond) (p1 : Int32) (p2 : Int32) (p3 : Int32) (w_COMPACT_STRINGS : Int32) (h0 : Heap) (n0 : Nat) (Z0 : n0 ≤ h0.size) (S_COMPACT_STRINGS : Sta Z h0 "java/lang/String" "COMPACT_STRINGS" "Z" (.int w_COMPACT_STRINGS)) (hcs : ¬ (w_COMPACT_STRINGS = (0 : Int32))) (hc1 : p1 = (0 : Int32)) :
    MetFree l (⟨"com/example/niyama/niyama/relational/model/AttributeEqualsPinLaw", "name", "(ICC)Ljava/lang/String;"⟩ : MethodName) (head1 (Jvm.Cond.code (⟨"com/example/niyama/niyama/relational/model/AttributeEqualsPinLaw", "name", "(ICC)Ljava/lang/String;"⟩ : MethodName) method_2_code 3 (some (.object "java/lang/String")) :: ws) ({ frames := 4, cells := 4, slots := 8, locals := 66 } : Room)) (fun a U => a = #[(.int p1), (.int p2), (.int p3)] ∧ Z.Warmed39 U.vm ∧ U.heap = h0 ∧ CHv Z EL U.vm h0 ∧ ∀ x ∈ ([] : List Addr), Safe Z EL U.vm h0 x) (fun _ _ _ _ _ => True) (fun _ U o U' => ∃ v L, o = .returned v ∧ QName Z [] h0 n0 v U'.heap L ∧ CHr Z EL U.vm U.heap U'.vm U'.heap ∧ ReturnedEndW U o U' L ({ frames := 4, cells := 4, slots := 8, locals := 66 } : Room).cells ({ frames := 4, cells := 4, slots := 8, locals := 66 } : Room).slots) := by
  refine MetFree.of_bodySF (plainFor_of_name pn_1) hisR ?_
  intro p e s m args below meth c s₁ Bd hml0 hP hK
  obtain ⟨rfl, hZ, hh, CH0, hsf⟩ := hP
  have hx := Bd.exec
  have hby := Bd.bytes
  have hml : c.maxLocals = 3 := hml0
  have hown : s.vm.findClass "com/example/niyama/niyama/relational/model/AttributeEqualsPinLaw" = some m.cls := findClass_of_methodNamed Bd.named
  have hnm := (name_of_methodNamed Bd.named Bd.method).1
  have X0 : Stand p l e ({ frames := 4, cells := 4, slots := 8, locals := 66 } : Room) (s.setVm s.vm) m #[(.int p1), (.int p2), (.int p3)] below meth c s₁ [] 0 0 := Stand.of_body Bd
  have e0 : s₁.heap = h0 := by rw [← hh, Bd.state]; rfl
  have N0 := Fr.nil n0
  have hS0 : s.Since s.vm h0.size := (State.WarmedH.refl s).since _
  have hk0 : h0.size ≤ h0.size := Nat.le_refl _
  have CR0 : CHr Z EL s.vm h0 s.vm h0 := CHr.refl CH0
  have pre0 : ∀ t, Steps p.tables e below (s₁.setTop (mkF m 0 #[.val (.int p1), .val (.int p2), .val (.int p3)] [])) t → Steps p.tables e below (s₁.setTop (entryFrame m #[(.int p1), (.int p2), (.int p3)] 3)) t := fun t k => castTop (ef_1 m p1 p2 p3) k
  obtain ⟨T4, h4, X4, e4, E4, A4, D4, -, st4⟩ := newO X0 hx hZ hown (hw _ (List.mem_of_getElem? (i := 5) rfl)) (hw _ (List.mem_of_getElem? (i := 6) rfl)) (hw _ (List.mem_of_getElem? (i := 7) rfl)) e0 (g := (mkF m 4 #[.val (.int p1), .val (.int p2), .val (.int p3)] [])) rfl (hb hby d1_4) (by decide) (by decide)
  obtain ⟨b4, g4⟩ : ∃ z, z = h0.size := ⟨_, rfl⟩
  rw [← g4] at A4 D4 st4
  have F_value_b4 : Fld Z h4 b4 "java/lang/String" "value" "[B" .null := D4 (Or.inr (hw _ (List.mem_of_getElem? (i := 21) rfl))) (ty := (.array .byte)) (by decide)
  have F_coder_b4 : Fld Z h4 b4 "java/lang/String" "coder" "B" (.int (0 : Int32)) := D4 (Or.inr (hw _ (List.mem_of_getElem? (i := 22) rfl))) (ty := .byte) (by decide)
  have E_b4 := A4
  have g_b4 : n0 ≤ b4 := Nat.le_trans Z0 (Nat.le_of_eq g4.symm)
  have sz_b4 : h0.size ≤ b4 := (Nat.le_trans (Keep.refl h0 []).1 (Nat.le_of_eq g4.symm))
  have K4 : Keep h0 h4 [] := (Keep.refl h0 []).ext E4
  have CR4 := CR0.trans (CHr.ext E4 CR0.1)
  have hk4 := Nat.le_trans hk0 E4.1
  have SF_b4 := Safe.ext E4 CR0.1 (Safe.new (Nat.le_of_eq g4.symm))
  obtain ⟨T5, h5, k5, X5, e5, E5, A5, st5⟩ := newP X4 hx hZ (hw _ (List.mem_of_getElem? (i := 8) rfl)) e4 (g := (mkF m 9 #[.val (.int p1), .val (.int p2), .val (.int p3)] [(.int (0 : Int32)), (.ref b4), (.ref b4)])) rfl (hb hby d1_9) rfl (by decide) (cap := 0) (by decide) (by decide) (by decide) (by decide)
  obtain ⟨b5, g5⟩ : ∃ z, z = h4.size := ⟨_, rfl⟩
  rw [← g5] at A5 st5
  have V_b5 := Arv.new A5 (by decide)
  have g_b5 : n0 ≤ b5 := Nat.le_trans (Nat.le_trans Z0 E4.1) (Nat.le_of_eq g5.symm)
  have sz_b5 : h0.size ≤ b5 := (Nat.le_trans K4.1 (Nat.le_of_eq g5.symm))
  have K5 : Keep h0 h5 [] := K4.ext E5
  have CR5 := CR4.trans (CHr.ext E5 CR4.1)
  have hk5 := Nat.le_trans hk4 E5.1
  have SF_b4 := Safe.ext E5 CR4.1 SF_b4
  have SF_b5 := Safe.ext E5 CR4.1 (Safe.new (Nat.le_of_eq g5.symm))
  obtain ⟨cl_e, Ar_e, q_e, S_e, N_e, -, -⟩ := id V_b5
  obtain ⟨_, _, ⟨T6, L6, k6, n6⟩, -, Y6, hS6, hg6, ⟨Lc6, hQ6, l6, y6, z6, CI6⟩, st6⟩ := X5.specialBackS hx (y := (⟨"java/lang/String", "<init>", "([C)V"⟩ : MethodName)) rfl hown (mvT hZ (hw _ (List.mem_of_getElem? (i := 9) rfl))) (mvT hZ (hw _ (List.mem_of_getElem? (i := 10) rfl))) (mvT hZ (hw _ (List.mem_of_getElem? (i := 11) rfl))) (by decide) (own_backSH (ws := [b4]) (W := 1) (rm2H l Z a0 hw [] b4 b5 cl_e (0 : Int32) .null (.int (0 : Int32)) h5 n0 (Nat.le_trans (Nat.le_trans Z0 E4.1) E5.1) (E_b4.ext E5) Ar_e S_e (by decide) (F_value_b4.ext E5) g_b4 (F_coder_b4.ext E5) rfl) hZ (hw _ (List.mem_of_getElem? (i := 11) rfl)) (hw _ (List.mem_of_getElem? (i := 7) rfl)) (by decide) (by decide) (own_EW hw) CR5.1 (fun x hx => by cases List.mem_singleton.mp hx; exact ⟨(E_b4.ext E5).lt, SF_b4⟩)) (g := (mkF m 11 #[.val (.int p1), .val (.int p2), .val (.int p3)] [(.ref b5), (.ref b4), (.ref b4)])) rfl (by rw [hml]; rfl) (Steps.refl _) (a := b4) (argsL := [(.ref b5)]) (rest := [(.ref b4)]) (lenOf pd_1_1 rfl) rfl (by show 2 * 0 + _ ≤ _; exact Nat.le_of_eq rfl) (hb hby d1_11) (fun _ _ => ⟨rfl, e5, (by decide : 2 + 2 ≤ _), (by decide : 4 + 4 ≤ _)⟩)
  dsimp only [Pt.U, Pt.locs, Pt.cells, Pt.slots] at Y6 l6 y6 z6 st6 hQ6 hg6 hS6 CI6
  subst l6 y6 z6
  obtain ⟨rfl, N6q, K6q, Str6⟩ := hQ6
  have N6 := Fr.app N0 N6q
  obtain ⟨X6, hS6, hZ6, hown6⟩ := rebS hS0 (own_hk (T := T5) (h := h5) e5 hk5) Y6 hS6 hg6 hZ hown
  have hk6 : T6.heap.size ≤ T6.heap.size := Nat.le_refl _
  have CR6 := CR5.trans CI6
  have SF_b4 := CI6.safe (E_b4.ext E5).lt SF_b4
  have SF_b5 := CI6.safe V_b5.lt SF_b5
  have K6 : Keep h0 T6.heap [] := K5.trans K6q (fun x hx => by cases List.mem_singleton.mp hx; exact Or.inr sz_b4)
  have OUTK := K6
  have hSE := hS6
  have hkE := own_hk (T := T6) (h := T6.heap) rfl hk6
  have CRE := CR6.trans (CHv.at X6 hZ6 (own_EW hw) CR6.1)
  obtain ⟨fs, hr, hrun, hended, hRE⟩ := X6.leaveW hSE hkE (v := some (.ref b4)) (fun h => by rw [Bd.returns] at h; cases h)
  refine ⟨_, _, pre0 _ ?_, hrun, hended, _, _, rfl, ?_, ?_, hRE.1, hRE.2.1, hRE.2.2.1, hRE.2.2.2.mono (by decide) (by decide)⟩
  · show Steps p.tables e below (s₁.setTop (mkF m 0 #[.val (.int p1), .val (.int p2), .val (.int p3)] [])) _
    refine XS.iloadN X0.here hx rfl (hb hby d1_0) rfl ?_
    show Steps p.tables e below (s₁.setTop (mkF m 1 #[.val (.int p1), .val (.int p2), .val (.int p3)] [(.int p1)])) _
    refine XS.ifNo X0.here hx rfl (hb hby d1_1) rfl ((if0 _ _).trans (teq hc1).2) ?_
    show Steps p.tables e below (s₁.setTop (mkF m 4 #[.val (.int p1), .val (.int p2), .val (.int p3)] [])) _
    refine st4 _ ?_
    show Steps p.tables e below (T4.setTop (mkF m 7 #[.val (.int p1), .val (.int p2), .val (.int p3)] [(.ref b4)])) _
    refine XS.dup X4.here hx rfl (hb hby d1_7) rfl rfl ?_
    show Steps p.tables e below (T4.setTop (mkF m 8 #[.val (.int p1), .val (.int p2), .val (.int p3)] [(.ref b4), (.ref b4)])) _
    refine XS.iconst X4.here hx rfl (hb hby d1_8) ?_
    show Steps p.tables e below (T4.setTop (mkF m 9 #[.val (.int p1), .val (.int p2), .val (.int p3)] [(.int (0 : Int32)), (.ref b4), (.ref b4)])) _
    refine st5 _ ?_
    show Steps p.tables e below (T5.setTop (mkF m 11 #[.val (.int p1), .val (.int p2), .val (.int p3)] [(.ref b5), (.ref b4), (.ref b4)])) _
    refine st6.trans ?_
    show Steps p.tables e below (T6.setTop (mkF m 14 #[.val (.int p1), .val (.int p2), .val (.int p3)] [(.ref b4)])) _
    jvm_step X6.here [X6.here.top, hx, (hb hby d1_14), X6.method', Bd.returns, Value.isRef, FieldType.isReference]
    first | (intro acts; rw [hr _ acts rfl rfl rfl]) | rw [hr _ _ rfl rfl rfl]
    exact Steps.refl _
  · show QName Z [] h0 n0 _ T6.heap _
    exact ⟨b4, rfl, N6, OUTK, Str6⟩
  · show CHr Z EL s.vm s.heap T6.vm T6.heap
    rw [show s.heap = h0 from hh]; exact CRE
theorem own_wider {c : Int32} (h : ¬ c < 0 ∧ ¬ (255 : Int32) < c) : ¬ c < 0 ∧ ¬ (65535 : Int32) < c := ⟨h.1, fun q => h.2 (by rw [Int32.lt_iff_toInt_lt] at q ⊢; simp at q ⊢; omega)⟩
theorem d1_15 : decode method_2_code 15 = .ok (.iload_n 0, 1) := by decide +kernel
theorem d1_16 : decode method_2_code 16 = .ok (.iconst 1, 1) := by decide +kernel
theorem d1_17 : decode method_2_code 17 = .ok (.if_icmp .ne 18, 3) := by decide +kernel
theorem d1_20 : decode method_2_code 20 = .ok (.new 7, 3) := by decide +kernel
theorem d1_23 : decode method_2_code 23 = .ok (.dup, 1) := by decide +kernel
theorem d1_24 : decode method_2_code 24 = .ok (.iconst 1, 1) := by decide +kernel
theorem d1_25 : decode method_2_code 25 = .ok (.newarray .char, 2) := by decide +kernel
theorem d1_27 : decode method_2_code 27 = .ok (.dup, 1) := by decide +kernel
theorem d1_28 : decode method_2_code 28 = .ok (.iconst 0, 1) := by decide +kernel
theorem d1_29 : decode method_2_code 29 = .ok (.iload_n 1, 1) := by decide +kernel
theorem d1_30 : decode method_2_code 30 = .ok (.castore, 1) := by decide +kernel
theorem d1_31 : decode method_2_code 31 = .ok (.invokespecial 9, 3) := by decide +kernel
theorem d1_34 : decode method_2_code 34 = .ok (.areturn, 1) := by decide +kernel
set_option maxRecDepth 65536 in
set_option maxHeartbeats 40000000 in
theorem rm1_tf (l : Launch) (Z : State) (a0 : Array Value) (hw : ∀ d ∈ tables_1, d.before a0 Z = true) (ws : List Jvm.Cond) (p1 : Int32) (p2 : Int32) (p3 : Int32) (w_COMPACT_STRINGS : Int32) (h0 : Heap) (n0 : Nat) (Z0 : n0 ≤ h0.size) (S_COMPACT_STRINGS : Sta Z h0 "java/lang/String" "COMPACT_STRINGS" "Z" (.int w_COMPACT_STRINGS)) (hcs : ¬ (w_COMPACT_STRINGS = (0 : Int32))) (hlat : ∀ c ∈ ([nar .char p2] : List Int32), ¬ c < 0 ∧ ¬ (255 : Int32) < c) (hc1 : ¬ (p1 = (0 : Int32))) (hc17 : p1 = (1 : Int32)) :
    MetFree l (⟨"com/example/niyama/niyama/relational/model/AttributeEqualsPinLaw", "name", "(ICC)Ljava/lang/String;"⟩ : MethodName) (head1 (Jvm.Cond.code (⟨"com/example/niyama/niyama/relational/model/AttributeEqualsPinLaw", "name", "(ICC)Ljava/lang/String;"⟩ : MethodName) method_2_code 3 (some (.object "java/lang/String")) :: ws) ({ frames := 4, cells := 4, slots := 8, locals := 66 } : Room)) (fun a U => a = #[(.int p1), (.int p2), (.int p3)] ∧ Z.Warmed39 U.vm ∧ U.heap = h0 ∧ CHv Z EL U.vm h0 ∧ ∀ x ∈ ([] : List Addr), Safe Z EL U.vm h0 x) (fun _ _ _ _ _ => True) (fun _ U o U' => ∃ v L, o = .returned v ∧ QName Z [nar .char p2] h0 n0 v U'.heap L ∧ CHr Z EL U.vm U.heap U'.vm U'.heap ∧ ReturnedEndW U o U' L ({ frames := 4, cells := 4, slots := 8, locals := 66 } : Room).cells ({ frames := 4, cells := 4, slots := 8, locals := 66 } : Room).slots) := by
  refine MetFree.of_bodySF (plainFor_of_name pn_1) hisR ?_
  intro p e s m args below meth c s₁ Bd hml0 hP hK
  obtain ⟨rfl, hZ, hh, CH0, hsf⟩ := hP
  have hx := Bd.exec
  have hby := Bd.bytes
  have hml : c.maxLocals = 3 := hml0
  have hown : s.vm.findClass "com/example/niyama/niyama/relational/model/AttributeEqualsPinLaw" = some m.cls := findClass_of_methodNamed Bd.named
  have hnm := (name_of_methodNamed Bd.named Bd.method).1
  have X0 : Stand p l e ({ frames := 4, cells := 4, slots := 8, locals := 66 } : Room) (s.setVm s.vm) m #[(.int p1), (.int p2), (.int p3)] below meth c s₁ [] 0 0 := Stand.of_body Bd
  have e0 : s₁.heap = h0 := by rw [← hh, Bd.state]; rfl
  have N0 := Fr.nil n0
  have hS0 : s.Since s.vm h0.size := (State.WarmedH.refl s).since _
  have hk0 : h0.size ≤ h0.size := Nat.le_refl _
  have CR0 : CHr Z EL s.vm h0 s.vm h0 := CHr.refl CH0
  have pre0 : ∀ t, Steps p.tables e below (s₁.setTop (mkF m 0 #[.val (.int p1), .val (.int p2), .val (.int p3)] [])) t → Steps p.tables e below (s₁.setTop (entryFrame m #[(.int p1), (.int p2), (.int p3)] 3)) t := fun t k => castTop (ef_1 m p1 p2 p3) k
  obtain ⟨T4, h4, X4, e4, E4, A4, D4, -, st4⟩ := newO X0 hx hZ hown (hw _ (List.mem_of_getElem? (i := 5) rfl)) (hw _ (List.mem_of_getElem? (i := 6) rfl)) (hw _ (List.mem_of_getElem? (i := 7) rfl)) e0 (g := (mkF m 20 #[.val (.int p1), .val (.int p2), .val (.int p3)] [])) rfl (hb hby d1_20) (by decide) (by decide)
  obtain ⟨b4, g4⟩ : ∃ z, z = h0.size := ⟨_, rfl⟩
  rw [← g4] at A4 D4 st4
  have F_value_b4 : Fld Z h4 b4 "java/lang/String" "value" "[B" .null := D4 (Or.inr (hw _ (List.mem_of_getElem? (i := 21) rfl))) (ty := (.array .byte)) (by decide)
  have F_coder_b4 : Fld Z h4 b4 "java/lang/String" "coder" "B" (.int (0 : Int32)) := D4 (Or.inr (hw _ (List.mem_of_getElem? (i := 22) rfl))) (ty := .byte) (by decide)
  have E_b4 := A4
  have g_b4 : n0 ≤ b4 := Nat.le_trans Z0 (Nat.le_of_eq g4.symm)
  have sz_b4 : h0.size ≤ b4 := (Nat.le_trans (Keep.refl h0 []).1 (Nat.le_of_eq g4.symm))
  have K4 : Keep h0 h4 [] := (Keep.refl h0 []).ext E4
  have CR4 := CR0.trans (CHr.ext E4 CR0.1)
  have hk4 := Nat.le_trans hk0 E4.1
  have SF_b4 := Safe.ext E4 CR0.1 (Safe.new (Nat.le_of_eq g4.symm))
  obtain ⟨T5, h5, k5, X5, e5, E5, A5, st5⟩ := newP X4 hx hZ (hw _ (List.mem_of_getElem? (i := 8) rfl)) e4 (g := (mkF m 25 #[.val (.int p1), .val (.int p2), .val (.int p3)] [(.int (1 : Int32)), (.ref b4), (.ref b4)])) rfl (hb hby d1_25) rfl (by decide) (cap := 1) (by decide) (by decide) (by decide) (by decide)
  obtain ⟨b5, g5⟩ : ∃ z, z = h4.size := ⟨_, rfl⟩
  rw [← g5] at A5 st5
  have V_b5 : Arv Z h5 b5 k5 .char (1 : Int32) [(.int (0 : Int32))] (.int (0 : Int32)) := (Arv.new A5 (by decide)).pad (pad_rep [] (.int (0 : Int32)) 1)
  have g_b5 : n0 ≤ b5 := Nat.le_trans (Nat.le_trans Z0 E4.1) (Nat.le_of_eq g5.symm)
  have sz_b5 : h0.size ≤ b5 := (Nat.le_trans K4.1 (Nat.le_of_eq g5.symm))
  have K5 : Keep h0 h5 [] := K4.ext E5
  have CR5 := CR4.trans (CHr.ext E5 CR4.1)
  have hk5 := Nat.le_trans hk4 E5.1
  have SF_b4 := Safe.ext E5 CR4.1 SF_b4
  have SF_b5 := Safe.ext E5 CR4.1 (Safe.new (Nat.le_of_eq g5.symm))
  obtain ⟨cl_b5_30, Ar_b5, q_b5, S_b5, N_b5, H_b5, G_b5⟩ := V_b5
  have hin30 : ¬ ((0 : Int32) < 0 ∨ cl_b5_30.slots.size ≤ ((0 : Int32)).toNatClampNeg) := inb_of S_b5 ⟨by decide, by decide⟩
  obtain ⟨T6, h6, X6, e6, W6, st6⟩ := stC X5 hx hZ e5 Ar_b5 (j := (0 : Int32)) hin30 (g := (mkF m 30 #[.val (.int p1), .val (.int p2), .val (.int p3)] [(.int p2), (.int (0 : Int32)), (.ref b5), (.ref b5), (.ref b4), (.ref b4)])) rfl rfl (hb hby d1_30)
  have V_b5_6 := Arv.set Ar_b5 q_b5 S_b5 N_b5 H_b5 G_b5 (fits_nar_char _) W6 0 rfl (Nat.le_of_ble_eq_true rfl)
  have K6 : Keep h0 h6 [] := K5.wr W6 (Or.inr sz_b5)
  have CR6 := CR5.trans (CHr.wr W6 SF_b5 CR5.1)
  have hk6 := Nat.le_trans hk5 (Nat.le_of_eq W6.size.symm)
  have SF_b4 := Safe.wr W6 SF_b5 CR5.1 SF_b4
  have SF_b5 := Safe.wr W6 SF_b5 CR5.1 SF_b5
  have N6 := Fr.snoc X6 N0 g_b5
  obtain ⟨_, _, ⟨T7, L7, k7, n7⟩, -, X7, ⟨Lc7, hQ7, l7, y7, z7⟩, st7⟩ := X6.specialBack hx (y := (⟨"java/lang/String", "<init>", "([C)V"⟩ : MethodName)) rfl hown (mvT hZ (hw _ (List.mem_of_getElem? (i := 9) rfl))) (mvT hZ (hw _ (List.mem_of_getElem? (i := 10) rfl))) (mvT hZ (hw _ (List.mem_of_getElem? (i := 11) rfl))) (by decide) (StrChars.Road.backV (W := 1) hZ (own_words hw) (kI := 4) (hw _ (List.mem_of_getElem? (i := 6) rfl)) (cs := [nar .char p2]) (bs := [(nar .char p2).toInt8.toInt32]) (n := 1) g_b4 (Nat.le_trans (Nat.le_trans (Nat.le_trans Z0 E4.1) E5.1) (Keep.of_wr W6).1) ((E_b4.ext E5).wr W6) ((F_value_b4.ext E5).other W6 (Or.inl (Nat.ne_of_lt (Nat.lt_of_lt_of_le E_b4.lt (Nat.le_of_eq g5.symm))))) ((F_coder_b4.ext E5).other W6 (Or.inl (Nat.ne_of_lt (Nat.lt_of_lt_of_le E_b4.lt (Nat.le_of_eq g5.symm))))) V_b5_6 (((S_COMPACT_STRINGS.ext E4).ext E5).wr W6) hcs rfl rfl (by decide) (by decide) hlat rfl (by decide) (by decide)) (g := (mkF m 31 #[.val (.int p1), .val (.int p2), .val (.int p3)] [(.ref b5), (.ref b4), (.ref b4)])) rfl (by rw [hml]; rfl) (Steps.refl _) (a := b4) (argsL := [(.ref b5)]) (rest := [(.ref b4)]) (lenOf pd_1_1 rfl) rfl (by show 2 * 0 + _ ≤ _; exact Nat.le_of_eq rfl) (hb hby d1_31) (fun _ _ => ⟨rfl, e6, (by decide : 2 + 1 ≤ _), (by decide : 5 + 1 ≤ _)⟩)
  dsimp only [Pt.U, Pt.locs, Pt.cells, Pt.slots] at X7 l7 y7 z7 st7 hQ7
  subst l7 y7 z7
  obtain ⟨rfl, N7q, K7q, E7q, C7q, t7, kb7, -, -, -, V7q, A7q⟩ := hQ7
  have N7 := Fr.app N6 N7q
  have K7 : Keep h0 T7.heap [] := K6.trans K7q (fun x hx => by cases List.mem_singleton.mp hx; exact Or.inr sz_b4)
  have CR7 := CR6.trans (CHr.keep K7q (fun x hx => by cases List.mem_singleton.mp hx; exact SF_b4) CR6.1)
  have hk7 := Nat.le_trans hk6 K7q.1
  have SF_b5 := Safe.keep K7q (fun x hx => by cases List.mem_singleton.mp hx; exact SF_b4) CR6.1 SF_b5
  have SF_b4 := Safe.keep K7q (fun x hx => by cases List.mem_singleton.mp hx; exact SF_b4) CR6.1 SF_b4
  have OUTK := K7
  have hSE := hS0
  have hkE := own_hk (T := T7) (h := T7.heap) rfl hk7
  have CRE := CR7.trans (CHv.at X7 hZ (own_EW hw) CR7.1)
  obtain ⟨fs, hr, hrun, hended, hRE⟩ := X7.leaveW hSE hkE (v := some (.ref b4)) (fun h => by rw [Bd.returns] at h; cases h)
  refine ⟨_, _, pre0 _ ?_, hrun, hended, _, _, rfl, ?_, ?_, hRE.1, hRE.2.1, hRE.2.2.1, hRE.2.2.2.mono (by decide) (by decide)⟩
  · show Steps p.tables e below (s₁.setTop (mkF m 0 #[.val (.int p1), .val (.int p2), .val (.int p3)] [])) _
    refine XS.iloadN X0.here hx rfl (hb hby d1_0) rfl ?_
    show Steps p.tables e below (s₁.setTop (mkF m 1 #[.val (.int p1), .val (.int p2), .val (.int p3)] [(.int p1)])) _
    refine XS.ifYes X0.here hx rfl (pc0 := 1) (pc' := 15) rfl (hb hby d1_1) rfl ((if0 _ _).trans (feq hc1).2) (by decide) (by decide) ?_
    show Steps p.tables e below (s₁.setTop (mkF m 15 #[.val (.int p1), .val (.int p2), .val (.int p3)] [])) _
    refine XS.iloadN X0.here hx rfl (hb hby d1_15) rfl ?_
    show Steps p.tables e below (s₁.setTop (mkF m 16 #[.val (.int p1), .val (.int p2), .val (.int p3)] [(.int p1)])) _
    refine XS.iconst X0.here hx rfl (hb hby d1_16) ?_
    show Steps p.tables e below (s₁.setTop (mkF m 17 #[.val (.int p1), .val (.int p2), .val (.int p3)] [(.int (1 : Int32)), (.int p1)])) _
    refine XS.icmpNo X0.here hx rfl (hb hby d1_17) rfl (teq hc17).2 ?_
    show Steps p.tables e below (s₁.setTop (mkF m 20 #[.val (.int p1), .val (.int p2), .val (.int p3)] [])) _
    refine st4 _ ?_
    show Steps p.tables e below (T4.setTop (mkF m 23 #[.val (.int p1), .val (.int p2), .val (.int p3)] [(.ref b4)])) _
    refine XS.dup X4.here hx rfl (hb hby d1_23) rfl rfl ?_
    show Steps p.tables e below (T4.setTop (mkF m 24 #[.val (.int p1), .val (.int p2), .val (.int p3)] [(.ref b4), (.ref b4)])) _
    refine XS.iconst X4.here hx rfl (hb hby d1_24) ?_
    show Steps p.tables e below (T4.setTop (mkF m 25 #[.val (.int p1), .val (.int p2), .val (.int p3)] [(.int (1 : Int32)), (.ref b4), (.ref b4)])) _
    refine st5 _ ?_
    show Steps p.tables e below (T5.setTop (mkF m 27 #[.val (.int p1), .val (.int p2), .val (.int p3)] [(.ref b5), (.ref b4), (.ref b4)])) _
    refine XS.dup X5.here hx rfl (hb hby d1_27) rfl rfl ?_
    show Steps p.tables e below (T5.setTop (mkF m 28 #[.val (.int p1), .val (.int p2), .val (.int p3)] [(.ref b5), (.ref b5), (.ref b4), (.ref b4)])) _
    refine XS.iconst X5.here hx rfl (hb hby d1_28) ?_
    show Steps p.tables e below (T5.setTop (mkF m 29 #[.val (.int p1), .val (.int p2), .val (.int p3)] [(.int (0 : Int32)), (.ref b5), (.ref b5), (.ref b4), (.ref b4)])) _
    refine XS.iloadN X5.here hx rfl (hb hby d1_29) rfl ?_
    show Steps p.tables e below (T5.setTop (mkF m 30 #[.val (.int p1), .val (.int p2), .val (.int p3)] [(.int p2), (.int (0 : Int32)), (.ref b5), (.ref b5), (.ref b4), (.ref b4)])) _
    refine st6 _ ?_
    show Steps p.tables e below (T6.setTop (mkF m 31 #[.val (.int p1), .val (.int p2), .val (.int p3)] [(.ref b5), (.ref b4), (.ref b4)])) _
    refine st7.trans ?_
    show Steps p.tables e below (T7.setTop (mkF m 34 #[.val (.int p1), .val (.int p2), .val (.int p3)] [(.ref b4)])) _
    jvm_step X7.here [X7.here.top, hx, (hb hby d1_34), X7.method', Bd.returns, Value.isRef, FieldType.isReference]
    first | (intro acts; rw [hr _ acts rfl rfl rfl]) | rw [hr _ _ rfl rfl rfl]
    exact Steps.refl _
  · show QName Z [nar .char p2] h0 n0 _ T7.heap _
    exact ⟨b4, rfl, N7, OUTK, t7, kb7, _, _, E7q, V7q, C7q, A7q, Or.inl ⟨rfl, rfl, rfl, fun c hc => (hlat c hc).2⟩, (fun c hc => own_wider (hlat c hc)), Nat.le_of_ble_eq_true rfl⟩
  · show CHr Z EL s.vm s.heap T7.vm T7.heap
    rw [show s.heap = h0 from hh]; exact CRE
theorem d1_35 : decode method_2_code 35 = .ok (.new 7, 3) := by decide +kernel
theorem d1_38 : decode method_2_code 38 = .ok (.dup, 1) := by decide +kernel
theorem d1_39 : decode method_2_code 39 = .ok (.iconst 2, 1) := by decide +kernel
theorem d1_40 : decode method_2_code 40 = .ok (.newarray .char, 2) := by decide +kernel
theorem d1_42 : decode method_2_code 42 = .ok (.dup, 1) := by decide +kernel
theorem d1_43 : decode method_2_code 43 = .ok (.iconst 0, 1) := by decide +kernel
theorem d1_44 : decode method_2_code 44 = .ok (.iload_n 1, 1) := by decide +kernel
theorem d1_45 : decode method_2_code 45 = .ok (.castore, 1) := by decide +kernel
theorem d1_46 : decode method_2_code 46 = .ok (.dup, 1) := by decide +kernel
theorem d1_47 : decode method_2_code 47 = .ok (.iconst 1, 1) := by decide +kernel
theorem d1_48 : decode method_2_code 48 = .ok (.iload_n 2, 1) := by decide +kernel
theorem d1_49 : decode method_2_code 49 = .ok (.castore, 1) := by decide +kernel
theorem d1_50 : decode method_2_code 50 = .ok (.invokespecial 9, 3) := by decide +kernel
theorem d1_53 : decode method_2_code 53 = .ok (.areturn, 1) := by decide +kernel
set_option maxRecDepth 65536 in
set_option maxHeartbeats 40000000 in
theorem rm1_tt (l : Launch) (Z : State) (a0 : Array Value) (hw : ∀ d ∈ tables_1, d.before a0 Z = true) (ws : List Jvm.Cond) (p1 : Int32) (p2 : Int32) (p3 : Int32) (w_COMPACT_STRINGS : Int32) (h0 : Heap) (n0 : Nat) (Z0 : n0 ≤ h0.size) (S_COMPACT_STRINGS : Sta Z h0 "java/lang/String" "COMPACT_STRINGS" "Z" (.int w_COMPACT_STRINGS)) (hcs : ¬ (w_COMPACT_STRINGS = (0 : Int32))) (hlat : ∀ c ∈ ([nar .char p2, nar .char p3] : List Int32), ¬ c < 0 ∧ ¬ (255 : Int32) < c) (hc1 : ¬ (p1 = (0 : Int32))) (hc17 : ¬ (p1 = (1 : Int32))) :
    MetFree l (⟨"com/example/niyama/niyama/relational/model/AttributeEqualsPinLaw", "name", "(ICC)Ljava/lang/String;"⟩ : MethodName) (head1 (Jvm.Cond.code (⟨"com/example/niyama/niyama/relational/model/AttributeEqualsPinLaw", "name", "(ICC)Ljava/lang/String;"⟩ : MethodName) method_2_code 3 (some (.object "java/lang/String")) :: ws) ({ frames := 4, cells := 4, slots := 8, locals := 66 } : Room)) (fun a U => a = #[(.int p1), (.int p2), (.int p3)] ∧ Z.Warmed39 U.vm ∧ U.heap = h0 ∧ CHv Z EL U.vm h0 ∧ ∀ x ∈ ([] : List Addr), Safe Z EL U.vm h0 x) (fun _ _ _ _ _ => True) (fun _ U o U' => ∃ v L, o = .returned v ∧ QName Z [nar .char p2, nar .char p3] h0 n0 v U'.heap L ∧ CHr Z EL U.vm U.heap U'.vm U'.heap ∧ ReturnedEndW U o U' L ({ frames := 4, cells := 4, slots := 8, locals := 66 } : Room).cells ({ frames := 4, cells := 4, slots := 8, locals := 66 } : Room).slots) := by
  refine MetFree.of_bodySF (plainFor_of_name pn_1) hisR ?_
  intro p e s m args below meth c s₁ Bd hml0 hP hK
  obtain ⟨rfl, hZ, hh, CH0, hsf⟩ := hP
  have hx := Bd.exec
  have hby := Bd.bytes
  have hml : c.maxLocals = 3 := hml0
  have hown : s.vm.findClass "com/example/niyama/niyama/relational/model/AttributeEqualsPinLaw" = some m.cls := findClass_of_methodNamed Bd.named
  have hnm := (name_of_methodNamed Bd.named Bd.method).1
  have X0 : Stand p l e ({ frames := 4, cells := 4, slots := 8, locals := 66 } : Room) (s.setVm s.vm) m #[(.int p1), (.int p2), (.int p3)] below meth c s₁ [] 0 0 := Stand.of_body Bd
  have e0 : s₁.heap = h0 := by rw [← hh, Bd.state]; rfl
  have N0 := Fr.nil n0
  have hS0 : s.Since s.vm h0.size := (State.WarmedH.refl s).since _
  have hk0 : h0.size ≤ h0.size := Nat.le_refl _
  have CR0 : CHr Z EL s.vm h0 s.vm h0 := CHr.refl CH0
  have pre0 : ∀ t, Steps p.tables e below (s₁.setTop (mkF m 0 #[.val (.int p1), .val (.int p2), .val (.int p3)] [])) t → Steps p.tables e below (s₁.setTop (entryFrame m #[(.int p1), (.int p2), (.int p3)] 3)) t := fun t k => castTop (ef_1 m p1 p2 p3) k
  obtain ⟨T4, h4, X4, e4, E4, A4, D4, -, st4⟩ := newO X0 hx hZ hown (hw _ (List.mem_of_getElem? (i := 5) rfl)) (hw _ (List.mem_of_getElem? (i := 6) rfl)) (hw _ (List.mem_of_getElem? (i := 7) rfl)) e0 (g := (mkF m 35 #[.val (.int p1), .val (.int p2), .val (.int p3)] [])) rfl (hb hby d1_35) (by decide) (by decide)
  obtain ⟨b4, g4⟩ : ∃ z, z = h0.size := ⟨_, rfl⟩
  rw [← g4] at A4 D4 st4
  have F_value_b4 : Fld Z h4 b4 "java/lang/String" "value" "[B" .null := D4 (Or.inr (hw _ (List.mem_of_getElem? (i := 21) rfl))) (ty := (.array .byte)) (by decide)
  have F_coder_b4 : Fld Z h4 b4 "java/lang/String" "coder" "B" (.int (0 : Int32)) := D4 (Or.inr (hw _ (List.mem_of_getElem? (i := 22) rfl))) (ty := .byte) (by decide)
  have E_b4 := A4
  have g_b4 : n0 ≤ b4 := Nat.le_trans Z0 (Nat.le_of_eq g4.symm)
  have sz_b4 : h0.size ≤ b4 := (Nat.le_trans (Keep.refl h0 []).1 (Nat.le_of_eq g4.symm))
  have K4 : Keep h0 h4 [] := (Keep.refl h0 []).ext E4
  have CR4 := CR0.trans (CHr.ext E4 CR0.1)
  have hk4 := Nat.le_trans hk0 E4.1
  have SF_b4 := Safe.ext E4 CR0.1 (Safe.new (Nat.le_of_eq g4.symm))
  obtain ⟨T5, h5, k5, X5, e5, E5, A5, st5⟩ := newP X4 hx hZ (hw _ (List.mem_of_getElem? (i := 8) rfl)) e4 (g := (mkF m 40 #[.val (.int p1), .val (.int p2), .val (.int p3)] [(.int (2 : Int32)), (.ref b4), (.ref b4)])) rfl (hb hby d1_40) rfl (by decide) (cap := 2) (by decide) (by decide) (by decide) (by decide)
  obtain ⟨b5, g5⟩ : ∃ z, z = h4.size := ⟨_, rfl⟩
  rw [← g5] at A5 st5
  have V_b5 : Arv Z h5 b5 k5 .char (2 : Int32) [(.int (0 : Int32)), (.int (0 : Int32))] (.int (0 : Int32)) := (Arv.new A5 (by decide)).pad (pad_rep [] (.int (0 : Int32)) 2)
  have g_b5 : n0 ≤ b5 := Nat.le_trans (Nat.le_trans Z0 E4.1) (Nat.le_of_eq g5.symm)
  have sz_b5 : h0.size ≤ b5 := (Nat.le_trans K4.1 (Nat.le_of_eq g5.symm))
  have K5 : Keep h0 h5 [] := K4.ext E5
  have CR5 := CR4.trans (CHr.ext E5 CR4.1)
  have hk5 := Nat.le_trans hk4 E5.1
  have SF_b4 := Safe.ext E5 CR4.1 SF_b4
  have SF_b5 := Safe.ext E5 CR4.1 (Safe.new (Nat.le_of_eq g5.symm))
  obtain ⟨cl_b5_45, Ar_b5, q_b5, S_b5, N_b5, H_b5, G_b5⟩ := V_b5
  have hin45 : ¬ ((0 : Int32) < 0 ∨ cl_b5_45.slots.size ≤ ((0 : Int32)).toNatClampNeg) := inb_of S_b5 ⟨by decide, by decide⟩
  obtain ⟨T6, h6, X6, e6, W6, st6⟩ := stC X5 hx hZ e5 Ar_b5 (j := (0 : Int32)) hin45 (g := (mkF m 45 #[.val (.int p1), .val (.int p2), .val (.int p3)] [(.int p2), (.int (0 : Int32)), (.ref b5), (.ref b5), (.ref b4), (.ref b4)])) rfl rfl (hb hby d1_45)
  have V_b5_6 := Arv.set Ar_b5 q_b5 S_b5 N_b5 H_b5 G_b5 (fits_nar_char _) W6 0 rfl (Nat.le_of_ble_eq_true rfl)
  have K6 : Keep h0 h6 [] := K5.wr W6 (Or.inr sz_b5)
  have CR6 := CR5.trans (CHr.wr W6 SF_b5 CR5.1)
  have hk6 := Nat.le_trans hk5 (Nat.le_of_eq W6.size.symm)
  have SF_b4 := Safe.wr W6 SF_b5 CR5.1 SF_b4
  have SF_b5 := Safe.wr W6 SF_b5 CR5.1 SF_b5
  have N6 := Fr.snoc X6 N0 g_b5
  obtain ⟨cl_b5_49, Ar_b5, q_b5, S_b5, N_b5, H_b5, G_b5⟩ := V_b5_6
  have hin49 : ¬ ((1 : Int32) < 0 ∨ cl_b5_49.slots.size ≤ ((1 : Int32)).toNatClampNeg) := inb_of S_b5 ⟨by decide, by decide⟩
  obtain ⟨T7, h7, X7, e7, W7, st7⟩ := stC X6 hx hZ e6 Ar_b5 (j := (1 : Int32)) hin49 (g := (mkF m 49 #[.val (.int p1), .val (.int p2), .val (.int p3)] [(.int p3), (.int (1 : Int32)), (.ref b5), (.ref b5), (.ref b4), (.ref b4)])) rfl rfl (hb hby d1_49)
  have V_b5_7 := Arv.set Ar_b5 q_b5 S_b5 N_b5 H_b5 G_b5 (fits_nar_char _) W7 1 rfl (Nat.le_of_ble_eq_true rfl)
  have K7 : Keep h0 h7 [] := K6.wr W7 (Or.inr sz_b5)
  have CR7 := CR6.trans (CHr.wr W7 SF_b5 CR6.1)
  have hk7 := Nat.le_trans hk6 (Nat.le_of_eq W7.size.symm)
  have SF_b4 := Safe.wr W7 SF_b5 CR6.1 SF_b4
  have SF_b5 := Safe.wr W7 SF_b5 CR6.1 SF_b5
  have N7 := Fr.snoc X7 N6 g_b5
  obtain ⟨_, _, ⟨T8, L8, k8, n8⟩, -, X8, ⟨Lc8, hQ8, l8, y8, z8⟩, st8⟩ := X7.specialBack hx (y := (⟨"java/lang/String", "<init>", "([C)V"⟩ : MethodName)) rfl hown (mvT hZ (hw _ (List.mem_of_getElem? (i := 9) rfl))) (mvT hZ (hw _ (List.mem_of_getElem? (i := 10) rfl))) (mvT hZ (hw _ (List.mem_of_getElem? (i := 11) rfl))) (by decide) (StrChars.Road.backV (W := 1) hZ (own_words hw) (kI := 4) (hw _ (List.mem_of_getElem? (i := 6) rfl)) (cs := [nar .char p2, nar .char p3]) (bs := [(nar .char p2).toInt8.toInt32, (nar .char p3).toInt8.toInt32]) (n := 2) g_b4 (Nat.le_trans (Nat.le_trans (Nat.le_trans (Nat.le_trans Z0 E4.1) E5.1) (Keep.of_wr W6).1) (Keep.of_wr W7).1) (((E_b4.ext E5).wr W6).wr W7) (((F_value_b4.ext E5).other W6 (Or.inl (Nat.ne_of_lt (Nat.lt_of_lt_of_le E_b4.lt (Nat.le_of_eq g5.symm))))).other W7 (Or.inl (Nat.ne_of_lt (Nat.lt_of_lt_of_le E_b4.lt (Nat.le_of_eq g5.symm))))) (((F_coder_b4.ext E5).other W6 (Or.inl (Nat.ne_of_lt (Nat.lt_of_lt_of_le E_b4.lt (Nat.le_of_eq g5.symm))))).other W7 (Or.inl (Nat.ne_of_lt (Nat.lt_of_lt_of_le E_b4.lt (Nat.le_of_eq g5.symm))))) V_b5_7 ((((S_COMPACT_STRINGS.ext E4).ext E5).wr W6).wr W7) hcs rfl rfl (by decide) (by decide) hlat rfl (by decide) (by decide)) (g := (mkF m 50 #[.val (.int p1), .val (.int p2), .val (.int p3)] [(.ref b5), (.ref b4), (.ref b4)])) rfl (by rw [hml]; rfl) (Steps.refl _) (a := b4) (argsL := [(.ref b5)]) (rest := [(.ref b4)]) (lenOf pd_1_1 rfl) rfl (by show 2 * 0 + _ ≤ _; exact Nat.le_of_eq rfl) (hb hby d1_50) (fun _ _ => ⟨rfl, e7, (by decide : 2 + 1 ≤ _), (by decide : 6 + 2 ≤ _)⟩)
  dsimp only [Pt.U, Pt.locs, Pt.cells, Pt.slots] at X8 l8 y8 z8 st8 hQ8
  subst l8 y8 z8
  obtain ⟨rfl, N8q, K8q, E8q, C8q, t8, kb8, -, -, -, V8q, A8q⟩ := hQ8
  have N8 := Fr.app N7 N8q
  have K8 : Keep h0 T8.heap [] := K7.trans K8q (fun x hx => by cases List.mem_singleton.mp hx; exact Or.inr sz_b4)
  have CR8 := CR7.trans (CHr.keep K8q (fun x hx => by cases List.mem_singleton.mp hx; exact SF_b4) CR7.1)
  have hk8 := Nat.le_trans hk7 K8q.1
  have SF_b5 := Safe.keep K8q (fun x hx => by cases List.mem_singleton.mp hx; exact SF_b4) CR7.1 SF_b5
  have SF_b4 := Safe.keep K8q (fun x hx => by cases List.mem_singleton.mp hx; exact SF_b4) CR7.1 SF_b4
  have OUTK := K8
  have hSE := hS0
  have hkE := own_hk (T := T8) (h := T8.heap) rfl hk8
  have CRE := CR8.trans (CHv.at X8 hZ (own_EW hw) CR8.1)
  obtain ⟨fs, hr, hrun, hended, hRE⟩ := X8.leaveW hSE hkE (v := some (.ref b4)) (fun h => by rw [Bd.returns] at h; cases h)
  refine ⟨_, _, pre0 _ ?_, hrun, hended, _, _, rfl, ?_, ?_, hRE.1, hRE.2.1, hRE.2.2.1, hRE.2.2.2.mono (by decide) (by decide)⟩
  · show Steps p.tables e below (s₁.setTop (mkF m 0 #[.val (.int p1), .val (.int p2), .val (.int p3)] [])) _
    refine XS.iloadN X0.here hx rfl (hb hby d1_0) rfl ?_
    show Steps p.tables e below (s₁.setTop (mkF m 1 #[.val (.int p1), .val (.int p2), .val (.int p3)] [(.int p1)])) _
    refine XS.ifYes X0.here hx rfl (pc0 := 1) (pc' := 15) rfl (hb hby d1_1) rfl ((if0 _ _).trans (feq hc1).2) (by decide) (by decide) ?_
    show Steps p.tables e below (s₁.setTop (mkF m 15 #[.val (.int p1), .val (.int p2), .val (.int p3)] [])) _
    refine XS.iloadN X0.here hx rfl (hb hby d1_15) rfl ?_
    show Steps p.tables e below (s₁.setTop (mkF m 16 #[.val (.int p1), .val (.int p2), .val (.int p3)] [(.int p1)])) _
    refine XS.iconst X0.here hx rfl (hb hby d1_16) ?_
    show Steps p.tables e below (s₁.setTop (mkF m 17 #[.val (.int p1), .val (.int p2), .val (.int p3)] [(.int (1 : Int32)), (.int p1)])) _
    refine XS.icmpYes X0.here hx rfl (pc0 := 17) (pc' := 35) rfl (hb hby d1_17) rfl (feq hc17).2 (by decide) (by decide) ?_
    show Steps p.tables e below (s₁.setTop (mkF m 35 #[.val (.int p1), .val (.int p2), .val (.int p3)] [])) _
    refine st4 _ ?_
    show Steps p.tables e below (T4.setTop (mkF m 38 #[.val (.int p1), .val (.int p2), .val (.int p3)] [(.ref b4)])) _
    refine XS.dup X4.here hx rfl (hb hby d1_38) rfl rfl ?_
    show Steps p.tables e below (T4.setTop (mkF m 39 #[.val (.int p1), .val (.int p2), .val (.int p3)] [(.ref b4), (.ref b4)])) _
    refine XS.iconst X4.here hx rfl (hb hby d1_39) ?_
    show Steps p.tables e below (T4.setTop (mkF m 40 #[.val (.int p1), .val (.int p2), .val (.int p3)] [(.int (2 : Int32)), (.ref b4), (.ref b4)])) _
    refine st5 _ ?_
    show Steps p.tables e below (T5.setTop (mkF m 42 #[.val (.int p1), .val (.int p2), .val (.int p3)] [(.ref b5), (.ref b4), (.ref b4)])) _
    refine XS.dup X5.here hx rfl (hb hby d1_42) rfl rfl ?_
    show Steps p.tables e below (T5.setTop (mkF m 43 #[.val (.int p1), .val (.int p2), .val (.int p3)] [(.ref b5), (.ref b5), (.ref b4), (.ref b4)])) _
    refine XS.iconst X5.here hx rfl (hb hby d1_43) ?_
    show Steps p.tables e below (T5.setTop (mkF m 44 #[.val (.int p1), .val (.int p2), .val (.int p3)] [(.int (0 : Int32)), (.ref b5), (.ref b5), (.ref b4), (.ref b4)])) _
    refine XS.iloadN X5.here hx rfl (hb hby d1_44) rfl ?_
    show Steps p.tables e below (T5.setTop (mkF m 45 #[.val (.int p1), .val (.int p2), .val (.int p3)] [(.int p2), (.int (0 : Int32)), (.ref b5), (.ref b5), (.ref b4), (.ref b4)])) _
    refine st6 _ ?_
    show Steps p.tables e below (T6.setTop (mkF m 46 #[.val (.int p1), .val (.int p2), .val (.int p3)] [(.ref b5), (.ref b4), (.ref b4)])) _
    refine XS.dup X6.here hx rfl (hb hby d1_46) rfl rfl ?_
    show Steps p.tables e below (T6.setTop (mkF m 47 #[.val (.int p1), .val (.int p2), .val (.int p3)] [(.ref b5), (.ref b5), (.ref b4), (.ref b4)])) _
    refine XS.iconst X6.here hx rfl (hb hby d1_47) ?_
    show Steps p.tables e below (T6.setTop (mkF m 48 #[.val (.int p1), .val (.int p2), .val (.int p3)] [(.int (1 : Int32)), (.ref b5), (.ref b5), (.ref b4), (.ref b4)])) _
    refine XS.iloadN X6.here hx rfl (hb hby d1_48) rfl ?_
    show Steps p.tables e below (T6.setTop (mkF m 49 #[.val (.int p1), .val (.int p2), .val (.int p3)] [(.int p3), (.int (1 : Int32)), (.ref b5), (.ref b5), (.ref b4), (.ref b4)])) _
    refine st7 _ ?_
    show Steps p.tables e below (T7.setTop (mkF m 50 #[.val (.int p1), .val (.int p2), .val (.int p3)] [(.ref b5), (.ref b4), (.ref b4)])) _
    refine st8.trans ?_
    show Steps p.tables e below (T8.setTop (mkF m 53 #[.val (.int p1), .val (.int p2), .val (.int p3)] [(.ref b4)])) _
    jvm_step X8.here [X8.here.top, hx, (hb hby d1_53), X8.method', Bd.returns, Value.isRef, FieldType.isReference]
    first | (intro acts; rw [hr _ acts rfl rfl rfl]) | rw [hr _ _ rfl rfl rfl]
    exact Steps.refl _
  · show QName Z [nar .char p2, nar .char p3] h0 n0 _ T8.heap _
    exact ⟨b4, rfl, N8, OUTK, t8, kb8, _, _, E8q, V8q, C8q, A8q, Or.inl ⟨rfl, rfl, rfl, fun c hc => (hlat c hc).2⟩, (fun c hc => own_wider (hlat c hc)), Nat.le_of_ble_eq_true rfl⟩
  · show CHr Z EL s.vm s.heap T8.vm T8.heap
    rw [show s.heap = h0 from hh]; exact CRE
theorem rm1 (l : Launch) (Z : State) (a0 : Array Value) (hw : ∀ d ∈ tables_1, d.before a0 Z = true) (ws : List Jvm.Cond) (p1 : Int32) (p2 : Int32) (p3 : Int32) (w_COMPACT_STRINGS : Int32) (h0 : Heap) (n0 : Nat) (Z0 : n0 ≤ h0.size) (S_COMPACT_STRINGS : Sta Z h0 "java/lang/String" "COMPACT_STRINGS" "Z" (.int w_COMPACT_STRINGS)) (hcs : ¬ (w_COMPACT_STRINGS = (0 : Int32))) (hn2 : ¬ nar .char p2 < 0 ∧ ¬ (255 : Int32) < nar .char p2) (hn3 : ¬ nar .char p3 < 0 ∧ ¬ (255 : Int32) < nar .char p3) :
    MetFree l (⟨"com/example/niyama/niyama/relational/model/AttributeEqualsPinLaw", "name", "(ICC)Ljava/lang/String;"⟩ : MethodName) (head1 (Jvm.Cond.code (⟨"com/example/niyama/niyama/relational/model/AttributeEqualsPinLaw", "name", "(ICC)Ljava/lang/String;"⟩ : MethodName) method_2_code 3 (some (.object "java/lang/String")) :: ws) ({ frames := 4, cells := 4, slots := 8, locals := 66 } : Room)) (fun a U => a = #[(.int p1), (.int p2), (.int p3)] ∧ Z.Warmed39 U.vm ∧ U.heap = h0 ∧ CHv Z EL U.vm h0 ∧ ∀ x ∈ ([] : List Addr), Safe Z EL U.vm h0 x) (fun _ _ _ _ _ => True) (fun _ U o U' => ∃ v L, o = .returned v ∧ QName Z (own_name p1 p2 p3) h0 n0 v U'.heap L ∧ CHr Z EL U.vm U.heap U'.vm U'.heap ∧ ReturnedEndW U o U' L ({ frames := 4, cells := 4, slots := 8, locals := 66 } : Room).cells ({ frames := 4, cells := 4, slots := 8, locals := 66 } : Room).slots) := by
  by_cases hc1 : p1 = (0 : Int32)
  · rw [show own_name p1 p2 p3 = [] from by unfold own_name; rw [if_pos hc1]]
    exact rm1_f l Z a0 hw ws p1 p2 p3 w_COMPACT_STRINGS h0 n0 Z0 S_COMPACT_STRINGS hcs hc1
  · by_cases hc17 : p1 = (1 : Int32)
    · rw [show own_name p1 p2 p3 = [nar .char p2] from by unfold own_name; rw [if_neg hc1, if_pos hc17]]
      exact rm1_tf l Z a0 hw ws p1 p2 p3 w_COMPACT_STRINGS h0 n0 Z0 S_COMPACT_STRINGS hcs (fun c hc => by cases List.mem_singleton.mp hc; exact hn2) hc1 hc17
    · rw [show own_name p1 p2 p3 = [nar .char p2, nar .char p3] from by unfold own_name; rw [if_neg hc1, if_neg hc17]]
      exact rm1_tt l Z a0 hw ws p1 p2 p3 w_COMPACT_STRINGS h0 n0 Z0 S_COMPACT_STRINGS hcs (fun c hc => by rcases List.mem_cons.mp hc with rfl | hc; exact hn2; cases List.mem_singleton.mp hc; exact hn3) hc1 hc17
theorem d11_0 : decode prog_22_method_1_code 0 = .ok (.aload_n 0, 1) := by decide +kernel
theorem d11_1 : decode prog_22_method_1_code 1 = .ok (.invokespecial 1, 3) := by decide +kernel
theorem d11_4 : decode prog_22_method_1_code 4 = .ok (.iload_n 1, 1) := by decide +kernel
theorem d11_5 : decode prog_22_method_1_code 5 = .ok (.iconst 1, 1) := by decide +kernel
theorem d11_6 : decode prog_22_method_1_code 6 = .ok (.if_icmp .lt 8, 3) := by decide +kernel
theorem d11_9 : decode prog_22_method_1_code 9 = .ok (.iload_n 2, 1) := by decide +kernel
theorem d11_10 : decode prog_22_method_1_code 10 = .ok (.iconst 1, 1) := by decide +kernel
theorem d11_11 : decode prog_22_method_1_code 11 = .ok (.if_icmp .ge 34, 3) := by decide +kernel
theorem d11_45 : decode prog_22_method_1_code 45 = .ok (.aload_n 0, 1) := by decide +kernel
theorem d11_46 : decode prog_22_method_1_code 46 = .ok (.iload_n 1, 1) := by decide +kernel
theorem d11_47 : decode prog_22_method_1_code 47 = .ok (.putfield 26, 3) := by decide +kernel
theorem d11_50 : decode prog_22_method_1_code 50 = .ok (.aload_n 0, 1) := by decide +kernel
theorem d11_51 : decode prog_22_method_1_code 51 = .ok (.iload_n 2, 1) := by decide +kernel
theorem d11_52 : decode prog_22_method_1_code 52 = .ok (.putfield 32, 3) := by decide +kernel
theorem d11_55 : decode prog_22_method_1_code 55 = .ok (.return_, 1) := by decide +kernel
theorem pn_11 : plainName "com/example/niyama/niyama/diagnostics/SourcePosition" = true := by first | (simp [plainName, overriddenIn]; done) | decide +kernel
theorem ef_11 (m : MethodId) (x0 : Addr) (x1 : Int32) (x2 : Int32) : entryFrame m #[(.ref x0), (.int x1), (.int x2)] 3 = mkF m 0 #[.val (.ref x0), .val (.int x1), .val (.int x2)] [] := by first | (simp [entryFrame, mkF, argsToLocals, Value.category]; done) | rfl
def QK (x : Addr) (h0 : Heap) (n0 : Nat) (v : Option Value) (h : Heap) (L : List Loc) : Prop := v = none ∧ Fr n0 L ∧ Keep h0 h [x]
set_option maxRecDepth 65536 in
set_option maxHeartbeats 40000000 in
theorem rm11 (l : Launch) (Z : State) (a0 : Array Value) (hw : ∀ d ∈ tables_1, d.before a0 Z = true) (ws : List Jvm.Cond) (a1 : Addr) (p2 : Int32) (p3 : Int32) (u_line_a1 : Value) (u_column_a1 : Value) (h0 : Heap) (n0 : Nat) (Z0 : n0 ≤ h0.size) (E_a1 : Exa Z h0 a1 "com/example/niyama/niyama/diagnostics/SourcePosition") (F_line_a1 : Fld Z h0 a1 "com/example/niyama/niyama/diagnostics/SourcePosition" "line" "I" u_line_a1) (g_a1 : n0 ≤ a1) (F_column_a1 : Fld Z h0 a1 "com/example/niyama/niyama/diagnostics/SourcePosition" "column" "I" u_column_a1) (hc6 : ¬ (p2 < (1 : Int32))) (hc11 : ¬ (p3 < (1 : Int32))) :
    MetFree l (⟨"com/example/niyama/niyama/diagnostics/SourcePosition", "<init>", "(II)V"⟩ : MethodName) (head1 (Jvm.Cond.code (⟨"com/example/niyama/niyama/diagnostics/SourcePosition", "<init>", "(II)V"⟩ : MethodName) prog_22_method_1_code 3 none :: ws) ({ frames := 1, cells := 0, slots := 0, locals := 12 } : Room)) (fun a U => a = #[(.ref a1), (.int p2), (.int p3)] ∧ Z.Warmed39 U.vm ∧ U.heap = h0) (fun _ _ _ _ _ => True) (fun _ U o U' => ∃ v L, o = .returned v ∧ QK a1 h0 n0 v U'.heap L ∧ FrameEnd U o U' L ({ frames := 1, cells := 0, slots := 0, locals := 12 } : Room).cells ({ frames := 1, cells := 0, slots := 0, locals := 12 } : Room).slots) := by
  refine MetFree.of_bodySF (plainFor_of_name pn_11) hisR ?_
  intro p e s m args below meth c s₁ Bd hml0 hP hK
  obtain ⟨rfl, hZ, hh⟩ := hP
  have hx := Bd.exec
  have hby := Bd.bytes
  have hml : c.maxLocals = 3 := hml0
  have hown : s.vm.findClass "com/example/niyama/niyama/diagnostics/SourcePosition" = some m.cls := findClass_of_methodNamed Bd.named
  have hnm := (name_of_methodNamed Bd.named Bd.method).1
  have X0 : Stand p l e ({ frames := 1, cells := 0, slots := 0, locals := 12 } : Room) s m #[(.ref a1), (.int p2), (.int p3)] below meth c s₁ [] 0 0 := Stand.of_body Bd
  have e0 : s₁.heap = h0 := by rw [← hh, Bd.state]; rfl
  have N0 := Fr.nil n0
  have pre0 : ∀ t, Steps p.tables e below (s₁.setTop (mkF m 0 #[.val (.ref a1), .val (.int p2), .val (.int p3)] [])) t → Steps p.tables e below (s₁.setTop (entryFrame m #[(.ref a1), (.int p2), (.int p3)] 3)) t := fun t k => castTop (ef_11 m a1 p2 p3) k
  obtain ⟨T4, X4, e4, st4⟩ := initO X0 hx hZ hown (hw _ (List.mem_of_getElem? (i := 72) rfl)) (hw _ (List.mem_of_getElem? (i := 17) rfl)) (hw _ (List.mem_of_getElem? (i := 18) rfl)) e0 (g := (mkF m 1 #[.val (.ref a1), .val (.int p2), .val (.int p3)] [(.ref a1)])) rfl (by rw [hml]; rfl) rfl (hb hby d11_1) (by decide) (W := 0) (by show 2 * 0 + _ ≤ _; exact Nat.le_of_eq rfl) (by decide)
  obtain ⟨T5, h5, X5, e5, W5, st5⟩ := putF X4 hx hZ hown (host := "") (Or.inl (hw _ (List.mem_of_getElem? (i := 73) rfl))) Via.refl e4 F_line_a1 E_a1 (Or.inr ⟨(hw _ (List.mem_of_getElem? (i := 74) rfl)), rfl, hnm⟩) (hw _ (List.mem_of_getElem? (i := 67) rfl)) (ty := .int) (by decide) rfl rfl (g := (mkF m 47 #[.val (.ref a1), .val (.int p2), .val (.int p3)] [(.int p2), (.ref a1)])) rfl rfl (hb hby d11_47)
  have Fw5 := F_line_a1.same W5
  have K5 : Keep h0 h5 [a1] := (Keep.refl h0 [a1]).wr W5 (Or.inl (List.mem_of_getElem? (i := 0) rfl))
  have N5 := Fr.snoc X5 N0 g_a1
  obtain ⟨T6, h6, X6, e6, W6, st6⟩ := putF X5 hx hZ hown (host := "") (Or.inl (hw _ (List.mem_of_getElem? (i := 75) rfl))) Via.refl e5 (F_column_a1.other W5 (Or.inr (slot_ne (Or.inr (hw _ (List.mem_of_getElem? (i := 76) rfl))) (Or.inr (hw _ (List.mem_of_getElem? (i := 74) rfl))) (by decide) (t := .int) (t' := .int) (by decide) (by decide)))) (E_a1.wr W5) (Or.inr ⟨(hw _ (List.mem_of_getElem? (i := 76) rfl)), rfl, hnm⟩) (hw _ (List.mem_of_getElem? (i := 67) rfl)) (ty := .int) (by decide) rfl rfl (g := (mkF m 52 #[.val (.ref a1), .val (.int p2), .val (.int p3)] [(.int p3), (.ref a1)])) rfl rfl (hb hby d11_52)
  have Fw6 := (F_column_a1.other W5 (Or.inr (slot_ne (Or.inr (hw _ (List.mem_of_getElem? (i := 76) rfl))) (Or.inr (hw _ (List.mem_of_getElem? (i := 74) rfl))) (by decide) (t := .int) (t' := .int) (by decide) (by decide)))).same W6
  have K6 : Keep h0 h6 [a1] := K5.wr W6 (Or.inl (List.mem_of_getElem? (i := 0) rfl))
  have N6 := Fr.snoc X6 N5 g_a1
  have OUTK := K6
  obtain ⟨fs, hr, hrun, hended, hW, hsame⟩ := X6.leave (v := none) (fun _ => rfl)
  refine ⟨_, _, pre0 _ ?_, hrun, hended, _, _, rfl, ?_, ⟨_, rfl⟩, hW, hsame.mono (by decide) (by decide)⟩
  · show Steps p.tables e below (s₁.setTop (mkF m 0 #[.val (.ref a1), .val (.int p2), .val (.int p3)] [])) _
    refine XS.aloadN X0.here hx rfl (hb hby d11_0) rfl rfl ?_
    show Steps p.tables e below (s₁.setTop (mkF m 1 #[.val (.ref a1), .val (.int p2), .val (.int p3)] [(.ref a1)])) _
    refine st4 _ ?_
    show Steps p.tables e below (T4.setTop (mkF m 4 #[.val (.ref a1), .val (.int p2), .val (.int p3)] [])) _
    refine XS.iloadN X4.here hx rfl (hb hby d11_4) rfl ?_
    show Steps p.tables e below (T4.setTop (mkF m 5 #[.val (.ref a1), .val (.int p2), .val (.int p3)] [(.int p2)])) _
    refine XS.iconst X4.here hx rfl (hb hby d11_5) ?_
    show Steps p.tables e below (T4.setTop (mkF m 6 #[.val (.ref a1), .val (.int p2), .val (.int p3)] [(.int (1 : Int32)), (.int p2)])) _
    refine XS.icmpNo X4.here hx rfl (hb hby d11_6) rfl (flt hc6).1 ?_
    show Steps p.tables e below (T4.setTop (mkF m 9 #[.val (.ref a1), .val (.int p2), .val (.int p3)] [])) _
    refine XS.iloadN X4.here hx rfl (hb hby d11_9) rfl ?_
    show Steps p.tables e below (T4.setTop (mkF m 10 #[.val (.ref a1), .val (.int p2), .val (.int p3)] [(.int p3)])) _
    refine XS.iconst X4.here hx rfl (hb hby d11_10) ?_
    show Steps p.tables e below (T4.setTop (mkF m 11 #[.val (.ref a1), .val (.int p2), .val (.int p3)] [(.int (1 : Int32)), (.int p3)])) _
    refine XS.icmpYes X4.here hx rfl (pc0 := 11) (pc' := 45) rfl (hb hby d11_11) rfl (flt hc11).2.1 (by decide) (by decide) ?_
    show Steps p.tables e below (T4.setTop (mkF m 45 #[.val (.ref a1), .val (.int p2), .val (.int p3)] [])) _
    refine XS.aloadN X4.here hx rfl (hb hby d11_45) rfl rfl ?_
    show Steps p.tables e below (T4.setTop (mkF m 46 #[.val (.ref a1), .val (.int p2), .val (.int p3)] [(.ref a1)])) _
    refine XS.iloadN X4.here hx rfl (hb hby d11_46) rfl ?_
    show Steps p.tables e below (T4.setTop (mkF m 47 #[.val (.ref a1), .val (.int p2), .val (.int p3)] [(.int p2), (.ref a1)])) _
    refine st5 _ ?_
    show Steps p.tables e below (T5.setTop (mkF m 50 #[.val (.ref a1), .val (.int p2), .val (.int p3)] [])) _
    refine XS.aloadN X5.here hx rfl (hb hby d11_50) rfl rfl ?_
    show Steps p.tables e below (T5.setTop (mkF m 51 #[.val (.ref a1), .val (.int p2), .val (.int p3)] [(.ref a1)])) _
    refine XS.iloadN X5.here hx rfl (hb hby d11_51) rfl ?_
    show Steps p.tables e below (T5.setTop (mkF m 52 #[.val (.ref a1), .val (.int p2), .val (.int p3)] [(.int p3), (.ref a1)])) _
    refine st6 _ ?_
    show Steps p.tables e below (T6.setTop (mkF m 55 #[.val (.ref a1), .val (.int p2), .val (.int p3)] [])) _
    exact X6.returnOut hx Bd.returns (hb hby d11_55) hr
  · show QK a1 h0 n0 _ T6.heap _
    rw [e6]
    exact ⟨rfl, N6, OUTK⟩
def QPos (h0 : Heap) (n0 : Nat) (v : Option Value) (h : Heap) (L : List Loc) : Prop := ∃ w, v = some w ∧ w.isRef = true ∧ Fr n0 L ∧ Keep h0 h []
theorem own_ge1 (x : Int32) : ¬ ((1 : Int32) + (x &&& (255 : Int32)) < (1 : Int32)) := by
  have e : (x &&& 255).toInt = ((x.toBitVec &&& 255#32).toNat : Int) := by
    show (x.toBitVec &&& 255#32).toInt = _
    rw [BitVec.toInt_eq_toNat_of_msb]
    rw [BitVec.msb_and, show (255#32).msb = false from by decide, Bool.and_false]
  have b : (x.toBitVec &&& 255#32).toNat ≤ 255 := by rw [BitVec.toNat_and]; exact Nat.and_le_right
  have s : ((1 : Int32) + (x &&& 255)).toInt = 1 + (x &&& 255).toInt := by
    rw [Int32.toInt_add, show (1 : Int32).toInt = 1 from rfl]
    exact Int.bmod_eq_of_le (by omega) (by omega)
  rw [Int32.lt_iff_toInt_lt, s, show (1 : Int32).toInt = 1 from rfl]; omega
theorem d8_0 : decode method_3_code 0 = .ok (.iload_n 0, 1) := by decide +kernel
theorem d8_1 : decode method_3_code 1 = .ok (.iconst 1, 1) := by decide +kernel
theorem d8_2 : decode method_3_code 2 = .ok (.iand, 1) := by decide +kernel
theorem d8_3 : decode method_3_code 3 = .ok (.ifCond .eq 5, 3) := by decide +kernel
theorem d8_6 : decode method_3_code 6 = .ok (.aconst_null, 1) := by decide +kernel
theorem d8_7 : decode method_3_code 7 = .ok (.areturn, 1) := by decide +kernel
theorem pn_8 : plainName "com/example/niyama/niyama/relational/model/AttributeEqualsPinLaw" = true := by first | (simp [plainName, overriddenIn]; done) | decide +kernel
theorem ef_8 (m : MethodId) (x0 : Int32) : entryFrame m #[(.int x0)] 1 = mkF m 0 #[.val (.int x0)] [] := by first | (simp [entryFrame, mkF, argsToLocals, Value.category]; done) | rfl
set_option maxRecDepth 65536 in
set_option maxHeartbeats 40000000 in
theorem rm8_f (l : Launch) (Z : State) (a0 : Array Value) (hw : ∀ d ∈ tables_1, d.before a0 Z = true) (ws : List Jvm.Cond) (p1 : Int32) (h0 : Heap) (n0 : Nat) (Z0 : n0 ≤ h0.size) (hc3 : ¬ ((p1 &&& (1 : Int32)) = (0 : Int32))) :
    MetFree l (⟨"com/example/niyama/niyama/relational/model/AttributeEqualsPinLaw", "pos", "(I)Lcom/example/niyama/niyama/diagnostics/SourcePosition;"⟩ : MethodName) (head1 (Jvm.Cond.code (⟨"com/example/niyama/niyama/relational/model/AttributeEqualsPinLaw", "pos", "(I)Lcom/example/niyama/niyama/diagnostics/SourcePosition;"⟩ : MethodName) method_3_code 1 (some (.object "com/example/niyama/niyama/diagnostics/SourcePosition")) :: ws) ({ frames := 2, cells := 1, slots := 2, locals := 27 } : Room)) (fun a U => a = #[(.int p1)] ∧ Z.Warmed39 U.vm ∧ U.heap = h0) (fun _ _ _ _ _ => True) (fun _ U o U' => ∃ v L, o = .returned v ∧ QPos h0 n0 v U'.heap L ∧ FrameEnd U o U' L ({ frames := 2, cells := 1, slots := 2, locals := 27 } : Room).cells ({ frames := 2, cells := 1, slots := 2, locals := 27 } : Room).slots) := by
  refine MetFree.of_bodySF (plainFor_of_name pn_8) hisR ?_
  intro p e s m args below meth c s₁ Bd hml0 hP hK
  obtain ⟨rfl, hZ, hh⟩ := hP
  have hx := Bd.exec
  have hby := Bd.bytes
  have hml : c.maxLocals = 1 := hml0
  have hown : s.vm.findClass "com/example/niyama/niyama/relational/model/AttributeEqualsPinLaw" = some m.cls := findClass_of_methodNamed Bd.named
  have hnm := (name_of_methodNamed Bd.named Bd.method).1
  have X0 : Stand p l e ({ frames := 2, cells := 1, slots := 2, locals := 27 } : Room) s m #[(.int p1)] below meth c s₁ [] 0 0 := Stand.of_body Bd
  have e0 : s₁.heap = h0 := by rw [← hh, Bd.state]; rfl
  have N0 := Fr.nil n0
  have pre0 : ∀ t, Steps p.tables e below (s₁.setTop (mkF m 0 #[.val (.int p1)] [])) t → Steps p.tables e below (s₁.setTop (entryFrame m #[(.int p1)] 1)) t := fun t k => castTop (ef_8 m p1) k
  have OUTK := (Keep.refl h0 [])
  obtain ⟨fs, hr, hrun, hended, hW, hsame⟩ := X0.leave (v := some .null) (fun h => by rw [Bd.returns] at h; cases h)
  refine ⟨_, _, pre0 _ ?_, hrun, hended, _, _, rfl, ?_, ⟨_, rfl⟩, hW, hsame.mono (by decide) (by decide)⟩
  · show Steps p.tables e below (s₁.setTop (mkF m 0 #[.val (.int p1)] [])) _
    refine XS.iloadN X0.here hx rfl (hb hby d8_0) rfl ?_
    show Steps p.tables e below (s₁.setTop (mkF m 1 #[.val (.int p1)] [(.int p1)])) _
    refine XS.iconst X0.here hx rfl (hb hby d8_1) ?_
    show Steps p.tables e below (s₁.setTop (mkF m 2 #[.val (.int p1)] [(.int (1 : Int32)), (.int p1)])) _
    refine XS.iand X0.here hx rfl (hb hby d8_2) rfl ?_
    show Steps p.tables e below (s₁.setTop (mkF m 3 #[.val (.int p1)] [(.int (p1 &&& (1 : Int32)))])) _
    refine XS.ifNo X0.here hx rfl (hb hby d8_3) rfl ((if0 _ _).trans (feq hc3).1) ?_
    show Steps p.tables e below (s₁.setTop (mkF m 6 #[.val (.int p1)] [])) _
    refine XS.aconstNull X0.here hx rfl (hb hby d8_6) ?_
    show Steps p.tables e below (s₁.setTop (mkF m 7 #[.val (.int p1)] [.null])) _
    jvm_step X0.here [X0.here.top, hx, (hb hby d8_7), X0.method', Bd.returns, Value.isRef, FieldType.isReference]
    first | (intro acts; rw [hr _ acts rfl rfl rfl]) | rw [hr _ _ rfl rfl rfl]
    exact Steps.refl _
  · show QPos h0 n0 _ s₁.heap _
    rw [e0]
    exact ⟨.null, rfl, rfl, N0, Keep.refl _ _⟩
theorem d8_8 : decode method_3_code 8 = .ok (.new 12, 3) := by decide +kernel
theorem d8_11 : decode method_3_code 11 = .ok (.dup, 1) := by decide +kernel
theorem d8_12 : decode method_3_code 12 = .ok (.iconst 1, 1) := by decide +kernel
theorem d8_13 : decode method_3_code 13 = .ok (.iload_n 0, 1) := by decide +kernel
theorem d8_14 : decode method_3_code 14 = .ok (.iconst 1, 1) := by decide +kernel
theorem d8_15 : decode method_3_code 15 = .ok (.iushr, 1) := by decide +kernel
theorem d8_16 : decode method_3_code 16 = .ok (.sipush 255, 3) := by decide +kernel
theorem d8_19 : decode method_3_code 19 = .ok (.iand, 1) := by decide +kernel
theorem d8_20 : decode method_3_code 20 = .ok (.iadd, 1) := by decide +kernel
theorem d8_21 : decode method_3_code 21 = .ok (.iconst 1, 1) := by decide +kernel
theorem d8_22 : decode method_3_code 22 = .ok (.iload_n 0, 1) := by decide +kernel
theorem d8_23 : decode method_3_code 23 = .ok (.bipush 9, 2) := by decide +kernel
theorem d8_25 : decode method_3_code 25 = .ok (.iushr, 1) := by decide +kernel
theorem d8_26 : decode method_3_code 26 = .ok (.sipush 255, 3) := by decide +kernel
theorem d8_29 : decode method_3_code 29 = .ok (.iand, 1) := by decide +kernel
theorem d8_30 : decode method_3_code 30 = .ok (.iadd, 1) := by decide +kernel
theorem d8_31 : decode method_3_code 31 = .ok (.invokespecial 14, 3) := by decide +kernel
theorem d8_34 : decode method_3_code 34 = .ok (.areturn, 1) := by decide +kernel
theorem pd_8_10 : parseMethodDescriptor "(II)V" = some ⟨[.int, .int], none⟩ := by decide +kernel
set_option maxRecDepth 65536 in
set_option maxHeartbeats 40000000 in
theorem rm8_t (l : Launch) (Z : State) (a0 : Array Value) (hw : ∀ d ∈ tables_1, d.before a0 Z = true) (ws : List Jvm.Cond) (p1 : Int32) (h0 : Heap) (n0 : Nat) (Z0 : n0 ≤ h0.size) (hc3 : (p1 &&& (1 : Int32)) = (0 : Int32)) :
    MetFree l (⟨"com/example/niyama/niyama/relational/model/AttributeEqualsPinLaw", "pos", "(I)Lcom/example/niyama/niyama/diagnostics/SourcePosition;"⟩ : MethodName) (head1 (Jvm.Cond.code (⟨"com/example/niyama/niyama/relational/model/AttributeEqualsPinLaw", "pos", "(I)Lcom/example/niyama/niyama/diagnostics/SourcePosition;"⟩ : MethodName) method_3_code 1 (some (.object "com/example/niyama/niyama/diagnostics/SourcePosition")) :: ws) ({ frames := 2, cells := 1, slots := 2, locals := 27 } : Room)) (fun a U => a = #[(.int p1)] ∧ Z.Warmed39 U.vm ∧ U.heap = h0) (fun _ _ _ _ _ => True) (fun _ U o U' => ∃ v L, o = .returned v ∧ QPos h0 n0 v U'.heap L ∧ FrameEnd U o U' L ({ frames := 2, cells := 1, slots := 2, locals := 27 } : Room).cells ({ frames := 2, cells := 1, slots := 2, locals := 27 } : Room).slots) := by
  refine MetFree.of_bodySF (plainFor_of_name pn_8) hisR ?_
  intro p e s m args below meth c s₁ Bd hml0 hP hK
  obtain ⟨rfl, hZ, hh⟩ := hP
  have hx := Bd.exec
  have hby := Bd.bytes
  have hml : c.maxLocals = 1 := hml0
  have hown : s.vm.findClass "com/example/niyama/niyama/relational/model/AttributeEqualsPinLaw" = some m.cls := findClass_of_methodNamed Bd.named
  have hnm := (name_of_methodNamed Bd.named Bd.method).1
  have X0 : Stand p l e ({ frames := 2, cells := 1, slots := 2, locals := 27 } : Room) s m #[(.int p1)] below meth c s₁ [] 0 0 := Stand.of_body Bd
  have e0 : s₁.heap = h0 := by rw [← hh, Bd.state]; rfl
  have N0 := Fr.nil n0
  have pre0 : ∀ t, Steps p.tables e below (s₁.setTop (mkF m 0 #[.val (.int p1)] [])) t → Steps p.tables e below (s₁.setTop (entryFrame m #[(.int p1)] 1)) t := fun t k => castTop (ef_8 m p1) k
  obtain ⟨T2, h2, X2, e2, E2, A2, D2, -, st2⟩ := newO X0 hx hZ hown (hw _ (List.mem_of_getElem? (i := 66) rfl)) (hw _ (List.mem_of_getElem? (i := 67) rfl)) (hw _ (List.mem_of_getElem? (i := 68) rfl)) e0 (g := (mkF m 8 #[.val (.int p1)] [])) rfl (hb hby d8_8) (by decide) (by decide)
  obtain ⟨b2, g2⟩ : ∃ z, z = h0.size := ⟨_, rfl⟩
  rw [← g2] at A2 D2 st2
  have F_line_b2 : Fld Z h2 b2 "com/example/niyama/niyama/diagnostics/SourcePosition" "line" "I" (.int (0 : Int32)) := D2 (Or.inr (hw _ (List.mem_of_getElem? (i := 74) rfl))) (ty := .int) (by decide)
  have F_column_b2 : Fld Z h2 b2 "com/example/niyama/niyama/diagnostics/SourcePosition" "column" "I" (.int (0 : Int32)) := D2 (Or.inr (hw _ (List.mem_of_getElem? (i := 76) rfl))) (ty := .int) (by decide)
  have E_b2 := A2
  have g_b2 : n0 ≤ b2 := Nat.le_trans Z0 (Nat.le_of_eq g2.symm)
  have sz_b2 : h0.size ≤ b2 := (Nat.le_trans (Keep.refl h0 []).1 (Nat.le_of_eq g2.symm))
  have K2 : Keep h0 h2 [] := (Keep.refl h0 []).ext E2
  obtain ⟨_, _, ⟨T3, L3, k3, n3⟩, -, X3, ⟨Lc3, hQ3, l3, y3, z3⟩, st3⟩ := X2.specialBack hx (y := (⟨"com/example/niyama/niyama/diagnostics/SourcePosition", "<init>", "(II)V"⟩ : MethodName)) rfl hown (mvT hZ (hw _ (List.mem_of_getElem? (i := 69) rfl))) (mvT hZ (hw _ (List.mem_of_getElem? (i := 70) rfl))) (mvT hZ (hw _ (List.mem_of_getElem? (i := 71) rfl))) (by decide) (backOf (W := 1) (rm11 l Z a0 hw [] b2 ((1 : Int32) + (((p1.toUInt32 >>> ((1 : Int32) &&& 31).toUInt32).toInt32) &&& (255 : Int32))) ((1 : Int32) + (((p1.toUInt32 >>> ((9 : Int32) &&& 31).toUInt32).toInt32) &&& (255 : Int32))) (.int (0 : Int32)) (.int (0 : Int32)) h2 n0 (Nat.le_trans Z0 E2.1) E_b2 F_line_b2 g_b2 F_column_b2 (own_ge1 _) (own_ge1 _)) hZ (hw _ (List.mem_of_getElem? (i := 71) rfl)) (hw _ (List.mem_of_getElem? (i := 68) rfl)) (by decide) (by decide)) (g := (mkF m 31 #[.val (.int p1)] [(.int ((1 : Int32) + (((p1.toUInt32 >>> ((9 : Int32) &&& 31).toUInt32).toInt32) &&& (255 : Int32)))), (.int ((1 : Int32) + (((p1.toUInt32 >>> ((1 : Int32) &&& 31).toUInt32).toInt32) &&& (255 : Int32)))), (.ref b2), (.ref b2)])) rfl (by rw [hml]; rfl) (Steps.refl _) (a := b2) (argsL := [(.int ((1 : Int32) + (((p1.toUInt32 >>> ((1 : Int32) &&& 31).toUInt32).toInt32) &&& (255 : Int32)))), (.int ((1 : Int32) + (((p1.toUInt32 >>> ((9 : Int32) &&& 31).toUInt32).toInt32) &&& (255 : Int32))))]) (rest := [(.ref b2)]) (lenOf pd_8_10 rfl) rfl (by show 2 * 0 + _ ≤ _; exact Nat.le_of_eq rfl) (hb hby d8_31) (fun _ _ => ⟨rfl, e2, (by decide : 1 + 0 ≤ _), (by decide : 2 + 0 ≤ _)⟩)
  dsimp only [Pt.U, Pt.locs, Pt.cells, Pt.slots] at X3 l3 y3 z3 st3 hQ3
  subst l3 y3 z3
  obtain ⟨rfl, N3q, K3q⟩ := hQ3
  have N3 := Fr.app N0 N3q
  have K3 : Keep h0 T3.heap [] := K2.trans K3q (fun x hx => by cases List.mem_singleton.mp hx; exact Or.inr sz_b2)
  have OUTK := K3
  obtain ⟨fs, hr, hrun, hended, hW, hsame⟩ := X3.leave (v := some (.ref b2)) (fun h => by rw [Bd.returns] at h; cases h)
  refine ⟨_, _, pre0 _ ?_, hrun, hended, _, _, rfl, ?_, ⟨_, rfl⟩, hW, hsame.mono (by decide) (by decide)⟩
  · show Steps p.tables e below (s₁.setTop (mkF m 0 #[.val (.int p1)] [])) _
    refine XS.iloadN X0.here hx rfl (hb hby d8_0) rfl ?_
    show Steps p.tables e below (s₁.setTop (mkF m 1 #[.val (.int p1)] [(.int p1)])) _
    refine XS.iconst X0.here hx rfl (hb hby d8_1) ?_
    show Steps p.tables e below (s₁.setTop (mkF m 2 #[.val (.int p1)] [(.int (1 : Int32)), (.int p1)])) _
    refine XS.iand X0.here hx rfl (hb hby d8_2) rfl ?_
    show Steps p.tables e below (s₁.setTop (mkF m 3 #[.val (.int p1)] [(.int (p1 &&& (1 : Int32)))])) _
    refine XS.ifYes X0.here hx rfl (pc0 := 3) (pc' := 8) rfl (hb hby d8_3) rfl ((if0 _ _).trans (teq hc3).1) (by decide) (by decide) ?_
    show Steps p.tables e below (s₁.setTop (mkF m 8 #[.val (.int p1)] [])) _
    refine st2 _ ?_
    show Steps p.tables e below (T2.setTop (mkF m 11 #[.val (.int p1)] [(.ref b2)])) _
    refine XS.dup X2.here hx rfl (hb hby d8_11) rfl rfl ?_
    show Steps p.tables e below (T2.setTop (mkF m 12 #[.val (.int p1)] [(.ref b2), (.ref b2)])) _
    refine XS.iconst X2.here hx rfl (hb hby d8_12) ?_
    show Steps p.tables e below (T2.setTop (mkF m 13 #[.val (.int p1)] [(.int (1 : Int32)), (.ref b2), (.ref b2)])) _
    refine XS.iloadN X2.here hx rfl (hb hby d8_13) rfl ?_
    show Steps p.tables e below (T2.setTop (mkF m 14 #[.val (.int p1)] [(.int p1), (.int (1 : Int32)), (.ref b2), (.ref b2)])) _
    refine XS.iconst X2.here hx rfl (hb hby d8_14) ?_
    show Steps p.tables e below (T2.setTop (mkF m 15 #[.val (.int p1)] [(.int (1 : Int32)), (.int p1), (.int (1 : Int32)), (.ref b2), (.ref b2)])) _
    refine XS.iushr X2.here hx rfl (hb hby d8_15) rfl ?_
    show Steps p.tables e below (T2.setTop (mkF m 16 #[.val (.int p1)] [(.int ((p1.toUInt32 >>> ((1 : Int32) &&& 31).toUInt32).toInt32)), (.int (1 : Int32)), (.ref b2), (.ref b2)])) _
    refine XS.sipush X2.here hx rfl (hb hby d8_16) ?_
    show Steps p.tables e below (T2.setTop (mkF m 19 #[.val (.int p1)] [(.int (255 : Int32)), (.int ((p1.toUInt32 >>> ((1 : Int32) &&& 31).toUInt32).toInt32)), (.int (1 : Int32)), (.ref b2), (.ref b2)])) _
    refine XS.iand X2.here hx rfl (hb hby d8_19) rfl ?_
    show Steps p.tables e below (T2.setTop (mkF m 20 #[.val (.int p1)] [(.int (((p1.toUInt32 >>> ((1 : Int32) &&& 31).toUInt32).toInt32) &&& (255 : Int32))), (.int (1 : Int32)), (.ref b2), (.ref b2)])) _
    refine XS.iadd X2.here hx rfl (hb hby d8_20) rfl ?_
    show Steps p.tables e below (T2.setTop (mkF m 21 #[.val (.int p1)] [(.int ((1 : Int32) + (((p1.toUInt32 >>> ((1 : Int32) &&& 31).toUInt32).toInt32) &&& (255 : Int32)))), (.ref b2), (.ref b2)])) _
    refine XS.iconst X2.here hx rfl (hb hby d8_21) ?_
    show Steps p.tables e below (T2.setTop (mkF m 22 #[.val (.int p1)] [(.int (1 : Int32)), (.int ((1 : Int32) + (((p1.toUInt32 >>> ((1 : Int32) &&& 31).toUInt32).toInt32) &&& (255 : Int32)))), (.ref b2), (.ref b2)])) _
    refine XS.iloadN X2.here hx rfl (hb hby d8_22) rfl ?_
    show Steps p.tables e below (T2.setTop (mkF m 23 #[.val (.int p1)] [(.int p1), (.int (1 : Int32)), (.int ((1 : Int32) + (((p1.toUInt32 >>> ((1 : Int32) &&& 31).toUInt32).toInt32) &&& (255 : Int32)))), (.ref b2), (.ref b2)])) _
    refine XS.bipush X2.here hx rfl (hb hby d8_23) ?_
    show Steps p.tables e below (T2.setTop (mkF m 25 #[.val (.int p1)] [(.int (9 : Int32)), (.int p1), (.int (1 : Int32)), (.int ((1 : Int32) + (((p1.toUInt32 >>> ((1 : Int32) &&& 31).toUInt32).toInt32) &&& (255 : Int32)))), (.ref b2), (.ref b2)])) _
    refine XS.iushr X2.here hx rfl (hb hby d8_25) rfl ?_
    show Steps p.tables e below (T2.setTop (mkF m 26 #[.val (.int p1)] [(.int ((p1.toUInt32 >>> ((9 : Int32) &&& 31).toUInt32).toInt32)), (.int (1 : Int32)), (.int ((1 : Int32) + (((p1.toUInt32 >>> ((1 : Int32) &&& 31).toUInt32).toInt32) &&& (255 : Int32)))), (.ref b2), (.ref b2)])) _
    refine XS.sipush X2.here hx rfl (hb hby d8_26) ?_
    show Steps p.tables e below (T2.setTop (mkF m 29 #[.val (.int p1)] [(.int (255 : Int32)), (.int ((p1.toUInt32 >>> ((9 : Int32) &&& 31).toUInt32).toInt32)), (.int (1 : Int32)), (.int ((1 : Int32) + (((p1.toUInt32 >>> ((1 : Int32) &&& 31).toUInt32).toInt32) &&& (255 : Int32)))), (.ref b2), (.ref b2)])) _
    refine XS.iand X2.here hx rfl (hb hby d8_29) rfl ?_
    show Steps p.tables e below (T2.setTop (mkF m 30 #[.val (.int p1)] [(.int (((p1.toUInt32 >>> ((9 : Int32) &&& 31).toUInt32).toInt32) &&& (255 : Int32))), (.int (1 : Int32)), (.int ((1 : Int32) + (((p1.toUInt32 >>> ((1 : Int32) &&& 31).toUInt32).toInt32) &&& (255 : Int32)))), (.ref b2), (.ref b2)])) _
    refine XS.iadd X2.here hx rfl (hb hby d8_30) rfl ?_
    show Steps p.tables e below (T2.setTop (mkF m 31 #[.val (.int p1)] [(.int ((1 : Int32) + (((p1.toUInt32 >>> ((9 : Int32) &&& 31).toUInt32).toInt32) &&& (255 : Int32)))), (.int ((1 : Int32) + (((p1.toUInt32 >>> ((1 : Int32) &&& 31).toUInt32).toInt32) &&& (255 : Int32)))), (.ref b2), (.ref b2)])) _
    refine st3.trans ?_
    show Steps p.tables e below (T3.setTop (mkF m 34 #[.val (.int p1)] [(.ref b2)])) _
    jvm_step X3.here [X3.here.top, hx, (hb hby d8_34), X3.method', Bd.returns, Value.isRef, FieldType.isReference]
    first | (intro acts; rw [hr _ acts rfl rfl rfl]) | rw [hr _ _ rfl rfl rfl]
    exact Steps.refl _
  · show QPos h0 n0 _ T3.heap _
    exact ⟨.ref b2, rfl, rfl, N3, OUTK⟩
theorem rm8 (l : Launch) (Z : State) (a0 : Array Value) (hw : ∀ d ∈ tables_1, d.before a0 Z = true) (ws : List Jvm.Cond) (p1 : Int32) (h0 : Heap) (n0 : Nat) (Z0 : n0 ≤ h0.size) :
    MetFree l (⟨"com/example/niyama/niyama/relational/model/AttributeEqualsPinLaw", "pos", "(I)Lcom/example/niyama/niyama/diagnostics/SourcePosition;"⟩ : MethodName) (head1 (Jvm.Cond.code (⟨"com/example/niyama/niyama/relational/model/AttributeEqualsPinLaw", "pos", "(I)Lcom/example/niyama/niyama/diagnostics/SourcePosition;"⟩ : MethodName) method_3_code 1 (some (.object "com/example/niyama/niyama/diagnostics/SourcePosition")) :: ws) ({ frames := 2, cells := 1, slots := 2, locals := 27 } : Room)) (fun a U => a = #[(.int p1)] ∧ Z.Warmed39 U.vm ∧ U.heap = h0) (fun _ _ _ _ _ => True) (fun _ U o U' => ∃ v L, o = .returned v ∧ QPos h0 n0 v U'.heap L ∧ FrameEnd U o U' L ({ frames := 2, cells := 1, slots := 2, locals := 27 } : Room).cells ({ frames := 2, cells := 1, slots := 2, locals := 27 } : Room).slots) := by
  by_cases hc3 : (p1 &&& (1 : Int32)) = (0 : Int32)
  · exact rm8_t l Z a0 hw ws p1 h0 n0 Z0 hc3
  · exact rm8_f l Z a0 hw ws p1 h0 n0 Z0 hc3
theorem d10_0 : decode jdk_31_method_10_code 0 = .ok (.aload_n 0, 1) := by decide +kernel
theorem d10_1 : decode jdk_31_method_10_code 1 = .ok (.ifnonnull 11, 3) := by decide +kernel
theorem d10_12 : decode jdk_31_method_10_code 12 = .ok (.aload_n 0, 1) := by decide +kernel
theorem d10_13 : decode jdk_31_method_10_code 13 = .ok (.areturn, 1) := by decide +kernel
theorem pn_10 : plainName "java/util/Objects" = true := by first | (simp [plainName, overriddenIn]; done) | decide +kernel
theorem ef_10 (m : MethodId) (x0 : Addr) : entryFrame m #[(.ref x0)] 1 = mkF m 0 #[.val (.ref x0)] [] := by first | (simp [entryFrame, mkF, argsToLocals, Value.category]; done) | rfl
def QP (r : Value) (h0 : Heap) (n0 : Nat) (v : Option Value) (h : Heap) (L : List Loc) : Prop := v = some r ∧ Fr n0 L ∧ h = h0
set_option maxRecDepth 65536 in
set_option maxHeartbeats 40000000 in
theorem rm10 (l : Launch) (Z : State) (a0 : Array Value) (hw : ∀ d ∈ tables_1, d.before a0 Z = true) (ws : List Jvm.Cond) (a1 : Addr) (h0 : Heap) (n0 : Nat) (Z0 : n0 ≤ h0.size) :
    MetFree l (⟨"java/util/Objects", "requireNonNull", "(Ljava/lang/Object;)Ljava/lang/Object;"⟩ : MethodName) (head1 (Jvm.Cond.code (⟨"java/util/Objects", "requireNonNull", "(Ljava/lang/Object;)Ljava/lang/Object;"⟩ : MethodName) jdk_31_method_10_code 1 (some (.object "java/lang/Object")) :: ws) ({ frames := 0, cells := 0, slots := 0, locals := 0 } : Room)) (fun a U => a = #[(.ref a1)] ∧ Z.Warmed39 U.vm ∧ U.heap = h0) (fun _ _ _ _ _ => True) (fun _ U o U' => ∃ v L, o = .returned v ∧ QP (.ref a1) h0 n0 v U'.heap L ∧ FrameEnd U o U' L ({ frames := 0, cells := 0, slots := 0, locals := 0 } : Room).cells ({ frames := 0, cells := 0, slots := 0, locals := 0 } : Room).slots) := by
  refine MetFree.of_bodySF (plainFor_of_name pn_10) hisR ?_
  intro p e s m args below meth c s₁ Bd hml0 hP hK
  obtain ⟨rfl, hZ, hh⟩ := hP
  have hx := Bd.exec
  have hby := Bd.bytes
  have hml : c.maxLocals = 1 := hml0
  have hown : s.vm.findClass "java/util/Objects" = some m.cls := findClass_of_methodNamed Bd.named
  have hnm := (name_of_methodNamed Bd.named Bd.method).1
  have X0 : Stand p l e ({ frames := 0, cells := 0, slots := 0, locals := 0 } : Room) s m #[(.ref a1)] below meth c s₁ [] 0 0 := Stand.of_body Bd
  have e0 : s₁.heap = h0 := by rw [← hh, Bd.state]; rfl
  have N0 := Fr.nil n0
  have pre0 : ∀ t, Steps p.tables e below (s₁.setTop (mkF m 0 #[.val (.ref a1)] [])) t → Steps p.tables e below (s₁.setTop (entryFrame m #[(.ref a1)] 1)) t := fun t k => castTop (ef_10 m a1) k

  obtain ⟨fs, hr, hrun, hended, hW, hsame⟩ := X0.leave (v := some (.ref a1)) (fun h => by rw [Bd.returns] at h; cases h)
  refine ⟨_, _, pre0 _ ?_, hrun, hended, _, _, rfl, ?_, ⟨_, rfl⟩, hW, hsame.mono (by decide) (by decide)⟩
  · show Steps p.tables e below (s₁.setTop (mkF m 0 #[.val (.ref a1)] [])) _
    refine XS.aloadN X0.here hx rfl (hb hby d10_0) rfl rfl ?_
    show Steps p.tables e below (s₁.setTop (mkF m 1 #[.val (.ref a1)] [(.ref a1)])) _
    refine XS.ifnonnullYes X0.here hx rfl (pc0 := 1) (pc' := 12) rfl (hb hby d10_1) rfl (by decide) (by decide) ?_
    show Steps p.tables e below (s₁.setTop (mkF m 12 #[.val (.ref a1)] [])) _
    refine XS.aloadN X0.here hx rfl (hb hby d10_12) rfl rfl ?_
    show Steps p.tables e below (s₁.setTop (mkF m 13 #[.val (.ref a1)] [(.ref a1)])) _
    jvm_step X0.here [X0.here.top, hx, (hb hby d10_13), X0.method', Bd.returns, Value.isRef, FieldType.isReference]
    first | (intro acts; rw [hr _ acts rfl rfl rfl]) | rw [hr _ _ rfl rfl rfl]
    exact Steps.refl _
  · show QP (.ref a1) h0 n0 _ s₁.heap _
    rw [e0]
    exact ⟨rfl, N0, rfl⟩
def QA (Z : State) (x r d : Addr) (h0 : Heap) (n0 : Nat) (v : Option Value) (h : Heap) (L : List Loc) : Prop := v = none ∧ Fr n0 L ∧ Keep h0 h [x] ∧ Exa Z h x "com/example/niyama/niyama/relational/model/Attribute" ∧ Fld Z h x "com/example/niyama/niyama/relational/model/Attribute" "name" "Ljava/lang/String;" (.ref r) ∧ Fld Z h x "com/example/niyama/niyama/relational/model/Attribute" "domain" "Lcom/example/niyama/niyama/relational/model/Domain;" (.ref d)
theorem d9_0 : decode prog_29_method_1_code 0 = .ok (.aload_n 0, 1) := by decide +kernel
theorem d9_1 : decode prog_29_method_1_code 1 = .ok (.invokespecial 1, 3) := by decide +kernel
theorem d9_4 : decode prog_29_method_1_code 4 = .ok (.aload_n 0, 1) := by decide +kernel
theorem d9_5 : decode prog_29_method_1_code 5 = .ok (.aload_n 1, 1) := by decide +kernel
theorem d9_6 : decode prog_29_method_1_code 6 = .ok (.invokestatic 7, 3) := by decide +kernel
theorem d9_9 : decode prog_29_method_1_code 9 = .ok (.checkcast 13, 3) := by decide +kernel
theorem d9_12 : decode prog_29_method_1_code 12 = .ok (.putfield 15, 3) := by decide +kernel
theorem d9_15 : decode prog_29_method_1_code 15 = .ok (.aload_n 0, 1) := by decide +kernel
theorem d9_16 : decode prog_29_method_1_code 16 = .ok (.aload_n 2, 1) := by decide +kernel
theorem d9_17 : decode prog_29_method_1_code 17 = .ok (.invokestatic 7, 3) := by decide +kernel
theorem d9_20 : decode prog_29_method_1_code 20 = .ok (.checkcast 21, 3) := by decide +kernel
theorem d9_23 : decode prog_29_method_1_code 23 = .ok (.putfield 23, 3) := by decide +kernel
theorem d9_26 : decode prog_29_method_1_code 26 = .ok (.aload_n 0, 1) := by decide +kernel
theorem d9_27 : decode prog_29_method_1_code 27 = .ok (.aload_n 3, 1) := by decide +kernel
theorem d9_28 : decode prog_29_method_1_code 28 = .ok (.putfield 27, 3) := by decide +kernel
theorem d9_31 : decode prog_29_method_1_code 31 = .ok (.return_, 1) := by decide +kernel
theorem pn_9 : plainName "com/example/niyama/niyama/relational/model/Attribute" = true := by first | (simp [plainName, overriddenIn]; done) | decide +kernel
theorem pd_9_9 : parseMethodDescriptor "(Ljava/lang/Object;)Ljava/lang/Object;" = some ⟨[(.object "java/lang/Object")], some (.object "java/lang/Object")⟩ := by decide +kernel
theorem ef_9 (m : MethodId) (x0 : Addr) (x1 : Addr) (x2 : Addr) (x3 : Addr) : entryFrame m #[(.ref x0), (.ref x1), (.ref x2), (.ref x3)] 4 = mkF m 0 #[.val (.ref x0), .val (.ref x1), .val (.ref x2), .val (.ref x3)] [] := by first | (simp [entryFrame, mkF, argsToLocals, Value.category]; done) | rfl
set_option maxRecDepth 65536 in
set_option maxHeartbeats 40000000 in
theorem rm9r (l : Launch) (Z : State) (a0 : Array Value) (hw : ∀ d ∈ tables_1, d.before a0 Z = true) (ws : List Jvm.Cond) (a1 : Addr) (a2 : Addr) (a3 : Addr) (a4 : Addr) (u_name_a1 : Value) (u_domain_a1 : Value) (u_position_a1 : Value) (h0 : Heap) (n0 : Nat) (Z0 : n0 ≤ h0.size) (E_a2 : Exa Z h0 a2 "java/lang/String") (E_a3 : Exa Z h0 a3 "com/example/niyama/niyama/relational/model/Domain") (E_a1 : Exa Z h0 a1 "com/example/niyama/niyama/relational/model/Attribute") (F_name_a1 : Fld Z h0 a1 "com/example/niyama/niyama/relational/model/Attribute" "name" "Ljava/lang/String;" u_name_a1) (g_a1 : n0 ≤ a1) (F_domain_a1 : Fld Z h0 a1 "com/example/niyama/niyama/relational/model/Attribute" "domain" "Lcom/example/niyama/niyama/relational/model/Domain;" u_domain_a1) (F_position_a1 : Fld Z h0 a1 "com/example/niyama/niyama/relational/model/Attribute" "position" "Lcom/example/niyama/niyama/diagnostics/SourcePosition;" u_position_a1) :
    MetFree l (⟨"com/example/niyama/niyama/relational/model/Attribute", "<init>", "(Ljava/lang/String;Lcom/example/niyama/niyama/relational/model/Domain;Lcom/example/niyama/niyama/diagnostics/SourcePosition;)V"⟩ : MethodName) (head1 (Jvm.Cond.code (⟨"com/example/niyama/niyama/relational/model/Attribute", "<init>", "(Ljava/lang/String;Lcom/example/niyama/niyama/relational/model/Domain;Lcom/example/niyama/niyama/diagnostics/SourcePosition;)V"⟩ : MethodName) prog_29_method_1_code 4 none :: ws) ({ frames := 1, cells := 0, slots := 0, locals := 13 } : Room)) (fun a U => a = #[(.ref a1), (.ref a2), (.ref a3), (.ref a4)] ∧ Z.Warmed39 U.vm ∧ U.heap = h0) (fun _ _ _ _ _ => True) (fun _ U o U' => ∃ v L, o = .returned v ∧ QA Z a1 a2 a3 h0 n0 v U'.heap L ∧ FrameEnd U o U' L ({ frames := 1, cells := 0, slots := 0, locals := 13 } : Room).cells ({ frames := 1, cells := 0, slots := 0, locals := 13 } : Room).slots) := by
  refine MetFree.of_bodySF (plainFor_of_name pn_9) hisR ?_
  intro p e s m args below meth c s₁ Bd hml0 hP hK
  obtain ⟨rfl, hZ, hh⟩ := hP
  have hx := Bd.exec
  have hby := Bd.bytes
  have hml : c.maxLocals = 4 := hml0
  have hown : s.vm.findClass "com/example/niyama/niyama/relational/model/Attribute" = some m.cls := findClass_of_methodNamed Bd.named
  have hnm := (name_of_methodNamed Bd.named Bd.method).1
  have X0 : Stand p l e ({ frames := 1, cells := 0, slots := 0, locals := 13 } : Room) s m #[(.ref a1), (.ref a2), (.ref a3), (.ref a4)] below meth c s₁ [] 0 0 := Stand.of_body Bd
  have e0 : s₁.heap = h0 := by rw [← hh, Bd.state]; rfl
  have N0 := Fr.nil n0
  have pre0 : ∀ t, Steps p.tables e below (s₁.setTop (mkF m 0 #[.val (.ref a1), .val (.ref a2), .val (.ref a3), .val (.ref a4)] [])) t → Steps p.tables e below (s₁.setTop (entryFrame m #[(.ref a1), (.ref a2), (.ref a3), (.ref a4)] 4)) t := fun t k => castTop (ef_9 m a1 a2 a3 a4) k
  obtain ⟨T5, X5, e5, st5⟩ := initO X0 hx hZ hown (hw _ (List.mem_of_getElem? (i := 52) rfl)) (hw _ (List.mem_of_getElem? (i := 17) rfl)) (hw _ (List.mem_of_getElem? (i := 18) rfl)) e0 (g := (mkF m 1 #[.val (.ref a1), .val (.ref a2), .val (.ref a3), .val (.ref a4)] [(.ref a1)])) rfl (by rw [hml]; rfl) rfl (hb hby d9_1) (by decide) (W := 0) (by show 2 * 0 + _ ≤ _; exact Nat.le_of_eq rfl) (by decide)
  obtain ⟨_, _, ⟨T6, L6, k6, n6⟩, -, X6, ⟨Lc6, hQ6, l6, y6, z6⟩, st6⟩ := Jvm.LawKit.callS X5 hx (y := (⟨"java/util/Objects", "requireNonNull", "(Ljava/lang/Object;)Ljava/lang/Object;"⟩ : MethodName)) hown (mvT hZ (hw _ (List.mem_of_getElem? (i := 53) rfl))) (mvT hZ (hw _ (List.mem_of_getElem? (i := 54) rfl))) (mvT hZ (hw _ (List.mem_of_getElem? (i := 55) rfl))) (mvT hZ (hw _ (List.mem_of_getElem? (i := 56) rfl))) (by decide) (backOf (W := 1) (rm10 l Z a0 hw [] a2  h0 n0 Z0) hZ (hw _ (List.mem_of_getElem? (i := 56) rfl)) (hw _ (List.mem_of_getElem? (i := 55) rfl)) (by decide) (by decide)) (g := (mkF m 6 #[.val (.ref a1), .val (.ref a2), .val (.ref a3), .val (.ref a4)] [(.ref a2), (.ref a1)])) rfl (by rw [hml]; rfl) (argsL := [(.ref a2)]) (rest := [(.ref a1)]) (lenOf pd_9_9 rfl) rfl (by show 2 * 0 + _ ≤ _; exact Nat.le_of_eq rfl) (hb hby d9_6) (fun _ _ => ⟨rfl, e5, (by decide : 0 + 0 ≤ _), (by decide : 0 + 0 ≤ _)⟩)
  dsimp only [Pt.U, Pt.locs, Pt.cells, Pt.slots] at X6 l6 y6 z6 st6 hQ6
  subst l6 y6 z6
  obtain ⟨rfl, N6q, e6⟩ := hQ6
  have N6 := Fr.app N0 N6q
  obtain ⟨T7, X7, e7, st7⟩ := castY X6 hx hZ hown (hw _ (List.mem_of_getElem? (i := 57) rfl)) e6 (Ins.self E_a2) (g := (mkF m 9 #[.val (.ref a1), .val (.ref a2), .val (.ref a3), .val (.ref a4)] [(.ref a2), (.ref a1)])) rfl rfl (hb hby d9_9)
  obtain ⟨T8, h8, X8, e8, W8, st8⟩ := putF X7 hx hZ hown (host := "") (Or.inl (hw _ (List.mem_of_getElem? (i := 58) rfl))) Via.refl e7 F_name_a1 E_a1 (Or.inr ⟨(hw _ (List.mem_of_getElem? (i := 59) rfl)), rfl, hnm⟩) (hw _ (List.mem_of_getElem? (i := 44) rfl)) (ty := (.object "java/lang/String")) (by decide) rfl rfl (g := (mkF m 12 #[.val (.ref a1), .val (.ref a2), .val (.ref a3), .val (.ref a4)] [(.ref a2), (.ref a1)])) rfl rfl (hb hby d9_12)
  have Fw8 := F_name_a1.same W8
  have K8 : Keep h0 h8 [a1] := (Keep.refl h0 [a1]).wr W8 (Or.inl (List.mem_of_getElem? (i := 0) rfl))
  have N8 := Fr.snoc X8 N6 g_a1
  obtain ⟨_, _, ⟨T9, L9, k9, n9⟩, -, X9, ⟨Lc9, hQ9, l9, y9, z9⟩, st9⟩ := Jvm.LawKit.callS X8 hx (y := (⟨"java/util/Objects", "requireNonNull", "(Ljava/lang/Object;)Ljava/lang/Object;"⟩ : MethodName)) hown (mvT hZ (hw _ (List.mem_of_getElem? (i := 53) rfl))) (mvT hZ (hw _ (List.mem_of_getElem? (i := 54) rfl))) (mvT hZ (hw _ (List.mem_of_getElem? (i := 55) rfl))) (mvT hZ (hw _ (List.mem_of_getElem? (i := 56) rfl))) (by decide) (backOf (W := 1) (rm10 l Z a0 hw [] a3  h8 n0 (Nat.le_trans Z0 (Keep.of_wr W8).1)) hZ (hw _ (List.mem_of_getElem? (i := 56) rfl)) (hw _ (List.mem_of_getElem? (i := 55) rfl)) (by decide) (by decide)) (g := (mkF m 17 #[.val (.ref a1), .val (.ref a2), .val (.ref a3), .val (.ref a4)] [(.ref a3), (.ref a1)])) rfl (by rw [hml]; rfl) (argsL := [(.ref a3)]) (rest := [(.ref a1)]) (lenOf pd_9_9 rfl) rfl (by show 2 * 0 + _ ≤ _; exact Nat.le_of_eq rfl) (hb hby d9_17) (fun _ _ => ⟨rfl, e8, (by decide : 0 + 0 ≤ _), (by decide : 0 + 0 ≤ _)⟩)
  dsimp only [Pt.U, Pt.locs, Pt.cells, Pt.slots] at X9 l9 y9 z9 st9 hQ9
  subst l9 y9 z9
  obtain ⟨rfl, N9q, e9⟩ := hQ9
  have N9 := Fr.app N8 N9q
  obtain ⟨T10, X10, e10, st10⟩ := castY X9 hx hZ hown (hw _ (List.mem_of_getElem? (i := 60) rfl)) e9 (Ins.self (E_a3.wr W8)) (g := (mkF m 20 #[.val (.ref a1), .val (.ref a2), .val (.ref a3), .val (.ref a4)] [(.ref a3), (.ref a1)])) rfl rfl (hb hby d9_20)
  obtain ⟨T11, h11, X11, e11, W11, st11⟩ := putF X10 hx hZ hown (host := "") (Or.inl (hw _ (List.mem_of_getElem? (i := 62) rfl))) Via.refl e10 (F_domain_a1.other W8 (Or.inr (slot_ne (Or.inr (hw _ (List.mem_of_getElem? (i := 63) rfl))) (Or.inr (hw _ (List.mem_of_getElem? (i := 59) rfl))) (by decide) (t := (.object "com/example/niyama/niyama/relational/model/Domain")) (t' := (.object "java/lang/String")) (by decide) (by decide)))) (E_a1.wr W8) (Or.inr ⟨(hw _ (List.mem_of_getElem? (i := 63) rfl)), rfl, hnm⟩) (hw _ (List.mem_of_getElem? (i := 44) rfl)) (ty := (.object "com/example/niyama/niyama/relational/model/Domain")) (by decide) rfl rfl (g := (mkF m 23 #[.val (.ref a1), .val (.ref a2), .val (.ref a3), .val (.ref a4)] [(.ref a3), (.ref a1)])) rfl rfl (hb hby d9_23)
  have Fw11 := (F_domain_a1.other W8 (Or.inr (slot_ne (Or.inr (hw _ (List.mem_of_getElem? (i := 63) rfl))) (Or.inr (hw _ (List.mem_of_getElem? (i := 59) rfl))) (by decide) (t := (.object "com/example/niyama/niyama/relational/model/Domain")) (t' := (.object "java/lang/String")) (by decide) (by decide)))).same W11
  have K11 : Keep h0 h11 [a1] := K8.wr W11 (Or.inl (List.mem_of_getElem? (i := 0) rfl))
  have N11 := Fr.snoc X11 N9 g_a1
  obtain ⟨T12, h12, X12, e12, W12, st12⟩ := putF X11 hx hZ hown (host := "") (Or.inl (hw _ (List.mem_of_getElem? (i := 64) rfl))) Via.refl e11 ((F_position_a1.other W8 (Or.inr (slot_ne (Or.inr (hw _ (List.mem_of_getElem? (i := 65) rfl))) (Or.inr (hw _ (List.mem_of_getElem? (i := 59) rfl))) (by decide) (t := (.object "com/example/niyama/niyama/diagnostics/SourcePosition")) (t' := (.object "java/lang/String")) (by decide) (by decide)))).other W11 (Or.inr (slot_ne (Or.inr (hw _ (List.mem_of_getElem? (i := 65) rfl))) (Or.inr (hw _ (List.mem_of_getElem? (i := 63) rfl))) (by decide) (t := (.object "com/example/niyama/niyama/diagnostics/SourcePosition")) (t' := (.object "com/example/niyama/niyama/relational/model/Domain")) (by decide) (by decide)))) ((E_a1.wr W8).wr W11) (Or.inr ⟨(hw _ (List.mem_of_getElem? (i := 65) rfl)), rfl, hnm⟩) (hw _ (List.mem_of_getElem? (i := 44) rfl)) (ty := (.object "com/example/niyama/niyama/diagnostics/SourcePosition")) (by decide) rfl rfl (g := (mkF m 28 #[.val (.ref a1), .val (.ref a2), .val (.ref a3), .val (.ref a4)] [(.ref a4), (.ref a1)])) rfl rfl (hb hby d9_28)
  have Fw12 := ((F_position_a1.other W8 (Or.inr (slot_ne (Or.inr (hw _ (List.mem_of_getElem? (i := 65) rfl))) (Or.inr (hw _ (List.mem_of_getElem? (i := 59) rfl))) (by decide) (t := (.object "com/example/niyama/niyama/diagnostics/SourcePosition")) (t' := (.object "java/lang/String")) (by decide) (by decide)))).other W11 (Or.inr (slot_ne (Or.inr (hw _ (List.mem_of_getElem? (i := 65) rfl))) (Or.inr (hw _ (List.mem_of_getElem? (i := 63) rfl))) (by decide) (t := (.object "com/example/niyama/niyama/diagnostics/SourcePosition")) (t' := (.object "com/example/niyama/niyama/relational/model/Domain")) (by decide) (by decide)))).same W12
  have K12 : Keep h0 h12 [a1] := K11.wr W12 (Or.inl (List.mem_of_getElem? (i := 0) rfl))
  have N12 := Fr.snoc X12 N11 g_a1
  have OUT0 := (((E_a1.wr W8).wr W11).wr W12)
  have OUT1 := ((Fw8.other W11 (Or.inr (slot_ne (Or.inr (hw _ (List.mem_of_getElem? (i := 59) rfl))) (Or.inr (hw _ (List.mem_of_getElem? (i := 63) rfl))) (by decide) (t := (.object "java/lang/String")) (t' := (.object "com/example/niyama/niyama/relational/model/Domain")) (by decide) (by decide)))).other W12 (Or.inr (slot_ne (Or.inr (hw _ (List.mem_of_getElem? (i := 59) rfl))) (Or.inr (hw _ (List.mem_of_getElem? (i := 65) rfl))) (by decide) (t := (.object "java/lang/String")) (t' := (.object "com/example/niyama/niyama/diagnostics/SourcePosition")) (by decide) (by decide))))
  have OUT2 := (Fw11.other W12 (Or.inr (slot_ne (Or.inr (hw _ (List.mem_of_getElem? (i := 63) rfl))) (Or.inr (hw _ (List.mem_of_getElem? (i := 65) rfl))) (by decide) (t := (.object "com/example/niyama/niyama/relational/model/Domain")) (t' := (.object "com/example/niyama/niyama/diagnostics/SourcePosition")) (by decide) (by decide))))
  have OUTK := K12
  obtain ⟨fs, hr, hrun, hended, hW, hsame⟩ := X12.leave (v := none) (fun _ => rfl)
  refine ⟨_, _, pre0 _ ?_, hrun, hended, _, _, rfl, ?_, ⟨_, rfl⟩, hW, hsame.mono (by decide) (by decide)⟩
  · show Steps p.tables e below (s₁.setTop (mkF m 0 #[.val (.ref a1), .val (.ref a2), .val (.ref a3), .val (.ref a4)] [])) _
    refine XS.aloadN X0.here hx rfl (hb hby d9_0) rfl rfl ?_
    show Steps p.tables e below (s₁.setTop (mkF m 1 #[.val (.ref a1), .val (.ref a2), .val (.ref a3), .val (.ref a4)] [(.ref a1)])) _
    refine st5 _ ?_
    show Steps p.tables e below (T5.setTop (mkF m 4 #[.val (.ref a1), .val (.ref a2), .val (.ref a3), .val (.ref a4)] [])) _
    refine XS.aloadN X5.here hx rfl (hb hby d9_4) rfl rfl ?_
    show Steps p.tables e below (T5.setTop (mkF m 5 #[.val (.ref a1), .val (.ref a2), .val (.ref a3), .val (.ref a4)] [(.ref a1)])) _
    refine XS.aloadN X5.here hx rfl (hb hby d9_5) rfl rfl ?_
    show Steps p.tables e below (T5.setTop (mkF m 6 #[.val (.ref a1), .val (.ref a2), .val (.ref a3), .val (.ref a4)] [(.ref a2), (.ref a1)])) _
    refine st6 _ ?_
    show Steps p.tables e below (T6.setTop (mkF m 9 #[.val (.ref a1), .val (.ref a2), .val (.ref a3), .val (.ref a4)] [(.ref a2), (.ref a1)])) _
    refine st7 _ ?_
    show Steps p.tables e below (T7.setTop (mkF m 12 #[.val (.ref a1), .val (.ref a2), .val (.ref a3), .val (.ref a4)] [(.ref a2), (.ref a1)])) _
    refine st8 _ ?_
    show Steps p.tables e below (T8.setTop (mkF m 15 #[.val (.ref a1), .val (.ref a2), .val (.ref a3), .val (.ref a4)] [])) _
    refine XS.aloadN X8.here hx rfl (hb hby d9_15) rfl rfl ?_
    show Steps p.tables e below (T8.setTop (mkF m 16 #[.val (.ref a1), .val (.ref a2), .val (.ref a3), .val (.ref a4)] [(.ref a1)])) _
    refine XS.aloadN X8.here hx rfl (hb hby d9_16) rfl rfl ?_
    show Steps p.tables e below (T8.setTop (mkF m 17 #[.val (.ref a1), .val (.ref a2), .val (.ref a3), .val (.ref a4)] [(.ref a3), (.ref a1)])) _
    refine st9 _ ?_
    show Steps p.tables e below (T9.setTop (mkF m 20 #[.val (.ref a1), .val (.ref a2), .val (.ref a3), .val (.ref a4)] [(.ref a3), (.ref a1)])) _
    refine st10 _ ?_
    show Steps p.tables e below (T10.setTop (mkF m 23 #[.val (.ref a1), .val (.ref a2), .val (.ref a3), .val (.ref a4)] [(.ref a3), (.ref a1)])) _
    refine st11 _ ?_
    show Steps p.tables e below (T11.setTop (mkF m 26 #[.val (.ref a1), .val (.ref a2), .val (.ref a3), .val (.ref a4)] [])) _
    refine XS.aloadN X11.here hx rfl (hb hby d9_26) rfl rfl ?_
    show Steps p.tables e below (T11.setTop (mkF m 27 #[.val (.ref a1), .val (.ref a2), .val (.ref a3), .val (.ref a4)] [(.ref a1)])) _
    refine XS.aloadN X11.here hx rfl (hb hby d9_27) rfl rfl ?_
    show Steps p.tables e below (T11.setTop (mkF m 28 #[.val (.ref a1), .val (.ref a2), .val (.ref a3), .val (.ref a4)] [(.ref a4), (.ref a1)])) _
    refine st12 _ ?_
    show Steps p.tables e below (T12.setTop (mkF m 31 #[.val (.ref a1), .val (.ref a2), .val (.ref a3), .val (.ref a4)] [])) _
    exact X12.returnOut hx Bd.returns (hb hby d9_31) hr
  · show QA Z a1 a2 a3 h0 n0 _ T12.heap _
    rw [e12]
    exact ⟨rfl, N12, OUTK, OUT0, OUT1, OUT2⟩
theorem ef_9n (m : MethodId) (x0 : Addr) (x1 : Addr) (x2 : Addr) : entryFrame m #[(.ref x0), (.ref x1), (.ref x2), .null] 4 = mkF m 0 #[.val (.ref x0), .val (.ref x1), .val (.ref x2), .val .null] [] := by first | (simp [entryFrame, mkF, argsToLocals, Value.category]; done) | rfl
set_option maxRecDepth 65536 in
set_option maxHeartbeats 40000000 in
theorem rm9n (l : Launch) (Z : State) (a0 : Array Value) (hw : ∀ d ∈ tables_1, d.before a0 Z = true) (ws : List Jvm.Cond) (a1 : Addr) (a2 : Addr) (a3 : Addr) (u_name_a1 : Value) (u_domain_a1 : Value) (u_position_a1 : Value) (h0 : Heap) (n0 : Nat) (Z0 : n0 ≤ h0.size) (E_a2 : Exa Z h0 a2 "java/lang/String") (E_a3 : Exa Z h0 a3 "com/example/niyama/niyama/relational/model/Domain") (E_a1 : Exa Z h0 a1 "com/example/niyama/niyama/relational/model/Attribute") (F_name_a1 : Fld Z h0 a1 "com/example/niyama/niyama/relational/model/Attribute" "name" "Ljava/lang/String;" u_name_a1) (g_a1 : n0 ≤ a1) (F_domain_a1 : Fld Z h0 a1 "com/example/niyama/niyama/relational/model/Attribute" "domain" "Lcom/example/niyama/niyama/relational/model/Domain;" u_domain_a1) (F_position_a1 : Fld Z h0 a1 "com/example/niyama/niyama/relational/model/Attribute" "position" "Lcom/example/niyama/niyama/diagnostics/SourcePosition;" u_position_a1) :
    MetFree l (⟨"com/example/niyama/niyama/relational/model/Attribute", "<init>", "(Ljava/lang/String;Lcom/example/niyama/niyama/relational/model/Domain;Lcom/example/niyama/niyama/diagnostics/SourcePosition;)V"⟩ : MethodName) (head1 (Jvm.Cond.code (⟨"com/example/niyama/niyama/relational/model/Attribute", "<init>", "(Ljava/lang/String;Lcom/example/niyama/niyama/relational/model/Domain;Lcom/example/niyama/niyama/diagnostics/SourcePosition;)V"⟩ : MethodName) prog_29_method_1_code 4 none :: ws) ({ frames := 1, cells := 0, slots := 0, locals := 13 } : Room)) (fun a U => a = #[(.ref a1), (.ref a2), (.ref a3), .null] ∧ Z.Warmed39 U.vm ∧ U.heap = h0) (fun _ _ _ _ _ => True) (fun _ U o U' => ∃ v L, o = .returned v ∧ QA Z a1 a2 a3 h0 n0 v U'.heap L ∧ FrameEnd U o U' L ({ frames := 1, cells := 0, slots := 0, locals := 13 } : Room).cells ({ frames := 1, cells := 0, slots := 0, locals := 13 } : Room).slots) := by
  refine MetFree.of_bodySF (plainFor_of_name pn_9) hisR ?_
  intro p e s m args below meth c s₁ Bd hml0 hP hK
  obtain ⟨rfl, hZ, hh⟩ := hP
  have hx := Bd.exec
  have hby := Bd.bytes
  have hml : c.maxLocals = 4 := hml0
  have hown : s.vm.findClass "com/example/niyama/niyama/relational/model/Attribute" = some m.cls := findClass_of_methodNamed Bd.named
  have hnm := (name_of_methodNamed Bd.named Bd.method).1
  have X0 : Stand p l e ({ frames := 1, cells := 0, slots := 0, locals := 13 } : Room) s m #[(.ref a1), (.ref a2), (.ref a3), .null] below meth c s₁ [] 0 0 := Stand.of_body Bd
  have e0 : s₁.heap = h0 := by rw [← hh, Bd.state]; rfl
  have N0 := Fr.nil n0
  have pre0 : ∀ t, Steps p.tables e below (s₁.setTop (mkF m 0 #[.val (.ref a1), .val (.ref a2), .val (.ref a3), .val .null] [])) t → Steps p.tables e below (s₁.setTop (entryFrame m #[(.ref a1), (.ref a2), (.ref a3), .null] 4)) t := fun t k => castTop (ef_9n m a1 a2 a3) k
  obtain ⟨T4, X4, e4, st4⟩ := initO X0 hx hZ hown (hw _ (List.mem_of_getElem? (i := 52) rfl)) (hw _ (List.mem_of_getElem? (i := 17) rfl)) (hw _ (List.mem_of_getElem? (i := 18) rfl)) e0 (g := (mkF m 1 #[.val (.ref a1), .val (.ref a2), .val (.ref a3), .val .null] [(.ref a1)])) rfl (by rw [hml]; rfl) rfl (hb hby d9_1) (by decide) (W := 0) (by show 2 * 0 + _ ≤ _; exact Nat.le_of_eq rfl) (by decide)
  obtain ⟨_, _, ⟨T5, L5, k5, n5⟩, -, X5, ⟨Lc5, hQ5, l5, y5, z5⟩, st5⟩ := Jvm.LawKit.callS X4 hx (y := (⟨"java/util/Objects", "requireNonNull", "(Ljava/lang/Object;)Ljava/lang/Object;"⟩ : MethodName)) hown (mvT hZ (hw _ (List.mem_of_getElem? (i := 53) rfl))) (mvT hZ (hw _ (List.mem_of_getElem? (i := 54) rfl))) (mvT hZ (hw _ (List.mem_of_getElem? (i := 55) rfl))) (mvT hZ (hw _ (List.mem_of_getElem? (i := 56) rfl))) (by decide) (backOf (W := 1) (rm10 l Z a0 hw [] a2  h0 n0 Z0) hZ (hw _ (List.mem_of_getElem? (i := 56) rfl)) (hw _ (List.mem_of_getElem? (i := 55) rfl)) (by decide) (by decide)) (g := (mkF m 6 #[.val (.ref a1), .val (.ref a2), .val (.ref a3), .val .null] [(.ref a2), (.ref a1)])) rfl (by rw [hml]; rfl) (argsL := [(.ref a2)]) (rest := [(.ref a1)]) (lenOf pd_9_9 rfl) rfl (by show 2 * 0 + _ ≤ _; exact Nat.le_of_eq rfl) (hb hby d9_6) (fun _ _ => ⟨rfl, e4, (by decide : 0 + 0 ≤ _), (by decide : 0 + 0 ≤ _)⟩)
  dsimp only [Pt.U, Pt.locs, Pt.cells, Pt.slots] at X5 l5 y5 z5 st5 hQ5
  subst l5 y5 z5
  obtain ⟨rfl, N5q, e5⟩ := hQ5
  have N5 := Fr.app N0 N5q
  obtain ⟨T6, X6, e6, st6⟩ := castY X5 hx hZ hown (hw _ (List.mem_of_getElem? (i := 57) rfl)) e5 (Ins.self E_a2) (g := (mkF m 9 #[.val (.ref a1), .val (.ref a2), .val (.ref a3), .val .null] [(.ref a2), (.ref a1)])) rfl rfl (hb hby d9_9)
  obtain ⟨T7, h7, X7, e7, W7, st7⟩ := putF X6 hx hZ hown (host := "") (Or.inl (hw _ (List.mem_of_getElem? (i := 58) rfl))) Via.refl e6 F_name_a1 E_a1 (Or.inr ⟨(hw _ (List.mem_of_getElem? (i := 59) rfl)), rfl, hnm⟩) (hw _ (List.mem_of_getElem? (i := 44) rfl)) (ty := (.object "java/lang/String")) (by decide) rfl rfl (g := (mkF m 12 #[.val (.ref a1), .val (.ref a2), .val (.ref a3), .val .null] [(.ref a2), (.ref a1)])) rfl rfl (hb hby d9_12)
  have Fw7 := F_name_a1.same W7
  have K7 : Keep h0 h7 [a1] := (Keep.refl h0 [a1]).wr W7 (Or.inl (List.mem_of_getElem? (i := 0) rfl))
  have N7 := Fr.snoc X7 N5 g_a1
  obtain ⟨_, _, ⟨T8, L8, k8, n8⟩, -, X8, ⟨Lc8, hQ8, l8, y8, z8⟩, st8⟩ := Jvm.LawKit.callS X7 hx (y := (⟨"java/util/Objects", "requireNonNull", "(Ljava/lang/Object;)Ljava/lang/Object;"⟩ : MethodName)) hown (mvT hZ (hw _ (List.mem_of_getElem? (i := 53) rfl))) (mvT hZ (hw _ (List.mem_of_getElem? (i := 54) rfl))) (mvT hZ (hw _ (List.mem_of_getElem? (i := 55) rfl))) (mvT hZ (hw _ (List.mem_of_getElem? (i := 56) rfl))) (by decide) (backOf (W := 1) (rm10 l Z a0 hw [] a3  h7 n0 (Nat.le_trans Z0 (Keep.of_wr W7).1)) hZ (hw _ (List.mem_of_getElem? (i := 56) rfl)) (hw _ (List.mem_of_getElem? (i := 55) rfl)) (by decide) (by decide)) (g := (mkF m 17 #[.val (.ref a1), .val (.ref a2), .val (.ref a3), .val .null] [(.ref a3), (.ref a1)])) rfl (by rw [hml]; rfl) (argsL := [(.ref a3)]) (rest := [(.ref a1)]) (lenOf pd_9_9 rfl) rfl (by show 2 * 0 + _ ≤ _; exact Nat.le_of_eq rfl) (hb hby d9_17) (fun _ _ => ⟨rfl, e7, (by decide : 0 + 0 ≤ _), (by decide : 0 + 0 ≤ _)⟩)
  dsimp only [Pt.U, Pt.locs, Pt.cells, Pt.slots] at X8 l8 y8 z8 st8 hQ8
  subst l8 y8 z8
  obtain ⟨rfl, N8q, e8⟩ := hQ8
  have N8 := Fr.app N7 N8q
  obtain ⟨T9, X9, e9, st9⟩ := castY X8 hx hZ hown (hw _ (List.mem_of_getElem? (i := 60) rfl)) e8 (Ins.self (E_a3.wr W7)) (g := (mkF m 20 #[.val (.ref a1), .val (.ref a2), .val (.ref a3), .val .null] [(.ref a3), (.ref a1)])) rfl rfl (hb hby d9_20)
  obtain ⟨T10, h10, X10, e10, W10, st10⟩ := putF X9 hx hZ hown (host := "") (Or.inl (hw _ (List.mem_of_getElem? (i := 62) rfl))) Via.refl e9 (F_domain_a1.other W7 (Or.inr (slot_ne (Or.inr (hw _ (List.mem_of_getElem? (i := 63) rfl))) (Or.inr (hw _ (List.mem_of_getElem? (i := 59) rfl))) (by decide) (t := (.object "com/example/niyama/niyama/relational/model/Domain")) (t' := (.object "java/lang/String")) (by decide) (by decide)))) (E_a1.wr W7) (Or.inr ⟨(hw _ (List.mem_of_getElem? (i := 63) rfl)), rfl, hnm⟩) (hw _ (List.mem_of_getElem? (i := 44) rfl)) (ty := (.object "com/example/niyama/niyama/relational/model/Domain")) (by decide) rfl rfl (g := (mkF m 23 #[.val (.ref a1), .val (.ref a2), .val (.ref a3), .val .null] [(.ref a3), (.ref a1)])) rfl rfl (hb hby d9_23)
  have Fw10 := (F_domain_a1.other W7 (Or.inr (slot_ne (Or.inr (hw _ (List.mem_of_getElem? (i := 63) rfl))) (Or.inr (hw _ (List.mem_of_getElem? (i := 59) rfl))) (by decide) (t := (.object "com/example/niyama/niyama/relational/model/Domain")) (t' := (.object "java/lang/String")) (by decide) (by decide)))).same W10
  have K10 : Keep h0 h10 [a1] := K7.wr W10 (Or.inl (List.mem_of_getElem? (i := 0) rfl))
  have N10 := Fr.snoc X10 N8 g_a1
  obtain ⟨T11, h11, X11, e11, W11, st11⟩ := putF X10 hx hZ hown (host := "") (Or.inl (hw _ (List.mem_of_getElem? (i := 64) rfl))) Via.refl e10 ((F_position_a1.other W7 (Or.inr (slot_ne (Or.inr (hw _ (List.mem_of_getElem? (i := 65) rfl))) (Or.inr (hw _ (List.mem_of_getElem? (i := 59) rfl))) (by decide) (t := (.object "com/example/niyama/niyama/diagnostics/SourcePosition")) (t' := (.object "java/lang/String")) (by decide) (by decide)))).other W10 (Or.inr (slot_ne (Or.inr (hw _ (List.mem_of_getElem? (i := 65) rfl))) (Or.inr (hw _ (List.mem_of_getElem? (i := 63) rfl))) (by decide) (t := (.object "com/example/niyama/niyama/diagnostics/SourcePosition")) (t' := (.object "com/example/niyama/niyama/relational/model/Domain")) (by decide) (by decide)))) ((E_a1.wr W7).wr W10) (Or.inr ⟨(hw _ (List.mem_of_getElem? (i := 65) rfl)), rfl, hnm⟩) (hw _ (List.mem_of_getElem? (i := 44) rfl)) (ty := (.object "com/example/niyama/niyama/diagnostics/SourcePosition")) (by decide) rfl rfl (g := (mkF m 28 #[.val (.ref a1), .val (.ref a2), .val (.ref a3), .val .null] [.null, (.ref a1)])) rfl rfl (hb hby d9_28)
  have Fw11 := ((F_position_a1.other W7 (Or.inr (slot_ne (Or.inr (hw _ (List.mem_of_getElem? (i := 65) rfl))) (Or.inr (hw _ (List.mem_of_getElem? (i := 59) rfl))) (by decide) (t := (.object "com/example/niyama/niyama/diagnostics/SourcePosition")) (t' := (.object "java/lang/String")) (by decide) (by decide)))).other W10 (Or.inr (slot_ne (Or.inr (hw _ (List.mem_of_getElem? (i := 65) rfl))) (Or.inr (hw _ (List.mem_of_getElem? (i := 63) rfl))) (by decide) (t := (.object "com/example/niyama/niyama/diagnostics/SourcePosition")) (t' := (.object "com/example/niyama/niyama/relational/model/Domain")) (by decide) (by decide)))).same W11
  have K11 : Keep h0 h11 [a1] := K10.wr W11 (Or.inl (List.mem_of_getElem? (i := 0) rfl))
  have N11 := Fr.snoc X11 N10 g_a1
  have OUT0 := (((E_a1.wr W7).wr W10).wr W11)
  have OUT1 := ((Fw7.other W10 (Or.inr (slot_ne (Or.inr (hw _ (List.mem_of_getElem? (i := 59) rfl))) (Or.inr (hw _ (List.mem_of_getElem? (i := 63) rfl))) (by decide) (t := (.object "java/lang/String")) (t' := (.object "com/example/niyama/niyama/relational/model/Domain")) (by decide) (by decide)))).other W11 (Or.inr (slot_ne (Or.inr (hw _ (List.mem_of_getElem? (i := 59) rfl))) (Or.inr (hw _ (List.mem_of_getElem? (i := 65) rfl))) (by decide) (t := (.object "java/lang/String")) (t' := (.object "com/example/niyama/niyama/diagnostics/SourcePosition")) (by decide) (by decide))))
  have OUT2 := (Fw10.other W11 (Or.inr (slot_ne (Or.inr (hw _ (List.mem_of_getElem? (i := 63) rfl))) (Or.inr (hw _ (List.mem_of_getElem? (i := 65) rfl))) (by decide) (t := (.object "com/example/niyama/niyama/relational/model/Domain")) (t' := (.object "com/example/niyama/niyama/diagnostics/SourcePosition")) (by decide) (by decide))))
  have OUTK := K11
  obtain ⟨fs, hr, hrun, hended, hW, hsame⟩ := X11.leave (v := none) (fun _ => rfl)
  refine ⟨_, _, pre0 _ ?_, hrun, hended, _, _, rfl, ?_, ⟨_, rfl⟩, hW, hsame.mono (by decide) (by decide)⟩
  · show Steps p.tables e below (s₁.setTop (mkF m 0 #[.val (.ref a1), .val (.ref a2), .val (.ref a3), .val .null] [])) _
    refine XS.aloadN X0.here hx rfl (hb hby d9_0) rfl rfl ?_
    show Steps p.tables e below (s₁.setTop (mkF m 1 #[.val (.ref a1), .val (.ref a2), .val (.ref a3), .val .null] [(.ref a1)])) _
    refine st4 _ ?_
    show Steps p.tables e below (T4.setTop (mkF m 4 #[.val (.ref a1), .val (.ref a2), .val (.ref a3), .val .null] [])) _
    refine XS.aloadN X4.here hx rfl (hb hby d9_4) rfl rfl ?_
    show Steps p.tables e below (T4.setTop (mkF m 5 #[.val (.ref a1), .val (.ref a2), .val (.ref a3), .val .null] [(.ref a1)])) _
    refine XS.aloadN X4.here hx rfl (hb hby d9_5) rfl rfl ?_
    show Steps p.tables e below (T4.setTop (mkF m 6 #[.val (.ref a1), .val (.ref a2), .val (.ref a3), .val .null] [(.ref a2), (.ref a1)])) _
    refine st5 _ ?_
    show Steps p.tables e below (T5.setTop (mkF m 9 #[.val (.ref a1), .val (.ref a2), .val (.ref a3), .val .null] [(.ref a2), (.ref a1)])) _
    refine st6 _ ?_
    show Steps p.tables e below (T6.setTop (mkF m 12 #[.val (.ref a1), .val (.ref a2), .val (.ref a3), .val .null] [(.ref a2), (.ref a1)])) _
    refine st7 _ ?_
    show Steps p.tables e below (T7.setTop (mkF m 15 #[.val (.ref a1), .val (.ref a2), .val (.ref a3), .val .null] [])) _
    refine XS.aloadN X7.here hx rfl (hb hby d9_15) rfl rfl ?_
    show Steps p.tables e below (T7.setTop (mkF m 16 #[.val (.ref a1), .val (.ref a2), .val (.ref a3), .val .null] [(.ref a1)])) _
    refine XS.aloadN X7.here hx rfl (hb hby d9_16) rfl rfl ?_
    show Steps p.tables e below (T7.setTop (mkF m 17 #[.val (.ref a1), .val (.ref a2), .val (.ref a3), .val .null] [(.ref a3), (.ref a1)])) _
    refine st8 _ ?_
    show Steps p.tables e below (T8.setTop (mkF m 20 #[.val (.ref a1), .val (.ref a2), .val (.ref a3), .val .null] [(.ref a3), (.ref a1)])) _
    refine st9 _ ?_
    show Steps p.tables e below (T9.setTop (mkF m 23 #[.val (.ref a1), .val (.ref a2), .val (.ref a3), .val .null] [(.ref a3), (.ref a1)])) _
    refine st10 _ ?_
    show Steps p.tables e below (T10.setTop (mkF m 26 #[.val (.ref a1), .val (.ref a2), .val (.ref a3), .val .null] [])) _
    refine XS.aloadN X10.here hx rfl (hb hby d9_26) rfl rfl ?_
    show Steps p.tables e below (T10.setTop (mkF m 27 #[.val (.ref a1), .val (.ref a2), .val (.ref a3), .val .null] [(.ref a1)])) _
    refine XS.aloadN X10.here hx rfl (hb hby d9_27) rfl rfl ?_
    show Steps p.tables e below (T10.setTop (mkF m 28 #[.val (.ref a1), .val (.ref a2), .val (.ref a3), .val .null] [.null, (.ref a1)])) _
    refine st11 _ ?_
    show Steps p.tables e below (T11.setTop (mkF m 31 #[.val (.ref a1), .val (.ref a2), .val (.ref a3), .val .null] [])) _
    exact X11.returnOut hx Bd.returns (hb hby d9_31) hr
  · show QA Z a1 a2 a3 h0 n0 _ T11.heap _
    rw [e11]
    exact ⟨rfl, N11, OUTK, OUT0, OUT1, OUT2⟩
theorem rm9 (l : Launch) (Z : State) (a0 : Array Value) (hw : ∀ d ∈ tables_1, d.before a0 Z = true) (ws : List Jvm.Cond) (a1 : Addr) (a2 : Addr) (a3 : Addr) (pv : Value) (u_name_a1 : Value) (u_domain_a1 : Value) (u_position_a1 : Value) (h0 : Heap) (n0 : Nat) (Z0 : n0 ≤ h0.size) (E_a2 : Exa Z h0 a2 "java/lang/String") (E_a3 : Exa Z h0 a3 "com/example/niyama/niyama/relational/model/Domain") (E_a1 : Exa Z h0 a1 "com/example/niyama/niyama/relational/model/Attribute") (F_name_a1 : Fld Z h0 a1 "com/example/niyama/niyama/relational/model/Attribute" "name" "Ljava/lang/String;" u_name_a1) (g_a1 : n0 ≤ a1) (F_domain_a1 : Fld Z h0 a1 "com/example/niyama/niyama/relational/model/Attribute" "domain" "Lcom/example/niyama/niyama/relational/model/Domain;" u_domain_a1) (F_position_a1 : Fld Z h0 a1 "com/example/niyama/niyama/relational/model/Attribute" "position" "Lcom/example/niyama/niyama/diagnostics/SourcePosition;" u_position_a1) (hpv : pv.isRef = true) :
    MetFree l (⟨"com/example/niyama/niyama/relational/model/Attribute", "<init>", "(Ljava/lang/String;Lcom/example/niyama/niyama/relational/model/Domain;Lcom/example/niyama/niyama/diagnostics/SourcePosition;)V"⟩ : MethodName) (head1 (Jvm.Cond.code (⟨"com/example/niyama/niyama/relational/model/Attribute", "<init>", "(Ljava/lang/String;Lcom/example/niyama/niyama/relational/model/Domain;Lcom/example/niyama/niyama/diagnostics/SourcePosition;)V"⟩ : MethodName) prog_29_method_1_code 4 none :: ws) ({ frames := 1, cells := 0, slots := 0, locals := 13 } : Room)) (fun a U => a = #[(.ref a1), (.ref a2), (.ref a3), pv] ∧ Z.Warmed39 U.vm ∧ U.heap = h0) (fun _ _ _ _ _ => True) (fun _ U o U' => ∃ v L, o = .returned v ∧ QA Z a1 a2 a3 h0 n0 v U'.heap L ∧ FrameEnd U o U' L ({ frames := 1, cells := 0, slots := 0, locals := 13 } : Room).cells ({ frames := 1, cells := 0, slots := 0, locals := 13 } : Room).slots) := by
  rcases ref_cases hpv with rfl | ⟨a4, rfl⟩
  · exact rm9n l Z a0 hw ws a1 a2 a3 u_name_a1 u_domain_a1 u_position_a1 h0 n0 Z0 E_a2 E_a3 E_a1 F_name_a1 g_a1 F_domain_a1 F_position_a1
  · exact rm9r l Z a0 hw ws a1 a2 a3 a4 u_name_a1 u_domain_a1 u_position_a1 h0 n0 Z0 E_a2 E_a3 E_a1 F_name_a1 g_a1 F_domain_a1 F_position_a1
def own_b (cs ds : List Int32) : Int32 := if cs = ds then 1 else 0
theorem Str.exa {Z : State} {h : Heap} {r : Addr} {cs : List Int32} (S : Str Z h r cs) : Exa Z h r "java/lang/String" := by obtain ⟨_, _, _, _, E, -⟩ := S; exact E
theorem own_eqB {p : Program} {l : Launch} {e : Env} {R : Room} {s : State} {args : Array Value} {below : List Frame} {len W : Nat} {Z : State} {a0 : Array Value} {h : Heap} (hZ : Z.Warmed39 s.vm) (hw : ∀ d ∈ tables_1, d.before a0 Z = true) {x y : Addr} {cs ds : List Int32} (Sx : Str Z h x cs) (Sy : Str Z h y ds) {z : Int32} (S : Sta Z h "java/lang/String" "COMPACT_STRINGS" "Z" (.int z)) (hz : ¬ z = 0) (hfr : 2 ≤ R.frames) (hlo : W + 28 ≤ R.locals) (n0 : Nat) :
    Back l R p e below s args (⟨"java/lang/String", "equals", "(Ljava/lang/Object;)Z"⟩ : MethodName) len W (fun P a => a = #[.ref x, .ref y] ∧ P.U.heap = h ∧ P.cells + 0 ≤ R.cells ∧ P.slots + 0 ≤ R.slots)
      (fun P _ v B => ∃ L, QP (.int (own_b cs ds)) h n0 v B.U.heap L ∧ B.locs = P.locs ++ L ∧ B.cells = P.cells + 0 ∧ B.slots = P.slots + 0) := by
  obtain ⟨t, kb, N, vs, E, V, C, A, c, b, n⟩ := Sx
  obtain ⟨t', kb', N', vs', E', V', C', A', c', b', n'⟩ := Sy
  refine Back.mono (StrChars.Road.eqW hZ (own_wordsEq hw) (kI := 4) (hw _ (List.mem_of_getElem? (i := 6) rfl)) E V C A c b n E' V' C' A' c' b' n' S hz hfr hlo) (fun P a hp => hp) (fun P a v B hp hq => ?_)
  obtain ⟨L, ⟨q, rfl, hh⟩, hl, hc, hs⟩ := hq
  refine ⟨[], ⟨?_, Fr.nil n0, hh⟩, hl, hc, hs⟩
  rcases q with ⟨rfl, q⟩ | ⟨rfl, q⟩
  · unfold own_b; rw [if_pos q]
  · unfold own_b; rw [if_neg q]
theorem d12_0 : decode prog_29_method_5_code 0 = .ok (.aload_n 1, 1) := by decide +kernel
theorem d12_1 : decode prog_29_method_5_code 1 = .ok (.instanceof 16, 3) := by decide +kernel
theorem d12_4 : decode prog_29_method_5_code 4 = .ok (.ifCond .eq 37, 3) := by decide +kernel
theorem d12_7 : decode prog_29_method_5_code 7 = .ok (.aload_n 1, 1) := by decide +kernel
theorem d12_8 : decode prog_29_method_5_code 8 = .ok (.checkcast 16, 3) := by decide +kernel
theorem d12_11 : decode prog_29_method_5_code 11 = .ok (.astore_n 2, 1) := by decide +kernel
theorem d12_12 : decode prog_29_method_5_code 12 = .ok (.aload_n 0, 1) := by decide +kernel
theorem d12_13 : decode prog_29_method_5_code 13 = .ok (.getfield 15, 3) := by decide +kernel
theorem d12_16 : decode prog_29_method_5_code 16 = .ok (.aload_n 2, 1) := by decide +kernel
theorem d12_17 : decode prog_29_method_5_code 17 = .ok (.getfield 15, 3) := by decide +kernel
theorem d12_20 : decode prog_29_method_5_code 20 = .ok (.invokevirtual 31, 3) := by decide +kernel
theorem d12_23 : decode prog_29_method_5_code 23 = .ok (.ifCond .eq 18, 3) := by decide +kernel
theorem d12_41 : decode prog_29_method_5_code 41 = .ok (.iconst 0, 1) := by decide +kernel
theorem d12_42 : decode prog_29_method_5_code 42 = .ok (.ireturn, 1) := by decide +kernel
theorem pn_12 : plainName "com/example/niyama/niyama/relational/model/Attribute" = true := by first | (simp [plainName, overriddenIn]; done) | decide +kernel
theorem pd_12_11 : parseMethodDescriptor "(Ljava/lang/Object;)Z" = some ⟨[(.object "java/lang/Object")], some .boolean⟩ := by decide +kernel
theorem ef_12 (m : MethodId) (x0 : Addr) (x1 : Addr) : entryFrame m #[(.ref x0), (.ref x1)] 3 = mkF m 0 #[.val (.ref x0), .val (.ref x1), .unset] [] := by first | (simp [entryFrame, mkF, argsToLocals, Value.category]; done) | rfl
theorem d12_26 : decode prog_29_method_5_code 26 = .ok (.aload_n 0, 1) := by decide +kernel
theorem d12_27 : decode prog_29_method_5_code 27 = .ok (.getfield 23, 3) := by decide +kernel
theorem d12_30 : decode prog_29_method_5_code 30 = .ok (.aload_n 2, 1) := by decide +kernel
theorem d12_31 : decode prog_29_method_5_code 31 = .ok (.getfield 23, 3) := by decide +kernel
theorem d12_34 : decode prog_29_method_5_code 34 = .ok (.if_acmp .ne 7, 3) := by decide +kernel
theorem d12_37 : decode prog_29_method_5_code 37 = .ok (.iconst 1, 1) := by decide +kernel
theorem d12_38 : decode prog_29_method_5_code 38 = .ok (.goto 4, 3) := by decide +kernel
set_option maxRecDepth 65536 in
set_option maxHeartbeats 40000000 in
theorem rm12_ft (l : Launch) (Z : State) (a0 : Array Value) (hw : ∀ d ∈ tables_1, d.before a0 Z = true) (ws : List Jvm.Cond) (a1 : Addr) (a2 : Addr) (v_name_a1 : Addr) (v_name_a2 : Addr) (cs : List Int32) (ds : List Int32) (w_COMPACT_STRINGS : Int32) (h0 : Heap) (n0 : Nat) (Z0 : n0 ≤ h0.size) (E_a2 : Exa Z h0 a2 "com/example/niyama/niyama/relational/model/Attribute") (F_name_a1 : Fld Z h0 a1 "com/example/niyama/niyama/relational/model/Attribute" "name" "Ljava/lang/String;" (.ref v_name_a1)) (F_name_a2 : Fld Z h0 a2 "com/example/niyama/niyama/relational/model/Attribute" "name" "Ljava/lang/String;" (.ref v_name_a2)) (E_v_name_a1 : Exa Z h0 v_name_a1 "java/lang/String") (Sx : Str Z h0 v_name_a1 cs) (Sy : Str Z h0 v_name_a2 ds) (S_COMPACT_STRINGS : Sta Z h0 "java/lang/String" "COMPACT_STRINGS" "Z" (.int w_COMPACT_STRINGS)) (hcs : ¬ (w_COMPACT_STRINGS = (0 : Int32))) (hc23 : (own_b cs ds) = (0 : Int32)) :
    MetFree l (⟨"com/example/niyama/niyama/relational/model/Attribute", "equals", "(Ljava/lang/Object;)Z"⟩ : MethodName) (head1 (Jvm.Cond.code (⟨"com/example/niyama/niyama/relational/model/Attribute", "equals", "(Ljava/lang/Object;)Z"⟩ : MethodName) prog_29_method_5_code 3 (some .boolean) :: ws) ({ frames := 2, cells := 0, slots := 0, locals := 28 } : Room)) (fun a U => a = #[(.ref a1), (.ref a2)] ∧ Z.Warmed39 U.vm ∧ U.heap = h0) (fun _ _ _ _ _ => True) (fun _ U o U' => ∃ v L, o = .returned v ∧ QP (.int (0 : Int32)) h0 n0 v U'.heap L ∧ FrameEnd U o U' L ({ frames := 2, cells := 0, slots := 0, locals := 28 } : Room).cells ({ frames := 2, cells := 0, slots := 0, locals := 28 } : Room).slots) := by
  refine MetFree.of_bodySF (plainFor_of_name pn_12) hisR ?_
  intro p e s m args below meth c s₁ Bd hml0 hP hK
  obtain ⟨rfl, hZ, hh⟩ := hP
  have hx := Bd.exec
  have hby := Bd.bytes
  have hml : c.maxLocals = 3 := hml0
  have hown : s.vm.findClass "com/example/niyama/niyama/relational/model/Attribute" = some m.cls := findClass_of_methodNamed Bd.named
  have hnm := (name_of_methodNamed Bd.named Bd.method).1
  have X0 : Stand p l e ({ frames := 2, cells := 0, slots := 0, locals := 28 } : Room) s m #[(.ref a1), (.ref a2)] below meth c s₁ [] 0 0 := Stand.of_body Bd
  have e0 : s₁.heap = h0 := by rw [← hh, Bd.state]; rfl
  have N0 := Fr.nil n0
  have pre0 : ∀ t, Steps p.tables e below (s₁.setTop (mkF m 0 #[.val (.ref a1), .val (.ref a2), .unset] [])) t → Steps p.tables e below (s₁.setTop (entryFrame m #[(.ref a1), (.ref a2)] 3)) t := fun t k => castTop (ef_12 m a1 a2) k
  obtain ⟨T3, X3, e3, st3⟩ := instY X0 hx hZ hown (hw _ (List.mem_of_getElem? (i := 82) rfl)) e0 (Ins.self E_a2) (g := (mkF m 1 #[.val (.ref a1), .val (.ref a2), .unset] [(.ref a2)])) rfl rfl (hb hby d12_1)
  obtain ⟨T4, X4, e4, st4⟩ := castY X3 hx hZ hown (hw _ (List.mem_of_getElem? (i := 82) rfl)) e3 (Ins.self E_a2) (g := (mkF m 8 #[.val (.ref a1), .val (.ref a2), .unset] [(.ref a2)])) rfl rfl (hb hby d12_8)
  obtain ⟨T5, X5, e5, st5⟩ := getF X4 hx hZ hown (host := "") (Or.inl (hw _ (List.mem_of_getElem? (i := 58) rfl))) Via.refl e4 F_name_a1 (g := (mkF m 13 #[.val (.ref a1), .val (.ref a2), .val (.ref a2)] [(.ref a1)])) rfl rfl (hb hby d12_13)
  obtain ⟨T6, X6, e6, st6⟩ := getF X5 hx hZ hown (host := "") (Or.inl (hw _ (List.mem_of_getElem? (i := 58) rfl))) Via.refl e5 F_name_a2 (g := (mkF m 17 #[.val (.ref a1), .val (.ref a2), .val (.ref a2)] [(.ref a2), (.ref v_name_a1)])) rfl rfl (hb hby d12_17)
  obtain ⟨cq7, kq7, q7a, q7b, q7c⟩ := isOf hZ e6 E_v_name_a1
  obtain ⟨_, _, ⟨T7, L7, k7, n7⟩, -, X7, ⟨Lc7, hQ7, l7, y7, z7⟩, st7⟩ := X6.virtualBack hx (y := (⟨"java/lang/String", "equals", "(Ljava/lang/Object;)Z"⟩ : MethodName)) (z := (⟨"java/lang/String", "equals", "(Ljava/lang/Object;)Z"⟩ : MethodName)) hown (mvT hZ (hw _ (List.mem_of_getElem? (i := 84) rfl))) (mvT hZ (hw _ (List.mem_of_getElem? (i := 85) rfl))) (notFace_of_selects (args := #[]) (mvT hZ (hw _ (List.mem_of_getElem? (i := 87) rfl)))) (mvT hZ (hw _ (List.mem_of_getElem? (i := 87) rfl))) (mvT hZ (hw _ (List.mem_of_getElem? (i := 86) rfl))) (by decide) (own_eqB (W := 0) hZ hw Sx Sy S_COMPACT_STRINGS hcs (by decide) (by decide) n0) q7a q7c (g := (mkF m 20 #[.val (.ref a1), .val (.ref a2), .val (.ref a2)] [(.ref v_name_a2), (.ref v_name_a1)])) rfl (by rw [hml]; rfl) (Steps.refl _) (argsL := [(.ref v_name_a2)]) (rest := []) (lenOf pd_12_11 rfl) rfl (by show 2 * 0 + _ ≤ _; exact Nat.le_of_eq rfl) (hb hby d12_20) (fun _ _ => ⟨rfl, e6, (by decide : 0 + 0 ≤ _), (by decide : 0 + 0 ≤ _)⟩)
  dsimp only [Pt.U, Pt.locs, Pt.cells, Pt.slots] at X7 l7 y7 z7 st7 hQ7
  subst l7 y7 z7
  obtain ⟨rfl, N7q, e7⟩ := hQ7
  have N7 := Fr.app N0 N7q
  obtain ⟨fs, hr, hrun, hended, hW, hsame⟩ := X7.leave (v := some (.int (0 : Int32))) (fun h => by rw [Bd.returns] at h; cases h)
  refine ⟨_, _, pre0 _ ?_, hrun, hended, _, _, rfl, ?_, ⟨_, rfl⟩, hW, hsame.mono (by decide) (by decide)⟩
  · show Steps p.tables e below (s₁.setTop (mkF m 0 #[.val (.ref a1), .val (.ref a2), .unset] [])) _
    refine XS.aloadN X0.here hx rfl (hb hby d12_0) rfl rfl ?_
    show Steps p.tables e below (s₁.setTop (mkF m 1 #[.val (.ref a1), .val (.ref a2), .unset] [(.ref a2)])) _
    refine st3 _ ?_
    show Steps p.tables e below (T3.setTop (mkF m 4 #[.val (.ref a1), .val (.ref a2), .unset] [(.int (1 : Int32))])) _
    refine XS.ifNo X3.here hx rfl (hb hby d12_4) rfl ((if0 _ _).trans (feq (by decide : ¬ ((1 : Int32) = (0 : Int32)))).1) ?_
    show Steps p.tables e below (T3.setTop (mkF m 7 #[.val (.ref a1), .val (.ref a2), .unset] [])) _
    refine XS.aloadN X3.here hx rfl (hb hby d12_7) rfl rfl ?_
    show Steps p.tables e below (T3.setTop (mkF m 8 #[.val (.ref a1), .val (.ref a2), .unset] [(.ref a2)])) _
    refine st4 _ ?_
    show Steps p.tables e below (T4.setTop (mkF m 11 #[.val (.ref a1), .val (.ref a2), .unset] [(.ref a2)])) _
    refine XS.astoreN X4.here hx rfl (hb hby d12_11) rfl rfl (l' := #[.val (.ref a1), .val (.ref a2), .val (.ref a2)]) rfl ?_
    show Steps p.tables e below (T4.setTop (mkF m 12 #[.val (.ref a1), .val (.ref a2), .val (.ref a2)] [])) _
    refine XS.aloadN X4.here hx rfl (hb hby d12_12) rfl rfl ?_
    show Steps p.tables e below (T4.setTop (mkF m 13 #[.val (.ref a1), .val (.ref a2), .val (.ref a2)] [(.ref a1)])) _
    refine st5 _ ?_
    show Steps p.tables e below (T5.setTop (mkF m 16 #[.val (.ref a1), .val (.ref a2), .val (.ref a2)] [(.ref v_name_a1)])) _
    refine XS.aloadN X5.here hx rfl (hb hby d12_16) rfl rfl ?_
    show Steps p.tables e below (T5.setTop (mkF m 17 #[.val (.ref a1), .val (.ref a2), .val (.ref a2)] [(.ref a2), (.ref v_name_a1)])) _
    refine st6 _ ?_
    show Steps p.tables e below (T6.setTop (mkF m 20 #[.val (.ref a1), .val (.ref a2), .val (.ref a2)] [(.ref v_name_a2), (.ref v_name_a1)])) _
    refine st7.trans ?_
    show Steps p.tables e below (T7.setTop (mkF m 23 #[.val (.ref a1), .val (.ref a2), .val (.ref a2)] [(.int (own_b cs ds))])) _
    refine XS.ifYes X7.here hx rfl (pc0 := 23) (pc' := 41) rfl (hb hby d12_23) rfl ((if0 _ _).trans (teq hc23).1) (by decide) (by decide) ?_
    show Steps p.tables e below (T7.setTop (mkF m 41 #[.val (.ref a1), .val (.ref a2), .val (.ref a2)] [])) _
    refine XS.iconst X7.here hx rfl (hb hby d12_41) ?_
    show Steps p.tables e below (T7.setTop (mkF m 42 #[.val (.ref a1), .val (.ref a2), .val (.ref a2)] [(.int (0 : Int32))])) _
    exact retN X7 hx (t := .boolean) Bd.returns (by simp) (hb hby d12_42) hr
  · show QP (.int (0 : Int32)) h0 n0 _ T7.heap _
    rw [e7]
    exact ⟨rfl, N7, rfl⟩
set_option maxRecDepth 65536 in
set_option maxHeartbeats 40000000 in
theorem rm12_fff (l : Launch) (Z : State) (a0 : Array Value) (hw : ∀ d ∈ tables_1, d.before a0 Z = true) (ws : List Jvm.Cond) (a1 : Addr) (a2 : Addr) (v_name_a1 : Addr) (v_name_a2 : Addr) (v_domain_a1 : Addr) (v_domain_a2 : Addr) (cs : List Int32) (ds : List Int32) (w_COMPACT_STRINGS : Int32) (h0 : Heap) (n0 : Nat) (Z0 : n0 ≤ h0.size) (E_a2 : Exa Z h0 a2 "com/example/niyama/niyama/relational/model/Attribute") (F_name_a1 : Fld Z h0 a1 "com/example/niyama/niyama/relational/model/Attribute" "name" "Ljava/lang/String;" (.ref v_name_a1)) (F_name_a2 : Fld Z h0 a2 "com/example/niyama/niyama/relational/model/Attribute" "name" "Ljava/lang/String;" (.ref v_name_a2)) (E_v_name_a1 : Exa Z h0 v_name_a1 "java/lang/String") (F_domain_a1 : Fld Z h0 a1 "com/example/niyama/niyama/relational/model/Attribute" "domain" "Lcom/example/niyama/niyama/relational/model/Domain;" (.ref v_domain_a1)) (F_domain_a2 : Fld Z h0 a2 "com/example/niyama/niyama/relational/model/Attribute" "domain" "Lcom/example/niyama/niyama/relational/model/Domain;" (.ref v_domain_a2)) (Sx : Str Z h0 v_name_a1 cs) (Sy : Str Z h0 v_name_a2 ds) (S_COMPACT_STRINGS : Sta Z h0 "java/lang/String" "COMPACT_STRINGS" "Z" (.int w_COMPACT_STRINGS)) (hcs : ¬ (w_COMPACT_STRINGS = (0 : Int32))) (hc23 : ¬ ((own_b cs ds) = (0 : Int32))) (ha34 : v_domain_a1 = v_domain_a2) :
    MetFree l (⟨"com/example/niyama/niyama/relational/model/Attribute", "equals", "(Ljava/lang/Object;)Z"⟩ : MethodName) (head1 (Jvm.Cond.code (⟨"com/example/niyama/niyama/relational/model/Attribute", "equals", "(Ljava/lang/Object;)Z"⟩ : MethodName) prog_29_method_5_code 3 (some .boolean) :: ws) ({ frames := 2, cells := 0, slots := 0, locals := 28 } : Room)) (fun a U => a = #[(.ref a1), (.ref a2)] ∧ Z.Warmed39 U.vm ∧ U.heap = h0) (fun _ _ _ _ _ => True) (fun _ U o U' => ∃ v L, o = .returned v ∧ QP (.int (1 : Int32)) h0 n0 v U'.heap L ∧ FrameEnd U o U' L ({ frames := 2, cells := 0, slots := 0, locals := 28 } : Room).cells ({ frames := 2, cells := 0, slots := 0, locals := 28 } : Room).slots) := by
  refine MetFree.of_bodySF (plainFor_of_name pn_12) hisR ?_
  intro p e s m args below meth c s₁ Bd hml0 hP hK
  obtain ⟨rfl, hZ, hh⟩ := hP
  have hx := Bd.exec
  have hby := Bd.bytes
  have hml : c.maxLocals = 3 := hml0
  have hown : s.vm.findClass "com/example/niyama/niyama/relational/model/Attribute" = some m.cls := findClass_of_methodNamed Bd.named
  have hnm := (name_of_methodNamed Bd.named Bd.method).1
  have X0 : Stand p l e ({ frames := 2, cells := 0, slots := 0, locals := 28 } : Room) s m #[(.ref a1), (.ref a2)] below meth c s₁ [] 0 0 := Stand.of_body Bd
  have e0 : s₁.heap = h0 := by rw [← hh, Bd.state]; rfl
  have N0 := Fr.nil n0
  have pre0 : ∀ t, Steps p.tables e below (s₁.setTop (mkF m 0 #[.val (.ref a1), .val (.ref a2), .unset] [])) t → Steps p.tables e below (s₁.setTop (entryFrame m #[(.ref a1), (.ref a2)] 3)) t := fun t k => castTop (ef_12 m a1 a2) k
  obtain ⟨T3, X3, e3, st3⟩ := instY X0 hx hZ hown (hw _ (List.mem_of_getElem? (i := 82) rfl)) e0 (Ins.self E_a2) (g := (mkF m 1 #[.val (.ref a1), .val (.ref a2), .unset] [(.ref a2)])) rfl rfl (hb hby d12_1)
  obtain ⟨T4, X4, e4, st4⟩ := castY X3 hx hZ hown (hw _ (List.mem_of_getElem? (i := 82) rfl)) e3 (Ins.self E_a2) (g := (mkF m 8 #[.val (.ref a1), .val (.ref a2), .unset] [(.ref a2)])) rfl rfl (hb hby d12_8)
  obtain ⟨T5, X5, e5, st5⟩ := getF X4 hx hZ hown (host := "") (Or.inl (hw _ (List.mem_of_getElem? (i := 58) rfl))) Via.refl e4 F_name_a1 (g := (mkF m 13 #[.val (.ref a1), .val (.ref a2), .val (.ref a2)] [(.ref a1)])) rfl rfl (hb hby d12_13)
  obtain ⟨T6, X6, e6, st6⟩ := getF X5 hx hZ hown (host := "") (Or.inl (hw _ (List.mem_of_getElem? (i := 58) rfl))) Via.refl e5 F_name_a2 (g := (mkF m 17 #[.val (.ref a1), .val (.ref a2), .val (.ref a2)] [(.ref a2), (.ref v_name_a1)])) rfl rfl (hb hby d12_17)
  obtain ⟨cq7, kq7, q7a, q7b, q7c⟩ := isOf hZ e6 E_v_name_a1
  obtain ⟨_, _, ⟨T7, L7, k7, n7⟩, -, X7, ⟨Lc7, hQ7, l7, y7, z7⟩, st7⟩ := X6.virtualBack hx (y := (⟨"java/lang/String", "equals", "(Ljava/lang/Object;)Z"⟩ : MethodName)) (z := (⟨"java/lang/String", "equals", "(Ljava/lang/Object;)Z"⟩ : MethodName)) hown (mvT hZ (hw _ (List.mem_of_getElem? (i := 84) rfl))) (mvT hZ (hw _ (List.mem_of_getElem? (i := 85) rfl))) (notFace_of_selects (args := #[]) (mvT hZ (hw _ (List.mem_of_getElem? (i := 87) rfl)))) (mvT hZ (hw _ (List.mem_of_getElem? (i := 87) rfl))) (mvT hZ (hw _ (List.mem_of_getElem? (i := 86) rfl))) (by decide) (own_eqB (W := 0) hZ hw Sx Sy S_COMPACT_STRINGS hcs (by decide) (by decide) n0) q7a q7c (g := (mkF m 20 #[.val (.ref a1), .val (.ref a2), .val (.ref a2)] [(.ref v_name_a2), (.ref v_name_a1)])) rfl (by rw [hml]; rfl) (Steps.refl _) (argsL := [(.ref v_name_a2)]) (rest := []) (lenOf pd_12_11 rfl) rfl (by show 2 * 0 + _ ≤ _; exact Nat.le_of_eq rfl) (hb hby d12_20) (fun _ _ => ⟨rfl, e6, (by decide : 0 + 0 ≤ _), (by decide : 0 + 0 ≤ _)⟩)
  dsimp only [Pt.U, Pt.locs, Pt.cells, Pt.slots] at X7 l7 y7 z7 st7 hQ7
  subst l7 y7 z7
  obtain ⟨rfl, N7q, e7⟩ := hQ7
  have N7 := Fr.app N0 N7q
  obtain ⟨T8, X8, e8, st8⟩ := getF X7 hx hZ hown (host := "") (Or.inl (hw _ (List.mem_of_getElem? (i := 62) rfl))) Via.refl e7 F_domain_a1 (g := (mkF m 27 #[.val (.ref a1), .val (.ref a2), .val (.ref a2)] [(.ref a1)])) rfl rfl (hb hby d12_27)
  obtain ⟨T9, X9, e9, st9⟩ := getF X8 hx hZ hown (host := "") (Or.inl (hw _ (List.mem_of_getElem? (i := 62) rfl))) Via.refl e8 F_domain_a2 (g := (mkF m 31 #[.val (.ref a1), .val (.ref a2), .val (.ref a2)] [(.ref a2), (.ref v_domain_a1)])) rfl rfl (hb hby d12_31)
  obtain ⟨fs, hr, hrun, hended, hW, hsame⟩ := X9.leave (v := some (.int (1 : Int32))) (fun h => by rw [Bd.returns] at h; cases h)
  refine ⟨_, _, pre0 _ ?_, hrun, hended, _, _, rfl, ?_, ⟨_, rfl⟩, hW, hsame.mono (by decide) (by decide)⟩
  · show Steps p.tables e below (s₁.setTop (mkF m 0 #[.val (.ref a1), .val (.ref a2), .unset] [])) _
    refine XS.aloadN X0.here hx rfl (hb hby d12_0) rfl rfl ?_
    show Steps p.tables e below (s₁.setTop (mkF m 1 #[.val (.ref a1), .val (.ref a2), .unset] [(.ref a2)])) _
    refine st3 _ ?_
    show Steps p.tables e below (T3.setTop (mkF m 4 #[.val (.ref a1), .val (.ref a2), .unset] [(.int (1 : Int32))])) _
    refine XS.ifNo X3.here hx rfl (hb hby d12_4) rfl ((if0 _ _).trans (feq (by decide : ¬ ((1 : Int32) = (0 : Int32)))).1) ?_
    show Steps p.tables e below (T3.setTop (mkF m 7 #[.val (.ref a1), .val (.ref a2), .unset] [])) _
    refine XS.aloadN X3.here hx rfl (hb hby d12_7) rfl rfl ?_
    show Steps p.tables e below (T3.setTop (mkF m 8 #[.val (.ref a1), .val (.ref a2), .unset] [(.ref a2)])) _
    refine st4 _ ?_
    show Steps p.tables e below (T4.setTop (mkF m 11 #[.val (.ref a1), .val (.ref a2), .unset] [(.ref a2)])) _
    refine XS.astoreN X4.here hx rfl (hb hby d12_11) rfl rfl (l' := #[.val (.ref a1), .val (.ref a2), .val (.ref a2)]) rfl ?_
    show Steps p.tables e below (T4.setTop (mkF m 12 #[.val (.ref a1), .val (.ref a2), .val (.ref a2)] [])) _
    refine XS.aloadN X4.here hx rfl (hb hby d12_12) rfl rfl ?_
    show Steps p.tables e below (T4.setTop (mkF m 13 #[.val (.ref a1), .val (.ref a2), .val (.ref a2)] [(.ref a1)])) _
    refine st5 _ ?_
    show Steps p.tables e below (T5.setTop (mkF m 16 #[.val (.ref a1), .val (.ref a2), .val (.ref a2)] [(.ref v_name_a1)])) _
    refine XS.aloadN X5.here hx rfl (hb hby d12_16) rfl rfl ?_
    show Steps p.tables e below (T5.setTop (mkF m 17 #[.val (.ref a1), .val (.ref a2), .val (.ref a2)] [(.ref a2), (.ref v_name_a1)])) _
    refine st6 _ ?_
    show Steps p.tables e below (T6.setTop (mkF m 20 #[.val (.ref a1), .val (.ref a2), .val (.ref a2)] [(.ref v_name_a2), (.ref v_name_a1)])) _
    refine st7.trans ?_
    show Steps p.tables e below (T7.setTop (mkF m 23 #[.val (.ref a1), .val (.ref a2), .val (.ref a2)] [(.int (own_b cs ds))])) _
    refine XS.ifNo X7.here hx rfl (hb hby d12_23) rfl ((if0 _ _).trans (feq hc23).1) ?_
    show Steps p.tables e below (T7.setTop (mkF m 26 #[.val (.ref a1), .val (.ref a2), .val (.ref a2)] [])) _
    refine XS.aloadN X7.here hx rfl (hb hby d12_26) rfl rfl ?_
    show Steps p.tables e below (T7.setTop (mkF m 27 #[.val (.ref a1), .val (.ref a2), .val (.ref a2)] [(.ref a1)])) _
    refine st8 _ ?_
    show Steps p.tables e below (T8.setTop (mkF m 30 #[.val (.ref a1), .val (.ref a2), .val (.ref a2)] [(.ref v_domain_a1)])) _
    refine XS.aloadN X8.here hx rfl (hb hby d12_30) rfl rfl ?_
    show Steps p.tables e below (T8.setTop (mkF m 31 #[.val (.ref a1), .val (.ref a2), .val (.ref a2)] [(.ref a2), (.ref v_domain_a1)])) _
    refine st9 _ ?_
    show Steps p.tables e below (T9.setTop (mkF m 34 #[.val (.ref a1), .val (.ref a2), .val (.ref a2)] [(.ref v_domain_a2), (.ref v_domain_a1)])) _
    refine Jvm.RoadKit.acmp (g := (mkF m 34 #[.val (.ref a1), .val (.ref a2), .val (.ref a2)] [(.ref v_domain_a2), (.ref v_domain_a1)])) X9 hx rfl rfl rfl (pc0 := 34) (pc' := 37) (same := true) rfl (hb hby d12_34) rfl (decide_eq_true (congrArg Value.ref ha34)) (by decide) (by decide) ?_
    show Steps p.tables e below (T9.setTop (mkF m 37 #[.val (.ref a1), .val (.ref a2), .val (.ref a2)] [])) _
    refine XS.iconst X9.here hx rfl (hb hby d12_37) ?_
    show Steps p.tables e below (T9.setTop (mkF m 38 #[.val (.ref a1), .val (.ref a2), .val (.ref a2)] [(.int (1 : Int32))])) _
    refine XS.goto X9.here hx rfl (pc0 := 38) (pc' := 42) rfl (hb hby d12_38) (by decide) (by decide) ?_
    show Steps p.tables e below (T9.setTop (mkF m 42 #[.val (.ref a1), .val (.ref a2), .val (.ref a2)] [(.int (1 : Int32))])) _
    exact retN X9 hx (t := .boolean) Bd.returns (by simp) (hb hby d12_42) hr
  · show QP (.int (1 : Int32)) h0 n0 _ T9.heap _
    rw [e9]
    exact ⟨rfl, N7, rfl⟩
set_option maxRecDepth 65536 in
set_option maxHeartbeats 40000000 in
theorem rm12_fft (l : Launch) (Z : State) (a0 : Array Value) (hw : ∀ d ∈ tables_1, d.before a0 Z = true) (ws : List Jvm.Cond) (a1 : Addr) (a2 : Addr) (v_name_a1 : Addr) (v_name_a2 : Addr) (v_domain_a1 : Addr) (v_domain_a2 : Addr) (cs : List Int32) (ds : List Int32) (w_COMPACT_STRINGS : Int32) (h0 : Heap) (n0 : Nat) (Z0 : n0 ≤ h0.size) (E_a2 : Exa Z h0 a2 "com/example/niyama/niyama/relational/model/Attribute") (F_name_a1 : Fld Z h0 a1 "com/example/niyama/niyama/relational/model/Attribute" "name" "Ljava/lang/String;" (.ref v_name_a1)) (F_name_a2 : Fld Z h0 a2 "com/example/niyama/niyama/relational/model/Attribute" "name" "Ljava/lang/String;" (.ref v_name_a2)) (E_v_name_a1 : Exa Z h0 v_name_a1 "java/lang/String") (F_domain_a1 : Fld Z h0 a1 "com/example/niyama/niyama/relational/model/Attribute" "domain" "Lcom/example/niyama/niyama/relational/model/Domain;" (.ref v_domain_a1)) (F_domain_a2 : Fld Z h0 a2 "com/example/niyama/niyama/relational/model/Attribute" "domain" "Lcom/example/niyama/niyama/relational/model/Domain;" (.ref v_domain_a2)) (Sx : Str Z h0 v_name_a1 cs) (Sy : Str Z h0 v_name_a2 ds) (S_COMPACT_STRINGS : Sta Z h0 "java/lang/String" "COMPACT_STRINGS" "Z" (.int w_COMPACT_STRINGS)) (hcs : ¬ (w_COMPACT_STRINGS = (0 : Int32))) (hc23 : ¬ ((own_b cs ds) = (0 : Int32))) (ha34 : ¬ (v_domain_a1 = v_domain_a2)) :
    MetFree l (⟨"com/example/niyama/niyama/relational/model/Attribute", "equals", "(Ljava/lang/Object;)Z"⟩ : MethodName) (head1 (Jvm.Cond.code (⟨"com/example/niyama/niyama/relational/model/Attribute", "equals", "(Ljava/lang/Object;)Z"⟩ : MethodName) prog_29_method_5_code 3 (some .boolean) :: ws) ({ frames := 2, cells := 0, slots := 0, locals := 28 } : Room)) (fun a U => a = #[(.ref a1), (.ref a2)] ∧ Z.Warmed39 U.vm ∧ U.heap = h0) (fun _ _ _ _ _ => True) (fun _ U o U' => ∃ v L, o = .returned v ∧ QP (.int (0 : Int32)) h0 n0 v U'.heap L ∧ FrameEnd U o U' L ({ frames := 2, cells := 0, slots := 0, locals := 28 } : Room).cells ({ frames := 2, cells := 0, slots := 0, locals := 28 } : Room).slots) := by
  refine MetFree.of_bodySF (plainFor_of_name pn_12) hisR ?_
  intro p e s m args below meth c s₁ Bd hml0 hP hK
  obtain ⟨rfl, hZ, hh⟩ := hP
  have hx := Bd.exec
  have hby := Bd.bytes
  have hml : c.maxLocals = 3 := hml0
  have hown : s.vm.findClass "com/example/niyama/niyama/relational/model/Attribute" = some m.cls := findClass_of_methodNamed Bd.named
  have hnm := (name_of_methodNamed Bd.named Bd.method).1
  have X0 : Stand p l e ({ frames := 2, cells := 0, slots := 0, locals := 28 } : Room) s m #[(.ref a1), (.ref a2)] below meth c s₁ [] 0 0 := Stand.of_body Bd
  have e0 : s₁.heap = h0 := by rw [← hh, Bd.state]; rfl
  have N0 := Fr.nil n0
  have pre0 : ∀ t, Steps p.tables e below (s₁.setTop (mkF m 0 #[.val (.ref a1), .val (.ref a2), .unset] [])) t → Steps p.tables e below (s₁.setTop (entryFrame m #[(.ref a1), (.ref a2)] 3)) t := fun t k => castTop (ef_12 m a1 a2) k
  obtain ⟨T3, X3, e3, st3⟩ := instY X0 hx hZ hown (hw _ (List.mem_of_getElem? (i := 82) rfl)) e0 (Ins.self E_a2) (g := (mkF m 1 #[.val (.ref a1), .val (.ref a2), .unset] [(.ref a2)])) rfl rfl (hb hby d12_1)
  obtain ⟨T4, X4, e4, st4⟩ := castY X3 hx hZ hown (hw _ (List.mem_of_getElem? (i := 82) rfl)) e3 (Ins.self E_a2) (g := (mkF m 8 #[.val (.ref a1), .val (.ref a2), .unset] [(.ref a2)])) rfl rfl (hb hby d12_8)
  obtain ⟨T5, X5, e5, st5⟩ := getF X4 hx hZ hown (host := "") (Or.inl (hw _ (List.mem_of_getElem? (i := 58) rfl))) Via.refl e4 F_name_a1 (g := (mkF m 13 #[.val (.ref a1), .val (.ref a2), .val (.ref a2)] [(.ref a1)])) rfl rfl (hb hby d12_13)
  obtain ⟨T6, X6, e6, st6⟩ := getF X5 hx hZ hown (host := "") (Or.inl (hw _ (List.mem_of_getElem? (i := 58) rfl))) Via.refl e5 F_name_a2 (g := (mkF m 17 #[.val (.ref a1), .val (.ref a2), .val (.ref a2)] [(.ref a2), (.ref v_name_a1)])) rfl rfl (hb hby d12_17)
  obtain ⟨cq7, kq7, q7a, q7b, q7c⟩ := isOf hZ e6 E_v_name_a1
  obtain ⟨_, _, ⟨T7, L7, k7, n7⟩, -, X7, ⟨Lc7, hQ7, l7, y7, z7⟩, st7⟩ := X6.virtualBack hx (y := (⟨"java/lang/String", "equals", "(Ljava/lang/Object;)Z"⟩ : MethodName)) (z := (⟨"java/lang/String", "equals", "(Ljava/lang/Object;)Z"⟩ : MethodName)) hown (mvT hZ (hw _ (List.mem_of_getElem? (i := 84) rfl))) (mvT hZ (hw _ (List.mem_of_getElem? (i := 85) rfl))) (notFace_of_selects (args := #[]) (mvT hZ (hw _ (List.mem_of_getElem? (i := 87) rfl)))) (mvT hZ (hw _ (List.mem_of_getElem? (i := 87) rfl))) (mvT hZ (hw _ (List.mem_of_getElem? (i := 86) rfl))) (by decide) (own_eqB (W := 0) hZ hw Sx Sy S_COMPACT_STRINGS hcs (by decide) (by decide) n0) q7a q7c (g := (mkF m 20 #[.val (.ref a1), .val (.ref a2), .val (.ref a2)] [(.ref v_name_a2), (.ref v_name_a1)])) rfl (by rw [hml]; rfl) (Steps.refl _) (argsL := [(.ref v_name_a2)]) (rest := []) (lenOf pd_12_11 rfl) rfl (by show 2 * 0 + _ ≤ _; exact Nat.le_of_eq rfl) (hb hby d12_20) (fun _ _ => ⟨rfl, e6, (by decide : 0 + 0 ≤ _), (by decide : 0 + 0 ≤ _)⟩)
  dsimp only [Pt.U, Pt.locs, Pt.cells, Pt.slots] at X7 l7 y7 z7 st7 hQ7
  subst l7 y7 z7
  obtain ⟨rfl, N7q, e7⟩ := hQ7
  have N7 := Fr.app N0 N7q
  obtain ⟨T8, X8, e8, st8⟩ := getF X7 hx hZ hown (host := "") (Or.inl (hw _ (List.mem_of_getElem? (i := 62) rfl))) Via.refl e7 F_domain_a1 (g := (mkF m 27 #[.val (.ref a1), .val (.ref a2), .val (.ref a2)] [(.ref a1)])) rfl rfl (hb hby d12_27)
  obtain ⟨T9, X9, e9, st9⟩ := getF X8 hx hZ hown (host := "") (Or.inl (hw _ (List.mem_of_getElem? (i := 62) rfl))) Via.refl e8 F_domain_a2 (g := (mkF m 31 #[.val (.ref a1), .val (.ref a2), .val (.ref a2)] [(.ref a2), (.ref v_domain_a1)])) rfl rfl (hb hby d12_31)
  obtain ⟨fs, hr, hrun, hended, hW, hsame⟩ := X9.leave (v := some (.int (0 : Int32))) (fun h => by rw [Bd.returns] at h; cases h)
  refine ⟨_, _, pre0 _ ?_, hrun, hended, _, _, rfl, ?_, ⟨_, rfl⟩, hW, hsame.mono (by decide) (by decide)⟩
  · show Steps p.tables e below (s₁.setTop (mkF m 0 #[.val (.ref a1), .val (.ref a2), .unset] [])) _
    refine XS.aloadN X0.here hx rfl (hb hby d12_0) rfl rfl ?_
    show Steps p.tables e below (s₁.setTop (mkF m 1 #[.val (.ref a1), .val (.ref a2), .unset] [(.ref a2)])) _
    refine st3 _ ?_
    show Steps p.tables e below (T3.setTop (mkF m 4 #[.val (.ref a1), .val (.ref a2), .unset] [(.int (1 : Int32))])) _
    refine XS.ifNo X3.here hx rfl (hb hby d12_4) rfl ((if0 _ _).trans (feq (by decide : ¬ ((1 : Int32) = (0 : Int32)))).1) ?_
    show Steps p.tables e below (T3.setTop (mkF m 7 #[.val (.ref a1), .val (.ref a2), .unset] [])) _
    refine XS.aloadN X3.here hx rfl (hb hby d12_7) rfl rfl ?_
    show Steps p.tables e below (T3.setTop (mkF m 8 #[.val (.ref a1), .val (.ref a2), .unset] [(.ref a2)])) _
    refine st4 _ ?_
    show Steps p.tables e below (T4.setTop (mkF m 11 #[.val (.ref a1), .val (.ref a2), .unset] [(.ref a2)])) _
    refine XS.astoreN X4.here hx rfl (hb hby d12_11) rfl rfl (l' := #[.val (.ref a1), .val (.ref a2), .val (.ref a2)]) rfl ?_
    show Steps p.tables e below (T4.setTop (mkF m 12 #[.val (.ref a1), .val (.ref a2), .val (.ref a2)] [])) _
    refine XS.aloadN X4.here hx rfl (hb hby d12_12) rfl rfl ?_
    show Steps p.tables e below (T4.setTop (mkF m 13 #[.val (.ref a1), .val (.ref a2), .val (.ref a2)] [(.ref a1)])) _
    refine st5 _ ?_
    show Steps p.tables e below (T5.setTop (mkF m 16 #[.val (.ref a1), .val (.ref a2), .val (.ref a2)] [(.ref v_name_a1)])) _
    refine XS.aloadN X5.here hx rfl (hb hby d12_16) rfl rfl ?_
    show Steps p.tables e below (T5.setTop (mkF m 17 #[.val (.ref a1), .val (.ref a2), .val (.ref a2)] [(.ref a2), (.ref v_name_a1)])) _
    refine st6 _ ?_
    show Steps p.tables e below (T6.setTop (mkF m 20 #[.val (.ref a1), .val (.ref a2), .val (.ref a2)] [(.ref v_name_a2), (.ref v_name_a1)])) _
    refine st7.trans ?_
    show Steps p.tables e below (T7.setTop (mkF m 23 #[.val (.ref a1), .val (.ref a2), .val (.ref a2)] [(.int (own_b cs ds))])) _
    refine XS.ifNo X7.here hx rfl (hb hby d12_23) rfl ((if0 _ _).trans (feq hc23).1) ?_
    show Steps p.tables e below (T7.setTop (mkF m 26 #[.val (.ref a1), .val (.ref a2), .val (.ref a2)] [])) _
    refine XS.aloadN X7.here hx rfl (hb hby d12_26) rfl rfl ?_
    show Steps p.tables e below (T7.setTop (mkF m 27 #[.val (.ref a1), .val (.ref a2), .val (.ref a2)] [(.ref a1)])) _
    refine st8 _ ?_
    show Steps p.tables e below (T8.setTop (mkF m 30 #[.val (.ref a1), .val (.ref a2), .val (.ref a2)] [(.ref v_domain_a1)])) _
    refine XS.aloadN X8.here hx rfl (hb hby d12_30) rfl rfl ?_
    show Steps p.tables e below (T8.setTop (mkF m 31 #[.val (.ref a1), .val (.ref a2), .val (.ref a2)] [(.ref a2), (.ref v_domain_a1)])) _
    refine st9 _ ?_
    show Steps p.tables e below (T9.setTop (mkF m 34 #[.val (.ref a1), .val (.ref a2), .val (.ref a2)] [(.ref v_domain_a2), (.ref v_domain_a1)])) _
    refine Jvm.RoadKit.acmp (g := (mkF m 34 #[.val (.ref a1), .val (.ref a2), .val (.ref a2)] [(.ref v_domain_a2), (.ref v_domain_a1)])) X9 hx rfl rfl rfl (pc0 := 34) (pc' := 41) (same := false) rfl (hb hby d12_34) rfl (decide_eq_false fun q => ha34 (Value.ref.inj q)) (by decide) (by decide) ?_
    show Steps p.tables e below (T9.setTop (mkF m 41 #[.val (.ref a1), .val (.ref a2), .val (.ref a2)] [])) _
    refine XS.iconst X9.here hx rfl (hb hby d12_41) ?_
    show Steps p.tables e below (T9.setTop (mkF m 42 #[.val (.ref a1), .val (.ref a2), .val (.ref a2)] [(.int (0 : Int32))])) _
    exact retN X9 hx (t := .boolean) Bd.returns (by simp) (hb hby d12_42) hr
  · show QP (.int (0 : Int32)) h0 n0 _ T9.heap _
    rw [e9]
    exact ⟨rfl, N7, rfl⟩
def own_eq (a1 : Addr) (a2 : Addr) (v_name_a1 : Addr) (v_name_a2 : Addr) (cs : List Int32) (ds : List Int32) (w_COMPACT_STRINGS : Int32) (v_domain_a1 : Addr) (v_domain_a2 : Addr) : Int32 := (if (own_b cs ds) = (0 : Int32) then (0 : Int32) else (if v_domain_a1 = v_domain_a2 then (1 : Int32) else (0 : Int32)))
theorem rm12a (l : Launch) (Z : State) (a0 : Array Value) (hw : ∀ d ∈ tables_1, d.before a0 Z = true) (ws : List Jvm.Cond) (a1 : Addr) (a2 : Addr) (v_name_a1 : Addr) (v_name_a2 : Addr) (cs : List Int32) (ds : List Int32) (w_COMPACT_STRINGS : Int32) (v_domain_a1 : Addr) (v_domain_a2 : Addr) (h0 : Heap) (n0 : Nat) (Z0 : n0 ≤ h0.size) (E_a2 : Exa Z h0 a2 "com/example/niyama/niyama/relational/model/Attribute") (F_name_a1 : Fld Z h0 a1 "com/example/niyama/niyama/relational/model/Attribute" "name" "Ljava/lang/String;" (.ref v_name_a1)) (F_name_a2 : Fld Z h0 a2 "com/example/niyama/niyama/relational/model/Attribute" "name" "Ljava/lang/String;" (.ref v_name_a2)) (E_v_name_a1 : Exa Z h0 v_name_a1 "java/lang/String") (Sx : Str Z h0 v_name_a1 cs) (Sy : Str Z h0 v_name_a2 ds) (S_COMPACT_STRINGS : Sta Z h0 "java/lang/String" "COMPACT_STRINGS" "Z" (.int w_COMPACT_STRINGS)) (hcs : ¬ (w_COMPACT_STRINGS = (0 : Int32))) (F_domain_a1 : Fld Z h0 a1 "com/example/niyama/niyama/relational/model/Attribute" "domain" "Lcom/example/niyama/niyama/relational/model/Domain;" (.ref v_domain_a1)) (F_domain_a2 : Fld Z h0 a2 "com/example/niyama/niyama/relational/model/Attribute" "domain" "Lcom/example/niyama/niyama/relational/model/Domain;" (.ref v_domain_a2)) :
    MetFree l (⟨"com/example/niyama/niyama/relational/model/Attribute", "equals", "(Ljava/lang/Object;)Z"⟩ : MethodName) (head1 (Jvm.Cond.code (⟨"com/example/niyama/niyama/relational/model/Attribute", "equals", "(Ljava/lang/Object;)Z"⟩ : MethodName) prog_29_method_5_code 3 (some .boolean) :: ws) ({ frames := 2, cells := 0, slots := 0, locals := 28 } : Room)) (fun a U => a = #[(.ref a1), (.ref a2)] ∧ Z.Warmed39 U.vm ∧ U.heap = h0) (fun _ _ _ _ _ => True) (fun _ U o U' => ∃ v L, o = .returned v ∧ QP (.int (own_eq a1 a2 v_name_a1 v_name_a2 cs ds w_COMPACT_STRINGS v_domain_a1 v_domain_a2)) h0 n0 v U'.heap L ∧ FrameEnd U o U' L ({ frames := 2, cells := 0, slots := 0, locals := 28 } : Room).cells ({ frames := 2, cells := 0, slots := 0, locals := 28 } : Room).slots) := by
  by_cases hc23 : (own_b cs ds) = (0 : Int32)
  · skip
    rw [show own_eq a1 a2 v_name_a1 v_name_a2 cs ds w_COMPACT_STRINGS v_domain_a1 v_domain_a2 = (0 : Int32) from by unfold own_eq; rw [if_pos hc23]]
    exact rm12_ft l Z a0 hw ws a1 a2 v_name_a1 v_name_a2 cs ds w_COMPACT_STRINGS h0 n0 Z0 E_a2 F_name_a1 F_name_a2 E_v_name_a1 Sx Sy S_COMPACT_STRINGS hcs hc23
  · skip
    by_cases ha34 : v_domain_a1 = v_domain_a2
    · skip
      rw [show own_eq a1 a2 v_name_a1 v_name_a2 cs ds w_COMPACT_STRINGS v_domain_a1 v_domain_a2 = (1 : Int32) from by unfold own_eq; rw [if_neg hc23, if_pos ha34]]
      exact rm12_fff l Z a0 hw ws a1 a2 v_name_a1 v_name_a2 v_domain_a1 v_domain_a2 cs ds w_COMPACT_STRINGS h0 n0 Z0 E_a2 F_name_a1 F_name_a2 E_v_name_a1 F_domain_a1 F_domain_a2 Sx Sy S_COMPACT_STRINGS hcs hc23 ha34
    · skip
      rw [show own_eq a1 a2 v_name_a1 v_name_a2 cs ds w_COMPACT_STRINGS v_domain_a1 v_domain_a2 = (0 : Int32) from by unfold own_eq; rw [if_neg hc23, if_neg ha34]]
      exact rm12_fft l Z a0 hw ws a1 a2 v_name_a1 v_name_a2 v_domain_a1 v_domain_a2 cs ds w_COMPACT_STRINGS h0 n0 Z0 E_a2 F_name_a1 F_name_a2 E_v_name_a1 F_domain_a1 F_domain_a2 Sx Sy S_COMPACT_STRINGS hcs hc23 ha34
theorem ef_12n (m : MethodId) (x0 : Addr) : entryFrame m #[(.ref x0), .null] 3 = mkF m 0 #[.val (.ref x0), .val .null, .unset] [] := by first | (simp [entryFrame, mkF, argsToLocals, Value.category]; done) | rfl
set_option maxRecDepth 65536 in
set_option maxHeartbeats 40000000 in
theorem rm12n (l : Launch) (Z : State) (a0 : Array Value) (hw : ∀ d ∈ tables_1, d.before a0 Z = true) (ws : List Jvm.Cond) (a1 : Addr) (h0 : Heap) (n0 : Nat) (Z0 : n0 ≤ h0.size) :
    MetFree l (⟨"com/example/niyama/niyama/relational/model/Attribute", "equals", "(Ljava/lang/Object;)Z"⟩ : MethodName) (head1 (Jvm.Cond.code (⟨"com/example/niyama/niyama/relational/model/Attribute", "equals", "(Ljava/lang/Object;)Z"⟩ : MethodName) prog_29_method_5_code 3 (some .boolean) :: ws) ({ frames := 2, cells := 0, slots := 0, locals := 28 } : Room)) (fun a U => a = #[(.ref a1), .null] ∧ Z.Warmed39 U.vm ∧ U.heap = h0) (fun _ _ _ _ _ => True) (fun _ U o U' => ∃ v L, o = .returned v ∧ QP (.int (0 : Int32)) h0 n0 v U'.heap L ∧ FrameEnd U o U' L ({ frames := 2, cells := 0, slots := 0, locals := 28 } : Room).cells ({ frames := 2, cells := 0, slots := 0, locals := 28 } : Room).slots) := by
  refine MetFree.of_bodySF (plainFor_of_name pn_12) hisR ?_
  intro p e s m args below meth c s₁ Bd hml0 hP hK
  obtain ⟨rfl, hZ, hh⟩ := hP
  have hx := Bd.exec
  have hby := Bd.bytes
  have hml : c.maxLocals = 3 := hml0
  have hown : s.vm.findClass "com/example/niyama/niyama/relational/model/Attribute" = some m.cls := findClass_of_methodNamed Bd.named
  have hnm := (name_of_methodNamed Bd.named Bd.method).1
  have X0 : Stand p l e ({ frames := 2, cells := 0, slots := 0, locals := 28 } : Room) s m #[(.ref a1), .null] below meth c s₁ [] 0 0 := Stand.of_body Bd
  have e0 : s₁.heap = h0 := by rw [← hh, Bd.state]; rfl
  have N0 := Fr.nil n0
  have pre0 : ∀ t, Steps p.tables e below (s₁.setTop (mkF m 0 #[.val (.ref a1), .val .null, .unset] [])) t → Steps p.tables e below (s₁.setTop (entryFrame m #[(.ref a1), .null] 3)) t := fun t k => castTop (ef_12n m a1) k

  obtain ⟨fs, hr, hrun, hended, hW, hsame⟩ := X0.leave (v := some (.int (0 : Int32))) (fun h => by rw [Bd.returns] at h; cases h)
  refine ⟨_, _, pre0 _ ?_, hrun, hended, _, _, rfl, ?_, ⟨_, rfl⟩, hW, hsame.mono (by decide) (by decide)⟩
  · show Steps p.tables e below (s₁.setTop (mkF m 0 #[.val (.ref a1), .val .null, .unset] [])) _
    refine XS.aloadN X0.here hx rfl (hb hby d12_0) rfl rfl ?_
    show Steps p.tables e below (s₁.setTop (mkF m 1 #[.val (.ref a1), .val .null, .unset] [.null])) _
    refine X0.instanceofNull hx (g := (mkF m 1 #[.val (.ref a1), .val .null, .unset] [.null])) rfl rfl (hb hby d12_1) _ ?_
    show Steps p.tables e below (s₁.setTop (mkF m 4 #[.val (.ref a1), .val .null, .unset] [(.int (0 : Int32))])) _
    refine XS.ifYes X0.here hx rfl (pc0 := 4) (pc' := 41) rfl (hb hby d12_4) rfl ((if0 _ _).trans (teq (by decide : (0 : Int32) = (0 : Int32))).1) (by decide) (by decide) ?_
    show Steps p.tables e below (s₁.setTop (mkF m 41 #[.val (.ref a1), .val .null, .unset] [])) _
    refine XS.iconst X0.here hx rfl (hb hby d12_41) ?_
    show Steps p.tables e below (s₁.setTop (mkF m 42 #[.val (.ref a1), .val .null, .unset] [(.int (0 : Int32))])) _
    exact retN X0 hx (t := .boolean) Bd.returns (by simp) (hb hby d12_42) hr
  · show QP (.int (0 : Int32)) h0 n0 _ s₁.heap _
    rw [e0]
    exact ⟨rfl, N0, rfl⟩
set_option maxRecDepth 65536 in
set_option maxHeartbeats 40000000 in
theorem rm12s (l : Launch) (Z : State) (a0 : Array Value) (hw : ∀ d ∈ tables_1, d.before a0 Z = true) (ws : List Jvm.Cond) (a1 : Addr) (a2 : Addr) (h0 : Heap) (n0 : Nat) (Z0 : n0 ≤ h0.size) (E_a2 : Exa Z h0 a2 "java/lang/String") (hno1 : ∃ c t, Z.vm.findClass "java/lang/String" = some c ∧ Z.vm.findClass "com/example/niyama/niyama/relational/model/Attribute" = some t ∧ Z.vm.assignable c t = false) :
    MetFree l (⟨"com/example/niyama/niyama/relational/model/Attribute", "equals", "(Ljava/lang/Object;)Z"⟩ : MethodName) (head1 (Jvm.Cond.code (⟨"com/example/niyama/niyama/relational/model/Attribute", "equals", "(Ljava/lang/Object;)Z"⟩ : MethodName) prog_29_method_5_code 3 (some .boolean) :: ws) ({ frames := 2, cells := 0, slots := 0, locals := 28 } : Room)) (fun a U => a = #[(.ref a1), (.ref a2)] ∧ Z.Warmed39 U.vm ∧ U.heap = h0) (fun _ _ _ _ _ => True) (fun _ U o U' => ∃ v L, o = .returned v ∧ QP (.int (0 : Int32)) h0 n0 v U'.heap L ∧ FrameEnd U o U' L ({ frames := 2, cells := 0, slots := 0, locals := 28 } : Room).cells ({ frames := 2, cells := 0, slots := 0, locals := 28 } : Room).slots) := by
  refine MetFree.of_bodySF (plainFor_of_name pn_12) hisR ?_
  intro p e s m args below meth c s₁ Bd hml0 hP hK
  obtain ⟨rfl, hZ, hh⟩ := hP
  have hx := Bd.exec
  have hby := Bd.bytes
  have hml : c.maxLocals = 3 := hml0
  have hown : s.vm.findClass "com/example/niyama/niyama/relational/model/Attribute" = some m.cls := findClass_of_methodNamed Bd.named
  have hnm := (name_of_methodNamed Bd.named Bd.method).1
  have X0 : Stand p l e ({ frames := 2, cells := 0, slots := 0, locals := 28 } : Room) s m #[(.ref a1), (.ref a2)] below meth c s₁ [] 0 0 := Stand.of_body Bd
  have e0 : s₁.heap = h0 := by rw [← hh, Bd.state]; rfl
  have N0 := Fr.nil n0
  have pre0 : ∀ t, Steps p.tables e below (s₁.setTop (mkF m 0 #[.val (.ref a1), .val (.ref a2), .unset] [])) t → Steps p.tables e below (s₁.setTop (entryFrame m #[(.ref a1), (.ref a2)] 3)) t := fun t k => castTop (ef_12 m a1 a2) k
  obtain ⟨T3, X3, e3, st3⟩ := instNo X0 hx hZ hown (hw _ (List.mem_of_getElem? (i := 82) rfl)) e0 E_a2 hno1 (g := (mkF m 1 #[.val (.ref a1), .val (.ref a2), .unset] [(.ref a2)])) rfl rfl (hb hby d12_1)
  obtain ⟨fs, hr, hrun, hended, hW, hsame⟩ := X3.leave (v := some (.int (0 : Int32))) (fun h => by rw [Bd.returns] at h; cases h)
  refine ⟨_, _, pre0 _ ?_, hrun, hended, _, _, rfl, ?_, ⟨_, rfl⟩, hW, hsame.mono (by decide) (by decide)⟩
  · show Steps p.tables e below (s₁.setTop (mkF m 0 #[.val (.ref a1), .val (.ref a2), .unset] [])) _
    refine XS.aloadN X0.here hx rfl (hb hby d12_0) rfl rfl ?_
    show Steps p.tables e below (s₁.setTop (mkF m 1 #[.val (.ref a1), .val (.ref a2), .unset] [(.ref a2)])) _
    refine st3 _ ?_
    show Steps p.tables e below (T3.setTop (mkF m 4 #[.val (.ref a1), .val (.ref a2), .unset] [(.int (0 : Int32))])) _
    refine XS.ifYes X3.here hx rfl (pc0 := 4) (pc' := 41) rfl (hb hby d12_4) rfl ((if0 _ _).trans (teq (by decide : (0 : Int32) = (0 : Int32))).1) (by decide) (by decide) ?_
    show Steps p.tables e below (T3.setTop (mkF m 41 #[.val (.ref a1), .val (.ref a2), .unset] [])) _
    refine XS.iconst X3.here hx rfl (hb hby d12_41) ?_
    show Steps p.tables e below (T3.setTop (mkF m 42 #[.val (.ref a1), .val (.ref a2), .unset] [(.int (0 : Int32))])) _
    exact retN X3 hx (t := .boolean) Bd.returns (by simp) (hb hby d12_42) hr
  · show QP (.int (0 : Int32)) h0 n0 _ T3.heap _
    rw [e3]
    exact ⟨rfl, N0, rfl⟩
theorem os0_6 {z0 : Value} {z1 : Value} {z2 : Value} {z3 : Value} {z4 : Value} {s5 : Slot} {s6 : Slot} {s7 : Slot} {s8 : Slot} {s9 : Slot} {s10 : Slot} {s11 : Slot} {s12 : Slot} {s13 : Slot} {s14 : Slot} {s15 : Slot} {s16 : Slot} {s17 : Slot} {s18 : Slot} {s19 : Slot} {s20 : Slot} {v : Int32} (h : One s6) : storeLocals #[.val z0, .val z1, .val z2, .val z3, .val z4, s5, s6, s7, s8, s9, s10, s11, s12, s13, s14, s15, s16, s17, s18, s19, s20] 6 (.int v) = some #[.val z0, .val z1, .val z2, .val z3, .val z4, s5, .val (.int v), s7, s8, s9, s10, s11, s12, s13, s14, s15, s16, s17, s18, s19, s20] := by
  rcases h with rfl | ⟨w, rfl, hw⟩
  · rfl
  · cases w <;> first | rfl | (simp [Value.category] at hw)
theorem os0_14 {z0 : Value} {z1 : Value} {z2 : Value} {z3 : Value} {z4 : Value} {s5 : Slot} {z6 : Value} {s7 : Slot} {s8 : Slot} {s9 : Slot} {s10 : Slot} {s11 : Slot} {s12 : Slot} {s13 : Slot} {s14 : Slot} {s15 : Slot} {s16 : Slot} {s17 : Slot} {s18 : Slot} {s19 : Slot} {s20 : Slot} {v : Int32} (h : One s7) : storeLocals #[.val z0, .val z1, .val z2, .val z3, .val z4, s5, .val z6, s7, s8, s9, s10, s11, s12, s13, s14, s15, s16, s17, s18, s19, s20] 7 (.int v) = some #[.val z0, .val z1, .val z2, .val z3, .val z4, s5, .val z6, .val (.int v), s8, s9, s10, s11, s12, s13, s14, s15, s16, s17, s18, s19, s20] := by
  rcases h with rfl | ⟨w, rfl, hw⟩
  · rfl
  · cases w <;> first | rfl | (simp [Value.category] at hw)
theorem os0_25 {z0 : Value} {z1 : Value} {z2 : Value} {z3 : Value} {z4 : Value} {s5 : Slot} {z6 : Value} {z7 : Value} {s8 : Slot} {s9 : Slot} {s10 : Slot} {s11 : Slot} {s12 : Slot} {s13 : Slot} {s14 : Slot} {s15 : Slot} {s16 : Slot} {s17 : Slot} {s18 : Slot} {s19 : Slot} {s20 : Slot} {v : Int32} (h : One s8) : storeLocals #[.val z0, .val z1, .val z2, .val z3, .val z4, s5, .val z6, .val z7, s8, s9, s10, s11, s12, s13, s14, s15, s16, s17, s18, s19, s20] 8 (.int v) = some #[.val z0, .val z1, .val z2, .val z3, .val z4, s5, .val z6, .val z7, .val (.int v), s9, s10, s11, s12, s13, s14, s15, s16, s17, s18, s19, s20] := by
  rcases h with rfl | ⟨w, rfl, hw⟩
  · rfl
  · cases w <;> first | rfl | (simp [Value.category] at hw)
theorem os0_36 {z0 : Value} {z1 : Value} {z2 : Value} {z3 : Value} {z4 : Value} {s5 : Slot} {z6 : Value} {z7 : Value} {z8 : Value} {s9 : Slot} {s10 : Slot} {s11 : Slot} {s12 : Slot} {s13 : Slot} {s14 : Slot} {s15 : Slot} {s16 : Slot} {s17 : Slot} {s18 : Slot} {s19 : Slot} {s20 : Slot} {v : Int32} (h : One s9) : storeLocals #[.val z0, .val z1, .val z2, .val z3, .val z4, s5, .val z6, .val z7, .val z8, s9, s10, s11, s12, s13, s14, s15, s16, s17, s18, s19, s20] 9 (.int v) = some #[.val z0, .val z1, .val z2, .val z3, .val z4, s5, .val z6, .val z7, .val z8, .val (.int v), s10, s11, s12, s13, s14, s15, s16, s17, s18, s19, s20] := by
  rcases h with rfl | ⟨w, rfl, hw⟩
  · rfl
  · cases w <;> first | rfl | (simp [Value.category] at hw)
theorem os0_40 {z0 : Value} {z1 : Value} {z2 : Value} {z3 : Value} {z4 : Value} {s5 : Slot} {z6 : Value} {z7 : Value} {z8 : Value} {z9 : Value} {s10 : Slot} {s11 : Slot} {s12 : Slot} {s13 : Slot} {s14 : Slot} {s15 : Slot} {s16 : Slot} {s17 : Slot} {s18 : Slot} {s19 : Slot} {s20 : Slot} {v : Int32} (h : One s10) : storeLocals #[.val z0, .val z1, .val z2, .val z3, .val z4, s5, .val z6, .val z7, .val z8, .val z9, s10, s11, s12, s13, s14, s15, s16, s17, s18, s19, s20] 10 (.int v) = some #[.val z0, .val z1, .val z2, .val z3, .val z4, s5, .val z6, .val z7, .val z8, .val z9, .val (.int v), s11, s12, s13, s14, s15, s16, s17, s18, s19, s20] := by
  rcases h with rfl | ⟨w, rfl, hw⟩
  · rfl
  · cases w <;> first | rfl | (simp [Value.category] at hw)
theorem os0_44 {z0 : Value} {z1 : Value} {z2 : Value} {z3 : Value} {z4 : Value} {s5 : Slot} {z6 : Value} {z7 : Value} {z8 : Value} {z9 : Value} {z10 : Value} {s11 : Slot} {s12 : Slot} {s13 : Slot} {s14 : Slot} {s15 : Slot} {s16 : Slot} {s17 : Slot} {s18 : Slot} {s19 : Slot} {s20 : Slot} {v : Int32} (h : One s11) : storeLocals #[.val z0, .val z1, .val z2, .val z3, .val z4, s5, .val z6, .val z7, .val z8, .val z9, .val z10, s11, s12, s13, s14, s15, s16, s17, s18, s19, s20] 11 (.int v) = some #[.val z0, .val z1, .val z2, .val z3, .val z4, s5, .val z6, .val z7, .val z8, .val z9, .val z10, .val (.int v), s12, s13, s14, s15, s16, s17, s18, s19, s20] := by
  rcases h with rfl | ⟨w, rfl, hw⟩
  · rfl
  · cases w <;> first | rfl | (simp [Value.category] at hw)
set_option maxRecDepth 65536 in
set_option maxHeartbeats 40000000 in
theorem pc0_f {p : Program} {l : Launch} {e : Env} {R : Room} {s : State} {m : MethodId} {args : Array Value} {below : List Frame} {meth : Method} {c : Code} {T0 : State} {locs : List Loc} {cells slots : Nat} {Z : State} {a0 : Array Value} {h0 : Heap} (i0 : Int32) (i1 : Int32) (i2 : Int32) (i3 : Int32) (i4 : Int32) (s5 : Slot) (s6 : Slot) (s7 : Slot) (s8 : Slot) (s9 : Slot) (s10 : Slot) (s11 : Slot) (s12 : Slot) (s13 : Slot) (s14 : Slot) (s15 : Slot) (s16 : Slot) (s17 : Slot) (s18 : Slot) (s19 : Slot) (s20 : Slot)
    (X0 : Stand p l e R s m args below meth c T0 locs cells slots) (hx : p.tables.exec = Jvm.exec) (hZ : Z.Warmed39 s.vm) (hw : ∀ d ∈ tables_1, d.before a0 Z = true) (hby : c.code = code) (hml : c.maxLocals = 21) (hown : s.vm.findClass "com/example/niyama/niyama/relational/model/AttributeEqualsPinLaw" = some m.cls) (e0 : T0.heap = h0) (hs6 : One s6) (hs7 : One s7) (hs8 : One s8) (hs9 : One s9) (hs10 : One s10) (hs11 : One s11) (hc31 : ¬ ((i4 &&& (1 : Int32)) = (0 : Int32))) :
    ∃ (T' : State), Stand p l e R s m args below meth c T' locs cells slots ∧ T'.heap = h0 ∧
      ∀ target, Steps p.tables e below (T'.setTop (mkF m 78 #[.val (.int i0), .val (.int i1), .val (.int i2), .val (.int i3), .val (.int i4), s5, .val (.int ((i0 &&& (2147483647 : Int32)) % (3 : Int32))), .val (.int ((i1 &&& (255 : Int32)).toUInt32.toUInt16.toUInt32.toInt32)), .val (.int ((((i1.toUInt32 >>> ((8 : Int32) &&& 31).toUInt32).toInt32) &&& (255 : Int32)).toUInt32.toUInt16.toUInt32.toInt32)), .val (.int ((i0 &&& (2147483647 : Int32)) % (3 : Int32))), .val (.int ((i1 &&& (255 : Int32)).toUInt32.toUInt16.toUInt32.toInt32)), .val (.int ((((i1.toUInt32 >>> ((8 : Int32) &&& 31).toUInt32).toInt32) &&& (255 : Int32)).toUInt32.toUInt16.toUInt32.toInt32)), s12, s13, s14, s15, s16, s17, s18, s19, s20] [])) target → Steps p.tables e below (T0.setTop (mkF m 0 #[.val (.int i0), .val (.int i1), .val (.int i2), .val (.int i3), .val (.int i4), s5, s6, s7, s8, s9, s10, s11, s12, s13, s14, s15, s16, s17, s18, s19, s20] [])) target := by

  refine ⟨T0, X0, e0, fun target kt => ?_⟩
  show Steps p.tables e below (T0.setTop (mkF m 0 #[.val (.int i0), .val (.int i1), .val (.int i2), .val (.int i3), .val (.int i4), s5, s6, s7, s8, s9, s10, s11, s12, s13, s14, s15, s16, s17, s18, s19, s20] [])) _
  refine XS.iloadN X0.here hx rfl (hb hby at_0) rfl ?_
  show Steps p.tables e below (T0.setTop (mkF m 1 #[.val (.int i0), .val (.int i1), .val (.int i2), .val (.int i3), .val (.int i4), s5, s6, s7, s8, s9, s10, s11, s12, s13, s14, s15, s16, s17, s18, s19, s20] [(.int i0)])) _
  refine X0.ldcInt hx hown (mvT hZ (hw _ (List.mem_of_getElem? (i := 0) rfl))) (g := (mkF m 1 #[.val (.int i0), .val (.int i1), .val (.int i2), .val (.int i3), .val (.int i4), s5, s6, s7, s8, s9, s10, s11, s12, s13, s14, s15, s16, s17, s18, s19, s20] [(.int i0)])) rfl (hb hby at_1) _ ?_
  show Steps p.tables e below (T0.setTop (mkF m 3 #[.val (.int i0), .val (.int i1), .val (.int i2), .val (.int i3), .val (.int i4), s5, s6, s7, s8, s9, s10, s11, s12, s13, s14, s15, s16, s17, s18, s19, s20] [(.int (2147483647 : Int32)), (.int i0)])) _
  refine XS.iand X0.here hx rfl (hb hby at_3) rfl ?_
  show Steps p.tables e below (T0.setTop (mkF m 4 #[.val (.int i0), .val (.int i1), .val (.int i2), .val (.int i3), .val (.int i4), s5, s6, s7, s8, s9, s10, s11, s12, s13, s14, s15, s16, s17, s18, s19, s20] [(.int (i0 &&& (2147483647 : Int32)))])) _
  refine XS.iconst X0.here hx rfl (hb hby at_4) ?_
  show Steps p.tables e below (T0.setTop (mkF m 5 #[.val (.int i0), .val (.int i1), .val (.int i2), .val (.int i3), .val (.int i4), s5, s6, s7, s8, s9, s10, s11, s12, s13, s14, s15, s16, s17, s18, s19, s20] [(.int (3 : Int32)), (.int (i0 &&& (2147483647 : Int32)))])) _
  refine iremM X0 hx rfl (hb hby at_5) rfl (by decide) ?_
  show Steps p.tables e below (T0.setTop (mkF m 6 #[.val (.int i0), .val (.int i1), .val (.int i2), .val (.int i3), .val (.int i4), s5, s6, s7, s8, s9, s10, s11, s12, s13, s14, s15, s16, s17, s18, s19, s20] [(.int ((i0 &&& (2147483647 : Int32)) % (3 : Int32)))])) _
  refine XS.istore X0.here hx rfl (hb hby at_6) rfl (l' := #[.val (.int i0), .val (.int i1), .val (.int i2), .val (.int i3), .val (.int i4), s5, .val (.int ((i0 &&& (2147483647 : Int32)) % (3 : Int32))), s7, s8, s9, s10, s11, s12, s13, s14, s15, s16, s17, s18, s19, s20]) (os0_6 hs6) ?_
  show Steps p.tables e below (T0.setTop (mkF m 8 #[.val (.int i0), .val (.int i1), .val (.int i2), .val (.int i3), .val (.int i4), s5, .val (.int ((i0 &&& (2147483647 : Int32)) % (3 : Int32))), s7, s8, s9, s10, s11, s12, s13, s14, s15, s16, s17, s18, s19, s20] [])) _
  refine XS.iloadN X0.here hx rfl (hb hby at_8) rfl ?_
  show Steps p.tables e below (T0.setTop (mkF m 9 #[.val (.int i0), .val (.int i1), .val (.int i2), .val (.int i3), .val (.int i4), s5, .val (.int ((i0 &&& (2147483647 : Int32)) % (3 : Int32))), s7, s8, s9, s10, s11, s12, s13, s14, s15, s16, s17, s18, s19, s20] [(.int i1)])) _
  refine XS.sipush X0.here hx rfl (hb hby at_9) ?_
  show Steps p.tables e below (T0.setTop (mkF m 12 #[.val (.int i0), .val (.int i1), .val (.int i2), .val (.int i3), .val (.int i4), s5, .val (.int ((i0 &&& (2147483647 : Int32)) % (3 : Int32))), s7, s8, s9, s10, s11, s12, s13, s14, s15, s16, s17, s18, s19, s20] [(.int (255 : Int32)), (.int i1)])) _
  refine XS.iand X0.here hx rfl (hb hby at_12) rfl ?_
  show Steps p.tables e below (T0.setTop (mkF m 13 #[.val (.int i0), .val (.int i1), .val (.int i2), .val (.int i3), .val (.int i4), s5, .val (.int ((i0 &&& (2147483647 : Int32)) % (3 : Int32))), s7, s8, s9, s10, s11, s12, s13, s14, s15, s16, s17, s18, s19, s20] [(.int (i1 &&& (255 : Int32)))])) _
  refine XS.i2c X0.here hx rfl (hb hby at_13) rfl ?_
  show Steps p.tables e below (T0.setTop (mkF m 14 #[.val (.int i0), .val (.int i1), .val (.int i2), .val (.int i3), .val (.int i4), s5, .val (.int ((i0 &&& (2147483647 : Int32)) % (3 : Int32))), s7, s8, s9, s10, s11, s12, s13, s14, s15, s16, s17, s18, s19, s20] [(.int ((i1 &&& (255 : Int32)).toUInt32.toUInt16.toUInt32.toInt32))])) _
  refine XS.istore X0.here hx rfl (hb hby at_14) rfl (l' := #[.val (.int i0), .val (.int i1), .val (.int i2), .val (.int i3), .val (.int i4), s5, .val (.int ((i0 &&& (2147483647 : Int32)) % (3 : Int32))), .val (.int ((i1 &&& (255 : Int32)).toUInt32.toUInt16.toUInt32.toInt32)), s8, s9, s10, s11, s12, s13, s14, s15, s16, s17, s18, s19, s20]) (os0_14 hs7) ?_
  show Steps p.tables e below (T0.setTop (mkF m 16 #[.val (.int i0), .val (.int i1), .val (.int i2), .val (.int i3), .val (.int i4), s5, .val (.int ((i0 &&& (2147483647 : Int32)) % (3 : Int32))), .val (.int ((i1 &&& (255 : Int32)).toUInt32.toUInt16.toUInt32.toInt32)), s8, s9, s10, s11, s12, s13, s14, s15, s16, s17, s18, s19, s20] [])) _
  refine XS.iloadN X0.here hx rfl (hb hby at_16) rfl ?_
  show Steps p.tables e below (T0.setTop (mkF m 17 #[.val (.int i0), .val (.int i1), .val (.int i2), .val (.int i3), .val (.int i4), s5, .val (.int ((i0 &&& (2147483647 : Int32)) % (3 : Int32))), .val (.int ((i1 &&& (255 : Int32)).toUInt32.toUInt16.toUInt32.toInt32)), s8, s9, s10, s11, s12, s13, s14, s15, s16, s17, s18, s19, s20] [(.int i1)])) _
  refine XS.bipush X0.here hx rfl (hb hby at_17) ?_
  show Steps p.tables e below (T0.setTop (mkF m 19 #[.val (.int i0), .val (.int i1), .val (.int i2), .val (.int i3), .val (.int i4), s5, .val (.int ((i0 &&& (2147483647 : Int32)) % (3 : Int32))), .val (.int ((i1 &&& (255 : Int32)).toUInt32.toUInt16.toUInt32.toInt32)), s8, s9, s10, s11, s12, s13, s14, s15, s16, s17, s18, s19, s20] [(.int (8 : Int32)), (.int i1)])) _
  refine XS.iushr X0.here hx rfl (hb hby at_19) rfl ?_
  show Steps p.tables e below (T0.setTop (mkF m 20 #[.val (.int i0), .val (.int i1), .val (.int i2), .val (.int i3), .val (.int i4), s5, .val (.int ((i0 &&& (2147483647 : Int32)) % (3 : Int32))), .val (.int ((i1 &&& (255 : Int32)).toUInt32.toUInt16.toUInt32.toInt32)), s8, s9, s10, s11, s12, s13, s14, s15, s16, s17, s18, s19, s20] [(.int ((i1.toUInt32 >>> ((8 : Int32) &&& 31).toUInt32).toInt32))])) _
  refine XS.sipush X0.here hx rfl (hb hby at_20) ?_
  show Steps p.tables e below (T0.setTop (mkF m 23 #[.val (.int i0), .val (.int i1), .val (.int i2), .val (.int i3), .val (.int i4), s5, .val (.int ((i0 &&& (2147483647 : Int32)) % (3 : Int32))), .val (.int ((i1 &&& (255 : Int32)).toUInt32.toUInt16.toUInt32.toInt32)), s8, s9, s10, s11, s12, s13, s14, s15, s16, s17, s18, s19, s20] [(.int (255 : Int32)), (.int ((i1.toUInt32 >>> ((8 : Int32) &&& 31).toUInt32).toInt32))])) _
  refine XS.iand X0.here hx rfl (hb hby at_23) rfl ?_
  show Steps p.tables e below (T0.setTop (mkF m 24 #[.val (.int i0), .val (.int i1), .val (.int i2), .val (.int i3), .val (.int i4), s5, .val (.int ((i0 &&& (2147483647 : Int32)) % (3 : Int32))), .val (.int ((i1 &&& (255 : Int32)).toUInt32.toUInt16.toUInt32.toInt32)), s8, s9, s10, s11, s12, s13, s14, s15, s16, s17, s18, s19, s20] [(.int (((i1.toUInt32 >>> ((8 : Int32) &&& 31).toUInt32).toInt32) &&& (255 : Int32)))])) _
  refine XS.i2c X0.here hx rfl (hb hby at_24) rfl ?_
  show Steps p.tables e below (T0.setTop (mkF m 25 #[.val (.int i0), .val (.int i1), .val (.int i2), .val (.int i3), .val (.int i4), s5, .val (.int ((i0 &&& (2147483647 : Int32)) % (3 : Int32))), .val (.int ((i1 &&& (255 : Int32)).toUInt32.toUInt16.toUInt32.toInt32)), s8, s9, s10, s11, s12, s13, s14, s15, s16, s17, s18, s19, s20] [(.int ((((i1.toUInt32 >>> ((8 : Int32) &&& 31).toUInt32).toInt32) &&& (255 : Int32)).toUInt32.toUInt16.toUInt32.toInt32))])) _
  refine XS.istore X0.here hx rfl (hb hby at_25) rfl (l' := #[.val (.int i0), .val (.int i1), .val (.int i2), .val (.int i3), .val (.int i4), s5, .val (.int ((i0 &&& (2147483647 : Int32)) % (3 : Int32))), .val (.int ((i1 &&& (255 : Int32)).toUInt32.toUInt16.toUInt32.toInt32)), .val (.int ((((i1.toUInt32 >>> ((8 : Int32) &&& 31).toUInt32).toInt32) &&& (255 : Int32)).toUInt32.toUInt16.toUInt32.toInt32)), s9, s10, s11, s12, s13, s14, s15, s16, s17, s18, s19, s20]) (os0_25 hs8) ?_
  show Steps p.tables e below (T0.setTop (mkF m 27 #[.val (.int i0), .val (.int i1), .val (.int i2), .val (.int i3), .val (.int i4), s5, .val (.int ((i0 &&& (2147483647 : Int32)) % (3 : Int32))), .val (.int ((i1 &&& (255 : Int32)).toUInt32.toUInt16.toUInt32.toInt32)), .val (.int ((((i1.toUInt32 >>> ((8 : Int32) &&& 31).toUInt32).toInt32) &&& (255 : Int32)).toUInt32.toUInt16.toUInt32.toInt32)), s9, s10, s11, s12, s13, s14, s15, s16, s17, s18, s19, s20] [])) _
  refine XS.iload X0.here hx rfl (hb hby at_27) rfl ?_
  show Steps p.tables e below (T0.setTop (mkF m 29 #[.val (.int i0), .val (.int i1), .val (.int i2), .val (.int i3), .val (.int i4), s5, .val (.int ((i0 &&& (2147483647 : Int32)) % (3 : Int32))), .val (.int ((i1 &&& (255 : Int32)).toUInt32.toUInt16.toUInt32.toInt32)), .val (.int ((((i1.toUInt32 >>> ((8 : Int32) &&& 31).toUInt32).toInt32) &&& (255 : Int32)).toUInt32.toUInt16.toUInt32.toInt32)), s9, s10, s11, s12, s13, s14, s15, s16, s17, s18, s19, s20] [(.int i4)])) _
  refine XS.iconst X0.here hx rfl (hb hby at_29) ?_
  show Steps p.tables e below (T0.setTop (mkF m 30 #[.val (.int i0), .val (.int i1), .val (.int i2), .val (.int i3), .val (.int i4), s5, .val (.int ((i0 &&& (2147483647 : Int32)) % (3 : Int32))), .val (.int ((i1 &&& (255 : Int32)).toUInt32.toUInt16.toUInt32.toInt32)), .val (.int ((((i1.toUInt32 >>> ((8 : Int32) &&& 31).toUInt32).toInt32) &&& (255 : Int32)).toUInt32.toUInt16.toUInt32.toInt32)), s9, s10, s11, s12, s13, s14, s15, s16, s17, s18, s19, s20] [(.int (1 : Int32)), (.int i4)])) _
  refine XS.iand X0.here hx rfl (hb hby at_30) rfl ?_
  show Steps p.tables e below (T0.setTop (mkF m 31 #[.val (.int i0), .val (.int i1), .val (.int i2), .val (.int i3), .val (.int i4), s5, .val (.int ((i0 &&& (2147483647 : Int32)) % (3 : Int32))), .val (.int ((i1 &&& (255 : Int32)).toUInt32.toUInt16.toUInt32.toInt32)), .val (.int ((((i1.toUInt32 >>> ((8 : Int32) &&& 31).toUInt32).toInt32) &&& (255 : Int32)).toUInt32.toUInt16.toUInt32.toInt32)), s9, s10, s11, s12, s13, s14, s15, s16, s17, s18, s19, s20] [(.int (i4 &&& (1 : Int32)))])) _
  refine XS.ifNo X0.here hx rfl (hb hby at_31) rfl ((if0 _ _).trans (feq hc31).1) ?_
  show Steps p.tables e below (T0.setTop (mkF m 34 #[.val (.int i0), .val (.int i1), .val (.int i2), .val (.int i3), .val (.int i4), s5, .val (.int ((i0 &&& (2147483647 : Int32)) % (3 : Int32))), .val (.int ((i1 &&& (255 : Int32)).toUInt32.toUInt16.toUInt32.toInt32)), .val (.int ((((i1.toUInt32 >>> ((8 : Int32) &&& 31).toUInt32).toInt32) &&& (255 : Int32)).toUInt32.toUInt16.toUInt32.toInt32)), s9, s10, s11, s12, s13, s14, s15, s16, s17, s18, s19, s20] [])) _
  refine XS.iload X0.here hx rfl (hb hby at_34) rfl ?_
  show Steps p.tables e below (T0.setTop (mkF m 36 #[.val (.int i0), .val (.int i1), .val (.int i2), .val (.int i3), .val (.int i4), s5, .val (.int ((i0 &&& (2147483647 : Int32)) % (3 : Int32))), .val (.int ((i1 &&& (255 : Int32)).toUInt32.toUInt16.toUInt32.toInt32)), .val (.int ((((i1.toUInt32 >>> ((8 : Int32) &&& 31).toUInt32).toInt32) &&& (255 : Int32)).toUInt32.toUInt16.toUInt32.toInt32)), s9, s10, s11, s12, s13, s14, s15, s16, s17, s18, s19, s20] [(.int ((i0 &&& (2147483647 : Int32)) % (3 : Int32)))])) _
  refine XS.istore X0.here hx rfl (hb hby at_36) rfl (l' := #[.val (.int i0), .val (.int i1), .val (.int i2), .val (.int i3), .val (.int i4), s5, .val (.int ((i0 &&& (2147483647 : Int32)) % (3 : Int32))), .val (.int ((i1 &&& (255 : Int32)).toUInt32.toUInt16.toUInt32.toInt32)), .val (.int ((((i1.toUInt32 >>> ((8 : Int32) &&& 31).toUInt32).toInt32) &&& (255 : Int32)).toUInt32.toUInt16.toUInt32.toInt32)), .val (.int ((i0 &&& (2147483647 : Int32)) % (3 : Int32))), s10, s11, s12, s13, s14, s15, s16, s17, s18, s19, s20]) (os0_36 hs9) ?_
  show Steps p.tables e below (T0.setTop (mkF m 38 #[.val (.int i0), .val (.int i1), .val (.int i2), .val (.int i3), .val (.int i4), s5, .val (.int ((i0 &&& (2147483647 : Int32)) % (3 : Int32))), .val (.int ((i1 &&& (255 : Int32)).toUInt32.toUInt16.toUInt32.toInt32)), .val (.int ((((i1.toUInt32 >>> ((8 : Int32) &&& 31).toUInt32).toInt32) &&& (255 : Int32)).toUInt32.toUInt16.toUInt32.toInt32)), .val (.int ((i0 &&& (2147483647 : Int32)) % (3 : Int32))), s10, s11, s12, s13, s14, s15, s16, s17, s18, s19, s20] [])) _
  refine XS.iload X0.here hx rfl (hb hby at_38) rfl ?_
  show Steps p.tables e below (T0.setTop (mkF m 40 #[.val (.int i0), .val (.int i1), .val (.int i2), .val (.int i3), .val (.int i4), s5, .val (.int ((i0 &&& (2147483647 : Int32)) % (3 : Int32))), .val (.int ((i1 &&& (255 : Int32)).toUInt32.toUInt16.toUInt32.toInt32)), .val (.int ((((i1.toUInt32 >>> ((8 : Int32) &&& 31).toUInt32).toInt32) &&& (255 : Int32)).toUInt32.toUInt16.toUInt32.toInt32)), .val (.int ((i0 &&& (2147483647 : Int32)) % (3 : Int32))), s10, s11, s12, s13, s14, s15, s16, s17, s18, s19, s20] [(.int ((i1 &&& (255 : Int32)).toUInt32.toUInt16.toUInt32.toInt32))])) _
  refine XS.istore X0.here hx rfl (hb hby at_40) rfl (l' := #[.val (.int i0), .val (.int i1), .val (.int i2), .val (.int i3), .val (.int i4), s5, .val (.int ((i0 &&& (2147483647 : Int32)) % (3 : Int32))), .val (.int ((i1 &&& (255 : Int32)).toUInt32.toUInt16.toUInt32.toInt32)), .val (.int ((((i1.toUInt32 >>> ((8 : Int32) &&& 31).toUInt32).toInt32) &&& (255 : Int32)).toUInt32.toUInt16.toUInt32.toInt32)), .val (.int ((i0 &&& (2147483647 : Int32)) % (3 : Int32))), .val (.int ((i1 &&& (255 : Int32)).toUInt32.toUInt16.toUInt32.toInt32)), s11, s12, s13, s14, s15, s16, s17, s18, s19, s20]) (os0_40 hs10) ?_
  show Steps p.tables e below (T0.setTop (mkF m 42 #[.val (.int i0), .val (.int i1), .val (.int i2), .val (.int i3), .val (.int i4), s5, .val (.int ((i0 &&& (2147483647 : Int32)) % (3 : Int32))), .val (.int ((i1 &&& (255 : Int32)).toUInt32.toUInt16.toUInt32.toInt32)), .val (.int ((((i1.toUInt32 >>> ((8 : Int32) &&& 31).toUInt32).toInt32) &&& (255 : Int32)).toUInt32.toUInt16.toUInt32.toInt32)), .val (.int ((i0 &&& (2147483647 : Int32)) % (3 : Int32))), .val (.int ((i1 &&& (255 : Int32)).toUInt32.toUInt16.toUInt32.toInt32)), s11, s12, s13, s14, s15, s16, s17, s18, s19, s20] [])) _
  refine XS.iload X0.here hx rfl (hb hby at_42) rfl ?_
  show Steps p.tables e below (T0.setTop (mkF m 44 #[.val (.int i0), .val (.int i1), .val (.int i2), .val (.int i3), .val (.int i4), s5, .val (.int ((i0 &&& (2147483647 : Int32)) % (3 : Int32))), .val (.int ((i1 &&& (255 : Int32)).toUInt32.toUInt16.toUInt32.toInt32)), .val (.int ((((i1.toUInt32 >>> ((8 : Int32) &&& 31).toUInt32).toInt32) &&& (255 : Int32)).toUInt32.toUInt16.toUInt32.toInt32)), .val (.int ((i0 &&& (2147483647 : Int32)) % (3 : Int32))), .val (.int ((i1 &&& (255 : Int32)).toUInt32.toUInt16.toUInt32.toInt32)), s11, s12, s13, s14, s15, s16, s17, s18, s19, s20] [(.int ((((i1.toUInt32 >>> ((8 : Int32) &&& 31).toUInt32).toInt32) &&& (255 : Int32)).toUInt32.toUInt16.toUInt32.toInt32))])) _
  refine XS.istore X0.here hx rfl (hb hby at_44) rfl (l' := #[.val (.int i0), .val (.int i1), .val (.int i2), .val (.int i3), .val (.int i4), s5, .val (.int ((i0 &&& (2147483647 : Int32)) % (3 : Int32))), .val (.int ((i1 &&& (255 : Int32)).toUInt32.toUInt16.toUInt32.toInt32)), .val (.int ((((i1.toUInt32 >>> ((8 : Int32) &&& 31).toUInt32).toInt32) &&& (255 : Int32)).toUInt32.toUInt16.toUInt32.toInt32)), .val (.int ((i0 &&& (2147483647 : Int32)) % (3 : Int32))), .val (.int ((i1 &&& (255 : Int32)).toUInt32.toUInt16.toUInt32.toInt32)), .val (.int ((((i1.toUInt32 >>> ((8 : Int32) &&& 31).toUInt32).toInt32) &&& (255 : Int32)).toUInt32.toUInt16.toUInt32.toInt32)), s12, s13, s14, s15, s16, s17, s18, s19, s20]) (os0_44 hs11) ?_
  show Steps p.tables e below (T0.setTop (mkF m 46 #[.val (.int i0), .val (.int i1), .val (.int i2), .val (.int i3), .val (.int i4), s5, .val (.int ((i0 &&& (2147483647 : Int32)) % (3 : Int32))), .val (.int ((i1 &&& (255 : Int32)).toUInt32.toUInt16.toUInt32.toInt32)), .val (.int ((((i1.toUInt32 >>> ((8 : Int32) &&& 31).toUInt32).toInt32) &&& (255 : Int32)).toUInt32.toUInt16.toUInt32.toInt32)), .val (.int ((i0 &&& (2147483647 : Int32)) % (3 : Int32))), .val (.int ((i1 &&& (255 : Int32)).toUInt32.toUInt16.toUInt32.toInt32)), .val (.int ((((i1.toUInt32 >>> ((8 : Int32) &&& 31).toUInt32).toInt32) &&& (255 : Int32)).toUInt32.toUInt16.toUInt32.toInt32)), s12, s13, s14, s15, s16, s17, s18, s19, s20] [])) _
  refine XS.goto X0.here hx rfl (pc0 := 46) (pc' := 78) rfl (hb hby at_46) (by decide) (by decide) ?_
  exact kt
theorem os0_55 {z0 : Value} {z1 : Value} {z2 : Value} {z3 : Value} {z4 : Value} {s5 : Slot} {z6 : Value} {z7 : Value} {z8 : Value} {s9 : Slot} {s10 : Slot} {s11 : Slot} {s12 : Slot} {s13 : Slot} {s14 : Slot} {s15 : Slot} {s16 : Slot} {s17 : Slot} {s18 : Slot} {s19 : Slot} {s20 : Slot} {v : Int32} (h : One s9) : storeLocals #[.val z0, .val z1, .val z2, .val z3, .val z4, s5, .val z6, .val z7, .val z8, s9, s10, s11, s12, s13, s14, s15, s16, s17, s18, s19, s20] 9 (.int v) = some #[.val z0, .val z1, .val z2, .val z3, .val z4, s5, .val z6, .val z7, .val z8, .val (.int v), s10, s11, s12, s13, s14, s15, s16, s17, s18, s19, s20] := by
  rcases h with rfl | ⟨w, rfl, hw⟩
  · rfl
  · cases w <;> first | rfl | (simp [Value.category] at hw)
theorem os0_65 {z0 : Value} {z1 : Value} {z2 : Value} {z3 : Value} {z4 : Value} {s5 : Slot} {z6 : Value} {z7 : Value} {z8 : Value} {z9 : Value} {s10 : Slot} {s11 : Slot} {s12 : Slot} {s13 : Slot} {s14 : Slot} {s15 : Slot} {s16 : Slot} {s17 : Slot} {s18 : Slot} {s19 : Slot} {s20 : Slot} {v : Int32} (h : One s10) : storeLocals #[.val z0, .val z1, .val z2, .val z3, .val z4, s5, .val z6, .val z7, .val z8, .val z9, s10, s11, s12, s13, s14, s15, s16, s17, s18, s19, s20] 10 (.int v) = some #[.val z0, .val z1, .val z2, .val z3, .val z4, s5, .val z6, .val z7, .val z8, .val z9, .val (.int v), s11, s12, s13, s14, s15, s16, s17, s18, s19, s20] := by
  rcases h with rfl | ⟨w, rfl, hw⟩
  · rfl
  · cases w <;> first | rfl | (simp [Value.category] at hw)
theorem os0_76 {z0 : Value} {z1 : Value} {z2 : Value} {z3 : Value} {z4 : Value} {s5 : Slot} {z6 : Value} {z7 : Value} {z8 : Value} {z9 : Value} {z10 : Value} {s11 : Slot} {s12 : Slot} {s13 : Slot} {s14 : Slot} {s15 : Slot} {s16 : Slot} {s17 : Slot} {s18 : Slot} {s19 : Slot} {s20 : Slot} {v : Int32} (h : One s11) : storeLocals #[.val z0, .val z1, .val z2, .val z3, .val z4, s5, .val z6, .val z7, .val z8, .val z9, .val z10, s11, s12, s13, s14, s15, s16, s17, s18, s19, s20] 11 (.int v) = some #[.val z0, .val z1, .val z2, .val z3, .val z4, s5, .val z6, .val z7, .val z8, .val z9, .val z10, .val (.int v), s12, s13, s14, s15, s16, s17, s18, s19, s20] := by
  rcases h with rfl | ⟨w, rfl, hw⟩
  · rfl
  · cases w <;> first | rfl | (simp [Value.category] at hw)
set_option maxRecDepth 65536 in
set_option maxHeartbeats 40000000 in
theorem pc0_t {p : Program} {l : Launch} {e : Env} {R : Room} {s : State} {m : MethodId} {args : Array Value} {below : List Frame} {meth : Method} {c : Code} {T0 : State} {locs : List Loc} {cells slots : Nat} {Z : State} {a0 : Array Value} {h0 : Heap} (i0 : Int32) (i1 : Int32) (i2 : Int32) (i3 : Int32) (i4 : Int32) (s5 : Slot) (s6 : Slot) (s7 : Slot) (s8 : Slot) (s9 : Slot) (s10 : Slot) (s11 : Slot) (s12 : Slot) (s13 : Slot) (s14 : Slot) (s15 : Slot) (s16 : Slot) (s17 : Slot) (s18 : Slot) (s19 : Slot) (s20 : Slot)
    (X0 : Stand p l e R s m args below meth c T0 locs cells slots) (hx : p.tables.exec = Jvm.exec) (hZ : Z.Warmed39 s.vm) (hw : ∀ d ∈ tables_1, d.before a0 Z = true) (hby : c.code = code) (hml : c.maxLocals = 21) (hown : s.vm.findClass "com/example/niyama/niyama/relational/model/AttributeEqualsPinLaw" = some m.cls) (e0 : T0.heap = h0) (hs6 : One s6) (hs7 : One s7) (hs8 : One s8) (hs9 : One s9) (hs10 : One s10) (hs11 : One s11) (hc31 : (i4 &&& (1 : Int32)) = (0 : Int32)) :
    ∃ (T' : State), Stand p l e R s m args below meth c T' locs cells slots ∧ T'.heap = h0 ∧
      ∀ target, Steps p.tables e below (T'.setTop (mkF m 78 #[.val (.int i0), .val (.int i1), .val (.int i2), .val (.int i3), .val (.int i4), s5, .val (.int ((i0 &&& (2147483647 : Int32)) % (3 : Int32))), .val (.int ((i1 &&& (255 : Int32)).toUInt32.toUInt16.toUInt32.toInt32)), .val (.int ((((i1.toUInt32 >>> ((8 : Int32) &&& 31).toUInt32).toInt32) &&& (255 : Int32)).toUInt32.toUInt16.toUInt32.toInt32)), .val (.int ((i2 &&& (2147483647 : Int32)) % (3 : Int32))), .val (.int ((((i3.toUInt32 >>> ((2 : Int32) &&& 31).toUInt32).toInt32) &&& (255 : Int32)).toUInt32.toUInt16.toUInt32.toInt32)), .val (.int ((((i3.toUInt32 >>> ((10 : Int32) &&& 31).toUInt32).toInt32) &&& (255 : Int32)).toUInt32.toUInt16.toUInt32.toInt32)), s12, s13, s14, s15, s16, s17, s18, s19, s20] [])) target → Steps p.tables e below (T0.setTop (mkF m 0 #[.val (.int i0), .val (.int i1), .val (.int i2), .val (.int i3), .val (.int i4), s5, s6, s7, s8, s9, s10, s11, s12, s13, s14, s15, s16, s17, s18, s19, s20] [])) target := by

  refine ⟨T0, X0, e0, fun target kt => ?_⟩
  show Steps p.tables e below (T0.setTop (mkF m 0 #[.val (.int i0), .val (.int i1), .val (.int i2), .val (.int i3), .val (.int i4), s5, s6, s7, s8, s9, s10, s11, s12, s13, s14, s15, s16, s17, s18, s19, s20] [])) _
  refine XS.iloadN X0.here hx rfl (hb hby at_0) rfl ?_
  show Steps p.tables e below (T0.setTop (mkF m 1 #[.val (.int i0), .val (.int i1), .val (.int i2), .val (.int i3), .val (.int i4), s5, s6, s7, s8, s9, s10, s11, s12, s13, s14, s15, s16, s17, s18, s19, s20] [(.int i0)])) _
  refine X0.ldcInt hx hown (mvT hZ (hw _ (List.mem_of_getElem? (i := 0) rfl))) (g := (mkF m 1 #[.val (.int i0), .val (.int i1), .val (.int i2), .val (.int i3), .val (.int i4), s5, s6, s7, s8, s9, s10, s11, s12, s13, s14, s15, s16, s17, s18, s19, s20] [(.int i0)])) rfl (hb hby at_1) _ ?_
  show Steps p.tables e below (T0.setTop (mkF m 3 #[.val (.int i0), .val (.int i1), .val (.int i2), .val (.int i3), .val (.int i4), s5, s6, s7, s8, s9, s10, s11, s12, s13, s14, s15, s16, s17, s18, s19, s20] [(.int (2147483647 : Int32)), (.int i0)])) _
  refine XS.iand X0.here hx rfl (hb hby at_3) rfl ?_
  show Steps p.tables e below (T0.setTop (mkF m 4 #[.val (.int i0), .val (.int i1), .val (.int i2), .val (.int i3), .val (.int i4), s5, s6, s7, s8, s9, s10, s11, s12, s13, s14, s15, s16, s17, s18, s19, s20] [(.int (i0 &&& (2147483647 : Int32)))])) _
  refine XS.iconst X0.here hx rfl (hb hby at_4) ?_
  show Steps p.tables e below (T0.setTop (mkF m 5 #[.val (.int i0), .val (.int i1), .val (.int i2), .val (.int i3), .val (.int i4), s5, s6, s7, s8, s9, s10, s11, s12, s13, s14, s15, s16, s17, s18, s19, s20] [(.int (3 : Int32)), (.int (i0 &&& (2147483647 : Int32)))])) _
  refine iremM X0 hx rfl (hb hby at_5) rfl (by decide) ?_
  show Steps p.tables e below (T0.setTop (mkF m 6 #[.val (.int i0), .val (.int i1), .val (.int i2), .val (.int i3), .val (.int i4), s5, s6, s7, s8, s9, s10, s11, s12, s13, s14, s15, s16, s17, s18, s19, s20] [(.int ((i0 &&& (2147483647 : Int32)) % (3 : Int32)))])) _
  refine XS.istore X0.here hx rfl (hb hby at_6) rfl (l' := #[.val (.int i0), .val (.int i1), .val (.int i2), .val (.int i3), .val (.int i4), s5, .val (.int ((i0 &&& (2147483647 : Int32)) % (3 : Int32))), s7, s8, s9, s10, s11, s12, s13, s14, s15, s16, s17, s18, s19, s20]) (os0_6 hs6) ?_
  show Steps p.tables e below (T0.setTop (mkF m 8 #[.val (.int i0), .val (.int i1), .val (.int i2), .val (.int i3), .val (.int i4), s5, .val (.int ((i0 &&& (2147483647 : Int32)) % (3 : Int32))), s7, s8, s9, s10, s11, s12, s13, s14, s15, s16, s17, s18, s19, s20] [])) _
  refine XS.iloadN X0.here hx rfl (hb hby at_8) rfl ?_
  show Steps p.tables e below (T0.setTop (mkF m 9 #[.val (.int i0), .val (.int i1), .val (.int i2), .val (.int i3), .val (.int i4), s5, .val (.int ((i0 &&& (2147483647 : Int32)) % (3 : Int32))), s7, s8, s9, s10, s11, s12, s13, s14, s15, s16, s17, s18, s19, s20] [(.int i1)])) _
  refine XS.sipush X0.here hx rfl (hb hby at_9) ?_
  show Steps p.tables e below (T0.setTop (mkF m 12 #[.val (.int i0), .val (.int i1), .val (.int i2), .val (.int i3), .val (.int i4), s5, .val (.int ((i0 &&& (2147483647 : Int32)) % (3 : Int32))), s7, s8, s9, s10, s11, s12, s13, s14, s15, s16, s17, s18, s19, s20] [(.int (255 : Int32)), (.int i1)])) _
  refine XS.iand X0.here hx rfl (hb hby at_12) rfl ?_
  show Steps p.tables e below (T0.setTop (mkF m 13 #[.val (.int i0), .val (.int i1), .val (.int i2), .val (.int i3), .val (.int i4), s5, .val (.int ((i0 &&& (2147483647 : Int32)) % (3 : Int32))), s7, s8, s9, s10, s11, s12, s13, s14, s15, s16, s17, s18, s19, s20] [(.int (i1 &&& (255 : Int32)))])) _
  refine XS.i2c X0.here hx rfl (hb hby at_13) rfl ?_
  show Steps p.tables e below (T0.setTop (mkF m 14 #[.val (.int i0), .val (.int i1), .val (.int i2), .val (.int i3), .val (.int i4), s5, .val (.int ((i0 &&& (2147483647 : Int32)) % (3 : Int32))), s7, s8, s9, s10, s11, s12, s13, s14, s15, s16, s17, s18, s19, s20] [(.int ((i1 &&& (255 : Int32)).toUInt32.toUInt16.toUInt32.toInt32))])) _
  refine XS.istore X0.here hx rfl (hb hby at_14) rfl (l' := #[.val (.int i0), .val (.int i1), .val (.int i2), .val (.int i3), .val (.int i4), s5, .val (.int ((i0 &&& (2147483647 : Int32)) % (3 : Int32))), .val (.int ((i1 &&& (255 : Int32)).toUInt32.toUInt16.toUInt32.toInt32)), s8, s9, s10, s11, s12, s13, s14, s15, s16, s17, s18, s19, s20]) (os0_14 hs7) ?_
  show Steps p.tables e below (T0.setTop (mkF m 16 #[.val (.int i0), .val (.int i1), .val (.int i2), .val (.int i3), .val (.int i4), s5, .val (.int ((i0 &&& (2147483647 : Int32)) % (3 : Int32))), .val (.int ((i1 &&& (255 : Int32)).toUInt32.toUInt16.toUInt32.toInt32)), s8, s9, s10, s11, s12, s13, s14, s15, s16, s17, s18, s19, s20] [])) _
  refine XS.iloadN X0.here hx rfl (hb hby at_16) rfl ?_
  show Steps p.tables e below (T0.setTop (mkF m 17 #[.val (.int i0), .val (.int i1), .val (.int i2), .val (.int i3), .val (.int i4), s5, .val (.int ((i0 &&& (2147483647 : Int32)) % (3 : Int32))), .val (.int ((i1 &&& (255 : Int32)).toUInt32.toUInt16.toUInt32.toInt32)), s8, s9, s10, s11, s12, s13, s14, s15, s16, s17, s18, s19, s20] [(.int i1)])) _
  refine XS.bipush X0.here hx rfl (hb hby at_17) ?_
  show Steps p.tables e below (T0.setTop (mkF m 19 #[.val (.int i0), .val (.int i1), .val (.int i2), .val (.int i3), .val (.int i4), s5, .val (.int ((i0 &&& (2147483647 : Int32)) % (3 : Int32))), .val (.int ((i1 &&& (255 : Int32)).toUInt32.toUInt16.toUInt32.toInt32)), s8, s9, s10, s11, s12, s13, s14, s15, s16, s17, s18, s19, s20] [(.int (8 : Int32)), (.int i1)])) _
  refine XS.iushr X0.here hx rfl (hb hby at_19) rfl ?_
  show Steps p.tables e below (T0.setTop (mkF m 20 #[.val (.int i0), .val (.int i1), .val (.int i2), .val (.int i3), .val (.int i4), s5, .val (.int ((i0 &&& (2147483647 : Int32)) % (3 : Int32))), .val (.int ((i1 &&& (255 : Int32)).toUInt32.toUInt16.toUInt32.toInt32)), s8, s9, s10, s11, s12, s13, s14, s15, s16, s17, s18, s19, s20] [(.int ((i1.toUInt32 >>> ((8 : Int32) &&& 31).toUInt32).toInt32))])) _
  refine XS.sipush X0.here hx rfl (hb hby at_20) ?_
  show Steps p.tables e below (T0.setTop (mkF m 23 #[.val (.int i0), .val (.int i1), .val (.int i2), .val (.int i3), .val (.int i4), s5, .val (.int ((i0 &&& (2147483647 : Int32)) % (3 : Int32))), .val (.int ((i1 &&& (255 : Int32)).toUInt32.toUInt16.toUInt32.toInt32)), s8, s9, s10, s11, s12, s13, s14, s15, s16, s17, s18, s19, s20] [(.int (255 : Int32)), (.int ((i1.toUInt32 >>> ((8 : Int32) &&& 31).toUInt32).toInt32))])) _
  refine XS.iand X0.here hx rfl (hb hby at_23) rfl ?_
  show Steps p.tables e below (T0.setTop (mkF m 24 #[.val (.int i0), .val (.int i1), .val (.int i2), .val (.int i3), .val (.int i4), s5, .val (.int ((i0 &&& (2147483647 : Int32)) % (3 : Int32))), .val (.int ((i1 &&& (255 : Int32)).toUInt32.toUInt16.toUInt32.toInt32)), s8, s9, s10, s11, s12, s13, s14, s15, s16, s17, s18, s19, s20] [(.int (((i1.toUInt32 >>> ((8 : Int32) &&& 31).toUInt32).toInt32) &&& (255 : Int32)))])) _
  refine XS.i2c X0.here hx rfl (hb hby at_24) rfl ?_
  show Steps p.tables e below (T0.setTop (mkF m 25 #[.val (.int i0), .val (.int i1), .val (.int i2), .val (.int i3), .val (.int i4), s5, .val (.int ((i0 &&& (2147483647 : Int32)) % (3 : Int32))), .val (.int ((i1 &&& (255 : Int32)).toUInt32.toUInt16.toUInt32.toInt32)), s8, s9, s10, s11, s12, s13, s14, s15, s16, s17, s18, s19, s20] [(.int ((((i1.toUInt32 >>> ((8 : Int32) &&& 31).toUInt32).toInt32) &&& (255 : Int32)).toUInt32.toUInt16.toUInt32.toInt32))])) _
  refine XS.istore X0.here hx rfl (hb hby at_25) rfl (l' := #[.val (.int i0), .val (.int i1), .val (.int i2), .val (.int i3), .val (.int i4), s5, .val (.int ((i0 &&& (2147483647 : Int32)) % (3 : Int32))), .val (.int ((i1 &&& (255 : Int32)).toUInt32.toUInt16.toUInt32.toInt32)), .val (.int ((((i1.toUInt32 >>> ((8 : Int32) &&& 31).toUInt32).toInt32) &&& (255 : Int32)).toUInt32.toUInt16.toUInt32.toInt32)), s9, s10, s11, s12, s13, s14, s15, s16, s17, s18, s19, s20]) (os0_25 hs8) ?_
  show Steps p.tables e below (T0.setTop (mkF m 27 #[.val (.int i0), .val (.int i1), .val (.int i2), .val (.int i3), .val (.int i4), s5, .val (.int ((i0 &&& (2147483647 : Int32)) % (3 : Int32))), .val (.int ((i1 &&& (255 : Int32)).toUInt32.toUInt16.toUInt32.toInt32)), .val (.int ((((i1.toUInt32 >>> ((8 : Int32) &&& 31).toUInt32).toInt32) &&& (255 : Int32)).toUInt32.toUInt16.toUInt32.toInt32)), s9, s10, s11, s12, s13, s14, s15, s16, s17, s18, s19, s20] [])) _
  refine XS.iload X0.here hx rfl (hb hby at_27) rfl ?_
  show Steps p.tables e below (T0.setTop (mkF m 29 #[.val (.int i0), .val (.int i1), .val (.int i2), .val (.int i3), .val (.int i4), s5, .val (.int ((i0 &&& (2147483647 : Int32)) % (3 : Int32))), .val (.int ((i1 &&& (255 : Int32)).toUInt32.toUInt16.toUInt32.toInt32)), .val (.int ((((i1.toUInt32 >>> ((8 : Int32) &&& 31).toUInt32).toInt32) &&& (255 : Int32)).toUInt32.toUInt16.toUInt32.toInt32)), s9, s10, s11, s12, s13, s14, s15, s16, s17, s18, s19, s20] [(.int i4)])) _
  refine XS.iconst X0.here hx rfl (hb hby at_29) ?_
  show Steps p.tables e below (T0.setTop (mkF m 30 #[.val (.int i0), .val (.int i1), .val (.int i2), .val (.int i3), .val (.int i4), s5, .val (.int ((i0 &&& (2147483647 : Int32)) % (3 : Int32))), .val (.int ((i1 &&& (255 : Int32)).toUInt32.toUInt16.toUInt32.toInt32)), .val (.int ((((i1.toUInt32 >>> ((8 : Int32) &&& 31).toUInt32).toInt32) &&& (255 : Int32)).toUInt32.toUInt16.toUInt32.toInt32)), s9, s10, s11, s12, s13, s14, s15, s16, s17, s18, s19, s20] [(.int (1 : Int32)), (.int i4)])) _
  refine XS.iand X0.here hx rfl (hb hby at_30) rfl ?_
  show Steps p.tables e below (T0.setTop (mkF m 31 #[.val (.int i0), .val (.int i1), .val (.int i2), .val (.int i3), .val (.int i4), s5, .val (.int ((i0 &&& (2147483647 : Int32)) % (3 : Int32))), .val (.int ((i1 &&& (255 : Int32)).toUInt32.toUInt16.toUInt32.toInt32)), .val (.int ((((i1.toUInt32 >>> ((8 : Int32) &&& 31).toUInt32).toInt32) &&& (255 : Int32)).toUInt32.toUInt16.toUInt32.toInt32)), s9, s10, s11, s12, s13, s14, s15, s16, s17, s18, s19, s20] [(.int (i4 &&& (1 : Int32)))])) _
  refine XS.ifYes X0.here hx rfl (pc0 := 31) (pc' := 49) rfl (hb hby at_31) rfl ((if0 _ _).trans (teq hc31).1) (by decide) (by decide) ?_
  show Steps p.tables e below (T0.setTop (mkF m 49 #[.val (.int i0), .val (.int i1), .val (.int i2), .val (.int i3), .val (.int i4), s5, .val (.int ((i0 &&& (2147483647 : Int32)) % (3 : Int32))), .val (.int ((i1 &&& (255 : Int32)).toUInt32.toUInt16.toUInt32.toInt32)), .val (.int ((((i1.toUInt32 >>> ((8 : Int32) &&& 31).toUInt32).toInt32) &&& (255 : Int32)).toUInt32.toUInt16.toUInt32.toInt32)), s9, s10, s11, s12, s13, s14, s15, s16, s17, s18, s19, s20] [])) _
  refine XS.iloadN X0.here hx rfl (hb hby at_49) rfl ?_
  show Steps p.tables e below (T0.setTop (mkF m 50 #[.val (.int i0), .val (.int i1), .val (.int i2), .val (.int i3), .val (.int i4), s5, .val (.int ((i0 &&& (2147483647 : Int32)) % (3 : Int32))), .val (.int ((i1 &&& (255 : Int32)).toUInt32.toUInt16.toUInt32.toInt32)), .val (.int ((((i1.toUInt32 >>> ((8 : Int32) &&& 31).toUInt32).toInt32) &&& (255 : Int32)).toUInt32.toUInt16.toUInt32.toInt32)), s9, s10, s11, s12, s13, s14, s15, s16, s17, s18, s19, s20] [(.int i2)])) _
  refine X0.ldcInt hx hown (mvT hZ (hw _ (List.mem_of_getElem? (i := 0) rfl))) (g := (mkF m 50 #[.val (.int i0), .val (.int i1), .val (.int i2), .val (.int i3), .val (.int i4), s5, .val (.int ((i0 &&& (2147483647 : Int32)) % (3 : Int32))), .val (.int ((i1 &&& (255 : Int32)).toUInt32.toUInt16.toUInt32.toInt32)), .val (.int ((((i1.toUInt32 >>> ((8 : Int32) &&& 31).toUInt32).toInt32) &&& (255 : Int32)).toUInt32.toUInt16.toUInt32.toInt32)), s9, s10, s11, s12, s13, s14, s15, s16, s17, s18, s19, s20] [(.int i2)])) rfl (hb hby at_50) _ ?_
  show Steps p.tables e below (T0.setTop (mkF m 52 #[.val (.int i0), .val (.int i1), .val (.int i2), .val (.int i3), .val (.int i4), s5, .val (.int ((i0 &&& (2147483647 : Int32)) % (3 : Int32))), .val (.int ((i1 &&& (255 : Int32)).toUInt32.toUInt16.toUInt32.toInt32)), .val (.int ((((i1.toUInt32 >>> ((8 : Int32) &&& 31).toUInt32).toInt32) &&& (255 : Int32)).toUInt32.toUInt16.toUInt32.toInt32)), s9, s10, s11, s12, s13, s14, s15, s16, s17, s18, s19, s20] [(.int (2147483647 : Int32)), (.int i2)])) _
  refine XS.iand X0.here hx rfl (hb hby at_52) rfl ?_
  show Steps p.tables e below (T0.setTop (mkF m 53 #[.val (.int i0), .val (.int i1), .val (.int i2), .val (.int i3), .val (.int i4), s5, .val (.int ((i0 &&& (2147483647 : Int32)) % (3 : Int32))), .val (.int ((i1 &&& (255 : Int32)).toUInt32.toUInt16.toUInt32.toInt32)), .val (.int ((((i1.toUInt32 >>> ((8 : Int32) &&& 31).toUInt32).toInt32) &&& (255 : Int32)).toUInt32.toUInt16.toUInt32.toInt32)), s9, s10, s11, s12, s13, s14, s15, s16, s17, s18, s19, s20] [(.int (i2 &&& (2147483647 : Int32)))])) _
  refine XS.iconst X0.here hx rfl (hb hby at_53) ?_
  show Steps p.tables e below (T0.setTop (mkF m 54 #[.val (.int i0), .val (.int i1), .val (.int i2), .val (.int i3), .val (.int i4), s5, .val (.int ((i0 &&& (2147483647 : Int32)) % (3 : Int32))), .val (.int ((i1 &&& (255 : Int32)).toUInt32.toUInt16.toUInt32.toInt32)), .val (.int ((((i1.toUInt32 >>> ((8 : Int32) &&& 31).toUInt32).toInt32) &&& (255 : Int32)).toUInt32.toUInt16.toUInt32.toInt32)), s9, s10, s11, s12, s13, s14, s15, s16, s17, s18, s19, s20] [(.int (3 : Int32)), (.int (i2 &&& (2147483647 : Int32)))])) _
  refine iremM X0 hx rfl (hb hby at_54) rfl (by decide) ?_
  show Steps p.tables e below (T0.setTop (mkF m 55 #[.val (.int i0), .val (.int i1), .val (.int i2), .val (.int i3), .val (.int i4), s5, .val (.int ((i0 &&& (2147483647 : Int32)) % (3 : Int32))), .val (.int ((i1 &&& (255 : Int32)).toUInt32.toUInt16.toUInt32.toInt32)), .val (.int ((((i1.toUInt32 >>> ((8 : Int32) &&& 31).toUInt32).toInt32) &&& (255 : Int32)).toUInt32.toUInt16.toUInt32.toInt32)), s9, s10, s11, s12, s13, s14, s15, s16, s17, s18, s19, s20] [(.int ((i2 &&& (2147483647 : Int32)) % (3 : Int32)))])) _
  refine XS.istore X0.here hx rfl (hb hby at_55) rfl (l' := #[.val (.int i0), .val (.int i1), .val (.int i2), .val (.int i3), .val (.int i4), s5, .val (.int ((i0 &&& (2147483647 : Int32)) % (3 : Int32))), .val (.int ((i1 &&& (255 : Int32)).toUInt32.toUInt16.toUInt32.toInt32)), .val (.int ((((i1.toUInt32 >>> ((8 : Int32) &&& 31).toUInt32).toInt32) &&& (255 : Int32)).toUInt32.toUInt16.toUInt32.toInt32)), .val (.int ((i2 &&& (2147483647 : Int32)) % (3 : Int32))), s10, s11, s12, s13, s14, s15, s16, s17, s18, s19, s20]) (os0_55 hs9) ?_
  show Steps p.tables e below (T0.setTop (mkF m 57 #[.val (.int i0), .val (.int i1), .val (.int i2), .val (.int i3), .val (.int i4), s5, .val (.int ((i0 &&& (2147483647 : Int32)) % (3 : Int32))), .val (.int ((i1 &&& (255 : Int32)).toUInt32.toUInt16.toUInt32.toInt32)), .val (.int ((((i1.toUInt32 >>> ((8 : Int32) &&& 31).toUInt32).toInt32) &&& (255 : Int32)).toUInt32.toUInt16.toUInt32.toInt32)), .val (.int ((i2 &&& (2147483647 : Int32)) % (3 : Int32))), s10, s11, s12, s13, s14, s15, s16, s17, s18, s19, s20] [])) _
  refine XS.iloadN X0.here hx rfl (hb hby at_57) rfl ?_
  show Steps p.tables e below (T0.setTop (mkF m 58 #[.val (.int i0), .val (.int i1), .val (.int i2), .val (.int i3), .val (.int i4), s5, .val (.int ((i0 &&& (2147483647 : Int32)) % (3 : Int32))), .val (.int ((i1 &&& (255 : Int32)).toUInt32.toUInt16.toUInt32.toInt32)), .val (.int ((((i1.toUInt32 >>> ((8 : Int32) &&& 31).toUInt32).toInt32) &&& (255 : Int32)).toUInt32.toUInt16.toUInt32.toInt32)), .val (.int ((i2 &&& (2147483647 : Int32)) % (3 : Int32))), s10, s11, s12, s13, s14, s15, s16, s17, s18, s19, s20] [(.int i3)])) _
  refine XS.iconst X0.here hx rfl (hb hby at_58) ?_
  show Steps p.tables e below (T0.setTop (mkF m 59 #[.val (.int i0), .val (.int i1), .val (.int i2), .val (.int i3), .val (.int i4), s5, .val (.int ((i0 &&& (2147483647 : Int32)) % (3 : Int32))), .val (.int ((i1 &&& (255 : Int32)).toUInt32.toUInt16.toUInt32.toInt32)), .val (.int ((((i1.toUInt32 >>> ((8 : Int32) &&& 31).toUInt32).toInt32) &&& (255 : Int32)).toUInt32.toUInt16.toUInt32.toInt32)), .val (.int ((i2 &&& (2147483647 : Int32)) % (3 : Int32))), s10, s11, s12, s13, s14, s15, s16, s17, s18, s19, s20] [(.int (2 : Int32)), (.int i3)])) _
  refine XS.iushr X0.here hx rfl (hb hby at_59) rfl ?_
  show Steps p.tables e below (T0.setTop (mkF m 60 #[.val (.int i0), .val (.int i1), .val (.int i2), .val (.int i3), .val (.int i4), s5, .val (.int ((i0 &&& (2147483647 : Int32)) % (3 : Int32))), .val (.int ((i1 &&& (255 : Int32)).toUInt32.toUInt16.toUInt32.toInt32)), .val (.int ((((i1.toUInt32 >>> ((8 : Int32) &&& 31).toUInt32).toInt32) &&& (255 : Int32)).toUInt32.toUInt16.toUInt32.toInt32)), .val (.int ((i2 &&& (2147483647 : Int32)) % (3 : Int32))), s10, s11, s12, s13, s14, s15, s16, s17, s18, s19, s20] [(.int ((i3.toUInt32 >>> ((2 : Int32) &&& 31).toUInt32).toInt32))])) _
  refine XS.sipush X0.here hx rfl (hb hby at_60) ?_
  show Steps p.tables e below (T0.setTop (mkF m 63 #[.val (.int i0), .val (.int i1), .val (.int i2), .val (.int i3), .val (.int i4), s5, .val (.int ((i0 &&& (2147483647 : Int32)) % (3 : Int32))), .val (.int ((i1 &&& (255 : Int32)).toUInt32.toUInt16.toUInt32.toInt32)), .val (.int ((((i1.toUInt32 >>> ((8 : Int32) &&& 31).toUInt32).toInt32) &&& (255 : Int32)).toUInt32.toUInt16.toUInt32.toInt32)), .val (.int ((i2 &&& (2147483647 : Int32)) % (3 : Int32))), s10, s11, s12, s13, s14, s15, s16, s17, s18, s19, s20] [(.int (255 : Int32)), (.int ((i3.toUInt32 >>> ((2 : Int32) &&& 31).toUInt32).toInt32))])) _
  refine XS.iand X0.here hx rfl (hb hby at_63) rfl ?_
  show Steps p.tables e below (T0.setTop (mkF m 64 #[.val (.int i0), .val (.int i1), .val (.int i2), .val (.int i3), .val (.int i4), s5, .val (.int ((i0 &&& (2147483647 : Int32)) % (3 : Int32))), .val (.int ((i1 &&& (255 : Int32)).toUInt32.toUInt16.toUInt32.toInt32)), .val (.int ((((i1.toUInt32 >>> ((8 : Int32) &&& 31).toUInt32).toInt32) &&& (255 : Int32)).toUInt32.toUInt16.toUInt32.toInt32)), .val (.int ((i2 &&& (2147483647 : Int32)) % (3 : Int32))), s10, s11, s12, s13, s14, s15, s16, s17, s18, s19, s20] [(.int (((i3.toUInt32 >>> ((2 : Int32) &&& 31).toUInt32).toInt32) &&& (255 : Int32)))])) _
  refine XS.i2c X0.here hx rfl (hb hby at_64) rfl ?_
  show Steps p.tables e below (T0.setTop (mkF m 65 #[.val (.int i0), .val (.int i1), .val (.int i2), .val (.int i3), .val (.int i4), s5, .val (.int ((i0 &&& (2147483647 : Int32)) % (3 : Int32))), .val (.int ((i1 &&& (255 : Int32)).toUInt32.toUInt16.toUInt32.toInt32)), .val (.int ((((i1.toUInt32 >>> ((8 : Int32) &&& 31).toUInt32).toInt32) &&& (255 : Int32)).toUInt32.toUInt16.toUInt32.toInt32)), .val (.int ((i2 &&& (2147483647 : Int32)) % (3 : Int32))), s10, s11, s12, s13, s14, s15, s16, s17, s18, s19, s20] [(.int ((((i3.toUInt32 >>> ((2 : Int32) &&& 31).toUInt32).toInt32) &&& (255 : Int32)).toUInt32.toUInt16.toUInt32.toInt32))])) _
  refine XS.istore X0.here hx rfl (hb hby at_65) rfl (l' := #[.val (.int i0), .val (.int i1), .val (.int i2), .val (.int i3), .val (.int i4), s5, .val (.int ((i0 &&& (2147483647 : Int32)) % (3 : Int32))), .val (.int ((i1 &&& (255 : Int32)).toUInt32.toUInt16.toUInt32.toInt32)), .val (.int ((((i1.toUInt32 >>> ((8 : Int32) &&& 31).toUInt32).toInt32) &&& (255 : Int32)).toUInt32.toUInt16.toUInt32.toInt32)), .val (.int ((i2 &&& (2147483647 : Int32)) % (3 : Int32))), .val (.int ((((i3.toUInt32 >>> ((2 : Int32) &&& 31).toUInt32).toInt32) &&& (255 : Int32)).toUInt32.toUInt16.toUInt32.toInt32)), s11, s12, s13, s14, s15, s16, s17, s18, s19, s20]) (os0_65 hs10) ?_
  show Steps p.tables e below (T0.setTop (mkF m 67 #[.val (.int i0), .val (.int i1), .val (.int i2), .val (.int i3), .val (.int i4), s5, .val (.int ((i0 &&& (2147483647 : Int32)) % (3 : Int32))), .val (.int ((i1 &&& (255 : Int32)).toUInt32.toUInt16.toUInt32.toInt32)), .val (.int ((((i1.toUInt32 >>> ((8 : Int32) &&& 31).toUInt32).toInt32) &&& (255 : Int32)).toUInt32.toUInt16.toUInt32.toInt32)), .val (.int ((i2 &&& (2147483647 : Int32)) % (3 : Int32))), .val (.int ((((i3.toUInt32 >>> ((2 : Int32) &&& 31).toUInt32).toInt32) &&& (255 : Int32)).toUInt32.toUInt16.toUInt32.toInt32)), s11, s12, s13, s14, s15, s16, s17, s18, s19, s20] [])) _
  refine XS.iloadN X0.here hx rfl (hb hby at_67) rfl ?_
  show Steps p.tables e below (T0.setTop (mkF m 68 #[.val (.int i0), .val (.int i1), .val (.int i2), .val (.int i3), .val (.int i4), s5, .val (.int ((i0 &&& (2147483647 : Int32)) % (3 : Int32))), .val (.int ((i1 &&& (255 : Int32)).toUInt32.toUInt16.toUInt32.toInt32)), .val (.int ((((i1.toUInt32 >>> ((8 : Int32) &&& 31).toUInt32).toInt32) &&& (255 : Int32)).toUInt32.toUInt16.toUInt32.toInt32)), .val (.int ((i2 &&& (2147483647 : Int32)) % (3 : Int32))), .val (.int ((((i3.toUInt32 >>> ((2 : Int32) &&& 31).toUInt32).toInt32) &&& (255 : Int32)).toUInt32.toUInt16.toUInt32.toInt32)), s11, s12, s13, s14, s15, s16, s17, s18, s19, s20] [(.int i3)])) _
  refine XS.bipush X0.here hx rfl (hb hby at_68) ?_
  show Steps p.tables e below (T0.setTop (mkF m 70 #[.val (.int i0), .val (.int i1), .val (.int i2), .val (.int i3), .val (.int i4), s5, .val (.int ((i0 &&& (2147483647 : Int32)) % (3 : Int32))), .val (.int ((i1 &&& (255 : Int32)).toUInt32.toUInt16.toUInt32.toInt32)), .val (.int ((((i1.toUInt32 >>> ((8 : Int32) &&& 31).toUInt32).toInt32) &&& (255 : Int32)).toUInt32.toUInt16.toUInt32.toInt32)), .val (.int ((i2 &&& (2147483647 : Int32)) % (3 : Int32))), .val (.int ((((i3.toUInt32 >>> ((2 : Int32) &&& 31).toUInt32).toInt32) &&& (255 : Int32)).toUInt32.toUInt16.toUInt32.toInt32)), s11, s12, s13, s14, s15, s16, s17, s18, s19, s20] [(.int (10 : Int32)), (.int i3)])) _
  refine XS.iushr X0.here hx rfl (hb hby at_70) rfl ?_
  show Steps p.tables e below (T0.setTop (mkF m 71 #[.val (.int i0), .val (.int i1), .val (.int i2), .val (.int i3), .val (.int i4), s5, .val (.int ((i0 &&& (2147483647 : Int32)) % (3 : Int32))), .val (.int ((i1 &&& (255 : Int32)).toUInt32.toUInt16.toUInt32.toInt32)), .val (.int ((((i1.toUInt32 >>> ((8 : Int32) &&& 31).toUInt32).toInt32) &&& (255 : Int32)).toUInt32.toUInt16.toUInt32.toInt32)), .val (.int ((i2 &&& (2147483647 : Int32)) % (3 : Int32))), .val (.int ((((i3.toUInt32 >>> ((2 : Int32) &&& 31).toUInt32).toInt32) &&& (255 : Int32)).toUInt32.toUInt16.toUInt32.toInt32)), s11, s12, s13, s14, s15, s16, s17, s18, s19, s20] [(.int ((i3.toUInt32 >>> ((10 : Int32) &&& 31).toUInt32).toInt32))])) _
  refine XS.sipush X0.here hx rfl (hb hby at_71) ?_
  show Steps p.tables e below (T0.setTop (mkF m 74 #[.val (.int i0), .val (.int i1), .val (.int i2), .val (.int i3), .val (.int i4), s5, .val (.int ((i0 &&& (2147483647 : Int32)) % (3 : Int32))), .val (.int ((i1 &&& (255 : Int32)).toUInt32.toUInt16.toUInt32.toInt32)), .val (.int ((((i1.toUInt32 >>> ((8 : Int32) &&& 31).toUInt32).toInt32) &&& (255 : Int32)).toUInt32.toUInt16.toUInt32.toInt32)), .val (.int ((i2 &&& (2147483647 : Int32)) % (3 : Int32))), .val (.int ((((i3.toUInt32 >>> ((2 : Int32) &&& 31).toUInt32).toInt32) &&& (255 : Int32)).toUInt32.toUInt16.toUInt32.toInt32)), s11, s12, s13, s14, s15, s16, s17, s18, s19, s20] [(.int (255 : Int32)), (.int ((i3.toUInt32 >>> ((10 : Int32) &&& 31).toUInt32).toInt32))])) _
  refine XS.iand X0.here hx rfl (hb hby at_74) rfl ?_
  show Steps p.tables e below (T0.setTop (mkF m 75 #[.val (.int i0), .val (.int i1), .val (.int i2), .val (.int i3), .val (.int i4), s5, .val (.int ((i0 &&& (2147483647 : Int32)) % (3 : Int32))), .val (.int ((i1 &&& (255 : Int32)).toUInt32.toUInt16.toUInt32.toInt32)), .val (.int ((((i1.toUInt32 >>> ((8 : Int32) &&& 31).toUInt32).toInt32) &&& (255 : Int32)).toUInt32.toUInt16.toUInt32.toInt32)), .val (.int ((i2 &&& (2147483647 : Int32)) % (3 : Int32))), .val (.int ((((i3.toUInt32 >>> ((2 : Int32) &&& 31).toUInt32).toInt32) &&& (255 : Int32)).toUInt32.toUInt16.toUInt32.toInt32)), s11, s12, s13, s14, s15, s16, s17, s18, s19, s20] [(.int (((i3.toUInt32 >>> ((10 : Int32) &&& 31).toUInt32).toInt32) &&& (255 : Int32)))])) _
  refine XS.i2c X0.here hx rfl (hb hby at_75) rfl ?_
  show Steps p.tables e below (T0.setTop (mkF m 76 #[.val (.int i0), .val (.int i1), .val (.int i2), .val (.int i3), .val (.int i4), s5, .val (.int ((i0 &&& (2147483647 : Int32)) % (3 : Int32))), .val (.int ((i1 &&& (255 : Int32)).toUInt32.toUInt16.toUInt32.toInt32)), .val (.int ((((i1.toUInt32 >>> ((8 : Int32) &&& 31).toUInt32).toInt32) &&& (255 : Int32)).toUInt32.toUInt16.toUInt32.toInt32)), .val (.int ((i2 &&& (2147483647 : Int32)) % (3 : Int32))), .val (.int ((((i3.toUInt32 >>> ((2 : Int32) &&& 31).toUInt32).toInt32) &&& (255 : Int32)).toUInt32.toUInt16.toUInt32.toInt32)), s11, s12, s13, s14, s15, s16, s17, s18, s19, s20] [(.int ((((i3.toUInt32 >>> ((10 : Int32) &&& 31).toUInt32).toInt32) &&& (255 : Int32)).toUInt32.toUInt16.toUInt32.toInt32))])) _
  refine XS.istore X0.here hx rfl (hb hby at_76) rfl (l' := #[.val (.int i0), .val (.int i1), .val (.int i2), .val (.int i3), .val (.int i4), s5, .val (.int ((i0 &&& (2147483647 : Int32)) % (3 : Int32))), .val (.int ((i1 &&& (255 : Int32)).toUInt32.toUInt16.toUInt32.toInt32)), .val (.int ((((i1.toUInt32 >>> ((8 : Int32) &&& 31).toUInt32).toInt32) &&& (255 : Int32)).toUInt32.toUInt16.toUInt32.toInt32)), .val (.int ((i2 &&& (2147483647 : Int32)) % (3 : Int32))), .val (.int ((((i3.toUInt32 >>> ((2 : Int32) &&& 31).toUInt32).toInt32) &&& (255 : Int32)).toUInt32.toUInt16.toUInt32.toInt32)), .val (.int ((((i3.toUInt32 >>> ((10 : Int32) &&& 31).toUInt32).toInt32) &&& (255 : Int32)).toUInt32.toUInt16.toUInt32.toInt32)), s12, s13, s14, s15, s16, s17, s18, s19, s20]) (os0_76 hs11) ?_
  exact kt
def own_lenB (i0 : Int32) (i1 : Int32) (i2 : Int32) (i3 : Int32) (i4 : Int32) : Int32 := (if (i4 &&& (1 : Int32)) = (0 : Int32) then ((i2 &&& (2147483647 : Int32)) % (3 : Int32)) else ((i0 &&& (2147483647 : Int32)) % (3 : Int32)))
def own_b0 (i0 : Int32) (i1 : Int32) (i2 : Int32) (i3 : Int32) (i4 : Int32) : Int32 := (if (i4 &&& (1 : Int32)) = (0 : Int32) then ((((i3.toUInt32 >>> ((2 : Int32) &&& 31).toUInt32).toInt32) &&& (255 : Int32)).toUInt32.toUInt16.toUInt32.toInt32) else ((i1 &&& (255 : Int32)).toUInt32.toUInt16.toUInt32.toInt32))
def own_b1 (i0 : Int32) (i1 : Int32) (i2 : Int32) (i3 : Int32) (i4 : Int32) : Int32 := (if (i4 &&& (1 : Int32)) = (0 : Int32) then ((((i3.toUInt32 >>> ((10 : Int32) &&& 31).toUInt32).toInt32) &&& (255 : Int32)).toUInt32.toUInt16.toUInt32.toInt32) else ((((i1.toUInt32 >>> ((8 : Int32) &&& 31).toUInt32).toInt32) &&& (255 : Int32)).toUInt32.toUInt16.toUInt32.toInt32))
theorem pc0 {p : Program} {l : Launch} {e : Env} {R : Room} {s : State} {m : MethodId} {args : Array Value} {below : List Frame} {meth : Method} {c : Code} {T0 : State} {locs : List Loc} {cells slots : Nat} {Z : State} {a0 : Array Value} {h0 : Heap} (i0 : Int32) (i1 : Int32) (i2 : Int32) (i3 : Int32) (i4 : Int32) (s5 : Slot) (s6 : Slot) (s7 : Slot) (s8 : Slot) (s9 : Slot) (s10 : Slot) (s11 : Slot) (s12 : Slot) (s13 : Slot) (s14 : Slot) (s15 : Slot) (s16 : Slot) (s17 : Slot) (s18 : Slot) (s19 : Slot) (s20 : Slot) (X0 : Stand p l e R s m args below meth c T0 locs cells slots) (hx : p.tables.exec = Jvm.exec) (hZ : Z.Warmed39 s.vm) (hw : ∀ d ∈ tables_1, d.before a0 Z = true) (hby : c.code = code) (hml : c.maxLocals = 21) (hown : s.vm.findClass "com/example/niyama/niyama/relational/model/AttributeEqualsPinLaw" = some m.cls) (e0 : T0.heap = h0) (hs6 : One s6) (hs7 : One s7) (hs8 : One s8) (hs9 : One s9) (hs10 : One s10) (hs11 : One s11) :
    ∃ (T' : State), Stand p l e R s m args below meth c T' locs cells slots ∧ T'.heap = h0 ∧
      ∀ target, Steps p.tables e below (T'.setTop (mkF m 78 #[.val (.int i0), .val (.int i1), .val (.int i2), .val (.int i3), .val (.int i4), s5, .val (.int ((i0 &&& (2147483647 : Int32)) % (3 : Int32))), .val (.int ((i1 &&& (255 : Int32)).toUInt32.toUInt16.toUInt32.toInt32)), .val (.int ((((i1.toUInt32 >>> ((8 : Int32) &&& 31).toUInt32).toInt32) &&& (255 : Int32)).toUInt32.toUInt16.toUInt32.toInt32)), .val (.int (own_lenB i0 i1 i2 i3 i4)), .val (.int (own_b0 i0 i1 i2 i3 i4)), .val (.int (own_b1 i0 i1 i2 i3 i4)), s12, s13, s14, s15, s16, s17, s18, s19, s20] [])) target → Steps p.tables e below (T0.setTop (mkF m 0 #[.val (.int i0), .val (.int i1), .val (.int i2), .val (.int i3), .val (.int i4), s5, s6, s7, s8, s9, s10, s11, s12, s13, s14, s15, s16, s17, s18, s19, s20] [])) target := by
  by_cases hc31 : (i4 &&& (1 : Int32)) = (0 : Int32)
  · skip
    rw [show own_lenB i0 i1 i2 i3 i4 = ((i2 &&& (2147483647 : Int32)) % (3 : Int32)) from by unfold own_lenB; rw [if_pos hc31]]
    rw [show own_b0 i0 i1 i2 i3 i4 = ((((i3.toUInt32 >>> ((2 : Int32) &&& 31).toUInt32).toInt32) &&& (255 : Int32)).toUInt32.toUInt16.toUInt32.toInt32) from by unfold own_b0; rw [if_pos hc31]]
    rw [show own_b1 i0 i1 i2 i3 i4 = ((((i3.toUInt32 >>> ((10 : Int32) &&& 31).toUInt32).toInt32) &&& (255 : Int32)).toUInt32.toUInt16.toUInt32.toInt32) from by unfold own_b1; rw [if_pos hc31]]
    exact pc0_t i0 i1 i2 i3 i4 s5 s6 s7 s8 s9 s10 s11 s12 s13 s14 s15 s16 s17 s18 s19 s20 X0 hx hZ hw hby hml hown e0 hs6 hs7 hs8 hs9 hs10 hs11 hc31
  · skip
    rw [show own_lenB i0 i1 i2 i3 i4 = ((i0 &&& (2147483647 : Int32)) % (3 : Int32)) from by unfold own_lenB; rw [if_neg hc31]]
    rw [show own_b0 i0 i1 i2 i3 i4 = ((i1 &&& (255 : Int32)).toUInt32.toUInt16.toUInt32.toInt32) from by unfold own_b0; rw [if_neg hc31]]
    rw [show own_b1 i0 i1 i2 i3 i4 = ((((i1.toUInt32 >>> ((8 : Int32) &&& 31).toUInt32).toInt32) &&& (255 : Int32)).toUInt32.toUInt16.toUInt32.toInt32) from by unfold own_b1; rw [if_neg hc31]]
    exact pc0_f i0 i1 i2 i3 i4 s5 s6 s7 s8 s9 s10 s11 s12 s13 s14 s15 s16 s17 s18 s19 s20 X0 hx hZ hw hby hml hown e0 hs6 hs7 hs8 hs9 hs10 hs11 hc31
theorem os0_115 {s0 : Slot} {s1 : Slot} {s2 : Slot} {z3 : Value} {s4 : Slot} {s5 : Slot} {s6 : Slot} {s7 : Slot} {s8 : Slot} {s9 : Slot} {s10 : Slot} {s11 : Slot} {s12 : Slot} {s13 : Slot} {s14 : Slot} {s15 : Slot} {s16 : Slot} {s17 : Slot} {s18 : Slot} {s19 : Slot} {s20 : Slot} {v : Addr} (h : One s14) : storeLocals #[s0, s1, s2, .val z3, s4, s5, s6, s7, s8, s9, s10, s11, s12, s13, s14, s15, s16, s17, s18, s19, s20] 14 (.ref v) = some #[s0, s1, s2, .val z3, s4, s5, s6, s7, s8, s9, s10, s11, s12, s13, .val (.ref v), s15, s16, s17, s18, s19, s20] := by
  rcases h with rfl | ⟨w, rfl, hw⟩
  · rfl
  · cases w <;> first | rfl | (simp [Value.category] at hw)
set_option maxRecDepth 65536 in
set_option maxHeartbeats 40000000 in
theorem pc100_f {p : Program} {l : Launch} {e : Env} {R : Room} {s : State} {m : MethodId} {args : Array Value} {below : List Frame} {meth : Method} {c : Code} {T0 : State} {locs : List Loc} {cells slots : Nat} {Z : State} {a0 : Array Value} {h0 : Heap} (s0 : Slot) (s1 : Slot) (s2 : Slot) (i3 : Int32) (s4 : Slot) (s5 : Slot) (s6 : Slot) (s7 : Slot) (s8 : Slot) (s9 : Slot) (s10 : Slot) (s11 : Slot) (s12 : Slot) (s13 : Slot) (s14 : Slot) (s15 : Slot) (s16 : Slot) (s17 : Slot) (s18 : Slot) (s19 : Slot) (s20 : Slot) (w_ID : Addr)
    (X0 : Stand p l e R s m args below meth c T0 locs cells slots) (hx : p.tables.exec = Jvm.exec) (hZ : Z.Warmed39 s.vm) (hw : ∀ d ∈ tables_1, d.before a0 Z = true) (hby : c.code = code) (hml : c.maxLocals = 21) (hown : s.vm.findClass "com/example/niyama/niyama/relational/model/AttributeEqualsPinLaw" = some m.cls) (e0 : T0.heap = h0) (S_ID : Sta Z h0 "com/example/niyama/niyama/relational/model/Domain" "ID" "Lcom/example/niyama/niyama/relational/model/Domain;" (.ref w_ID)) (hs14 : One s14) (hc103 : (i3 &&& (1 : Int32)) = (0 : Int32)) :
    ∃ (T' : State), Stand p l e R s m args below meth c T' locs cells slots ∧ T'.heap = h0 ∧
      ∀ target, Steps p.tables e below (T'.setTop (mkF m 117 #[s0, s1, s2, .val (.int i3), s4, s5, s6, s7, s8, s9, s10, s11, s12, s13, .val (.ref w_ID), s15, s16, s17, s18, s19, s20] [])) target → Steps p.tables e below (T0.setTop (mkF m 100 #[s0, s1, s2, .val (.int i3), s4, s5, s6, s7, s8, s9, s10, s11, s12, s13, s14, s15, s16, s17, s18, s19, s20] [])) target := by
  obtain ⟨T7, X7, e7, st7⟩ := getS2 X0 hx hZ hown (host := "") (Or.inl (hw _ (List.mem_of_getElem? (i := 41) rfl))) Via.refl e0 S_ID (g := (mkF m 106 #[s0, s1, s2, .val (.int i3), s4, s5, s6, s7, s8, s9, s10, s11, s12, s13, s14, s15, s16, s17, s18, s19, s20] [])) rfl (hb hby at_106)
  refine ⟨T7, X7, e7, fun target kt => ?_⟩
  show Steps p.tables e below (T0.setTop (mkF m 100 #[s0, s1, s2, .val (.int i3), s4, s5, s6, s7, s8, s9, s10, s11, s12, s13, s14, s15, s16, s17, s18, s19, s20] [])) _
  refine XS.iloadN X0.here hx rfl (hb hby at_100) rfl ?_
  show Steps p.tables e below (T0.setTop (mkF m 101 #[s0, s1, s2, .val (.int i3), s4, s5, s6, s7, s8, s9, s10, s11, s12, s13, s14, s15, s16, s17, s18, s19, s20] [(.int i3)])) _
  refine XS.iconst X0.here hx rfl (hb hby at_101) ?_
  show Steps p.tables e below (T0.setTop (mkF m 102 #[s0, s1, s2, .val (.int i3), s4, s5, s6, s7, s8, s9, s10, s11, s12, s13, s14, s15, s16, s17, s18, s19, s20] [(.int (1 : Int32)), (.int i3)])) _
  refine XS.iand X0.here hx rfl (hb hby at_102) rfl ?_
  show Steps p.tables e below (T0.setTop (mkF m 103 #[s0, s1, s2, .val (.int i3), s4, s5, s6, s7, s8, s9, s10, s11, s12, s13, s14, s15, s16, s17, s18, s19, s20] [(.int (i3 &&& (1 : Int32)))])) _
  refine XS.ifNo X0.here hx rfl (hb hby at_103) rfl ((if0 _ _).trans (teq hc103).2) ?_
  show Steps p.tables e below (T0.setTop (mkF m 106 #[s0, s1, s2, .val (.int i3), s4, s5, s6, s7, s8, s9, s10, s11, s12, s13, s14, s15, s16, s17, s18, s19, s20] [])) _
  refine st7 _ ?_
  show Steps p.tables e below (T7.setTop (mkF m 109 #[s0, s1, s2, .val (.int i3), s4, s5, s6, s7, s8, s9, s10, s11, s12, s13, s14, s15, s16, s17, s18, s19, s20] [(.ref w_ID)])) _
  refine XS.goto X7.here hx rfl (pc0 := 109) (pc' := 115) rfl (hb hby at_109) (by decide) (by decide) ?_
  show Steps p.tables e below (T7.setTop (mkF m 115 #[s0, s1, s2, .val (.int i3), s4, s5, s6, s7, s8, s9, s10, s11, s12, s13, s14, s15, s16, s17, s18, s19, s20] [(.ref w_ID)])) _
  refine XS.astore X7.here hx rfl (hb hby at_115) rfl rfl (l' := #[s0, s1, s2, .val (.int i3), s4, s5, s6, s7, s8, s9, s10, s11, s12, s13, .val (.ref w_ID), s15, s16, s17, s18, s19, s20]) (os0_115 hs14) ?_
  exact kt
set_option maxRecDepth 65536 in
set_option maxHeartbeats 40000000 in
theorem pc100_t {p : Program} {l : Launch} {e : Env} {R : Room} {s : State} {m : MethodId} {args : Array Value} {below : List Frame} {meth : Method} {c : Code} {T0 : State} {locs : List Loc} {cells slots : Nat} {Z : State} {a0 : Array Value} {h0 : Heap} (s0 : Slot) (s1 : Slot) (s2 : Slot) (i3 : Int32) (s4 : Slot) (s5 : Slot) (s6 : Slot) (s7 : Slot) (s8 : Slot) (s9 : Slot) (s10 : Slot) (s11 : Slot) (s12 : Slot) (s13 : Slot) (s14 : Slot) (s15 : Slot) (s16 : Slot) (s17 : Slot) (s18 : Slot) (s19 : Slot) (s20 : Slot) (w_INT : Addr)
    (X0 : Stand p l e R s m args below meth c T0 locs cells slots) (hx : p.tables.exec = Jvm.exec) (hZ : Z.Warmed39 s.vm) (hw : ∀ d ∈ tables_1, d.before a0 Z = true) (hby : c.code = code) (hml : c.maxLocals = 21) (hown : s.vm.findClass "com/example/niyama/niyama/relational/model/AttributeEqualsPinLaw" = some m.cls) (e0 : T0.heap = h0) (S_INT : Sta Z h0 "com/example/niyama/niyama/relational/model/Domain" "INT" "Lcom/example/niyama/niyama/relational/model/Domain;" (.ref w_INT)) (hs14 : One s14) (hc103 : ¬ ((i3 &&& (1 : Int32)) = (0 : Int32))) :
    ∃ (T' : State), Stand p l e R s m args below meth c T' locs cells slots ∧ T'.heap = h0 ∧
      ∀ target, Steps p.tables e below (T'.setTop (mkF m 117 #[s0, s1, s2, .val (.int i3), s4, s5, s6, s7, s8, s9, s10, s11, s12, s13, .val (.ref w_INT), s15, s16, s17, s18, s19, s20] [])) target → Steps p.tables e below (T0.setTop (mkF m 100 #[s0, s1, s2, .val (.int i3), s4, s5, s6, s7, s8, s9, s10, s11, s12, s13, s14, s15, s16, s17, s18, s19, s20] [])) target := by
  obtain ⟨T7, X7, e7, st7⟩ := getS2 X0 hx hZ hown (host := "") (Or.inl (hw _ (List.mem_of_getElem? (i := 38) rfl))) Via.refl e0 S_INT (g := (mkF m 112 #[s0, s1, s2, .val (.int i3), s4, s5, s6, s7, s8, s9, s10, s11, s12, s13, s14, s15, s16, s17, s18, s19, s20] [])) rfl (hb hby at_112)
  refine ⟨T7, X7, e7, fun target kt => ?_⟩
  show Steps p.tables e below (T0.setTop (mkF m 100 #[s0, s1, s2, .val (.int i3), s4, s5, s6, s7, s8, s9, s10, s11, s12, s13, s14, s15, s16, s17, s18, s19, s20] [])) _
  refine XS.iloadN X0.here hx rfl (hb hby at_100) rfl ?_
  show Steps p.tables e below (T0.setTop (mkF m 101 #[s0, s1, s2, .val (.int i3), s4, s5, s6, s7, s8, s9, s10, s11, s12, s13, s14, s15, s16, s17, s18, s19, s20] [(.int i3)])) _
  refine XS.iconst X0.here hx rfl (hb hby at_101) ?_
  show Steps p.tables e below (T0.setTop (mkF m 102 #[s0, s1, s2, .val (.int i3), s4, s5, s6, s7, s8, s9, s10, s11, s12, s13, s14, s15, s16, s17, s18, s19, s20] [(.int (1 : Int32)), (.int i3)])) _
  refine XS.iand X0.here hx rfl (hb hby at_102) rfl ?_
  show Steps p.tables e below (T0.setTop (mkF m 103 #[s0, s1, s2, .val (.int i3), s4, s5, s6, s7, s8, s9, s10, s11, s12, s13, s14, s15, s16, s17, s18, s19, s20] [(.int (i3 &&& (1 : Int32)))])) _
  refine XS.ifYes X0.here hx rfl (pc0 := 103) (pc' := 112) rfl (hb hby at_103) rfl ((if0 _ _).trans (feq hc103).2) (by decide) (by decide) ?_
  show Steps p.tables e below (T0.setTop (mkF m 112 #[s0, s1, s2, .val (.int i3), s4, s5, s6, s7, s8, s9, s10, s11, s12, s13, s14, s15, s16, s17, s18, s19, s20] [])) _
  refine st7 _ ?_
  show Steps p.tables e below (T7.setTop (mkF m 115 #[s0, s1, s2, .val (.int i3), s4, s5, s6, s7, s8, s9, s10, s11, s12, s13, s14, s15, s16, s17, s18, s19, s20] [(.ref w_INT)])) _
  refine XS.astore X7.here hx rfl (hb hby at_115) rfl rfl (l' := #[s0, s1, s2, .val (.int i3), s4, s5, s6, s7, s8, s9, s10, s11, s12, s13, .val (.ref w_INT), s15, s16, s17, s18, s19, s20]) (os0_115 hs14) ?_
  exact kt
def own_dA (i3 : Int32) (w_ID : Addr) (w_INT : Addr) : Addr := (if (i3 &&& (1 : Int32)) = (0 : Int32) then w_ID else w_INT)
theorem pc100 {p : Program} {l : Launch} {e : Env} {R : Room} {s : State} {m : MethodId} {args : Array Value} {below : List Frame} {meth : Method} {c : Code} {T0 : State} {locs : List Loc} {cells slots : Nat} {Z : State} {a0 : Array Value} {h0 : Heap} (s0 : Slot) (s1 : Slot) (s2 : Slot) (i3 : Int32) (s4 : Slot) (s5 : Slot) (s6 : Slot) (s7 : Slot) (s8 : Slot) (s9 : Slot) (s10 : Slot) (s11 : Slot) (s12 : Slot) (s13 : Slot) (s14 : Slot) (s15 : Slot) (s16 : Slot) (s17 : Slot) (s18 : Slot) (s19 : Slot) (s20 : Slot) (w_ID : Addr) (w_INT : Addr) (X0 : Stand p l e R s m args below meth c T0 locs cells slots) (hx : p.tables.exec = Jvm.exec) (hZ : Z.Warmed39 s.vm) (hw : ∀ d ∈ tables_1, d.before a0 Z = true) (hby : c.code = code) (hml : c.maxLocals = 21) (hown : s.vm.findClass "com/example/niyama/niyama/relational/model/AttributeEqualsPinLaw" = some m.cls) (e0 : T0.heap = h0) (S_ID : Sta Z h0 "com/example/niyama/niyama/relational/model/Domain" "ID" "Lcom/example/niyama/niyama/relational/model/Domain;" (.ref w_ID)) (hs14 : One s14) (S_INT : Sta Z h0 "com/example/niyama/niyama/relational/model/Domain" "INT" "Lcom/example/niyama/niyama/relational/model/Domain;" (.ref w_INT)) :
    ∃ (T' : State), Stand p l e R s m args below meth c T' locs cells slots ∧ T'.heap = h0 ∧
      ∀ target, Steps p.tables e below (T'.setTop (mkF m 117 #[s0, s1, s2, .val (.int i3), s4, s5, s6, s7, s8, s9, s10, s11, s12, s13, .val (.ref (own_dA i3 w_ID w_INT)), s15, s16, s17, s18, s19, s20] [])) target → Steps p.tables e below (T0.setTop (mkF m 100 #[s0, s1, s2, .val (.int i3), s4, s5, s6, s7, s8, s9, s10, s11, s12, s13, s14, s15, s16, s17, s18, s19, s20] [])) target := by
  by_cases hc103 : (i3 &&& (1 : Int32)) = (0 : Int32)
  · skip
    rw [show own_dA i3 w_ID w_INT = w_ID from by unfold own_dA; rw [if_pos hc103]]
    exact pc100_f s0 s1 s2 i3 s4 s5 s6 s7 s8 s9 s10 s11 s12 s13 s14 s15 s16 s17 s18 s19 s20 w_ID X0 hx hZ hw hby hml hown e0 S_ID hs14 hc103
  · skip
    rw [show own_dA i3 w_ID w_INT = w_INT from by unfold own_dA; rw [if_neg hc103]]
    exact pc100_t s0 s1 s2 i3 s4 s5 s6 s7 s8 s9 s10 s11 s12 s13 s14 s15 s16 s17 s18 s19 s20 w_INT X0 hx hZ hw hby hml hown e0 S_INT hs14 hc103
theorem os0_134 {s0 : Slot} {s1 : Slot} {s2 : Slot} {z3 : Value} {s4 : Slot} {s5 : Slot} {s6 : Slot} {s7 : Slot} {s8 : Slot} {s9 : Slot} {s10 : Slot} {s11 : Slot} {s12 : Slot} {s13 : Slot} {s14 : Slot} {s15 : Slot} {s16 : Slot} {s17 : Slot} {s18 : Slot} {s19 : Slot} {s20 : Slot} {v : Addr} (h : One s15) : storeLocals #[s0, s1, s2, .val z3, s4, s5, s6, s7, s8, s9, s10, s11, s12, s13, s14, s15, s16, s17, s18, s19, s20] 15 (.ref v) = some #[s0, s1, s2, .val z3, s4, s5, s6, s7, s8, s9, s10, s11, s12, s13, s14, .val (.ref v), s16, s17, s18, s19, s20] := by
  rcases h with rfl | ⟨w, rfl, hw⟩
  · rfl
  · cases w <;> first | rfl | (simp [Value.category] at hw)
set_option maxRecDepth 65536 in
set_option maxHeartbeats 40000000 in
theorem pc117_f {p : Program} {l : Launch} {e : Env} {R : Room} {s : State} {m : MethodId} {args : Array Value} {below : List Frame} {meth : Method} {c : Code} {T0 : State} {locs : List Loc} {cells slots : Nat} {Z : State} {a0 : Array Value} {h0 : Heap} (s0 : Slot) (s1 : Slot) (s2 : Slot) (i3 : Int32) (s4 : Slot) (s5 : Slot) (s6 : Slot) (s7 : Slot) (s8 : Slot) (s9 : Slot) (s10 : Slot) (s11 : Slot) (s12 : Slot) (s13 : Slot) (s14 : Slot) (s15 : Slot) (s16 : Slot) (s17 : Slot) (s18 : Slot) (s19 : Slot) (s20 : Slot) (w_ID : Addr)
    (X0 : Stand p l e R s m args below meth c T0 locs cells slots) (hx : p.tables.exec = Jvm.exec) (hZ : Z.Warmed39 s.vm) (hw : ∀ d ∈ tables_1, d.before a0 Z = true) (hby : c.code = code) (hml : c.maxLocals = 21) (hown : s.vm.findClass "com/example/niyama/niyama/relational/model/AttributeEqualsPinLaw" = some m.cls) (e0 : T0.heap = h0) (S_ID : Sta Z h0 "com/example/niyama/niyama/relational/model/Domain" "ID" "Lcom/example/niyama/niyama/relational/model/Domain;" (.ref w_ID)) (hs15 : One s15) (hc122 : (((i3.toUInt32 >>> ((1 : Int32) &&& 31).toUInt32).toInt32) &&& (1 : Int32)) = (0 : Int32)) :
    ∃ (T' : State), Stand p l e R s m args below meth c T' locs cells slots ∧ T'.heap = h0 ∧
      ∀ target, Steps p.tables e below (T'.setTop (mkF m 136 #[s0, s1, s2, .val (.int i3), s4, s5, s6, s7, s8, s9, s10, s11, s12, s13, s14, .val (.ref w_ID), s16, s17, s18, s19, s20] [])) target → Steps p.tables e below (T0.setTop (mkF m 117 #[s0, s1, s2, .val (.int i3), s4, s5, s6, s7, s8, s9, s10, s11, s12, s13, s14, s15, s16, s17, s18, s19, s20] [])) target := by
  obtain ⟨T7, X7, e7, st7⟩ := getS2 X0 hx hZ hown (host := "") (Or.inl (hw _ (List.mem_of_getElem? (i := 41) rfl))) Via.refl e0 S_ID (g := (mkF m 125 #[s0, s1, s2, .val (.int i3), s4, s5, s6, s7, s8, s9, s10, s11, s12, s13, s14, s15, s16, s17, s18, s19, s20] [])) rfl (hb hby at_125)
  refine ⟨T7, X7, e7, fun target kt => ?_⟩
  show Steps p.tables e below (T0.setTop (mkF m 117 #[s0, s1, s2, .val (.int i3), s4, s5, s6, s7, s8, s9, s10, s11, s12, s13, s14, s15, s16, s17, s18, s19, s20] [])) _
  refine XS.iloadN X0.here hx rfl (hb hby at_117) rfl ?_
  show Steps p.tables e below (T0.setTop (mkF m 118 #[s0, s1, s2, .val (.int i3), s4, s5, s6, s7, s8, s9, s10, s11, s12, s13, s14, s15, s16, s17, s18, s19, s20] [(.int i3)])) _
  refine XS.iconst X0.here hx rfl (hb hby at_118) ?_
  show Steps p.tables e below (T0.setTop (mkF m 119 #[s0, s1, s2, .val (.int i3), s4, s5, s6, s7, s8, s9, s10, s11, s12, s13, s14, s15, s16, s17, s18, s19, s20] [(.int (1 : Int32)), (.int i3)])) _
  refine XS.iushr X0.here hx rfl (hb hby at_119) rfl ?_
  show Steps p.tables e below (T0.setTop (mkF m 120 #[s0, s1, s2, .val (.int i3), s4, s5, s6, s7, s8, s9, s10, s11, s12, s13, s14, s15, s16, s17, s18, s19, s20] [(.int ((i3.toUInt32 >>> ((1 : Int32) &&& 31).toUInt32).toInt32))])) _
  refine XS.iconst X0.here hx rfl (hb hby at_120) ?_
  show Steps p.tables e below (T0.setTop (mkF m 121 #[s0, s1, s2, .val (.int i3), s4, s5, s6, s7, s8, s9, s10, s11, s12, s13, s14, s15, s16, s17, s18, s19, s20] [(.int (1 : Int32)), (.int ((i3.toUInt32 >>> ((1 : Int32) &&& 31).toUInt32).toInt32))])) _
  refine XS.iand X0.here hx rfl (hb hby at_121) rfl ?_
  show Steps p.tables e below (T0.setTop (mkF m 122 #[s0, s1, s2, .val (.int i3), s4, s5, s6, s7, s8, s9, s10, s11, s12, s13, s14, s15, s16, s17, s18, s19, s20] [(.int (((i3.toUInt32 >>> ((1 : Int32) &&& 31).toUInt32).toInt32) &&& (1 : Int32)))])) _
  refine XS.ifNo X0.here hx rfl (hb hby at_122) rfl ((if0 _ _).trans (teq hc122).2) ?_
  show Steps p.tables e below (T0.setTop (mkF m 125 #[s0, s1, s2, .val (.int i3), s4, s5, s6, s7, s8, s9, s10, s11, s12, s13, s14, s15, s16, s17, s18, s19, s20] [])) _
  refine st7 _ ?_
  show Steps p.tables e below (T7.setTop (mkF m 128 #[s0, s1, s2, .val (.int i3), s4, s5, s6, s7, s8, s9, s10, s11, s12, s13, s14, s15, s16, s17, s18, s19, s20] [(.ref w_ID)])) _
  refine XS.goto X7.here hx rfl (pc0 := 128) (pc' := 134) rfl (hb hby at_128) (by decide) (by decide) ?_
  show Steps p.tables e below (T7.setTop (mkF m 134 #[s0, s1, s2, .val (.int i3), s4, s5, s6, s7, s8, s9, s10, s11, s12, s13, s14, s15, s16, s17, s18, s19, s20] [(.ref w_ID)])) _
  refine XS.astore X7.here hx rfl (hb hby at_134) rfl rfl (l' := #[s0, s1, s2, .val (.int i3), s4, s5, s6, s7, s8, s9, s10, s11, s12, s13, s14, .val (.ref w_ID), s16, s17, s18, s19, s20]) (os0_134 hs15) ?_
  exact kt
set_option maxRecDepth 65536 in
set_option maxHeartbeats 40000000 in
theorem pc117_t {p : Program} {l : Launch} {e : Env} {R : Room} {s : State} {m : MethodId} {args : Array Value} {below : List Frame} {meth : Method} {c : Code} {T0 : State} {locs : List Loc} {cells slots : Nat} {Z : State} {a0 : Array Value} {h0 : Heap} (s0 : Slot) (s1 : Slot) (s2 : Slot) (i3 : Int32) (s4 : Slot) (s5 : Slot) (s6 : Slot) (s7 : Slot) (s8 : Slot) (s9 : Slot) (s10 : Slot) (s11 : Slot) (s12 : Slot) (s13 : Slot) (s14 : Slot) (s15 : Slot) (s16 : Slot) (s17 : Slot) (s18 : Slot) (s19 : Slot) (s20 : Slot) (w_INT : Addr)
    (X0 : Stand p l e R s m args below meth c T0 locs cells slots) (hx : p.tables.exec = Jvm.exec) (hZ : Z.Warmed39 s.vm) (hw : ∀ d ∈ tables_1, d.before a0 Z = true) (hby : c.code = code) (hml : c.maxLocals = 21) (hown : s.vm.findClass "com/example/niyama/niyama/relational/model/AttributeEqualsPinLaw" = some m.cls) (e0 : T0.heap = h0) (S_INT : Sta Z h0 "com/example/niyama/niyama/relational/model/Domain" "INT" "Lcom/example/niyama/niyama/relational/model/Domain;" (.ref w_INT)) (hs15 : One s15) (hc122 : ¬ ((((i3.toUInt32 >>> ((1 : Int32) &&& 31).toUInt32).toInt32) &&& (1 : Int32)) = (0 : Int32))) :
    ∃ (T' : State), Stand p l e R s m args below meth c T' locs cells slots ∧ T'.heap = h0 ∧
      ∀ target, Steps p.tables e below (T'.setTop (mkF m 136 #[s0, s1, s2, .val (.int i3), s4, s5, s6, s7, s8, s9, s10, s11, s12, s13, s14, .val (.ref w_INT), s16, s17, s18, s19, s20] [])) target → Steps p.tables e below (T0.setTop (mkF m 117 #[s0, s1, s2, .val (.int i3), s4, s5, s6, s7, s8, s9, s10, s11, s12, s13, s14, s15, s16, s17, s18, s19, s20] [])) target := by
  obtain ⟨T7, X7, e7, st7⟩ := getS2 X0 hx hZ hown (host := "") (Or.inl (hw _ (List.mem_of_getElem? (i := 38) rfl))) Via.refl e0 S_INT (g := (mkF m 131 #[s0, s1, s2, .val (.int i3), s4, s5, s6, s7, s8, s9, s10, s11, s12, s13, s14, s15, s16, s17, s18, s19, s20] [])) rfl (hb hby at_131)
  refine ⟨T7, X7, e7, fun target kt => ?_⟩
  show Steps p.tables e below (T0.setTop (mkF m 117 #[s0, s1, s2, .val (.int i3), s4, s5, s6, s7, s8, s9, s10, s11, s12, s13, s14, s15, s16, s17, s18, s19, s20] [])) _
  refine XS.iloadN X0.here hx rfl (hb hby at_117) rfl ?_
  show Steps p.tables e below (T0.setTop (mkF m 118 #[s0, s1, s2, .val (.int i3), s4, s5, s6, s7, s8, s9, s10, s11, s12, s13, s14, s15, s16, s17, s18, s19, s20] [(.int i3)])) _
  refine XS.iconst X0.here hx rfl (hb hby at_118) ?_
  show Steps p.tables e below (T0.setTop (mkF m 119 #[s0, s1, s2, .val (.int i3), s4, s5, s6, s7, s8, s9, s10, s11, s12, s13, s14, s15, s16, s17, s18, s19, s20] [(.int (1 : Int32)), (.int i3)])) _
  refine XS.iushr X0.here hx rfl (hb hby at_119) rfl ?_
  show Steps p.tables e below (T0.setTop (mkF m 120 #[s0, s1, s2, .val (.int i3), s4, s5, s6, s7, s8, s9, s10, s11, s12, s13, s14, s15, s16, s17, s18, s19, s20] [(.int ((i3.toUInt32 >>> ((1 : Int32) &&& 31).toUInt32).toInt32))])) _
  refine XS.iconst X0.here hx rfl (hb hby at_120) ?_
  show Steps p.tables e below (T0.setTop (mkF m 121 #[s0, s1, s2, .val (.int i3), s4, s5, s6, s7, s8, s9, s10, s11, s12, s13, s14, s15, s16, s17, s18, s19, s20] [(.int (1 : Int32)), (.int ((i3.toUInt32 >>> ((1 : Int32) &&& 31).toUInt32).toInt32))])) _
  refine XS.iand X0.here hx rfl (hb hby at_121) rfl ?_
  show Steps p.tables e below (T0.setTop (mkF m 122 #[s0, s1, s2, .val (.int i3), s4, s5, s6, s7, s8, s9, s10, s11, s12, s13, s14, s15, s16, s17, s18, s19, s20] [(.int (((i3.toUInt32 >>> ((1 : Int32) &&& 31).toUInt32).toInt32) &&& (1 : Int32)))])) _
  refine XS.ifYes X0.here hx rfl (pc0 := 122) (pc' := 131) rfl (hb hby at_122) rfl ((if0 _ _).trans (feq hc122).2) (by decide) (by decide) ?_
  show Steps p.tables e below (T0.setTop (mkF m 131 #[s0, s1, s2, .val (.int i3), s4, s5, s6, s7, s8, s9, s10, s11, s12, s13, s14, s15, s16, s17, s18, s19, s20] [])) _
  refine st7 _ ?_
  show Steps p.tables e below (T7.setTop (mkF m 134 #[s0, s1, s2, .val (.int i3), s4, s5, s6, s7, s8, s9, s10, s11, s12, s13, s14, s15, s16, s17, s18, s19, s20] [(.ref w_INT)])) _
  refine XS.astore X7.here hx rfl (hb hby at_134) rfl rfl (l' := #[s0, s1, s2, .val (.int i3), s4, s5, s6, s7, s8, s9, s10, s11, s12, s13, s14, .val (.ref w_INT), s16, s17, s18, s19, s20]) (os0_134 hs15) ?_
  exact kt
def own_dB (i3 : Int32) (w_ID : Addr) (w_INT : Addr) : Addr := (if (((i3.toUInt32 >>> ((1 : Int32) &&& 31).toUInt32).toInt32) &&& (1 : Int32)) = (0 : Int32) then w_ID else w_INT)
theorem pc117 {p : Program} {l : Launch} {e : Env} {R : Room} {s : State} {m : MethodId} {args : Array Value} {below : List Frame} {meth : Method} {c : Code} {T0 : State} {locs : List Loc} {cells slots : Nat} {Z : State} {a0 : Array Value} {h0 : Heap} (s0 : Slot) (s1 : Slot) (s2 : Slot) (i3 : Int32) (s4 : Slot) (s5 : Slot) (s6 : Slot) (s7 : Slot) (s8 : Slot) (s9 : Slot) (s10 : Slot) (s11 : Slot) (s12 : Slot) (s13 : Slot) (s14 : Slot) (s15 : Slot) (s16 : Slot) (s17 : Slot) (s18 : Slot) (s19 : Slot) (s20 : Slot) (w_ID : Addr) (w_INT : Addr) (X0 : Stand p l e R s m args below meth c T0 locs cells slots) (hx : p.tables.exec = Jvm.exec) (hZ : Z.Warmed39 s.vm) (hw : ∀ d ∈ tables_1, d.before a0 Z = true) (hby : c.code = code) (hml : c.maxLocals = 21) (hown : s.vm.findClass "com/example/niyama/niyama/relational/model/AttributeEqualsPinLaw" = some m.cls) (e0 : T0.heap = h0) (S_ID : Sta Z h0 "com/example/niyama/niyama/relational/model/Domain" "ID" "Lcom/example/niyama/niyama/relational/model/Domain;" (.ref w_ID)) (hs15 : One s15) (S_INT : Sta Z h0 "com/example/niyama/niyama/relational/model/Domain" "INT" "Lcom/example/niyama/niyama/relational/model/Domain;" (.ref w_INT)) :
    ∃ (T' : State), Stand p l e R s m args below meth c T' locs cells slots ∧ T'.heap = h0 ∧
      ∀ target, Steps p.tables e below (T'.setTop (mkF m 136 #[s0, s1, s2, .val (.int i3), s4, s5, s6, s7, s8, s9, s10, s11, s12, s13, s14, .val (.ref (own_dB i3 w_ID w_INT)), s16, s17, s18, s19, s20] [])) target → Steps p.tables e below (T0.setTop (mkF m 117 #[s0, s1, s2, .val (.int i3), s4, s5, s6, s7, s8, s9, s10, s11, s12, s13, s14, s15, s16, s17, s18, s19, s20] [])) target := by
  by_cases hc122 : (((i3.toUInt32 >>> ((1 : Int32) &&& 31).toUInt32).toInt32) &&& (1 : Int32)) = (0 : Int32)
  · skip
    rw [show own_dB i3 w_ID w_INT = w_ID from by unfold own_dB; rw [if_pos hc122]]
    exact pc117_f s0 s1 s2 i3 s4 s5 s6 s7 s8 s9 s10 s11 s12 s13 s14 s15 s16 s17 s18 s19 s20 w_ID X0 hx hZ hw hby hml hown e0 S_ID hs15 hc122
  · skip
    rw [show own_dB i3 w_ID w_INT = w_INT from by unfold own_dB; rw [if_neg hc122]]
    exact pc117_t s0 s1 s2 i3 s4 s5 s6 s7 s8 s9 s10 s11 s12 s13 s14 s15 s16 s17 s18 s19 s20 w_INT X0 hx hZ hw hby hml hown e0 S_INT hs15 hc122
theorem os0_213 {s0 : Slot} {s1 : Slot} {s2 : Slot} {s3 : Slot} {s4 : Slot} {s5 : Slot} {z6 : Value} {z7 : Value} {z8 : Value} {z9 : Value} {z10 : Value} {z11 : Value} {s12 : Slot} {s13 : Slot} {z14 : Value} {z15 : Value} {s16 : Slot} {s17 : Slot} {s18 : Slot} {s19 : Slot} {s20 : Slot} {v : Int32} (h : One s18) : storeLocals #[s0, s1, s2, s3, s4, s5, .val z6, .val z7, .val z8, .val z9, .val z10, .val z11, s12, s13, .val z14, .val z15, s16, s17, s18, s19, s20] 18 (.int v) = some #[s0, s1, s2, s3, s4, s5, .val z6, .val z7, .val z8, .val z9, .val z10, .val z11, s12, s13, .val z14, .val z15, s16, s17, .val (.int v), s19, s20] := by
  rcases h with rfl | ⟨w, rfl, hw⟩
  · rfl
  · cases w <;> first | rfl | (simp [Value.category] at hw)
theorem os0_232 {s0 : Slot} {s1 : Slot} {s2 : Slot} {s3 : Slot} {s4 : Slot} {s5 : Slot} {z6 : Value} {z7 : Value} {z8 : Value} {z9 : Value} {z10 : Value} {z11 : Value} {s12 : Slot} {s13 : Slot} {z14 : Value} {z15 : Value} {s16 : Slot} {s17 : Slot} {z18 : Value} {s19 : Slot} {s20 : Slot} {v : Int32} (h : One s19) : storeLocals #[s0, s1, s2, s3, s4, s5, .val z6, .val z7, .val z8, .val z9, .val z10, .val z11, s12, s13, .val z14, .val z15, s16, s17, .val z18, s19, s20] 19 (.int v) = some #[s0, s1, s2, s3, s4, s5, .val z6, .val z7, .val z8, .val z9, .val z10, .val z11, s12, s13, .val z14, .val z15, s16, s17, .val z18, .val (.int v), s20] := by
  rcases h with rfl | ⟨w, rfl, hw⟩
  · rfl
  · cases w <;> first | rfl | (simp [Value.category] at hw)
set_option maxRecDepth 65536 in
set_option maxHeartbeats 40000000 in
theorem pc175_fffffff {p : Program} {l : Launch} {e : Env} {R : Room} {s : State} {m : MethodId} {args : Array Value} {below : List Frame} {meth : Method} {c : Code} {T0 : State} {locs : List Loc} {cells slots : Nat} {Z : State} {a0 : Array Value} {h0 : Heap} (s0 : Slot) (s1 : Slot) (s2 : Slot) (s3 : Slot) (s4 : Slot) (s5 : Slot) (i6 : Int32) (i7 : Int32) (i8 : Int32) (i9 : Int32) (i10 : Int32) (i11 : Int32) (s12 : Slot) (s13 : Slot) (o14 : Addr) (o15 : Addr) (s16 : Slot) (s17 : Slot) (s18 : Slot) (s19 : Slot) (s20 : Slot)
    (X0 : Stand p l e R s m args below meth c T0 locs cells slots) (hx : p.tables.exec = Jvm.exec) (hZ : Z.Warmed39 s.vm) (hw : ∀ d ∈ tables_1, d.before a0 Z = true) (hby : c.code = code) (hml : c.maxLocals = 21) (hown : s.vm.findClass "com/example/niyama/niyama/relational/model/AttributeEqualsPinLaw" = some m.cls) (e0 : T0.heap = h0) (hs18 : One s18) (hs19 : One s19) (hc179 : i6 = i9) (hc185 : ¬ (i6 < (1 : Int32))) (hc192 : i7 = i10) (hc198 : ¬ (i6 < (2 : Int32))) (hc205 : i8 = i11) (ha224 : o14 = o15) :
    ∃ (T' : State), Stand p l e R s m args below meth c T' locs cells slots ∧ T'.heap = h0 ∧
      ∀ target, Steps p.tables e below (T'.setTop (mkF m 234 #[s0, s1, s2, s3, s4, s5, .val (.int i6), .val (.int i7), .val (.int i8), .val (.int i9), .val (.int i10), .val (.int i11), s12, s13, .val (.ref o14), .val (.ref o15), s16, s17, .val (.int (1 : Int32)), .val (.int (1 : Int32)), s20] [])) target → Steps p.tables e below (T0.setTop (mkF m 175 #[s0, s1, s2, s3, s4, s5, .val (.int i6), .val (.int i7), .val (.int i8), .val (.int i9), .val (.int i10), .val (.int i11), s12, s13, .val (.ref o14), .val (.ref o15), s16, s17, s18, s19, s20] [])) target := by

  refine ⟨T0, X0, e0, fun target kt => ?_⟩
  show Steps p.tables e below (T0.setTop (mkF m 175 #[s0, s1, s2, s3, s4, s5, .val (.int i6), .val (.int i7), .val (.int i8), .val (.int i9), .val (.int i10), .val (.int i11), s12, s13, .val (.ref o14), .val (.ref o15), s16, s17, s18, s19, s20] [])) _
  refine XS.iload X0.here hx rfl (hb hby at_175) rfl ?_
  show Steps p.tables e below (T0.setTop (mkF m 177 #[s0, s1, s2, s3, s4, s5, .val (.int i6), .val (.int i7), .val (.int i8), .val (.int i9), .val (.int i10), .val (.int i11), s12, s13, .val (.ref o14), .val (.ref o15), s16, s17, s18, s19, s20] [(.int i6)])) _
  refine XS.iload X0.here hx rfl (hb hby at_177) rfl ?_
  show Steps p.tables e below (T0.setTop (mkF m 179 #[s0, s1, s2, s3, s4, s5, .val (.int i6), .val (.int i7), .val (.int i8), .val (.int i9), .val (.int i10), .val (.int i11), s12, s13, .val (.ref o14), .val (.ref o15), s16, s17, s18, s19, s20] [(.int i9), (.int i6)])) _
  refine XS.icmpNo X0.here hx rfl (hb hby at_179) rfl (teq hc179).2 ?_
  show Steps p.tables e below (T0.setTop (mkF m 182 #[s0, s1, s2, s3, s4, s5, .val (.int i6), .val (.int i7), .val (.int i8), .val (.int i9), .val (.int i10), .val (.int i11), s12, s13, .val (.ref o14), .val (.ref o15), s16, s17, s18, s19, s20] [])) _
  refine XS.iload X0.here hx rfl (hb hby at_182) rfl ?_
  show Steps p.tables e below (T0.setTop (mkF m 184 #[s0, s1, s2, s3, s4, s5, .val (.int i6), .val (.int i7), .val (.int i8), .val (.int i9), .val (.int i10), .val (.int i11), s12, s13, .val (.ref o14), .val (.ref o15), s16, s17, s18, s19, s20] [(.int i6)])) _
  refine XS.iconst X0.here hx rfl (hb hby at_184) ?_
  show Steps p.tables e below (T0.setTop (mkF m 185 #[s0, s1, s2, s3, s4, s5, .val (.int i6), .val (.int i7), .val (.int i8), .val (.int i9), .val (.int i10), .val (.int i11), s12, s13, .val (.ref o14), .val (.ref o15), s16, s17, s18, s19, s20] [(.int (1 : Int32)), (.int i6)])) _
  refine XS.icmpNo X0.here hx rfl (hb hby at_185) rfl (flt hc185).1 ?_
  show Steps p.tables e below (T0.setTop (mkF m 188 #[s0, s1, s2, s3, s4, s5, .val (.int i6), .val (.int i7), .val (.int i8), .val (.int i9), .val (.int i10), .val (.int i11), s12, s13, .val (.ref o14), .val (.ref o15), s16, s17, s18, s19, s20] [])) _
  refine XS.iload X0.here hx rfl (hb hby at_188) rfl ?_
  show Steps p.tables e below (T0.setTop (mkF m 190 #[s0, s1, s2, s3, s4, s5, .val (.int i6), .val (.int i7), .val (.int i8), .val (.int i9), .val (.int i10), .val (.int i11), s12, s13, .val (.ref o14), .val (.ref o15), s16, s17, s18, s19, s20] [(.int i7)])) _
  refine XS.iload X0.here hx rfl (hb hby at_190) rfl ?_
  show Steps p.tables e below (T0.setTop (mkF m 192 #[s0, s1, s2, s3, s4, s5, .val (.int i6), .val (.int i7), .val (.int i8), .val (.int i9), .val (.int i10), .val (.int i11), s12, s13, .val (.ref o14), .val (.ref o15), s16, s17, s18, s19, s20] [(.int i10), (.int i7)])) _
  refine XS.icmpNo X0.here hx rfl (hb hby at_192) rfl (teq hc192).2 ?_
  show Steps p.tables e below (T0.setTop (mkF m 195 #[s0, s1, s2, s3, s4, s5, .val (.int i6), .val (.int i7), .val (.int i8), .val (.int i9), .val (.int i10), .val (.int i11), s12, s13, .val (.ref o14), .val (.ref o15), s16, s17, s18, s19, s20] [])) _
  refine XS.iload X0.here hx rfl (hb hby at_195) rfl ?_
  show Steps p.tables e below (T0.setTop (mkF m 197 #[s0, s1, s2, s3, s4, s5, .val (.int i6), .val (.int i7), .val (.int i8), .val (.int i9), .val (.int i10), .val (.int i11), s12, s13, .val (.ref o14), .val (.ref o15), s16, s17, s18, s19, s20] [(.int i6)])) _
  refine XS.iconst X0.here hx rfl (hb hby at_197) ?_
  show Steps p.tables e below (T0.setTop (mkF m 198 #[s0, s1, s2, s3, s4, s5, .val (.int i6), .val (.int i7), .val (.int i8), .val (.int i9), .val (.int i10), .val (.int i11), s12, s13, .val (.ref o14), .val (.ref o15), s16, s17, s18, s19, s20] [(.int (2 : Int32)), (.int i6)])) _
  refine XS.icmpNo X0.here hx rfl (hb hby at_198) rfl (flt hc198).1 ?_
  show Steps p.tables e below (T0.setTop (mkF m 201 #[s0, s1, s2, s3, s4, s5, .val (.int i6), .val (.int i7), .val (.int i8), .val (.int i9), .val (.int i10), .val (.int i11), s12, s13, .val (.ref o14), .val (.ref o15), s16, s17, s18, s19, s20] [])) _
  refine XS.iload X0.here hx rfl (hb hby at_201) rfl ?_
  show Steps p.tables e below (T0.setTop (mkF m 203 #[s0, s1, s2, s3, s4, s5, .val (.int i6), .val (.int i7), .val (.int i8), .val (.int i9), .val (.int i10), .val (.int i11), s12, s13, .val (.ref o14), .val (.ref o15), s16, s17, s18, s19, s20] [(.int i8)])) _
  refine XS.iload X0.here hx rfl (hb hby at_203) rfl ?_
  show Steps p.tables e below (T0.setTop (mkF m 205 #[s0, s1, s2, s3, s4, s5, .val (.int i6), .val (.int i7), .val (.int i8), .val (.int i9), .val (.int i10), .val (.int i11), s12, s13, .val (.ref o14), .val (.ref o15), s16, s17, s18, s19, s20] [(.int i11), (.int i8)])) _
  refine XS.icmpNo X0.here hx rfl (hb hby at_205) rfl (teq hc205).2 ?_
  show Steps p.tables e below (T0.setTop (mkF m 208 #[s0, s1, s2, s3, s4, s5, .val (.int i6), .val (.int i7), .val (.int i8), .val (.int i9), .val (.int i10), .val (.int i11), s12, s13, .val (.ref o14), .val (.ref o15), s16, s17, s18, s19, s20] [])) _
  refine XS.iconst X0.here hx rfl (hb hby at_208) ?_
  show Steps p.tables e below (T0.setTop (mkF m 209 #[s0, s1, s2, s3, s4, s5, .val (.int i6), .val (.int i7), .val (.int i8), .val (.int i9), .val (.int i10), .val (.int i11), s12, s13, .val (.ref o14), .val (.ref o15), s16, s17, s18, s19, s20] [(.int (1 : Int32))])) _
  refine XS.goto X0.here hx rfl (pc0 := 209) (pc' := 213) rfl (hb hby at_209) (by decide) (by decide) ?_
  show Steps p.tables e below (T0.setTop (mkF m 213 #[s0, s1, s2, s3, s4, s5, .val (.int i6), .val (.int i7), .val (.int i8), .val (.int i9), .val (.int i10), .val (.int i11), s12, s13, .val (.ref o14), .val (.ref o15), s16, s17, s18, s19, s20] [(.int (1 : Int32))])) _
  refine XS.istore X0.here hx rfl (hb hby at_213) rfl (l' := #[s0, s1, s2, s3, s4, s5, .val (.int i6), .val (.int i7), .val (.int i8), .val (.int i9), .val (.int i10), .val (.int i11), s12, s13, .val (.ref o14), .val (.ref o15), s16, s17, .val (.int (1 : Int32)), s19, s20]) (os0_213 hs18) ?_
  show Steps p.tables e below (T0.setTop (mkF m 215 #[s0, s1, s2, s3, s4, s5, .val (.int i6), .val (.int i7), .val (.int i8), .val (.int i9), .val (.int i10), .val (.int i11), s12, s13, .val (.ref o14), .val (.ref o15), s16, s17, .val (.int (1 : Int32)), s19, s20] [])) _
  refine XS.iload X0.here hx rfl (hb hby at_215) rfl ?_
  show Steps p.tables e below (T0.setTop (mkF m 217 #[s0, s1, s2, s3, s4, s5, .val (.int i6), .val (.int i7), .val (.int i8), .val (.int i9), .val (.int i10), .val (.int i11), s12, s13, .val (.ref o14), .val (.ref o15), s16, s17, .val (.int (1 : Int32)), s19, s20] [(.int (1 : Int32))])) _
  refine XS.ifNo X0.here hx rfl (hb hby at_217) rfl ((if0 _ _).trans (feq (by decide : ¬ ((1 : Int32) = (0 : Int32)))).1) ?_
  show Steps p.tables e below (T0.setTop (mkF m 220 #[s0, s1, s2, s3, s4, s5, .val (.int i6), .val (.int i7), .val (.int i8), .val (.int i9), .val (.int i10), .val (.int i11), s12, s13, .val (.ref o14), .val (.ref o15), s16, s17, .val (.int (1 : Int32)), s19, s20] [])) _
  refine XS.aload X0.here hx rfl (hb hby at_220) rfl rfl ?_
  show Steps p.tables e below (T0.setTop (mkF m 222 #[s0, s1, s2, s3, s4, s5, .val (.int i6), .val (.int i7), .val (.int i8), .val (.int i9), .val (.int i10), .val (.int i11), s12, s13, .val (.ref o14), .val (.ref o15), s16, s17, .val (.int (1 : Int32)), s19, s20] [(.ref o14)])) _
  refine XS.aload X0.here hx rfl (hb hby at_222) rfl rfl ?_
  show Steps p.tables e below (T0.setTop (mkF m 224 #[s0, s1, s2, s3, s4, s5, .val (.int i6), .val (.int i7), .val (.int i8), .val (.int i9), .val (.int i10), .val (.int i11), s12, s13, .val (.ref o14), .val (.ref o15), s16, s17, .val (.int (1 : Int32)), s19, s20] [(.ref o15), (.ref o14)])) _
  refine Jvm.RoadKit.acmp (g := (mkF m 224 #[s0, s1, s2, s3, s4, s5, .val (.int i6), .val (.int i7), .val (.int i8), .val (.int i9), .val (.int i10), .val (.int i11), s12, s13, .val (.ref o14), .val (.ref o15), s16, s17, .val (.int (1 : Int32)), s19, s20] [(.ref o15), (.ref o14)])) X0 hx rfl rfl rfl (pc0 := 224) (pc' := 227) (same := true) rfl (hb hby at_224) rfl (decide_eq_true (congrArg Value.ref ha224)) (by decide) (by decide) ?_
  show Steps p.tables e below (T0.setTop (mkF m 227 #[s0, s1, s2, s3, s4, s5, .val (.int i6), .val (.int i7), .val (.int i8), .val (.int i9), .val (.int i10), .val (.int i11), s12, s13, .val (.ref o14), .val (.ref o15), s16, s17, .val (.int (1 : Int32)), s19, s20] [])) _
  refine XS.iconst X0.here hx rfl (hb hby at_227) ?_
  show Steps p.tables e below (T0.setTop (mkF m 228 #[s0, s1, s2, s3, s4, s5, .val (.int i6), .val (.int i7), .val (.int i8), .val (.int i9), .val (.int i10), .val (.int i11), s12, s13, .val (.ref o14), .val (.ref o15), s16, s17, .val (.int (1 : Int32)), s19, s20] [(.int (1 : Int32))])) _
  refine XS.goto X0.here hx rfl (pc0 := 228) (pc' := 232) rfl (hb hby at_228) (by decide) (by decide) ?_
  show Steps p.tables e below (T0.setTop (mkF m 232 #[s0, s1, s2, s3, s4, s5, .val (.int i6), .val (.int i7), .val (.int i8), .val (.int i9), .val (.int i10), .val (.int i11), s12, s13, .val (.ref o14), .val (.ref o15), s16, s17, .val (.int (1 : Int32)), s19, s20] [(.int (1 : Int32))])) _
  refine XS.istore X0.here hx rfl (hb hby at_232) rfl (l' := #[s0, s1, s2, s3, s4, s5, .val (.int i6), .val (.int i7), .val (.int i8), .val (.int i9), .val (.int i10), .val (.int i11), s12, s13, .val (.ref o14), .val (.ref o15), s16, s17, .val (.int (1 : Int32)), .val (.int (1 : Int32)), s20]) (os0_232 hs19) ?_
  exact kt
set_option maxRecDepth 65536 in
set_option maxHeartbeats 40000000 in
theorem pc175_fffffft {p : Program} {l : Launch} {e : Env} {R : Room} {s : State} {m : MethodId} {args : Array Value} {below : List Frame} {meth : Method} {c : Code} {T0 : State} {locs : List Loc} {cells slots : Nat} {Z : State} {a0 : Array Value} {h0 : Heap} (s0 : Slot) (s1 : Slot) (s2 : Slot) (s3 : Slot) (s4 : Slot) (s5 : Slot) (i6 : Int32) (i7 : Int32) (i8 : Int32) (i9 : Int32) (i10 : Int32) (i11 : Int32) (s12 : Slot) (s13 : Slot) (o14 : Addr) (o15 : Addr) (s16 : Slot) (s17 : Slot) (s18 : Slot) (s19 : Slot) (s20 : Slot)
    (X0 : Stand p l e R s m args below meth c T0 locs cells slots) (hx : p.tables.exec = Jvm.exec) (hZ : Z.Warmed39 s.vm) (hw : ∀ d ∈ tables_1, d.before a0 Z = true) (hby : c.code = code) (hml : c.maxLocals = 21) (hown : s.vm.findClass "com/example/niyama/niyama/relational/model/AttributeEqualsPinLaw" = some m.cls) (e0 : T0.heap = h0) (hs18 : One s18) (hs19 : One s19) (hc179 : i6 = i9) (hc185 : ¬ (i6 < (1 : Int32))) (hc192 : i7 = i10) (hc198 : ¬ (i6 < (2 : Int32))) (hc205 : i8 = i11) (ha224 : ¬ (o14 = o15)) :
    ∃ (T' : State), Stand p l e R s m args below meth c T' locs cells slots ∧ T'.heap = h0 ∧
      ∀ target, Steps p.tables e below (T'.setTop (mkF m 234 #[s0, s1, s2, s3, s4, s5, .val (.int i6), .val (.int i7), .val (.int i8), .val (.int i9), .val (.int i10), .val (.int i11), s12, s13, .val (.ref o14), .val (.ref o15), s16, s17, .val (.int (1 : Int32)), .val (.int (0 : Int32)), s20] [])) target → Steps p.tables e below (T0.setTop (mkF m 175 #[s0, s1, s2, s3, s4, s5, .val (.int i6), .val (.int i7), .val (.int i8), .val (.int i9), .val (.int i10), .val (.int i11), s12, s13, .val (.ref o14), .val (.ref o15), s16, s17, s18, s19, s20] [])) target := by

  refine ⟨T0, X0, e0, fun target kt => ?_⟩
  show Steps p.tables e below (T0.setTop (mkF m 175 #[s0, s1, s2, s3, s4, s5, .val (.int i6), .val (.int i7), .val (.int i8), .val (.int i9), .val (.int i10), .val (.int i11), s12, s13, .val (.ref o14), .val (.ref o15), s16, s17, s18, s19, s20] [])) _
  refine XS.iload X0.here hx rfl (hb hby at_175) rfl ?_
  show Steps p.tables e below (T0.setTop (mkF m 177 #[s0, s1, s2, s3, s4, s5, .val (.int i6), .val (.int i7), .val (.int i8), .val (.int i9), .val (.int i10), .val (.int i11), s12, s13, .val (.ref o14), .val (.ref o15), s16, s17, s18, s19, s20] [(.int i6)])) _
  refine XS.iload X0.here hx rfl (hb hby at_177) rfl ?_
  show Steps p.tables e below (T0.setTop (mkF m 179 #[s0, s1, s2, s3, s4, s5, .val (.int i6), .val (.int i7), .val (.int i8), .val (.int i9), .val (.int i10), .val (.int i11), s12, s13, .val (.ref o14), .val (.ref o15), s16, s17, s18, s19, s20] [(.int i9), (.int i6)])) _
  refine XS.icmpNo X0.here hx rfl (hb hby at_179) rfl (teq hc179).2 ?_
  show Steps p.tables e below (T0.setTop (mkF m 182 #[s0, s1, s2, s3, s4, s5, .val (.int i6), .val (.int i7), .val (.int i8), .val (.int i9), .val (.int i10), .val (.int i11), s12, s13, .val (.ref o14), .val (.ref o15), s16, s17, s18, s19, s20] [])) _
  refine XS.iload X0.here hx rfl (hb hby at_182) rfl ?_
  show Steps p.tables e below (T0.setTop (mkF m 184 #[s0, s1, s2, s3, s4, s5, .val (.int i6), .val (.int i7), .val (.int i8), .val (.int i9), .val (.int i10), .val (.int i11), s12, s13, .val (.ref o14), .val (.ref o15), s16, s17, s18, s19, s20] [(.int i6)])) _
  refine XS.iconst X0.here hx rfl (hb hby at_184) ?_
  show Steps p.tables e below (T0.setTop (mkF m 185 #[s0, s1, s2, s3, s4, s5, .val (.int i6), .val (.int i7), .val (.int i8), .val (.int i9), .val (.int i10), .val (.int i11), s12, s13, .val (.ref o14), .val (.ref o15), s16, s17, s18, s19, s20] [(.int (1 : Int32)), (.int i6)])) _
  refine XS.icmpNo X0.here hx rfl (hb hby at_185) rfl (flt hc185).1 ?_
  show Steps p.tables e below (T0.setTop (mkF m 188 #[s0, s1, s2, s3, s4, s5, .val (.int i6), .val (.int i7), .val (.int i8), .val (.int i9), .val (.int i10), .val (.int i11), s12, s13, .val (.ref o14), .val (.ref o15), s16, s17, s18, s19, s20] [])) _
  refine XS.iload X0.here hx rfl (hb hby at_188) rfl ?_
  show Steps p.tables e below (T0.setTop (mkF m 190 #[s0, s1, s2, s3, s4, s5, .val (.int i6), .val (.int i7), .val (.int i8), .val (.int i9), .val (.int i10), .val (.int i11), s12, s13, .val (.ref o14), .val (.ref o15), s16, s17, s18, s19, s20] [(.int i7)])) _
  refine XS.iload X0.here hx rfl (hb hby at_190) rfl ?_
  show Steps p.tables e below (T0.setTop (mkF m 192 #[s0, s1, s2, s3, s4, s5, .val (.int i6), .val (.int i7), .val (.int i8), .val (.int i9), .val (.int i10), .val (.int i11), s12, s13, .val (.ref o14), .val (.ref o15), s16, s17, s18, s19, s20] [(.int i10), (.int i7)])) _
  refine XS.icmpNo X0.here hx rfl (hb hby at_192) rfl (teq hc192).2 ?_
  show Steps p.tables e below (T0.setTop (mkF m 195 #[s0, s1, s2, s3, s4, s5, .val (.int i6), .val (.int i7), .val (.int i8), .val (.int i9), .val (.int i10), .val (.int i11), s12, s13, .val (.ref o14), .val (.ref o15), s16, s17, s18, s19, s20] [])) _
  refine XS.iload X0.here hx rfl (hb hby at_195) rfl ?_
  show Steps p.tables e below (T0.setTop (mkF m 197 #[s0, s1, s2, s3, s4, s5, .val (.int i6), .val (.int i7), .val (.int i8), .val (.int i9), .val (.int i10), .val (.int i11), s12, s13, .val (.ref o14), .val (.ref o15), s16, s17, s18, s19, s20] [(.int i6)])) _
  refine XS.iconst X0.here hx rfl (hb hby at_197) ?_
  show Steps p.tables e below (T0.setTop (mkF m 198 #[s0, s1, s2, s3, s4, s5, .val (.int i6), .val (.int i7), .val (.int i8), .val (.int i9), .val (.int i10), .val (.int i11), s12, s13, .val (.ref o14), .val (.ref o15), s16, s17, s18, s19, s20] [(.int (2 : Int32)), (.int i6)])) _
  refine XS.icmpNo X0.here hx rfl (hb hby at_198) rfl (flt hc198).1 ?_
  show Steps p.tables e below (T0.setTop (mkF m 201 #[s0, s1, s2, s3, s4, s5, .val (.int i6), .val (.int i7), .val (.int i8), .val (.int i9), .val (.int i10), .val (.int i11), s12, s13, .val (.ref o14), .val (.ref o15), s16, s17, s18, s19, s20] [])) _
  refine XS.iload X0.here hx rfl (hb hby at_201) rfl ?_
  show Steps p.tables e below (T0.setTop (mkF m 203 #[s0, s1, s2, s3, s4, s5, .val (.int i6), .val (.int i7), .val (.int i8), .val (.int i9), .val (.int i10), .val (.int i11), s12, s13, .val (.ref o14), .val (.ref o15), s16, s17, s18, s19, s20] [(.int i8)])) _
  refine XS.iload X0.here hx rfl (hb hby at_203) rfl ?_
  show Steps p.tables e below (T0.setTop (mkF m 205 #[s0, s1, s2, s3, s4, s5, .val (.int i6), .val (.int i7), .val (.int i8), .val (.int i9), .val (.int i10), .val (.int i11), s12, s13, .val (.ref o14), .val (.ref o15), s16, s17, s18, s19, s20] [(.int i11), (.int i8)])) _
  refine XS.icmpNo X0.here hx rfl (hb hby at_205) rfl (teq hc205).2 ?_
  show Steps p.tables e below (T0.setTop (mkF m 208 #[s0, s1, s2, s3, s4, s5, .val (.int i6), .val (.int i7), .val (.int i8), .val (.int i9), .val (.int i10), .val (.int i11), s12, s13, .val (.ref o14), .val (.ref o15), s16, s17, s18, s19, s20] [])) _
  refine XS.iconst X0.here hx rfl (hb hby at_208) ?_
  show Steps p.tables e below (T0.setTop (mkF m 209 #[s0, s1, s2, s3, s4, s5, .val (.int i6), .val (.int i7), .val (.int i8), .val (.int i9), .val (.int i10), .val (.int i11), s12, s13, .val (.ref o14), .val (.ref o15), s16, s17, s18, s19, s20] [(.int (1 : Int32))])) _
  refine XS.goto X0.here hx rfl (pc0 := 209) (pc' := 213) rfl (hb hby at_209) (by decide) (by decide) ?_
  show Steps p.tables e below (T0.setTop (mkF m 213 #[s0, s1, s2, s3, s4, s5, .val (.int i6), .val (.int i7), .val (.int i8), .val (.int i9), .val (.int i10), .val (.int i11), s12, s13, .val (.ref o14), .val (.ref o15), s16, s17, s18, s19, s20] [(.int (1 : Int32))])) _
  refine XS.istore X0.here hx rfl (hb hby at_213) rfl (l' := #[s0, s1, s2, s3, s4, s5, .val (.int i6), .val (.int i7), .val (.int i8), .val (.int i9), .val (.int i10), .val (.int i11), s12, s13, .val (.ref o14), .val (.ref o15), s16, s17, .val (.int (1 : Int32)), s19, s20]) (os0_213 hs18) ?_
  show Steps p.tables e below (T0.setTop (mkF m 215 #[s0, s1, s2, s3, s4, s5, .val (.int i6), .val (.int i7), .val (.int i8), .val (.int i9), .val (.int i10), .val (.int i11), s12, s13, .val (.ref o14), .val (.ref o15), s16, s17, .val (.int (1 : Int32)), s19, s20] [])) _
  refine XS.iload X0.here hx rfl (hb hby at_215) rfl ?_
  show Steps p.tables e below (T0.setTop (mkF m 217 #[s0, s1, s2, s3, s4, s5, .val (.int i6), .val (.int i7), .val (.int i8), .val (.int i9), .val (.int i10), .val (.int i11), s12, s13, .val (.ref o14), .val (.ref o15), s16, s17, .val (.int (1 : Int32)), s19, s20] [(.int (1 : Int32))])) _
  refine XS.ifNo X0.here hx rfl (hb hby at_217) rfl ((if0 _ _).trans (feq (by decide : ¬ ((1 : Int32) = (0 : Int32)))).1) ?_
  show Steps p.tables e below (T0.setTop (mkF m 220 #[s0, s1, s2, s3, s4, s5, .val (.int i6), .val (.int i7), .val (.int i8), .val (.int i9), .val (.int i10), .val (.int i11), s12, s13, .val (.ref o14), .val (.ref o15), s16, s17, .val (.int (1 : Int32)), s19, s20] [])) _
  refine XS.aload X0.here hx rfl (hb hby at_220) rfl rfl ?_
  show Steps p.tables e below (T0.setTop (mkF m 222 #[s0, s1, s2, s3, s4, s5, .val (.int i6), .val (.int i7), .val (.int i8), .val (.int i9), .val (.int i10), .val (.int i11), s12, s13, .val (.ref o14), .val (.ref o15), s16, s17, .val (.int (1 : Int32)), s19, s20] [(.ref o14)])) _
  refine XS.aload X0.here hx rfl (hb hby at_222) rfl rfl ?_
  show Steps p.tables e below (T0.setTop (mkF m 224 #[s0, s1, s2, s3, s4, s5, .val (.int i6), .val (.int i7), .val (.int i8), .val (.int i9), .val (.int i10), .val (.int i11), s12, s13, .val (.ref o14), .val (.ref o15), s16, s17, .val (.int (1 : Int32)), s19, s20] [(.ref o15), (.ref o14)])) _
  refine Jvm.RoadKit.acmp (g := (mkF m 224 #[s0, s1, s2, s3, s4, s5, .val (.int i6), .val (.int i7), .val (.int i8), .val (.int i9), .val (.int i10), .val (.int i11), s12, s13, .val (.ref o14), .val (.ref o15), s16, s17, .val (.int (1 : Int32)), s19, s20] [(.ref o15), (.ref o14)])) X0 hx rfl rfl rfl (pc0 := 224) (pc' := 231) (same := false) rfl (hb hby at_224) rfl (decide_eq_false fun q => ha224 (Value.ref.inj q)) (by decide) (by decide) ?_
  show Steps p.tables e below (T0.setTop (mkF m 231 #[s0, s1, s2, s3, s4, s5, .val (.int i6), .val (.int i7), .val (.int i8), .val (.int i9), .val (.int i10), .val (.int i11), s12, s13, .val (.ref o14), .val (.ref o15), s16, s17, .val (.int (1 : Int32)), s19, s20] [])) _
  refine XS.iconst X0.here hx rfl (hb hby at_231) ?_
  show Steps p.tables e below (T0.setTop (mkF m 232 #[s0, s1, s2, s3, s4, s5, .val (.int i6), .val (.int i7), .val (.int i8), .val (.int i9), .val (.int i10), .val (.int i11), s12, s13, .val (.ref o14), .val (.ref o15), s16, s17, .val (.int (1 : Int32)), s19, s20] [(.int (0 : Int32))])) _
  refine XS.istore X0.here hx rfl (hb hby at_232) rfl (l' := #[s0, s1, s2, s3, s4, s5, .val (.int i6), .val (.int i7), .val (.int i8), .val (.int i9), .val (.int i10), .val (.int i11), s12, s13, .val (.ref o14), .val (.ref o15), s16, s17, .val (.int (1 : Int32)), .val (.int (0 : Int32)), s20]) (os0_232 hs19) ?_
  exact kt
set_option maxRecDepth 65536 in
set_option maxHeartbeats 40000000 in
theorem pc175_fffftt {p : Program} {l : Launch} {e : Env} {R : Room} {s : State} {m : MethodId} {args : Array Value} {below : List Frame} {meth : Method} {c : Code} {T0 : State} {locs : List Loc} {cells slots : Nat} {Z : State} {a0 : Array Value} {h0 : Heap} (s0 : Slot) (s1 : Slot) (s2 : Slot) (s3 : Slot) (s4 : Slot) (s5 : Slot) (i6 : Int32) (i7 : Int32) (i8 : Int32) (i9 : Int32) (i10 : Int32) (i11 : Int32) (s12 : Slot) (s13 : Slot) (o14 : Addr) (o15 : Addr) (s16 : Slot) (s17 : Slot) (s18 : Slot) (s19 : Slot) (s20 : Slot)
    (X0 : Stand p l e R s m args below meth c T0 locs cells slots) (hx : p.tables.exec = Jvm.exec) (hZ : Z.Warmed39 s.vm) (hw : ∀ d ∈ tables_1, d.before a0 Z = true) (hby : c.code = code) (hml : c.maxLocals = 21) (hown : s.vm.findClass "com/example/niyama/niyama/relational/model/AttributeEqualsPinLaw" = some m.cls) (e0 : T0.heap = h0) (hs18 : One s18) (hs19 : One s19) (hc179 : i6 = i9) (hc185 : ¬ (i6 < (1 : Int32))) (hc192 : i7 = i10) (hc198 : ¬ (i6 < (2 : Int32))) (hc205 : ¬ (i8 = i11)) :
    ∃ (T' : State), Stand p l e R s m args below meth c T' locs cells slots ∧ T'.heap = h0 ∧
      ∀ target, Steps p.tables e below (T'.setTop (mkF m 234 #[s0, s1, s2, s3, s4, s5, .val (.int i6), .val (.int i7), .val (.int i8), .val (.int i9), .val (.int i10), .val (.int i11), s12, s13, .val (.ref o14), .val (.ref o15), s16, s17, .val (.int (0 : Int32)), .val (.int (0 : Int32)), s20] [])) target → Steps p.tables e below (T0.setTop (mkF m 175 #[s0, s1, s2, s3, s4, s5, .val (.int i6), .val (.int i7), .val (.int i8), .val (.int i9), .val (.int i10), .val (.int i11), s12, s13, .val (.ref o14), .val (.ref o15), s16, s17, s18, s19, s20] [])) target := by

  refine ⟨T0, X0, e0, fun target kt => ?_⟩
  show Steps p.tables e below (T0.setTop (mkF m 175 #[s0, s1, s2, s3, s4, s5, .val (.int i6), .val (.int i7), .val (.int i8), .val (.int i9), .val (.int i10), .val (.int i11), s12, s13, .val (.ref o14), .val (.ref o15), s16, s17, s18, s19, s20] [])) _
  refine XS.iload X0.here hx rfl (hb hby at_175) rfl ?_
  show Steps p.tables e below (T0.setTop (mkF m 177 #[s0, s1, s2, s3, s4, s5, .val (.int i6), .val (.int i7), .val (.int i8), .val (.int i9), .val (.int i10), .val (.int i11), s12, s13, .val (.ref o14), .val (.ref o15), s16, s17, s18, s19, s20] [(.int i6)])) _
  refine XS.iload X0.here hx rfl (hb hby at_177) rfl ?_
  show Steps p.tables e below (T0.setTop (mkF m 179 #[s0, s1, s2, s3, s4, s5, .val (.int i6), .val (.int i7), .val (.int i8), .val (.int i9), .val (.int i10), .val (.int i11), s12, s13, .val (.ref o14), .val (.ref o15), s16, s17, s18, s19, s20] [(.int i9), (.int i6)])) _
  refine XS.icmpNo X0.here hx rfl (hb hby at_179) rfl (teq hc179).2 ?_
  show Steps p.tables e below (T0.setTop (mkF m 182 #[s0, s1, s2, s3, s4, s5, .val (.int i6), .val (.int i7), .val (.int i8), .val (.int i9), .val (.int i10), .val (.int i11), s12, s13, .val (.ref o14), .val (.ref o15), s16, s17, s18, s19, s20] [])) _
  refine XS.iload X0.here hx rfl (hb hby at_182) rfl ?_
  show Steps p.tables e below (T0.setTop (mkF m 184 #[s0, s1, s2, s3, s4, s5, .val (.int i6), .val (.int i7), .val (.int i8), .val (.int i9), .val (.int i10), .val (.int i11), s12, s13, .val (.ref o14), .val (.ref o15), s16, s17, s18, s19, s20] [(.int i6)])) _
  refine XS.iconst X0.here hx rfl (hb hby at_184) ?_
  show Steps p.tables e below (T0.setTop (mkF m 185 #[s0, s1, s2, s3, s4, s5, .val (.int i6), .val (.int i7), .val (.int i8), .val (.int i9), .val (.int i10), .val (.int i11), s12, s13, .val (.ref o14), .val (.ref o15), s16, s17, s18, s19, s20] [(.int (1 : Int32)), (.int i6)])) _
  refine XS.icmpNo X0.here hx rfl (hb hby at_185) rfl (flt hc185).1 ?_
  show Steps p.tables e below (T0.setTop (mkF m 188 #[s0, s1, s2, s3, s4, s5, .val (.int i6), .val (.int i7), .val (.int i8), .val (.int i9), .val (.int i10), .val (.int i11), s12, s13, .val (.ref o14), .val (.ref o15), s16, s17, s18, s19, s20] [])) _
  refine XS.iload X0.here hx rfl (hb hby at_188) rfl ?_
  show Steps p.tables e below (T0.setTop (mkF m 190 #[s0, s1, s2, s3, s4, s5, .val (.int i6), .val (.int i7), .val (.int i8), .val (.int i9), .val (.int i10), .val (.int i11), s12, s13, .val (.ref o14), .val (.ref o15), s16, s17, s18, s19, s20] [(.int i7)])) _
  refine XS.iload X0.here hx rfl (hb hby at_190) rfl ?_
  show Steps p.tables e below (T0.setTop (mkF m 192 #[s0, s1, s2, s3, s4, s5, .val (.int i6), .val (.int i7), .val (.int i8), .val (.int i9), .val (.int i10), .val (.int i11), s12, s13, .val (.ref o14), .val (.ref o15), s16, s17, s18, s19, s20] [(.int i10), (.int i7)])) _
  refine XS.icmpNo X0.here hx rfl (hb hby at_192) rfl (teq hc192).2 ?_
  show Steps p.tables e below (T0.setTop (mkF m 195 #[s0, s1, s2, s3, s4, s5, .val (.int i6), .val (.int i7), .val (.int i8), .val (.int i9), .val (.int i10), .val (.int i11), s12, s13, .val (.ref o14), .val (.ref o15), s16, s17, s18, s19, s20] [])) _
  refine XS.iload X0.here hx rfl (hb hby at_195) rfl ?_
  show Steps p.tables e below (T0.setTop (mkF m 197 #[s0, s1, s2, s3, s4, s5, .val (.int i6), .val (.int i7), .val (.int i8), .val (.int i9), .val (.int i10), .val (.int i11), s12, s13, .val (.ref o14), .val (.ref o15), s16, s17, s18, s19, s20] [(.int i6)])) _
  refine XS.iconst X0.here hx rfl (hb hby at_197) ?_
  show Steps p.tables e below (T0.setTop (mkF m 198 #[s0, s1, s2, s3, s4, s5, .val (.int i6), .val (.int i7), .val (.int i8), .val (.int i9), .val (.int i10), .val (.int i11), s12, s13, .val (.ref o14), .val (.ref o15), s16, s17, s18, s19, s20] [(.int (2 : Int32)), (.int i6)])) _
  refine XS.icmpNo X0.here hx rfl (hb hby at_198) rfl (flt hc198).1 ?_
  show Steps p.tables e below (T0.setTop (mkF m 201 #[s0, s1, s2, s3, s4, s5, .val (.int i6), .val (.int i7), .val (.int i8), .val (.int i9), .val (.int i10), .val (.int i11), s12, s13, .val (.ref o14), .val (.ref o15), s16, s17, s18, s19, s20] [])) _
  refine XS.iload X0.here hx rfl (hb hby at_201) rfl ?_
  show Steps p.tables e below (T0.setTop (mkF m 203 #[s0, s1, s2, s3, s4, s5, .val (.int i6), .val (.int i7), .val (.int i8), .val (.int i9), .val (.int i10), .val (.int i11), s12, s13, .val (.ref o14), .val (.ref o15), s16, s17, s18, s19, s20] [(.int i8)])) _
  refine XS.iload X0.here hx rfl (hb hby at_203) rfl ?_
  show Steps p.tables e below (T0.setTop (mkF m 205 #[s0, s1, s2, s3, s4, s5, .val (.int i6), .val (.int i7), .val (.int i8), .val (.int i9), .val (.int i10), .val (.int i11), s12, s13, .val (.ref o14), .val (.ref o15), s16, s17, s18, s19, s20] [(.int i11), (.int i8)])) _
  refine XS.icmpYes X0.here hx rfl (pc0 := 205) (pc' := 212) rfl (hb hby at_205) rfl (feq hc205).2 (by decide) (by decide) ?_
  show Steps p.tables e below (T0.setTop (mkF m 212 #[s0, s1, s2, s3, s4, s5, .val (.int i6), .val (.int i7), .val (.int i8), .val (.int i9), .val (.int i10), .val (.int i11), s12, s13, .val (.ref o14), .val (.ref o15), s16, s17, s18, s19, s20] [])) _
  refine XS.iconst X0.here hx rfl (hb hby at_212) ?_
  show Steps p.tables e below (T0.setTop (mkF m 213 #[s0, s1, s2, s3, s4, s5, .val (.int i6), .val (.int i7), .val (.int i8), .val (.int i9), .val (.int i10), .val (.int i11), s12, s13, .val (.ref o14), .val (.ref o15), s16, s17, s18, s19, s20] [(.int (0 : Int32))])) _
  refine XS.istore X0.here hx rfl (hb hby at_213) rfl (l' := #[s0, s1, s2, s3, s4, s5, .val (.int i6), .val (.int i7), .val (.int i8), .val (.int i9), .val (.int i10), .val (.int i11), s12, s13, .val (.ref o14), .val (.ref o15), s16, s17, .val (.int (0 : Int32)), s19, s20]) (os0_213 hs18) ?_
  show Steps p.tables e below (T0.setTop (mkF m 215 #[s0, s1, s2, s3, s4, s5, .val (.int i6), .val (.int i7), .val (.int i8), .val (.int i9), .val (.int i10), .val (.int i11), s12, s13, .val (.ref o14), .val (.ref o15), s16, s17, .val (.int (0 : Int32)), s19, s20] [])) _
  refine XS.iload X0.here hx rfl (hb hby at_215) rfl ?_
  show Steps p.tables e below (T0.setTop (mkF m 217 #[s0, s1, s2, s3, s4, s5, .val (.int i6), .val (.int i7), .val (.int i8), .val (.int i9), .val (.int i10), .val (.int i11), s12, s13, .val (.ref o14), .val (.ref o15), s16, s17, .val (.int (0 : Int32)), s19, s20] [(.int (0 : Int32))])) _
  refine XS.ifYes X0.here hx rfl (pc0 := 217) (pc' := 231) rfl (hb hby at_217) rfl ((if0 _ _).trans (teq (by decide : (0 : Int32) = (0 : Int32))).1) (by decide) (by decide) ?_
  show Steps p.tables e below (T0.setTop (mkF m 231 #[s0, s1, s2, s3, s4, s5, .val (.int i6), .val (.int i7), .val (.int i8), .val (.int i9), .val (.int i10), .val (.int i11), s12, s13, .val (.ref o14), .val (.ref o15), s16, s17, .val (.int (0 : Int32)), s19, s20] [])) _
  refine XS.iconst X0.here hx rfl (hb hby at_231) ?_
  show Steps p.tables e below (T0.setTop (mkF m 232 #[s0, s1, s2, s3, s4, s5, .val (.int i6), .val (.int i7), .val (.int i8), .val (.int i9), .val (.int i10), .val (.int i11), s12, s13, .val (.ref o14), .val (.ref o15), s16, s17, .val (.int (0 : Int32)), s19, s20] [(.int (0 : Int32))])) _
  refine XS.istore X0.here hx rfl (hb hby at_232) rfl (l' := #[s0, s1, s2, s3, s4, s5, .val (.int i6), .val (.int i7), .val (.int i8), .val (.int i9), .val (.int i10), .val (.int i11), s12, s13, .val (.ref o14), .val (.ref o15), s16, s17, .val (.int (0 : Int32)), .val (.int (0 : Int32)), s20]) (os0_232 hs19) ?_
  exact kt
set_option maxRecDepth 65536 in
set_option maxHeartbeats 40000000 in
theorem pc175_ffftff {p : Program} {l : Launch} {e : Env} {R : Room} {s : State} {m : MethodId} {args : Array Value} {below : List Frame} {meth : Method} {c : Code} {T0 : State} {locs : List Loc} {cells slots : Nat} {Z : State} {a0 : Array Value} {h0 : Heap} (s0 : Slot) (s1 : Slot) (s2 : Slot) (s3 : Slot) (s4 : Slot) (s5 : Slot) (i6 : Int32) (i7 : Int32) (i8 : Int32) (i9 : Int32) (i10 : Int32) (i11 : Int32) (s12 : Slot) (s13 : Slot) (o14 : Addr) (o15 : Addr) (s16 : Slot) (s17 : Slot) (s18 : Slot) (s19 : Slot) (s20 : Slot)
    (X0 : Stand p l e R s m args below meth c T0 locs cells slots) (hx : p.tables.exec = Jvm.exec) (hZ : Z.Warmed39 s.vm) (hw : ∀ d ∈ tables_1, d.before a0 Z = true) (hby : c.code = code) (hml : c.maxLocals = 21) (hown : s.vm.findClass "com/example/niyama/niyama/relational/model/AttributeEqualsPinLaw" = some m.cls) (e0 : T0.heap = h0) (hs18 : One s18) (hs19 : One s19) (hc179 : i6 = i9) (hc185 : ¬ (i6 < (1 : Int32))) (hc192 : i7 = i10) (hc198 : i6 < (2 : Int32)) (ha224 : o14 = o15) :
    ∃ (T' : State), Stand p l e R s m args below meth c T' locs cells slots ∧ T'.heap = h0 ∧
      ∀ target, Steps p.tables e below (T'.setTop (mkF m 234 #[s0, s1, s2, s3, s4, s5, .val (.int i6), .val (.int i7), .val (.int i8), .val (.int i9), .val (.int i10), .val (.int i11), s12, s13, .val (.ref o14), .val (.ref o15), s16, s17, .val (.int (1 : Int32)), .val (.int (1 : Int32)), s20] [])) target → Steps p.tables e below (T0.setTop (mkF m 175 #[s0, s1, s2, s3, s4, s5, .val (.int i6), .val (.int i7), .val (.int i8), .val (.int i9), .val (.int i10), .val (.int i11), s12, s13, .val (.ref o14), .val (.ref o15), s16, s17, s18, s19, s20] [])) target := by

  refine ⟨T0, X0, e0, fun target kt => ?_⟩
  show Steps p.tables e below (T0.setTop (mkF m 175 #[s0, s1, s2, s3, s4, s5, .val (.int i6), .val (.int i7), .val (.int i8), .val (.int i9), .val (.int i10), .val (.int i11), s12, s13, .val (.ref o14), .val (.ref o15), s16, s17, s18, s19, s20] [])) _
  refine XS.iload X0.here hx rfl (hb hby at_175) rfl ?_
  show Steps p.tables e below (T0.setTop (mkF m 177 #[s0, s1, s2, s3, s4, s5, .val (.int i6), .val (.int i7), .val (.int i8), .val (.int i9), .val (.int i10), .val (.int i11), s12, s13, .val (.ref o14), .val (.ref o15), s16, s17, s18, s19, s20] [(.int i6)])) _
  refine XS.iload X0.here hx rfl (hb hby at_177) rfl ?_
  show Steps p.tables e below (T0.setTop (mkF m 179 #[s0, s1, s2, s3, s4, s5, .val (.int i6), .val (.int i7), .val (.int i8), .val (.int i9), .val (.int i10), .val (.int i11), s12, s13, .val (.ref o14), .val (.ref o15), s16, s17, s18, s19, s20] [(.int i9), (.int i6)])) _
  refine XS.icmpNo X0.here hx rfl (hb hby at_179) rfl (teq hc179).2 ?_
  show Steps p.tables e below (T0.setTop (mkF m 182 #[s0, s1, s2, s3, s4, s5, .val (.int i6), .val (.int i7), .val (.int i8), .val (.int i9), .val (.int i10), .val (.int i11), s12, s13, .val (.ref o14), .val (.ref o15), s16, s17, s18, s19, s20] [])) _
  refine XS.iload X0.here hx rfl (hb hby at_182) rfl ?_
  show Steps p.tables e below (T0.setTop (mkF m 184 #[s0, s1, s2, s3, s4, s5, .val (.int i6), .val (.int i7), .val (.int i8), .val (.int i9), .val (.int i10), .val (.int i11), s12, s13, .val (.ref o14), .val (.ref o15), s16, s17, s18, s19, s20] [(.int i6)])) _
  refine XS.iconst X0.here hx rfl (hb hby at_184) ?_
  show Steps p.tables e below (T0.setTop (mkF m 185 #[s0, s1, s2, s3, s4, s5, .val (.int i6), .val (.int i7), .val (.int i8), .val (.int i9), .val (.int i10), .val (.int i11), s12, s13, .val (.ref o14), .val (.ref o15), s16, s17, s18, s19, s20] [(.int (1 : Int32)), (.int i6)])) _
  refine XS.icmpNo X0.here hx rfl (hb hby at_185) rfl (flt hc185).1 ?_
  show Steps p.tables e below (T0.setTop (mkF m 188 #[s0, s1, s2, s3, s4, s5, .val (.int i6), .val (.int i7), .val (.int i8), .val (.int i9), .val (.int i10), .val (.int i11), s12, s13, .val (.ref o14), .val (.ref o15), s16, s17, s18, s19, s20] [])) _
  refine XS.iload X0.here hx rfl (hb hby at_188) rfl ?_
  show Steps p.tables e below (T0.setTop (mkF m 190 #[s0, s1, s2, s3, s4, s5, .val (.int i6), .val (.int i7), .val (.int i8), .val (.int i9), .val (.int i10), .val (.int i11), s12, s13, .val (.ref o14), .val (.ref o15), s16, s17, s18, s19, s20] [(.int i7)])) _
  refine XS.iload X0.here hx rfl (hb hby at_190) rfl ?_
  show Steps p.tables e below (T0.setTop (mkF m 192 #[s0, s1, s2, s3, s4, s5, .val (.int i6), .val (.int i7), .val (.int i8), .val (.int i9), .val (.int i10), .val (.int i11), s12, s13, .val (.ref o14), .val (.ref o15), s16, s17, s18, s19, s20] [(.int i10), (.int i7)])) _
  refine XS.icmpNo X0.here hx rfl (hb hby at_192) rfl (teq hc192).2 ?_
  show Steps p.tables e below (T0.setTop (mkF m 195 #[s0, s1, s2, s3, s4, s5, .val (.int i6), .val (.int i7), .val (.int i8), .val (.int i9), .val (.int i10), .val (.int i11), s12, s13, .val (.ref o14), .val (.ref o15), s16, s17, s18, s19, s20] [])) _
  refine XS.iload X0.here hx rfl (hb hby at_195) rfl ?_
  show Steps p.tables e below (T0.setTop (mkF m 197 #[s0, s1, s2, s3, s4, s5, .val (.int i6), .val (.int i7), .val (.int i8), .val (.int i9), .val (.int i10), .val (.int i11), s12, s13, .val (.ref o14), .val (.ref o15), s16, s17, s18, s19, s20] [(.int i6)])) _
  refine XS.iconst X0.here hx rfl (hb hby at_197) ?_
  show Steps p.tables e below (T0.setTop (mkF m 198 #[s0, s1, s2, s3, s4, s5, .val (.int i6), .val (.int i7), .val (.int i8), .val (.int i9), .val (.int i10), .val (.int i11), s12, s13, .val (.ref o14), .val (.ref o15), s16, s17, s18, s19, s20] [(.int (2 : Int32)), (.int i6)])) _
  refine XS.icmpYes X0.here hx rfl (pc0 := 198) (pc' := 208) rfl (hb hby at_198) rfl (tlt hc198).1 (by decide) (by decide) ?_
  show Steps p.tables e below (T0.setTop (mkF m 208 #[s0, s1, s2, s3, s4, s5, .val (.int i6), .val (.int i7), .val (.int i8), .val (.int i9), .val (.int i10), .val (.int i11), s12, s13, .val (.ref o14), .val (.ref o15), s16, s17, s18, s19, s20] [])) _
  refine XS.iconst X0.here hx rfl (hb hby at_208) ?_
  show Steps p.tables e below (T0.setTop (mkF m 209 #[s0, s1, s2, s3, s4, s5, .val (.int i6), .val (.int i7), .val (.int i8), .val (.int i9), .val (.int i10), .val (.int i11), s12, s13, .val (.ref o14), .val (.ref o15), s16, s17, s18, s19, s20] [(.int (1 : Int32))])) _
  refine XS.goto X0.here hx rfl (pc0 := 209) (pc' := 213) rfl (hb hby at_209) (by decide) (by decide) ?_
  show Steps p.tables e below (T0.setTop (mkF m 213 #[s0, s1, s2, s3, s4, s5, .val (.int i6), .val (.int i7), .val (.int i8), .val (.int i9), .val (.int i10), .val (.int i11), s12, s13, .val (.ref o14), .val (.ref o15), s16, s17, s18, s19, s20] [(.int (1 : Int32))])) _
  refine XS.istore X0.here hx rfl (hb hby at_213) rfl (l' := #[s0, s1, s2, s3, s4, s5, .val (.int i6), .val (.int i7), .val (.int i8), .val (.int i9), .val (.int i10), .val (.int i11), s12, s13, .val (.ref o14), .val (.ref o15), s16, s17, .val (.int (1 : Int32)), s19, s20]) (os0_213 hs18) ?_
  show Steps p.tables e below (T0.setTop (mkF m 215 #[s0, s1, s2, s3, s4, s5, .val (.int i6), .val (.int i7), .val (.int i8), .val (.int i9), .val (.int i10), .val (.int i11), s12, s13, .val (.ref o14), .val (.ref o15), s16, s17, .val (.int (1 : Int32)), s19, s20] [])) _
  refine XS.iload X0.here hx rfl (hb hby at_215) rfl ?_
  show Steps p.tables e below (T0.setTop (mkF m 217 #[s0, s1, s2, s3, s4, s5, .val (.int i6), .val (.int i7), .val (.int i8), .val (.int i9), .val (.int i10), .val (.int i11), s12, s13, .val (.ref o14), .val (.ref o15), s16, s17, .val (.int (1 : Int32)), s19, s20] [(.int (1 : Int32))])) _
  refine XS.ifNo X0.here hx rfl (hb hby at_217) rfl ((if0 _ _).trans (feq (by decide : ¬ ((1 : Int32) = (0 : Int32)))).1) ?_
  show Steps p.tables e below (T0.setTop (mkF m 220 #[s0, s1, s2, s3, s4, s5, .val (.int i6), .val (.int i7), .val (.int i8), .val (.int i9), .val (.int i10), .val (.int i11), s12, s13, .val (.ref o14), .val (.ref o15), s16, s17, .val (.int (1 : Int32)), s19, s20] [])) _
  refine XS.aload X0.here hx rfl (hb hby at_220) rfl rfl ?_
  show Steps p.tables e below (T0.setTop (mkF m 222 #[s0, s1, s2, s3, s4, s5, .val (.int i6), .val (.int i7), .val (.int i8), .val (.int i9), .val (.int i10), .val (.int i11), s12, s13, .val (.ref o14), .val (.ref o15), s16, s17, .val (.int (1 : Int32)), s19, s20] [(.ref o14)])) _
  refine XS.aload X0.here hx rfl (hb hby at_222) rfl rfl ?_
  show Steps p.tables e below (T0.setTop (mkF m 224 #[s0, s1, s2, s3, s4, s5, .val (.int i6), .val (.int i7), .val (.int i8), .val (.int i9), .val (.int i10), .val (.int i11), s12, s13, .val (.ref o14), .val (.ref o15), s16, s17, .val (.int (1 : Int32)), s19, s20] [(.ref o15), (.ref o14)])) _
  refine Jvm.RoadKit.acmp (g := (mkF m 224 #[s0, s1, s2, s3, s4, s5, .val (.int i6), .val (.int i7), .val (.int i8), .val (.int i9), .val (.int i10), .val (.int i11), s12, s13, .val (.ref o14), .val (.ref o15), s16, s17, .val (.int (1 : Int32)), s19, s20] [(.ref o15), (.ref o14)])) X0 hx rfl rfl rfl (pc0 := 224) (pc' := 227) (same := true) rfl (hb hby at_224) rfl (decide_eq_true (congrArg Value.ref ha224)) (by decide) (by decide) ?_
  show Steps p.tables e below (T0.setTop (mkF m 227 #[s0, s1, s2, s3, s4, s5, .val (.int i6), .val (.int i7), .val (.int i8), .val (.int i9), .val (.int i10), .val (.int i11), s12, s13, .val (.ref o14), .val (.ref o15), s16, s17, .val (.int (1 : Int32)), s19, s20] [])) _
  refine XS.iconst X0.here hx rfl (hb hby at_227) ?_
  show Steps p.tables e below (T0.setTop (mkF m 228 #[s0, s1, s2, s3, s4, s5, .val (.int i6), .val (.int i7), .val (.int i8), .val (.int i9), .val (.int i10), .val (.int i11), s12, s13, .val (.ref o14), .val (.ref o15), s16, s17, .val (.int (1 : Int32)), s19, s20] [(.int (1 : Int32))])) _
  refine XS.goto X0.here hx rfl (pc0 := 228) (pc' := 232) rfl (hb hby at_228) (by decide) (by decide) ?_
  show Steps p.tables e below (T0.setTop (mkF m 232 #[s0, s1, s2, s3, s4, s5, .val (.int i6), .val (.int i7), .val (.int i8), .val (.int i9), .val (.int i10), .val (.int i11), s12, s13, .val (.ref o14), .val (.ref o15), s16, s17, .val (.int (1 : Int32)), s19, s20] [(.int (1 : Int32))])) _
  refine XS.istore X0.here hx rfl (hb hby at_232) rfl (l' := #[s0, s1, s2, s3, s4, s5, .val (.int i6), .val (.int i7), .val (.int i8), .val (.int i9), .val (.int i10), .val (.int i11), s12, s13, .val (.ref o14), .val (.ref o15), s16, s17, .val (.int (1 : Int32)), .val (.int (1 : Int32)), s20]) (os0_232 hs19) ?_
  exact kt
set_option maxRecDepth 65536 in
set_option maxHeartbeats 40000000 in
theorem pc175_ffftft {p : Program} {l : Launch} {e : Env} {R : Room} {s : State} {m : MethodId} {args : Array Value} {below : List Frame} {meth : Method} {c : Code} {T0 : State} {locs : List Loc} {cells slots : Nat} {Z : State} {a0 : Array Value} {h0 : Heap} (s0 : Slot) (s1 : Slot) (s2 : Slot) (s3 : Slot) (s4 : Slot) (s5 : Slot) (i6 : Int32) (i7 : Int32) (i8 : Int32) (i9 : Int32) (i10 : Int32) (i11 : Int32) (s12 : Slot) (s13 : Slot) (o14 : Addr) (o15 : Addr) (s16 : Slot) (s17 : Slot) (s18 : Slot) (s19 : Slot) (s20 : Slot)
    (X0 : Stand p l e R s m args below meth c T0 locs cells slots) (hx : p.tables.exec = Jvm.exec) (hZ : Z.Warmed39 s.vm) (hw : ∀ d ∈ tables_1, d.before a0 Z = true) (hby : c.code = code) (hml : c.maxLocals = 21) (hown : s.vm.findClass "com/example/niyama/niyama/relational/model/AttributeEqualsPinLaw" = some m.cls) (e0 : T0.heap = h0) (hs18 : One s18) (hs19 : One s19) (hc179 : i6 = i9) (hc185 : ¬ (i6 < (1 : Int32))) (hc192 : i7 = i10) (hc198 : i6 < (2 : Int32)) (ha224 : ¬ (o14 = o15)) :
    ∃ (T' : State), Stand p l e R s m args below meth c T' locs cells slots ∧ T'.heap = h0 ∧
      ∀ target, Steps p.tables e below (T'.setTop (mkF m 234 #[s0, s1, s2, s3, s4, s5, .val (.int i6), .val (.int i7), .val (.int i8), .val (.int i9), .val (.int i10), .val (.int i11), s12, s13, .val (.ref o14), .val (.ref o15), s16, s17, .val (.int (1 : Int32)), .val (.int (0 : Int32)), s20] [])) target → Steps p.tables e below (T0.setTop (mkF m 175 #[s0, s1, s2, s3, s4, s5, .val (.int i6), .val (.int i7), .val (.int i8), .val (.int i9), .val (.int i10), .val (.int i11), s12, s13, .val (.ref o14), .val (.ref o15), s16, s17, s18, s19, s20] [])) target := by

  refine ⟨T0, X0, e0, fun target kt => ?_⟩
  show Steps p.tables e below (T0.setTop (mkF m 175 #[s0, s1, s2, s3, s4, s5, .val (.int i6), .val (.int i7), .val (.int i8), .val (.int i9), .val (.int i10), .val (.int i11), s12, s13, .val (.ref o14), .val (.ref o15), s16, s17, s18, s19, s20] [])) _
  refine XS.iload X0.here hx rfl (hb hby at_175) rfl ?_
  show Steps p.tables e below (T0.setTop (mkF m 177 #[s0, s1, s2, s3, s4, s5, .val (.int i6), .val (.int i7), .val (.int i8), .val (.int i9), .val (.int i10), .val (.int i11), s12, s13, .val (.ref o14), .val (.ref o15), s16, s17, s18, s19, s20] [(.int i6)])) _
  refine XS.iload X0.here hx rfl (hb hby at_177) rfl ?_
  show Steps p.tables e below (T0.setTop (mkF m 179 #[s0, s1, s2, s3, s4, s5, .val (.int i6), .val (.int i7), .val (.int i8), .val (.int i9), .val (.int i10), .val (.int i11), s12, s13, .val (.ref o14), .val (.ref o15), s16, s17, s18, s19, s20] [(.int i9), (.int i6)])) _
  refine XS.icmpNo X0.here hx rfl (hb hby at_179) rfl (teq hc179).2 ?_
  show Steps p.tables e below (T0.setTop (mkF m 182 #[s0, s1, s2, s3, s4, s5, .val (.int i6), .val (.int i7), .val (.int i8), .val (.int i9), .val (.int i10), .val (.int i11), s12, s13, .val (.ref o14), .val (.ref o15), s16, s17, s18, s19, s20] [])) _
  refine XS.iload X0.here hx rfl (hb hby at_182) rfl ?_
  show Steps p.tables e below (T0.setTop (mkF m 184 #[s0, s1, s2, s3, s4, s5, .val (.int i6), .val (.int i7), .val (.int i8), .val (.int i9), .val (.int i10), .val (.int i11), s12, s13, .val (.ref o14), .val (.ref o15), s16, s17, s18, s19, s20] [(.int i6)])) _
  refine XS.iconst X0.here hx rfl (hb hby at_184) ?_
  show Steps p.tables e below (T0.setTop (mkF m 185 #[s0, s1, s2, s3, s4, s5, .val (.int i6), .val (.int i7), .val (.int i8), .val (.int i9), .val (.int i10), .val (.int i11), s12, s13, .val (.ref o14), .val (.ref o15), s16, s17, s18, s19, s20] [(.int (1 : Int32)), (.int i6)])) _
  refine XS.icmpNo X0.here hx rfl (hb hby at_185) rfl (flt hc185).1 ?_
  show Steps p.tables e below (T0.setTop (mkF m 188 #[s0, s1, s2, s3, s4, s5, .val (.int i6), .val (.int i7), .val (.int i8), .val (.int i9), .val (.int i10), .val (.int i11), s12, s13, .val (.ref o14), .val (.ref o15), s16, s17, s18, s19, s20] [])) _
  refine XS.iload X0.here hx rfl (hb hby at_188) rfl ?_
  show Steps p.tables e below (T0.setTop (mkF m 190 #[s0, s1, s2, s3, s4, s5, .val (.int i6), .val (.int i7), .val (.int i8), .val (.int i9), .val (.int i10), .val (.int i11), s12, s13, .val (.ref o14), .val (.ref o15), s16, s17, s18, s19, s20] [(.int i7)])) _
  refine XS.iload X0.here hx rfl (hb hby at_190) rfl ?_
  show Steps p.tables e below (T0.setTop (mkF m 192 #[s0, s1, s2, s3, s4, s5, .val (.int i6), .val (.int i7), .val (.int i8), .val (.int i9), .val (.int i10), .val (.int i11), s12, s13, .val (.ref o14), .val (.ref o15), s16, s17, s18, s19, s20] [(.int i10), (.int i7)])) _
  refine XS.icmpNo X0.here hx rfl (hb hby at_192) rfl (teq hc192).2 ?_
  show Steps p.tables e below (T0.setTop (mkF m 195 #[s0, s1, s2, s3, s4, s5, .val (.int i6), .val (.int i7), .val (.int i8), .val (.int i9), .val (.int i10), .val (.int i11), s12, s13, .val (.ref o14), .val (.ref o15), s16, s17, s18, s19, s20] [])) _
  refine XS.iload X0.here hx rfl (hb hby at_195) rfl ?_
  show Steps p.tables e below (T0.setTop (mkF m 197 #[s0, s1, s2, s3, s4, s5, .val (.int i6), .val (.int i7), .val (.int i8), .val (.int i9), .val (.int i10), .val (.int i11), s12, s13, .val (.ref o14), .val (.ref o15), s16, s17, s18, s19, s20] [(.int i6)])) _
  refine XS.iconst X0.here hx rfl (hb hby at_197) ?_
  show Steps p.tables e below (T0.setTop (mkF m 198 #[s0, s1, s2, s3, s4, s5, .val (.int i6), .val (.int i7), .val (.int i8), .val (.int i9), .val (.int i10), .val (.int i11), s12, s13, .val (.ref o14), .val (.ref o15), s16, s17, s18, s19, s20] [(.int (2 : Int32)), (.int i6)])) _
  refine XS.icmpYes X0.here hx rfl (pc0 := 198) (pc' := 208) rfl (hb hby at_198) rfl (tlt hc198).1 (by decide) (by decide) ?_
  show Steps p.tables e below (T0.setTop (mkF m 208 #[s0, s1, s2, s3, s4, s5, .val (.int i6), .val (.int i7), .val (.int i8), .val (.int i9), .val (.int i10), .val (.int i11), s12, s13, .val (.ref o14), .val (.ref o15), s16, s17, s18, s19, s20] [])) _
  refine XS.iconst X0.here hx rfl (hb hby at_208) ?_
  show Steps p.tables e below (T0.setTop (mkF m 209 #[s0, s1, s2, s3, s4, s5, .val (.int i6), .val (.int i7), .val (.int i8), .val (.int i9), .val (.int i10), .val (.int i11), s12, s13, .val (.ref o14), .val (.ref o15), s16, s17, s18, s19, s20] [(.int (1 : Int32))])) _
  refine XS.goto X0.here hx rfl (pc0 := 209) (pc' := 213) rfl (hb hby at_209) (by decide) (by decide) ?_
  show Steps p.tables e below (T0.setTop (mkF m 213 #[s0, s1, s2, s3, s4, s5, .val (.int i6), .val (.int i7), .val (.int i8), .val (.int i9), .val (.int i10), .val (.int i11), s12, s13, .val (.ref o14), .val (.ref o15), s16, s17, s18, s19, s20] [(.int (1 : Int32))])) _
  refine XS.istore X0.here hx rfl (hb hby at_213) rfl (l' := #[s0, s1, s2, s3, s4, s5, .val (.int i6), .val (.int i7), .val (.int i8), .val (.int i9), .val (.int i10), .val (.int i11), s12, s13, .val (.ref o14), .val (.ref o15), s16, s17, .val (.int (1 : Int32)), s19, s20]) (os0_213 hs18) ?_
  show Steps p.tables e below (T0.setTop (mkF m 215 #[s0, s1, s2, s3, s4, s5, .val (.int i6), .val (.int i7), .val (.int i8), .val (.int i9), .val (.int i10), .val (.int i11), s12, s13, .val (.ref o14), .val (.ref o15), s16, s17, .val (.int (1 : Int32)), s19, s20] [])) _
  refine XS.iload X0.here hx rfl (hb hby at_215) rfl ?_
  show Steps p.tables e below (T0.setTop (mkF m 217 #[s0, s1, s2, s3, s4, s5, .val (.int i6), .val (.int i7), .val (.int i8), .val (.int i9), .val (.int i10), .val (.int i11), s12, s13, .val (.ref o14), .val (.ref o15), s16, s17, .val (.int (1 : Int32)), s19, s20] [(.int (1 : Int32))])) _
  refine XS.ifNo X0.here hx rfl (hb hby at_217) rfl ((if0 _ _).trans (feq (by decide : ¬ ((1 : Int32) = (0 : Int32)))).1) ?_
  show Steps p.tables e below (T0.setTop (mkF m 220 #[s0, s1, s2, s3, s4, s5, .val (.int i6), .val (.int i7), .val (.int i8), .val (.int i9), .val (.int i10), .val (.int i11), s12, s13, .val (.ref o14), .val (.ref o15), s16, s17, .val (.int (1 : Int32)), s19, s20] [])) _
  refine XS.aload X0.here hx rfl (hb hby at_220) rfl rfl ?_
  show Steps p.tables e below (T0.setTop (mkF m 222 #[s0, s1, s2, s3, s4, s5, .val (.int i6), .val (.int i7), .val (.int i8), .val (.int i9), .val (.int i10), .val (.int i11), s12, s13, .val (.ref o14), .val (.ref o15), s16, s17, .val (.int (1 : Int32)), s19, s20] [(.ref o14)])) _
  refine XS.aload X0.here hx rfl (hb hby at_222) rfl rfl ?_
  show Steps p.tables e below (T0.setTop (mkF m 224 #[s0, s1, s2, s3, s4, s5, .val (.int i6), .val (.int i7), .val (.int i8), .val (.int i9), .val (.int i10), .val (.int i11), s12, s13, .val (.ref o14), .val (.ref o15), s16, s17, .val (.int (1 : Int32)), s19, s20] [(.ref o15), (.ref o14)])) _
  refine Jvm.RoadKit.acmp (g := (mkF m 224 #[s0, s1, s2, s3, s4, s5, .val (.int i6), .val (.int i7), .val (.int i8), .val (.int i9), .val (.int i10), .val (.int i11), s12, s13, .val (.ref o14), .val (.ref o15), s16, s17, .val (.int (1 : Int32)), s19, s20] [(.ref o15), (.ref o14)])) X0 hx rfl rfl rfl (pc0 := 224) (pc' := 231) (same := false) rfl (hb hby at_224) rfl (decide_eq_false fun q => ha224 (Value.ref.inj q)) (by decide) (by decide) ?_
  show Steps p.tables e below (T0.setTop (mkF m 231 #[s0, s1, s2, s3, s4, s5, .val (.int i6), .val (.int i7), .val (.int i8), .val (.int i9), .val (.int i10), .val (.int i11), s12, s13, .val (.ref o14), .val (.ref o15), s16, s17, .val (.int (1 : Int32)), s19, s20] [])) _
  refine XS.iconst X0.here hx rfl (hb hby at_231) ?_
  show Steps p.tables e below (T0.setTop (mkF m 232 #[s0, s1, s2, s3, s4, s5, .val (.int i6), .val (.int i7), .val (.int i8), .val (.int i9), .val (.int i10), .val (.int i11), s12, s13, .val (.ref o14), .val (.ref o15), s16, s17, .val (.int (1 : Int32)), s19, s20] [(.int (0 : Int32))])) _
  refine XS.istore X0.here hx rfl (hb hby at_232) rfl (l' := #[s0, s1, s2, s3, s4, s5, .val (.int i6), .val (.int i7), .val (.int i8), .val (.int i9), .val (.int i10), .val (.int i11), s12, s13, .val (.ref o14), .val (.ref o15), s16, s17, .val (.int (1 : Int32)), .val (.int (0 : Int32)), s20]) (os0_232 hs19) ?_
  exact kt
set_option maxRecDepth 65536 in
set_option maxHeartbeats 40000000 in
theorem pc175_fftt {p : Program} {l : Launch} {e : Env} {R : Room} {s : State} {m : MethodId} {args : Array Value} {below : List Frame} {meth : Method} {c : Code} {T0 : State} {locs : List Loc} {cells slots : Nat} {Z : State} {a0 : Array Value} {h0 : Heap} (s0 : Slot) (s1 : Slot) (s2 : Slot) (s3 : Slot) (s4 : Slot) (s5 : Slot) (i6 : Int32) (i7 : Int32) (i8 : Int32) (i9 : Int32) (i10 : Int32) (i11 : Int32) (s12 : Slot) (s13 : Slot) (o14 : Addr) (o15 : Addr) (s16 : Slot) (s17 : Slot) (s18 : Slot) (s19 : Slot) (s20 : Slot)
    (X0 : Stand p l e R s m args below meth c T0 locs cells slots) (hx : p.tables.exec = Jvm.exec) (hZ : Z.Warmed39 s.vm) (hw : ∀ d ∈ tables_1, d.before a0 Z = true) (hby : c.code = code) (hml : c.maxLocals = 21) (hown : s.vm.findClass "com/example/niyama/niyama/relational/model/AttributeEqualsPinLaw" = some m.cls) (e0 : T0.heap = h0) (hs18 : One s18) (hs19 : One s19) (hc179 : i6 = i9) (hc185 : ¬ (i6 < (1 : Int32))) (hc192 : ¬ (i7 = i10)) :
    ∃ (T' : State), Stand p l e R s m args below meth c T' locs cells slots ∧ T'.heap = h0 ∧
      ∀ target, Steps p.tables e below (T'.setTop (mkF m 234 #[s0, s1, s2, s3, s4, s5, .val (.int i6), .val (.int i7), .val (.int i8), .val (.int i9), .val (.int i10), .val (.int i11), s12, s13, .val (.ref o14), .val (.ref o15), s16, s17, .val (.int (0 : Int32)), .val (.int (0 : Int32)), s20] [])) target → Steps p.tables e below (T0.setTop (mkF m 175 #[s0, s1, s2, s3, s4, s5, .val (.int i6), .val (.int i7), .val (.int i8), .val (.int i9), .val (.int i10), .val (.int i11), s12, s13, .val (.ref o14), .val (.ref o15), s16, s17, s18, s19, s20] [])) target := by

  refine ⟨T0, X0, e0, fun target kt => ?_⟩
  show Steps p.tables e below (T0.setTop (mkF m 175 #[s0, s1, s2, s3, s4, s5, .val (.int i6), .val (.int i7), .val (.int i8), .val (.int i9), .val (.int i10), .val (.int i11), s12, s13, .val (.ref o14), .val (.ref o15), s16, s17, s18, s19, s20] [])) _
  refine XS.iload X0.here hx rfl (hb hby at_175) rfl ?_
  show Steps p.tables e below (T0.setTop (mkF m 177 #[s0, s1, s2, s3, s4, s5, .val (.int i6), .val (.int i7), .val (.int i8), .val (.int i9), .val (.int i10), .val (.int i11), s12, s13, .val (.ref o14), .val (.ref o15), s16, s17, s18, s19, s20] [(.int i6)])) _
  refine XS.iload X0.here hx rfl (hb hby at_177) rfl ?_
  show Steps p.tables e below (T0.setTop (mkF m 179 #[s0, s1, s2, s3, s4, s5, .val (.int i6), .val (.int i7), .val (.int i8), .val (.int i9), .val (.int i10), .val (.int i11), s12, s13, .val (.ref o14), .val (.ref o15), s16, s17, s18, s19, s20] [(.int i9), (.int i6)])) _
  refine XS.icmpNo X0.here hx rfl (hb hby at_179) rfl (teq hc179).2 ?_
  show Steps p.tables e below (T0.setTop (mkF m 182 #[s0, s1, s2, s3, s4, s5, .val (.int i6), .val (.int i7), .val (.int i8), .val (.int i9), .val (.int i10), .val (.int i11), s12, s13, .val (.ref o14), .val (.ref o15), s16, s17, s18, s19, s20] [])) _
  refine XS.iload X0.here hx rfl (hb hby at_182) rfl ?_
  show Steps p.tables e below (T0.setTop (mkF m 184 #[s0, s1, s2, s3, s4, s5, .val (.int i6), .val (.int i7), .val (.int i8), .val (.int i9), .val (.int i10), .val (.int i11), s12, s13, .val (.ref o14), .val (.ref o15), s16, s17, s18, s19, s20] [(.int i6)])) _
  refine XS.iconst X0.here hx rfl (hb hby at_184) ?_
  show Steps p.tables e below (T0.setTop (mkF m 185 #[s0, s1, s2, s3, s4, s5, .val (.int i6), .val (.int i7), .val (.int i8), .val (.int i9), .val (.int i10), .val (.int i11), s12, s13, .val (.ref o14), .val (.ref o15), s16, s17, s18, s19, s20] [(.int (1 : Int32)), (.int i6)])) _
  refine XS.icmpNo X0.here hx rfl (hb hby at_185) rfl (flt hc185).1 ?_
  show Steps p.tables e below (T0.setTop (mkF m 188 #[s0, s1, s2, s3, s4, s5, .val (.int i6), .val (.int i7), .val (.int i8), .val (.int i9), .val (.int i10), .val (.int i11), s12, s13, .val (.ref o14), .val (.ref o15), s16, s17, s18, s19, s20] [])) _
  refine XS.iload X0.here hx rfl (hb hby at_188) rfl ?_
  show Steps p.tables e below (T0.setTop (mkF m 190 #[s0, s1, s2, s3, s4, s5, .val (.int i6), .val (.int i7), .val (.int i8), .val (.int i9), .val (.int i10), .val (.int i11), s12, s13, .val (.ref o14), .val (.ref o15), s16, s17, s18, s19, s20] [(.int i7)])) _
  refine XS.iload X0.here hx rfl (hb hby at_190) rfl ?_
  show Steps p.tables e below (T0.setTop (mkF m 192 #[s0, s1, s2, s3, s4, s5, .val (.int i6), .val (.int i7), .val (.int i8), .val (.int i9), .val (.int i10), .val (.int i11), s12, s13, .val (.ref o14), .val (.ref o15), s16, s17, s18, s19, s20] [(.int i10), (.int i7)])) _
  refine XS.icmpYes X0.here hx rfl (pc0 := 192) (pc' := 212) rfl (hb hby at_192) rfl (feq hc192).2 (by decide) (by decide) ?_
  show Steps p.tables e below (T0.setTop (mkF m 212 #[s0, s1, s2, s3, s4, s5, .val (.int i6), .val (.int i7), .val (.int i8), .val (.int i9), .val (.int i10), .val (.int i11), s12, s13, .val (.ref o14), .val (.ref o15), s16, s17, s18, s19, s20] [])) _
  refine XS.iconst X0.here hx rfl (hb hby at_212) ?_
  show Steps p.tables e below (T0.setTop (mkF m 213 #[s0, s1, s2, s3, s4, s5, .val (.int i6), .val (.int i7), .val (.int i8), .val (.int i9), .val (.int i10), .val (.int i11), s12, s13, .val (.ref o14), .val (.ref o15), s16, s17, s18, s19, s20] [(.int (0 : Int32))])) _
  refine XS.istore X0.here hx rfl (hb hby at_213) rfl (l' := #[s0, s1, s2, s3, s4, s5, .val (.int i6), .val (.int i7), .val (.int i8), .val (.int i9), .val (.int i10), .val (.int i11), s12, s13, .val (.ref o14), .val (.ref o15), s16, s17, .val (.int (0 : Int32)), s19, s20]) (os0_213 hs18) ?_
  show Steps p.tables e below (T0.setTop (mkF m 215 #[s0, s1, s2, s3, s4, s5, .val (.int i6), .val (.int i7), .val (.int i8), .val (.int i9), .val (.int i10), .val (.int i11), s12, s13, .val (.ref o14), .val (.ref o15), s16, s17, .val (.int (0 : Int32)), s19, s20] [])) _
  refine XS.iload X0.here hx rfl (hb hby at_215) rfl ?_
  show Steps p.tables e below (T0.setTop (mkF m 217 #[s0, s1, s2, s3, s4, s5, .val (.int i6), .val (.int i7), .val (.int i8), .val (.int i9), .val (.int i10), .val (.int i11), s12, s13, .val (.ref o14), .val (.ref o15), s16, s17, .val (.int (0 : Int32)), s19, s20] [(.int (0 : Int32))])) _
  refine XS.ifYes X0.here hx rfl (pc0 := 217) (pc' := 231) rfl (hb hby at_217) rfl ((if0 _ _).trans (teq (by decide : (0 : Int32) = (0 : Int32))).1) (by decide) (by decide) ?_
  show Steps p.tables e below (T0.setTop (mkF m 231 #[s0, s1, s2, s3, s4, s5, .val (.int i6), .val (.int i7), .val (.int i8), .val (.int i9), .val (.int i10), .val (.int i11), s12, s13, .val (.ref o14), .val (.ref o15), s16, s17, .val (.int (0 : Int32)), s19, s20] [])) _
  refine XS.iconst X0.here hx rfl (hb hby at_231) ?_
  show Steps p.tables e below (T0.setTop (mkF m 232 #[s0, s1, s2, s3, s4, s5, .val (.int i6), .val (.int i7), .val (.int i8), .val (.int i9), .val (.int i10), .val (.int i11), s12, s13, .val (.ref o14), .val (.ref o15), s16, s17, .val (.int (0 : Int32)), s19, s20] [(.int (0 : Int32))])) _
  refine XS.istore X0.here hx rfl (hb hby at_232) rfl (l' := #[s0, s1, s2, s3, s4, s5, .val (.int i6), .val (.int i7), .val (.int i8), .val (.int i9), .val (.int i10), .val (.int i11), s12, s13, .val (.ref o14), .val (.ref o15), s16, s17, .val (.int (0 : Int32)), .val (.int (0 : Int32)), s20]) (os0_232 hs19) ?_
  exact kt
set_option maxRecDepth 65536 in
set_option maxHeartbeats 40000000 in
theorem pc175_ftffff {p : Program} {l : Launch} {e : Env} {R : Room} {s : State} {m : MethodId} {args : Array Value} {below : List Frame} {meth : Method} {c : Code} {T0 : State} {locs : List Loc} {cells slots : Nat} {Z : State} {a0 : Array Value} {h0 : Heap} (s0 : Slot) (s1 : Slot) (s2 : Slot) (s3 : Slot) (s4 : Slot) (s5 : Slot) (i6 : Int32) (i7 : Int32) (i8 : Int32) (i9 : Int32) (i10 : Int32) (i11 : Int32) (s12 : Slot) (s13 : Slot) (o14 : Addr) (o15 : Addr) (s16 : Slot) (s17 : Slot) (s18 : Slot) (s19 : Slot) (s20 : Slot)
    (X0 : Stand p l e R s m args below meth c T0 locs cells slots) (hx : p.tables.exec = Jvm.exec) (hZ : Z.Warmed39 s.vm) (hw : ∀ d ∈ tables_1, d.before a0 Z = true) (hby : c.code = code) (hml : c.maxLocals = 21) (hown : s.vm.findClass "com/example/niyama/niyama/relational/model/AttributeEqualsPinLaw" = some m.cls) (e0 : T0.heap = h0) (hs18 : One s18) (hs19 : One s19) (hc179 : i6 = i9) (hc185 : i6 < (1 : Int32)) (hc198 : ¬ (i6 < (2 : Int32))) (hc205 : i8 = i11) (ha224 : o14 = o15) :
    ∃ (T' : State), Stand p l e R s m args below meth c T' locs cells slots ∧ T'.heap = h0 ∧
      ∀ target, Steps p.tables e below (T'.setTop (mkF m 234 #[s0, s1, s2, s3, s4, s5, .val (.int i6), .val (.int i7), .val (.int i8), .val (.int i9), .val (.int i10), .val (.int i11), s12, s13, .val (.ref o14), .val (.ref o15), s16, s17, .val (.int (1 : Int32)), .val (.int (1 : Int32)), s20] [])) target → Steps p.tables e below (T0.setTop (mkF m 175 #[s0, s1, s2, s3, s4, s5, .val (.int i6), .val (.int i7), .val (.int i8), .val (.int i9), .val (.int i10), .val (.int i11), s12, s13, .val (.ref o14), .val (.ref o15), s16, s17, s18, s19, s20] [])) target := by

  refine ⟨T0, X0, e0, fun target kt => ?_⟩
  show Steps p.tables e below (T0.setTop (mkF m 175 #[s0, s1, s2, s3, s4, s5, .val (.int i6), .val (.int i7), .val (.int i8), .val (.int i9), .val (.int i10), .val (.int i11), s12, s13, .val (.ref o14), .val (.ref o15), s16, s17, s18, s19, s20] [])) _
  refine XS.iload X0.here hx rfl (hb hby at_175) rfl ?_
  show Steps p.tables e below (T0.setTop (mkF m 177 #[s0, s1, s2, s3, s4, s5, .val (.int i6), .val (.int i7), .val (.int i8), .val (.int i9), .val (.int i10), .val (.int i11), s12, s13, .val (.ref o14), .val (.ref o15), s16, s17, s18, s19, s20] [(.int i6)])) _
  refine XS.iload X0.here hx rfl (hb hby at_177) rfl ?_
  show Steps p.tables e below (T0.setTop (mkF m 179 #[s0, s1, s2, s3, s4, s5, .val (.int i6), .val (.int i7), .val (.int i8), .val (.int i9), .val (.int i10), .val (.int i11), s12, s13, .val (.ref o14), .val (.ref o15), s16, s17, s18, s19, s20] [(.int i9), (.int i6)])) _
  refine XS.icmpNo X0.here hx rfl (hb hby at_179) rfl (teq hc179).2 ?_
  show Steps p.tables e below (T0.setTop (mkF m 182 #[s0, s1, s2, s3, s4, s5, .val (.int i6), .val (.int i7), .val (.int i8), .val (.int i9), .val (.int i10), .val (.int i11), s12, s13, .val (.ref o14), .val (.ref o15), s16, s17, s18, s19, s20] [])) _
  refine XS.iload X0.here hx rfl (hb hby at_182) rfl ?_
  show Steps p.tables e below (T0.setTop (mkF m 184 #[s0, s1, s2, s3, s4, s5, .val (.int i6), .val (.int i7), .val (.int i8), .val (.int i9), .val (.int i10), .val (.int i11), s12, s13, .val (.ref o14), .val (.ref o15), s16, s17, s18, s19, s20] [(.int i6)])) _
  refine XS.iconst X0.here hx rfl (hb hby at_184) ?_
  show Steps p.tables e below (T0.setTop (mkF m 185 #[s0, s1, s2, s3, s4, s5, .val (.int i6), .val (.int i7), .val (.int i8), .val (.int i9), .val (.int i10), .val (.int i11), s12, s13, .val (.ref o14), .val (.ref o15), s16, s17, s18, s19, s20] [(.int (1 : Int32)), (.int i6)])) _
  refine XS.icmpYes X0.here hx rfl (pc0 := 185) (pc' := 195) rfl (hb hby at_185) rfl (tlt hc185).1 (by decide) (by decide) ?_
  show Steps p.tables e below (T0.setTop (mkF m 195 #[s0, s1, s2, s3, s4, s5, .val (.int i6), .val (.int i7), .val (.int i8), .val (.int i9), .val (.int i10), .val (.int i11), s12, s13, .val (.ref o14), .val (.ref o15), s16, s17, s18, s19, s20] [])) _
  refine XS.iload X0.here hx rfl (hb hby at_195) rfl ?_
  show Steps p.tables e below (T0.setTop (mkF m 197 #[s0, s1, s2, s3, s4, s5, .val (.int i6), .val (.int i7), .val (.int i8), .val (.int i9), .val (.int i10), .val (.int i11), s12, s13, .val (.ref o14), .val (.ref o15), s16, s17, s18, s19, s20] [(.int i6)])) _
  refine XS.iconst X0.here hx rfl (hb hby at_197) ?_
  show Steps p.tables e below (T0.setTop (mkF m 198 #[s0, s1, s2, s3, s4, s5, .val (.int i6), .val (.int i7), .val (.int i8), .val (.int i9), .val (.int i10), .val (.int i11), s12, s13, .val (.ref o14), .val (.ref o15), s16, s17, s18, s19, s20] [(.int (2 : Int32)), (.int i6)])) _
  refine XS.icmpNo X0.here hx rfl (hb hby at_198) rfl (flt hc198).1 ?_
  show Steps p.tables e below (T0.setTop (mkF m 201 #[s0, s1, s2, s3, s4, s5, .val (.int i6), .val (.int i7), .val (.int i8), .val (.int i9), .val (.int i10), .val (.int i11), s12, s13, .val (.ref o14), .val (.ref o15), s16, s17, s18, s19, s20] [])) _
  refine XS.iload X0.here hx rfl (hb hby at_201) rfl ?_
  show Steps p.tables e below (T0.setTop (mkF m 203 #[s0, s1, s2, s3, s4, s5, .val (.int i6), .val (.int i7), .val (.int i8), .val (.int i9), .val (.int i10), .val (.int i11), s12, s13, .val (.ref o14), .val (.ref o15), s16, s17, s18, s19, s20] [(.int i8)])) _
  refine XS.iload X0.here hx rfl (hb hby at_203) rfl ?_
  show Steps p.tables e below (T0.setTop (mkF m 205 #[s0, s1, s2, s3, s4, s5, .val (.int i6), .val (.int i7), .val (.int i8), .val (.int i9), .val (.int i10), .val (.int i11), s12, s13, .val (.ref o14), .val (.ref o15), s16, s17, s18, s19, s20] [(.int i11), (.int i8)])) _
  refine XS.icmpNo X0.here hx rfl (hb hby at_205) rfl (teq hc205).2 ?_
  show Steps p.tables e below (T0.setTop (mkF m 208 #[s0, s1, s2, s3, s4, s5, .val (.int i6), .val (.int i7), .val (.int i8), .val (.int i9), .val (.int i10), .val (.int i11), s12, s13, .val (.ref o14), .val (.ref o15), s16, s17, s18, s19, s20] [])) _
  refine XS.iconst X0.here hx rfl (hb hby at_208) ?_
  show Steps p.tables e below (T0.setTop (mkF m 209 #[s0, s1, s2, s3, s4, s5, .val (.int i6), .val (.int i7), .val (.int i8), .val (.int i9), .val (.int i10), .val (.int i11), s12, s13, .val (.ref o14), .val (.ref o15), s16, s17, s18, s19, s20] [(.int (1 : Int32))])) _
  refine XS.goto X0.here hx rfl (pc0 := 209) (pc' := 213) rfl (hb hby at_209) (by decide) (by decide) ?_
  show Steps p.tables e below (T0.setTop (mkF m 213 #[s0, s1, s2, s3, s4, s5, .val (.int i6), .val (.int i7), .val (.int i8), .val (.int i9), .val (.int i10), .val (.int i11), s12, s13, .val (.ref o14), .val (.ref o15), s16, s17, s18, s19, s20] [(.int (1 : Int32))])) _
  refine XS.istore X0.here hx rfl (hb hby at_213) rfl (l' := #[s0, s1, s2, s3, s4, s5, .val (.int i6), .val (.int i7), .val (.int i8), .val (.int i9), .val (.int i10), .val (.int i11), s12, s13, .val (.ref o14), .val (.ref o15), s16, s17, .val (.int (1 : Int32)), s19, s20]) (os0_213 hs18) ?_
  show Steps p.tables e below (T0.setTop (mkF m 215 #[s0, s1, s2, s3, s4, s5, .val (.int i6), .val (.int i7), .val (.int i8), .val (.int i9), .val (.int i10), .val (.int i11), s12, s13, .val (.ref o14), .val (.ref o15), s16, s17, .val (.int (1 : Int32)), s19, s20] [])) _
  refine XS.iload X0.here hx rfl (hb hby at_215) rfl ?_
  show Steps p.tables e below (T0.setTop (mkF m 217 #[s0, s1, s2, s3, s4, s5, .val (.int i6), .val (.int i7), .val (.int i8), .val (.int i9), .val (.int i10), .val (.int i11), s12, s13, .val (.ref o14), .val (.ref o15), s16, s17, .val (.int (1 : Int32)), s19, s20] [(.int (1 : Int32))])) _
  refine XS.ifNo X0.here hx rfl (hb hby at_217) rfl ((if0 _ _).trans (feq (by decide : ¬ ((1 : Int32) = (0 : Int32)))).1) ?_
  show Steps p.tables e below (T0.setTop (mkF m 220 #[s0, s1, s2, s3, s4, s5, .val (.int i6), .val (.int i7), .val (.int i8), .val (.int i9), .val (.int i10), .val (.int i11), s12, s13, .val (.ref o14), .val (.ref o15), s16, s17, .val (.int (1 : Int32)), s19, s20] [])) _
  refine XS.aload X0.here hx rfl (hb hby at_220) rfl rfl ?_
  show Steps p.tables e below (T0.setTop (mkF m 222 #[s0, s1, s2, s3, s4, s5, .val (.int i6), .val (.int i7), .val (.int i8), .val (.int i9), .val (.int i10), .val (.int i11), s12, s13, .val (.ref o14), .val (.ref o15), s16, s17, .val (.int (1 : Int32)), s19, s20] [(.ref o14)])) _
  refine XS.aload X0.here hx rfl (hb hby at_222) rfl rfl ?_
  show Steps p.tables e below (T0.setTop (mkF m 224 #[s0, s1, s2, s3, s4, s5, .val (.int i6), .val (.int i7), .val (.int i8), .val (.int i9), .val (.int i10), .val (.int i11), s12, s13, .val (.ref o14), .val (.ref o15), s16, s17, .val (.int (1 : Int32)), s19, s20] [(.ref o15), (.ref o14)])) _
  refine Jvm.RoadKit.acmp (g := (mkF m 224 #[s0, s1, s2, s3, s4, s5, .val (.int i6), .val (.int i7), .val (.int i8), .val (.int i9), .val (.int i10), .val (.int i11), s12, s13, .val (.ref o14), .val (.ref o15), s16, s17, .val (.int (1 : Int32)), s19, s20] [(.ref o15), (.ref o14)])) X0 hx rfl rfl rfl (pc0 := 224) (pc' := 227) (same := true) rfl (hb hby at_224) rfl (decide_eq_true (congrArg Value.ref ha224)) (by decide) (by decide) ?_
  show Steps p.tables e below (T0.setTop (mkF m 227 #[s0, s1, s2, s3, s4, s5, .val (.int i6), .val (.int i7), .val (.int i8), .val (.int i9), .val (.int i10), .val (.int i11), s12, s13, .val (.ref o14), .val (.ref o15), s16, s17, .val (.int (1 : Int32)), s19, s20] [])) _
  refine XS.iconst X0.here hx rfl (hb hby at_227) ?_
  show Steps p.tables e below (T0.setTop (mkF m 228 #[s0, s1, s2, s3, s4, s5, .val (.int i6), .val (.int i7), .val (.int i8), .val (.int i9), .val (.int i10), .val (.int i11), s12, s13, .val (.ref o14), .val (.ref o15), s16, s17, .val (.int (1 : Int32)), s19, s20] [(.int (1 : Int32))])) _
  refine XS.goto X0.here hx rfl (pc0 := 228) (pc' := 232) rfl (hb hby at_228) (by decide) (by decide) ?_
  show Steps p.tables e below (T0.setTop (mkF m 232 #[s0, s1, s2, s3, s4, s5, .val (.int i6), .val (.int i7), .val (.int i8), .val (.int i9), .val (.int i10), .val (.int i11), s12, s13, .val (.ref o14), .val (.ref o15), s16, s17, .val (.int (1 : Int32)), s19, s20] [(.int (1 : Int32))])) _
  refine XS.istore X0.here hx rfl (hb hby at_232) rfl (l' := #[s0, s1, s2, s3, s4, s5, .val (.int i6), .val (.int i7), .val (.int i8), .val (.int i9), .val (.int i10), .val (.int i11), s12, s13, .val (.ref o14), .val (.ref o15), s16, s17, .val (.int (1 : Int32)), .val (.int (1 : Int32)), s20]) (os0_232 hs19) ?_
  exact kt
set_option maxRecDepth 65536 in
set_option maxHeartbeats 40000000 in
theorem pc175_ftffft {p : Program} {l : Launch} {e : Env} {R : Room} {s : State} {m : MethodId} {args : Array Value} {below : List Frame} {meth : Method} {c : Code} {T0 : State} {locs : List Loc} {cells slots : Nat} {Z : State} {a0 : Array Value} {h0 : Heap} (s0 : Slot) (s1 : Slot) (s2 : Slot) (s3 : Slot) (s4 : Slot) (s5 : Slot) (i6 : Int32) (i7 : Int32) (i8 : Int32) (i9 : Int32) (i10 : Int32) (i11 : Int32) (s12 : Slot) (s13 : Slot) (o14 : Addr) (o15 : Addr) (s16 : Slot) (s17 : Slot) (s18 : Slot) (s19 : Slot) (s20 : Slot)
    (X0 : Stand p l e R s m args below meth c T0 locs cells slots) (hx : p.tables.exec = Jvm.exec) (hZ : Z.Warmed39 s.vm) (hw : ∀ d ∈ tables_1, d.before a0 Z = true) (hby : c.code = code) (hml : c.maxLocals = 21) (hown : s.vm.findClass "com/example/niyama/niyama/relational/model/AttributeEqualsPinLaw" = some m.cls) (e0 : T0.heap = h0) (hs18 : One s18) (hs19 : One s19) (hc179 : i6 = i9) (hc185 : i6 < (1 : Int32)) (hc198 : ¬ (i6 < (2 : Int32))) (hc205 : i8 = i11) (ha224 : ¬ (o14 = o15)) :
    ∃ (T' : State), Stand p l e R s m args below meth c T' locs cells slots ∧ T'.heap = h0 ∧
      ∀ target, Steps p.tables e below (T'.setTop (mkF m 234 #[s0, s1, s2, s3, s4, s5, .val (.int i6), .val (.int i7), .val (.int i8), .val (.int i9), .val (.int i10), .val (.int i11), s12, s13, .val (.ref o14), .val (.ref o15), s16, s17, .val (.int (1 : Int32)), .val (.int (0 : Int32)), s20] [])) target → Steps p.tables e below (T0.setTop (mkF m 175 #[s0, s1, s2, s3, s4, s5, .val (.int i6), .val (.int i7), .val (.int i8), .val (.int i9), .val (.int i10), .val (.int i11), s12, s13, .val (.ref o14), .val (.ref o15), s16, s17, s18, s19, s20] [])) target := by

  refine ⟨T0, X0, e0, fun target kt => ?_⟩
  show Steps p.tables e below (T0.setTop (mkF m 175 #[s0, s1, s2, s3, s4, s5, .val (.int i6), .val (.int i7), .val (.int i8), .val (.int i9), .val (.int i10), .val (.int i11), s12, s13, .val (.ref o14), .val (.ref o15), s16, s17, s18, s19, s20] [])) _
  refine XS.iload X0.here hx rfl (hb hby at_175) rfl ?_
  show Steps p.tables e below (T0.setTop (mkF m 177 #[s0, s1, s2, s3, s4, s5, .val (.int i6), .val (.int i7), .val (.int i8), .val (.int i9), .val (.int i10), .val (.int i11), s12, s13, .val (.ref o14), .val (.ref o15), s16, s17, s18, s19, s20] [(.int i6)])) _
  refine XS.iload X0.here hx rfl (hb hby at_177) rfl ?_
  show Steps p.tables e below (T0.setTop (mkF m 179 #[s0, s1, s2, s3, s4, s5, .val (.int i6), .val (.int i7), .val (.int i8), .val (.int i9), .val (.int i10), .val (.int i11), s12, s13, .val (.ref o14), .val (.ref o15), s16, s17, s18, s19, s20] [(.int i9), (.int i6)])) _
  refine XS.icmpNo X0.here hx rfl (hb hby at_179) rfl (teq hc179).2 ?_
  show Steps p.tables e below (T0.setTop (mkF m 182 #[s0, s1, s2, s3, s4, s5, .val (.int i6), .val (.int i7), .val (.int i8), .val (.int i9), .val (.int i10), .val (.int i11), s12, s13, .val (.ref o14), .val (.ref o15), s16, s17, s18, s19, s20] [])) _
  refine XS.iload X0.here hx rfl (hb hby at_182) rfl ?_
  show Steps p.tables e below (T0.setTop (mkF m 184 #[s0, s1, s2, s3, s4, s5, .val (.int i6), .val (.int i7), .val (.int i8), .val (.int i9), .val (.int i10), .val (.int i11), s12, s13, .val (.ref o14), .val (.ref o15), s16, s17, s18, s19, s20] [(.int i6)])) _
  refine XS.iconst X0.here hx rfl (hb hby at_184) ?_
  show Steps p.tables e below (T0.setTop (mkF m 185 #[s0, s1, s2, s3, s4, s5, .val (.int i6), .val (.int i7), .val (.int i8), .val (.int i9), .val (.int i10), .val (.int i11), s12, s13, .val (.ref o14), .val (.ref o15), s16, s17, s18, s19, s20] [(.int (1 : Int32)), (.int i6)])) _
  refine XS.icmpYes X0.here hx rfl (pc0 := 185) (pc' := 195) rfl (hb hby at_185) rfl (tlt hc185).1 (by decide) (by decide) ?_
  show Steps p.tables e below (T0.setTop (mkF m 195 #[s0, s1, s2, s3, s4, s5, .val (.int i6), .val (.int i7), .val (.int i8), .val (.int i9), .val (.int i10), .val (.int i11), s12, s13, .val (.ref o14), .val (.ref o15), s16, s17, s18, s19, s20] [])) _
  refine XS.iload X0.here hx rfl (hb hby at_195) rfl ?_
  show Steps p.tables e below (T0.setTop (mkF m 197 #[s0, s1, s2, s3, s4, s5, .val (.int i6), .val (.int i7), .val (.int i8), .val (.int i9), .val (.int i10), .val (.int i11), s12, s13, .val (.ref o14), .val (.ref o15), s16, s17, s18, s19, s20] [(.int i6)])) _
  refine XS.iconst X0.here hx rfl (hb hby at_197) ?_
  show Steps p.tables e below (T0.setTop (mkF m 198 #[s0, s1, s2, s3, s4, s5, .val (.int i6), .val (.int i7), .val (.int i8), .val (.int i9), .val (.int i10), .val (.int i11), s12, s13, .val (.ref o14), .val (.ref o15), s16, s17, s18, s19, s20] [(.int (2 : Int32)), (.int i6)])) _
  refine XS.icmpNo X0.here hx rfl (hb hby at_198) rfl (flt hc198).1 ?_
  show Steps p.tables e below (T0.setTop (mkF m 201 #[s0, s1, s2, s3, s4, s5, .val (.int i6), .val (.int i7), .val (.int i8), .val (.int i9), .val (.int i10), .val (.int i11), s12, s13, .val (.ref o14), .val (.ref o15), s16, s17, s18, s19, s20] [])) _
  refine XS.iload X0.here hx rfl (hb hby at_201) rfl ?_
  show Steps p.tables e below (T0.setTop (mkF m 203 #[s0, s1, s2, s3, s4, s5, .val (.int i6), .val (.int i7), .val (.int i8), .val (.int i9), .val (.int i10), .val (.int i11), s12, s13, .val (.ref o14), .val (.ref o15), s16, s17, s18, s19, s20] [(.int i8)])) _
  refine XS.iload X0.here hx rfl (hb hby at_203) rfl ?_
  show Steps p.tables e below (T0.setTop (mkF m 205 #[s0, s1, s2, s3, s4, s5, .val (.int i6), .val (.int i7), .val (.int i8), .val (.int i9), .val (.int i10), .val (.int i11), s12, s13, .val (.ref o14), .val (.ref o15), s16, s17, s18, s19, s20] [(.int i11), (.int i8)])) _
  refine XS.icmpNo X0.here hx rfl (hb hby at_205) rfl (teq hc205).2 ?_
  show Steps p.tables e below (T0.setTop (mkF m 208 #[s0, s1, s2, s3, s4, s5, .val (.int i6), .val (.int i7), .val (.int i8), .val (.int i9), .val (.int i10), .val (.int i11), s12, s13, .val (.ref o14), .val (.ref o15), s16, s17, s18, s19, s20] [])) _
  refine XS.iconst X0.here hx rfl (hb hby at_208) ?_
  show Steps p.tables e below (T0.setTop (mkF m 209 #[s0, s1, s2, s3, s4, s5, .val (.int i6), .val (.int i7), .val (.int i8), .val (.int i9), .val (.int i10), .val (.int i11), s12, s13, .val (.ref o14), .val (.ref o15), s16, s17, s18, s19, s20] [(.int (1 : Int32))])) _
  refine XS.goto X0.here hx rfl (pc0 := 209) (pc' := 213) rfl (hb hby at_209) (by decide) (by decide) ?_
  show Steps p.tables e below (T0.setTop (mkF m 213 #[s0, s1, s2, s3, s4, s5, .val (.int i6), .val (.int i7), .val (.int i8), .val (.int i9), .val (.int i10), .val (.int i11), s12, s13, .val (.ref o14), .val (.ref o15), s16, s17, s18, s19, s20] [(.int (1 : Int32))])) _
  refine XS.istore X0.here hx rfl (hb hby at_213) rfl (l' := #[s0, s1, s2, s3, s4, s5, .val (.int i6), .val (.int i7), .val (.int i8), .val (.int i9), .val (.int i10), .val (.int i11), s12, s13, .val (.ref o14), .val (.ref o15), s16, s17, .val (.int (1 : Int32)), s19, s20]) (os0_213 hs18) ?_
  show Steps p.tables e below (T0.setTop (mkF m 215 #[s0, s1, s2, s3, s4, s5, .val (.int i6), .val (.int i7), .val (.int i8), .val (.int i9), .val (.int i10), .val (.int i11), s12, s13, .val (.ref o14), .val (.ref o15), s16, s17, .val (.int (1 : Int32)), s19, s20] [])) _
  refine XS.iload X0.here hx rfl (hb hby at_215) rfl ?_
  show Steps p.tables e below (T0.setTop (mkF m 217 #[s0, s1, s2, s3, s4, s5, .val (.int i6), .val (.int i7), .val (.int i8), .val (.int i9), .val (.int i10), .val (.int i11), s12, s13, .val (.ref o14), .val (.ref o15), s16, s17, .val (.int (1 : Int32)), s19, s20] [(.int (1 : Int32))])) _
  refine XS.ifNo X0.here hx rfl (hb hby at_217) rfl ((if0 _ _).trans (feq (by decide : ¬ ((1 : Int32) = (0 : Int32)))).1) ?_
  show Steps p.tables e below (T0.setTop (mkF m 220 #[s0, s1, s2, s3, s4, s5, .val (.int i6), .val (.int i7), .val (.int i8), .val (.int i9), .val (.int i10), .val (.int i11), s12, s13, .val (.ref o14), .val (.ref o15), s16, s17, .val (.int (1 : Int32)), s19, s20] [])) _
  refine XS.aload X0.here hx rfl (hb hby at_220) rfl rfl ?_
  show Steps p.tables e below (T0.setTop (mkF m 222 #[s0, s1, s2, s3, s4, s5, .val (.int i6), .val (.int i7), .val (.int i8), .val (.int i9), .val (.int i10), .val (.int i11), s12, s13, .val (.ref o14), .val (.ref o15), s16, s17, .val (.int (1 : Int32)), s19, s20] [(.ref o14)])) _
  refine XS.aload X0.here hx rfl (hb hby at_222) rfl rfl ?_
  show Steps p.tables e below (T0.setTop (mkF m 224 #[s0, s1, s2, s3, s4, s5, .val (.int i6), .val (.int i7), .val (.int i8), .val (.int i9), .val (.int i10), .val (.int i11), s12, s13, .val (.ref o14), .val (.ref o15), s16, s17, .val (.int (1 : Int32)), s19, s20] [(.ref o15), (.ref o14)])) _
  refine Jvm.RoadKit.acmp (g := (mkF m 224 #[s0, s1, s2, s3, s4, s5, .val (.int i6), .val (.int i7), .val (.int i8), .val (.int i9), .val (.int i10), .val (.int i11), s12, s13, .val (.ref o14), .val (.ref o15), s16, s17, .val (.int (1 : Int32)), s19, s20] [(.ref o15), (.ref o14)])) X0 hx rfl rfl rfl (pc0 := 224) (pc' := 231) (same := false) rfl (hb hby at_224) rfl (decide_eq_false fun q => ha224 (Value.ref.inj q)) (by decide) (by decide) ?_
  show Steps p.tables e below (T0.setTop (mkF m 231 #[s0, s1, s2, s3, s4, s5, .val (.int i6), .val (.int i7), .val (.int i8), .val (.int i9), .val (.int i10), .val (.int i11), s12, s13, .val (.ref o14), .val (.ref o15), s16, s17, .val (.int (1 : Int32)), s19, s20] [])) _
  refine XS.iconst X0.here hx rfl (hb hby at_231) ?_
  show Steps p.tables e below (T0.setTop (mkF m 232 #[s0, s1, s2, s3, s4, s5, .val (.int i6), .val (.int i7), .val (.int i8), .val (.int i9), .val (.int i10), .val (.int i11), s12, s13, .val (.ref o14), .val (.ref o15), s16, s17, .val (.int (1 : Int32)), s19, s20] [(.int (0 : Int32))])) _
  refine XS.istore X0.here hx rfl (hb hby at_232) rfl (l' := #[s0, s1, s2, s3, s4, s5, .val (.int i6), .val (.int i7), .val (.int i8), .val (.int i9), .val (.int i10), .val (.int i11), s12, s13, .val (.ref o14), .val (.ref o15), s16, s17, .val (.int (1 : Int32)), .val (.int (0 : Int32)), s20]) (os0_232 hs19) ?_
  exact kt
set_option maxRecDepth 65536 in
set_option maxHeartbeats 40000000 in
theorem pc175_ftftt {p : Program} {l : Launch} {e : Env} {R : Room} {s : State} {m : MethodId} {args : Array Value} {below : List Frame} {meth : Method} {c : Code} {T0 : State} {locs : List Loc} {cells slots : Nat} {Z : State} {a0 : Array Value} {h0 : Heap} (s0 : Slot) (s1 : Slot) (s2 : Slot) (s3 : Slot) (s4 : Slot) (s5 : Slot) (i6 : Int32) (i7 : Int32) (i8 : Int32) (i9 : Int32) (i10 : Int32) (i11 : Int32) (s12 : Slot) (s13 : Slot) (o14 : Addr) (o15 : Addr) (s16 : Slot) (s17 : Slot) (s18 : Slot) (s19 : Slot) (s20 : Slot)
    (X0 : Stand p l e R s m args below meth c T0 locs cells slots) (hx : p.tables.exec = Jvm.exec) (hZ : Z.Warmed39 s.vm) (hw : ∀ d ∈ tables_1, d.before a0 Z = true) (hby : c.code = code) (hml : c.maxLocals = 21) (hown : s.vm.findClass "com/example/niyama/niyama/relational/model/AttributeEqualsPinLaw" = some m.cls) (e0 : T0.heap = h0) (hs18 : One s18) (hs19 : One s19) (hc179 : i6 = i9) (hc185 : i6 < (1 : Int32)) (hc198 : ¬ (i6 < (2 : Int32))) (hc205 : ¬ (i8 = i11)) :
    ∃ (T' : State), Stand p l e R s m args below meth c T' locs cells slots ∧ T'.heap = h0 ∧
      ∀ target, Steps p.tables e below (T'.setTop (mkF m 234 #[s0, s1, s2, s3, s4, s5, .val (.int i6), .val (.int i7), .val (.int i8), .val (.int i9), .val (.int i10), .val (.int i11), s12, s13, .val (.ref o14), .val (.ref o15), s16, s17, .val (.int (0 : Int32)), .val (.int (0 : Int32)), s20] [])) target → Steps p.tables e below (T0.setTop (mkF m 175 #[s0, s1, s2, s3, s4, s5, .val (.int i6), .val (.int i7), .val (.int i8), .val (.int i9), .val (.int i10), .val (.int i11), s12, s13, .val (.ref o14), .val (.ref o15), s16, s17, s18, s19, s20] [])) target := by

  refine ⟨T0, X0, e0, fun target kt => ?_⟩
  show Steps p.tables e below (T0.setTop (mkF m 175 #[s0, s1, s2, s3, s4, s5, .val (.int i6), .val (.int i7), .val (.int i8), .val (.int i9), .val (.int i10), .val (.int i11), s12, s13, .val (.ref o14), .val (.ref o15), s16, s17, s18, s19, s20] [])) _
  refine XS.iload X0.here hx rfl (hb hby at_175) rfl ?_
  show Steps p.tables e below (T0.setTop (mkF m 177 #[s0, s1, s2, s3, s4, s5, .val (.int i6), .val (.int i7), .val (.int i8), .val (.int i9), .val (.int i10), .val (.int i11), s12, s13, .val (.ref o14), .val (.ref o15), s16, s17, s18, s19, s20] [(.int i6)])) _
  refine XS.iload X0.here hx rfl (hb hby at_177) rfl ?_
  show Steps p.tables e below (T0.setTop (mkF m 179 #[s0, s1, s2, s3, s4, s5, .val (.int i6), .val (.int i7), .val (.int i8), .val (.int i9), .val (.int i10), .val (.int i11), s12, s13, .val (.ref o14), .val (.ref o15), s16, s17, s18, s19, s20] [(.int i9), (.int i6)])) _
  refine XS.icmpNo X0.here hx rfl (hb hby at_179) rfl (teq hc179).2 ?_
  show Steps p.tables e below (T0.setTop (mkF m 182 #[s0, s1, s2, s3, s4, s5, .val (.int i6), .val (.int i7), .val (.int i8), .val (.int i9), .val (.int i10), .val (.int i11), s12, s13, .val (.ref o14), .val (.ref o15), s16, s17, s18, s19, s20] [])) _
  refine XS.iload X0.here hx rfl (hb hby at_182) rfl ?_
  show Steps p.tables e below (T0.setTop (mkF m 184 #[s0, s1, s2, s3, s4, s5, .val (.int i6), .val (.int i7), .val (.int i8), .val (.int i9), .val (.int i10), .val (.int i11), s12, s13, .val (.ref o14), .val (.ref o15), s16, s17, s18, s19, s20] [(.int i6)])) _
  refine XS.iconst X0.here hx rfl (hb hby at_184) ?_
  show Steps p.tables e below (T0.setTop (mkF m 185 #[s0, s1, s2, s3, s4, s5, .val (.int i6), .val (.int i7), .val (.int i8), .val (.int i9), .val (.int i10), .val (.int i11), s12, s13, .val (.ref o14), .val (.ref o15), s16, s17, s18, s19, s20] [(.int (1 : Int32)), (.int i6)])) _
  refine XS.icmpYes X0.here hx rfl (pc0 := 185) (pc' := 195) rfl (hb hby at_185) rfl (tlt hc185).1 (by decide) (by decide) ?_
  show Steps p.tables e below (T0.setTop (mkF m 195 #[s0, s1, s2, s3, s4, s5, .val (.int i6), .val (.int i7), .val (.int i8), .val (.int i9), .val (.int i10), .val (.int i11), s12, s13, .val (.ref o14), .val (.ref o15), s16, s17, s18, s19, s20] [])) _
  refine XS.iload X0.here hx rfl (hb hby at_195) rfl ?_
  show Steps p.tables e below (T0.setTop (mkF m 197 #[s0, s1, s2, s3, s4, s5, .val (.int i6), .val (.int i7), .val (.int i8), .val (.int i9), .val (.int i10), .val (.int i11), s12, s13, .val (.ref o14), .val (.ref o15), s16, s17, s18, s19, s20] [(.int i6)])) _
  refine XS.iconst X0.here hx rfl (hb hby at_197) ?_
  show Steps p.tables e below (T0.setTop (mkF m 198 #[s0, s1, s2, s3, s4, s5, .val (.int i6), .val (.int i7), .val (.int i8), .val (.int i9), .val (.int i10), .val (.int i11), s12, s13, .val (.ref o14), .val (.ref o15), s16, s17, s18, s19, s20] [(.int (2 : Int32)), (.int i6)])) _
  refine XS.icmpNo X0.here hx rfl (hb hby at_198) rfl (flt hc198).1 ?_
  show Steps p.tables e below (T0.setTop (mkF m 201 #[s0, s1, s2, s3, s4, s5, .val (.int i6), .val (.int i7), .val (.int i8), .val (.int i9), .val (.int i10), .val (.int i11), s12, s13, .val (.ref o14), .val (.ref o15), s16, s17, s18, s19, s20] [])) _
  refine XS.iload X0.here hx rfl (hb hby at_201) rfl ?_
  show Steps p.tables e below (T0.setTop (mkF m 203 #[s0, s1, s2, s3, s4, s5, .val (.int i6), .val (.int i7), .val (.int i8), .val (.int i9), .val (.int i10), .val (.int i11), s12, s13, .val (.ref o14), .val (.ref o15), s16, s17, s18, s19, s20] [(.int i8)])) _
  refine XS.iload X0.here hx rfl (hb hby at_203) rfl ?_
  show Steps p.tables e below (T0.setTop (mkF m 205 #[s0, s1, s2, s3, s4, s5, .val (.int i6), .val (.int i7), .val (.int i8), .val (.int i9), .val (.int i10), .val (.int i11), s12, s13, .val (.ref o14), .val (.ref o15), s16, s17, s18, s19, s20] [(.int i11), (.int i8)])) _
  refine XS.icmpYes X0.here hx rfl (pc0 := 205) (pc' := 212) rfl (hb hby at_205) rfl (feq hc205).2 (by decide) (by decide) ?_
  show Steps p.tables e below (T0.setTop (mkF m 212 #[s0, s1, s2, s3, s4, s5, .val (.int i6), .val (.int i7), .val (.int i8), .val (.int i9), .val (.int i10), .val (.int i11), s12, s13, .val (.ref o14), .val (.ref o15), s16, s17, s18, s19, s20] [])) _
  refine XS.iconst X0.here hx rfl (hb hby at_212) ?_
  show Steps p.tables e below (T0.setTop (mkF m 213 #[s0, s1, s2, s3, s4, s5, .val (.int i6), .val (.int i7), .val (.int i8), .val (.int i9), .val (.int i10), .val (.int i11), s12, s13, .val (.ref o14), .val (.ref o15), s16, s17, s18, s19, s20] [(.int (0 : Int32))])) _
  refine XS.istore X0.here hx rfl (hb hby at_213) rfl (l' := #[s0, s1, s2, s3, s4, s5, .val (.int i6), .val (.int i7), .val (.int i8), .val (.int i9), .val (.int i10), .val (.int i11), s12, s13, .val (.ref o14), .val (.ref o15), s16, s17, .val (.int (0 : Int32)), s19, s20]) (os0_213 hs18) ?_
  show Steps p.tables e below (T0.setTop (mkF m 215 #[s0, s1, s2, s3, s4, s5, .val (.int i6), .val (.int i7), .val (.int i8), .val (.int i9), .val (.int i10), .val (.int i11), s12, s13, .val (.ref o14), .val (.ref o15), s16, s17, .val (.int (0 : Int32)), s19, s20] [])) _
  refine XS.iload X0.here hx rfl (hb hby at_215) rfl ?_
  show Steps p.tables e below (T0.setTop (mkF m 217 #[s0, s1, s2, s3, s4, s5, .val (.int i6), .val (.int i7), .val (.int i8), .val (.int i9), .val (.int i10), .val (.int i11), s12, s13, .val (.ref o14), .val (.ref o15), s16, s17, .val (.int (0 : Int32)), s19, s20] [(.int (0 : Int32))])) _
  refine XS.ifYes X0.here hx rfl (pc0 := 217) (pc' := 231) rfl (hb hby at_217) rfl ((if0 _ _).trans (teq (by decide : (0 : Int32) = (0 : Int32))).1) (by decide) (by decide) ?_
  show Steps p.tables e below (T0.setTop (mkF m 231 #[s0, s1, s2, s3, s4, s5, .val (.int i6), .val (.int i7), .val (.int i8), .val (.int i9), .val (.int i10), .val (.int i11), s12, s13, .val (.ref o14), .val (.ref o15), s16, s17, .val (.int (0 : Int32)), s19, s20] [])) _
  refine XS.iconst X0.here hx rfl (hb hby at_231) ?_
  show Steps p.tables e below (T0.setTop (mkF m 232 #[s0, s1, s2, s3, s4, s5, .val (.int i6), .val (.int i7), .val (.int i8), .val (.int i9), .val (.int i10), .val (.int i11), s12, s13, .val (.ref o14), .val (.ref o15), s16, s17, .val (.int (0 : Int32)), s19, s20] [(.int (0 : Int32))])) _
  refine XS.istore X0.here hx rfl (hb hby at_232) rfl (l' := #[s0, s1, s2, s3, s4, s5, .val (.int i6), .val (.int i7), .val (.int i8), .val (.int i9), .val (.int i10), .val (.int i11), s12, s13, .val (.ref o14), .val (.ref o15), s16, s17, .val (.int (0 : Int32)), .val (.int (0 : Int32)), s20]) (os0_232 hs19) ?_
  exact kt
set_option maxRecDepth 65536 in
set_option maxHeartbeats 40000000 in
theorem pc175_fttff {p : Program} {l : Launch} {e : Env} {R : Room} {s : State} {m : MethodId} {args : Array Value} {below : List Frame} {meth : Method} {c : Code} {T0 : State} {locs : List Loc} {cells slots : Nat} {Z : State} {a0 : Array Value} {h0 : Heap} (s0 : Slot) (s1 : Slot) (s2 : Slot) (s3 : Slot) (s4 : Slot) (s5 : Slot) (i6 : Int32) (i7 : Int32) (i8 : Int32) (i9 : Int32) (i10 : Int32) (i11 : Int32) (s12 : Slot) (s13 : Slot) (o14 : Addr) (o15 : Addr) (s16 : Slot) (s17 : Slot) (s18 : Slot) (s19 : Slot) (s20 : Slot)
    (X0 : Stand p l e R s m args below meth c T0 locs cells slots) (hx : p.tables.exec = Jvm.exec) (hZ : Z.Warmed39 s.vm) (hw : ∀ d ∈ tables_1, d.before a0 Z = true) (hby : c.code = code) (hml : c.maxLocals = 21) (hown : s.vm.findClass "com/example/niyama/niyama/relational/model/AttributeEqualsPinLaw" = some m.cls) (e0 : T0.heap = h0) (hs18 : One s18) (hs19 : One s19) (hc179 : i6 = i9) (hc185 : i6 < (1 : Int32)) (hc198 : i6 < (2 : Int32)) (ha224 : o14 = o15) :
    ∃ (T' : State), Stand p l e R s m args below meth c T' locs cells slots ∧ T'.heap = h0 ∧
      ∀ target, Steps p.tables e below (T'.setTop (mkF m 234 #[s0, s1, s2, s3, s4, s5, .val (.int i6), .val (.int i7), .val (.int i8), .val (.int i9), .val (.int i10), .val (.int i11), s12, s13, .val (.ref o14), .val (.ref o15), s16, s17, .val (.int (1 : Int32)), .val (.int (1 : Int32)), s20] [])) target → Steps p.tables e below (T0.setTop (mkF m 175 #[s0, s1, s2, s3, s4, s5, .val (.int i6), .val (.int i7), .val (.int i8), .val (.int i9), .val (.int i10), .val (.int i11), s12, s13, .val (.ref o14), .val (.ref o15), s16, s17, s18, s19, s20] [])) target := by

  refine ⟨T0, X0, e0, fun target kt => ?_⟩
  show Steps p.tables e below (T0.setTop (mkF m 175 #[s0, s1, s2, s3, s4, s5, .val (.int i6), .val (.int i7), .val (.int i8), .val (.int i9), .val (.int i10), .val (.int i11), s12, s13, .val (.ref o14), .val (.ref o15), s16, s17, s18, s19, s20] [])) _
  refine XS.iload X0.here hx rfl (hb hby at_175) rfl ?_
  show Steps p.tables e below (T0.setTop (mkF m 177 #[s0, s1, s2, s3, s4, s5, .val (.int i6), .val (.int i7), .val (.int i8), .val (.int i9), .val (.int i10), .val (.int i11), s12, s13, .val (.ref o14), .val (.ref o15), s16, s17, s18, s19, s20] [(.int i6)])) _
  refine XS.iload X0.here hx rfl (hb hby at_177) rfl ?_
  show Steps p.tables e below (T0.setTop (mkF m 179 #[s0, s1, s2, s3, s4, s5, .val (.int i6), .val (.int i7), .val (.int i8), .val (.int i9), .val (.int i10), .val (.int i11), s12, s13, .val (.ref o14), .val (.ref o15), s16, s17, s18, s19, s20] [(.int i9), (.int i6)])) _
  refine XS.icmpNo X0.here hx rfl (hb hby at_179) rfl (teq hc179).2 ?_
  show Steps p.tables e below (T0.setTop (mkF m 182 #[s0, s1, s2, s3, s4, s5, .val (.int i6), .val (.int i7), .val (.int i8), .val (.int i9), .val (.int i10), .val (.int i11), s12, s13, .val (.ref o14), .val (.ref o15), s16, s17, s18, s19, s20] [])) _
  refine XS.iload X0.here hx rfl (hb hby at_182) rfl ?_
  show Steps p.tables e below (T0.setTop (mkF m 184 #[s0, s1, s2, s3, s4, s5, .val (.int i6), .val (.int i7), .val (.int i8), .val (.int i9), .val (.int i10), .val (.int i11), s12, s13, .val (.ref o14), .val (.ref o15), s16, s17, s18, s19, s20] [(.int i6)])) _
  refine XS.iconst X0.here hx rfl (hb hby at_184) ?_
  show Steps p.tables e below (T0.setTop (mkF m 185 #[s0, s1, s2, s3, s4, s5, .val (.int i6), .val (.int i7), .val (.int i8), .val (.int i9), .val (.int i10), .val (.int i11), s12, s13, .val (.ref o14), .val (.ref o15), s16, s17, s18, s19, s20] [(.int (1 : Int32)), (.int i6)])) _
  refine XS.icmpYes X0.here hx rfl (pc0 := 185) (pc' := 195) rfl (hb hby at_185) rfl (tlt hc185).1 (by decide) (by decide) ?_
  show Steps p.tables e below (T0.setTop (mkF m 195 #[s0, s1, s2, s3, s4, s5, .val (.int i6), .val (.int i7), .val (.int i8), .val (.int i9), .val (.int i10), .val (.int i11), s12, s13, .val (.ref o14), .val (.ref o15), s16, s17, s18, s19, s20] [])) _
  refine XS.iload X0.here hx rfl (hb hby at_195) rfl ?_
  show Steps p.tables e below (T0.setTop (mkF m 197 #[s0, s1, s2, s3, s4, s5, .val (.int i6), .val (.int i7), .val (.int i8), .val (.int i9), .val (.int i10), .val (.int i11), s12, s13, .val (.ref o14), .val (.ref o15), s16, s17, s18, s19, s20] [(.int i6)])) _
  refine XS.iconst X0.here hx rfl (hb hby at_197) ?_
  show Steps p.tables e below (T0.setTop (mkF m 198 #[s0, s1, s2, s3, s4, s5, .val (.int i6), .val (.int i7), .val (.int i8), .val (.int i9), .val (.int i10), .val (.int i11), s12, s13, .val (.ref o14), .val (.ref o15), s16, s17, s18, s19, s20] [(.int (2 : Int32)), (.int i6)])) _
  refine XS.icmpYes X0.here hx rfl (pc0 := 198) (pc' := 208) rfl (hb hby at_198) rfl (tlt hc198).1 (by decide) (by decide) ?_
  show Steps p.tables e below (T0.setTop (mkF m 208 #[s0, s1, s2, s3, s4, s5, .val (.int i6), .val (.int i7), .val (.int i8), .val (.int i9), .val (.int i10), .val (.int i11), s12, s13, .val (.ref o14), .val (.ref o15), s16, s17, s18, s19, s20] [])) _
  refine XS.iconst X0.here hx rfl (hb hby at_208) ?_
  show Steps p.tables e below (T0.setTop (mkF m 209 #[s0, s1, s2, s3, s4, s5, .val (.int i6), .val (.int i7), .val (.int i8), .val (.int i9), .val (.int i10), .val (.int i11), s12, s13, .val (.ref o14), .val (.ref o15), s16, s17, s18, s19, s20] [(.int (1 : Int32))])) _
  refine XS.goto X0.here hx rfl (pc0 := 209) (pc' := 213) rfl (hb hby at_209) (by decide) (by decide) ?_
  show Steps p.tables e below (T0.setTop (mkF m 213 #[s0, s1, s2, s3, s4, s5, .val (.int i6), .val (.int i7), .val (.int i8), .val (.int i9), .val (.int i10), .val (.int i11), s12, s13, .val (.ref o14), .val (.ref o15), s16, s17, s18, s19, s20] [(.int (1 : Int32))])) _
  refine XS.istore X0.here hx rfl (hb hby at_213) rfl (l' := #[s0, s1, s2, s3, s4, s5, .val (.int i6), .val (.int i7), .val (.int i8), .val (.int i9), .val (.int i10), .val (.int i11), s12, s13, .val (.ref o14), .val (.ref o15), s16, s17, .val (.int (1 : Int32)), s19, s20]) (os0_213 hs18) ?_
  show Steps p.tables e below (T0.setTop (mkF m 215 #[s0, s1, s2, s3, s4, s5, .val (.int i6), .val (.int i7), .val (.int i8), .val (.int i9), .val (.int i10), .val (.int i11), s12, s13, .val (.ref o14), .val (.ref o15), s16, s17, .val (.int (1 : Int32)), s19, s20] [])) _
  refine XS.iload X0.here hx rfl (hb hby at_215) rfl ?_
  show Steps p.tables e below (T0.setTop (mkF m 217 #[s0, s1, s2, s3, s4, s5, .val (.int i6), .val (.int i7), .val (.int i8), .val (.int i9), .val (.int i10), .val (.int i11), s12, s13, .val (.ref o14), .val (.ref o15), s16, s17, .val (.int (1 : Int32)), s19, s20] [(.int (1 : Int32))])) _
  refine XS.ifNo X0.here hx rfl (hb hby at_217) rfl ((if0 _ _).trans (feq (by decide : ¬ ((1 : Int32) = (0 : Int32)))).1) ?_
  show Steps p.tables e below (T0.setTop (mkF m 220 #[s0, s1, s2, s3, s4, s5, .val (.int i6), .val (.int i7), .val (.int i8), .val (.int i9), .val (.int i10), .val (.int i11), s12, s13, .val (.ref o14), .val (.ref o15), s16, s17, .val (.int (1 : Int32)), s19, s20] [])) _
  refine XS.aload X0.here hx rfl (hb hby at_220) rfl rfl ?_
  show Steps p.tables e below (T0.setTop (mkF m 222 #[s0, s1, s2, s3, s4, s5, .val (.int i6), .val (.int i7), .val (.int i8), .val (.int i9), .val (.int i10), .val (.int i11), s12, s13, .val (.ref o14), .val (.ref o15), s16, s17, .val (.int (1 : Int32)), s19, s20] [(.ref o14)])) _
  refine XS.aload X0.here hx rfl (hb hby at_222) rfl rfl ?_
  show Steps p.tables e below (T0.setTop (mkF m 224 #[s0, s1, s2, s3, s4, s5, .val (.int i6), .val (.int i7), .val (.int i8), .val (.int i9), .val (.int i10), .val (.int i11), s12, s13, .val (.ref o14), .val (.ref o15), s16, s17, .val (.int (1 : Int32)), s19, s20] [(.ref o15), (.ref o14)])) _
  refine Jvm.RoadKit.acmp (g := (mkF m 224 #[s0, s1, s2, s3, s4, s5, .val (.int i6), .val (.int i7), .val (.int i8), .val (.int i9), .val (.int i10), .val (.int i11), s12, s13, .val (.ref o14), .val (.ref o15), s16, s17, .val (.int (1 : Int32)), s19, s20] [(.ref o15), (.ref o14)])) X0 hx rfl rfl rfl (pc0 := 224) (pc' := 227) (same := true) rfl (hb hby at_224) rfl (decide_eq_true (congrArg Value.ref ha224)) (by decide) (by decide) ?_
  show Steps p.tables e below (T0.setTop (mkF m 227 #[s0, s1, s2, s3, s4, s5, .val (.int i6), .val (.int i7), .val (.int i8), .val (.int i9), .val (.int i10), .val (.int i11), s12, s13, .val (.ref o14), .val (.ref o15), s16, s17, .val (.int (1 : Int32)), s19, s20] [])) _
  refine XS.iconst X0.here hx rfl (hb hby at_227) ?_
  show Steps p.tables e below (T0.setTop (mkF m 228 #[s0, s1, s2, s3, s4, s5, .val (.int i6), .val (.int i7), .val (.int i8), .val (.int i9), .val (.int i10), .val (.int i11), s12, s13, .val (.ref o14), .val (.ref o15), s16, s17, .val (.int (1 : Int32)), s19, s20] [(.int (1 : Int32))])) _
  refine XS.goto X0.here hx rfl (pc0 := 228) (pc' := 232) rfl (hb hby at_228) (by decide) (by decide) ?_
  show Steps p.tables e below (T0.setTop (mkF m 232 #[s0, s1, s2, s3, s4, s5, .val (.int i6), .val (.int i7), .val (.int i8), .val (.int i9), .val (.int i10), .val (.int i11), s12, s13, .val (.ref o14), .val (.ref o15), s16, s17, .val (.int (1 : Int32)), s19, s20] [(.int (1 : Int32))])) _
  refine XS.istore X0.here hx rfl (hb hby at_232) rfl (l' := #[s0, s1, s2, s3, s4, s5, .val (.int i6), .val (.int i7), .val (.int i8), .val (.int i9), .val (.int i10), .val (.int i11), s12, s13, .val (.ref o14), .val (.ref o15), s16, s17, .val (.int (1 : Int32)), .val (.int (1 : Int32)), s20]) (os0_232 hs19) ?_
  exact kt
set_option maxRecDepth 65536 in
set_option maxHeartbeats 40000000 in
theorem pc175_fttft {p : Program} {l : Launch} {e : Env} {R : Room} {s : State} {m : MethodId} {args : Array Value} {below : List Frame} {meth : Method} {c : Code} {T0 : State} {locs : List Loc} {cells slots : Nat} {Z : State} {a0 : Array Value} {h0 : Heap} (s0 : Slot) (s1 : Slot) (s2 : Slot) (s3 : Slot) (s4 : Slot) (s5 : Slot) (i6 : Int32) (i7 : Int32) (i8 : Int32) (i9 : Int32) (i10 : Int32) (i11 : Int32) (s12 : Slot) (s13 : Slot) (o14 : Addr) (o15 : Addr) (s16 : Slot) (s17 : Slot) (s18 : Slot) (s19 : Slot) (s20 : Slot)
    (X0 : Stand p l e R s m args below meth c T0 locs cells slots) (hx : p.tables.exec = Jvm.exec) (hZ : Z.Warmed39 s.vm) (hw : ∀ d ∈ tables_1, d.before a0 Z = true) (hby : c.code = code) (hml : c.maxLocals = 21) (hown : s.vm.findClass "com/example/niyama/niyama/relational/model/AttributeEqualsPinLaw" = some m.cls) (e0 : T0.heap = h0) (hs18 : One s18) (hs19 : One s19) (hc179 : i6 = i9) (hc185 : i6 < (1 : Int32)) (hc198 : i6 < (2 : Int32)) (ha224 : ¬ (o14 = o15)) :
    ∃ (T' : State), Stand p l e R s m args below meth c T' locs cells slots ∧ T'.heap = h0 ∧
      ∀ target, Steps p.tables e below (T'.setTop (mkF m 234 #[s0, s1, s2, s3, s4, s5, .val (.int i6), .val (.int i7), .val (.int i8), .val (.int i9), .val (.int i10), .val (.int i11), s12, s13, .val (.ref o14), .val (.ref o15), s16, s17, .val (.int (1 : Int32)), .val (.int (0 : Int32)), s20] [])) target → Steps p.tables e below (T0.setTop (mkF m 175 #[s0, s1, s2, s3, s4, s5, .val (.int i6), .val (.int i7), .val (.int i8), .val (.int i9), .val (.int i10), .val (.int i11), s12, s13, .val (.ref o14), .val (.ref o15), s16, s17, s18, s19, s20] [])) target := by

  refine ⟨T0, X0, e0, fun target kt => ?_⟩
  show Steps p.tables e below (T0.setTop (mkF m 175 #[s0, s1, s2, s3, s4, s5, .val (.int i6), .val (.int i7), .val (.int i8), .val (.int i9), .val (.int i10), .val (.int i11), s12, s13, .val (.ref o14), .val (.ref o15), s16, s17, s18, s19, s20] [])) _
  refine XS.iload X0.here hx rfl (hb hby at_175) rfl ?_
  show Steps p.tables e below (T0.setTop (mkF m 177 #[s0, s1, s2, s3, s4, s5, .val (.int i6), .val (.int i7), .val (.int i8), .val (.int i9), .val (.int i10), .val (.int i11), s12, s13, .val (.ref o14), .val (.ref o15), s16, s17, s18, s19, s20] [(.int i6)])) _
  refine XS.iload X0.here hx rfl (hb hby at_177) rfl ?_
  show Steps p.tables e below (T0.setTop (mkF m 179 #[s0, s1, s2, s3, s4, s5, .val (.int i6), .val (.int i7), .val (.int i8), .val (.int i9), .val (.int i10), .val (.int i11), s12, s13, .val (.ref o14), .val (.ref o15), s16, s17, s18, s19, s20] [(.int i9), (.int i6)])) _
  refine XS.icmpNo X0.here hx rfl (hb hby at_179) rfl (teq hc179).2 ?_
  show Steps p.tables e below (T0.setTop (mkF m 182 #[s0, s1, s2, s3, s4, s5, .val (.int i6), .val (.int i7), .val (.int i8), .val (.int i9), .val (.int i10), .val (.int i11), s12, s13, .val (.ref o14), .val (.ref o15), s16, s17, s18, s19, s20] [])) _
  refine XS.iload X0.here hx rfl (hb hby at_182) rfl ?_
  show Steps p.tables e below (T0.setTop (mkF m 184 #[s0, s1, s2, s3, s4, s5, .val (.int i6), .val (.int i7), .val (.int i8), .val (.int i9), .val (.int i10), .val (.int i11), s12, s13, .val (.ref o14), .val (.ref o15), s16, s17, s18, s19, s20] [(.int i6)])) _
  refine XS.iconst X0.here hx rfl (hb hby at_184) ?_
  show Steps p.tables e below (T0.setTop (mkF m 185 #[s0, s1, s2, s3, s4, s5, .val (.int i6), .val (.int i7), .val (.int i8), .val (.int i9), .val (.int i10), .val (.int i11), s12, s13, .val (.ref o14), .val (.ref o15), s16, s17, s18, s19, s20] [(.int (1 : Int32)), (.int i6)])) _
  refine XS.icmpYes X0.here hx rfl (pc0 := 185) (pc' := 195) rfl (hb hby at_185) rfl (tlt hc185).1 (by decide) (by decide) ?_
  show Steps p.tables e below (T0.setTop (mkF m 195 #[s0, s1, s2, s3, s4, s5, .val (.int i6), .val (.int i7), .val (.int i8), .val (.int i9), .val (.int i10), .val (.int i11), s12, s13, .val (.ref o14), .val (.ref o15), s16, s17, s18, s19, s20] [])) _
  refine XS.iload X0.here hx rfl (hb hby at_195) rfl ?_
  show Steps p.tables e below (T0.setTop (mkF m 197 #[s0, s1, s2, s3, s4, s5, .val (.int i6), .val (.int i7), .val (.int i8), .val (.int i9), .val (.int i10), .val (.int i11), s12, s13, .val (.ref o14), .val (.ref o15), s16, s17, s18, s19, s20] [(.int i6)])) _
  refine XS.iconst X0.here hx rfl (hb hby at_197) ?_
  show Steps p.tables e below (T0.setTop (mkF m 198 #[s0, s1, s2, s3, s4, s5, .val (.int i6), .val (.int i7), .val (.int i8), .val (.int i9), .val (.int i10), .val (.int i11), s12, s13, .val (.ref o14), .val (.ref o15), s16, s17, s18, s19, s20] [(.int (2 : Int32)), (.int i6)])) _
  refine XS.icmpYes X0.here hx rfl (pc0 := 198) (pc' := 208) rfl (hb hby at_198) rfl (tlt hc198).1 (by decide) (by decide) ?_
  show Steps p.tables e below (T0.setTop (mkF m 208 #[s0, s1, s2, s3, s4, s5, .val (.int i6), .val (.int i7), .val (.int i8), .val (.int i9), .val (.int i10), .val (.int i11), s12, s13, .val (.ref o14), .val (.ref o15), s16, s17, s18, s19, s20] [])) _
  refine XS.iconst X0.here hx rfl (hb hby at_208) ?_
  show Steps p.tables e below (T0.setTop (mkF m 209 #[s0, s1, s2, s3, s4, s5, .val (.int i6), .val (.int i7), .val (.int i8), .val (.int i9), .val (.int i10), .val (.int i11), s12, s13, .val (.ref o14), .val (.ref o15), s16, s17, s18, s19, s20] [(.int (1 : Int32))])) _
  refine XS.goto X0.here hx rfl (pc0 := 209) (pc' := 213) rfl (hb hby at_209) (by decide) (by decide) ?_
  show Steps p.tables e below (T0.setTop (mkF m 213 #[s0, s1, s2, s3, s4, s5, .val (.int i6), .val (.int i7), .val (.int i8), .val (.int i9), .val (.int i10), .val (.int i11), s12, s13, .val (.ref o14), .val (.ref o15), s16, s17, s18, s19, s20] [(.int (1 : Int32))])) _
  refine XS.istore X0.here hx rfl (hb hby at_213) rfl (l' := #[s0, s1, s2, s3, s4, s5, .val (.int i6), .val (.int i7), .val (.int i8), .val (.int i9), .val (.int i10), .val (.int i11), s12, s13, .val (.ref o14), .val (.ref o15), s16, s17, .val (.int (1 : Int32)), s19, s20]) (os0_213 hs18) ?_
  show Steps p.tables e below (T0.setTop (mkF m 215 #[s0, s1, s2, s3, s4, s5, .val (.int i6), .val (.int i7), .val (.int i8), .val (.int i9), .val (.int i10), .val (.int i11), s12, s13, .val (.ref o14), .val (.ref o15), s16, s17, .val (.int (1 : Int32)), s19, s20] [])) _
  refine XS.iload X0.here hx rfl (hb hby at_215) rfl ?_
  show Steps p.tables e below (T0.setTop (mkF m 217 #[s0, s1, s2, s3, s4, s5, .val (.int i6), .val (.int i7), .val (.int i8), .val (.int i9), .val (.int i10), .val (.int i11), s12, s13, .val (.ref o14), .val (.ref o15), s16, s17, .val (.int (1 : Int32)), s19, s20] [(.int (1 : Int32))])) _
  refine XS.ifNo X0.here hx rfl (hb hby at_217) rfl ((if0 _ _).trans (feq (by decide : ¬ ((1 : Int32) = (0 : Int32)))).1) ?_
  show Steps p.tables e below (T0.setTop (mkF m 220 #[s0, s1, s2, s3, s4, s5, .val (.int i6), .val (.int i7), .val (.int i8), .val (.int i9), .val (.int i10), .val (.int i11), s12, s13, .val (.ref o14), .val (.ref o15), s16, s17, .val (.int (1 : Int32)), s19, s20] [])) _
  refine XS.aload X0.here hx rfl (hb hby at_220) rfl rfl ?_
  show Steps p.tables e below (T0.setTop (mkF m 222 #[s0, s1, s2, s3, s4, s5, .val (.int i6), .val (.int i7), .val (.int i8), .val (.int i9), .val (.int i10), .val (.int i11), s12, s13, .val (.ref o14), .val (.ref o15), s16, s17, .val (.int (1 : Int32)), s19, s20] [(.ref o14)])) _
  refine XS.aload X0.here hx rfl (hb hby at_222) rfl rfl ?_
  show Steps p.tables e below (T0.setTop (mkF m 224 #[s0, s1, s2, s3, s4, s5, .val (.int i6), .val (.int i7), .val (.int i8), .val (.int i9), .val (.int i10), .val (.int i11), s12, s13, .val (.ref o14), .val (.ref o15), s16, s17, .val (.int (1 : Int32)), s19, s20] [(.ref o15), (.ref o14)])) _
  refine Jvm.RoadKit.acmp (g := (mkF m 224 #[s0, s1, s2, s3, s4, s5, .val (.int i6), .val (.int i7), .val (.int i8), .val (.int i9), .val (.int i10), .val (.int i11), s12, s13, .val (.ref o14), .val (.ref o15), s16, s17, .val (.int (1 : Int32)), s19, s20] [(.ref o15), (.ref o14)])) X0 hx rfl rfl rfl (pc0 := 224) (pc' := 231) (same := false) rfl (hb hby at_224) rfl (decide_eq_false fun q => ha224 (Value.ref.inj q)) (by decide) (by decide) ?_
  show Steps p.tables e below (T0.setTop (mkF m 231 #[s0, s1, s2, s3, s4, s5, .val (.int i6), .val (.int i7), .val (.int i8), .val (.int i9), .val (.int i10), .val (.int i11), s12, s13, .val (.ref o14), .val (.ref o15), s16, s17, .val (.int (1 : Int32)), s19, s20] [])) _
  refine XS.iconst X0.here hx rfl (hb hby at_231) ?_
  show Steps p.tables e below (T0.setTop (mkF m 232 #[s0, s1, s2, s3, s4, s5, .val (.int i6), .val (.int i7), .val (.int i8), .val (.int i9), .val (.int i10), .val (.int i11), s12, s13, .val (.ref o14), .val (.ref o15), s16, s17, .val (.int (1 : Int32)), s19, s20] [(.int (0 : Int32))])) _
  refine XS.istore X0.here hx rfl (hb hby at_232) rfl (l' := #[s0, s1, s2, s3, s4, s5, .val (.int i6), .val (.int i7), .val (.int i8), .val (.int i9), .val (.int i10), .val (.int i11), s12, s13, .val (.ref o14), .val (.ref o15), s16, s17, .val (.int (1 : Int32)), .val (.int (0 : Int32)), s20]) (os0_232 hs19) ?_
  exact kt
set_option maxRecDepth 65536 in
set_option maxHeartbeats 40000000 in
theorem pc175_tt {p : Program} {l : Launch} {e : Env} {R : Room} {s : State} {m : MethodId} {args : Array Value} {below : List Frame} {meth : Method} {c : Code} {T0 : State} {locs : List Loc} {cells slots : Nat} {Z : State} {a0 : Array Value} {h0 : Heap} (s0 : Slot) (s1 : Slot) (s2 : Slot) (s3 : Slot) (s4 : Slot) (s5 : Slot) (i6 : Int32) (i7 : Int32) (i8 : Int32) (i9 : Int32) (i10 : Int32) (i11 : Int32) (s12 : Slot) (s13 : Slot) (o14 : Addr) (o15 : Addr) (s16 : Slot) (s17 : Slot) (s18 : Slot) (s19 : Slot) (s20 : Slot)
    (X0 : Stand p l e R s m args below meth c T0 locs cells slots) (hx : p.tables.exec = Jvm.exec) (hZ : Z.Warmed39 s.vm) (hw : ∀ d ∈ tables_1, d.before a0 Z = true) (hby : c.code = code) (hml : c.maxLocals = 21) (hown : s.vm.findClass "com/example/niyama/niyama/relational/model/AttributeEqualsPinLaw" = some m.cls) (e0 : T0.heap = h0) (hs18 : One s18) (hs19 : One s19) (hc179 : ¬ (i6 = i9)) :
    ∃ (T' : State), Stand p l e R s m args below meth c T' locs cells slots ∧ T'.heap = h0 ∧
      ∀ target, Steps p.tables e below (T'.setTop (mkF m 234 #[s0, s1, s2, s3, s4, s5, .val (.int i6), .val (.int i7), .val (.int i8), .val (.int i9), .val (.int i10), .val (.int i11), s12, s13, .val (.ref o14), .val (.ref o15), s16, s17, .val (.int (0 : Int32)), .val (.int (0 : Int32)), s20] [])) target → Steps p.tables e below (T0.setTop (mkF m 175 #[s0, s1, s2, s3, s4, s5, .val (.int i6), .val (.int i7), .val (.int i8), .val (.int i9), .val (.int i10), .val (.int i11), s12, s13, .val (.ref o14), .val (.ref o15), s16, s17, s18, s19, s20] [])) target := by

  refine ⟨T0, X0, e0, fun target kt => ?_⟩
  show Steps p.tables e below (T0.setTop (mkF m 175 #[s0, s1, s2, s3, s4, s5, .val (.int i6), .val (.int i7), .val (.int i8), .val (.int i9), .val (.int i10), .val (.int i11), s12, s13, .val (.ref o14), .val (.ref o15), s16, s17, s18, s19, s20] [])) _
  refine XS.iload X0.here hx rfl (hb hby at_175) rfl ?_
  show Steps p.tables e below (T0.setTop (mkF m 177 #[s0, s1, s2, s3, s4, s5, .val (.int i6), .val (.int i7), .val (.int i8), .val (.int i9), .val (.int i10), .val (.int i11), s12, s13, .val (.ref o14), .val (.ref o15), s16, s17, s18, s19, s20] [(.int i6)])) _
  refine XS.iload X0.here hx rfl (hb hby at_177) rfl ?_
  show Steps p.tables e below (T0.setTop (mkF m 179 #[s0, s1, s2, s3, s4, s5, .val (.int i6), .val (.int i7), .val (.int i8), .val (.int i9), .val (.int i10), .val (.int i11), s12, s13, .val (.ref o14), .val (.ref o15), s16, s17, s18, s19, s20] [(.int i9), (.int i6)])) _
  refine XS.icmpYes X0.here hx rfl (pc0 := 179) (pc' := 212) rfl (hb hby at_179) rfl (feq hc179).2 (by decide) (by decide) ?_
  show Steps p.tables e below (T0.setTop (mkF m 212 #[s0, s1, s2, s3, s4, s5, .val (.int i6), .val (.int i7), .val (.int i8), .val (.int i9), .val (.int i10), .val (.int i11), s12, s13, .val (.ref o14), .val (.ref o15), s16, s17, s18, s19, s20] [])) _
  refine XS.iconst X0.here hx rfl (hb hby at_212) ?_
  show Steps p.tables e below (T0.setTop (mkF m 213 #[s0, s1, s2, s3, s4, s5, .val (.int i6), .val (.int i7), .val (.int i8), .val (.int i9), .val (.int i10), .val (.int i11), s12, s13, .val (.ref o14), .val (.ref o15), s16, s17, s18, s19, s20] [(.int (0 : Int32))])) _
  refine XS.istore X0.here hx rfl (hb hby at_213) rfl (l' := #[s0, s1, s2, s3, s4, s5, .val (.int i6), .val (.int i7), .val (.int i8), .val (.int i9), .val (.int i10), .val (.int i11), s12, s13, .val (.ref o14), .val (.ref o15), s16, s17, .val (.int (0 : Int32)), s19, s20]) (os0_213 hs18) ?_
  show Steps p.tables e below (T0.setTop (mkF m 215 #[s0, s1, s2, s3, s4, s5, .val (.int i6), .val (.int i7), .val (.int i8), .val (.int i9), .val (.int i10), .val (.int i11), s12, s13, .val (.ref o14), .val (.ref o15), s16, s17, .val (.int (0 : Int32)), s19, s20] [])) _
  refine XS.iload X0.here hx rfl (hb hby at_215) rfl ?_
  show Steps p.tables e below (T0.setTop (mkF m 217 #[s0, s1, s2, s3, s4, s5, .val (.int i6), .val (.int i7), .val (.int i8), .val (.int i9), .val (.int i10), .val (.int i11), s12, s13, .val (.ref o14), .val (.ref o15), s16, s17, .val (.int (0 : Int32)), s19, s20] [(.int (0 : Int32))])) _
  refine XS.ifYes X0.here hx rfl (pc0 := 217) (pc' := 231) rfl (hb hby at_217) rfl ((if0 _ _).trans (teq (by decide : (0 : Int32) = (0 : Int32))).1) (by decide) (by decide) ?_
  show Steps p.tables e below (T0.setTop (mkF m 231 #[s0, s1, s2, s3, s4, s5, .val (.int i6), .val (.int i7), .val (.int i8), .val (.int i9), .val (.int i10), .val (.int i11), s12, s13, .val (.ref o14), .val (.ref o15), s16, s17, .val (.int (0 : Int32)), s19, s20] [])) _
  refine XS.iconst X0.here hx rfl (hb hby at_231) ?_
  show Steps p.tables e below (T0.setTop (mkF m 232 #[s0, s1, s2, s3, s4, s5, .val (.int i6), .val (.int i7), .val (.int i8), .val (.int i9), .val (.int i10), .val (.int i11), s12, s13, .val (.ref o14), .val (.ref o15), s16, s17, .val (.int (0 : Int32)), s19, s20] [(.int (0 : Int32))])) _
  refine XS.istore X0.here hx rfl (hb hby at_232) rfl (l' := #[s0, s1, s2, s3, s4, s5, .val (.int i6), .val (.int i7), .val (.int i8), .val (.int i9), .val (.int i10), .val (.int i11), s12, s13, .val (.ref o14), .val (.ref o15), s16, s17, .val (.int (0 : Int32)), .val (.int (0 : Int32)), s20]) (os0_232 hs19) ?_
  exact kt
def own_same (i6 : Int32) (i7 : Int32) (i8 : Int32) (i9 : Int32) (i10 : Int32) (i11 : Int32) (o14 : Addr) (o15 : Addr) : Int32 := (if i6 = i9 then (if i6 < (1 : Int32) then (if i6 < (2 : Int32) then (if o14 = o15 then (1 : Int32) else (1 : Int32)) else (if i8 = i11 then (if o14 = o15 then (1 : Int32) else (1 : Int32)) else (0 : Int32))) else (if i7 = i10 then (if i6 < (2 : Int32) then (if o14 = o15 then (1 : Int32) else (1 : Int32)) else (if i8 = i11 then (if o14 = o15 then (1 : Int32) else (1 : Int32)) else (0 : Int32))) else (0 : Int32))) else (0 : Int32))
def own_exp (i6 : Int32) (i7 : Int32) (i8 : Int32) (i9 : Int32) (i10 : Int32) (i11 : Int32) (o14 : Addr) (o15 : Addr) : Int32 := (if i6 = i9 then (if i6 < (1 : Int32) then (if i6 < (2 : Int32) then (if o14 = o15 then (1 : Int32) else (0 : Int32)) else (if i8 = i11 then (if o14 = o15 then (1 : Int32) else (0 : Int32)) else (0 : Int32))) else (if i7 = i10 then (if i6 < (2 : Int32) then (if o14 = o15 then (1 : Int32) else (0 : Int32)) else (if i8 = i11 then (if o14 = o15 then (1 : Int32) else (0 : Int32)) else (0 : Int32))) else (0 : Int32))) else (0 : Int32))
theorem pc175 {p : Program} {l : Launch} {e : Env} {R : Room} {s : State} {m : MethodId} {args : Array Value} {below : List Frame} {meth : Method} {c : Code} {T0 : State} {locs : List Loc} {cells slots : Nat} {Z : State} {a0 : Array Value} {h0 : Heap} (s0 : Slot) (s1 : Slot) (s2 : Slot) (s3 : Slot) (s4 : Slot) (s5 : Slot) (i6 : Int32) (i7 : Int32) (i8 : Int32) (i9 : Int32) (i10 : Int32) (i11 : Int32) (s12 : Slot) (s13 : Slot) (o14 : Addr) (o15 : Addr) (s16 : Slot) (s17 : Slot) (s18 : Slot) (s19 : Slot) (s20 : Slot) (X0 : Stand p l e R s m args below meth c T0 locs cells slots) (hx : p.tables.exec = Jvm.exec) (hZ : Z.Warmed39 s.vm) (hw : ∀ d ∈ tables_1, d.before a0 Z = true) (hby : c.code = code) (hml : c.maxLocals = 21) (hown : s.vm.findClass "com/example/niyama/niyama/relational/model/AttributeEqualsPinLaw" = some m.cls) (e0 : T0.heap = h0) (hs18 : One s18) (hs19 : One s19) :
    ∃ (T' : State), Stand p l e R s m args below meth c T' locs cells slots ∧ T'.heap = h0 ∧
      ∀ target, Steps p.tables e below (T'.setTop (mkF m 234 #[s0, s1, s2, s3, s4, s5, .val (.int i6), .val (.int i7), .val (.int i8), .val (.int i9), .val (.int i10), .val (.int i11), s12, s13, .val (.ref o14), .val (.ref o15), s16, s17, .val (.int (own_same i6 i7 i8 i9 i10 i11 o14 o15)), .val (.int (own_exp i6 i7 i8 i9 i10 i11 o14 o15)), s20] [])) target → Steps p.tables e below (T0.setTop (mkF m 175 #[s0, s1, s2, s3, s4, s5, .val (.int i6), .val (.int i7), .val (.int i8), .val (.int i9), .val (.int i10), .val (.int i11), s12, s13, .val (.ref o14), .val (.ref o15), s16, s17, s18, s19, s20] [])) target := by
  by_cases hc179 : i6 = i9
  · skip
    by_cases hc185 : i6 < (1 : Int32)
    · skip
      by_cases hc198 : i6 < (2 : Int32)
      · skip
        by_cases ha224 : o14 = o15
        · skip
          rw [show own_same i6 i7 i8 i9 i10 i11 o14 o15 = (1 : Int32) from by unfold own_same; rw [if_pos hc179, if_pos hc185, if_pos hc198, if_pos ha224]]
          rw [show own_exp i6 i7 i8 i9 i10 i11 o14 o15 = (1 : Int32) from by unfold own_exp; rw [if_pos hc179, if_pos hc185, if_pos hc198, if_pos ha224]]
          exact pc175_fttff s0 s1 s2 s3 s4 s5 i6 i7 i8 i9 i10 i11 s12 s13 o14 o15 s16 s17 s18 s19 s20 X0 hx hZ hw hby hml hown e0 hs18 hs19 hc179 hc185 hc198 ha224
        · skip
          rw [show own_same i6 i7 i8 i9 i10 i11 o14 o15 = (1 : Int32) from by unfold own_same; rw [if_pos hc179, if_pos hc185, if_pos hc198, if_neg ha224]]
          rw [show own_exp i6 i7 i8 i9 i10 i11 o14 o15 = (0 : Int32) from by unfold own_exp; rw [if_pos hc179, if_pos hc185, if_pos hc198, if_neg ha224]]
          exact pc175_fttft s0 s1 s2 s3 s4 s5 i6 i7 i8 i9 i10 i11 s12 s13 o14 o15 s16 s17 s18 s19 s20 X0 hx hZ hw hby hml hown e0 hs18 hs19 hc179 hc185 hc198 ha224
      · skip
        by_cases hc205 : i8 = i11
        · skip
          by_cases ha224 : o14 = o15
          · skip
            rw [show own_same i6 i7 i8 i9 i10 i11 o14 o15 = (1 : Int32) from by unfold own_same; rw [if_pos hc179, if_pos hc185, if_neg hc198, if_pos hc205, if_pos ha224]]
            rw [show own_exp i6 i7 i8 i9 i10 i11 o14 o15 = (1 : Int32) from by unfold own_exp; rw [if_pos hc179, if_pos hc185, if_neg hc198, if_pos hc205, if_pos ha224]]
            exact pc175_ftffff s0 s1 s2 s3 s4 s5 i6 i7 i8 i9 i10 i11 s12 s13 o14 o15 s16 s17 s18 s19 s20 X0 hx hZ hw hby hml hown e0 hs18 hs19 hc179 hc185 hc198 hc205 ha224
          · skip
            rw [show own_same i6 i7 i8 i9 i10 i11 o14 o15 = (1 : Int32) from by unfold own_same; rw [if_pos hc179, if_pos hc185, if_neg hc198, if_pos hc205, if_neg ha224]]
            rw [show own_exp i6 i7 i8 i9 i10 i11 o14 o15 = (0 : Int32) from by unfold own_exp; rw [if_pos hc179, if_pos hc185, if_neg hc198, if_pos hc205, if_neg ha224]]
            exact pc175_ftffft s0 s1 s2 s3 s4 s5 i6 i7 i8 i9 i10 i11 s12 s13 o14 o15 s16 s17 s18 s19 s20 X0 hx hZ hw hby hml hown e0 hs18 hs19 hc179 hc185 hc198 hc205 ha224
        · skip
          rw [show own_same i6 i7 i8 i9 i10 i11 o14 o15 = (0 : Int32) from by unfold own_same; rw [if_pos hc179, if_pos hc185, if_neg hc198, if_neg hc205]]
          rw [show own_exp i6 i7 i8 i9 i10 i11 o14 o15 = (0 : Int32) from by unfold own_exp; rw [if_pos hc179, if_pos hc185, if_neg hc198, if_neg hc205]]
          exact pc175_ftftt s0 s1 s2 s3 s4 s5 i6 i7 i8 i9 i10 i11 s12 s13 o14 o15 s16 s17 s18 s19 s20 X0 hx hZ hw hby hml hown e0 hs18 hs19 hc179 hc185 hc198 hc205
    · skip
      by_cases hc192 : i7 = i10
      · skip
        by_cases hc198 : i6 < (2 : Int32)
        · skip
          by_cases ha224 : o14 = o15
          · skip
            rw [show own_same i6 i7 i8 i9 i10 i11 o14 o15 = (1 : Int32) from by unfold own_same; rw [if_pos hc179, if_neg hc185, if_pos hc192, if_pos hc198, if_pos ha224]]
            rw [show own_exp i6 i7 i8 i9 i10 i11 o14 o15 = (1 : Int32) from by unfold own_exp; rw [if_pos hc179, if_neg hc185, if_pos hc192, if_pos hc198, if_pos ha224]]
            exact pc175_ffftff s0 s1 s2 s3 s4 s5 i6 i7 i8 i9 i10 i11 s12 s13 o14 o15 s16 s17 s18 s19 s20 X0 hx hZ hw hby hml hown e0 hs18 hs19 hc179 hc185 hc192 hc198 ha224
          · skip
            rw [show own_same i6 i7 i8 i9 i10 i11 o14 o15 = (1 : Int32) from by unfold own_same; rw [if_pos hc179, if_neg hc185, if_pos hc192, if_pos hc198, if_neg ha224]]
            rw [show own_exp i6 i7 i8 i9 i10 i11 o14 o15 = (0 : Int32) from by unfold own_exp; rw [if_pos hc179, if_neg hc185, if_pos hc192, if_pos hc198, if_neg ha224]]
            exact pc175_ffftft s0 s1 s2 s3 s4 s5 i6 i7 i8 i9 i10 i11 s12 s13 o14 o15 s16 s17 s18 s19 s20 X0 hx hZ hw hby hml hown e0 hs18 hs19 hc179 hc185 hc192 hc198 ha224
        · skip
          by_cases hc205 : i8 = i11
          · skip
            by_cases ha224 : o14 = o15
            · skip
              rw [show own_same i6 i7 i8 i9 i10 i11 o14 o15 = (1 : Int32) from by unfold own_same; rw [if_pos hc179, if_neg hc185, if_pos hc192, if_neg hc198, if_pos hc205, if_pos ha224]]
              rw [show own_exp i6 i7 i8 i9 i10 i11 o14 o15 = (1 : Int32) from by unfold own_exp; rw [if_pos hc179, if_neg hc185, if_pos hc192, if_neg hc198, if_pos hc205, if_pos ha224]]
              exact pc175_fffffff s0 s1 s2 s3 s4 s5 i6 i7 i8 i9 i10 i11 s12 s13 o14 o15 s16 s17 s18 s19 s20 X0 hx hZ hw hby hml hown e0 hs18 hs19 hc179 hc185 hc192 hc198 hc205 ha224
            · skip
              rw [show own_same i6 i7 i8 i9 i10 i11 o14 o15 = (1 : Int32) from by unfold own_same; rw [if_pos hc179, if_neg hc185, if_pos hc192, if_neg hc198, if_pos hc205, if_neg ha224]]
              rw [show own_exp i6 i7 i8 i9 i10 i11 o14 o15 = (0 : Int32) from by unfold own_exp; rw [if_pos hc179, if_neg hc185, if_pos hc192, if_neg hc198, if_pos hc205, if_neg ha224]]
              exact pc175_fffffft s0 s1 s2 s3 s4 s5 i6 i7 i8 i9 i10 i11 s12 s13 o14 o15 s16 s17 s18 s19 s20 X0 hx hZ hw hby hml hown e0 hs18 hs19 hc179 hc185 hc192 hc198 hc205 ha224
          · skip
            rw [show own_same i6 i7 i8 i9 i10 i11 o14 o15 = (0 : Int32) from by unfold own_same; rw [if_pos hc179, if_neg hc185, if_pos hc192, if_neg hc198, if_neg hc205]]
            rw [show own_exp i6 i7 i8 i9 i10 i11 o14 o15 = (0 : Int32) from by unfold own_exp; rw [if_pos hc179, if_neg hc185, if_pos hc192, if_neg hc198, if_neg hc205]]
            exact pc175_fffftt s0 s1 s2 s3 s4 s5 i6 i7 i8 i9 i10 i11 s12 s13 o14 o15 s16 s17 s18 s19 s20 X0 hx hZ hw hby hml hown e0 hs18 hs19 hc179 hc185 hc192 hc198 hc205
      · skip
        rw [show own_same i6 i7 i8 i9 i10 i11 o14 o15 = (0 : Int32) from by unfold own_same; rw [if_pos hc179, if_neg hc185, if_neg hc192]]
        rw [show own_exp i6 i7 i8 i9 i10 i11 o14 o15 = (0 : Int32) from by unfold own_exp; rw [if_pos hc179, if_neg hc185, if_neg hc192]]
        exact pc175_fftt s0 s1 s2 s3 s4 s5 i6 i7 i8 i9 i10 i11 s12 s13 o14 o15 s16 s17 s18 s19 s20 X0 hx hZ hw hby hml hown e0 hs18 hs19 hc179 hc185 hc192
  · skip
    rw [show own_same i6 i7 i8 i9 i10 i11 o14 o15 = (0 : Int32) from by unfold own_same; rw [if_neg hc179]]
    rw [show own_exp i6 i7 i8 i9 i10 i11 o14 o15 = (0 : Int32) from by unfold own_exp; rw [if_neg hc179]]
    exact pc175_tt s0 s1 s2 s3 s4 s5 i6 i7 i8 i9 i10 i11 s12 s13 o14 o15 s16 s17 s18 s19 s20 X0 hx hZ hw hby hml hown e0 hs18 hs19 hc179
theorem rm12r (l : Launch) (Z : State) (a0 : Array Value) (hw : ∀ d ∈ tables_1, d.before a0 Z = true) (ws : List Jvm.Cond) (a1 : Addr) (a2 : Addr) (v_name_a1 : Addr) (v_name_a2 : Addr) (cs : List Int32) (ds : List Int32) (w_COMPACT_STRINGS : Int32) (v_domain_a1 : Addr) (v_domain_a2 : Addr) (h0 : Heap) (n0 : Nat) (Z0 : n0 ≤ h0.size) (E_a2 : Exa Z h0 a2 "com/example/niyama/niyama/relational/model/Attribute") (F_name_a1 : Fld Z h0 a1 "com/example/niyama/niyama/relational/model/Attribute" "name" "Ljava/lang/String;" (.ref v_name_a1)) (F_name_a2 : Fld Z h0 a2 "com/example/niyama/niyama/relational/model/Attribute" "name" "Ljava/lang/String;" (.ref v_name_a2)) (E_v_name_a1 : Exa Z h0 v_name_a1 "java/lang/String") (Sx : Str Z h0 v_name_a1 cs) (Sy : Str Z h0 v_name_a2 ds) (S_COMPACT_STRINGS : Sta Z h0 "java/lang/String" "COMPACT_STRINGS" "Z" (.int w_COMPACT_STRINGS)) (hcs : ¬ (w_COMPACT_STRINGS = (0 : Int32))) (F_domain_a1 : Fld Z h0 a1 "com/example/niyama/niyama/relational/model/Attribute" "domain" "Lcom/example/niyama/niyama/relational/model/Domain;" (.ref v_domain_a1)) (F_domain_a2 : Fld Z h0 a2 "com/example/niyama/niyama/relational/model/Attribute" "domain" "Lcom/example/niyama/niyama/relational/model/Domain;" (.ref v_domain_a2)) (hv : own_eq a1 a2 v_name_a1 v_name_a2 cs ds w_COMPACT_STRINGS v_domain_a1 v_domain_a2 = 1) :
    MetFree l (⟨"com/example/niyama/niyama/relational/model/Attribute", "equals", "(Ljava/lang/Object;)Z"⟩ : MethodName) (head1 (Jvm.Cond.code (⟨"com/example/niyama/niyama/relational/model/Attribute", "equals", "(Ljava/lang/Object;)Z"⟩ : MethodName) prog_29_method_5_code 3 (some .boolean) :: ws) ({ frames := 2, cells := 0, slots := 0, locals := 28 } : Room)) (fun a U => a = #[(.ref a1), (.ref a2)] ∧ Z.Warmed39 U.vm ∧ U.heap = h0) (fun _ _ _ _ _ => True) (fun _ U o U' => ∃ v L, o = .returned v ∧ QP (.int (1 : Int32)) h0 n0 v U'.heap L ∧ FrameEnd U o U' L ({ frames := 2, cells := 0, slots := 0, locals := 28 } : Room).cells ({ frames := 2, cells := 0, slots := 0, locals := 28 } : Room).slots) := by
  have h := rm12a l Z a0 hw ws a1 a2 v_name_a1 v_name_a2 cs ds w_COMPACT_STRINGS v_domain_a1 v_domain_a2 h0 n0 Z0 E_a2 F_name_a1 F_name_a2 E_v_name_a1 Sx Sy S_COMPACT_STRINGS hcs F_domain_a1 F_domain_a2
  rw [hv] at h; exact h
theorem own_self (a1 a2 r1 r2 : Addr) (cs : List Int32) (w : Int32) (d : Addr) : own_eq a1 a2 r1 r2 cs cs w d d = 1 := by
  unfold own_eq; rw [if_neg (by unfold own_b; rw [if_pos rfl]; decide), if_pos rfl]
theorem own_fin256 : ∀ k : Fin 256, ((Int32.ofNat k.val).toUInt32.toUInt16.toUInt32.toInt32 = Int32.ofNat k.val) ∧ nar .char (Int32.ofNat k.val) = Int32.ofNat k.val ∧ ¬ (Int32.ofNat k.val < 0) ∧ ¬ ((255 : Int32) < Int32.ofNat k.val) := by decide +kernel
theorem own_and255 (y : Int32) : ∃ k : Fin 256, y &&& 255 = Int32.ofNat k.val := by
  have b : (y.toBitVec &&& 255#32).toNat < 256 := by rw [BitVec.toNat_and]; exact Nat.lt_succ_of_le Nat.and_le_right
  refine ⟨⟨_, b⟩, ?_⟩
  apply Int32.toBitVec_inj.mp
  show y.toBitVec &&& 255#32 = BitVec.ofNat 32 (y.toBitVec &&& 255#32).toNat
  rw [BitVec.ofNat_toNat, BitVec.setWidth_eq]
theorem own_c8 {y c : Int32} (h : c = ((y &&& (255 : Int32)).toUInt32.toUInt16.toUInt32.toInt32)) : nar .char c = c ∧ ¬ c < 0 ∧ ¬ (255 : Int32) < c := by
  obtain ⟨k, e⟩ := own_and255 y
  obtain ⟨h1, h2⟩ := own_fin256 k
  rw [e, h1] at h; rw [h]; exact h2
theorem own_chr0 (p1 p2 p3 p4 p5 c : Int32) (h : c = ((p2 &&& (255 : Int32)).toUInt32.toUInt16.toUInt32.toInt32) ∨ c = ((((p2.toUInt32 >>> ((8 : Int32) &&& 31).toUInt32).toInt32) &&& (255 : Int32)).toUInt32.toUInt16.toUInt32.toInt32) ∨ c = own_b0 p1 p2 p3 p4 p5 ∨ c = own_b1 p1 p2 p3 p4 p5) : nar .char c = c ∧ ¬ c < 0 ∧ ¬ (255 : Int32) < c := by
  rcases h with h | h | h | h
  · exact own_c8 h
  · exact own_c8 h
  · unfold own_b0 at h; split at h <;> exact own_c8 h
  · unfold own_b1 at h; split at h <;> exact own_c8 h
theorem own_chr (p1 p2 p3 p4 p5 c : Int32) (h : c = ((p2 &&& (255 : Int32)).toUInt32.toUInt16.toUInt32.toInt32) ∨ c = ((((p2.toUInt32 >>> ((8 : Int32) &&& 31).toUInt32).toInt32) &&& (255 : Int32)).toUInt32.toUInt16.toUInt32.toInt32) ∨ c = own_b0 p1 p2 p3 p4 p5 ∨ c = own_b1 p1 p2 p3 p4 p5) : ¬ nar .char c < 0 ∧ ¬ (255 : Int32) < nar .char c := by
  have q := own_chr0 p1 p2 p3 p4 p5 c h
  rw [q.1]; exact q.2
theorem own_3 {x l : Int32} (h : l = (x &&& 2147483647) % 3) : l = 0 ∨ l = 1 ∨ l = 2 := by
  obtain ⟨j, e⟩ := own_fin x 3 3 (by decide) (by decide)
  rw [e] at h
  match j, h with
  | ⟨0, _⟩, h => exact Or.inl h
  | ⟨1, _⟩, h => exact Or.inr (Or.inl h)
  | ⟨2, _⟩, h => exact Or.inr (Or.inr h)
theorem own_3B {p1 p2 p3 p4 p5 l : Int32} (h : l = own_lenB p1 p2 p3 p4 p5) : l = 0 ∨ l = 1 ∨ l = 2 := by
  unfold own_lenB at h; split at h <;> exact own_3 h
theorem own_main (lA a0 a1 lB b0 b1 : Int32) (d e x y r q : Addr) (w : Int32) (hA : lA = 0 ∨ lA = 1 ∨ lA = 2) (hB : lB = 0 ∨ lB = 1 ∨ lB = 2) (n1 : nar .char a0 = a0) (n2 : nar .char a1 = a1) (n3 : nar .char b0 = b0) (n4 : nar .char b1 = b1) : own_eq x y r q (own_name lA a0 a1) (own_name lB b0 b1) w d e = own_exp lA a0 a1 lB b0 b1 d e := by
  rcases hA with rfl | rfl | rfl <;> rcases hB with rfl | rfl | rfl <;> by_cases h1 : a0 = b0 <;> by_cases h2 : a1 = b1 <;> by_cases h3 : d = e <;> simp [own_eq, own_exp, own_name, own_b, n1, n2, n3, n4, h1, h2, h3]
theorem own_sym (cs ds : List Int32) (d e x y r q x' y' r' q' : Addr) (w : Int32) : own_eq x y r q cs ds w d e = own_eq x' y' r' q' ds cs w e d := by
  unfold own_eq own_b
  by_cases h : cs = ds <;> by_cases h3 : d = e
  · subst h h3; rfl
  · subst h; simp [h3, Ne.symm h3]
  · subst h3; simp [h, Ne.symm h]
  · simp [h, Ne.symm h]
theorem own_dE {Z : State} {h : Heap} {p4 : Int32} {a b d : Addr} (e : d = own_dA p4 a b) (E1 : Exa Z h a "com/example/niyama/niyama/relational/model/Domain") (E2 : Exa Z h b "com/example/niyama/niyama/relational/model/Domain") : Exa Z h d "com/example/niyama/niyama/relational/model/Domain" := by
  subst e; unfold own_dA; split <;> assumption
theorem own_dE2 {Z : State} {h : Heap} {p4 : Int32} {a b d : Addr} (e : d = own_dB p4 a b) (E1 : Exa Z h a "com/example/niyama/niyama/relational/model/Domain") (E2 : Exa Z h b "com/example/niyama/niyama/relational/model/Domain") : Exa Z h d "com/example/niyama/niyama/relational/model/Domain" := by
  subst e; unfold own_dB; split <;> assumption
theorem own_no {Z : State} {a0 : Array Value} (hw : ∀ d ∈ tables_1, d.before a0 Z = true) : ∃ c t, Z.vm.findClass "java/lang/String" = some c ∧ Z.vm.findClass "com/example/niyama/niyama/relational/model/Attribute" = some t ∧ Z.vm.assignable c t = false := by
  obtain ⟨t, kt, g1, g2, g3, g4, -⟩ := Cond.instantiable_spec (hw _ (List.mem_of_getElem? (i := 44) rfl))
  obtain ⟨c, k, h1, h2, h3, -, -⟩ := Cond.noSuperclass_spec (hw _ (List.mem_of_getElem? (i := 95) rfl))
  obtain ⟨cs, hs⟩ := found_sup (hw _ (List.mem_of_getElem? (i := 94) rfl))
  obtain ⟨p, ks, kp, s1, s2, s3, s4, s5, -, s7⟩ := Cond.superclass_spec hs (hw _ (List.mem_of_getElem? (i := 94) rfl))
  cases h1.symm.trans s1
  have ne1 : c ≠ t := ids_ne h1 g1 (by decide)
  have ne2 : cs ≠ t := ids_ne hs g1 (by decide)
  have n0 : ∀ fuel, Z.vm.isSubclassAux fuel c t = false := fun fuel => by
    cases fuel with
    | zero => rfl
    | succ f => simp [Vm.isSubclassAux, ne1, h2, h3]
  have n1 : ∀ fuel, Z.vm.isSubclassAux fuel cs t = false := fun fuel => by
    cases fuel with
    | zero => rfl
    | succ f => simp [Vm.isSubclassAux, ne2, s2, s4, n0]
  refine ⟨cs, t, hs, g1, ?_⟩
  have gi : kt.isInterface = false := by
    cases hq : kt.isInterface with
    | false => rfl
    | true => rw [hq] at g4; simp at g4
  show Z.vm.assignableAux (255 + 1) cs t = false
  simp [Vm.assignableAux, ne2, s2, g2, s5, g3, gi, Vm.isSubclass, n1]
theorem pn_0 : plainName "com/example/niyama/niyama/relational/model/AttributeEqualsPinLaw" = true := by first | (simp [plainName, overriddenIn]; done) | decide +kernel
theorem ef_0 (m : MethodId) (p1 : Int32) (p2 : Int32) (p3 : Int32) (p4 : Int32) (p5 : Int32) (p6 : Int32) : entryFrame m #[(.int p1), (.int p2), (.int p3), (.int p4), (.int p5), (.int p6)] maxLocals = mkF m 0 #[.val (.int p1), .val (.int p2), .val (.int p3), .val (.int p4), .val (.int p5), .val (.int p6), .unset, .unset, .unset, .unset, .unset, .unset, .unset, .unset, .unset, .unset, .unset, .unset, .unset, .unset, .unset] [] := by first | (simp [entryFrame, mkF, argsToLocals, Value.category, maxLocals]; done) | rfl
theorem pd_0_0 : parseMethodDescriptor "(ICC)Ljava/lang/String;" = some ⟨[.int, .char, .char], some (.object "java/lang/String")⟩ := by decide +kernel
theorem pd_0_7 : parseMethodDescriptor "(I)Lcom/example/niyama/niyama/diagnostics/SourcePosition;" = some ⟨[.int], some (.object "com/example/niyama/niyama/diagnostics/SourcePosition")⟩ := by decide +kernel
theorem pd_0_8 : parseMethodDescriptor "(Ljava/lang/String;Lcom/example/niyama/niyama/relational/model/Domain;Lcom/example/niyama/niyama/diagnostics/SourcePosition;)V" = some ⟨[(.object "java/lang/String"), (.object "com/example/niyama/niyama/relational/model/Domain"), (.object "com/example/niyama/niyama/diagnostics/SourcePosition")], none⟩ := by decide +kernel
theorem pd_0_11 : parseMethodDescriptor "(Ljava/lang/Object;)Z" = some ⟨[(.object "java/lang/Object")], some .boolean⟩ := by decide +kernel
def QL (h0 : Heap) (n0 : Nat) (v : Option Value) (h : Heap) (L : List Loc) : Prop := v = some (.int 1) ∧ Fr n0 L
set_option maxRecDepth 65536 in
set_option maxHeartbeats 40000000 in
theorem rm0 (l : Launch) (Z : State) (a0 : Array Value) (hw : ∀ d ∈ tables_1, d.before a0 Z = true) (ws : List Jvm.Cond) (p1 : Int32) (p2 : Int32) (p3 : Int32) (p4 : Int32) (p5 : Int32) (p6 : Int32) (w_ID : Addr) (w_INT : Addr) (w_COMPACT_STRINGS : Int32) (h0 : Heap) (n0 : Nat) (Z0 : n0 ≤ h0.size) (S_ID : Sta Z h0 "com/example/niyama/niyama/relational/model/Domain" "ID" "Lcom/example/niyama/niyama/relational/model/Domain;" (.ref w_ID)) (S_INT : Sta Z h0 "com/example/niyama/niyama/relational/model/Domain" "INT" "Lcom/example/niyama/niyama/relational/model/Domain;" (.ref w_INT)) (E_w_ID : Exa Z h0 w_ID "com/example/niyama/niyama/relational/model/Domain") (E_w_INT : Exa Z h0 w_INT "com/example/niyama/niyama/relational/model/Domain") (S_COMPACT_STRINGS : Sta Z h0 "java/lang/String" "COMPACT_STRINGS" "Z" (.int w_COMPACT_STRINGS)) (hcs : ¬ (w_COMPACT_STRINGS = (0 : Int32))) :
    MetFree l x (head1 (Jvm.Cond.code x code maxLocals ret :: ws) room_1) (fun a U => a = #[(.int p1), (.int p2), (.int p3), (.int p4), (.int p5), (.int p6)] ∧ Z.Warmed39 U.vm ∧ U.heap = h0 ∧ CHv Z EL U.vm h0) (fun _ _ _ _ _ => True) (fun _ U o U' => ∃ v L, o = .returned v ∧ QL h0 n0 v U'.heap L ∧ ReturnedEndW U o U' L room_1.cells room_1.slots) := by
  refine MetFree.of_bodySF (plainFor_of_name pn_0) hisR ?_
  intro p e s m args below meth c s₁ Bd hml0 hP hK
  obtain ⟨rfl, hZ, hh, CH0⟩ := hP
  have hx := Bd.exec
  have hby := Bd.bytes
  have hml : c.maxLocals = 21 := hml0
  have hown : s.vm.findClass "com/example/niyama/niyama/relational/model/AttributeEqualsPinLaw" = some m.cls := findClass_of_methodNamed Bd.named
  have X0 : Stand p l e room_1 (s.setVm s.vm) m #[(.int p1), (.int p2), (.int p3), (.int p4), (.int p5), (.int p6)] below meth c s₁ [] 0 0 := Stand.of_body Bd
  have e0 : s₁.heap = h0 := by rw [← hh, Bd.state]; rfl
  have N0 := Fr.nil n0
  have hS0 : s.Since s.vm h0.size := (State.WarmedH.refl s).since _
  have hk0 : h0.size ≤ h0.size := Nat.le_refl _
  have CR0 : CHr Z EL s.vm h0 s.vm h0 := CHr.refl CH0
  have pre0 : ∀ t, Steps p.tables e below (s₁.setTop (mkF m 0 #[.val (.int p1), .val (.int p2), .val (.int p3), .val (.int p4), .val (.int p5), .val (.int p6), .unset, .unset, .unset, .unset, .unset, .unset, .unset, .unset, .unset, .unset, .unset, .unset, .unset, .unset, .unset] [])) t → Steps p.tables e below (s₁.setTop (entryFrame m #[(.int p1), (.int p2), (.int p3), (.int p4), (.int p5), (.int p6)] maxLocals)) t := fun t k => castTop (ef_0 m p1 p2 p3 p4 p5 p6) k
  obtain ⟨Ta1, Xa1, ea1, sta1⟩ := pc0 p1 p2 p3 p4 p5 (.val (.int p6)) .unset .unset .unset .unset .unset .unset .unset .unset .unset .unset .unset .unset .unset .unset .unset X0 hx hZ hw hby hml hown e0 One.u One.u One.u One.u One.u One.u
  obtain ⟨lenA, h_lenA⟩ : ∃ z, z = ((p1 &&& (2147483647 : Int32)) % (3 : Int32)) := ⟨_, rfl⟩
  obtain ⟨cA0, h_cA0⟩ : ∃ z, z = ((p2 &&& (255 : Int32)).toUInt32.toUInt16.toUInt32.toInt32) := ⟨_, rfl⟩
  obtain ⟨cA1, h_cA1⟩ : ∃ z, z = ((((p2.toUInt32 >>> ((8 : Int32) &&& 31).toUInt32).toInt32) &&& (255 : Int32)).toUInt32.toUInt16.toUInt32.toInt32) := ⟨_, rfl⟩
  obtain ⟨lenB, h_lenB⟩ : ∃ z, z = (own_lenB p1 p2 p3 p4 p5) := ⟨_, rfl⟩
  obtain ⟨cB0, h_cB0⟩ : ∃ z, z = (own_b0 p1 p2 p3 p4 p5) := ⟨_, rfl⟩
  obtain ⟨cB1, h_cB1⟩ : ∃ z, z = (own_b1 p1 p2 p3 p4 p5) := ⟨_, rfl⟩
  rw [← h_lenA, ← h_cA0, ← h_cA1, ← h_lenB, ← h_cB0, ← h_cB1] at sta1
  have hnA0 := own_chr p1 p2 p3 p4 p5 cA0 (Or.inl h_cA0)
  have hnA1 := own_chr p1 p2 p3 p4 p5 cA1 (Or.inr (Or.inl h_cA1))
  have hnB0 := own_chr p1 p2 p3 p4 p5 cB0 (Or.inr (Or.inr (Or.inl h_cB0)))
  have hnB1 := own_chr p1 p2 p3 p4 p5 cB1 (Or.inr (Or.inr (Or.inr h_cB1)))
  obtain ⟨_, _, ⟨T1, L1, k1, n1⟩, -, Y1, hS1, hg1, ⟨Lc1, hQ1, l1, y1, z1, CI1⟩, st1⟩ := Jvm.RoadKit.callSS Xa1 hx (y := (⟨"com/example/niyama/niyama/relational/model/AttributeEqualsPinLaw", "name", "(ICC)Ljava/lang/String;"⟩ : MethodName)) hown (mvT hZ (hw _ (List.mem_of_getElem? (i := 1) rfl))) (mvT hZ (hw _ (List.mem_of_getElem? (i := 2) rfl))) (mvT hZ (hw _ (List.mem_of_getElem? (i := 3) rfl))) (mvT hZ (hw _ (List.mem_of_getElem? (i := 4) rfl))) (by decide) (own_backSH (ws := []) (W := 0) (rm1 l Z a0 hw [] lenA cA0 cA1 w_COMPACT_STRINGS h0 n0 Z0 S_COMPACT_STRINGS hcs hnA0 hnA1) hZ (hw _ (List.mem_of_getElem? (i := 4) rfl)) (hw _ (List.mem_of_getElem? (i := 3) rfl)) (by decide) (by decide) (own_EW hw) CR0.1 (fun x hx => nomatch hx)) (g := (mkF m 84 #[.val (.int p1), .val (.int p2), .val (.int p3), .val (.int p4), .val (.int p5), .val (.int p6), .val (.int lenA), .val (.int cA0), .val (.int cA1), .val (.int lenB), .val (.int cB0), .val (.int cB1), .unset, .unset, .unset, .unset, .unset, .unset, .unset, .unset, .unset] [(.int cA1), (.int cA0), (.int lenA)])) rfl (by rw [hml]; rfl) (argsL := [(.int lenA), (.int cA0), (.int cA1)]) (rest := []) (lenOf pd_0_0 rfl) rfl (by show 2 * 0 + _ ≤ _; exact Nat.le_of_eq rfl) (hb hby at_84) (fun _ _ => ⟨rfl, ea1, (by decide : 0 + 4 ≤ _), (by decide : 0 + 8 ≤ _)⟩)
  dsimp only [Pt.U, Pt.locs, Pt.cells, Pt.slots] at Y1 l1 y1 z1 st1 hQ1 hg1 hS1 CI1
  subst l1 y1 z1
  obtain ⟨r1, rfl, N1q, K1q, Str1⟩ := hQ1
  have N1 := Fr.app N0 N1q
  obtain ⟨X1, hS1, hZ1, hown1⟩ := rebS hS0 (own_hk (T := Ta1) (h := h0) ea1 hk0) Y1 hS1 hg1 hZ hown
  have hk1 : T1.heap.size ≤ T1.heap.size := Nat.le_refl _
  have CR1 := CR0.trans CI1
  have K1 : Keep h0 T1.heap [] := (Keep.refl h0 []).trans K1q (fun x hx => by cases hx)
  obtain ⟨_, _, ⟨T2, L2, k2, n2⟩, -, Y2, hS2, hg2, ⟨Lc2, hQ2, l2, y2, z2, CI2⟩, st2⟩ := Jvm.RoadKit.callSS X1 hx (y := (⟨"com/example/niyama/niyama/relational/model/AttributeEqualsPinLaw", "name", "(ICC)Ljava/lang/String;"⟩ : MethodName)) hown1 (mvT hZ1 (hw _ (List.mem_of_getElem? (i := 1) rfl))) (mvT hZ1 (hw _ (List.mem_of_getElem? (i := 2) rfl))) (mvT hZ1 (hw _ (List.mem_of_getElem? (i := 3) rfl))) (mvT hZ1 (hw _ (List.mem_of_getElem? (i := 4) rfl))) (by decide) (own_backSH (ws := []) (W := 0) (rm1 l Z a0 hw [] lenB cB0 cB1 w_COMPACT_STRINGS T1.heap n0 (Nat.le_trans Z0 K1q.1) (own_sta0 S_COMPACT_STRINGS K1q) hcs hnB0 hnB1) hZ1 (hw _ (List.mem_of_getElem? (i := 4) rfl)) (hw _ (List.mem_of_getElem? (i := 3) rfl)) (by decide) (by decide) (own_EW hw) CR1.1 (fun x hx => nomatch hx)) (g := (mkF m 95 #[.val (.int p1), .val (.int p2), .val (.int p3), .val (.int p4), .val (.int p5), .val (.int p6), .val (.int lenA), .val (.int cA0), .val (.int cA1), .val (.int lenB), .val (.int cB0), .val (.int cB1), .val (.ref r1), .unset, .unset, .unset, .unset, .unset, .unset, .unset, .unset] [(.int cB1), (.int cB0), (.int lenB)])) rfl (by rw [hml]; rfl) (argsL := [(.int lenB), (.int cB0), (.int cB1)]) (rest := []) (lenOf pd_0_0 rfl) rfl (by show 2 * 0 + _ ≤ _; exact Nat.le_of_eq rfl) (hb hby at_95) (fun _ _ => ⟨rfl, rfl, (by decide : 4 + 4 ≤ _), (by decide : 8 + 8 ≤ _)⟩)
  dsimp only [Pt.U, Pt.locs, Pt.cells, Pt.slots] at Y2 l2 y2 z2 st2 hQ2 hg2 hS2 CI2
  subst l2 y2 z2
  obtain ⟨r2, rfl, N2q, K2q, Str2⟩ := hQ2
  have N2 := Fr.app N1 N2q
  obtain ⟨X2, hS2, hZ2, hown2⟩ := rebS hS1 (own_hk (T := T1) (h := T1.heap) rfl hk1) Y2 hS2 hg2 hZ1 hown1
  have hk2 : T2.heap.size ≤ T2.heap.size := Nat.le_refl _
  have CR2 := CR1.trans CI2
  have K2 : Keep h0 T2.heap [] := K1.trans K2q (fun x hx => by cases hx)
  have OUTK := K2
  have hSE := hS2
  have hkE := own_hk (T := T2) (h := T2.heap) rfl hk2
  have CRE := CR2.trans (CHv.at X2 hZ2 (own_EW hw) CR2.1)
  obtain ⟨Ta2, Xa2, ea2, sta2⟩ := pc100 (.val (.int p1)) (.val (.int p2)) (.val (.int p3)) p4 (.val (.int p5)) (.val (.int p6)) (.val (.int lenA)) (.val (.int cA0)) (.val (.int cA1)) (.val (.int lenB)) (.val (.int cB0)) (.val (.int cB1)) (.val (.ref r1)) (.val (.ref r2)) .unset .unset .unset .unset .unset .unset .unset w_ID w_INT X2 hx hZ2 hw hby hml hown2 rfl (own_sta0 (own_sta0 S_ID K1q) K2q) One.u (own_sta0 (own_sta0 S_INT K1q) K2q)
  obtain ⟨dA, h_dA⟩ : ∃ z, z = own_dA p4 w_ID w_INT := ⟨_, rfl⟩
  rw [← h_dA] at sta2
  have E_dA := own_dE (h_dA.trans rfl) ((E_w_ID.keep K1q).keep K2q) ((E_w_INT.keep K1q).keep K2q)
  obtain ⟨Ta3, Xa3, ea3, sta3⟩ := pc117 (.val (.int p1)) (.val (.int p2)) (.val (.int p3)) p4 (.val (.int p5)) (.val (.int p6)) (.val (.int lenA)) (.val (.int cA0)) (.val (.int cA1)) (.val (.int lenB)) (.val (.int cB0)) (.val (.int cB1)) (.val (.ref r1)) (.val (.ref r2)) (.val (.ref dA)) .unset .unset .unset .unset .unset .unset w_ID w_INT Xa2 hx hZ2 hw hby hml hown2 ea2 (own_sta0 (own_sta0 S_ID K1q) K2q) One.u (own_sta0 (own_sta0 S_INT K1q) K2q)
  obtain ⟨dB, h_dB⟩ : ∃ z, z = own_dB p4 w_ID w_INT := ⟨_, rfl⟩
  rw [← h_dB] at sta3
  have E_dB := own_dE2 h_dB ((E_w_ID.keep K1q).keep K2q) ((E_w_INT.keep K1q).keep K2q)
  obtain ⟨T3, h3, X3, e3, E3, A3, D3, -, st3⟩ := newO Xa3 hx hZ2 hown2 (hw _ (List.mem_of_getElem? (i := 43) rfl)) (hw _ (List.mem_of_getElem? (i := 44) rfl)) (hw _ (List.mem_of_getElem? (i := 45) rfl)) ea3 (g := (mkF m 136 #[.val (.int p1), .val (.int p2), .val (.int p3), .val (.int p4), .val (.int p5), .val (.int p6), .val (.int lenA), .val (.int cA0), .val (.int cA1), .val (.int lenB), .val (.int cB0), .val (.int cB1), .val (.ref r1), .val (.ref r2), .val (.ref dA), .val (.ref dB), .unset, .unset, .unset, .unset, .unset] [])) rfl (hb hby at_136) (by decide) (by decide)
  obtain ⟨b3, g3⟩ : ∃ z, z = T2.heap.size := ⟨_, rfl⟩
  rw [← g3] at A3 D3 st3
  have F_name_b3 : Fld Z h3 b3 "com/example/niyama/niyama/relational/model/Attribute" "name" "Ljava/lang/String;" .null := D3 (Or.inr (hw _ (List.mem_of_getElem? (i := 59) rfl))) (ty := (.object "java/lang/String")) (by decide)
  have F_domain_b3 : Fld Z h3 b3 "com/example/niyama/niyama/relational/model/Attribute" "domain" "Lcom/example/niyama/niyama/relational/model/Domain;" .null := D3 (Or.inr (hw _ (List.mem_of_getElem? (i := 63) rfl))) (ty := (.object "com/example/niyama/niyama/relational/model/Domain")) (by decide)
  have F_position_b3 : Fld Z h3 b3 "com/example/niyama/niyama/relational/model/Attribute" "position" "Lcom/example/niyama/niyama/diagnostics/SourcePosition;" .null := D3 (Or.inr (hw _ (List.mem_of_getElem? (i := 65) rfl))) (ty := (.object "com/example/niyama/niyama/diagnostics/SourcePosition")) (by decide)
  have E_b3 := A3
  have g_b3 : n0 ≤ b3 := Nat.le_trans (Nat.le_trans (Nat.le_trans Z0 K1q.1) K2q.1) (Nat.le_of_eq g3.symm)
  have sz_b3 : h0.size ≤ b3 := (Nat.le_trans K2.1 (Nat.le_of_eq g3.symm))
  have K3 : Keep h0 h3 [] := K2.ext E3
  have CR3 := CR2.trans (CHr.ext E3 CR2.1)
  have hk3 := Nat.le_trans hk2 E3.1
  have SF_b3 := Safe.ext E3 CR2.1 (Safe.new (Nat.le_of_eq g3.symm))
  obtain ⟨_, _, ⟨T4, L4, k4, n4⟩, -, X4, ⟨Lc4, hQ4, l4, y4, z4⟩, st4⟩ := Jvm.LawKit.callS X3 hx (y := (⟨"com/example/niyama/niyama/relational/model/AttributeEqualsPinLaw", "pos", "(I)Lcom/example/niyama/niyama/diagnostics/SourcePosition;"⟩ : MethodName)) hown2 (mvT hZ2 (hw _ (List.mem_of_getElem? (i := 46) rfl))) (mvT hZ2 (hw _ (List.mem_of_getElem? (i := 47) rfl))) (mvT hZ2 (hw _ (List.mem_of_getElem? (i := 3) rfl))) (mvT hZ2 (hw _ (List.mem_of_getElem? (i := 48) rfl))) (by decide) (backOf (W := 4) (rm8 l Z a0 hw [] p6  h3 n0 (Nat.le_trans (Nat.le_trans (Nat.le_trans Z0 K1q.1) K2q.1) E3.1)) hZ2 (hw _ (List.mem_of_getElem? (i := 48) rfl)) (hw _ (List.mem_of_getElem? (i := 3) rfl)) (by decide) (by decide)) (g := (mkF m 146 #[.val (.int p1), .val (.int p2), .val (.int p3), .val (.int p4), .val (.int p5), .val (.int p6), .val (.int lenA), .val (.int cA0), .val (.int cA1), .val (.int lenB), .val (.int cB0), .val (.int cB1), .val (.ref r1), .val (.ref r2), .val (.ref dA), .val (.ref dB), .unset, .unset, .unset, .unset, .unset] [(.int p6), (.ref dA), (.ref r1), (.ref b3), (.ref b3)])) rfl (by rw [hml]; rfl) (argsL := [(.int p6)]) (rest := [(.ref dA), (.ref r1), (.ref b3), (.ref b3)]) (lenOf pd_0_7 rfl) rfl (by show 2 * 0 + _ ≤ _; exact Nat.le_of_eq rfl) (hb hby at_146) (fun _ _ => ⟨rfl, e3, (by decide : 9 + 1 ≤ _), (by decide : 19 + 2 ≤ _)⟩)
  dsimp only [Pt.U, Pt.locs, Pt.cells, Pt.slots] at X4 l4 y4 z4 st4 hQ4
  subst l4 y4 z4
  obtain ⟨pv4, rfl, hpv4, N4q, K4q⟩ := hQ4
  have N4 := Fr.app N2 N4q
  have K4 : Keep h0 T4.heap [] := K3.trans K4q (fun x hx => by cases hx)
  have CR4 := CR3.trans (CHr.keep K4q (fun x hx => by cases hx) CR3.1)
  have hk4 := Nat.le_trans hk3 K4q.1
  have SF_b3 := Safe.keep K4q (fun x hx => by cases hx) CR3.1 SF_b3
  obtain ⟨_, _, ⟨T5, L5, k5, n5⟩, -, X5, ⟨Lc5, hQ5, l5, y5, z5⟩, st5⟩ := X4.specialBack hx (y := (⟨"com/example/niyama/niyama/relational/model/Attribute", "<init>", "(Ljava/lang/String;Lcom/example/niyama/niyama/relational/model/Domain;Lcom/example/niyama/niyama/diagnostics/SourcePosition;)V"⟩ : MethodName)) rfl hown2 (mvT hZ2 (hw _ (List.mem_of_getElem? (i := 49) rfl))) (mvT hZ2 (hw _ (List.mem_of_getElem? (i := 50) rfl))) (mvT hZ2 (hw _ (List.mem_of_getElem? (i := 51) rfl))) (by decide) (backOf (W := 1) (rm9 l Z a0 hw [] b3 r1 dA pv4 .null .null .null T4.heap n0 (Nat.le_trans (Nat.le_trans (Nat.le_trans (Nat.le_trans Z0 K1q.1) K2q.1) E3.1) K4q.1) (((Str1.keep0 K2q).ext E3).keep0 K4q).exa ((E_dA.ext E3).keep K4q) (E_b3.keep K4q) (F_name_b3.keep K4q own_nil) g_b3 (F_domain_b3.keep K4q own_nil) (F_position_b3.keep K4q own_nil) hpv4) hZ2 (hw _ (List.mem_of_getElem? (i := 51) rfl)) (hw _ (List.mem_of_getElem? (i := 45) rfl)) (by decide) (by decide)) (g := (mkF m 149 #[.val (.int p1), .val (.int p2), .val (.int p3), .val (.int p4), .val (.int p5), .val (.int p6), .val (.int lenA), .val (.int cA0), .val (.int cA1), .val (.int lenB), .val (.int cB0), .val (.int cB1), .val (.ref r1), .val (.ref r2), .val (.ref dA), .val (.ref dB), .unset, .unset, .unset, .unset, .unset] [pv4, (.ref dA), (.ref r1), (.ref b3), (.ref b3)])) rfl (by rw [hml]; rfl) (Steps.refl _) (a := b3) (argsL := [(.ref r1), (.ref dA), pv4]) (rest := [(.ref b3)]) (lenOf pd_0_8 rfl) rfl (by show 2 * 0 + _ ≤ _; exact Nat.le_of_eq rfl) (hb hby at_149) (fun _ _ => ⟨rfl, rfl, (by decide : 10 + 0 ≤ _), (by decide : 21 + 0 ≤ _)⟩)
  dsimp only [Pt.U, Pt.locs, Pt.cells, Pt.slots] at X5 l5 y5 z5 st5 hQ5
  subst l5 y5 z5
  obtain ⟨rfl, N5q, K5q, E5q, Fn5, Fd5⟩ := hQ5
  have N5 := Fr.app N4 N5q
  have K5 : Keep h0 T5.heap [] := K4.trans K5q (fun x hx => by cases List.mem_singleton.mp hx; exact Or.inr sz_b3)
  have CR5 := CR4.trans (CHr.keep K5q (fun x hx => by cases List.mem_singleton.mp hx; exact SF_b3) CR4.1)
  have hk5 := Nat.le_trans hk4 K5q.1
  have SF_b3 := Safe.keep K5q (fun x hx => by cases List.mem_singleton.mp hx; exact SF_b3) CR4.1 SF_b3
  obtain ⟨T6, h6, X6, e6, E6, A6, D6, -, st6⟩ := newO X5 hx hZ2 hown2 (hw _ (List.mem_of_getElem? (i := 43) rfl)) (hw _ (List.mem_of_getElem? (i := 44) rfl)) (hw _ (List.mem_of_getElem? (i := 45) rfl)) rfl (g := (mkF m 154 #[.val (.int p1), .val (.int p2), .val (.int p3), .val (.int p4), .val (.int p5), .val (.int p6), .val (.int lenA), .val (.int cA0), .val (.int cA1), .val (.int lenB), .val (.int cB0), .val (.int cB1), .val (.ref r1), .val (.ref r2), .val (.ref dA), .val (.ref dB), .val (.ref b3), .unset, .unset, .unset, .unset] [])) rfl (hb hby at_154) (by decide) (by decide)
  obtain ⟨b6, g6⟩ : ∃ z, z = T5.heap.size := ⟨_, rfl⟩
  rw [← g6] at A6 D6 st6
  have F_name_b6 : Fld Z h6 b6 "com/example/niyama/niyama/relational/model/Attribute" "name" "Ljava/lang/String;" .null := D6 (Or.inr (hw _ (List.mem_of_getElem? (i := 59) rfl))) (ty := (.object "java/lang/String")) (by decide)
  have F_domain_b6 : Fld Z h6 b6 "com/example/niyama/niyama/relational/model/Attribute" "domain" "Lcom/example/niyama/niyama/relational/model/Domain;" .null := D6 (Or.inr (hw _ (List.mem_of_getElem? (i := 63) rfl))) (ty := (.object "com/example/niyama/niyama/relational/model/Domain")) (by decide)
  have F_position_b6 : Fld Z h6 b6 "com/example/niyama/niyama/relational/model/Attribute" "position" "Lcom/example/niyama/niyama/diagnostics/SourcePosition;" .null := D6 (Or.inr (hw _ (List.mem_of_getElem? (i := 65) rfl))) (ty := (.object "com/example/niyama/niyama/diagnostics/SourcePosition")) (by decide)
  have E_b6 := A6
  have g_b6 : n0 ≤ b6 := Nat.le_trans (Nat.le_trans (Nat.le_trans (Nat.le_trans (Nat.le_trans (Nat.le_trans Z0 K1q.1) K2q.1) E3.1) K4q.1) K5q.1) (Nat.le_of_eq g6.symm)
  have sz_b6 : h0.size ≤ b6 := (Nat.le_trans K5.1 (Nat.le_of_eq g6.symm))
  have K6 : Keep h0 h6 [] := K5.ext E6
  have CR6 := CR5.trans (CHr.ext E6 CR5.1)
  have hk6 := Nat.le_trans hk5 E6.1
  have SF_b3 := Safe.ext E6 CR5.1 SF_b3
  have SF_b6 := Safe.ext E6 CR5.1 (Safe.new (Nat.le_of_eq g6.symm))
  obtain ⟨_, _, ⟨T7, L7, k7, n7⟩, -, X7, ⟨Lc7, hQ7, l7, y7, z7⟩, st7⟩ := Jvm.LawKit.callS X6 hx (y := (⟨"com/example/niyama/niyama/relational/model/AttributeEqualsPinLaw", "pos", "(I)Lcom/example/niyama/niyama/diagnostics/SourcePosition;"⟩ : MethodName)) hown2 (mvT hZ2 (hw _ (List.mem_of_getElem? (i := 46) rfl))) (mvT hZ2 (hw _ (List.mem_of_getElem? (i := 47) rfl))) (mvT hZ2 (hw _ (List.mem_of_getElem? (i := 3) rfl))) (mvT hZ2 (hw _ (List.mem_of_getElem? (i := 48) rfl))) (by decide) (backOf (W := 4) (rm8 l Z a0 hw [] ((p6.toUInt32 >>> ((17 : Int32) &&& 31).toUInt32).toInt32)  h6 n0 (Nat.le_trans (Nat.le_trans (Nat.le_trans (Nat.le_trans (Nat.le_trans (Nat.le_trans Z0 K1q.1) K2q.1) E3.1) K4q.1) K5q.1) E6.1)) hZ2 (hw _ (List.mem_of_getElem? (i := 48) rfl)) (hw _ (List.mem_of_getElem? (i := 3) rfl)) (by decide) (by decide)) (g := (mkF m 167 #[.val (.int p1), .val (.int p2), .val (.int p3), .val (.int p4), .val (.int p5), .val (.int p6), .val (.int lenA), .val (.int cA0), .val (.int cA1), .val (.int lenB), .val (.int cB0), .val (.int cB1), .val (.ref r1), .val (.ref r2), .val (.ref dA), .val (.ref dB), .val (.ref b3), .unset, .unset, .unset, .unset] [(.int ((p6.toUInt32 >>> ((17 : Int32) &&& 31).toUInt32).toInt32)), (.ref dB), (.ref r2), (.ref b6), (.ref b6)])) rfl (by rw [hml]; rfl) (argsL := [(.int ((p6.toUInt32 >>> ((17 : Int32) &&& 31).toUInt32).toInt32))]) (rest := [(.ref dB), (.ref r2), (.ref b6), (.ref b6)]) (lenOf pd_0_7 rfl) rfl (by show 2 * 0 + _ ≤ _; exact Nat.le_of_eq rfl) (hb hby at_167) (fun _ _ => ⟨rfl, e6, (by decide : 11 + 1 ≤ _), (by decide : 24 + 2 ≤ _)⟩)
  dsimp only [Pt.U, Pt.locs, Pt.cells, Pt.slots] at X7 l7 y7 z7 st7 hQ7
  subst l7 y7 z7
  obtain ⟨pv7, rfl, hpv7, N7q, K7q⟩ := hQ7
  have N7 := Fr.app N5 N7q
  have K7 : Keep h0 T7.heap [] := K6.trans K7q (fun x hx => by cases hx)
  have CR7 := CR6.trans (CHr.keep K7q (fun x hx => by cases hx) CR6.1)
  have hk7 := Nat.le_trans hk6 K7q.1
  have SF_b3 := Safe.keep K7q (fun x hx => by cases hx) CR6.1 SF_b3
  have SF_b6 := Safe.keep K7q (fun x hx => by cases hx) CR6.1 SF_b6
  obtain ⟨_, _, ⟨T8, L8, k8, n8⟩, -, X8, ⟨Lc8, hQ8, l8, y8, z8⟩, st8⟩ := X7.specialBack hx (y := (⟨"com/example/niyama/niyama/relational/model/Attribute", "<init>", "(Ljava/lang/String;Lcom/example/niyama/niyama/relational/model/Domain;Lcom/example/niyama/niyama/diagnostics/SourcePosition;)V"⟩ : MethodName)) rfl hown2 (mvT hZ2 (hw _ (List.mem_of_getElem? (i := 49) rfl))) (mvT hZ2 (hw _ (List.mem_of_getElem? (i := 50) rfl))) (mvT hZ2 (hw _ (List.mem_of_getElem? (i := 51) rfl))) (by decide) (backOf (W := 1) (rm9 l Z a0 hw [] b6 r2 dB pv7 .null .null .null T7.heap n0 (Nat.le_trans (Nat.le_trans (Nat.le_trans (Nat.le_trans (Nat.le_trans (Nat.le_trans (Nat.le_trans Z0 K1q.1) K2q.1) E3.1) K4q.1) K5q.1) E6.1) K7q.1) (((((Str2.ext E3).keep0 K4q).keep1 K5q (E_b3.keep K4q) (by decide) (hw _ (List.mem_of_getElem? (i := 44) rfl))).ext E6).keep0 K7q).exa (((((E_dB.ext E3).keep K4q).keep K5q).ext E6).keep K7q) (E_b6.keep K7q) (F_name_b6.keep K7q own_nil) g_b6 (F_domain_b6.keep K7q own_nil) (F_position_b6.keep K7q own_nil) hpv7) hZ2 (hw _ (List.mem_of_getElem? (i := 51) rfl)) (hw _ (List.mem_of_getElem? (i := 45) rfl)) (by decide) (by decide)) (g := (mkF m 170 #[.val (.int p1), .val (.int p2), .val (.int p3), .val (.int p4), .val (.int p5), .val (.int p6), .val (.int lenA), .val (.int cA0), .val (.int cA1), .val (.int lenB), .val (.int cB0), .val (.int cB1), .val (.ref r1), .val (.ref r2), .val (.ref dA), .val (.ref dB), .val (.ref b3), .unset, .unset, .unset, .unset] [pv7, (.ref dB), (.ref r2), (.ref b6), (.ref b6)])) rfl (by rw [hml]; rfl) (Steps.refl _) (a := b6) (argsL := [(.ref r2), (.ref dB), pv7]) (rest := [(.ref b6)]) (lenOf pd_0_8 rfl) rfl (by show 2 * 0 + _ ≤ _; exact Nat.le_of_eq rfl) (hb hby at_170) (fun _ _ => ⟨rfl, rfl, (by decide : 12 + 0 ≤ _), (by decide : 26 + 0 ≤ _)⟩)
  dsimp only [Pt.U, Pt.locs, Pt.cells, Pt.slots] at X8 l8 y8 z8 st8 hQ8
  subst l8 y8 z8
  obtain ⟨rfl, N8q, K8q, E8q, Fn8, Fd8⟩ := hQ8
  have N8 := Fr.app N7 N8q
  have K8 : Keep h0 T8.heap [] := K7.trans K8q (fun x hx => by cases List.mem_singleton.mp hx; exact Or.inr sz_b6)
  have CR8 := CR7.trans (CHr.keep K8q (fun x hx => by cases List.mem_singleton.mp hx; exact SF_b6) CR7.1)
  have hk8 := Nat.le_trans hk7 K8q.1
  have SF_b3 := Safe.keep K8q (fun x hx => by cases List.mem_singleton.mp hx; exact SF_b6) CR7.1 SF_b3
  have SF_b6 := Safe.keep K8q (fun x hx => by cases List.mem_singleton.mp hx; exact SF_b6) CR7.1 SF_b6
  have OUTK := K8
  have hSE := hS2
  have hkE := own_hk (T := T8) (h := T8.heap) rfl hk8
  have CRE := CR8.trans (CHv.at X8 hZ2 (own_EW hw) CR8.1)
  obtain ⟨Ta4, Xa4, ea4, sta4⟩ := pc175 (.val (.int p1)) (.val (.int p2)) (.val (.int p3)) (.val (.int p4)) (.val (.int p5)) (.val (.int p6)) lenA cA0 cA1 lenB cB0 cB1 (.val (.ref r1)) (.val (.ref r2)) dA dB (.val (.ref b3)) (.val (.ref b6)) .unset .unset .unset X8 hx hZ2 hw hby hml hown2 rfl One.u One.u
  obtain ⟨sm, h_sm⟩ : ∃ z, z = own_same lenA cA0 cA1 lenB cB0 cB1 dA dB := ⟨_, rfl⟩
  obtain ⟨xp, h_xp⟩ : ∃ z, z = own_exp lenA cA0 cA1 lenB cB0 cB1 dA dB := ⟨_, rfl⟩
  rw [← h_sm, ← h_xp] at sta4
  have hLA := own_3 h_lenA
  have hLB := own_3B h_lenB
  have qA0 := (own_chr0 p1 p2 p3 p4 p5 cA0 (Or.inl h_cA0)).1
  have qA1 := (own_chr0 p1 p2 p3 p4 p5 cA1 (Or.inr (Or.inl h_cA1))).1
  have qB0 := (own_chr0 p1 p2 p3 p4 p5 cB0 (Or.inr (Or.inr (Or.inl h_cB0)))).1
  have qB1 := (own_chr0 p1 p2 p3 p4 p5 cB1 (Or.inr (Or.inr (Or.inr h_cB1)))).1
  have hpre : ∀ target, Steps p.tables e below (Ta4.setTop (mkF m 234 #[.val (.int p1), .val (.int p2), .val (.int p3), .val (.int p4), .val (.int p5), .val (.int p6), .val (.int lenA), .val (.int cA0), .val (.int cA1), .val (.int lenB), .val (.int cB0), .val (.int cB1), .val (.ref r1), .val (.ref r2), .val (.ref dA), .val (.ref dB), .val (.ref b3), .val (.ref b6), .val (.int sm), .val (.int xp), .unset] [])) target → Steps p.tables e below (s₁.setTop (mkF m 0 #[.val (.int p1), .val (.int p2), .val (.int p3), .val (.int p4), .val (.int p5), .val (.int p6), .unset, .unset, .unset, .unset, .unset, .unset, .unset, .unset, .unset, .unset, .unset, .unset, .unset, .unset, .unset] [])) target := fun target kt => by
    show Steps p.tables e below (s₁.setTop (mkF m 0 #[.val (.int p1), .val (.int p2), .val (.int p3), .val (.int p4), .val (.int p5), .val (.int p6), .unset, .unset, .unset, .unset, .unset, .unset, .unset, .unset, .unset, .unset, .unset, .unset, .unset, .unset, .unset] [])) _
    refine sta1 _ ?_
    show Steps p.tables e below (Ta1.setTop (mkF m 78 #[.val (.int p1), .val (.int p2), .val (.int p3), .val (.int p4), .val (.int p5), .val (.int p6), .val (.int lenA), .val (.int cA0), .val (.int cA1), .val (.int lenB), .val (.int cB0), .val (.int cB1), .unset, .unset, .unset, .unset, .unset, .unset, .unset, .unset, .unset] [])) _
    refine XS.iload Xa1.here hx rfl (hb hby at_78) rfl ?_
    show Steps p.tables e below (Ta1.setTop (mkF m 80 #[.val (.int p1), .val (.int p2), .val (.int p3), .val (.int p4), .val (.int p5), .val (.int p6), .val (.int lenA), .val (.int cA0), .val (.int cA1), .val (.int lenB), .val (.int cB0), .val (.int cB1), .unset, .unset, .unset, .unset, .unset, .unset, .unset, .unset, .unset] [(.int lenA)])) _
    refine XS.iload Xa1.here hx rfl (hb hby at_80) rfl ?_
    show Steps p.tables e below (Ta1.setTop (mkF m 82 #[.val (.int p1), .val (.int p2), .val (.int p3), .val (.int p4), .val (.int p5), .val (.int p6), .val (.int lenA), .val (.int cA0), .val (.int cA1), .val (.int lenB), .val (.int cB0), .val (.int cB1), .unset, .unset, .unset, .unset, .unset, .unset, .unset, .unset, .unset] [(.int cA0), (.int lenA)])) _
    refine XS.iload Xa1.here hx rfl (hb hby at_82) rfl ?_
    show Steps p.tables e below (Ta1.setTop (mkF m 84 #[.val (.int p1), .val (.int p2), .val (.int p3), .val (.int p4), .val (.int p5), .val (.int p6), .val (.int lenA), .val (.int cA0), .val (.int cA1), .val (.int lenB), .val (.int cB0), .val (.int cB1), .unset, .unset, .unset, .unset, .unset, .unset, .unset, .unset, .unset] [(.int cA1), (.int cA0), (.int lenA)])) _
    refine st1.trans ?_
    show Steps p.tables e below (T1.setTop (mkF m 87 #[.val (.int p1), .val (.int p2), .val (.int p3), .val (.int p4), .val (.int p5), .val (.int p6), .val (.int lenA), .val (.int cA0), .val (.int cA1), .val (.int lenB), .val (.int cB0), .val (.int cB1), .unset, .unset, .unset, .unset, .unset, .unset, .unset, .unset, .unset] [(.ref r1)])) _
    refine XS.astore X1.here hx rfl (hb hby at_87) rfl rfl (l' := #[.val (.int p1), .val (.int p2), .val (.int p3), .val (.int p4), .val (.int p5), .val (.int p6), .val (.int lenA), .val (.int cA0), .val (.int cA1), .val (.int lenB), .val (.int cB0), .val (.int cB1), .val (.ref r1), .unset, .unset, .unset, .unset, .unset, .unset, .unset, .unset]) rfl ?_
    show Steps p.tables e below (T1.setTop (mkF m 89 #[.val (.int p1), .val (.int p2), .val (.int p3), .val (.int p4), .val (.int p5), .val (.int p6), .val (.int lenA), .val (.int cA0), .val (.int cA1), .val (.int lenB), .val (.int cB0), .val (.int cB1), .val (.ref r1), .unset, .unset, .unset, .unset, .unset, .unset, .unset, .unset] [])) _
    refine XS.iload X1.here hx rfl (hb hby at_89) rfl ?_
    show Steps p.tables e below (T1.setTop (mkF m 91 #[.val (.int p1), .val (.int p2), .val (.int p3), .val (.int p4), .val (.int p5), .val (.int p6), .val (.int lenA), .val (.int cA0), .val (.int cA1), .val (.int lenB), .val (.int cB0), .val (.int cB1), .val (.ref r1), .unset, .unset, .unset, .unset, .unset, .unset, .unset, .unset] [(.int lenB)])) _
    refine XS.iload X1.here hx rfl (hb hby at_91) rfl ?_
    show Steps p.tables e below (T1.setTop (mkF m 93 #[.val (.int p1), .val (.int p2), .val (.int p3), .val (.int p4), .val (.int p5), .val (.int p6), .val (.int lenA), .val (.int cA0), .val (.int cA1), .val (.int lenB), .val (.int cB0), .val (.int cB1), .val (.ref r1), .unset, .unset, .unset, .unset, .unset, .unset, .unset, .unset] [(.int cB0), (.int lenB)])) _
    refine XS.iload X1.here hx rfl (hb hby at_93) rfl ?_
    show Steps p.tables e below (T1.setTop (mkF m 95 #[.val (.int p1), .val (.int p2), .val (.int p3), .val (.int p4), .val (.int p5), .val (.int p6), .val (.int lenA), .val (.int cA0), .val (.int cA1), .val (.int lenB), .val (.int cB0), .val (.int cB1), .val (.ref r1), .unset, .unset, .unset, .unset, .unset, .unset, .unset, .unset] [(.int cB1), (.int cB0), (.int lenB)])) _
    refine st2.trans ?_
    show Steps p.tables e below (T2.setTop (mkF m 98 #[.val (.int p1), .val (.int p2), .val (.int p3), .val (.int p4), .val (.int p5), .val (.int p6), .val (.int lenA), .val (.int cA0), .val (.int cA1), .val (.int lenB), .val (.int cB0), .val (.int cB1), .val (.ref r1), .unset, .unset, .unset, .unset, .unset, .unset, .unset, .unset] [(.ref r2)])) _
    refine XS.astore X2.here hx rfl (hb hby at_98) rfl rfl (l' := #[.val (.int p1), .val (.int p2), .val (.int p3), .val (.int p4), .val (.int p5), .val (.int p6), .val (.int lenA), .val (.int cA0), .val (.int cA1), .val (.int lenB), .val (.int cB0), .val (.int cB1), .val (.ref r1), .val (.ref r2), .unset, .unset, .unset, .unset, .unset, .unset, .unset]) rfl ?_
    show Steps p.tables e below (T2.setTop (mkF m 100 #[.val (.int p1), .val (.int p2), .val (.int p3), .val (.int p4), .val (.int p5), .val (.int p6), .val (.int lenA), .val (.int cA0), .val (.int cA1), .val (.int lenB), .val (.int cB0), .val (.int cB1), .val (.ref r1), .val (.ref r2), .unset, .unset, .unset, .unset, .unset, .unset, .unset] [])) _
    refine sta2 _ ?_
    show Steps p.tables e below (Ta2.setTop (mkF m 117 #[.val (.int p1), .val (.int p2), .val (.int p3), .val (.int p4), .val (.int p5), .val (.int p6), .val (.int lenA), .val (.int cA0), .val (.int cA1), .val (.int lenB), .val (.int cB0), .val (.int cB1), .val (.ref r1), .val (.ref r2), .val (.ref dA), .unset, .unset, .unset, .unset, .unset, .unset] [])) _
    refine sta3 _ ?_
    show Steps p.tables e below (Ta3.setTop (mkF m 136 #[.val (.int p1), .val (.int p2), .val (.int p3), .val (.int p4), .val (.int p5), .val (.int p6), .val (.int lenA), .val (.int cA0), .val (.int cA1), .val (.int lenB), .val (.int cB0), .val (.int cB1), .val (.ref r1), .val (.ref r2), .val (.ref dA), .val (.ref dB), .unset, .unset, .unset, .unset, .unset] [])) _
    refine st3 _ ?_
    show Steps p.tables e below (T3.setTop (mkF m 139 #[.val (.int p1), .val (.int p2), .val (.int p3), .val (.int p4), .val (.int p5), .val (.int p6), .val (.int lenA), .val (.int cA0), .val (.int cA1), .val (.int lenB), .val (.int cB0), .val (.int cB1), .val (.ref r1), .val (.ref r2), .val (.ref dA), .val (.ref dB), .unset, .unset, .unset, .unset, .unset] [(.ref b3)])) _
    refine XS.dup X3.here hx rfl (hb hby at_139) rfl rfl ?_
    show Steps p.tables e below (T3.setTop (mkF m 140 #[.val (.int p1), .val (.int p2), .val (.int p3), .val (.int p4), .val (.int p5), .val (.int p6), .val (.int lenA), .val (.int cA0), .val (.int cA1), .val (.int lenB), .val (.int cB0), .val (.int cB1), .val (.ref r1), .val (.ref r2), .val (.ref dA), .val (.ref dB), .unset, .unset, .unset, .unset, .unset] [(.ref b3), (.ref b3)])) _
    refine XS.aload X3.here hx rfl (hb hby at_140) rfl rfl ?_
    show Steps p.tables e below (T3.setTop (mkF m 142 #[.val (.int p1), .val (.int p2), .val (.int p3), .val (.int p4), .val (.int p5), .val (.int p6), .val (.int lenA), .val (.int cA0), .val (.int cA1), .val (.int lenB), .val (.int cB0), .val (.int cB1), .val (.ref r1), .val (.ref r2), .val (.ref dA), .val (.ref dB), .unset, .unset, .unset, .unset, .unset] [(.ref r1), (.ref b3), (.ref b3)])) _
    refine XS.aload X3.here hx rfl (hb hby at_142) rfl rfl ?_
    show Steps p.tables e below (T3.setTop (mkF m 144 #[.val (.int p1), .val (.int p2), .val (.int p3), .val (.int p4), .val (.int p5), .val (.int p6), .val (.int lenA), .val (.int cA0), .val (.int cA1), .val (.int lenB), .val (.int cB0), .val (.int cB1), .val (.ref r1), .val (.ref r2), .val (.ref dA), .val (.ref dB), .unset, .unset, .unset, .unset, .unset] [(.ref dA), (.ref r1), (.ref b3), (.ref b3)])) _
    refine XS.iload X3.here hx rfl (hb hby at_144) rfl ?_
    show Steps p.tables e below (T3.setTop (mkF m 146 #[.val (.int p1), .val (.int p2), .val (.int p3), .val (.int p4), .val (.int p5), .val (.int p6), .val (.int lenA), .val (.int cA0), .val (.int cA1), .val (.int lenB), .val (.int cB0), .val (.int cB1), .val (.ref r1), .val (.ref r2), .val (.ref dA), .val (.ref dB), .unset, .unset, .unset, .unset, .unset] [(.int p6), (.ref dA), (.ref r1), (.ref b3), (.ref b3)])) _
    refine st4 _ ?_
    show Steps p.tables e below (T4.setTop (mkF m 149 #[.val (.int p1), .val (.int p2), .val (.int p3), .val (.int p4), .val (.int p5), .val (.int p6), .val (.int lenA), .val (.int cA0), .val (.int cA1), .val (.int lenB), .val (.int cB0), .val (.int cB1), .val (.ref r1), .val (.ref r2), .val (.ref dA), .val (.ref dB), .unset, .unset, .unset, .unset, .unset] [pv4, (.ref dA), (.ref r1), (.ref b3), (.ref b3)])) _
    refine st5.trans ?_
    show Steps p.tables e below (T5.setTop (mkF m 152 #[.val (.int p1), .val (.int p2), .val (.int p3), .val (.int p4), .val (.int p5), .val (.int p6), .val (.int lenA), .val (.int cA0), .val (.int cA1), .val (.int lenB), .val (.int cB0), .val (.int cB1), .val (.ref r1), .val (.ref r2), .val (.ref dA), .val (.ref dB), .unset, .unset, .unset, .unset, .unset] [(.ref b3)])) _
    refine XS.astore X5.here hx rfl (hb hby at_152) rfl rfl (l' := #[.val (.int p1), .val (.int p2), .val (.int p3), .val (.int p4), .val (.int p5), .val (.int p6), .val (.int lenA), .val (.int cA0), .val (.int cA1), .val (.int lenB), .val (.int cB0), .val (.int cB1), .val (.ref r1), .val (.ref r2), .val (.ref dA), .val (.ref dB), .val (.ref b3), .unset, .unset, .unset, .unset]) rfl ?_
    show Steps p.tables e below (T5.setTop (mkF m 154 #[.val (.int p1), .val (.int p2), .val (.int p3), .val (.int p4), .val (.int p5), .val (.int p6), .val (.int lenA), .val (.int cA0), .val (.int cA1), .val (.int lenB), .val (.int cB0), .val (.int cB1), .val (.ref r1), .val (.ref r2), .val (.ref dA), .val (.ref dB), .val (.ref b3), .unset, .unset, .unset, .unset] [])) _
    refine st6 _ ?_
    show Steps p.tables e below (T6.setTop (mkF m 157 #[.val (.int p1), .val (.int p2), .val (.int p3), .val (.int p4), .val (.int p5), .val (.int p6), .val (.int lenA), .val (.int cA0), .val (.int cA1), .val (.int lenB), .val (.int cB0), .val (.int cB1), .val (.ref r1), .val (.ref r2), .val (.ref dA), .val (.ref dB), .val (.ref b3), .unset, .unset, .unset, .unset] [(.ref b6)])) _
    refine XS.dup X6.here hx rfl (hb hby at_157) rfl rfl ?_
    show Steps p.tables e below (T6.setTop (mkF m 158 #[.val (.int p1), .val (.int p2), .val (.int p3), .val (.int p4), .val (.int p5), .val (.int p6), .val (.int lenA), .val (.int cA0), .val (.int cA1), .val (.int lenB), .val (.int cB0), .val (.int cB1), .val (.ref r1), .val (.ref r2), .val (.ref dA), .val (.ref dB), .val (.ref b3), .unset, .unset, .unset, .unset] [(.ref b6), (.ref b6)])) _
    refine XS.aload X6.here hx rfl (hb hby at_158) rfl rfl ?_
    show Steps p.tables e below (T6.setTop (mkF m 160 #[.val (.int p1), .val (.int p2), .val (.int p3), .val (.int p4), .val (.int p5), .val (.int p6), .val (.int lenA), .val (.int cA0), .val (.int cA1), .val (.int lenB), .val (.int cB0), .val (.int cB1), .val (.ref r1), .val (.ref r2), .val (.ref dA), .val (.ref dB), .val (.ref b3), .unset, .unset, .unset, .unset] [(.ref r2), (.ref b6), (.ref b6)])) _
    refine XS.aload X6.here hx rfl (hb hby at_160) rfl rfl ?_
    show Steps p.tables e below (T6.setTop (mkF m 162 #[.val (.int p1), .val (.int p2), .val (.int p3), .val (.int p4), .val (.int p5), .val (.int p6), .val (.int lenA), .val (.int cA0), .val (.int cA1), .val (.int lenB), .val (.int cB0), .val (.int cB1), .val (.ref r1), .val (.ref r2), .val (.ref dA), .val (.ref dB), .val (.ref b3), .unset, .unset, .unset, .unset] [(.ref dB), (.ref r2), (.ref b6), (.ref b6)])) _
    refine XS.iload X6.here hx rfl (hb hby at_162) rfl ?_
    show Steps p.tables e below (T6.setTop (mkF m 164 #[.val (.int p1), .val (.int p2), .val (.int p3), .val (.int p4), .val (.int p5), .val (.int p6), .val (.int lenA), .val (.int cA0), .val (.int cA1), .val (.int lenB), .val (.int cB0), .val (.int cB1), .val (.ref r1), .val (.ref r2), .val (.ref dA), .val (.ref dB), .val (.ref b3), .unset, .unset, .unset, .unset] [(.int p6), (.ref dB), (.ref r2), (.ref b6), (.ref b6)])) _
    refine XS.bipush X6.here hx rfl (hb hby at_164) ?_
    show Steps p.tables e below (T6.setTop (mkF m 166 #[.val (.int p1), .val (.int p2), .val (.int p3), .val (.int p4), .val (.int p5), .val (.int p6), .val (.int lenA), .val (.int cA0), .val (.int cA1), .val (.int lenB), .val (.int cB0), .val (.int cB1), .val (.ref r1), .val (.ref r2), .val (.ref dA), .val (.ref dB), .val (.ref b3), .unset, .unset, .unset, .unset] [(.int (17 : Int32)), (.int p6), (.ref dB), (.ref r2), (.ref b6), (.ref b6)])) _
    refine XS.iushr X6.here hx rfl (hb hby at_166) rfl ?_
    show Steps p.tables e below (T6.setTop (mkF m 167 #[.val (.int p1), .val (.int p2), .val (.int p3), .val (.int p4), .val (.int p5), .val (.int p6), .val (.int lenA), .val (.int cA0), .val (.int cA1), .val (.int lenB), .val (.int cB0), .val (.int cB1), .val (.ref r1), .val (.ref r2), .val (.ref dA), .val (.ref dB), .val (.ref b3), .unset, .unset, .unset, .unset] [(.int ((p6.toUInt32 >>> ((17 : Int32) &&& 31).toUInt32).toInt32)), (.ref dB), (.ref r2), (.ref b6), (.ref b6)])) _
    refine st7 _ ?_
    show Steps p.tables e below (T7.setTop (mkF m 170 #[.val (.int p1), .val (.int p2), .val (.int p3), .val (.int p4), .val (.int p5), .val (.int p6), .val (.int lenA), .val (.int cA0), .val (.int cA1), .val (.int lenB), .val (.int cB0), .val (.int cB1), .val (.ref r1), .val (.ref r2), .val (.ref dA), .val (.ref dB), .val (.ref b3), .unset, .unset, .unset, .unset] [pv7, (.ref dB), (.ref r2), (.ref b6), (.ref b6)])) _
    refine st8.trans ?_
    show Steps p.tables e below (T8.setTop (mkF m 173 #[.val (.int p1), .val (.int p2), .val (.int p3), .val (.int p4), .val (.int p5), .val (.int p6), .val (.int lenA), .val (.int cA0), .val (.int cA1), .val (.int lenB), .val (.int cB0), .val (.int cB1), .val (.ref r1), .val (.ref r2), .val (.ref dA), .val (.ref dB), .val (.ref b3), .unset, .unset, .unset, .unset] [(.ref b6)])) _
    refine XS.astore X8.here hx rfl (hb hby at_173) rfl rfl (l' := #[.val (.int p1), .val (.int p2), .val (.int p3), .val (.int p4), .val (.int p5), .val (.int p6), .val (.int lenA), .val (.int cA0), .val (.int cA1), .val (.int lenB), .val (.int cB0), .val (.int cB1), .val (.ref r1), .val (.ref r2), .val (.ref dA), .val (.ref dB), .val (.ref b3), .val (.ref b6), .unset, .unset, .unset]) rfl ?_
    show Steps p.tables e below (T8.setTop (mkF m 175 #[.val (.int p1), .val (.int p2), .val (.int p3), .val (.int p4), .val (.int p5), .val (.int p6), .val (.int lenA), .val (.int cA0), .val (.int cA1), .val (.int lenB), .val (.int cB0), .val (.int cB1), .val (.ref r1), .val (.ref r2), .val (.ref dA), .val (.ref dB), .val (.ref b3), .val (.ref b6), .unset, .unset, .unset] [])) _
    refine sta4 _ ?_
    exact kt
  by_cases hc244 : (((p5.toUInt32 >>> ((1 : Int32) &&& 31).toUInt32).toInt32) &&& (3 : Int32)) = (0 : Int32)
  · skip
    obtain ⟨cq9, kq9, q9a, q9b, q9c⟩ := isOf hZ2 ea4 (((((E_b3.keep K4q).keep K5q).ext E6).keep K7q).keep K8q)
    obtain ⟨_, _, ⟨T9, L9, k9, n9⟩, -, X9, ⟨Lc9, hQ9, l9, y9, z9⟩, st9⟩ := Xa4.virtualBack hx (y := (⟨"com/example/niyama/niyama/relational/model/Attribute", "equals", "(Ljava/lang/Object;)Z"⟩ : MethodName)) (z := (⟨"com/example/niyama/niyama/relational/model/Attribute", "equals", "(Ljava/lang/Object;)Z"⟩ : MethodName)) hown2 (mvT hZ2 (hw _ (List.mem_of_getElem? (i := 77) rfl))) (mvT hZ2 (hw _ (List.mem_of_getElem? (i := 78) rfl))) (notFace_of_selects (args := #[]) (mvT hZ2 (hw _ (List.mem_of_getElem? (i := 80) rfl)))) (mvT hZ2 (hw _ (List.mem_of_getElem? (i := 80) rfl))) (mvT hZ2 (hw _ (List.mem_of_getElem? (i := 79) rfl))) (by decide) (backOf (W := 0) (rm12a l Z a0 hw [] b3 b6 r1 r2 (own_name lenA cA0 cA1) (own_name lenB cB0 cB1) w_COMPACT_STRINGS dA dB T8.heap n0 (Nat.le_trans (Nat.le_trans (Nat.le_trans (Nat.le_trans (Nat.le_trans (Nat.le_trans (Nat.le_trans (Nat.le_trans Z0 K1q.1) K2q.1) E3.1) K4q.1) K5q.1) E6.1) K7q.1) K8q.1) ((E_b6.keep K7q).keep K8q) (((Fn5.ext E6).keep K7q own_nil).keep K8q (own_notin1 (Nat.ne_of_lt (Nat.lt_of_lt_of_le ((E_b3.keep K4q).keep K5q).lt (Nat.le_of_eq g6.symm))))) Fn8 (((((((Str1.keep0 K2q).ext E3).keep0 K4q).keep1 K5q (E_b3.keep K4q) (by decide) (hw _ (List.mem_of_getElem? (i := 44) rfl))).ext E6).keep0 K7q).keep1 K8q (E_b6.keep K7q) (by decide) (hw _ (List.mem_of_getElem? (i := 44) rfl))).exa (((((((Str1.keep0 K2q).ext E3).keep0 K4q).keep1 K5q (E_b3.keep K4q) (by decide) (hw _ (List.mem_of_getElem? (i := 44) rfl))).ext E6).keep0 K7q).keep1 K8q (E_b6.keep K7q) (by decide) (hw _ (List.mem_of_getElem? (i := 44) rfl))) ((((((Str2.ext E3).keep0 K4q).keep1 K5q (E_b3.keep K4q) (by decide) (hw _ (List.mem_of_getElem? (i := 44) rfl))).ext E6).keep0 K7q).keep1 K8q (E_b6.keep K7q) (by decide) (hw _ (List.mem_of_getElem? (i := 44) rfl))) (own_sta1 (own_sta0 ((own_sta1 (own_sta0 ((own_sta0 (own_sta0 S_COMPACT_STRINGS K1q) K2q).ext E3) K4q) K5q (E_b3.keep K4q)).ext E6) K7q) K8q (E_b6.keep K7q)) hcs (((Fd5.ext E6).keep K7q own_nil).keep K8q (own_notin1 (Nat.ne_of_lt (Nat.lt_of_lt_of_le ((E_b3.keep K4q).keep K5q).lt (Nat.le_of_eq g6.symm))))) Fd8) hZ2 (hw _ (List.mem_of_getElem? (i := 81) rfl)) (hw _ (List.mem_of_getElem? (i := 45) rfl)) (by decide) (by decide)) q9a q9c (g := (mkF m 251 #[.val (.int p1), .val (.int p2), .val (.int p3), .val (.int p4), .val (.int p5), .val (.int p6), .val (.int lenA), .val (.int cA0), .val (.int cA1), .val (.int lenB), .val (.int cB0), .val (.int cB1), .val (.ref r1), .val (.ref r2), .val (.ref dA), .val (.ref dB), .val (.ref b3), .val (.ref b6), .val (.int sm), .val (.int xp), .val (.int (((p5.toUInt32 >>> ((1 : Int32) &&& 31).toUInt32).toInt32) &&& (3 : Int32)))] [(.ref b6), (.ref b3)])) rfl (by rw [hml]; rfl) (Steps.refl _) (argsL := [(.ref b6)]) (rest := []) (lenOf pd_0_11 rfl) rfl (by show 2 * 0 + _ ≤ _; exact Nat.le_of_eq rfl) (hb hby at_251) (fun _ _ => ⟨rfl, ea4, (by decide : 12 + 0 ≤ _), (by decide : 26 + 0 ≤ _)⟩)
    dsimp only [Pt.U, Pt.locs, Pt.cells, Pt.slots] at X9 l9 y9 z9 st9 hQ9
    subst l9 y9 z9
    obtain ⟨rfl, N9q, e9⟩ := hQ9
    have N9 := Fr.app N8 N9q
    obtain ⟨cq10, kq10, q10a, q10b, q10c⟩ := isOf hZ2 e9 ((E_b6.keep K7q).keep K8q)
    obtain ⟨_, _, ⟨T10, L10, k10, n10⟩, -, X10, ⟨Lc10, hQ10, l10, y10, z10⟩, st10⟩ := X9.virtualBack hx (y := (⟨"com/example/niyama/niyama/relational/model/Attribute", "equals", "(Ljava/lang/Object;)Z"⟩ : MethodName)) (z := (⟨"com/example/niyama/niyama/relational/model/Attribute", "equals", "(Ljava/lang/Object;)Z"⟩ : MethodName)) hown2 (mvT hZ2 (hw _ (List.mem_of_getElem? (i := 77) rfl))) (mvT hZ2 (hw _ (List.mem_of_getElem? (i := 78) rfl))) (notFace_of_selects (args := #[]) (mvT hZ2 (hw _ (List.mem_of_getElem? (i := 80) rfl)))) (mvT hZ2 (hw _ (List.mem_of_getElem? (i := 80) rfl))) (mvT hZ2 (hw _ (List.mem_of_getElem? (i := 79) rfl))) (by decide) (backOf (W := 0) (rm12a l Z a0 hw [] b6 b3 r2 r1 (own_name lenB cB0 cB1) (own_name lenA cA0 cA1) w_COMPACT_STRINGS dB dA T8.heap n0 (Nat.le_trans (Nat.le_trans (Nat.le_trans (Nat.le_trans (Nat.le_trans (Nat.le_trans (Nat.le_trans (Nat.le_trans Z0 K1q.1) K2q.1) E3.1) K4q.1) K5q.1) E6.1) K7q.1) K8q.1) (((((E_b3.keep K4q).keep K5q).ext E6).keep K7q).keep K8q) Fn8 (((Fn5.ext E6).keep K7q own_nil).keep K8q (own_notin1 (Nat.ne_of_lt (Nat.lt_of_lt_of_le ((E_b3.keep K4q).keep K5q).lt (Nat.le_of_eq g6.symm))))) ((((((Str2.ext E3).keep0 K4q).keep1 K5q (E_b3.keep K4q) (by decide) (hw _ (List.mem_of_getElem? (i := 44) rfl))).ext E6).keep0 K7q).keep1 K8q (E_b6.keep K7q) (by decide) (hw _ (List.mem_of_getElem? (i := 44) rfl))).exa ((((((Str2.ext E3).keep0 K4q).keep1 K5q (E_b3.keep K4q) (by decide) (hw _ (List.mem_of_getElem? (i := 44) rfl))).ext E6).keep0 K7q).keep1 K8q (E_b6.keep K7q) (by decide) (hw _ (List.mem_of_getElem? (i := 44) rfl))) (((((((Str1.keep0 K2q).ext E3).keep0 K4q).keep1 K5q (E_b3.keep K4q) (by decide) (hw _ (List.mem_of_getElem? (i := 44) rfl))).ext E6).keep0 K7q).keep1 K8q (E_b6.keep K7q) (by decide) (hw _ (List.mem_of_getElem? (i := 44) rfl))) (own_sta1 (own_sta0 ((own_sta1 (own_sta0 ((own_sta0 (own_sta0 S_COMPACT_STRINGS K1q) K2q).ext E3) K4q) K5q (E_b3.keep K4q)).ext E6) K7q) K8q (E_b6.keep K7q)) hcs Fd8 (((Fd5.ext E6).keep K7q own_nil).keep K8q (own_notin1 (Nat.ne_of_lt (Nat.lt_of_lt_of_le ((E_b3.keep K4q).keep K5q).lt (Nat.le_of_eq g6.symm)))))) hZ2 (hw _ (List.mem_of_getElem? (i := 81) rfl)) (hw _ (List.mem_of_getElem? (i := 45) rfl)) (by decide) (by decide)) q10a q10c (g := (mkF m 263 #[.val (.int p1), .val (.int p2), .val (.int p3), .val (.int p4), .val (.int p5), .val (.int p6), .val (.int lenA), .val (.int cA0), .val (.int cA1), .val (.int lenB), .val (.int cB0), .val (.int cB1), .val (.ref r1), .val (.ref r2), .val (.ref dA), .val (.ref dB), .val (.ref b3), .val (.ref b6), .val (.int sm), .val (.int xp), .val (.int (((p5.toUInt32 >>> ((1 : Int32) &&& 31).toUInt32).toInt32) &&& (3 : Int32)))] [(.ref b3), (.ref b6)])) rfl (by rw [hml]; rfl) (Steps.refl _) (argsL := [(.ref b3)]) (rest := []) (lenOf pd_0_11 rfl) rfl (by show 2 * 0 + _ ≤ _; exact Nat.le_of_eq rfl) (hb hby at_263) (fun _ _ => ⟨rfl, e9, (by decide : 12 + 0 ≤ _), (by decide : 26 + 0 ≤ _)⟩)
    dsimp only [Pt.U, Pt.locs, Pt.cells, Pt.slots] at X10 l10 y10 z10 st10 hQ10
    subst l10 y10 z10
    obtain ⟨rfl, N10q, e10⟩ := hQ10
    have N10 := Fr.app N9 N10q
    have OUTK := K8
    have hSE := hS2
    have hkE := own_hk (T := T10) (h := T8.heap) e10 hk8
    have CRE := CR8.trans (CHv.at X10 hZ2 (own_EW hw) CR8.1)
    have hc256 : (own_eq b3 b6 r1 r2 (own_name lenA cA0 cA1) (own_name lenB cB0 cB1) w_COMPACT_STRINGS dA dB) = xp := by rw [h_xp]; exact own_main lenA cA0 cA1 lenB cB0 cB1 dA dB _ _ _ _ _ hLA hLB qA0 qA1 qB0 qB1
    have hc268 : (own_eq b6 b3 r2 r1 (own_name lenB cB0 cB1) (own_name lenA cA0 cA1) w_COMPACT_STRINGS dB dA) = xp := by rw [own_sym, h_xp]; exact own_main lenA cA0 cA1 lenB cB0 cB1 dA dB b3 b6 r1 r2 _ hLA hLB qA0 qA1 qB0 qB1
    obtain ⟨fs, hr, hrun, hended, hRE⟩ := X10.leaveW hSE hkE (v := some (.int (1 : Int32))) (fun h => by rw [Bd.returns] at h; cases h)
    refine ⟨_, _, pre0 _ (hpre _ ?_), hrun, hended, _, _, rfl, ?_, hRE.1, hRE.2.1, hRE.2.2.1, hRE.2.2.2.mono (by decide) (by decide)⟩
    · show Steps p.tables e below (Ta4.setTop (mkF m 234 #[.val (.int p1), .val (.int p2), .val (.int p3), .val (.int p4), .val (.int p5), .val (.int p6), .val (.int lenA), .val (.int cA0), .val (.int cA1), .val (.int lenB), .val (.int cB0), .val (.int cB1), .val (.ref r1), .val (.ref r2), .val (.ref dA), .val (.ref dB), .val (.ref b3), .val (.ref b6), .val (.int sm), .val (.int xp), .unset] [])) _
      refine XS.iload Xa4.here hx rfl (hb hby at_234) rfl ?_
      show Steps p.tables e below (Ta4.setTop (mkF m 236 #[.val (.int p1), .val (.int p2), .val (.int p3), .val (.int p4), .val (.int p5), .val (.int p6), .val (.int lenA), .val (.int cA0), .val (.int cA1), .val (.int lenB), .val (.int cB0), .val (.int cB1), .val (.ref r1), .val (.ref r2), .val (.ref dA), .val (.ref dB), .val (.ref b3), .val (.ref b6), .val (.int sm), .val (.int xp), .unset] [(.int p5)])) _
      refine XS.iconst Xa4.here hx rfl (hb hby at_236) ?_
      show Steps p.tables e below (Ta4.setTop (mkF m 237 #[.val (.int p1), .val (.int p2), .val (.int p3), .val (.int p4), .val (.int p5), .val (.int p6), .val (.int lenA), .val (.int cA0), .val (.int cA1), .val (.int lenB), .val (.int cB0), .val (.int cB1), .val (.ref r1), .val (.ref r2), .val (.ref dA), .val (.ref dB), .val (.ref b3), .val (.ref b6), .val (.int sm), .val (.int xp), .unset] [(.int (1 : Int32)), (.int p5)])) _
      refine XS.iushr Xa4.here hx rfl (hb hby at_237) rfl ?_
      show Steps p.tables e below (Ta4.setTop (mkF m 238 #[.val (.int p1), .val (.int p2), .val (.int p3), .val (.int p4), .val (.int p5), .val (.int p6), .val (.int lenA), .val (.int cA0), .val (.int cA1), .val (.int lenB), .val (.int cB0), .val (.int cB1), .val (.ref r1), .val (.ref r2), .val (.ref dA), .val (.ref dB), .val (.ref b3), .val (.ref b6), .val (.int sm), .val (.int xp), .unset] [(.int ((p5.toUInt32 >>> ((1 : Int32) &&& 31).toUInt32).toInt32))])) _
      refine XS.iconst Xa4.here hx rfl (hb hby at_238) ?_
      show Steps p.tables e below (Ta4.setTop (mkF m 239 #[.val (.int p1), .val (.int p2), .val (.int p3), .val (.int p4), .val (.int p5), .val (.int p6), .val (.int lenA), .val (.int cA0), .val (.int cA1), .val (.int lenB), .val (.int cB0), .val (.int cB1), .val (.ref r1), .val (.ref r2), .val (.ref dA), .val (.ref dB), .val (.ref b3), .val (.ref b6), .val (.int sm), .val (.int xp), .unset] [(.int (3 : Int32)), (.int ((p5.toUInt32 >>> ((1 : Int32) &&& 31).toUInt32).toInt32))])) _
      refine XS.iand Xa4.here hx rfl (hb hby at_239) rfl ?_
      show Steps p.tables e below (Ta4.setTop (mkF m 240 #[.val (.int p1), .val (.int p2), .val (.int p3), .val (.int p4), .val (.int p5), .val (.int p6), .val (.int lenA), .val (.int cA0), .val (.int cA1), .val (.int lenB), .val (.int cB0), .val (.int cB1), .val (.ref r1), .val (.ref r2), .val (.ref dA), .val (.ref dB), .val (.ref b3), .val (.ref b6), .val (.int sm), .val (.int xp), .unset] [(.int (((p5.toUInt32 >>> ((1 : Int32) &&& 31).toUInt32).toInt32) &&& (3 : Int32)))])) _
      refine XS.istore Xa4.here hx rfl (hb hby at_240) rfl (l' := #[.val (.int p1), .val (.int p2), .val (.int p3), .val (.int p4), .val (.int p5), .val (.int p6), .val (.int lenA), .val (.int cA0), .val (.int cA1), .val (.int lenB), .val (.int cB0), .val (.int cB1), .val (.ref r1), .val (.ref r2), .val (.ref dA), .val (.ref dB), .val (.ref b3), .val (.ref b6), .val (.int sm), .val (.int xp), .val (.int (((p5.toUInt32 >>> ((1 : Int32) &&& 31).toUInt32).toInt32) &&& (3 : Int32)))]) rfl ?_
      show Steps p.tables e below (Ta4.setTop (mkF m 242 #[.val (.int p1), .val (.int p2), .val (.int p3), .val (.int p4), .val (.int p5), .val (.int p6), .val (.int lenA), .val (.int cA0), .val (.int cA1), .val (.int lenB), .val (.int cB0), .val (.int cB1), .val (.ref r1), .val (.ref r2), .val (.ref dA), .val (.ref dB), .val (.ref b3), .val (.ref b6), .val (.int sm), .val (.int xp), .val (.int (((p5.toUInt32 >>> ((1 : Int32) &&& 31).toUInt32).toInt32) &&& (3 : Int32)))] [])) _
      refine XS.iload Xa4.here hx rfl (hb hby at_242) rfl ?_
      show Steps p.tables e below (Ta4.setTop (mkF m 244 #[.val (.int p1), .val (.int p2), .val (.int p3), .val (.int p4), .val (.int p5), .val (.int p6), .val (.int lenA), .val (.int cA0), .val (.int cA1), .val (.int lenB), .val (.int cB0), .val (.int cB1), .val (.ref r1), .val (.ref r2), .val (.ref dA), .val (.ref dB), .val (.ref b3), .val (.ref b6), .val (.int sm), .val (.int xp), .val (.int (((p5.toUInt32 >>> ((1 : Int32) &&& 31).toUInt32).toInt32) &&& (3 : Int32)))] [(.int (((p5.toUInt32 >>> ((1 : Int32) &&& 31).toUInt32).toInt32) &&& (3 : Int32)))])) _
      refine XS.ifNo Xa4.here hx rfl (hb hby at_244) rfl ((if0 _ _).trans (teq hc244).2) ?_
      show Steps p.tables e below (Ta4.setTop (mkF m 247 #[.val (.int p1), .val (.int p2), .val (.int p3), .val (.int p4), .val (.int p5), .val (.int p6), .val (.int lenA), .val (.int cA0), .val (.int cA1), .val (.int lenB), .val (.int cB0), .val (.int cB1), .val (.ref r1), .val (.ref r2), .val (.ref dA), .val (.ref dB), .val (.ref b3), .val (.ref b6), .val (.int sm), .val (.int xp), .val (.int (((p5.toUInt32 >>> ((1 : Int32) &&& 31).toUInt32).toInt32) &&& (3 : Int32)))] [])) _
      refine XS.aload Xa4.here hx rfl (hb hby at_247) rfl rfl ?_
      show Steps p.tables e below (Ta4.setTop (mkF m 249 #[.val (.int p1), .val (.int p2), .val (.int p3), .val (.int p4), .val (.int p5), .val (.int p6), .val (.int lenA), .val (.int cA0), .val (.int cA1), .val (.int lenB), .val (.int cB0), .val (.int cB1), .val (.ref r1), .val (.ref r2), .val (.ref dA), .val (.ref dB), .val (.ref b3), .val (.ref b6), .val (.int sm), .val (.int xp), .val (.int (((p5.toUInt32 >>> ((1 : Int32) &&& 31).toUInt32).toInt32) &&& (3 : Int32)))] [(.ref b3)])) _
      refine XS.aload Xa4.here hx rfl (hb hby at_249) rfl rfl ?_
      show Steps p.tables e below (Ta4.setTop (mkF m 251 #[.val (.int p1), .val (.int p2), .val (.int p3), .val (.int p4), .val (.int p5), .val (.int p6), .val (.int lenA), .val (.int cA0), .val (.int cA1), .val (.int lenB), .val (.int cB0), .val (.int cB1), .val (.ref r1), .val (.ref r2), .val (.ref dA), .val (.ref dB), .val (.ref b3), .val (.ref b6), .val (.int sm), .val (.int xp), .val (.int (((p5.toUInt32 >>> ((1 : Int32) &&& 31).toUInt32).toInt32) &&& (3 : Int32)))] [(.ref b6), (.ref b3)])) _
      refine st9.trans ?_
      show Steps p.tables e below (T9.setTop (mkF m 254 #[.val (.int p1), .val (.int p2), .val (.int p3), .val (.int p4), .val (.int p5), .val (.int p6), .val (.int lenA), .val (.int cA0), .val (.int cA1), .val (.int lenB), .val (.int cB0), .val (.int cB1), .val (.ref r1), .val (.ref r2), .val (.ref dA), .val (.ref dB), .val (.ref b3), .val (.ref b6), .val (.int sm), .val (.int xp), .val (.int (((p5.toUInt32 >>> ((1 : Int32) &&& 31).toUInt32).toInt32) &&& (3 : Int32)))] [(.int (own_eq b3 b6 r1 r2 (own_name lenA cA0 cA1) (own_name lenB cB0 cB1) w_COMPACT_STRINGS dA dB))])) _
      refine XS.iload X9.here hx rfl (hb hby at_254) rfl ?_
      show Steps p.tables e below (T9.setTop (mkF m 256 #[.val (.int p1), .val (.int p2), .val (.int p3), .val (.int p4), .val (.int p5), .val (.int p6), .val (.int lenA), .val (.int cA0), .val (.int cA1), .val (.int lenB), .val (.int cB0), .val (.int cB1), .val (.ref r1), .val (.ref r2), .val (.ref dA), .val (.ref dB), .val (.ref b3), .val (.ref b6), .val (.int sm), .val (.int xp), .val (.int (((p5.toUInt32 >>> ((1 : Int32) &&& 31).toUInt32).toInt32) &&& (3 : Int32)))] [(.int xp), (.int (own_eq b3 b6 r1 r2 (own_name lenA cA0 cA1) (own_name lenB cB0 cB1) w_COMPACT_STRINGS dA dB))])) _
      refine XS.icmpNo X9.here hx rfl (hb hby at_256) rfl (teq hc256).2 ?_
      show Steps p.tables e below (T9.setTop (mkF m 259 #[.val (.int p1), .val (.int p2), .val (.int p3), .val (.int p4), .val (.int p5), .val (.int p6), .val (.int lenA), .val (.int cA0), .val (.int cA1), .val (.int lenB), .val (.int cB0), .val (.int cB1), .val (.ref r1), .val (.ref r2), .val (.ref dA), .val (.ref dB), .val (.ref b3), .val (.ref b6), .val (.int sm), .val (.int xp), .val (.int (((p5.toUInt32 >>> ((1 : Int32) &&& 31).toUInt32).toInt32) &&& (3 : Int32)))] [])) _
      refine XS.aload X9.here hx rfl (hb hby at_259) rfl rfl ?_
      show Steps p.tables e below (T9.setTop (mkF m 261 #[.val (.int p1), .val (.int p2), .val (.int p3), .val (.int p4), .val (.int p5), .val (.int p6), .val (.int lenA), .val (.int cA0), .val (.int cA1), .val (.int lenB), .val (.int cB0), .val (.int cB1), .val (.ref r1), .val (.ref r2), .val (.ref dA), .val (.ref dB), .val (.ref b3), .val (.ref b6), .val (.int sm), .val (.int xp), .val (.int (((p5.toUInt32 >>> ((1 : Int32) &&& 31).toUInt32).toInt32) &&& (3 : Int32)))] [(.ref b6)])) _
      refine XS.aload X9.here hx rfl (hb hby at_261) rfl rfl ?_
      show Steps p.tables e below (T9.setTop (mkF m 263 #[.val (.int p1), .val (.int p2), .val (.int p3), .val (.int p4), .val (.int p5), .val (.int p6), .val (.int lenA), .val (.int cA0), .val (.int cA1), .val (.int lenB), .val (.int cB0), .val (.int cB1), .val (.ref r1), .val (.ref r2), .val (.ref dA), .val (.ref dB), .val (.ref b3), .val (.ref b6), .val (.int sm), .val (.int xp), .val (.int (((p5.toUInt32 >>> ((1 : Int32) &&& 31).toUInt32).toInt32) &&& (3 : Int32)))] [(.ref b3), (.ref b6)])) _
      refine st10.trans ?_
      show Steps p.tables e below (T10.setTop (mkF m 266 #[.val (.int p1), .val (.int p2), .val (.int p3), .val (.int p4), .val (.int p5), .val (.int p6), .val (.int lenA), .val (.int cA0), .val (.int cA1), .val (.int lenB), .val (.int cB0), .val (.int cB1), .val (.ref r1), .val (.ref r2), .val (.ref dA), .val (.ref dB), .val (.ref b3), .val (.ref b6), .val (.int sm), .val (.int xp), .val (.int (((p5.toUInt32 >>> ((1 : Int32) &&& 31).toUInt32).toInt32) &&& (3 : Int32)))] [(.int (own_eq b6 b3 r2 r1 (own_name lenB cB0 cB1) (own_name lenA cA0 cA1) w_COMPACT_STRINGS dB dA))])) _
      refine XS.iload X10.here hx rfl (hb hby at_266) rfl ?_
      show Steps p.tables e below (T10.setTop (mkF m 268 #[.val (.int p1), .val (.int p2), .val (.int p3), .val (.int p4), .val (.int p5), .val (.int p6), .val (.int lenA), .val (.int cA0), .val (.int cA1), .val (.int lenB), .val (.int cB0), .val (.int cB1), .val (.ref r1), .val (.ref r2), .val (.ref dA), .val (.ref dB), .val (.ref b3), .val (.ref b6), .val (.int sm), .val (.int xp), .val (.int (((p5.toUInt32 >>> ((1 : Int32) &&& 31).toUInt32).toInt32) &&& (3 : Int32)))] [(.int xp), (.int (own_eq b6 b3 r2 r1 (own_name lenB cB0 cB1) (own_name lenA cA0 cA1) w_COMPACT_STRINGS dB dA))])) _
      refine XS.icmpNo X10.here hx rfl (hb hby at_268) rfl (teq hc268).2 ?_
      show Steps p.tables e below (T10.setTop (mkF m 271 #[.val (.int p1), .val (.int p2), .val (.int p3), .val (.int p4), .val (.int p5), .val (.int p6), .val (.int lenA), .val (.int cA0), .val (.int cA1), .val (.int lenB), .val (.int cB0), .val (.int cB1), .val (.ref r1), .val (.ref r2), .val (.ref dA), .val (.ref dB), .val (.ref b3), .val (.ref b6), .val (.int sm), .val (.int xp), .val (.int (((p5.toUInt32 >>> ((1 : Int32) &&& 31).toUInt32).toInt32) &&& (3 : Int32)))] [])) _
      refine XS.iconst X10.here hx rfl (hb hby at_271) ?_
      show Steps p.tables e below (T10.setTop (mkF m 272 #[.val (.int p1), .val (.int p2), .val (.int p3), .val (.int p4), .val (.int p5), .val (.int p6), .val (.int lenA), .val (.int cA0), .val (.int cA1), .val (.int lenB), .val (.int cB0), .val (.int cB1), .val (.ref r1), .val (.ref r2), .val (.ref dA), .val (.ref dB), .val (.ref b3), .val (.ref b6), .val (.int sm), .val (.int xp), .val (.int (((p5.toUInt32 >>> ((1 : Int32) &&& 31).toUInt32).toInt32) &&& (3 : Int32)))] [(.int (1 : Int32))])) _
      refine XS.goto X10.here hx rfl (pc0 := 272) (pc' := 276) rfl (hb hby at_272) (by decide) (by decide) ?_
      show Steps p.tables e below (T10.setTop (mkF m 276 #[.val (.int p1), .val (.int p2), .val (.int p3), .val (.int p4), .val (.int p5), .val (.int p6), .val (.int lenA), .val (.int cA0), .val (.int cA1), .val (.int lenB), .val (.int cB0), .val (.int cB1), .val (.ref r1), .val (.ref r2), .val (.ref dA), .val (.ref dB), .val (.ref b3), .val (.ref b6), .val (.int sm), .val (.int xp), .val (.int (((p5.toUInt32 >>> ((1 : Int32) &&& 31).toUInt32).toInt32) &&& (3 : Int32)))] [(.int (1 : Int32))])) _
      exact retN X10 hx (t := .boolean) Bd.returns (by simp) (hb hby at_276) hr
    · exact ⟨rfl, N10⟩
  · by_cases hc280 : (((p5.toUInt32 >>> ((1 : Int32) &&& 31).toUInt32).toInt32) &&& (3 : Int32)) = (1 : Int32)
    · skip
      obtain ⟨cq9, kq9, q9a, q9b, q9c⟩ := isOf hZ2 ea4 (((((E_b3.keep K4q).keep K5q).ext E6).keep K7q).keep K8q)
      obtain ⟨_, _, ⟨T9, L9, k9, n9⟩, -, X9, ⟨Lc9, hQ9, l9, y9, z9⟩, st9⟩ := Xa4.virtualBack hx (y := (⟨"com/example/niyama/niyama/relational/model/Attribute", "equals", "(Ljava/lang/Object;)Z"⟩ : MethodName)) (z := (⟨"com/example/niyama/niyama/relational/model/Attribute", "equals", "(Ljava/lang/Object;)Z"⟩ : MethodName)) hown2 (mvT hZ2 (hw _ (List.mem_of_getElem? (i := 77) rfl))) (mvT hZ2 (hw _ (List.mem_of_getElem? (i := 78) rfl))) (notFace_of_selects (args := #[]) (mvT hZ2 (hw _ (List.mem_of_getElem? (i := 80) rfl)))) (mvT hZ2 (hw _ (List.mem_of_getElem? (i := 80) rfl))) (mvT hZ2 (hw _ (List.mem_of_getElem? (i := 79) rfl))) (by decide) (backOf (W := 0) (rm12n l Z a0 hw [] b3  T8.heap n0 (Nat.le_trans (Nat.le_trans (Nat.le_trans (Nat.le_trans (Nat.le_trans (Nat.le_trans (Nat.le_trans (Nat.le_trans Z0 K1q.1) K2q.1) E3.1) K4q.1) K5q.1) E6.1) K7q.1) K8q.1)) hZ2 (hw _ (List.mem_of_getElem? (i := 81) rfl)) (hw _ (List.mem_of_getElem? (i := 45) rfl)) (by decide) (by decide)) q9a q9c (g := (mkF m 286 #[.val (.int p1), .val (.int p2), .val (.int p3), .val (.int p4), .val (.int p5), .val (.int p6), .val (.int lenA), .val (.int cA0), .val (.int cA1), .val (.int lenB), .val (.int cB0), .val (.int cB1), .val (.ref r1), .val (.ref r2), .val (.ref dA), .val (.ref dB), .val (.ref b3), .val (.ref b6), .val (.int sm), .val (.int xp), .val (.int (((p5.toUInt32 >>> ((1 : Int32) &&& 31).toUInt32).toInt32) &&& (3 : Int32)))] [.null, (.ref b3)])) rfl (by rw [hml]; rfl) (Steps.refl _) (argsL := [.null]) (rest := []) (lenOf pd_0_11 rfl) rfl (by show 2 * 0 + _ ≤ _; exact Nat.le_of_eq rfl) (hb hby at_286) (fun _ _ => ⟨rfl, ea4, (by decide : 12 + 0 ≤ _), (by decide : 26 + 0 ≤ _)⟩)
      dsimp only [Pt.U, Pt.locs, Pt.cells, Pt.slots] at X9 l9 y9 z9 st9 hQ9
      subst l9 y9 z9
      obtain ⟨rfl, N9q, e9⟩ := hQ9
      have N9 := Fr.app N8 N9q
      have OUTK := K8
      have hSE := hS2
      have hkE := own_hk (T := T9) (h := T8.heap) e9 hk8
      have CRE := CR8.trans (CHv.at X9 hZ2 (own_EW hw) CR8.1)
      obtain ⟨fs, hr, hrun, hended, hRE⟩ := X9.leaveW hSE hkE (v := some (.int (1 : Int32))) (fun h => by rw [Bd.returns] at h; cases h)
      refine ⟨_, _, pre0 _ (hpre _ ?_), hrun, hended, _, _, rfl, ?_, hRE.1, hRE.2.1, hRE.2.2.1, hRE.2.2.2.mono (by decide) (by decide)⟩
      · show Steps p.tables e below (Ta4.setTop (mkF m 234 #[.val (.int p1), .val (.int p2), .val (.int p3), .val (.int p4), .val (.int p5), .val (.int p6), .val (.int lenA), .val (.int cA0), .val (.int cA1), .val (.int lenB), .val (.int cB0), .val (.int cB1), .val (.ref r1), .val (.ref r2), .val (.ref dA), .val (.ref dB), .val (.ref b3), .val (.ref b6), .val (.int sm), .val (.int xp), .unset] [])) _
        refine XS.iload Xa4.here hx rfl (hb hby at_234) rfl ?_
        show Steps p.tables e below (Ta4.setTop (mkF m 236 #[.val (.int p1), .val (.int p2), .val (.int p3), .val (.int p4), .val (.int p5), .val (.int p6), .val (.int lenA), .val (.int cA0), .val (.int cA1), .val (.int lenB), .val (.int cB0), .val (.int cB1), .val (.ref r1), .val (.ref r2), .val (.ref dA), .val (.ref dB), .val (.ref b3), .val (.ref b6), .val (.int sm), .val (.int xp), .unset] [(.int p5)])) _
        refine XS.iconst Xa4.here hx rfl (hb hby at_236) ?_
        show Steps p.tables e below (Ta4.setTop (mkF m 237 #[.val (.int p1), .val (.int p2), .val (.int p3), .val (.int p4), .val (.int p5), .val (.int p6), .val (.int lenA), .val (.int cA0), .val (.int cA1), .val (.int lenB), .val (.int cB0), .val (.int cB1), .val (.ref r1), .val (.ref r2), .val (.ref dA), .val (.ref dB), .val (.ref b3), .val (.ref b6), .val (.int sm), .val (.int xp), .unset] [(.int (1 : Int32)), (.int p5)])) _
        refine XS.iushr Xa4.here hx rfl (hb hby at_237) rfl ?_
        show Steps p.tables e below (Ta4.setTop (mkF m 238 #[.val (.int p1), .val (.int p2), .val (.int p3), .val (.int p4), .val (.int p5), .val (.int p6), .val (.int lenA), .val (.int cA0), .val (.int cA1), .val (.int lenB), .val (.int cB0), .val (.int cB1), .val (.ref r1), .val (.ref r2), .val (.ref dA), .val (.ref dB), .val (.ref b3), .val (.ref b6), .val (.int sm), .val (.int xp), .unset] [(.int ((p5.toUInt32 >>> ((1 : Int32) &&& 31).toUInt32).toInt32))])) _
        refine XS.iconst Xa4.here hx rfl (hb hby at_238) ?_
        show Steps p.tables e below (Ta4.setTop (mkF m 239 #[.val (.int p1), .val (.int p2), .val (.int p3), .val (.int p4), .val (.int p5), .val (.int p6), .val (.int lenA), .val (.int cA0), .val (.int cA1), .val (.int lenB), .val (.int cB0), .val (.int cB1), .val (.ref r1), .val (.ref r2), .val (.ref dA), .val (.ref dB), .val (.ref b3), .val (.ref b6), .val (.int sm), .val (.int xp), .unset] [(.int (3 : Int32)), (.int ((p5.toUInt32 >>> ((1 : Int32) &&& 31).toUInt32).toInt32))])) _
        refine XS.iand Xa4.here hx rfl (hb hby at_239) rfl ?_
        show Steps p.tables e below (Ta4.setTop (mkF m 240 #[.val (.int p1), .val (.int p2), .val (.int p3), .val (.int p4), .val (.int p5), .val (.int p6), .val (.int lenA), .val (.int cA0), .val (.int cA1), .val (.int lenB), .val (.int cB0), .val (.int cB1), .val (.ref r1), .val (.ref r2), .val (.ref dA), .val (.ref dB), .val (.ref b3), .val (.ref b6), .val (.int sm), .val (.int xp), .unset] [(.int (((p5.toUInt32 >>> ((1 : Int32) &&& 31).toUInt32).toInt32) &&& (3 : Int32)))])) _
        refine XS.istore Xa4.here hx rfl (hb hby at_240) rfl (l' := #[.val (.int p1), .val (.int p2), .val (.int p3), .val (.int p4), .val (.int p5), .val (.int p6), .val (.int lenA), .val (.int cA0), .val (.int cA1), .val (.int lenB), .val (.int cB0), .val (.int cB1), .val (.ref r1), .val (.ref r2), .val (.ref dA), .val (.ref dB), .val (.ref b3), .val (.ref b6), .val (.int sm), .val (.int xp), .val (.int (((p5.toUInt32 >>> ((1 : Int32) &&& 31).toUInt32).toInt32) &&& (3 : Int32)))]) rfl ?_
        show Steps p.tables e below (Ta4.setTop (mkF m 242 #[.val (.int p1), .val (.int p2), .val (.int p3), .val (.int p4), .val (.int p5), .val (.int p6), .val (.int lenA), .val (.int cA0), .val (.int cA1), .val (.int lenB), .val (.int cB0), .val (.int cB1), .val (.ref r1), .val (.ref r2), .val (.ref dA), .val (.ref dB), .val (.ref b3), .val (.ref b6), .val (.int sm), .val (.int xp), .val (.int (((p5.toUInt32 >>> ((1 : Int32) &&& 31).toUInt32).toInt32) &&& (3 : Int32)))] [])) _
        refine XS.iload Xa4.here hx rfl (hb hby at_242) rfl ?_
        show Steps p.tables e below (Ta4.setTop (mkF m 244 #[.val (.int p1), .val (.int p2), .val (.int p3), .val (.int p4), .val (.int p5), .val (.int p6), .val (.int lenA), .val (.int cA0), .val (.int cA1), .val (.int lenB), .val (.int cB0), .val (.int cB1), .val (.ref r1), .val (.ref r2), .val (.ref dA), .val (.ref dB), .val (.ref b3), .val (.ref b6), .val (.int sm), .val (.int xp), .val (.int (((p5.toUInt32 >>> ((1 : Int32) &&& 31).toUInt32).toInt32) &&& (3 : Int32)))] [(.int (((p5.toUInt32 >>> ((1 : Int32) &&& 31).toUInt32).toInt32) &&& (3 : Int32)))])) _
        refine XS.ifYes Xa4.here hx rfl (pc0 := 244) (pc' := 277) rfl (hb hby at_244) rfl ((if0 _ _).trans (feq hc244).2) (by decide) (by decide) ?_
        show Steps p.tables e below (Ta4.setTop (mkF m 277 #[.val (.int p1), .val (.int p2), .val (.int p3), .val (.int p4), .val (.int p5), .val (.int p6), .val (.int lenA), .val (.int cA0), .val (.int cA1), .val (.int lenB), .val (.int cB0), .val (.int cB1), .val (.ref r1), .val (.ref r2), .val (.ref dA), .val (.ref dB), .val (.ref b3), .val (.ref b6), .val (.int sm), .val (.int xp), .val (.int (((p5.toUInt32 >>> ((1 : Int32) &&& 31).toUInt32).toInt32) &&& (3 : Int32)))] [])) _
        refine XS.iload Xa4.here hx rfl (hb hby at_277) rfl ?_
        show Steps p.tables e below (Ta4.setTop (mkF m 279 #[.val (.int p1), .val (.int p2), .val (.int p3), .val (.int p4), .val (.int p5), .val (.int p6), .val (.int lenA), .val (.int cA0), .val (.int cA1), .val (.int lenB), .val (.int cB0), .val (.int cB1), .val (.ref r1), .val (.ref r2), .val (.ref dA), .val (.ref dB), .val (.ref b3), .val (.ref b6), .val (.int sm), .val (.int xp), .val (.int (((p5.toUInt32 >>> ((1 : Int32) &&& 31).toUInt32).toInt32) &&& (3 : Int32)))] [(.int (((p5.toUInt32 >>> ((1 : Int32) &&& 31).toUInt32).toInt32) &&& (3 : Int32)))])) _
        refine XS.iconst Xa4.here hx rfl (hb hby at_279) ?_
        show Steps p.tables e below (Ta4.setTop (mkF m 280 #[.val (.int p1), .val (.int p2), .val (.int p3), .val (.int p4), .val (.int p5), .val (.int p6), .val (.int lenA), .val (.int cA0), .val (.int cA1), .val (.int lenB), .val (.int cB0), .val (.int cB1), .val (.ref r1), .val (.ref r2), .val (.ref dA), .val (.ref dB), .val (.ref b3), .val (.ref b6), .val (.int sm), .val (.int xp), .val (.int (((p5.toUInt32 >>> ((1 : Int32) &&& 31).toUInt32).toInt32) &&& (3 : Int32)))] [(.int (1 : Int32)), (.int (((p5.toUInt32 >>> ((1 : Int32) &&& 31).toUInt32).toInt32) &&& (3 : Int32)))])) _
        refine XS.icmpNo Xa4.here hx rfl (hb hby at_280) rfl (teq hc280).2 ?_
        show Steps p.tables e below (Ta4.setTop (mkF m 283 #[.val (.int p1), .val (.int p2), .val (.int p3), .val (.int p4), .val (.int p5), .val (.int p6), .val (.int lenA), .val (.int cA0), .val (.int cA1), .val (.int lenB), .val (.int cB0), .val (.int cB1), .val (.ref r1), .val (.ref r2), .val (.ref dA), .val (.ref dB), .val (.ref b3), .val (.ref b6), .val (.int sm), .val (.int xp), .val (.int (((p5.toUInt32 >>> ((1 : Int32) &&& 31).toUInt32).toInt32) &&& (3 : Int32)))] [])) _
        refine XS.aload Xa4.here hx rfl (hb hby at_283) rfl rfl ?_
        show Steps p.tables e below (Ta4.setTop (mkF m 285 #[.val (.int p1), .val (.int p2), .val (.int p3), .val (.int p4), .val (.int p5), .val (.int p6), .val (.int lenA), .val (.int cA0), .val (.int cA1), .val (.int lenB), .val (.int cB0), .val (.int cB1), .val (.ref r1), .val (.ref r2), .val (.ref dA), .val (.ref dB), .val (.ref b3), .val (.ref b6), .val (.int sm), .val (.int xp), .val (.int (((p5.toUInt32 >>> ((1 : Int32) &&& 31).toUInt32).toInt32) &&& (3 : Int32)))] [(.ref b3)])) _
        refine XS.aconstNull Xa4.here hx rfl (hb hby at_285) ?_
        show Steps p.tables e below (Ta4.setTop (mkF m 286 #[.val (.int p1), .val (.int p2), .val (.int p3), .val (.int p4), .val (.int p5), .val (.int p6), .val (.int lenA), .val (.int cA0), .val (.int cA1), .val (.int lenB), .val (.int cB0), .val (.int cB1), .val (.ref r1), .val (.ref r2), .val (.ref dA), .val (.ref dB), .val (.ref b3), .val (.ref b6), .val (.int sm), .val (.int xp), .val (.int (((p5.toUInt32 >>> ((1 : Int32) &&& 31).toUInt32).toInt32) &&& (3 : Int32)))] [.null, (.ref b3)])) _
        refine st9.trans ?_
        show Steps p.tables e below (T9.setTop (mkF m 289 #[.val (.int p1), .val (.int p2), .val (.int p3), .val (.int p4), .val (.int p5), .val (.int p6), .val (.int lenA), .val (.int cA0), .val (.int cA1), .val (.int lenB), .val (.int cB0), .val (.int cB1), .val (.ref r1), .val (.ref r2), .val (.ref dA), .val (.ref dB), .val (.ref b3), .val (.ref b6), .val (.int sm), .val (.int xp), .val (.int (((p5.toUInt32 >>> ((1 : Int32) &&& 31).toUInt32).toInt32) &&& (3 : Int32)))] [(.int (0 : Int32))])) _
        refine XS.ifNo X9.here hx rfl (hb hby at_289) rfl ((if0 _ _).trans (teq (by decide : (0 : Int32) = (0 : Int32))).2) ?_
        show Steps p.tables e below (T9.setTop (mkF m 292 #[.val (.int p1), .val (.int p2), .val (.int p3), .val (.int p4), .val (.int p5), .val (.int p6), .val (.int lenA), .val (.int cA0), .val (.int cA1), .val (.int lenB), .val (.int cB0), .val (.int cB1), .val (.ref r1), .val (.ref r2), .val (.ref dA), .val (.ref dB), .val (.ref b3), .val (.ref b6), .val (.int sm), .val (.int xp), .val (.int (((p5.toUInt32 >>> ((1 : Int32) &&& 31).toUInt32).toInt32) &&& (3 : Int32)))] [])) _
        refine XS.iconst X9.here hx rfl (hb hby at_292) ?_
        show Steps p.tables e below (T9.setTop (mkF m 293 #[.val (.int p1), .val (.int p2), .val (.int p3), .val (.int p4), .val (.int p5), .val (.int p6), .val (.int lenA), .val (.int cA0), .val (.int cA1), .val (.int lenB), .val (.int cB0), .val (.int cB1), .val (.ref r1), .val (.ref r2), .val (.ref dA), .val (.ref dB), .val (.ref b3), .val (.ref b6), .val (.int sm), .val (.int xp), .val (.int (((p5.toUInt32 >>> ((1 : Int32) &&& 31).toUInt32).toInt32) &&& (3 : Int32)))] [(.int (1 : Int32))])) _
        refine XS.goto X9.here hx rfl (pc0 := 293) (pc' := 297) rfl (hb hby at_293) (by decide) (by decide) ?_
        show Steps p.tables e below (T9.setTop (mkF m 297 #[.val (.int p1), .val (.int p2), .val (.int p3), .val (.int p4), .val (.int p5), .val (.int p6), .val (.int lenA), .val (.int cA0), .val (.int cA1), .val (.int lenB), .val (.int cB0), .val (.int cB1), .val (.ref r1), .val (.ref r2), .val (.ref dA), .val (.ref dB), .val (.ref b3), .val (.ref b6), .val (.int sm), .val (.int xp), .val (.int (((p5.toUInt32 >>> ((1 : Int32) &&& 31).toUInt32).toInt32) &&& (3 : Int32)))] [(.int (1 : Int32))])) _
        exact retN X9 hx (t := .boolean) Bd.returns (by simp) (hb hby at_297) hr
      · exact ⟨rfl, N9⟩
    · by_cases hc301 : (((p5.toUInt32 >>> ((1 : Int32) &&& 31).toUInt32).toInt32) &&& (3 : Int32)) = (2 : Int32)
      · skip
        obtain ⟨cq9, kq9, q9a, q9b, q9c⟩ := isOf hZ2 ea4 (((((E_b3.keep K4q).keep K5q).ext E6).keep K7q).keep K8q)
        obtain ⟨_, _, ⟨T9, L9, k9, n9⟩, -, X9, ⟨Lc9, hQ9, l9, y9, z9⟩, st9⟩ := Xa4.virtualBack hx (y := (⟨"com/example/niyama/niyama/relational/model/Attribute", "equals", "(Ljava/lang/Object;)Z"⟩ : MethodName)) (z := (⟨"com/example/niyama/niyama/relational/model/Attribute", "equals", "(Ljava/lang/Object;)Z"⟩ : MethodName)) hown2 (mvT hZ2 (hw _ (List.mem_of_getElem? (i := 77) rfl))) (mvT hZ2 (hw _ (List.mem_of_getElem? (i := 78) rfl))) (notFace_of_selects (args := #[]) (mvT hZ2 (hw _ (List.mem_of_getElem? (i := 80) rfl)))) (mvT hZ2 (hw _ (List.mem_of_getElem? (i := 80) rfl))) (mvT hZ2 (hw _ (List.mem_of_getElem? (i := 79) rfl))) (by decide) (backOf (W := 0) (rm12s l Z a0 hw [] b3 r1  T8.heap n0 (Nat.le_trans (Nat.le_trans (Nat.le_trans (Nat.le_trans (Nat.le_trans (Nat.le_trans (Nat.le_trans (Nat.le_trans Z0 K1q.1) K2q.1) E3.1) K4q.1) K5q.1) E6.1) K7q.1) K8q.1) (((((((Str1.keep0 K2q).ext E3).keep0 K4q).keep1 K5q (E_b3.keep K4q) (by decide) (hw _ (List.mem_of_getElem? (i := 44) rfl))).ext E6).keep0 K7q).keep1 K8q (E_b6.keep K7q) (by decide) (hw _ (List.mem_of_getElem? (i := 44) rfl))).exa (own_no hw)) hZ2 (hw _ (List.mem_of_getElem? (i := 81) rfl)) (hw _ (List.mem_of_getElem? (i := 45) rfl)) (by decide) (by decide)) q9a q9c (g := (mkF m 308 #[.val (.int p1), .val (.int p2), .val (.int p3), .val (.int p4), .val (.int p5), .val (.int p6), .val (.int lenA), .val (.int cA0), .val (.int cA1), .val (.int lenB), .val (.int cB0), .val (.int cB1), .val (.ref r1), .val (.ref r2), .val (.ref dA), .val (.ref dB), .val (.ref b3), .val (.ref b6), .val (.int sm), .val (.int xp), .val (.int (((p5.toUInt32 >>> ((1 : Int32) &&& 31).toUInt32).toInt32) &&& (3 : Int32)))] [(.ref r1), (.ref b3)])) rfl (by rw [hml]; rfl) (Steps.refl _) (argsL := [(.ref r1)]) (rest := []) (lenOf pd_0_11 rfl) rfl (by show 2 * 0 + _ ≤ _; exact Nat.le_of_eq rfl) (hb hby at_308) (fun _ _ => ⟨rfl, ea4, (by decide : 12 + 0 ≤ _), (by decide : 26 + 0 ≤ _)⟩)
        dsimp only [Pt.U, Pt.locs, Pt.cells, Pt.slots] at X9 l9 y9 z9 st9 hQ9
        subst l9 y9 z9
        obtain ⟨rfl, N9q, e9⟩ := hQ9
        have N9 := Fr.app N8 N9q
        have OUTK := K8
        have hSE := hS2
        have hkE := own_hk (T := T9) (h := T8.heap) e9 hk8
        have CRE := CR8.trans (CHv.at X9 hZ2 (own_EW hw) CR8.1)
        obtain ⟨fs, hr, hrun, hended, hRE⟩ := X9.leaveW hSE hkE (v := some (.int (1 : Int32))) (fun h => by rw [Bd.returns] at h; cases h)
        refine ⟨_, _, pre0 _ (hpre _ ?_), hrun, hended, _, _, rfl, ?_, hRE.1, hRE.2.1, hRE.2.2.1, hRE.2.2.2.mono (by decide) (by decide)⟩
        · show Steps p.tables e below (Ta4.setTop (mkF m 234 #[.val (.int p1), .val (.int p2), .val (.int p3), .val (.int p4), .val (.int p5), .val (.int p6), .val (.int lenA), .val (.int cA0), .val (.int cA1), .val (.int lenB), .val (.int cB0), .val (.int cB1), .val (.ref r1), .val (.ref r2), .val (.ref dA), .val (.ref dB), .val (.ref b3), .val (.ref b6), .val (.int sm), .val (.int xp), .unset] [])) _
          refine XS.iload Xa4.here hx rfl (hb hby at_234) rfl ?_
          show Steps p.tables e below (Ta4.setTop (mkF m 236 #[.val (.int p1), .val (.int p2), .val (.int p3), .val (.int p4), .val (.int p5), .val (.int p6), .val (.int lenA), .val (.int cA0), .val (.int cA1), .val (.int lenB), .val (.int cB0), .val (.int cB1), .val (.ref r1), .val (.ref r2), .val (.ref dA), .val (.ref dB), .val (.ref b3), .val (.ref b6), .val (.int sm), .val (.int xp), .unset] [(.int p5)])) _
          refine XS.iconst Xa4.here hx rfl (hb hby at_236) ?_
          show Steps p.tables e below (Ta4.setTop (mkF m 237 #[.val (.int p1), .val (.int p2), .val (.int p3), .val (.int p4), .val (.int p5), .val (.int p6), .val (.int lenA), .val (.int cA0), .val (.int cA1), .val (.int lenB), .val (.int cB0), .val (.int cB1), .val (.ref r1), .val (.ref r2), .val (.ref dA), .val (.ref dB), .val (.ref b3), .val (.ref b6), .val (.int sm), .val (.int xp), .unset] [(.int (1 : Int32)), (.int p5)])) _
          refine XS.iushr Xa4.here hx rfl (hb hby at_237) rfl ?_
          show Steps p.tables e below (Ta4.setTop (mkF m 238 #[.val (.int p1), .val (.int p2), .val (.int p3), .val (.int p4), .val (.int p5), .val (.int p6), .val (.int lenA), .val (.int cA0), .val (.int cA1), .val (.int lenB), .val (.int cB0), .val (.int cB1), .val (.ref r1), .val (.ref r2), .val (.ref dA), .val (.ref dB), .val (.ref b3), .val (.ref b6), .val (.int sm), .val (.int xp), .unset] [(.int ((p5.toUInt32 >>> ((1 : Int32) &&& 31).toUInt32).toInt32))])) _
          refine XS.iconst Xa4.here hx rfl (hb hby at_238) ?_
          show Steps p.tables e below (Ta4.setTop (mkF m 239 #[.val (.int p1), .val (.int p2), .val (.int p3), .val (.int p4), .val (.int p5), .val (.int p6), .val (.int lenA), .val (.int cA0), .val (.int cA1), .val (.int lenB), .val (.int cB0), .val (.int cB1), .val (.ref r1), .val (.ref r2), .val (.ref dA), .val (.ref dB), .val (.ref b3), .val (.ref b6), .val (.int sm), .val (.int xp), .unset] [(.int (3 : Int32)), (.int ((p5.toUInt32 >>> ((1 : Int32) &&& 31).toUInt32).toInt32))])) _
          refine XS.iand Xa4.here hx rfl (hb hby at_239) rfl ?_
          show Steps p.tables e below (Ta4.setTop (mkF m 240 #[.val (.int p1), .val (.int p2), .val (.int p3), .val (.int p4), .val (.int p5), .val (.int p6), .val (.int lenA), .val (.int cA0), .val (.int cA1), .val (.int lenB), .val (.int cB0), .val (.int cB1), .val (.ref r1), .val (.ref r2), .val (.ref dA), .val (.ref dB), .val (.ref b3), .val (.ref b6), .val (.int sm), .val (.int xp), .unset] [(.int (((p5.toUInt32 >>> ((1 : Int32) &&& 31).toUInt32).toInt32) &&& (3 : Int32)))])) _
          refine XS.istore Xa4.here hx rfl (hb hby at_240) rfl (l' := #[.val (.int p1), .val (.int p2), .val (.int p3), .val (.int p4), .val (.int p5), .val (.int p6), .val (.int lenA), .val (.int cA0), .val (.int cA1), .val (.int lenB), .val (.int cB0), .val (.int cB1), .val (.ref r1), .val (.ref r2), .val (.ref dA), .val (.ref dB), .val (.ref b3), .val (.ref b6), .val (.int sm), .val (.int xp), .val (.int (((p5.toUInt32 >>> ((1 : Int32) &&& 31).toUInt32).toInt32) &&& (3 : Int32)))]) rfl ?_
          show Steps p.tables e below (Ta4.setTop (mkF m 242 #[.val (.int p1), .val (.int p2), .val (.int p3), .val (.int p4), .val (.int p5), .val (.int p6), .val (.int lenA), .val (.int cA0), .val (.int cA1), .val (.int lenB), .val (.int cB0), .val (.int cB1), .val (.ref r1), .val (.ref r2), .val (.ref dA), .val (.ref dB), .val (.ref b3), .val (.ref b6), .val (.int sm), .val (.int xp), .val (.int (((p5.toUInt32 >>> ((1 : Int32) &&& 31).toUInt32).toInt32) &&& (3 : Int32)))] [])) _
          refine XS.iload Xa4.here hx rfl (hb hby at_242) rfl ?_
          show Steps p.tables e below (Ta4.setTop (mkF m 244 #[.val (.int p1), .val (.int p2), .val (.int p3), .val (.int p4), .val (.int p5), .val (.int p6), .val (.int lenA), .val (.int cA0), .val (.int cA1), .val (.int lenB), .val (.int cB0), .val (.int cB1), .val (.ref r1), .val (.ref r2), .val (.ref dA), .val (.ref dB), .val (.ref b3), .val (.ref b6), .val (.int sm), .val (.int xp), .val (.int (((p5.toUInt32 >>> ((1 : Int32) &&& 31).toUInt32).toInt32) &&& (3 : Int32)))] [(.int (((p5.toUInt32 >>> ((1 : Int32) &&& 31).toUInt32).toInt32) &&& (3 : Int32)))])) _
          refine XS.ifYes Xa4.here hx rfl (pc0 := 244) (pc' := 277) rfl (hb hby at_244) rfl ((if0 _ _).trans (feq hc244).2) (by decide) (by decide) ?_
          show Steps p.tables e below (Ta4.setTop (mkF m 277 #[.val (.int p1), .val (.int p2), .val (.int p3), .val (.int p4), .val (.int p5), .val (.int p6), .val (.int lenA), .val (.int cA0), .val (.int cA1), .val (.int lenB), .val (.int cB0), .val (.int cB1), .val (.ref r1), .val (.ref r2), .val (.ref dA), .val (.ref dB), .val (.ref b3), .val (.ref b6), .val (.int sm), .val (.int xp), .val (.int (((p5.toUInt32 >>> ((1 : Int32) &&& 31).toUInt32).toInt32) &&& (3 : Int32)))] [])) _
          refine XS.iload Xa4.here hx rfl (hb hby at_277) rfl ?_
          show Steps p.tables e below (Ta4.setTop (mkF m 279 #[.val (.int p1), .val (.int p2), .val (.int p3), .val (.int p4), .val (.int p5), .val (.int p6), .val (.int lenA), .val (.int cA0), .val (.int cA1), .val (.int lenB), .val (.int cB0), .val (.int cB1), .val (.ref r1), .val (.ref r2), .val (.ref dA), .val (.ref dB), .val (.ref b3), .val (.ref b6), .val (.int sm), .val (.int xp), .val (.int (((p5.toUInt32 >>> ((1 : Int32) &&& 31).toUInt32).toInt32) &&& (3 : Int32)))] [(.int (((p5.toUInt32 >>> ((1 : Int32) &&& 31).toUInt32).toInt32) &&& (3 : Int32)))])) _
          refine XS.iconst Xa4.here hx rfl (hb hby at_279) ?_
          show Steps p.tables e below (Ta4.setTop (mkF m 280 #[.val (.int p1), .val (.int p2), .val (.int p3), .val (.int p4), .val (.int p5), .val (.int p6), .val (.int lenA), .val (.int cA0), .val (.int cA1), .val (.int lenB), .val (.int cB0), .val (.int cB1), .val (.ref r1), .val (.ref r2), .val (.ref dA), .val (.ref dB), .val (.ref b3), .val (.ref b6), .val (.int sm), .val (.int xp), .val (.int (((p5.toUInt32 >>> ((1 : Int32) &&& 31).toUInt32).toInt32) &&& (3 : Int32)))] [(.int (1 : Int32)), (.int (((p5.toUInt32 >>> ((1 : Int32) &&& 31).toUInt32).toInt32) &&& (3 : Int32)))])) _
          refine XS.icmpYes Xa4.here hx rfl (pc0 := 280) (pc' := 298) rfl (hb hby at_280) rfl (feq hc280).2 (by decide) (by decide) ?_
          show Steps p.tables e below (Ta4.setTop (mkF m 298 #[.val (.int p1), .val (.int p2), .val (.int p3), .val (.int p4), .val (.int p5), .val (.int p6), .val (.int lenA), .val (.int cA0), .val (.int cA1), .val (.int lenB), .val (.int cB0), .val (.int cB1), .val (.ref r1), .val (.ref r2), .val (.ref dA), .val (.ref dB), .val (.ref b3), .val (.ref b6), .val (.int sm), .val (.int xp), .val (.int (((p5.toUInt32 >>> ((1 : Int32) &&& 31).toUInt32).toInt32) &&& (3 : Int32)))] [])) _
          refine XS.iload Xa4.here hx rfl (hb hby at_298) rfl ?_
          show Steps p.tables e below (Ta4.setTop (mkF m 300 #[.val (.int p1), .val (.int p2), .val (.int p3), .val (.int p4), .val (.int p5), .val (.int p6), .val (.int lenA), .val (.int cA0), .val (.int cA1), .val (.int lenB), .val (.int cB0), .val (.int cB1), .val (.ref r1), .val (.ref r2), .val (.ref dA), .val (.ref dB), .val (.ref b3), .val (.ref b6), .val (.int sm), .val (.int xp), .val (.int (((p5.toUInt32 >>> ((1 : Int32) &&& 31).toUInt32).toInt32) &&& (3 : Int32)))] [(.int (((p5.toUInt32 >>> ((1 : Int32) &&& 31).toUInt32).toInt32) &&& (3 : Int32)))])) _
          refine XS.iconst Xa4.here hx rfl (hb hby at_300) ?_
          show Steps p.tables e below (Ta4.setTop (mkF m 301 #[.val (.int p1), .val (.int p2), .val (.int p3), .val (.int p4), .val (.int p5), .val (.int p6), .val (.int lenA), .val (.int cA0), .val (.int cA1), .val (.int lenB), .val (.int cB0), .val (.int cB1), .val (.ref r1), .val (.ref r2), .val (.ref dA), .val (.ref dB), .val (.ref b3), .val (.ref b6), .val (.int sm), .val (.int xp), .val (.int (((p5.toUInt32 >>> ((1 : Int32) &&& 31).toUInt32).toInt32) &&& (3 : Int32)))] [(.int (2 : Int32)), (.int (((p5.toUInt32 >>> ((1 : Int32) &&& 31).toUInt32).toInt32) &&& (3 : Int32)))])) _
          refine XS.icmpNo Xa4.here hx rfl (hb hby at_301) rfl (teq hc301).2 ?_
          show Steps p.tables e below (Ta4.setTop (mkF m 304 #[.val (.int p1), .val (.int p2), .val (.int p3), .val (.int p4), .val (.int p5), .val (.int p6), .val (.int lenA), .val (.int cA0), .val (.int cA1), .val (.int lenB), .val (.int cB0), .val (.int cB1), .val (.ref r1), .val (.ref r2), .val (.ref dA), .val (.ref dB), .val (.ref b3), .val (.ref b6), .val (.int sm), .val (.int xp), .val (.int (((p5.toUInt32 >>> ((1 : Int32) &&& 31).toUInt32).toInt32) &&& (3 : Int32)))] [])) _
          refine XS.aload Xa4.here hx rfl (hb hby at_304) rfl rfl ?_
          show Steps p.tables e below (Ta4.setTop (mkF m 306 #[.val (.int p1), .val (.int p2), .val (.int p3), .val (.int p4), .val (.int p5), .val (.int p6), .val (.int lenA), .val (.int cA0), .val (.int cA1), .val (.int lenB), .val (.int cB0), .val (.int cB1), .val (.ref r1), .val (.ref r2), .val (.ref dA), .val (.ref dB), .val (.ref b3), .val (.ref b6), .val (.int sm), .val (.int xp), .val (.int (((p5.toUInt32 >>> ((1 : Int32) &&& 31).toUInt32).toInt32) &&& (3 : Int32)))] [(.ref b3)])) _
          refine XS.aload Xa4.here hx rfl (hb hby at_306) rfl rfl ?_
          show Steps p.tables e below (Ta4.setTop (mkF m 308 #[.val (.int p1), .val (.int p2), .val (.int p3), .val (.int p4), .val (.int p5), .val (.int p6), .val (.int lenA), .val (.int cA0), .val (.int cA1), .val (.int lenB), .val (.int cB0), .val (.int cB1), .val (.ref r1), .val (.ref r2), .val (.ref dA), .val (.ref dB), .val (.ref b3), .val (.ref b6), .val (.int sm), .val (.int xp), .val (.int (((p5.toUInt32 >>> ((1 : Int32) &&& 31).toUInt32).toInt32) &&& (3 : Int32)))] [(.ref r1), (.ref b3)])) _
          refine st9.trans ?_
          show Steps p.tables e below (T9.setTop (mkF m 311 #[.val (.int p1), .val (.int p2), .val (.int p3), .val (.int p4), .val (.int p5), .val (.int p6), .val (.int lenA), .val (.int cA0), .val (.int cA1), .val (.int lenB), .val (.int cB0), .val (.int cB1), .val (.ref r1), .val (.ref r2), .val (.ref dA), .val (.ref dB), .val (.ref b3), .val (.ref b6), .val (.int sm), .val (.int xp), .val (.int (((p5.toUInt32 >>> ((1 : Int32) &&& 31).toUInt32).toInt32) &&& (3 : Int32)))] [(.int (0 : Int32))])) _
          refine XS.ifNo X9.here hx rfl (hb hby at_311) rfl ((if0 _ _).trans (teq (by decide : (0 : Int32) = (0 : Int32))).2) ?_
          show Steps p.tables e below (T9.setTop (mkF m 314 #[.val (.int p1), .val (.int p2), .val (.int p3), .val (.int p4), .val (.int p5), .val (.int p6), .val (.int lenA), .val (.int cA0), .val (.int cA1), .val (.int lenB), .val (.int cB0), .val (.int cB1), .val (.ref r1), .val (.ref r2), .val (.ref dA), .val (.ref dB), .val (.ref b3), .val (.ref b6), .val (.int sm), .val (.int xp), .val (.int (((p5.toUInt32 >>> ((1 : Int32) &&& 31).toUInt32).toInt32) &&& (3 : Int32)))] [])) _
          refine XS.iconst X9.here hx rfl (hb hby at_314) ?_
          show Steps p.tables e below (T9.setTop (mkF m 315 #[.val (.int p1), .val (.int p2), .val (.int p3), .val (.int p4), .val (.int p5), .val (.int p6), .val (.int lenA), .val (.int cA0), .val (.int cA1), .val (.int lenB), .val (.int cB0), .val (.int cB1), .val (.ref r1), .val (.ref r2), .val (.ref dA), .val (.ref dB), .val (.ref b3), .val (.ref b6), .val (.int sm), .val (.int xp), .val (.int (((p5.toUInt32 >>> ((1 : Int32) &&& 31).toUInt32).toInt32) &&& (3 : Int32)))] [(.int (1 : Int32))])) _
          refine XS.goto X9.here hx rfl (pc0 := 315) (pc' := 319) rfl (hb hby at_315) (by decide) (by decide) ?_
          show Steps p.tables e below (T9.setTop (mkF m 319 #[.val (.int p1), .val (.int p2), .val (.int p3), .val (.int p4), .val (.int p5), .val (.int p6), .val (.int lenA), .val (.int cA0), .val (.int cA1), .val (.int lenB), .val (.int cB0), .val (.int cB1), .val (.ref r1), .val (.ref r2), .val (.ref dA), .val (.ref dB), .val (.ref b3), .val (.ref b6), .val (.int sm), .val (.int xp), .val (.int (((p5.toUInt32 >>> ((1 : Int32) &&& 31).toUInt32).toInt32) &&& (3 : Int32)))] [(.int (1 : Int32))])) _
          exact retN X9 hx (t := .boolean) Bd.returns (by simp) (hb hby at_319) hr
        · exact ⟨rfl, N9⟩
      · skip
        obtain ⟨cq9, kq9, q9a, q9b, q9c⟩ := isOf hZ2 ea4 (((((E_b3.keep K4q).keep K5q).ext E6).keep K7q).keep K8q)
        obtain ⟨_, _, ⟨T9, L9, k9, n9⟩, -, X9, ⟨Lc9, hQ9, l9, y9, z9⟩, st9⟩ := Xa4.virtualBack hx (y := (⟨"com/example/niyama/niyama/relational/model/Attribute", "equals", "(Ljava/lang/Object;)Z"⟩ : MethodName)) (z := (⟨"com/example/niyama/niyama/relational/model/Attribute", "equals", "(Ljava/lang/Object;)Z"⟩ : MethodName)) hown2 (mvT hZ2 (hw _ (List.mem_of_getElem? (i := 77) rfl))) (mvT hZ2 (hw _ (List.mem_of_getElem? (i := 78) rfl))) (notFace_of_selects (args := #[]) (mvT hZ2 (hw _ (List.mem_of_getElem? (i := 80) rfl)))) (mvT hZ2 (hw _ (List.mem_of_getElem? (i := 80) rfl))) (mvT hZ2 (hw _ (List.mem_of_getElem? (i := 79) rfl))) (by decide) (backOf (W := 0) (rm12r l Z a0 hw [] b3 b3 r1 r1 (own_name lenA cA0 cA1) (own_name lenA cA0 cA1) w_COMPACT_STRINGS dA dA T8.heap n0 (Nat.le_trans (Nat.le_trans (Nat.le_trans (Nat.le_trans (Nat.le_trans (Nat.le_trans (Nat.le_trans (Nat.le_trans Z0 K1q.1) K2q.1) E3.1) K4q.1) K5q.1) E6.1) K7q.1) K8q.1) (((((E_b3.keep K4q).keep K5q).ext E6).keep K7q).keep K8q) (((Fn5.ext E6).keep K7q own_nil).keep K8q (own_notin1 (Nat.ne_of_lt (Nat.lt_of_lt_of_le ((E_b3.keep K4q).keep K5q).lt (Nat.le_of_eq g6.symm))))) (((Fn5.ext E6).keep K7q own_nil).keep K8q (own_notin1 (Nat.ne_of_lt (Nat.lt_of_lt_of_le ((E_b3.keep K4q).keep K5q).lt (Nat.le_of_eq g6.symm))))) (((((((Str1.keep0 K2q).ext E3).keep0 K4q).keep1 K5q (E_b3.keep K4q) (by decide) (hw _ (List.mem_of_getElem? (i := 44) rfl))).ext E6).keep0 K7q).keep1 K8q (E_b6.keep K7q) (by decide) (hw _ (List.mem_of_getElem? (i := 44) rfl))).exa (((((((Str1.keep0 K2q).ext E3).keep0 K4q).keep1 K5q (E_b3.keep K4q) (by decide) (hw _ (List.mem_of_getElem? (i := 44) rfl))).ext E6).keep0 K7q).keep1 K8q (E_b6.keep K7q) (by decide) (hw _ (List.mem_of_getElem? (i := 44) rfl))) (((((((Str1.keep0 K2q).ext E3).keep0 K4q).keep1 K5q (E_b3.keep K4q) (by decide) (hw _ (List.mem_of_getElem? (i := 44) rfl))).ext E6).keep0 K7q).keep1 K8q (E_b6.keep K7q) (by decide) (hw _ (List.mem_of_getElem? (i := 44) rfl))) (own_sta1 (own_sta0 ((own_sta1 (own_sta0 ((own_sta0 (own_sta0 S_COMPACT_STRINGS K1q) K2q).ext E3) K4q) K5q (E_b3.keep K4q)).ext E6) K7q) K8q (E_b6.keep K7q)) hcs (((Fd5.ext E6).keep K7q own_nil).keep K8q (own_notin1 (Nat.ne_of_lt (Nat.lt_of_lt_of_le ((E_b3.keep K4q).keep K5q).lt (Nat.le_of_eq g6.symm))))) (((Fd5.ext E6).keep K7q own_nil).keep K8q (own_notin1 (Nat.ne_of_lt (Nat.lt_of_lt_of_le ((E_b3.keep K4q).keep K5q).lt (Nat.le_of_eq g6.symm))))) (own_self _ _ _ _ _ _ _)) hZ2 (hw _ (List.mem_of_getElem? (i := 81) rfl)) (hw _ (List.mem_of_getElem? (i := 45) rfl)) (by decide) (by decide)) q9a q9c (g := (mkF m 324 #[.val (.int p1), .val (.int p2), .val (.int p3), .val (.int p4), .val (.int p5), .val (.int p6), .val (.int lenA), .val (.int cA0), .val (.int cA1), .val (.int lenB), .val (.int cB0), .val (.int cB1), .val (.ref r1), .val (.ref r2), .val (.ref dA), .val (.ref dB), .val (.ref b3), .val (.ref b6), .val (.int sm), .val (.int xp), .val (.int (((p5.toUInt32 >>> ((1 : Int32) &&& 31).toUInt32).toInt32) &&& (3 : Int32)))] [(.ref b3), (.ref b3)])) rfl (by rw [hml]; rfl) (Steps.refl _) (argsL := [(.ref b3)]) (rest := []) (lenOf pd_0_11 rfl) rfl (by show 2 * 0 + _ ≤ _; exact Nat.le_of_eq rfl) (hb hby at_324) (fun _ _ => ⟨rfl, ea4, (by decide : 12 + 0 ≤ _), (by decide : 26 + 0 ≤ _)⟩)
        dsimp only [Pt.U, Pt.locs, Pt.cells, Pt.slots] at X9 l9 y9 z9 st9 hQ9
        subst l9 y9 z9
        obtain ⟨rfl, N9q, e9⟩ := hQ9
        have N9 := Fr.app N8 N9q
        have OUTK := K8
        have hSE := hS2
        have hkE := own_hk (T := T9) (h := T8.heap) e9 hk8
        have CRE := CR8.trans (CHv.at X9 hZ2 (own_EW hw) CR8.1)
        obtain ⟨fs, hr, hrun, hended, hRE⟩ := X9.leaveW hSE hkE (v := some (.int (1 : Int32))) (fun h => by rw [Bd.returns] at h; cases h)
        refine ⟨_, _, pre0 _ (hpre _ ?_), hrun, hended, _, _, rfl, ?_, hRE.1, hRE.2.1, hRE.2.2.1, hRE.2.2.2.mono (by decide) (by decide)⟩
        · show Steps p.tables e below (Ta4.setTop (mkF m 234 #[.val (.int p1), .val (.int p2), .val (.int p3), .val (.int p4), .val (.int p5), .val (.int p6), .val (.int lenA), .val (.int cA0), .val (.int cA1), .val (.int lenB), .val (.int cB0), .val (.int cB1), .val (.ref r1), .val (.ref r2), .val (.ref dA), .val (.ref dB), .val (.ref b3), .val (.ref b6), .val (.int sm), .val (.int xp), .unset] [])) _
          refine XS.iload Xa4.here hx rfl (hb hby at_234) rfl ?_
          show Steps p.tables e below (Ta4.setTop (mkF m 236 #[.val (.int p1), .val (.int p2), .val (.int p3), .val (.int p4), .val (.int p5), .val (.int p6), .val (.int lenA), .val (.int cA0), .val (.int cA1), .val (.int lenB), .val (.int cB0), .val (.int cB1), .val (.ref r1), .val (.ref r2), .val (.ref dA), .val (.ref dB), .val (.ref b3), .val (.ref b6), .val (.int sm), .val (.int xp), .unset] [(.int p5)])) _
          refine XS.iconst Xa4.here hx rfl (hb hby at_236) ?_
          show Steps p.tables e below (Ta4.setTop (mkF m 237 #[.val (.int p1), .val (.int p2), .val (.int p3), .val (.int p4), .val (.int p5), .val (.int p6), .val (.int lenA), .val (.int cA0), .val (.int cA1), .val (.int lenB), .val (.int cB0), .val (.int cB1), .val (.ref r1), .val (.ref r2), .val (.ref dA), .val (.ref dB), .val (.ref b3), .val (.ref b6), .val (.int sm), .val (.int xp), .unset] [(.int (1 : Int32)), (.int p5)])) _
          refine XS.iushr Xa4.here hx rfl (hb hby at_237) rfl ?_
          show Steps p.tables e below (Ta4.setTop (mkF m 238 #[.val (.int p1), .val (.int p2), .val (.int p3), .val (.int p4), .val (.int p5), .val (.int p6), .val (.int lenA), .val (.int cA0), .val (.int cA1), .val (.int lenB), .val (.int cB0), .val (.int cB1), .val (.ref r1), .val (.ref r2), .val (.ref dA), .val (.ref dB), .val (.ref b3), .val (.ref b6), .val (.int sm), .val (.int xp), .unset] [(.int ((p5.toUInt32 >>> ((1 : Int32) &&& 31).toUInt32).toInt32))])) _
          refine XS.iconst Xa4.here hx rfl (hb hby at_238) ?_
          show Steps p.tables e below (Ta4.setTop (mkF m 239 #[.val (.int p1), .val (.int p2), .val (.int p3), .val (.int p4), .val (.int p5), .val (.int p6), .val (.int lenA), .val (.int cA0), .val (.int cA1), .val (.int lenB), .val (.int cB0), .val (.int cB1), .val (.ref r1), .val (.ref r2), .val (.ref dA), .val (.ref dB), .val (.ref b3), .val (.ref b6), .val (.int sm), .val (.int xp), .unset] [(.int (3 : Int32)), (.int ((p5.toUInt32 >>> ((1 : Int32) &&& 31).toUInt32).toInt32))])) _
          refine XS.iand Xa4.here hx rfl (hb hby at_239) rfl ?_
          show Steps p.tables e below (Ta4.setTop (mkF m 240 #[.val (.int p1), .val (.int p2), .val (.int p3), .val (.int p4), .val (.int p5), .val (.int p6), .val (.int lenA), .val (.int cA0), .val (.int cA1), .val (.int lenB), .val (.int cB0), .val (.int cB1), .val (.ref r1), .val (.ref r2), .val (.ref dA), .val (.ref dB), .val (.ref b3), .val (.ref b6), .val (.int sm), .val (.int xp), .unset] [(.int (((p5.toUInt32 >>> ((1 : Int32) &&& 31).toUInt32).toInt32) &&& (3 : Int32)))])) _
          refine XS.istore Xa4.here hx rfl (hb hby at_240) rfl (l' := #[.val (.int p1), .val (.int p2), .val (.int p3), .val (.int p4), .val (.int p5), .val (.int p6), .val (.int lenA), .val (.int cA0), .val (.int cA1), .val (.int lenB), .val (.int cB0), .val (.int cB1), .val (.ref r1), .val (.ref r2), .val (.ref dA), .val (.ref dB), .val (.ref b3), .val (.ref b6), .val (.int sm), .val (.int xp), .val (.int (((p5.toUInt32 >>> ((1 : Int32) &&& 31).toUInt32).toInt32) &&& (3 : Int32)))]) rfl ?_
          show Steps p.tables e below (Ta4.setTop (mkF m 242 #[.val (.int p1), .val (.int p2), .val (.int p3), .val (.int p4), .val (.int p5), .val (.int p6), .val (.int lenA), .val (.int cA0), .val (.int cA1), .val (.int lenB), .val (.int cB0), .val (.int cB1), .val (.ref r1), .val (.ref r2), .val (.ref dA), .val (.ref dB), .val (.ref b3), .val (.ref b6), .val (.int sm), .val (.int xp), .val (.int (((p5.toUInt32 >>> ((1 : Int32) &&& 31).toUInt32).toInt32) &&& (3 : Int32)))] [])) _
          refine XS.iload Xa4.here hx rfl (hb hby at_242) rfl ?_
          show Steps p.tables e below (Ta4.setTop (mkF m 244 #[.val (.int p1), .val (.int p2), .val (.int p3), .val (.int p4), .val (.int p5), .val (.int p6), .val (.int lenA), .val (.int cA0), .val (.int cA1), .val (.int lenB), .val (.int cB0), .val (.int cB1), .val (.ref r1), .val (.ref r2), .val (.ref dA), .val (.ref dB), .val (.ref b3), .val (.ref b6), .val (.int sm), .val (.int xp), .val (.int (((p5.toUInt32 >>> ((1 : Int32) &&& 31).toUInt32).toInt32) &&& (3 : Int32)))] [(.int (((p5.toUInt32 >>> ((1 : Int32) &&& 31).toUInt32).toInt32) &&& (3 : Int32)))])) _
          refine XS.ifYes Xa4.here hx rfl (pc0 := 244) (pc' := 277) rfl (hb hby at_244) rfl ((if0 _ _).trans (feq hc244).2) (by decide) (by decide) ?_
          show Steps p.tables e below (Ta4.setTop (mkF m 277 #[.val (.int p1), .val (.int p2), .val (.int p3), .val (.int p4), .val (.int p5), .val (.int p6), .val (.int lenA), .val (.int cA0), .val (.int cA1), .val (.int lenB), .val (.int cB0), .val (.int cB1), .val (.ref r1), .val (.ref r2), .val (.ref dA), .val (.ref dB), .val (.ref b3), .val (.ref b6), .val (.int sm), .val (.int xp), .val (.int (((p5.toUInt32 >>> ((1 : Int32) &&& 31).toUInt32).toInt32) &&& (3 : Int32)))] [])) _
          refine XS.iload Xa4.here hx rfl (hb hby at_277) rfl ?_
          show Steps p.tables e below (Ta4.setTop (mkF m 279 #[.val (.int p1), .val (.int p2), .val (.int p3), .val (.int p4), .val (.int p5), .val (.int p6), .val (.int lenA), .val (.int cA0), .val (.int cA1), .val (.int lenB), .val (.int cB0), .val (.int cB1), .val (.ref r1), .val (.ref r2), .val (.ref dA), .val (.ref dB), .val (.ref b3), .val (.ref b6), .val (.int sm), .val (.int xp), .val (.int (((p5.toUInt32 >>> ((1 : Int32) &&& 31).toUInt32).toInt32) &&& (3 : Int32)))] [(.int (((p5.toUInt32 >>> ((1 : Int32) &&& 31).toUInt32).toInt32) &&& (3 : Int32)))])) _
          refine XS.iconst Xa4.here hx rfl (hb hby at_279) ?_
          show Steps p.tables e below (Ta4.setTop (mkF m 280 #[.val (.int p1), .val (.int p2), .val (.int p3), .val (.int p4), .val (.int p5), .val (.int p6), .val (.int lenA), .val (.int cA0), .val (.int cA1), .val (.int lenB), .val (.int cB0), .val (.int cB1), .val (.ref r1), .val (.ref r2), .val (.ref dA), .val (.ref dB), .val (.ref b3), .val (.ref b6), .val (.int sm), .val (.int xp), .val (.int (((p5.toUInt32 >>> ((1 : Int32) &&& 31).toUInt32).toInt32) &&& (3 : Int32)))] [(.int (1 : Int32)), (.int (((p5.toUInt32 >>> ((1 : Int32) &&& 31).toUInt32).toInt32) &&& (3 : Int32)))])) _
          refine XS.icmpYes Xa4.here hx rfl (pc0 := 280) (pc' := 298) rfl (hb hby at_280) rfl (feq hc280).2 (by decide) (by decide) ?_
          show Steps p.tables e below (Ta4.setTop (mkF m 298 #[.val (.int p1), .val (.int p2), .val (.int p3), .val (.int p4), .val (.int p5), .val (.int p6), .val (.int lenA), .val (.int cA0), .val (.int cA1), .val (.int lenB), .val (.int cB0), .val (.int cB1), .val (.ref r1), .val (.ref r2), .val (.ref dA), .val (.ref dB), .val (.ref b3), .val (.ref b6), .val (.int sm), .val (.int xp), .val (.int (((p5.toUInt32 >>> ((1 : Int32) &&& 31).toUInt32).toInt32) &&& (3 : Int32)))] [])) _
          refine XS.iload Xa4.here hx rfl (hb hby at_298) rfl ?_
          show Steps p.tables e below (Ta4.setTop (mkF m 300 #[.val (.int p1), .val (.int p2), .val (.int p3), .val (.int p4), .val (.int p5), .val (.int p6), .val (.int lenA), .val (.int cA0), .val (.int cA1), .val (.int lenB), .val (.int cB0), .val (.int cB1), .val (.ref r1), .val (.ref r2), .val (.ref dA), .val (.ref dB), .val (.ref b3), .val (.ref b6), .val (.int sm), .val (.int xp), .val (.int (((p5.toUInt32 >>> ((1 : Int32) &&& 31).toUInt32).toInt32) &&& (3 : Int32)))] [(.int (((p5.toUInt32 >>> ((1 : Int32) &&& 31).toUInt32).toInt32) &&& (3 : Int32)))])) _
          refine XS.iconst Xa4.here hx rfl (hb hby at_300) ?_
          show Steps p.tables e below (Ta4.setTop (mkF m 301 #[.val (.int p1), .val (.int p2), .val (.int p3), .val (.int p4), .val (.int p5), .val (.int p6), .val (.int lenA), .val (.int cA0), .val (.int cA1), .val (.int lenB), .val (.int cB0), .val (.int cB1), .val (.ref r1), .val (.ref r2), .val (.ref dA), .val (.ref dB), .val (.ref b3), .val (.ref b6), .val (.int sm), .val (.int xp), .val (.int (((p5.toUInt32 >>> ((1 : Int32) &&& 31).toUInt32).toInt32) &&& (3 : Int32)))] [(.int (2 : Int32)), (.int (((p5.toUInt32 >>> ((1 : Int32) &&& 31).toUInt32).toInt32) &&& (3 : Int32)))])) _
          refine XS.icmpYes Xa4.here hx rfl (pc0 := 301) (pc' := 320) rfl (hb hby at_301) rfl (feq hc301).2 (by decide) (by decide) ?_
          show Steps p.tables e below (Ta4.setTop (mkF m 320 #[.val (.int p1), .val (.int p2), .val (.int p3), .val (.int p4), .val (.int p5), .val (.int p6), .val (.int lenA), .val (.int cA0), .val (.int cA1), .val (.int lenB), .val (.int cB0), .val (.int cB1), .val (.ref r1), .val (.ref r2), .val (.ref dA), .val (.ref dB), .val (.ref b3), .val (.ref b6), .val (.int sm), .val (.int xp), .val (.int (((p5.toUInt32 >>> ((1 : Int32) &&& 31).toUInt32).toInt32) &&& (3 : Int32)))] [])) _
          refine XS.aload Xa4.here hx rfl (hb hby at_320) rfl rfl ?_
          show Steps p.tables e below (Ta4.setTop (mkF m 322 #[.val (.int p1), .val (.int p2), .val (.int p3), .val (.int p4), .val (.int p5), .val (.int p6), .val (.int lenA), .val (.int cA0), .val (.int cA1), .val (.int lenB), .val (.int cB0), .val (.int cB1), .val (.ref r1), .val (.ref r2), .val (.ref dA), .val (.ref dB), .val (.ref b3), .val (.ref b6), .val (.int sm), .val (.int xp), .val (.int (((p5.toUInt32 >>> ((1 : Int32) &&& 31).toUInt32).toInt32) &&& (3 : Int32)))] [(.ref b3)])) _
          refine XS.aload Xa4.here hx rfl (hb hby at_322) rfl rfl ?_
          show Steps p.tables e below (Ta4.setTop (mkF m 324 #[.val (.int p1), .val (.int p2), .val (.int p3), .val (.int p4), .val (.int p5), .val (.int p6), .val (.int lenA), .val (.int cA0), .val (.int cA1), .val (.int lenB), .val (.int cB0), .val (.int cB1), .val (.ref r1), .val (.ref r2), .val (.ref dA), .val (.ref dB), .val (.ref b3), .val (.ref b6), .val (.int sm), .val (.int xp), .val (.int (((p5.toUInt32 >>> ((1 : Int32) &&& 31).toUInt32).toInt32) &&& (3 : Int32)))] [(.ref b3), (.ref b3)])) _
          refine st9.trans ?_
          show Steps p.tables e below (T9.setTop (mkF m 327 #[.val (.int p1), .val (.int p2), .val (.int p3), .val (.int p4), .val (.int p5), .val (.int p6), .val (.int lenA), .val (.int cA0), .val (.int cA1), .val (.int lenB), .val (.int cB0), .val (.int cB1), .val (.ref r1), .val (.ref r2), .val (.ref dA), .val (.ref dB), .val (.ref b3), .val (.ref b6), .val (.int sm), .val (.int xp), .val (.int (((p5.toUInt32 >>> ((1 : Int32) &&& 31).toUInt32).toInt32) &&& (3 : Int32)))] [(.int (1 : Int32))])) _
          exact retN X9 hx (t := .boolean) Bd.returns (by simp) (hb hby at_327) hr
        · exact ⟨rfl, N9⟩
set_option maxRecDepth 65536 in
set_option maxHeartbeats 40000000 in
theorem comes_1 {Post : Tables → Env → Array Value → State → Outcome → State → Prop} (hpost : ∀ tb e args s v u, (limb_1_1.after args s (.returned v) u = true ∧ limb_1_2.after args s (.returned v) u = true ∧ True) → ReturnedEndW s (.returned v) u (Jvm.fieldLocs frame_1_writes args s ++ Jvm.arrayLocs frame_1_arrays args s ++ Jvm.staticLocs frame_1_statics s) 32 1152 → Post tb e args s (.returned v) u) :
    ArmFor flags0 classFile x code maxLocals ret World_1 tables_1 room_1 Calls_1 rest_1 Pre_1 Post := by
  intro l hfl _ _ p e ha hc hk s m args below hf hA hF happ hP
  obtain ⟨hcalls, hrest, hpre⟩ := hP
  obtain ⟨-, -, -, hnamed, -, -, -, hat⟩ := (Spec.applies_iff hf).mp happ
  obtain ⟨hg, hn⟩ := and_e (Cond.before_iff.mp (show (Jvm.Cond.and given_1 narrow_1).before args s = true from hpre))
  obtain ⟨gc, hg⟩ := and_e hg
  obtain ⟨g0, hg⟩ := and_e hg
  obtain ⟨g1, hg⟩ := and_e hg
  obtain ⟨g2, hg⟩ := and_e hg
  obtain ⟨g3, hg⟩ := and_e hg
  obtain ⟨g4, hg⟩ := and_e hg
  have g5 := hg
  obtain ⟨w0, w1, w2, w3, w4, w5, rfl⟩ : ∃ w0 w1 w2 w3 w4 w5 : Value, args = #[w0, w1, w2, w3, w4, w5] := by
    have hs : args.size = 6 := by simpa [Cond.value, given_1] using gc
    obtain ⟨L⟩ := args
    match L, hs with
    | [w0, w1, w2, w3, w4, w5], _ => exact ⟨w0, w1, w2, w3, w4, w5, rfl⟩
  have hw := fun d (hd : d ∈ tables_1) => atoms_spec (ws := Jvm.Cond.code x code maxLocals ret :: tables_1) hat d (List.mem_cons_of_mem _ hd)
  obtain ⟨hsets, hown0⟩ := atoms_of _ (rest_1_c_eq ▸ (show rest_1_c.before _ s = true from hrest))
  obtain ⟨i0, ei0⟩ := is_v g0
  obtain rfl : w0 = (.int i0) := Option.some.inj ei0
  obtain ⟨i1, ei1⟩ := is_v g1
  obtain rfl : w1 = (.int i1) := Option.some.inj ei1
  obtain ⟨i2, ei2⟩ := is_v g2
  obtain rfl : w2 = (.int i2) := Option.some.inj ei2
  obtain ⟨i3, ei3⟩ := is_v g3
  obtain rfl : w3 = (.int i3) := Option.some.inj ei3
  obtain ⟨i4, ei4⟩ := is_v g4
  obtain rfl : w4 = (.int i4) := Option.some.inj ei4
  obtain ⟨i5, ei5⟩ := is_v g5
  obtain rfl : w5 = (.int i5) := Option.some.inj ei5
  obtain ⟨k0, hn⟩ := and_e hn
  obtain ⟨w_INT, ev_INT⟩ := exa_v k0
  have E_w_INT := Exa.start ev_INT k0
  have S_INT := Sta.start ev_INT (Or.inr ⟨(hw _ (List.mem_of_getElem? (i := 39) rfl)), (hw _ (List.mem_of_getElem? (i := 40) rfl))⟩)
  obtain ⟨k1, hn⟩ := and_e hn
  obtain ⟨w_ID, ev_ID⟩ := exa_v k1
  have E_w_ID := Exa.start ev_ID k1
  have S_ID := Sta.start ev_ID (Or.inr ⟨(hw _ (List.mem_of_getElem? (i := 39) rfl)), (hw _ (List.mem_of_getElem? (i := 42) rfl))⟩)
  obtain ⟨k2, hn⟩ := and_e hn
  have o_ID := own_eqint k2
  have k3 := hn
  have o_INT := own_eqint k3
  obtain ⟨w_COMPACT_STRINGS, ec0⟩ := is_v (Cond.before_iff.mp (hsets _ (List.mem_of_getElem? (i := 1) rfl)))
  have S_COMPACT_STRINGS := Sta.start ec0 (Or.inl (hsets _ (List.mem_of_getElem? (i := 0) rfl)))
  have hcw := hsets _ (List.mem_of_getElem? (i := 2) rfl)
  have hcs : ¬ (w_COMPACT_STRINGS = (0 : Int32)) := gotF (P := w_COMPACT_STRINGS = 0) (by simp only [Cond.value, ec0]; rfl) (not_v (Cond.before_iff.mp hcw))
  have CH : CHv s EL s.vm s.heap := CHv.start (own_EW hw) (fun p hp => hcalls.1 p hp) hcw (hw _ (List.mem_of_getElem? (i := 20) rfl)) (hw _ (List.mem_of_getElem? (i := 6) rfl))
  obtain ⟨n, o, h1, h2, h3, _, L, rfl, ⟨rfl, N⟩, hq⟩ := rm0 l s _ hw tables_1 i0 i1 i2 i3 i4 i5 w_ID w_INT w_COMPACT_STRINGS s.heap s.heap.size (Nat.le_refl _) S_ID S_INT E_w_ID E_w_INT S_COMPACT_STRINGS hcs p e ha hc hk s m _ below hf ((Spec.applies_iff_loose hf).mp happ).1 ⟨rfl, State.Warmed39.refl s, rfl, CH⟩ trivial
  refine ⟨n, _, h1, h2, h3, hpost _ _ _ _ _ _ ⟨Cond.after_iff.mpr rfl, Cond.after_iff.mpr (eq_i res_at (Term.int_eval (1)) rfl), trivial⟩ ⟨hq.1, hq.2.1, hq.2.2.1, (hq.2.2.2.sift fun y hy => Or.inr (N y hy)).mono (by decide) (by decide)⟩⟩
theorem main_1_1 : Claimed_1_1 := comes_1 fun _ _ _ _ _ _ h hF => ⟨h.1, hF⟩
theorem main_1_2 : Claimed_1_2 := comes_1 fun _ _ _ _ _ _ h hF => ⟨h.2.1, hF⟩
end Jvm.Pilot.@@N@@
namespace Jvm.Pilot.@@N@@
open Jvm Jvm.ClassFile Sem Op Lib Jvm.Free Jvm.Stand Jvm.Pilot.@@N@@.Jvm.D
/-! MADE BY PROGRAM (witnessworld.py) out of the Statement's table words and the real class files: 24 classes; the members and pool entries that the words name. The judged class is class 1, her method 3. -/
namespace start1
open Jvm.ClassFile
def u (s : String) : CpInfo := .utf8 (stringToUtf16 s)
/-- a pool by its gaps: so many unusable entries, then the entry; so many at the end -/
def gap : Nat → List CpInfo → List CpInfo
  | 0, r => r
  | n + 1, r => .unusable :: gap n r
def poolList (es : List (Nat × CpInfo)) (last : Nat) : List CpInfo := es.foldr (fun e r => gap e.1 (e.2 :: r)) (gap last [])
def pool (es : List (Nat × CpInfo)) (last : Nat) : Array CpInfo := ⟨poolList es last⟩
def fileOf (pool : Array CpInfo) (this : Nat) (attrs : Array Attribute := #[]) (ms : Array MethodInfo := #[]) (fl : Nat := 33) (sup : Nat := 0) (ifs : Array Nat := #[]) (fds : Array FieldInfo := #[]) : ClassFile where
  minorVersion := 0
  majorVersion := 65
  constantPool := pool
  accessFlags := fl
  thisClass := this
  superClass := sup
  interfaces := ifs
  fields := fds
  methods := ms
  attributes := attrs
def plain (name : String) (sup : Option ClassId) : Class where
  name := name
  kind := .ordinary
  loader := none
  accessFlags := 33
  super := sup
  interfaces := #[]
  cf := none
  fields := #[]
  methods := #[]
  instanceTypes := #[]
  staticTypes := #[]
  resolved := #[]
  callSites := []
  init := .initialized
  statics := none
  mirror := none

def pool0 : Array CpInfo := pool [(5, u "<init>"), (0, u "()V"), (1, .class_ 10), (1, u "java/lang/Object")] 113

def k0c0 : Code := { maxStack := 0, maxLocals := 1, code := object_method_1_code, exceptionTable := #[], attributes := #[] }
def k0m0 : Method := { name := "<init>", desc := "()V", sig := { parameters := [], returnType := none }, accessFlags := 1, code := some k0c0 }
/-- java/lang/Object -/
def k0 : Class := { plain "java/lang/Object" none with
  accessFlags := 33
  interfaces := #[]
  cf := some (fileOf pool0 8 #[] #[{ accessFlags := 1, nameIndex := 5, descriptorIndex := 6, attributes := #[] }] 33 0 #[] #[])
  fields := #[]
  methods := #[k0m0]
  instanceTypes := #[]
  staticTypes := #[]
  resolved := Array.replicate 124 none
  statics := none }

def pool1 : Array CpInfo := pool [(2, .class_ 4), (1, u "java/lang/Object"), (0, u "<init>"), (0, u "()V"), (0, .class_ 8), (0, u "java/lang/String"), (0, .methodref 7 10), (0, .nameAndType 5 11), (0, u "([C)V"), (0, .class_ 13), (0, u "com/example/niyama/niyama/diagnostics/SourcePosition"), (0, .methodref 12 15), (0, .nameAndType 5 16), (0, u "(II)V"), (0, .integer 2147483647), (0, .methodref 19 20), (0, .class_ 21), (0, .nameAndType 22 23), (0, u "com/example/niyama/niyama/relational/model/AttributeEqualsPinLaw"), (0, u "name"), (0, u "(ICC)Ljava/lang/String;"), (0, .fieldref 25 26), (0, .class_ 27), (0, .nameAndType 28 29), (0, u "com/example/niyama/niyama/relational/model/Domain"), (0, u "ID"), (0, u "Lcom/example/niyama/niyama/relational/model/Domain;"), (0, .fieldref 25 31), (0, .nameAndType 32 29), (0, u "INT"), (0, .class_ 34), (0, u "com/example/niyama/niyama/relational/model/Attribute"), (0, .methodref 19 36), (0, .nameAndType 37 38), (0, u "pos"), (0, u "(I)Lcom/example/niyama/niyama/diagnostics/SourcePosition;"), (0, .methodref 33 40), (0, .nameAndType 5 41), (0, u "(Ljava/lang/String;Lcom/example/niyama/niyama/relational/model/Domain;Lcom/example/niyama/niyama/diagnostics/SourcePosition;)V"), (0, .methodref 33 43), (0, .nameAndType 44 45), (0, u "equals"), (0, u "(Ljava/lang/Object;)Z"), (3, u "law"), (0, u "(IIIIII)Z")] 2

def k1m0 : Method := { name := "<init>", desc := "()V", sig := { parameters := [], returnType := none }, accessFlags := 1, code := none }
def k1c1 : Code := { maxStack := 6, maxLocals := 3, code := method_2_code, exceptionTable := #[], attributes := #[] }
def k1m1 : Method := { name := "name", desc := "(ICC)Ljava/lang/String;", sig := { parameters := [.int, .char, .char], returnType := some (.object "java/lang/String") }, accessFlags := 10, code := some k1c1 }
def k1c2 : Code := { maxStack := 6, maxLocals := 1, code := method_3_code, exceptionTable := #[], attributes := #[] }
def k1m2 : Method := { name := "pos", desc := "(I)Lcom/example/niyama/niyama/diagnostics/SourcePosition;", sig := { parameters := [.int], returnType := some (.object "com/example/niyama/niyama/diagnostics/SourcePosition") }, accessFlags := 10, code := some k1c2 }
def k1c3 : Code := { maxStack := 6, maxLocals := 21, code := code, exceptionTable := #[], attributes := #[] }
def k1m3 : Method := { name := "law", desc := "(IIIIII)Z", sig := { parameters := [.int, .int, .int, .int, .int, .int], returnType := some .boolean }, accessFlags := 9, code := some k1c3 }
/-- com/example/niyama/niyama/relational/model/AttributeEqualsPinLaw -/
def k1 : Class := { plain "com/example/niyama/niyama/relational/model/AttributeEqualsPinLaw" (some 0) with
  accessFlags := 49
  interfaces := #[]
  cf := some (fileOf pool1 19 #[] #[{ accessFlags := 1, nameIndex := 5, descriptorIndex := 6, attributes := #[] }, { accessFlags := 10, nameIndex := 22, descriptorIndex := 23, attributes := #[] }, { accessFlags := 10, nameIndex := 37, descriptorIndex := 38, attributes := #[] }, { accessFlags := 9, nameIndex := 49, descriptorIndex := 50, attributes := #[] }] 49 2 #[] #[])
  fields := #[]
  methods := #[k1m0, k1m1, k1m2, k1m3]
  instanceTypes := #[]
  staticTypes := #[]
  resolved := Array.replicate 53 none
  statics := none }

def pool2 : Array CpInfo := pool [(1, .class_ 2), (0, u "java/io/Serializable"), (0, .class_ 4), (0, u "java/lang/Object")] 2

/-- java/io/Serializable -/
def k2 : Class := { plain "java/io/Serializable" (some 0) with
  accessFlags := 1537
  interfaces := #[]
  cf := some (fileOf pool2 1 #[] #[] 1537 3 #[] #[])
  fields := #[]
  methods := #[]
  instanceTypes := #[]
  staticTypes := #[]
  resolved := Array.replicate 7 none
  statics := none }

def pool3 : Array CpInfo := pool [(1, .class_ 2), (0, u "java/lang/Comparable"), (0, .class_ 4), (0, u "java/lang/Object")] 7

/-- java/lang/Comparable -/
def k3 : Class := { plain "java/lang/Comparable" (some 0) with
  accessFlags := 1537
  interfaces := #[]
  cf := some (fileOf pool3 1 #[] #[] 1537 3 #[] #[])
  fields := #[]
  methods := #[]
  instanceTypes := #[]
  staticTypes := #[]
  resolved := Array.replicate 12 none
  statics := none }

def pool4 : Array CpInfo := pool [(2, .class_ 4), (1, u "java/lang/CharSequence"), (42, .class_ 48), (0, u "java/lang/CharSequence$1CodePointIterator"), (10, .class_ 60), (0, u "java/lang/CharSequence$1CharIterator"), (5, .class_ 67), (0, u "java/lang/Object")] 63

/-- java/lang/CharSequence -/
def k4 : Class := { plain "java/lang/CharSequence" (some 0) with
  accessFlags := 1537
  interfaces := #[]
  cf := some (fileOf pool4 2 #[.nestMembers #[47, 59]] #[] 1537 66 #[] #[])
  fields := #[]
  methods := #[]
  instanceTypes := #[]
  staticTypes := #[]
  resolved := Array.replicate 131 none
  statics := none }

def pool5 : Array CpInfo := pool [(1, .class_ 2), (0, u "java/lang/constant/Constable"), (0, .class_ 4), (0, u "java/lang/Object")] 6

/-- java/lang/constant/Constable -/
def k5 : Class := { plain "java/lang/constant/Constable" (some 0) with
  accessFlags := 1537
  interfaces := #[]
  cf := some (fileOf pool5 1 #[] #[] 1537 3 #[] #[])
  fields := #[]
  methods := #[]
  instanceTypes := #[]
  staticTypes := #[]
  resolved := Array.replicate 11 none
  statics := none }

def pool6 : Array CpInfo := pool [(1, .class_ 2), (0, u "java/lang/constant/ConstantDesc"), (0, .class_ 4), (0, u "java/lang/Object")] 32

/-- java/lang/constant/ConstantDesc -/
def k6 : Class := { plain "java/lang/constant/ConstantDesc" (some 0) with
  accessFlags := 1537
  interfaces := #[]
  cf := some (fileOf pool6 1 #[] #[] 1537 3 #[] #[])
  fields := #[]
  methods := #[]
  instanceTypes := #[]
  staticTypes := #[]
  resolved := Array.replicate 37 none
  statics := none }

def pool7 : Array CpInfo := pool [(1, .methodref 2 3), (0, .class_ 4), (0, .nameAndType 5 6), (0, u "java/lang/Object"), (0, u "<init>"), (0, u "()V"), (0, .string 8), (0, u ""), (0, .fieldref 10 11), (0, .class_ 12), (0, .nameAndType 13 14), (0, u "java/lang/String"), (0, u "value"), (0, u "[B"), (0, .fieldref 10 16), (0, .nameAndType 17 18), (0, u "coder"), (0, u "B"), (2, u "hash"), (0, u "I"), (2, u "hashIsZero"), (0, u "Z"), (0, .methodref 10 28), (0, .nameAndType 5 29), (0, u "([CIILjava/lang/Void;)V"), (8, .fieldref 10 39), (0, .nameAndType 40 26), (0, u "COMPACT_STRINGS"), (1, .class_ 44), (1, u "java/lang/StringUTF16"), (0, u "compress"), (1, .methodref 42 48), (0, .nameAndType 49 50), (0, u "coderFromArrayLen"), (0, u "([BI)B"), (56, .class_ 109), (1, u "java/lang/StringLatin1"), (67, .methodref 42 178), (0, .nameAndType 45 179), (0, u "([CII)[B"), (361, .methodref 107 542), (0, .nameAndType 543 544), (0, u "equals"), (0, u "([B[B)Z"), (28, u "(Ljava/lang/Object;)Z"), (1, .class_ 576), (0, u "java/lang/CharSequence"), (22, u "CASE_INSENSITIVE_ORDER"), (0, u "Ljava/util/Comparator;"), (409, u "([C)V"), (90, u "serialPersistentFields"), (0, u "[Ljava/io/ObjectStreamField;"), (0, .class_ 1104), (0, u "java/lang/String$CaseInsensitiveComparator"), (1, .class_ 1107), (0, u "java/io/Serializable"), (0, .class_ 1109), (0, u "java/lang/Comparable"), (0, .class_ 1111), (0, u "java/lang/constant/Constable"), (0, .class_ 1113), (0, u "java/lang/constant/ConstantDesc"), (2, u "serialVersionUID"), (0, u "J"), (3, u "REPL"), (0, u "C"), (2, u "LATIN1"), (1, u "UTF16")] 323

def k7m0 : Method := { name := "<init>", desc := "()V", sig := { parameters := [], returnType := none }, accessFlags := 1, code := none }
def k7c1 : Code := { maxStack := 5, maxLocals := 2, code := jdk_42_method_3_code, exceptionTable := #[], attributes := #[] }
def k7m1 : Method := { name := "<init>", desc := "([C)V", sig := { parameters := [(.array .char)], returnType := none }, accessFlags := 1, code := some k7c1 }
def k7c2 : Code := { maxStack := 2, maxLocals := 3, code := jdk_42_method_66_code, exceptionTable := #[], attributes := #[] }
def k7m2 : Method := { name := "equals", desc := "(Ljava/lang/Object;)Z", sig := { parameters := [(.object "java/lang/Object")], returnType := some .boolean }, accessFlags := 1, code := some k7c2 }
def k7c3 : Code := { maxStack := 4, maxLocals := 6, code := jdk_42_method_149_code, exceptionTable := #[], attributes := #[] }
def k7m3 : Method := { name := "<init>", desc := "([CIILjava/lang/Void;)V", sig := { parameters := [(.array .char), .int, .int, (.object "java/lang/Void")], returnType := none }, accessFlags := 2, code := some k7c3 }
/-- java/lang/String -/
def k7 : Class := { plain "java/lang/String" (some 0) with
  accessFlags := 49
  interfaces := #[2, 3, 4, 5, 6]
  cf := some (fileOf pool7 10 #[.nestMembers #[1103]] #[{ accessFlags := 1, nameIndex := 5, descriptorIndex := 6, attributes := #[] }, { accessFlags := 1, nameIndex := 5, descriptorIndex := 1010, attributes := #[] }, { accessFlags := 1, nameIndex := 543, descriptorIndex := 573, attributes := #[] }, { accessFlags := 2, nameIndex := 5, descriptorIndex := 29, attributes := #[] }] 49 2 #[1106, 1108, 575, 1110, 1112] #[{ accessFlags := 18, nameIndex := 13, descriptorIndex := 14, attributes := #[] }, { accessFlags := 18, nameIndex := 17, descriptorIndex := 18, attributes := #[] }, { accessFlags := 2, nameIndex := 21, descriptorIndex := 22, attributes := #[] }, { accessFlags := 2, nameIndex := 25, descriptorIndex := 26, attributes := #[] }, { accessFlags := 26, nameIndex := 1116, descriptorIndex := 1117, attributes := #[] }, { accessFlags := 24, nameIndex := 40, descriptorIndex := 26, attributes := #[] }, { accessFlags := 26, nameIndex := 1101, descriptorIndex := 1102, attributes := #[] }, { accessFlags := 26, nameIndex := 1121, descriptorIndex := 1122, attributes := #[] }, { accessFlags := 25, nameIndex := 599, descriptorIndex := 600, attributes := #[] }, { accessFlags := 24, nameIndex := 1125, descriptorIndex := 18, attributes := #[] }, { accessFlags := 24, nameIndex := 1127, descriptorIndex := 18, attributes := #[] }])
  fields := #[{ name := "value", type := (.array .byte), accessFlags := 18, slot := 0, constantValue := 0 }, { name := "coder", type := .byte, accessFlags := 18, slot := 1, constantValue := 0 }, { name := "hash", type := .int, accessFlags := 2, slot := 2, constantValue := 0 }, { name := "hashIsZero", type := .boolean, accessFlags := 2, slot := 3, constantValue := 0 }, { name := "serialVersionUID", type := .long, accessFlags := 26, slot := 0, constantValue := 0 }, { name := "COMPACT_STRINGS", type := .boolean, accessFlags := 24, slot := 1, constantValue := 0 }, { name := "serialPersistentFields", type := (.array (.object "java/io/ObjectStreamField")), accessFlags := 26, slot := 2, constantValue := 0 }, { name := "REPL", type := .char, accessFlags := 26, slot := 3, constantValue := 0 }, { name := "CASE_INSENSITIVE_ORDER", type := (.object "java/util/Comparator"), accessFlags := 25, slot := 4, constantValue := 0 }, { name := "LATIN1", type := .byte, accessFlags := 24, slot := 5, constantValue := 0 }, { name := "UTF16", type := .byte, accessFlags := 24, slot := 6, constantValue := 0 }]
  methods := #[k7m0, k7m1, k7m2, k7m3]
  instanceTypes := #[(.array .byte), .byte, .int, .boolean]
  staticTypes := #[.long, .boolean, (.array (.object "java/io/ObjectStreamField")), .char, (.object "java/util/Comparator"), .byte, .byte]
  resolved := Array.replicate 1451 none
  statics := some 0 }

def pool8 : Array CpInfo := pool [(6, .class_ 8), (1, u "java/lang/Object"), (0, u "<init>"), (0, u "()V"), (1, .class_ 14), (1, u "java/lang/StringUTF16"), (31, u "$assertionsDisabled"), (0, u "Z"), (13, u "HI_BYTE_SHIFT"), (0, u "I"), (2, u "LO_BYTE_SHIFT"), (49, .methodref 12 116), (0, .nameAndType 117 118), (0, u "compress"), (0, u "([CI[BII)I"), (3, u "([CII)[B"), (138, u "coderFromArrayLen"), (0, u "([BI)B"), (106, .class_ 371), (1, u "java/lang/StringUTF16$LinesSpliterator"), (58, u "MAX_LENGTH"), (196, .class_ 628), (0, u "java/lang/StringUTF16$CodePointsSpliterator"), (0, .class_ 630), (0, u "java/lang/StringUTF16$CharsSpliterator")] 4

def k8m0 : Method := { name := "<init>", desc := "()V", sig := { parameters := [], returnType := none }, accessFlags := 0, code := none }
def k8c1 : Code := { maxStack := 2, maxLocals := 2, code := jdk_52_method_15_code, exceptionTable := #[], attributes := #[] }
def k8m1 : Method := { name := "coderFromArrayLen", desc := "([BI)B", sig := { parameters := [(.array .byte), .int], returnType := some .byte }, accessFlags := 8, code := some k8c1 }
def k8c2 : Code := { maxStack := 5, maxLocals := 6, code := jdk_52_method_16_code, exceptionTable := #[], attributes := #[] }
def k8m2 : Method := { name := "compress", desc := "([CII)[B", sig := { parameters := [(.array .char), .int, .int], returnType := some (.array .byte) }, accessFlags := 9, code := some k8c2 }
def k8c3 : Code := { maxStack := 3, maxLocals := 7, code := jdk_52_method_21_code, exceptionTable := #[], attributes := #[] }
def k8m3 : Method := { name := "compress", desc := "([CI[BII)I", sig := { parameters := [(.array .char), .int, (.array .byte), .int, .int], returnType := some .int }, accessFlags := 9, code := some k8c3 }
/-- java/lang/StringUTF16 -/
def k8 : Class := { plain "java/lang/StringUTF16" (some 0) with
  accessFlags := 48
  interfaces := #[]
  cf := some (fileOf pool8 12 #[.nestMembers #[627, 629, 369]] #[{ accessFlags := 0, nameIndex := 9, descriptorIndex := 10, attributes := #[] }, { accessFlags := 8, nameIndex := 261, descriptorIndex := 262, attributes := #[] }, { accessFlags := 9, nameIndex := 117, descriptorIndex := 122, attributes := #[] }, { accessFlags := 9, nameIndex := 117, descriptorIndex := 118, attributes := #[] }] 48 6 #[] #[{ accessFlags := 26, nameIndex := 61, descriptorIndex := 62, attributes := #[] }, { accessFlags := 26, nameIndex := 65, descriptorIndex := 62, attributes := #[] }, { accessFlags := 24, nameIndex := 430, descriptorIndex := 62, attributes := #[] }, { accessFlags := 4120, nameIndex := 46, descriptorIndex := 47, attributes := #[] }])
  fields := #[{ name := "HI_BYTE_SHIFT", type := .int, accessFlags := 26, slot := 0, constantValue := 0 }, { name := "LO_BYTE_SHIFT", type := .int, accessFlags := 26, slot := 1, constantValue := 0 }, { name := "MAX_LENGTH", type := .int, accessFlags := 24, slot := 2, constantValue := 0 }, { name := "$assertionsDisabled", type := .boolean, accessFlags := 4120, slot := 3, constantValue := 0 }]
  methods := #[k8m0, k8m1, k8m2, k8m3]
  instanceTypes := #[]
  staticTypes := #[.int, .int, .int, .boolean]
  resolved := Array.replicate 635 none
  statics := none }

def pool9 : Array CpInfo := pool [(2, .class_ 4), (1, u "java/lang/Enum"), (0, u "name"), (0, u "Ljava/lang/String;"), (2, u "ordinal"), (0, u "I"), (1, .class_ 14), (1, u "java/lang/Object"), (4, u "hash"), (86, .class_ 108), (1, u "java/lang/Enum$EnumDesc"), (2, .class_ 112), (0, u "java/lang/constant/Constable"), (0, .class_ 114), (0, u "java/lang/Comparable"), (0, .class_ 116), (0, u "java/io/Serializable")] 87

/-- java/lang/Enum -/
def k9 : Class := { plain "java/lang/Enum" (some 0) with
  accessFlags := 1057
  interfaces := #[5, 3, 2]
  cf := some (fileOf pool9 2 #[.nestMembers #[106]] #[] 1057 12 #[111, 113, 115] #[{ accessFlags := 18, nameIndex := 5, descriptorIndex := 6, attributes := #[] }, { accessFlags := 18, nameIndex := 9, descriptorIndex := 10, attributes := #[] }, { accessFlags := 2, nameIndex := 19, descriptorIndex := 10, attributes := #[] }])
  fields := #[{ name := "name", type := (.object "java/lang/String"), accessFlags := 18, slot := 0, constantValue := 0 }, { name := "ordinal", type := .int, accessFlags := 18, slot := 1, constantValue := 0 }, { name := "hash", type := .int, accessFlags := 2, slot := 2, constantValue := 0 }]
  methods := #[]
  instanceTypes := #[(.object "java/lang/String"), .int, .int]
  staticTypes := #[]
  resolved := Array.replicate 204 none
  statics := none }

def pool10 : Array CpInfo := pool [(1, .class_ 2), (0, u "com/example/niyama/niyama/relational/model/Domain"), (2, u "ID"), (0, u "Lcom/example/niyama/niyama/relational/model/Domain;"), (2, u "INT"), (2, u "$VALUES"), (0, u "[Lcom/example/niyama/niyama/relational/model/Domain;"), (6, .class_ 22), (1, u "java/lang/Enum"), (8, u "keyword"), (0, u "Ljava/lang/String;")] 26

/-- com/example/niyama/niyama/relational/model/Domain -/
def k10 : Class := { plain "com/example/niyama/niyama/relational/model/Domain" (some 9) with
  accessFlags := 16433
  interfaces := #[]
  cf := some (fileOf pool10 1 #[] #[] 16433 20 #[] #[{ accessFlags := 16409, nameIndex := 5, descriptorIndex := 6, attributes := #[] }, { accessFlags := 16409, nameIndex := 9, descriptorIndex := 6, attributes := #[] }, { accessFlags := 18, nameIndex := 31, descriptorIndex := 32, attributes := #[] }, { accessFlags := 4122, nameIndex := 12, descriptorIndex := 13, attributes := #[] }])
  fields := #[{ name := "ID", type := (.object "com/example/niyama/niyama/relational/model/Domain"), accessFlags := 16409, slot := 0, constantValue := 0 }, { name := "INT", type := (.object "com/example/niyama/niyama/relational/model/Domain"), accessFlags := 16409, slot := 1, constantValue := 0 }, { name := "keyword", type := (.object "java/lang/String"), accessFlags := 18, slot := 3, constantValue := 0 }, { name := "$VALUES", type := (.array (.object "com/example/niyama/niyama/relational/model/Domain")), accessFlags := 4122, slot := 2, constantValue := 0 }]
  methods := #[]
  instanceTypes := #[(.object "java/lang/String"), .int, .int, (.object "java/lang/String")]
  staticTypes := #[(.object "com/example/niyama/niyama/relational/model/Domain"), (.object "com/example/niyama/niyama/relational/model/Domain"), (.array (.object "com/example/niyama/niyama/relational/model/Domain"))]
  resolved := Array.replicate 59 none
  statics := some 1 }

def pool11 : Array CpInfo := pool [(1, .methodref 2 3), (0, .class_ 4), (0, .nameAndType 5 6), (0, u "java/lang/Object"), (0, u "<init>"), (0, u "()V"), (0, .methodref 8 9), (0, .class_ 10), (0, .nameAndType 11 12), (0, u "java/util/Objects"), (0, u "requireNonNull"), (0, u "(Ljava/lang/Object;)Ljava/lang/Object;"), (0, .class_ 14), (0, u "java/lang/String"), (0, .fieldref 16 17), (0, .class_ 18), (0, .nameAndType 19 20), (0, u "com/example/niyama/niyama/relational/model/Attribute"), (0, u "name"), (0, u "Ljava/lang/String;"), (0, .class_ 22), (0, u "com/example/niyama/niyama/relational/model/Domain"), (0, .fieldref 16 24), (0, .nameAndType 25 26), (0, u "domain"), (0, u "Lcom/example/niyama/niyama/relational/model/Domain;"), (0, .fieldref 16 28), (0, .nameAndType 29 30), (0, u "position"), (0, u "Lcom/example/niyama/niyama/diagnostics/SourcePosition;"), (0, .methodref 13 32), (0, .nameAndType 33 34), (0, u "equals"), (0, u "(Ljava/lang/Object;)Z"), (12, u "(Ljava/lang/String;Lcom/example/niyama/niyama/relational/model/Domain;Lcom/example/niyama/niyama/diagnostics/SourcePosition;)V")] 25

def k11c0 : Code := { maxStack := 2, maxLocals := 4, code := prog_29_method_1_code, exceptionTable := #[], attributes := #[] }
def k11m0 : Method := { name := "<init>", desc := "(Ljava/lang/String;Lcom/example/niyama/niyama/relational/model/Domain;Lcom/example/niyama/niyama/diagnostics/SourcePosition;)V", sig := { parameters := [(.object "java/lang/String"), (.object "com/example/niyama/niyama/relational/model/Domain"), (.object "com/example/niyama/niyama/diagnostics/SourcePosition")], returnType := none }, accessFlags := 1, code := some k11c0 }
def k11c1 : Code := { maxStack := 2, maxLocals := 3, code := prog_29_method_5_code, exceptionTable := #[], attributes := #[] }
def k11m1 : Method := { name := "equals", desc := "(Ljava/lang/Object;)Z", sig := { parameters := [(.object "java/lang/Object")], returnType := some .boolean }, accessFlags := 1, code := some k11c1 }
/-- com/example/niyama/niyama/relational/model/Attribute -/
def k11 : Class := { plain "com/example/niyama/niyama/relational/model/Attribute" (some 0) with
  accessFlags := 49
  interfaces := #[]
  cf := some (fileOf pool11 16 #[] #[{ accessFlags := 1, nameIndex := 5, descriptorIndex := 47, attributes := #[] }, { accessFlags := 1, nameIndex := 33, descriptorIndex := 34, attributes := #[] }] 49 2 #[] #[{ accessFlags := 18, nameIndex := 19, descriptorIndex := 20, attributes := #[] }, { accessFlags := 18, nameIndex := 25, descriptorIndex := 26, attributes := #[] }, { accessFlags := 18, nameIndex := 29, descriptorIndex := 30, attributes := #[] }])
  fields := #[{ name := "name", type := (.object "java/lang/String"), accessFlags := 18, slot := 0, constantValue := 0 }, { name := "domain", type := (.object "com/example/niyama/niyama/relational/model/Domain"), accessFlags := 18, slot := 1, constantValue := 0 }, { name := "position", type := (.object "com/example/niyama/niyama/diagnostics/SourcePosition"), accessFlags := 18, slot := 2, constantValue := 0 }]
  methods := #[k11m0, k11m1]
  instanceTypes := #[(.object "java/lang/String"), (.object "com/example/niyama/niyama/relational/model/Domain"), (.object "com/example/niyama/niyama/diagnostics/SourcePosition")]
  staticTypes := #[]
  resolved := Array.replicate 73 none
  statics := none }

def pool12 : Array CpInfo := pool [(2, .class_ 4), (1, u "java/lang/Object"), (0, u "<init>"), (0, u "()V"), (35, .class_ 44), (1, u "java/util/Objects"), (0, u "requireNonNull"), (0, u "(Ljava/lang/Object;)Ljava/lang/Object;")] 137

def k12m0 : Method := { name := "<init>", desc := "()V", sig := { parameters := [], returnType := none }, accessFlags := 2, code := none }
def k12c1 : Code := { maxStack := 2, maxLocals := 1, code := jdk_31_method_10_code, exceptionTable := #[], attributes := #[] }
def k12m1 : Method := { name := "requireNonNull", desc := "(Ljava/lang/Object;)Ljava/lang/Object;", sig := { parameters := [(.object "java/lang/Object")], returnType := some (.object "java/lang/Object") }, accessFlags := 9, code := some k12c1 }
/-- java/util/Objects -/
def k12 : Class := { plain "java/util/Objects" (some 0) with
  accessFlags := 49
  interfaces := #[]
  cf := some (fileOf pool12 42 #[] #[{ accessFlags := 2, nameIndex := 5, descriptorIndex := 6, attributes := #[] }, { accessFlags := 9, nameIndex := 45, descriptorIndex := 46, attributes := #[] }] 49 2 #[] #[])
  fields := #[]
  methods := #[k12m0, k12m1]
  instanceTypes := #[]
  staticTypes := #[]
  resolved := Array.replicate 184 none
  statics := none }

def pool13 : Array CpInfo := pool [(1, .methodref 2 3), (0, .class_ 4), (0, .nameAndType 5 6), (0, u "java/lang/Object"), (0, u "<init>"), (0, u "()V"), (19, .fieldref 27 28), (0, .class_ 29), (0, .nameAndType 30 31), (0, u "com/example/niyama/niyama/diagnostics/SourcePosition"), (0, u "line"), (0, u "I"), (0, .fieldref 27 33), (0, .nameAndType 34 31), (0, u "column"), (4, u "(II)V")] 23

def k13c0 : Code := { maxStack := 7, maxLocals := 3, code := prog_22_method_1_code, exceptionTable := #[], attributes := #[] }
def k13m0 : Method := { name := "<init>", desc := "(II)V", sig := { parameters := [.int, .int], returnType := none }, accessFlags := 1, code := some k13c0 }
/-- com/example/niyama/niyama/diagnostics/SourcePosition -/
def k13 : Class := { plain "com/example/niyama/niyama/diagnostics/SourcePosition" (some 0) with
  accessFlags := 49
  interfaces := #[]
  cf := some (fileOf pool13 27 #[] #[{ accessFlags := 1, nameIndex := 5, descriptorIndex := 39, attributes := #[] }] 49 2 #[] #[{ accessFlags := 18, nameIndex := 30, descriptorIndex := 31, attributes := #[] }, { accessFlags := 18, nameIndex := 34, descriptorIndex := 31, attributes := #[] }])
  fields := #[{ name := "line", type := .int, accessFlags := 18, slot := 0, constantValue := 0 }, { name := "column", type := .int, accessFlags := 18, slot := 1, constantValue := 0 }]
  methods := #[k13m0]
  instanceTypes := #[.int, .int]
  staticTypes := #[]
  resolved := Array.replicate 63 none
  statics := none }

def pool14 : Array CpInfo := pool [(4, .class_ 6), (1, u "java/lang/Object"), (0, u "<init>"), (0, u "()V"), (5, .class_ 16), (1, u "java/lang/StringLatin1"), (104, u "$assertionsDisabled"), (0, u "Z"), (98, .class_ 223), (1, u "java/lang/StringLatin1$LinesSpliterator"), (57, u "equals"), (0, u "([B[B)Z"), (107, .class_ 391), (0, u "java/lang/StringLatin1$CharsSpliterator")] 3

def k14m0 : Method := { name := "<init>", desc := "()V", sig := { parameters := [], returnType := none }, accessFlags := 0, code := none }
def k14c1 : Code := { maxStack := 3, maxLocals := 3, code := jdk_43_method_13_code, exceptionTable := #[], attributes := #[] }
def k14m1 : Method := { name := "equals", desc := "([B[B)Z", sig := { parameters := [(.array .byte), (.array .byte)], returnType := some .boolean }, accessFlags := 9, code := some k14c1 }
/-- java/lang/StringLatin1 -/
def k14 : Class := { plain "java/lang/StringLatin1" (some 0) with
  accessFlags := 48
  interfaces := #[]
  cf := some (fileOf pool14 14 #[.nestMembers #[390, 221]] #[{ accessFlags := 0, nameIndex := 7, descriptorIndex := 8, attributes := #[] }, { accessFlags := 9, nameIndex := 281, descriptorIndex := 282, attributes := #[] }] 48 4 #[] #[{ accessFlags := 4120, nameIndex := 121, descriptorIndex := 122, attributes := #[] }])
  fields := #[{ name := "$assertionsDisabled", type := .boolean, accessFlags := 4120, slot := 0, constantValue := 0 }]
  methods := #[k14m0, k14m1]
  instanceTypes := #[]
  staticTypes := #[.boolean]
  resolved := Array.replicate 395 none
  statics := none }

def pool15 : Array CpInfo := pool [(2, .class_ 4), (1, u "java/lang/Object"), (0, u "<init>"), (0, u "()V"), (17, .class_ 26), (1, u "jdk/internal/util/Preconditions"), (28, .class_ 56), (0, u "jdk/internal/util/Preconditions$4"), (57, .class_ 115), (0, u "jdk/internal/util/Preconditions$1"), (7, u "SIOOBE_FORMATTER"), (0, u "Ljava/util/function/BiFunction;"), (0, .class_ 126), (0, u "jdk/internal/util/Preconditions$2"), (3, u "AIOOBE_FORMATTER"), (0, .class_ 132), (0, u "jdk/internal/util/Preconditions$3"), (3, u "IOOBE_FORMATTER")] 57

def k15m0 : Method := { name := "<init>", desc := "()V", sig := { parameters := [], returnType := none }, accessFlags := 1, code := none }
/-- jdk/internal/util/Preconditions -/
def k15 : Class := { plain "jdk/internal/util/Preconditions" (some 0) with
  accessFlags := 33
  interfaces := #[]
  cf := some (fileOf pool15 24 #[.nestMembers #[55, 131, 125, 114]] #[{ accessFlags := 1, nameIndex := 5, descriptorIndex := 6, attributes := #[] }] 33 2 #[] #[{ accessFlags := 25, nameIndex := 123, descriptorIndex := 124, attributes := #[] }, { accessFlags := 25, nameIndex := 130, descriptorIndex := 124, attributes := #[] }, { accessFlags := 25, nameIndex := 136, descriptorIndex := 124, attributes := #[] }])
  fields := #[{ name := "SIOOBE_FORMATTER", type := (.object "java/util/function/BiFunction"), accessFlags := 25, slot := 0, constantValue := 0 }, { name := "AIOOBE_FORMATTER", type := (.object "java/util/function/BiFunction"), accessFlags := 25, slot := 1, constantValue := 0 }, { name := "IOOBE_FORMATTER", type := (.object "java/util/function/BiFunction"), accessFlags := 25, slot := 2, constantValue := 0 }]
  methods := #[k15m0]
  instanceTypes := #[]
  staticTypes := #[(.object "java/util/function/BiFunction"), (.object "java/util/function/BiFunction"), (.object "java/util/function/BiFunction")]
  resolved := Array.replicate 194 none
  statics := some 2 }

def pool16 : Array CpInfo := pool [(9, u "<init>"), (6, .class_ 18), (1, u "java/lang/Object"), (0, u "()V"), (1, .class_ 23), (1, u "jdk/internal/util/ArraysSupport"), (0, u "LOG2_ARRAY_LONG_INDEX_SCALE"), (0, u "I"), (2, u "U"), (0, u "Ljdk/internal/misc/Unsafe;"), (8, u "BIG_ENDIAN"), (0, u "Z"), (8, u "LOG2_BYTE_BIT_SIZE"), (4, u "LOG2_ARRAY_INT_INDEX_SCALE"), (54, u "JLA"), (0, u "Ljdk/internal/access/JavaLangAccess;"), (11, u "LOG2_ARRAY_BOOLEAN_INDEX_SCALE"), (9, u "LOG2_ARRAY_BYTE_INDEX_SCALE"), (5, u "LOG2_ARRAY_CHAR_INDEX_SCALE"), (5, u "LOG2_ARRAY_SHORT_INDEX_SCALE"), (18, u "LOG2_ARRAY_FLOAT_INDEX_SCALE"), (24, u "LOG2_ARRAY_DOUBLE_INDEX_SCALE"), (89, u "T_BOOLEAN"), (2, u "T_CHAR"), (1, u "T_FLOAT"), (1, u "T_DOUBLE"), (1, u "T_BYTE"), (1, u "T_SHORT"), (1, u "T_INT"), (1, u "T_LONG"), (1, u "SOFT_MAX_ARRAY_LENGTH")] 83

def k16m0 : Method := { name := "<init>", desc := "()V", sig := { parameters := [], returnType := none }, accessFlags := 2, code := none }
/-- jdk/internal/util/ArraysSupport -/
def k16 : Class := { plain "jdk/internal/util/ArraysSupport" (some 0) with
  accessFlags := 33
  interfaces := #[]
  cf := some (fileOf pool16 21 #[] #[{ accessFlags := 2, nameIndex := 9, descriptorIndex := 19, attributes := #[] }] 33 16 #[] #[{ accessFlags := 24, nameIndex := 28, descriptorIndex := 29, attributes := #[] }, { accessFlags := 26, nameIndex := 38, descriptorIndex := 39, attributes := #[] }, { accessFlags := 25, nameIndex := 121, descriptorIndex := 25, attributes := #[] }, { accessFlags := 25, nameIndex := 131, descriptorIndex := 25, attributes := #[] }, { accessFlags := 25, nameIndex := 137, descriptorIndex := 25, attributes := #[] }, { accessFlags := 25, nameIndex := 143, descriptorIndex := 25, attributes := #[] }, { accessFlags := 25, nameIndex := 53, descriptorIndex := 25, attributes := #[] }, { accessFlags := 25, nameIndex := 24, descriptorIndex := 25, attributes := #[] }, { accessFlags := 25, nameIndex := 162, descriptorIndex := 25, attributes := #[] }, { accessFlags := 25, nameIndex := 187, descriptorIndex := 25, attributes := #[] }, { accessFlags := 26, nameIndex := 48, descriptorIndex := 25, attributes := #[] }, { accessFlags := 25, nameIndex := 277, descriptorIndex := 25, attributes := #[] }, { accessFlags := 25, nameIndex := 280, descriptorIndex := 25, attributes := #[] }, { accessFlags := 25, nameIndex := 282, descriptorIndex := 25, attributes := #[] }, { accessFlags := 25, nameIndex := 284, descriptorIndex := 25, attributes := #[] }, { accessFlags := 25, nameIndex := 286, descriptorIndex := 25, attributes := #[] }, { accessFlags := 25, nameIndex := 288, descriptorIndex := 25, attributes := #[] }, { accessFlags := 25, nameIndex := 290, descriptorIndex := 25, attributes := #[] }, { accessFlags := 25, nameIndex := 292, descriptorIndex := 25, attributes := #[] }, { accessFlags := 26, nameIndex := 108, descriptorIndex := 109, attributes := #[] }, { accessFlags := 25, nameIndex := 294, descriptorIndex := 25, attributes := #[] }])
  fields := #[{ name := "U", type := (.object "jdk/internal/misc/Unsafe"), accessFlags := 24, slot := 0, constantValue := 0 }, { name := "BIG_ENDIAN", type := .boolean, accessFlags := 26, slot := 1, constantValue := 0 }, { name := "LOG2_ARRAY_BOOLEAN_INDEX_SCALE", type := .int, accessFlags := 25, slot := 2, constantValue := 0 }, { name := "LOG2_ARRAY_BYTE_INDEX_SCALE", type := .int, accessFlags := 25, slot := 3, constantValue := 0 }, { name := "LOG2_ARRAY_CHAR_INDEX_SCALE", type := .int, accessFlags := 25, slot := 4, constantValue := 0 }, { name := "LOG2_ARRAY_SHORT_INDEX_SCALE", type := .int, accessFlags := 25, slot := 5, constantValue := 0 }, { name := "LOG2_ARRAY_INT_INDEX_SCALE", type := .int, accessFlags := 25, slot := 6, constantValue := 0 }, { name := "LOG2_ARRAY_LONG_INDEX_SCALE", type := .int, accessFlags := 25, slot := 7, constantValue := 0 }, { name := "LOG2_ARRAY_FLOAT_INDEX_SCALE", type := .int, accessFlags := 25, slot := 8, constantValue := 0 }, { name := "LOG2_ARRAY_DOUBLE_INDEX_SCALE", type := .int, accessFlags := 25, slot := 9, constantValue := 0 }, { name := "LOG2_BYTE_BIT_SIZE", type := .int, accessFlags := 26, slot := 10, constantValue := 0 }, { name := "T_BOOLEAN", type := .int, accessFlags := 25, slot := 11, constantValue := 0 }, { name := "T_CHAR", type := .int, accessFlags := 25, slot := 12, constantValue := 0 }, { name := "T_FLOAT", type := .int, accessFlags := 25, slot := 13, constantValue := 0 }, { name := "T_DOUBLE", type := .int, accessFlags := 25, slot := 14, constantValue := 0 }, { name := "T_BYTE", type := .int, accessFlags := 25, slot := 15, constantValue := 0 }, { name := "T_SHORT", type := .int, accessFlags := 25, slot := 16, constantValue := 0 }, { name := "T_INT", type := .int, accessFlags := 25, slot := 17, constantValue := 0 }, { name := "T_LONG", type := .int, accessFlags := 25, slot := 18, constantValue := 0 }, { name := "JLA", type := (.object "jdk/internal/access/JavaLangAccess"), accessFlags := 26, slot := 19, constantValue := 0 }, { name := "SOFT_MAX_ARRAY_LENGTH", type := .int, accessFlags := 25, slot := 20, constantValue := 0 }]
  methods := #[k16m0]
  instanceTypes := #[]
  staticTypes := #[(.object "jdk/internal/misc/Unsafe"), .boolean, .int, .int, .int, .int, .int, .int, .int, .int, .int, .int, .int, .int, .int, .int, .int, .int, .int, (.object "jdk/internal/access/JavaLangAccess"), .int]
  resolved := Array.replicate 378 none
  statics := none }

def pool17 : Array CpInfo := pool [(1, u "java/lang/Cloneable"), (0, .class_ 1), (0, u "java/lang/Object"), (0, .class_ 3)] 3

/-- java/lang/Cloneable -/
def k17 : Class := { plain "java/lang/Cloneable" (some 0) with
  accessFlags := 1537
  interfaces := #[]
  cf := some (fileOf pool17 2 #[] #[] 1537 4 #[] #[])
  fields := #[]
  methods := #[]
  instanceTypes := #[]
  staticTypes := #[]
  resolved := Array.replicate 8 none
  statics := none }

/-- the primitive byte -/
def k18 : Class := { plain "byte" none with kind := .primitive 'B', accessFlags := 0x411 }
/-- [B -/
def k19 : Class := { plain "[B" (some 0) with kind := .array 18 .byte, interfaces := #[17, 2], accessFlags := 1041 }

/-- the primitive char -/
def k20 : Class := { plain "char" none with kind := .primitive 'C', accessFlags := 0x411 }
/-- [C -/
def k21 : Class := { plain "[C" (some 0) with kind := .array 20 .char, interfaces := #[17, 2], accessFlags := 1041 }

/-- the primitive int -/
def k22 : Class := { plain "int" none with kind := .primitive 'I', accessFlags := 0x411 }
/-- [I -/
def k23 : Class := { plain "[I" (some 0) with kind := .array 22 .int, interfaces := #[17, 2], accessFlags := 1041 }

def heap : Heap := #[{ cls := 7, slots := #[.long 0, .int 1, .null, .int 0, .null, .int 0, .int 0], vm := .statics 7 },
  { cls := 10, slots := #[.ref 4, .ref 3, .null], vm := .statics 10 },
  { cls := 15, slots := #[.null, .null, .null], vm := .statics 15 },
  { cls := 10, slots := #[.null, .int 1, .int 0, .null], vm := .none },
  { cls := 10, slots := #[.null, .int 0, .int 0, .null], vm := .none }]
def classes : Array Class := #[k0, k1, k2, k3, k4, k5, k6, k7, k8, k9, k10, k11, k12, k13, k14, k15, k16, k17, k18, k19, k20, k21, k22, k23]
def interned : List (Array UInt16 × Addr) := []
def slotsUsed : Nat := 21
def theMethod : MethodId := ⟨1, 3⟩
def args0 : Array Value := #[.int 5, .int 5, .int 5, .int 5, .int 5, .int 5]
def aboutOver (below : List Frame) : State where
  vm := { classes := classes, interned := interned.toArray }
  heap := heap
  slotsUsed := slotsUsed
  threads := #[{ frames := .invoking theMethod args0 :: below }]
def below0 : List Frame := [.native { method := ⟨0, 0⟩, args := #[] }]
def about1 : State := aboutOver below0
def p0 : Program := .bare "" "" ""
def e0 : Env := launch0.env 0 0 0
theorem w_frames : about1.frames = Frame.invoking theMethod args0 :: below0 := rfl
set_option maxRecDepth 65536 in
theorem w_args : argsFit about1.vm theMethod args0 = true := by decide +kernel
set_option maxRecDepth 65536 in
theorem w_heap : heapFits about1 = true := by decide +kernel
set_option maxRecDepth 65536 in
theorem w_runnable : about1.curStatus? = some .runnable := by decide +kernel
set_option maxRecDepth 65536 in
theorem w_alone : about1.alone = true := by decide +kernel
set_option maxRecDepth 65536 in
theorem w_named : about1.methodNamed? x = some theMethod := by decide +kernel
set_option maxRecDepth 65536 in
theorem w_hears : about1.hears theMethod below0 = true := by decide +kernel
set_option maxRecDepth 65536 in
theorem w_ripe : about1.ripe theMethod args0 below0 = true := by decide +kernel
theorem w_running : about1.status = .running := rfl
set_option maxRecDepth 65536 in
theorem w_room : about1.hasRoom e0.platform room_1 = true :=
  launch0.hasRoom_least _ room_1 (by decide +kernel) (by decide +kernel) (by decide +kernel) (by decide +kernel) (by decide +kernel) (by decide +kernel)
theorem allAtoms_all (ts : List Jvm.Cond) (a : Array Jvm.Value) (st : Jvm.State) : (allAtoms ts).before a st = ts.all (fun c => c.before a st) := by
  induction ts with
  | nil => rfl
  | cons c t ih =>
    show (Jvm.Cond.and c (allAtoms t)).before a st = _
    rw [Jvm.Cond.before_and, ih, List.all_cons]
def words1 : List Jvm.Cond := Jvm.Cond.code x code maxLocals ret :: tables_1
/-- a 'code' word, met by the world's own term for the bytes: nothing is compared byte by byte -/
theorem code_word {y : MethodName} {bytes : ByteArray} {mx : Nat} {rt : Option FieldType} {a : Array Value} {s : State} {m : MethodId} {meth : Method} {c : Code} (h1 : s.methodNamed? y = some m) (h2 : s.vm.method? m = some meth) (h3 : meth.code = some c) (h4 : c.code = bytes)
    (h5 : (c.maxLocals == mx && c.exceptionTable.isEmpty && decide (c.maxStack ≤ mostOperands) && decide (meth.sig.returnType = rt) && !meth.locks && decide (parseMethodDescriptor y.desc = some meth.sig)) = true) : (Jvm.Cond.code y bytes mx rt).before a s = true := by
  simp only [Bool.and_eq_true, beq_iff_eq, Bool.not_eq_true', decide_eq_true_eq] at h5
  obtain ⟨⟨⟨⟨⟨g1, g2⟩, g3⟩, g4⟩, g5⟩, g6⟩ := h5
  simp [Cond.before, Cond.holds, Cond.value, h1, h2, h3, h4, g1, g2, g3, g4, g5, g6]
def isCode : Jvm.Cond → Bool
  | .code _ _ _ _ => true
  | _ => false
theorem all_split {L : List Jvm.Cond} {P : Jvm.Cond → Bool} (h1 : L.all (fun c => isCode c || P c) = true) (h2 : ∀ c ∈ L.filter isCode, P c = true) : L.all P = true := by
  refine List.all_eq_true.mpr fun c hc => ?_
  have h := List.all_eq_true.mp h1 c hc
  rcases Bool.eq_false_or_eq_true (isCode c) with hi | hi
  · exact h2 c (List.mem_filter.mpr ⟨hc, hi⟩)
  · simpa [hi] using h
set_option maxRecDepth 65536 in
theorem w_c0 : (Jvm.Cond.code x code maxLocals ret).before args0 about1 = true := code_word (m := ⟨1, 3⟩) (meth := k1m3) (c := k1c3) (by decide +kernel) rfl rfl rfl (by decide +kernel)
set_option maxRecDepth 65536 in
theorem w_c1 : (Jvm.Cond.code ({ cls := "com/example/niyama/niyama/relational/model/AttributeEqualsPinLaw", name := "name", desc := "(ICC)Ljava/lang/String;" } : Jvm.MethodName) method_2_code (3 : Nat) (Option.some (Jvm.ClassFile.FieldType.object "java/lang/String"))).before args0 about1 = true := code_word (m := ⟨1, 1⟩) (meth := k1m1) (c := k1c1) (by decide +kernel) rfl rfl rfl (by decide +kernel)
set_option maxRecDepth 65536 in
theorem w_c2 : (Jvm.Cond.code ({ cls := "java/lang/String", name := "<init>", desc := "([C)V" } : Jvm.MethodName) jdk_42_method_3_code (2 : Nat) (Option.none : Option Jvm.ClassFile.FieldType)).before args0 about1 = true := code_word (m := ⟨7, 1⟩) (meth := k7m1) (c := k7c1) (by decide +kernel) rfl rfl rfl (by decide +kernel)
set_option maxRecDepth 65536 in
theorem w_c3 : (Jvm.Cond.code ({ cls := "java/lang/String", name := "<init>", desc := "([CIILjava/lang/Void;)V" } : Jvm.MethodName) jdk_42_method_149_code (6 : Nat) (Option.none : Option Jvm.ClassFile.FieldType)).before args0 about1 = true := code_word (m := ⟨7, 3⟩) (meth := k7m3) (c := k7c3) (by decide +kernel) rfl rfl rfl (by decide +kernel)
set_option maxRecDepth 65536 in
theorem w_c4 : (Jvm.Cond.code ({ cls := "java/lang/Object", name := "<init>", desc := "()V" } : Jvm.MethodName) object_method_1_code (1 : Nat) (Option.none : Option Jvm.ClassFile.FieldType)).before args0 about1 = true := code_word (m := ⟨0, 0⟩) (meth := k0m0) (c := k0c0) (by decide +kernel) rfl rfl rfl (by decide +kernel)
set_option maxRecDepth 65536 in
theorem w_c5 : (Jvm.Cond.code ({ cls := "java/lang/StringUTF16", name := "compress", desc := "([CII)[B" } : Jvm.MethodName) jdk_52_method_16_code (6 : Nat) (Option.some (Jvm.ClassFile.FieldType.array Jvm.ClassFile.FieldType.byte))).before args0 about1 = true := code_word (m := ⟨8, 2⟩) (meth := k8m2) (c := k8c2) (by decide +kernel) rfl rfl rfl (by decide +kernel)
set_option maxRecDepth 65536 in
theorem w_c6 : (Jvm.Cond.code ({ cls := "java/lang/StringUTF16", name := "compress", desc := "([CI[BII)I" } : Jvm.MethodName) jdk_52_method_21_code (7 : Nat) (Option.some Jvm.ClassFile.FieldType.int)).before args0 about1 = true := code_word (m := ⟨8, 3⟩) (meth := k8m3) (c := k8c3) (by decide +kernel) rfl rfl rfl (by decide +kernel)
set_option maxRecDepth 65536 in
theorem w_c7 : (Jvm.Cond.code ({ cls := "java/lang/StringUTF16", name := "coderFromArrayLen", desc := "([BI)B" } : Jvm.MethodName) jdk_52_method_15_code (2 : Nat) (Option.some Jvm.ClassFile.FieldType.byte)).before args0 about1 = true := code_word (m := ⟨8, 1⟩) (meth := k8m1) (c := k8c1) (by decide +kernel) rfl rfl rfl (by decide +kernel)
set_option maxRecDepth 65536 in
theorem w_c8 : (Jvm.Cond.code ({ cls := "com/example/niyama/niyama/relational/model/AttributeEqualsPinLaw", name := "pos", desc := "(I)Lcom/example/niyama/niyama/diagnostics/SourcePosition;" } : Jvm.MethodName) method_3_code (1 : Nat) (Option.some (Jvm.ClassFile.FieldType.object "com/example/niyama/niyama/diagnostics/SourcePosition"))).before args0 about1 = true := code_word (m := ⟨1, 2⟩) (meth := k1m2) (c := k1c2) (by decide +kernel) rfl rfl rfl (by decide +kernel)
set_option maxRecDepth 65536 in
theorem w_c9 : (Jvm.Cond.code ({ cls := "com/example/niyama/niyama/relational/model/Attribute", name := "<init>", desc := "(Ljava/lang/String;Lcom/example/niyama/niyama/relational/model/Domain;Lcom/example/niyama/niyama/diagnostics/SourcePosition;)V" } : Jvm.MethodName) prog_29_method_1_code (4 : Nat) (Option.none : Option Jvm.ClassFile.FieldType)).before args0 about1 = true := code_word (m := ⟨11, 0⟩) (meth := k11m0) (c := k11c0) (by decide +kernel) rfl rfl rfl (by decide +kernel)
set_option maxRecDepth 65536 in
theorem w_c10 : (Jvm.Cond.code ({ cls := "java/util/Objects", name := "requireNonNull", desc := "(Ljava/lang/Object;)Ljava/lang/Object;" } : Jvm.MethodName) jdk_31_method_10_code (1 : Nat) (Option.some (Jvm.ClassFile.FieldType.object "java/lang/Object"))).before args0 about1 = true := code_word (m := ⟨12, 1⟩) (meth := k12m1) (c := k12c1) (by decide +kernel) rfl rfl rfl (by decide +kernel)
set_option maxRecDepth 65536 in
theorem w_c11 : (Jvm.Cond.code ({ cls := "com/example/niyama/niyama/diagnostics/SourcePosition", name := "<init>", desc := "(II)V" } : Jvm.MethodName) prog_22_method_1_code (3 : Nat) (Option.none : Option Jvm.ClassFile.FieldType)).before args0 about1 = true := code_word (m := ⟨13, 0⟩) (meth := k13m0) (c := k13c0) (by decide +kernel) rfl rfl rfl (by decide +kernel)
set_option maxRecDepth 65536 in
theorem w_c12 : (Jvm.Cond.code ({ cls := "com/example/niyama/niyama/relational/model/Attribute", name := "equals", desc := "(Ljava/lang/Object;)Z" } : Jvm.MethodName) prog_29_method_5_code (3 : Nat) (Option.some Jvm.ClassFile.FieldType.boolean)).before args0 about1 = true := code_word (m := ⟨11, 1⟩) (meth := k11m1) (c := k11c1) (by decide +kernel) rfl rfl rfl (by decide +kernel)
set_option maxRecDepth 65536 in
theorem w_c13 : (Jvm.Cond.code ({ cls := "java/lang/String", name := "equals", desc := "(Ljava/lang/Object;)Z" } : Jvm.MethodName) jdk_42_method_66_code (3 : Nat) (Option.some Jvm.ClassFile.FieldType.boolean)).before args0 about1 = true := code_word (m := ⟨7, 2⟩) (meth := k7m2) (c := k7c2) (by decide +kernel) rfl rfl rfl (by decide +kernel)
set_option maxRecDepth 65536 in
theorem w_c14 : (Jvm.Cond.code ({ cls := "java/lang/StringLatin1", name := "equals", desc := "([B[B)Z" } : Jvm.MethodName) jdk_43_method_13_code (3 : Nat) (Option.some Jvm.ClassFile.FieldType.boolean)).before args0 about1 = true := code_word (m := ⟨14, 1⟩) (meth := k14m1) (c := k14c1) (by decide +kernel) rfl rfl rfl (by decide +kernel)
def codes1 : List Jvm.Cond := [Jvm.Cond.code x code maxLocals ret, Jvm.Cond.code ({ cls := "com/example/niyama/niyama/relational/model/AttributeEqualsPinLaw", name := "name", desc := "(ICC)Ljava/lang/String;" } : Jvm.MethodName) method_2_code (3 : Nat) (Option.some (Jvm.ClassFile.FieldType.object "java/lang/String")), Jvm.Cond.code ({ cls := "java/lang/String", name := "<init>", desc := "([C)V" } : Jvm.MethodName) jdk_42_method_3_code (2 : Nat) (Option.none : Option Jvm.ClassFile.FieldType), Jvm.Cond.code ({ cls := "java/lang/String", name := "<init>", desc := "([CIILjava/lang/Void;)V" } : Jvm.MethodName) jdk_42_method_149_code (6 : Nat) (Option.none : Option Jvm.ClassFile.FieldType), Jvm.Cond.code ({ cls := "java/lang/Object", name := "<init>", desc := "()V" } : Jvm.MethodName) object_method_1_code (1 : Nat) (Option.none : Option Jvm.ClassFile.FieldType), Jvm.Cond.code ({ cls := "java/lang/StringUTF16", name := "compress", desc := "([CII)[B" } : Jvm.MethodName) jdk_52_method_16_code (6 : Nat) (Option.some (Jvm.ClassFile.FieldType.array Jvm.ClassFile.FieldType.byte)), Jvm.Cond.code ({ cls := "java/lang/StringUTF16", name := "compress", desc := "([CI[BII)I" } : Jvm.MethodName) jdk_52_method_21_code (7 : Nat) (Option.some Jvm.ClassFile.FieldType.int), Jvm.Cond.code ({ cls := "java/lang/StringUTF16", name := "coderFromArrayLen", desc := "([BI)B" } : Jvm.MethodName) jdk_52_method_15_code (2 : Nat) (Option.some Jvm.ClassFile.FieldType.byte), Jvm.Cond.code ({ cls := "com/example/niyama/niyama/relational/model/AttributeEqualsPinLaw", name := "pos", desc := "(I)Lcom/example/niyama/niyama/diagnostics/SourcePosition;" } : Jvm.MethodName) method_3_code (1 : Nat) (Option.some (Jvm.ClassFile.FieldType.object "com/example/niyama/niyama/diagnostics/SourcePosition")), Jvm.Cond.code ({ cls := "com/example/niyama/niyama/relational/model/Attribute", name := "<init>", desc := "(Ljava/lang/String;Lcom/example/niyama/niyama/relational/model/Domain;Lcom/example/niyama/niyama/diagnostics/SourcePosition;)V" } : Jvm.MethodName) prog_29_method_1_code (4 : Nat) (Option.none : Option Jvm.ClassFile.FieldType), Jvm.Cond.code ({ cls := "java/util/Objects", name := "requireNonNull", desc := "(Ljava/lang/Object;)Ljava/lang/Object;" } : Jvm.MethodName) jdk_31_method_10_code (1 : Nat) (Option.some (Jvm.ClassFile.FieldType.object "java/lang/Object")), Jvm.Cond.code ({ cls := "com/example/niyama/niyama/diagnostics/SourcePosition", name := "<init>", desc := "(II)V" } : Jvm.MethodName) prog_22_method_1_code (3 : Nat) (Option.none : Option Jvm.ClassFile.FieldType), Jvm.Cond.code ({ cls := "com/example/niyama/niyama/relational/model/Attribute", name := "equals", desc := "(Ljava/lang/Object;)Z" } : Jvm.MethodName) prog_29_method_5_code (3 : Nat) (Option.some Jvm.ClassFile.FieldType.boolean), Jvm.Cond.code ({ cls := "java/lang/String", name := "equals", desc := "(Ljava/lang/Object;)Z" } : Jvm.MethodName) jdk_42_method_66_code (3 : Nat) (Option.some Jvm.ClassFile.FieldType.boolean), Jvm.Cond.code ({ cls := "java/lang/StringLatin1", name := "equals", desc := "([B[B)Z" } : Jvm.MethodName) jdk_43_method_13_code (3 : Nat) (Option.some Jvm.ClassFile.FieldType.boolean)]
set_option maxRecDepth 65536 in
theorem codes_eq : words1.filter isCode = codes1 := rfl
theorem w_codes : ∀ c ∈ words1.filter isCode, c.before args0 about1 = true := by
  rw [codes_eq]
  intro c hc
  simp only [codes1, List.mem_cons, List.not_mem_nil, or_false] at hc
  rcases hc with rfl | rfl | rfl | rfl | rfl | rfl | rfl | rfl | rfl | rfl | rfl | rfl | rfl | rfl | rfl
  · exact w_c0
  · exact w_c1
  · exact w_c2
  · exact w_c3
  · exact w_c4
  · exact w_c5
  · exact w_c6
  · exact w_c7
  · exact w_c8
  · exact w_c9
  · exact w_c10
  · exact w_c11
  · exact w_c12
  · exact w_c13
  · exact w_c14
set_option maxRecDepth 65536 in
theorem w_t1 : (words1.take 24).all (fun c => isCode c || c.before args0 about1) = true := by decide +kernel
set_option maxRecDepth 65536 in
theorem w_t2 : ((words1.drop 24).take 24).all (fun c => isCode c || c.before args0 about1) = true := by decide +kernel
set_option maxRecDepth 65536 in
theorem w_t3 : (((words1.drop 24).drop 24).take 24).all (fun c => isCode c || c.before args0 about1) = true := by decide +kernel
set_option maxRecDepth 65536 in
theorem w_t4 : ((((words1.drop 24).drop 24).drop 24).take 24).all (fun c => isCode c || c.before args0 about1) = true := by decide +kernel
set_option maxRecDepth 65536 in
theorem w_t5 : ((((words1.drop 24).drop 24).drop 24).drop 24).all (fun c => isCode c || c.before args0 about1) = true := by decide +kernel
theorem w_tables : (allAtoms (Jvm.Cond.code x code maxLocals ret :: tables_1)).before args0 about1 = true := by
  rw [allAtoms_all]
  show words1.all (fun c => c.before args0 about1) = true
  refine all_split ?_ w_codes
  rw [← List.take_append_drop 24 words1, List.all_append, w_t1, ← List.take_append_drop 24 (words1.drop 24), List.all_append, w_t2, ← List.take_append_drop 24 ((words1.drop 24).drop 24), List.all_append, w_t3, ← List.take_append_drop 24 (((words1.drop 24).drop 24).drop 24), List.all_append, w_t4, w_t5]
  rfl
set_option maxRecDepth 65536 in
theorem w_rest : rest_1_c.before args0 about1 = true := by decide +kernel
set_option maxRecDepth 65536 in
theorem w_case : (Jvm.Cond.and given_1 narrow_1).before args0 about1 = true := by decide +kernel
set_option maxRecDepth 65536 in
theorem w_consts : constsHeld consts_1 about1 := Jvm.Lit.constsHeldB_iff.mp (by decide +kernel)
theorem w_applies : (headSpec (Jvm.Cond.code x code maxLocals ret :: tables_1) room_1).applies x e0.platform about1 = true :=
  (Spec.applies_iff w_frames).mpr ⟨w_running, w_runnable, w_alone, w_named, w_hears, w_ripe, w_room, w_tables⟩
theorem atStart : AtStart classFile x code maxLocals ret World_1 tables_1 room_1 Calls_1 rest_1 Pre_1 launch0 p0 e0 about1 theMethod args0 below0 :=
  ⟨lists_1, trivial, launch0.admits_env _ _ _, launch0.least_env, fairChoices_fair.cas, fairChoices_fair.clock, w_frames, w_args, w_heap, w_applies, ⟨w_consts, trivial⟩, w_rest, w_case⟩
end start1
theorem witness_1 : WitnessClaimed_1 := ⟨start1.p0, start1.e0, start1.about1, start1.theMethod, start1.args0, start1.below0, start1.atStart⟩
end Jvm.Pilot.@@N@@
