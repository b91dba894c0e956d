import JvmDerived
import JvmDerived.Pilot.@@N@@Statement
import JvmDerived.Pilot.@@N@@Code
set_option linter.unusedVariables false
set_option maxRecDepth 65536
set_option maxHeartbeats 40000000
set_option linter.unusedSimpArgs false
/- laws to paste: Road.backV (cut by pick.py; bodies as the Statement names them) -/
namespace Jvm.Pilot.@@N@@
namespace StrChars
open Jvm Sem ClassFile Op Lib Jvm.Stand Jvm.Free.XT Jvm.Free.ALB Jvm.Free.JM Jvm.Free
open Jvm.Lib.Cold (StaticIs)
/-- a char array whose places are chars -/
def Ch (a : Addr) (A : Cell) (U : State) : Prop := Arr .char a A U ∧ Typed .char A
theorem Ch.mv {a : Addr} {A : Cell} {U U' : State} (h : Ch a A U) (hal : U.vm.Alike U'.vm) (hh : U'.heap = U.heap) : Ch a A U' := ⟨h.1.mv hal hh, h.2⟩
theorem Ch.keep {a : Addr} {A : Cell} {U U' : State} (h : Ch a A U) (hal : U.vm.Alike U'.vm) (hk : U'.heap[a]? = some A) : Ch a A U' := ⟨h.1.keep hal hk, h.2⟩
/-- what place i of a char[]'s cell holds -/
def cv (A : Cell) (i : Nat) : Int32 := match A.slots[i]? with | some (.int x) => x | _ => 0
theorem Ch.get {a : Addr} {A : Cell} {U : State} (h : Ch a A U) {i : Nat} (hi : i < A.slots.size) : A.slots[i]? = some (.int (cv A i)) := by
  have e := Array.getElem?_eq_getElem hi
  have f := h.2 i _ e
  unfold cv; rw [e]
  generalize A.slots[i] = v at f
  cases v <;> simp [fits] at f ⊢
/-- the byte that i2b leaves of a char -/
def lo8 (x : Int32) : Int32 := x.toInt8.toInt32
theorem fits_lo8 (y : Int32) : fits .byte (.int (lo8 y)) = true := by
  have h1 := y.toInt8.le_toInt
  have h2 := y.toInt8.toInt_lt
  simp only [lo8, fits, Bool.and_eq_true, decide_eq_true_eq, Int32.le_iff_toInt_le, Int8.toInt_toInt32, show (-128 : Int32).toInt = -128 from by decide, show (127 : Int32).toInt = 127 from by decide]
  omega
/-- A' is A but that each place j of lo .. hi - 1 holds f j -/
def Laid (A A' : Cell) (lo hi : Nat) (f : Nat → Value) : Prop := A'.cls = A.cls ∧ A'.vm = A.vm ∧ A'.slots.size = A.slots.size ∧ ∀ i, A'.slots[i]? = if lo ≤ i ∧ i < hi then some (f i) else A.slots[i]?
theorem Laid.zero (A : Cell) (lo : Nat) (f : Nat → Value) : Laid A A lo (lo + 0) f := ⟨rfl, rfl, rfl, fun i => by rw [if_neg (by omega)]⟩
theorem Laid.step {A Ak : Cell} {lo k : Nat} {f : Nat → Value} {v : Value} (h : Laid A Ak lo k f) (hlo : lo ≤ k) (hk : k < Ak.slots.size) (hv : v = f k) : Laid A (Ak.setSlot k v) lo (k + 1) f := by
  refine ⟨h.1, h.2.1, by simpa [Cell.setSlot] using h.2.2.1, fun i => ?_⟩
  by_cases e : k = i
  · subst e; rw [Cell.slots_setSlot_self v hk, if_pos (by omega), hv]
  · rw [Cell.slots_setSlot_ne v e, h.2.2.2 i]
    by_cases q : lo ≤ i ∧ i < k
    · rw [if_pos q, if_pos (by omega)]
    · rw [if_neg q, if_neg (by omega)]
def U16 : String := "java/lang/StringUTF16"
namespace Cmp5
def yN : MethodName := ⟨"java/lang/StringUTF16", "compress", "([CI[BII)I"⟩
abbrev yB : ByteArray := jdk_52_method_21_code
theorem d0 : decode yB 0 = .ok (.iconst 0, 1) := by decide +kernel
theorem d1 : decode yB 1 = .ok (.istore 5, 2) := by decide +kernel
theorem d3 : decode yB 3 = .ok (.iload 5, 2) := by decide +kernel
theorem d5 : decode yB 5 = .ok (.iload 4, 2) := by decide +kernel
theorem d7 : decode yB 7 = .ok (.if_icmp (.ge) 37, 3) := by decide +kernel
theorem d10 : decode yB 10 = .ok (.aload_n 0, 1) := by decide +kernel
theorem d11 : decode yB 11 = .ok (.iload_n 1, 1) := by decide +kernel
theorem d12 : decode yB 12 = .ok (.caload, 1) := by decide +kernel
theorem d13 : decode yB 13 = .ok (.istore 6, 2) := by decide +kernel
theorem d15 : decode yB 15 = .ok (.iload 6, 2) := by decide +kernel
theorem d17 : decode yB 17 = .ok (.sipush 255, 3) := by decide +kernel
theorem d20 : decode yB 20 = .ok (.if_icmp (.le) 6, 3) := by decide +kernel
theorem d26 : decode yB 26 = .ok (.aload_n 2, 1) := by decide +kernel
theorem d27 : decode yB 27 = .ok (.iload_n 3, 1) := by decide +kernel
theorem d28 : decode yB 28 = .ok (.iload 6, 2) := by decide +kernel
theorem d30 : decode yB 30 = .ok (.i2b, 1) := by decide +kernel
theorem d31 : decode yB 31 = .ok (.bastore, 1) := by decide +kernel
theorem d32 : decode yB 32 = .ok (.iinc 1 1, 3) := by decide +kernel
theorem d35 : decode yB 35 = .ok (.iinc 3 1, 3) := by decide +kernel
theorem d38 : decode yB 38 = .ok (.iinc 5 1, 3) := by decide +kernel
theorem d41 : decode yB 41 = .ok (.goto (-38), 3) := by decide +kernel
theorem d44 : decode yB 44 = .ok (.iload 4, 2) := by decide +kernel
theorem d46 : decode yB 46 = .ok (.ireturn, 1) := by decide +kernel
def site : List Cond := []
def tab : Cond := tabOf yN yB 7 (some .int) site
def P (b : Addr) (A : Cell) (d : Addr) (B : Cell) (o q len : Nat) (args : Array Value) (s : State) : Prop := args = #[.ref b, .int (Int32.ofNat o), .ref d, .int (Int32.ofNat q), .int (Int32.ofNat len)] ∧ Ch b A s ∧ Arr .byte d B s ∧ b ≠ d ∧ o + len ≤ A.slots.size ∧ q + len ≤ B.slots.size ∧ ∀ i, i < len → ¬ 255 < cv A (o + i)
def E (b : Addr) (A : Cell) (d : Addr) (B : Cell) (o q len : Nat) (r : Option Value) (s u : State) : Prop := r = some (.int (Int32.ofNat len)) ∧ ∃ B', Put d B' s u ∧ Laid B B' q (q + len) (fun j => Value.int (lo8 (cv A (o + (j - q)))))
/-- no char of the range above 255: len; the places written hold each char's low byte -/
theorem law (l : Launch) (b : Addr) (A : Cell) (d : Addr) (B : Cell) (o q len : Nat) : Law l yN 5 5 0 0 yB 7 (some .int) site (P b A d B o q len) (E b A d B o q len) (copyLocs d q len) 0 0 := by
  refine Law.of_walk (plainFor_of_name (by decide +kernel)) (by decide +kernel) (by decide +kernel) (by decide) (fun _ _ h => by rw [h.1]; rfl) (fun _ U U' hal hh h => ⟨h.1, h.2.1.mv hal hh, h.2.2.1.mv hal hh, h.2.2.2⟩) (fun r U U' V V' h1 hal h2 h => ⟨h.1, h.2.elim fun B' q => ⟨B', q.1.mv h1 h2, q.2⟩⟩) ?_
  intro p e s m args below meth c s₁ X0 hexec hbytes hml hret hlk hnm hown hh0 W hP
  obtain ⟨rfl, hA, hB, hne, l1, l2, hp⟩ := hP
  have c1 : Steps p.tables e below (s₁.setTop (entryFrame m #[.ref b, .int (Int32.ofNat o), .ref d, .int (Int32.ofNat q), .int (Int32.ofNat len)] 7)) (s₁.setTop (mkF m 0 #[.val (.ref b), .val (.int (Int32.ofNat o)), .val (.ref d), .val (.int (Int32.ofNat q)), .val (.int (Int32.ofNat len)), .unset, .unset] [])) := entry rfl
  have hA0 := hA.1.mv X0.warmed.alike hh0
  have hB0 := hB.mv X0.warmed.alike hh0
  have a31 := hA.1.2.2.2
  have c2 : Steps p.tables e below (s₁.setTop (entryFrame m #[.ref b, .int (Int32.ofNat o), .ref d, .int (Int32.ofNat q), .int (Int32.ofNat len)] 7)) (s₁.setTop (mkF m 3 #[.val (.ref b), .val (.int (Int32.ofNat o)), .val (.ref d), .val (.int (Int32.ofNat q)), .val (.int (Int32.ofNat len)), .val (.int 0), .unset] [])) := c1.trans (by
    refine iconstV X0.here hexec rfl 0 (hb hbytes d0) (by decide) ?_
    refine XS.istore X0.here hexec rfl (hb hbytes d1) rfl rfl ?_
    exact Steps.refl _)
  have loop : ∀ (r i : Nat), i + r = len → ∀ (z : Slot), (z = .unset ∨ ∃ w, z = .val w ∧ w.category = 1) → ∀ (Tl : State) (Bk : Cell), Stand p l e { frames := 0, locals := 0, cells := 0, slots := 0 } s m #[.ref b, .int (Int32.ofNat o), .ref d, .int (Int32.ofNat q), .int (Int32.ofNat len)] below meth c Tl ([] ++ copyLocs d q i) 0 0 → Put d Bk s₁ Tl → Laid B Bk q (q + i) (fun j => Value.int (lo8 (cv A (o + (j - q))))) →
      Steps p.tables e below (s₁.setTop (entryFrame m #[.ref b, .int (Int32.ofNat o), .ref d, .int (Int32.ofNat q), .int (Int32.ofNat len)] 7)) (Tl.setTop (mkF m 3 #[.val (.ref b), .val (.int (Int32.ofNat (o + i))), .val (.ref d), .val (.int (Int32.ofNat (q + i))), .val (.int (Int32.ofNat len)), .val (.int (Int32.ofNat i)), z] [])) → ∃ (T' : State) (B' : Cell) (z' : Slot), Stand p l e { frames := 0, locals := 0, cells := 0, slots := 0 } s m #[.ref b, .int (Int32.ofNat o), .ref d, .int (Int32.ofNat q), .int (Int32.ofNat len)] below meth c T' ([] ++ copyLocs d q len) 0 0 ∧ Put d B' s₁ T' ∧ Laid B B' q (q + len) (fun j => Value.int (lo8 (cv A (o + (j - q))))) ∧
      Steps p.tables e below (s₁.setTop (entryFrame m #[.ref b, .int (Int32.ofNat o), .ref d, .int (Int32.ofNat q), .int (Int32.ofNat len)] 7)) (T'.setTop (mkF m 3 #[.val (.ref b), .val (.int (Int32.ofNat (o + len))), .val (.ref d), .val (.int (Int32.ofNat (q + len))), .val (.int (Int32.ofNat len)), .val (.int (Int32.ofNat len)), z'] [])) := by
    intro r
    induction r with
    | zero =>
      intro i hi z hz Tl Bk Xl pl fl cl
      have hil : i = len := by omega
      rw [hil] at Xl fl cl
      exact ⟨Tl, Bk, z, Xl, pl, fl, cl⟩
    | succ r ih =>
      intro i hi z hz Tl Bk Xl pl fl cl
      have all := X0.warmed.alike.symm.trans Xl.warmed.alike
      have hAl := hA0.keep all (pl.other hne hA0.1)
      have hBk := hB0.like all pl.1 fl.1 fl.2.1 fl.2.2.1
      have hlt : q + i < Bk.slots.size := by rw [fl.2.2.1]; omega
      have c3 : Steps p.tables e below (s₁.setTop (entryFrame m #[.ref b, .int (Int32.ofNat o), .ref d, .int (Int32.ofNat q), .int (Int32.ofNat len)] 7)) (Tl.setTop (mkF m 12 #[.val (.ref b), .val (.int (Int32.ofNat (o + i))), .val (.ref d), .val (.int (Int32.ofNat (q + i))), .val (.int (Int32.ofNat len)), .val (.int (Int32.ofNat i)), z] [.int (Int32.ofNat (o + i)), .ref b])) := cl.trans (by
        refine XS.iload Xl.here hexec rfl (hb hbytes d3) rfl ?_
        refine XS.iload Xl.here hexec rfl (hb hbytes d5) rfl ?_
        refine XS.icmpNo Xl.here hexec rfl (hb hbytes d7) rfl (ii_ge_f (lt32 (by omega) (by omega))) ?_
        refine XS.aloadN Xl.here hexec rfl (hb hbytes d10) rfl rfl ?_
        refine XS.iloadN Xl.here hexec rfl (hb hbytes d11) rfl ?_
        exact Steps.refl _)
      have c4 : Steps p.tables e below (s₁.setTop (entryFrame m #[.ref b, .int (Int32.ofNat o), .ref d, .int (Int32.ofNat q), .int (Int32.ofNat len)] 7)) (Tl.setTop (mkF m 13 #[.val (.ref b), .val (.int (Int32.ofNat (o + i))), .val (.ref d), .val (.int (Int32.ofNat (q + i))), .val (.int (Int32.ofNat len)), .val (.int (Int32.ofNat i)), z] [.int (cv A (o + i))])) := c3.trans (by
        refine Xl.aget hexec hAl rfl (hA.get (i := o + i) (by omega)) rfl rfl (hb hbytes d12) ?_
        exact Steps.refl _)
      have c5 : Steps p.tables e below (s₁.setTop (entryFrame m #[.ref b, .int (Int32.ofNat o), .ref d, .int (Int32.ofNat q), .int (Int32.ofNat len)] 7)) (Tl.setTop (mkF m 15 #[.val (.ref b), .val (.int (Int32.ofNat (o + i))), .val (.ref d), .val (.int (Int32.ofNat (q + i))), .val (.int (Int32.ofNat len)), .val (.int (Int32.ofNat i)), .val (.int (cv A (o + i)))] [])) := c4.trans (by
        refine XS.istoreS Xl.here hexec rfl (hb hbytes d13) rfl rfl hz ?_
        exact Steps.refl _)
      have c6 : Steps p.tables e below (s₁.setTop (entryFrame m #[.ref b, .int (Int32.ofNat o), .ref d, .int (Int32.ofNat q), .int (Int32.ofNat len)] 7)) (Tl.setTop (mkF m 31 #[.val (.ref b), .val (.int (Int32.ofNat (o + i))), .val (.ref d), .val (.int (Int32.ofNat (q + i))), .val (.int (Int32.ofNat len)), .val (.int (Int32.ofNat i)), .val (.int (cv A (o + i)))] [.int (lo8 (cv A (o + i))), .int (Int32.ofNat (q + i)), .ref d])) := c5.trans (by
        refine XS.iload Xl.here hexec rfl (hb hbytes d15) rfl ?_
        refine sipushV Xl.here hexec rfl 255 (hb hbytes d17) (by decide) ?_
        refine XS.icmpYes Xl.here hexec rfl (pc0 := 20) rfl (hb hbytes d20) rfl (ii_le_t (hp i (by omega))) (by decide) rfl ?_
        refine XS.aloadN Xl.here hexec rfl (hb hbytes d26) rfl rfl ?_
        refine XS.iloadN Xl.here hexec rfl (hb hbytes d27) rfl ?_
        refine XS.iload Xl.here hexec rfl (hb hbytes d28) rfl ?_
        refine i2b Xl.here hexec rfl (hb hbytes d30) rfl ?_
        exact Steps.refl _)
      obtain ⟨T7, X7, p7, st7⟩ := Xl.aput hexec hBk rfl hlt rfl (fits_lo8 (cv A (o + i))) (g := (mkF m 31 #[.val (.ref b), .val (.int (Int32.ofNat (o + i))), .val (.ref d), .val (.int (Int32.ofNat (q + i))), .val (.int (Int32.ofNat len)), .val (.int (Int32.ofNat i)), .val (.int (cv A (o + i)))] [.int (lo8 (cv A (o + i))), .int (Int32.ofNat (q + i)), .ref d])) rfl (rest := []) rfl (hb hbytes d31)
      have c8 : Steps p.tables e below (s₁.setTop (entryFrame m #[.ref b, .int (Int32.ofNat o), .ref d, .int (Int32.ofNat q), .int (Int32.ofNat len)] 7)) (T7.setTop (mkF m 32 #[.val (.ref b), .val (.int (Int32.ofNat (o + i))), .val (.ref d), .val (.int (Int32.ofNat (q + i))), .val (.int (Int32.ofNat len)), .val (.int (Int32.ofNat i)), .val (.int (cv A (o + i)))] [])) := c6.trans (st7 _ (Steps.refl _))
      have c9 : Steps p.tables e below (s₁.setTop (entryFrame m #[.ref b, .int (Int32.ofNat o), .ref d, .int (Int32.ofNat q), .int (Int32.ofNat len)] 7)) (T7.setTop (mkF m 3 #[.val (.ref b), .val (.int (Int32.ofNat (o + i) + 1)), .val (.ref d), .val (.int (Int32.ofNat (q + i) + 1)), .val (.int (Int32.ofNat len)), .val (.int (Int32.ofNat i + 1)), .val (.int (cv A (o + i)))] [])) := c8.trans (by
        refine iincV X7.here hexec rfl 1 (hb hbytes d32) (by decide) rfl rfl ?_
        refine iincV X7.here hexec rfl 1 (hb hbytes d35) (by decide) rfl rfl ?_
        refine iincV X7.here hexec rfl 1 (hb hbytes d38) (by decide) rfl rfl ?_
        refine XS.goto X7.here hexec rfl (pc0 := 41) rfl (hb hbytes d41) (by decide) rfl ?_
        exact Steps.refl _)
      have c10 : Steps p.tables e below (s₁.setTop (entryFrame m #[.ref b, .int (Int32.ofNat o), .ref d, .int (Int32.ofNat q), .int (Int32.ofNat len)] 7)) (T7.setTop (mkF m 3 #[.val (.ref b), .val (.int (Int32.ofNat (o + (i + 1)))), .val (.ref d), .val (.int (Int32.ofNat (q + (i + 1)))), .val (.int (Int32.ofNat len)), .val (.int (Int32.ofNat (i + 1))), .val (.int (cv A (o + i)))] [])) := by
        have := c9
        rw [succ32, succ32, succ32] at this
        exact this
      exact ih (i + 1) (by omega) _ (Or.inr ⟨_, rfl, rfl⟩) T7 _ (by rw [copyLocs_step, ← List.append_assoc]; exact X7) (pl.trans p7) (fl.step (by omega) hlt (by simp)) c10
  obtain ⟨T9, B9, z9, X9, p9, f9, g9⟩ := loop len 0 (by omega) .unset (Or.inl rfl) s₁ B (by simpa [copyLocs] using X0) ⟨hB0.1, fun _ _ => rfl, rfl⟩ (Laid.zero _ _ _) c2
  have c11 : Steps p.tables e below (s₁.setTop (entryFrame m #[.ref b, .int (Int32.ofNat o), .ref d, .int (Int32.ofNat q), .int (Int32.ofNat len)] 7)) (T9.setTop (mkF m 46 #[.val (.ref b), .val (.int (Int32.ofNat (o + len))), .val (.ref d), .val (.int (Int32.ofNat (q + len))), .val (.int (Int32.ofNat len)), .val (.int (Int32.ofNat len)), z9] [.int (Int32.ofNat len)])) := g9.trans (by
    refine XS.iload X9.here hexec rfl (hb hbytes d3) rfl ?_
    refine XS.iload X9.here hexec rfl (hb hbytes d5) rfl ?_
    refine XS.icmpYes X9.here hexec rfl (pc0 := 7) rfl (hb hbytes d7) rfl (ii_ge_t (nlt32 (by omega) (Nat.le_refl _))) (by decide) rfl ?_
    refine XS.iload X9.here hexec rfl (hb hbytes d44) rfl ?_
    exact Steps.refl _)
  exact ⟨T9, some (.int (Int32.ofNat len)), _, _, _, X9, by simp, rfl, rfl, (fun h => by cases h), ⟨rfl, B9, p9.from hh0, f9⟩, fun fs hl => c11.trans (X9.ireturnOut hexec hret rfl (Or.inl rfl) (hb hbytes d46) hl)⟩
end Cmp5
namespace Cmp3
def yN : MethodName := ⟨"java/lang/StringUTF16", "compress", "([CII)[B"⟩
abbrev yB : ByteArray := jdk_52_method_16_code
theorem d0 : decode yB 0 = .ok (.iload_n 2, 1) := by decide +kernel
theorem d1 : decode yB 1 = .ok (.newarray .byte, 2) := by decide +kernel
theorem d3 : decode yB 3 = .ok (.astore_n 3, 1) := by decide +kernel
theorem d4 : decode yB 4 = .ok (.aload_n 0, 1) := by decide +kernel
theorem d5 : decode yB 5 = .ok (.iload_n 1, 1) := by decide +kernel
theorem d6 : decode yB 6 = .ok (.aload_n 3, 1) := by decide +kernel
theorem d7 : decode yB 7 = .ok (.iconst 0, 1) := by decide +kernel
theorem d8 : decode yB 8 = .ok (.iload_n 2, 1) := by decide +kernel
theorem d9 : decode yB 9 = .ok (.invokestatic 115, 3) := by decide +kernel
theorem d12 : decode yB 12 = .ok (.istore 4, 2) := by decide +kernel
theorem d14 : decode yB 14 = .ok (.iload 4, 2) := by decide +kernel
theorem d16 : decode yB 16 = .ok (.iload_n 2, 1) := by decide +kernel
theorem d17 : decode yB 17 = .ok (.if_icmp (.eq) 40, 3) := by decide +kernel
theorem d57 : decode yB 57 = .ok (.aload_n 3, 1) := by decide +kernel
theorem d58 : decode yB 58 = .ok (.areturn, 1) := by decide +kernel
def site : List Cond := [.arrayClass .byte, Cmp5.tab] ++ staticW U16 115 Cmp5.yN
def tab : Cond := tabOf yN yB 6 (some (.array .byte)) site
def P (b : Addr) (A : Cell) (o len : Nat) (args : Array Value) (s : State) : Prop := args = #[.ref b, .int (Int32.ofNat o), .int (Int32.ofNat len)] ∧ Ch b A s ∧ o + len ≤ A.slots.size ∧ len ≤ 536870912 ∧ ∀ i, i < len → ¬ 255 < cv A (o + i)
def E (b : Addr) (A : Cell) (o len : Nat) (r : Option Value) (s u : State) : Prop := NewArr .byte "[B" len (fun j => .int (lo8 (cv A (o + j)))) r s u ∧ u.heap.size = s.heap.size + 1
/-- no char of the range above 255: a new byte[] of their low bytes -/
theorem law (l : Launch) (b : Addr) (A : Cell) (o len : Nat) : Law l yN 3 3 1 18 yB 6 (some (.array .byte)) site (P b A o len) (E b A o len) [] 1 len := by
  refine Law.of_walk (plainFor_of_name (by decide +kernel)) (by decide +kernel) (by decide +kernel) (by decide) (fun _ _ h => by rw [h.1]; rfl) (fun _ U U' hal hh h => ⟨h.1, h.2.1.mv hal hh, h.2.2⟩) (fun r U U' V V' h1 hal h2 h => ⟨NewArr.mv r U U' V V' h1 hal h2 h.1, by rw [h1, h2]; exact h.2⟩) ?_
  intro p e s m args below meth c s₁ X0 hexec hbytes hml hret hlk hnm hown hh0 W hP
  obtain ⟨rfl, hA, l1, l2, hp⟩ := hP
  have a31 := hA.1.2.2.2
  have c1 : Steps p.tables e below (s₁.setTop (entryFrame m #[.ref b, .int (Int32.ofNat o), .int (Int32.ofNat len)] 6)) (s₁.setTop (mkF m 0 #[.val (.ref b), .val (.int (Int32.ofNat o)), .val (.int (Int32.ofNat len)), .unset, .unset, .unset] [])) := entry rfl
  have c2 : Steps p.tables e below (s₁.setTop (entryFrame m #[.ref b, .int (Int32.ofNat o), .int (Int32.ofNat len)] 6)) (s₁.setTop (mkF m 1 #[.val (.ref b), .val (.int (Int32.ofNat o)), .val (.int (Int32.ofNat len)), .unset, .unset, .unset] [.int (Int32.ofNat len)])) := c1.trans (by
    refine XS.iloadN X0.here hexec rfl (hb hbytes d0) rfl ?_
    exact Steps.refl _)
  obtain ⟨T3, B3, X3, ba3, bs3, bv3, bh3, bf3, st3⟩ := X0.anew hexec (atype := .byte) (wk W (.arrayClass .byte)) rfl (by show len * 1 ≤ _; omega) (by omega) (g := (mkF m 1 #[.val (.ref b), .val (.int (Int32.ofNat o)), .val (.int (Int32.ofNat len)), .unset, .unset, .unset] [.int (Int32.ofNat len)])) rfl (hb hbytes d1) (rest := []) rfl (Nat.le_refl _) (by show 0 + len ≤ len; omega)
  rw [hh0] at ba3 st3
  have kp3 : XT.Kept s T3 := (XT.Kept.of_eq hh0).push bh3
  have hA3 := hA.keep X3.warmed.alike (kp3 _ _ hA.1.1)
  have hne : b ≠ s.heap.size := hA.1.ne
  have c4 : Steps p.tables e below (s₁.setTop (entryFrame m #[.ref b, .int (Int32.ofNat o), .int (Int32.ofNat len)] 6)) (T3.setTop (mkF m 3 #[.val (.ref b), .val (.int (Int32.ofNat o)), .val (.int (Int32.ofNat len)), .unset, .unset, .unset] [.ref s.heap.size])) := c2.trans (st3 _ (Steps.refl _))
  have c5 : Steps p.tables e below (s₁.setTop (entryFrame m #[.ref b, .int (Int32.ofNat o), .int (Int32.ofNat len)] 6)) (T3.setTop (mkF m 9 #[.val (.ref b), .val (.int (Int32.ofNat o)), .val (.int (Int32.ofNat len)), .val (.ref s.heap.size), .unset, .unset] [.int (Int32.ofNat len), .int 0, .ref s.heap.size, .int (Int32.ofNat o), .ref b])) := c4.trans (by
    refine XS.astoreN X3.here hexec rfl (hb hbytes d3) rfl rfl rfl ?_
    refine XS.aloadN X3.here hexec rfl (hb hbytes d4) rfl rfl ?_
    refine XS.iloadN X3.here hexec rfl (hb hbytes d5) rfl ?_
    refine XS.aloadN X3.here hexec rfl (hb hbytes d6) rfl rfl ?_
    refine iconstV X3.here hexec rfl 0 (hb hbytes d7) (by decide) ?_
    refine XS.iloadN X3.here hexec rfl (hb hbytes d8) rfl ?_
    exact Steps.refl _)
  obtain ⟨v6, T6, X6, E6, g6⟩ := X3.callS hexec (Cmp5.law l b A s.heap.size B3 o 0 len) hown (wks W (staticW U16 115 Cmp5.yN)) (wk W Cmp5.tab) (W := 0) (Nat.le_of_ble_eq_true rfl) (Nat.le_of_ble_eq_true rfl) (Nat.le_refl _) (by show 0 + len + 0 ≤ len; omega) (g := (mkF m 9 #[.val (.ref b), .val (.int (Int32.ofNat o)), .val (.int (Int32.ofNat len)), .val (.ref s.heap.size), .unset, .unset] [.int (Int32.ofNat len), .int (Int32.ofNat 0), .ref s.heap.size, .int (Int32.ofNat o), .ref b])) rfl (by rw [hml]; rfl) c5 (argsL := [.ref b, .int (Int32.ofNat o), .ref s.heap.size, .int (Int32.ofNat 0), .int (Int32.ofNat len)]) (rest := []) rfl rfl (by show 2 * 0 + 0 ≤ _; decide) (hb hbytes d9) (⟨rfl, hA3, ba3, hne, l1, by rw [bs3]; simp, hp⟩)
  obtain ⟨rfl, B6, p6, f6⟩ := E6
  have c7 : Steps p.tables e below (s₁.setTop (entryFrame m #[.ref b, .int (Int32.ofNat o), .int (Int32.ofNat len)] 6)) (T6.setTop (mkF m 12 #[.val (.ref b), .val (.int (Int32.ofNat o)), .val (.int (Int32.ofNat len)), .val (.ref s.heap.size), .unset, .unset] [.int (Int32.ofNat len)])) := g6
  have c8 : Steps p.tables e below (s₁.setTop (entryFrame m #[.ref b, .int (Int32.ofNat o), .int (Int32.ofNat len)] 6)) (T6.setTop (mkF m 58 #[.val (.ref b), .val (.int (Int32.ofNat o)), .val (.int (Int32.ofNat len)), .val (.ref s.heap.size), .val (.int (Int32.ofNat len)), .unset] [.ref s.heap.size])) := c7.trans (by
    refine XS.istore X6.here hexec rfl (hb hbytes d12) rfl rfl ?_
    refine XS.iload X6.here hexec rfl (hb hbytes d14) rfl ?_
    refine XS.iloadN X6.here hexec rfl (hb hbytes d16) rfl ?_
    refine XS.icmpYes X6.here hexec rfl (pc0 := 17) rfl (hb hbytes d17) rfl (ii_eq_t rfl) (by decide) rfl ?_
    refine XS.aloadN X6.here hexec rfl (hb hbytes d57) rfl rfl ?_
    exact Steps.refl _)
  have X8 := X6.wide (L' := []) (cells' := 1) (slots' := len) (fun x hx hlt => by
    simp only [List.nil_append, copyLocs, List.mem_map, List.mem_range] at hx
    obtain ⟨i, -, rfl⟩ := hx
    exact absurd hlt (Nat.lt_irrefl _)) (Nat.le_refl _) (by omega)
  exact ⟨T6, some (.ref s.heap.size), _, _, _, X8, rfl, rfl, rfl, (fun h => by cases h), ⟨⟨rfl, B6, ba3.like (X3.warmed.alike.symm.trans X6.warmed.alike) p6.1 f6.1 f6.2.1 f6.2.2.1, f6.2.1.trans bv3, by rw [X6.warmed.alike.findClass, f6.1]; exact bf3, by rw [f6.2.2.1, bs3]; simp, fun j hj => by rw [f6.2.2.2 j, if_pos (by omega)]; rfl, kp3.put p6 (Nat.le_refl _)⟩, by rw [p6.2.2, bh3, hh0]; simp⟩, fun fs hl => c8.trans (X8.areturnOut hexec rfl hret rfl (hb hbytes d58) hl)⟩
end Cmp3
namespace CodL
def yN : MethodName := ⟨"java/lang/StringUTF16", "coderFromArrayLen", "([BI)B"⟩
abbrev yB : ByteArray := jdk_52_method_15_code
theorem d0 : decode yB 0 = .ok (.iload_n 1, 1) := by decide +kernel
theorem d1 : decode yB 1 = .ok (.aload_n 0, 1) := by decide +kernel
theorem d2 : decode yB 2 = .ok (.arraylength, 1) := by decide +kernel
theorem d3 : decode yB 3 = .ok (.isub, 1) := by decide +kernel
theorem d4 : decode yB 4 = .ok (.bipush 31, 2) := by decide +kernel
theorem d6 : decode yB 6 = .ok (.iushr, 1) := by decide +kernel
theorem d7 : decode yB 7 = .ok (.i2b, 1) := by decide +kernel
theorem d8 : decode yB 8 = .ok (.ireturn, 1) := by decide +kernel
def site : List Cond := []
def tab : Cond := tabOf yN yB 2 (some .byte) site
def P (d : Addr) (B : Cell) (args : Array Value) (s : State) : Prop := args = #[.ref d, .int (Int32.ofNat B.slots.size)] ∧ Arr .byte d B s
def E (r : Option Value) (s u : State) : Prop := XT.PureE (some (.int 0)) r s u
/-- an array as long as the number of chars: LATIN1 -/
theorem law (l : Launch) (d : Addr) (B : Cell) : Law l yN 2 2 0 0 yB 2 (some .byte) site (P d B) E [] 0 0 := by
  refine Law.of_walk (plainFor_of_name (by decide +kernel)) (by decide +kernel) (by decide +kernel) (by decide) (fun _ _ h => by rw [h.1]; rfl) (fun _ U U' hal hh h => ⟨h.1, h.2.mv hal hh⟩) (fun r U U' V V' h1 hal h2 h => XT.PureE.mv r U U' V V' h1 hal h2 h) ?_
  intro p e s m args below meth c s₁ X0 hexec hbytes hml hret hlk hnm hown hh0 W hP
  obtain ⟨rfl, hB⟩ := hP
  have hB0 := hB.mv X0.warmed.alike hh0
  have c1 : Steps p.tables e below (s₁.setTop (entryFrame m #[.ref d, .int (Int32.ofNat B.slots.size)] 2)) (s₁.setTop (mkF m 0 #[.val (.ref d), .val (.int (Int32.ofNat B.slots.size))] [])) := entry rfl
  have c2 : Steps p.tables e below (s₁.setTop (entryFrame m #[.ref d, .int (Int32.ofNat B.slots.size)] 2)) (s₁.setTop (mkF m 2 #[.val (.ref d), .val (.int (Int32.ofNat B.slots.size))] [.ref d, .int (Int32.ofNat B.slots.size)])) := c1.trans (by
    refine XS.iloadN X0.here hexec rfl (hb hbytes d0) rfl ?_
    refine XS.aloadN X0.here hexec rfl (hb hbytes d1) rfl rfl ?_
    exact Steps.refl _)
  have c3 : Steps p.tables e below (s₁.setTop (entryFrame m #[.ref d, .int (Int32.ofNat B.slots.size)] 2)) (s₁.setTop (mkF m 8 #[.val (.ref d), .val (.int (Int32.ofNat B.slots.size))] [.int (lo8 (ushr (Int32.ofNat B.slots.size - Int32.ofNat B.slots.size) 31))])) := c2.trans (by
    refine X0.alen hexec hB0 rfl rfl (hb hbytes d2) ?_
    refine XS.isub X0.here hexec rfl (hb hbytes d3) rfl ?_
    refine bipushV X0.here hexec rfl 31 (hb hbytes d4) (by decide) ?_
    refine iushr X0.here hexec rfl (hb hbytes d6) rfl ?_
    refine i2b X0.here hexec rfl (hb hbytes d7) rfl ?_
    exact Steps.refl _)
  have e0 : lo8 (ushr (Int32.ofNat B.slots.size - Int32.ofNat B.slots.size) 31) = 0 := by rw [Int32.sub_self]; decide
  rw [e0] at c3
  exact ⟨s₁, some (.int 0), _, _, _, X0, rfl, rfl, rfl, (fun h => by cases h), ⟨rfl, hh0⟩, fun fs hl => c3.trans (X0.ireturnOut hexec hret rfl (Or.inr (Or.inr (Or.inl rfl))) (hb hbytes d8) hl)⟩
end CodL
/-- the String at a is Latin-1 over a new byte[] (the heap's one new cell): the low bytes of the len chars of A from o on; every cell but a is kept -/
def Got (a : Addr) (D : Cell) (fV fC : Field) (A : Cell) (o len : Nat) (r : Option Value) (s u : State) : Prop := r = none ∧ ∃ D' V : Cell, Blank "java/lang/String" a D' u ∧ Same D D' [fV.slot, fC.slot] ∧ D'.slots[fV.slot]? = some (.ref s.heap.size) ∧ D'.slots[fC.slot]? = some (.int 0) ∧ Arr .byte s.heap.size V u ∧ V.vm = .none ∧ u.vm.findClass "[B" = some V.cls ∧ V.slots.size = len ∧ (∀ j, j < len → V.slots[j]? = some (.int (lo8 (cv A (o + j))))) ∧ (∀ (y : Addr) (c : Cell), y ≠ a → s.heap[y]? = some c → u.heap[y]? = some c) ∧ u.heap.size = s.heap.size + 1
theorem Got.mv {a : Addr} {D A : Cell} {fV fC : Field} {o len : Nat} : ∀ r (U U' V V' : State), U'.heap = U.heap → V.vm.Alike V'.vm → V'.heap = V.heap → Got a D fV fC A o len r U V → Got a D fV fC A o len r U' V' :=
  fun r U U' V V' h1 hal h2 ⟨e0, D', X, a1, a2, a3, a4, a5, a6, a7, a8, a9, a10, a11⟩ => ⟨e0, D', X, a1.mv hal h2, a2, by rw [h1]; exact a3, a4, by rw [h1]; exact a5.mv hal h2, a6, by rw [hal.findClass]; exact a7, a8, a9, by rw [h1, h2]; exact a10, by rw [h1, h2]; exact a11⟩
namespace New4
def yN : MethodName := ⟨"java/lang/String", "<init>", "([CIILjava/lang/Void;)V"⟩
abbrev yB : ByteArray := jdk_42_method_149_code
theorem d0 : decode yB 0 = .ok (.aload_n 0, 1) := by decide +kernel
theorem d1 : decode yB 1 = .ok (.invokespecial 1, 3) := by decide +kernel
theorem d4 : decode yB 4 = .ok (.iload_n 3, 1) := by decide +kernel
theorem d5 : decode yB 5 = .ok (.ifCond (.ne) 22, 3) := by decide +kernel
theorem d27 : decode yB 27 = .ok (.getstatic 38, 3) := by decide +kernel
theorem d30 : decode yB 30 = .ok (.ifCond (.eq) 28, 3) := by decide +kernel
theorem d33 : decode yB 33 = .ok (.aload_n 1, 1) := by decide +kernel
theorem d34 : decode yB 34 = .ok (.iload_n 2, 1) := by decide +kernel
theorem d35 : decode yB 35 = .ok (.iload_n 3, 1) := by decide +kernel
theorem d36 : decode yB 36 = .ok (.invokestatic 177, 3) := by decide +kernel
theorem d39 : decode yB 39 = .ok (.astore 5, 2) := by decide +kernel
theorem d41 : decode yB 41 = .ok (.aload_n 0, 1) := by decide +kernel
theorem d42 : decode yB 42 = .ok (.aload 5, 2) := by decide +kernel
theorem d44 : decode yB 44 = .ok (.iload_n 3, 1) := by decide +kernel
theorem d45 : decode yB 45 = .ok (.invokestatic 47, 3) := by decide +kernel
theorem d48 : decode yB 48 = .ok (.putfield 15, 3) := by decide +kernel
theorem d51 : decode yB 51 = .ok (.aload_n 0, 1) := by decide +kernel
theorem d52 : decode yB 52 = .ok (.aload 5, 2) := by decide +kernel
theorem d54 : decode yB 54 = .ok (.putfield 9, 3) := by decide +kernel
theorem d57 : decode yB 57 = .ok (.return_, 1) := by decide +kernel
def site : List Cond := [.fieldLink "java/lang/String" 38 "java/lang/String" "COMPACT_STRINGS" "Z", Cmp3.tab, CodL.tab, .laysFinal "java/lang/String" "java/lang/String" "value" "[B", .fieldLink "java/lang/String" 9 "java/lang/String" "value" "[B", .laysFinal "java/lang/String" "java/lang/String" "coder" "B", .fieldLink "java/lang/String" 15 "java/lang/String" "coder" "B"] ++ objW "java/lang/String" 1 ++ staticW "java/lang/String" 177 Cmp3.yN ++ staticW "java/lang/String" 47 CodL.yN
def tab : Cond := tabOf yN yB 6 none site
def P (a : Addr) (D : Cell) (fV fC : Field) (b : Addr) (A : Cell) (z : Int32) (o len : Nat) (args : Array Value) (s : State) : Prop := args = #[.ref a, .ref b, .int (Int32.ofNat o), .int (Int32.ofNat len), .null] ∧ Blank "java/lang/String" a D s ∧ Found "java/lang/String" "value" "[B" fV s ∧ Found "java/lang/String" "coder" "B" fC s ∧ Ch b A s ∧ StaticIs s "java/lang/String" "COMPACT_STRINGS" "Z" (.int z) ∧ ¬ z = 0 ∧ 0 < len ∧ o + len ≤ A.slots.size ∧ len ≤ 536870912 ∧ ∀ i, i < len → ¬ 255 < cv A (o + i)
def E (a : Addr) (D : Cell) (fV fC : Field) (A : Cell) (o len : Nat) (r : Option Value) (s u : State) : Prop := Got a D fV fC A o len r s u
/-- len > 0, no char of the range above 255: a Latin-1 String of their low bytes -/
theorem law (l : Launch) (a : Addr) (D : Cell) (fV fC : Field) (b : Addr) (A : Cell) (z : Int32) (o len : Nat) : Law l yN 5 4 2 35 yB 6 none site (P a D fV fC b A z o len) (E a D fV fC A o len) [⟨a, fC.slot⟩, ⟨a, fV.slot⟩] 1 len := by
  refine Law.of_walk (plainFor_of_name (by decide +kernel)) (by decide +kernel) (by decide +kernel) (by decide) (fun _ _ h => by rw [h.1]; rfl) (fun _ U U' hal hh h => ⟨h.1, h.2.1.mv hal hh, h.2.2.1.al hal, h.2.2.2.1.al hal, h.2.2.2.2.1.mv hal hh, h.2.2.2.2.2.1.there hal hh, h.2.2.2.2.2.2⟩) (fun r U U' V V' h1 hal h2 h => Got.mv r U U' V V' h1 hal h2 h) ?_
  intro p e s m args below meth c s₁ X0 hexec hbytes hml hret hlk hnm hown hh0 W hP
  obtain ⟨rfl, hB, f1, f2, hA, s1, hz, l0, l1, l2, hp⟩ := hP
  have a31 := hA.1.2.2.2
  have c1 : Steps p.tables e below (s₁.setTop (entryFrame m #[.ref a, .ref b, .int (Int32.ofNat o), .int (Int32.ofNat len), .null] 6)) (s₁.setTop (mkF m 0 #[.val (.ref a), .val (.ref b), .val (.int (Int32.ofNat o)), .val (.int (Int32.ofNat len)), .val .null, .unset] [])) := entry rfl
  have c2 : Steps p.tables e below (s₁.setTop (entryFrame m #[.ref a, .ref b, .int (Int32.ofNat o), .int (Int32.ofNat len), .null] 6)) (s₁.setTop (mkF m 1 #[.val (.ref a), .val (.ref b), .val (.int (Int32.ofNat o)), .val (.int (Int32.ofNat len)), .val .null, .unset] [.ref a])) := c1.trans (by
    refine XS.aloadN X0.here hexec rfl (hb hbytes d0) rfl rfl ?_
    exact Steps.refl _)
  obtain ⟨T3, X3, q3, st3⟩ := X0.oinit hexec hown (wks W (objW "java/lang/String" 1)) (g := (mkF m 1 #[.val (.ref a), .val (.ref b), .val (.int (Int32.ofNat o)), .val (.int (Int32.ofNat len)), .val .null, .unset] [.ref a])) rfl (by rw [hml]; rfl) (rest := []) rfl (hb hbytes d1) (W := 0) (by show 2 * 0 + 0 ≤ _; decide) (Nat.le_of_ble_eq_true rfl) (Nat.le_of_ble_eq_true rfl)
  have hh3 := q3.trans hh0
  have c4 : Steps p.tables e below (s₁.setTop (entryFrame m #[.ref a, .ref b, .int (Int32.ofNat o), .int (Int32.ofNat len), .null] 6)) (T3.setTop (mkF m 27 #[.val (.ref a), .val (.ref b), .val (.int (Int32.ofNat o)), .val (.int (Int32.ofNat len)), .val .null, .unset] [])) := (c2.trans (st3 _ (Steps.refl _))).trans (by
    refine XS.iloadN X3.here hexec rfl (hb hbytes d4) rfl ?_
    refine XS.ifYes X3.here hexec rfl (pc0 := 5) rfl (hb hbytes d5) rfl (i0_ne_t (nz32 (by omega) l0)) (by decide) rfl ?_
    exact Steps.refl _)
  obtain ⟨T5, X5, q5, st5⟩ := X3.sget hexec hown (wk W (.fieldLink "java/lang/String" 38 "java/lang/String" "COMPACT_STRINGS" "Z")) s1 (fun _ _ h => by rw [hh3]; exact h) (g := (mkF m 27 #[.val (.ref a), .val (.ref b), .val (.int (Int32.ofNat o)), .val (.int (Int32.ofNat len)), .val .null, .unset] [])) rfl (hb hbytes d27)
  have hh5 := q5.trans hh3
  have c6 : Steps p.tables e below (s₁.setTop (entryFrame m #[.ref a, .ref b, .int (Int32.ofNat o), .int (Int32.ofNat len), .null] 6)) (T5.setTop (mkF m 30 #[.val (.ref a), .val (.ref b), .val (.int (Int32.ofNat o)), .val (.int (Int32.ofNat len)), .val .null, .unset] [.int z])) := c4.trans (st5 _ (Steps.refl _))
  have c7 : Steps p.tables e below (s₁.setTop (entryFrame m #[.ref a, .ref b, .int (Int32.ofNat o), .int (Int32.ofNat len), .null] 6)) (T5.setTop (mkF m 36 #[.val (.ref a), .val (.ref b), .val (.int (Int32.ofNat o)), .val (.int (Int32.ofNat len)), .val .null, .unset] [.int (Int32.ofNat len), .int (Int32.ofNat o), .ref b])) := c6.trans (by
    refine XS.ifNo X5.here hexec rfl (hb hbytes d30) rfl (i0_eq_f hz) ?_
    refine XS.aloadN X5.here hexec rfl (hb hbytes d33) rfl rfl ?_
    refine XS.iloadN X5.here hexec rfl (hb hbytes d34) rfl ?_
    refine XS.iloadN X5.here hexec rfl (hb hbytes d35) rfl ?_
    exact Steps.refl _)
  obtain ⟨v8, T8, X8, E8, g8⟩ := X5.callS hexec (Cmp3.law l b A o len) hown (wks W (staticW "java/lang/String" 177 Cmp3.yN)) (wk W Cmp3.tab) (W := 0) (Nat.le_of_ble_eq_true rfl) (Nat.le_of_ble_eq_true rfl) (Nat.le_refl _) (by show 0 + len ≤ len; omega) (g := (mkF m 36 #[.val (.ref a), .val (.ref b), .val (.int (Int32.ofNat o)), .val (.int (Int32.ofNat len)), .val .null, .unset] [.int (Int32.ofNat len), .int (Int32.ofNat o), .ref b])) rfl (by rw [hml]; rfl) c7 (argsL := [.ref b, .int (Int32.ofNat o), .int (Int32.ofNat len)]) (rest := []) rfl rfl (by show 2 * 0 + 0 ≤ _; decide) (hb hbytes d36) (⟨rfl, hA.mv X5.warmed.alike hh5, l1, l2, hp⟩)
  obtain ⟨e8, z8⟩ := E8
  obtain ⟨rfl, N, n1, n2, n3, n4, n5, n6⟩ := NewArr.mv _ T5 s _ _ hh5.symm (Vm.Alike.refl _) rfl e8
  rw [hh5] at z8
  have hB1 := hB.keep X8.warmed.alike (n6 _ _ hB.1)
  have hne : s.heap.size ≠ a := (Nat.ne_of_lt (Array.getElem?_eq_some_iff.mp hB.1).1).symm
  have c9 : Steps p.tables e below (s₁.setTop (entryFrame m #[.ref a, .ref b, .int (Int32.ofNat o), .int (Int32.ofNat len), .null] 6)) (T8.setTop (mkF m 39 #[.val (.ref a), .val (.ref b), .val (.int (Int32.ofNat o)), .val (.int (Int32.ofNat len)), .val .null, .unset] [.ref s.heap.size])) := g8
  have c10 : Steps p.tables e below (s₁.setTop (entryFrame m #[.ref a, .ref b, .int (Int32.ofNat o), .int (Int32.ofNat len), .null] 6)) (T8.setTop (mkF m 45 #[.val (.ref a), .val (.ref b), .val (.int (Int32.ofNat o)), .val (.int (Int32.ofNat len)), .val .null, .val (.ref s.heap.size)] [.int (Int32.ofNat N.slots.size), .ref s.heap.size, .ref a])) := by
    have hc : Steps p.tables e below (s₁.setTop (entryFrame m #[.ref a, .ref b, .int (Int32.ofNat o), .int (Int32.ofNat len), .null] 6)) (T8.setTop (mkF m 45 #[.val (.ref a), .val (.ref b), .val (.int (Int32.ofNat o)), .val (.int (Int32.ofNat len)), .val .null, .val (.ref s.heap.size)] [.int (Int32.ofNat len), .ref s.heap.size, .ref a])) := c9.trans (by
      refine XS.astore X8.here hexec rfl (hb hbytes d39) rfl rfl rfl ?_
      refine XS.aloadN X8.here hexec rfl (hb hbytes d41) rfl rfl ?_
      refine XS.aload X8.here hexec rfl (hb hbytes d42) rfl rfl ?_
      refine XS.iloadN X8.here hexec rfl (hb hbytes d44) rfl ?_
      exact Steps.refl _)
    rw [n4]; exact hc
  obtain ⟨v11, T11, X11, E11, g11⟩ := X8.callS hexec (CodL.law l s.heap.size N) hown (wks W (staticW "java/lang/String" 47 CodL.yN)) (wk W CodL.tab) (W := 1) (Nat.le_of_ble_eq_true rfl) (Nat.le_of_ble_eq_true rfl) (Nat.le_refl _) (by show 0 + len + 0 ≤ len; omega) (g := (mkF m 45 #[.val (.ref a), .val (.ref b), .val (.int (Int32.ofNat o)), .val (.int (Int32.ofNat len)), .val .null, .val (.ref s.heap.size)] [.int (Int32.ofNat N.slots.size), .ref s.heap.size, .ref a])) rfl (by rw [hml]; rfl) c10 (argsL := [.ref s.heap.size, .int (Int32.ofNat N.slots.size)]) (rest := [.ref a]) rfl rfl (by show 2 * 0 + (1 + 0) ≤ _; decide) (hb hbytes d45) (⟨rfl, n1⟩)
  obtain ⟨rfl, q11⟩ := E11
  have hB11 := hB1.mv (X8.warmed.alike.symm.trans X11.warmed.alike) q11
  have c12 : Steps p.tables e below (s₁.setTop (entryFrame m #[.ref a, .ref b, .int (Int32.ofNat o), .int (Int32.ofNat len), .null] 6)) (T11.setTop (mkF m 48 #[.val (.ref a), .val (.ref b), .val (.int (Int32.ofNat o)), .val (.int (Int32.ofNat len)), .val .null, .val (.ref s.heap.size)] [.int 0, .ref a])) := g11
  obtain ⟨T13, X13, p13, bl13, sl13, st13⟩ := X11.finit hexec hown (wk W (.fieldLink "java/lang/String" 15 "java/lang/String" "coder" "B")) (Or.inr ⟨_, (wk W (.laysFinal "java/lang/String" "java/lang/String" "coder" "B"))⟩) (Or.inl ⟨rfl, hnm⟩) f2 (Or.inl rfl) hB11 (t := .byte) (by decide +kernel) rfl (g := (mkF m 48 #[.val (.ref a), .val (.ref b), .val (.int (Int32.ofNat o)), .val (.int (Int32.ofNat len)), .val .null, .val (.ref s.heap.size)] [.int 0, .ref a])) rfl (rest := []) rfl (hb hbytes d48)
  have c14 : Steps p.tables e below (s₁.setTop (entryFrame m #[.ref a, .ref b, .int (Int32.ofNat o), .int (Int32.ofNat len), .null] 6)) (T13.setTop (mkF m 54 #[.val (.ref a), .val (.ref b), .val (.int (Int32.ofNat o)), .val (.int (Int32.ofNat len)), .val .null, .val (.ref s.heap.size)] [.ref s.heap.size, .ref a])) := (c12.trans (st13 _ (Steps.refl _))).trans (by
    refine XS.aloadN X13.here hexec rfl (hb hbytes d51) rfl rfl ?_
    refine XS.aload X13.here hexec rfl (hb hbytes d52) rfl rfl ?_
    exact Steps.refl _)
  obtain ⟨T15, X15, p15, bl15, sl15, st15⟩ := X13.finit hexec hown (wk W (.fieldLink "java/lang/String" 9 "java/lang/String" "value" "[B")) (Or.inr ⟨_, (wk W (.laysFinal "java/lang/String" "java/lang/String" "value" "[B"))⟩) (Or.inl ⟨rfl, hnm⟩) f1 (Or.inl rfl) bl13 (t := (.array .byte)) (by decide +kernel) rfl (g := (mkF m 54 #[.val (.ref a), .val (.ref b), .val (.int (Int32.ofNat o)), .val (.int (Int32.ofNat len)), .val .null, .val (.ref s.heap.size)] [.ref s.heap.size, .ref a])) rfl (rest := []) rfl (hb hbytes d54)
  have c16 : Steps p.tables e below (s₁.setTop (entryFrame m #[.ref a, .ref b, .int (Int32.ofNat o), .int (Int32.ofNat len), .null] 6)) (T15.setTop (mkF m 57 #[.val (.ref a), .val (.ref b), .val (.int (Int32.ofNat o)), .val (.int (Int32.ofNat len)), .val .null, .val (.ref s.heap.size)] [])) := c14.trans (st15 _ (Steps.refl _))
  have ap := apart (Or.inr ⟨_, (wk W (.laysFinal "java/lang/String" "java/lang/String" "value" "[B"))⟩) (Or.inr ⟨_, (wk W (.laysFinal "java/lang/String" "java/lang/String" "coder" "B"))⟩) f1 f2 (t₁ := .array .byte) (t₂ := .byte) (by decide +kernel) (by decide +kernel) (by decide)
  have al := X8.warmed.alike.symm.trans X15.warmed.alike
  have n7 : T11.heap[s.heap.size]? = some N := by rw [q11]; exact n1.1
  exact ⟨T15, none, _, _, _, X15, by simp, rfl, by omega, (fun _ => rfl), ⟨rfl, _, N, bl15, ((Same.refl D _).set _ (by simp)).set _ (by simp), sl15, (Cell.slots_setSlot_ne _ ap).trans sl13, n1.keep al (p15.other hne (p13.other hne n7)), n2, by rw [al.findClass]; exact n3, n4, n5, fun y c h1 h2 => p15.other h1 (p13.other h1 (by rw [q11]; exact n6 y c h2)), by rw [p15.2.2, p13.2.2, q11]; exact z8⟩, fun fs hl => c16.trans (X15.returnOut hexec hret (hb hbytes d57) hl)⟩
end New4
namespace New1
def yN : MethodName := ⟨"java/lang/String", "<init>", "([C)V"⟩
abbrev yB : ByteArray := jdk_42_method_3_code
theorem d0 : decode yB 0 = .ok (.aload_n 0, 1) := by decide +kernel
theorem d1 : decode yB 1 = .ok (.aload_n 1, 1) := by decide +kernel
theorem d2 : decode yB 2 = .ok (.iconst 0, 1) := by decide +kernel
theorem d3 : decode yB 3 = .ok (.aload_n 1, 1) := by decide +kernel
theorem d4 : decode yB 4 = .ok (.arraylength, 1) := by decide +kernel
theorem d5 : decode yB 5 = .ok (.aconst_null, 1) := by decide +kernel
theorem d6 : decode yB 6 = .ok (.invokespecial 27, 3) := by decide +kernel
theorem d9 : decode yB 9 = .ok (.return_, 1) := by decide +kernel
def site : List Cond := [New4.tab] ++ initW "java/lang/String" 27 New4.yN
def tab : Cond := tabOf yN yB 2 none site
def P (a : Addr) (D : Cell) (fV fC : Field) (b : Addr) (A : Cell) (z : Int32) (args : Array Value) (s : State) : Prop := args = #[.ref a, .ref b] ∧ Blank "java/lang/String" a D s ∧ Found "java/lang/String" "value" "[B" fV s ∧ Found "java/lang/String" "coder" "B" fC s ∧ Ch b A s ∧ StaticIs s "java/lang/String" "COMPACT_STRINGS" "Z" (.int z) ∧ ¬ z = 0 ∧ 0 < A.slots.size ∧ A.slots.size ≤ 536870912 ∧ ∀ i, i < A.slots.size → ¬ 255 < cv A i
def E (a : Addr) (D : Cell) (fV fC : Field) (A : Cell) (r : Option Value) (s u : State) : Prop := Got a D fV fC A 0 A.slots.size r s u
/-- new String(chars), not empty, no char above 255: a Latin-1 String of their low bytes -/
theorem law (l : Launch) (a : Addr) (D : Cell) (fV fC : Field) (b : Addr) (A : Cell) (z : Int32) : Law l yN 2 1 3 52 yB 2 none site (P a D fV fC b A z) (E a D fV fC A) [⟨a, fC.slot⟩, ⟨a, fV.slot⟩] 1 A.slots.size := by
  refine Law.of_walk (plainFor_of_name (by decide +kernel)) (by decide +kernel) (by decide +kernel) (by decide) (fun _ _ h => by rw [h.1]; rfl) (fun _ U U' hal hh h => ⟨h.1, h.2.1.mv hal hh, h.2.2.1.al hal, h.2.2.2.1.al hal, h.2.2.2.2.1.mv hal hh, h.2.2.2.2.2.1.there hal hh, h.2.2.2.2.2.2⟩) (fun r U U' V V' h1 hal h2 h => Got.mv r U U' V V' h1 hal h2 h) ?_
  intro p e s m args below meth c s₁ X0 hexec hbytes hml hret hlk hnm hown hh0 W hP
  obtain ⟨rfl, hB, f1, f2, hA, s1, hz, l0, l2, hp⟩ := hP
  have c1 : Steps p.tables e below (s₁.setTop (entryFrame m #[.ref a, .ref b] 2)) (s₁.setTop (mkF m 0 #[.val (.ref a), .val (.ref b)] [])) := entry rfl
  have c2 : Steps p.tables e below (s₁.setTop (entryFrame m #[.ref a, .ref b] 2)) (s₁.setTop (mkF m 6 #[.val (.ref a), .val (.ref b)] [.null, .int (Int32.ofNat A.slots.size), .int 0, .ref b, .ref a])) := c1.trans (by
    refine XS.aloadN X0.here hexec rfl (hb hbytes d0) rfl rfl ?_
    refine XS.aloadN X0.here hexec rfl (hb hbytes d1) rfl rfl ?_
    refine iconstV X0.here hexec rfl 0 (hb hbytes d2) (by decide) ?_
    refine XS.aloadN X0.here hexec rfl (hb hbytes d3) rfl rfl ?_
    refine X0.alen hexec (hA.1.mv X0.warmed.alike hh0) rfl rfl (hb hbytes d4) ?_
    refine XS.aconstNull X0.here hexec rfl (hb hbytes d5) ?_
    exact Steps.refl _)
  obtain ⟨v3, T3, X3, E3, g3⟩ := X0.callN hexec (New4.law l a D fV fC b A z 0 A.slots.size) rfl hown (wks W (initW "java/lang/String" 27 New4.yN)) (W New4.tab (by simp only [site, List.mem_cons, List.mem_append, true_or, or_true])) (W := 0) (Nat.le_of_ble_eq_true rfl) (Nat.le_of_ble_eq_true rfl) (Nat.le_refl _) (by show 0 + A.slots.size ≤ A.slots.size; omega) (g := (mkF m 6 #[.val (.ref a), .val (.ref b)] [.null, .int (Int32.ofNat A.slots.size), .int (Int32.ofNat 0), .ref b, .ref a])) rfl (by rw [hml]; rfl) c2 (argsL := [.ref b, .int (Int32.ofNat 0), .int (Int32.ofNat A.slots.size), .null]) (rest := []) rfl rfl (by show 2 * 0 + 0 ≤ _; decide) (hb hbytes d6) (⟨rfl, hB.mv X0.warmed.alike hh0, f1.al X0.warmed.alike, f2.al X0.warmed.alike, hA.mv X0.warmed.alike hh0, s1.there X0.warmed.alike hh0, hz, l0, by omega, l2, fun i hi => by rw [Nat.zero_add]; exact hp i hi⟩)
  have e0 := Got.mv _ s₁ s _ _ hh0.symm (Vm.Alike.refl _) rfl E3
  obtain rfl := e0.1
  have c4 : Steps p.tables e below (s₁.setTop (entryFrame m #[.ref a, .ref b] 2)) (T3.setTop (mkF m 9 #[.val (.ref a), .val (.ref b)] [])) := g3
  exact ⟨T3, none, _, _, _, X3, by simp, rfl, by omega, (fun _ => rfl), e0, fun fs hl => c4.trans (X3.returnOut hexec hret (hb hbytes d9) hl)⟩
theorem pays {l : Launch} {R : Room} {p : Program} {e : Env} {below : List Frame} {s : State} {sargs : Array Value} {len W : Nat} (a : Addr) (D : Cell) (fV fC : Field) (b : Addr) (A : Cell) (z : Int32) (htab : tab.before sargs s = true) (hfr : 4 ≤ R.frames) (hlo : W + 65 ≤ R.locals) :
    Back l R p e below s sargs yN len W (fun A₁ a₁ => A₁.cells + 1 ≤ R.cells ∧ A₁.slots + A.slots.size ≤ R.slots ∧ P a D fV fC b A z a₁ A₁.U) (fun A₁ _ v₁ B₁ => E a D fV fC A v₁ A₁.U B₁.U ∧ B₁.locs = A₁.locs ++ [⟨a, fC.slot⟩, ⟨a, fV.slot⟩] ∧ B₁.cells = A₁.cells + 1 ∧ B₁.slots = A₁.slots + A.slots.size) :=
  (law l a D fV fC b A z).pays htab hfr (by omega)
end New1
end StrChars
namespace StrChars.Road
open Jvm Sem ClassFile Op Lib Jvm.Stand Jvm.Free Jvm.Free.XT
open Jvm.Lib.Cold (StaticIs)
abbrev ST : String := "java/lang/String"
/-- every table word that New1's law asks, flat -/
abbrev words : List Jvm.Cond := [.code New1.yN New1.yB 2 none, .initialized ST, .methodLink ST 27 New4.yN, .instanceMethod New4.yN,
  .code New4.yN New4.yB 6 none, .fieldLink ST 38 ST "COMPACT_STRINGS" "Z", .laysFinal ST ST "value" "[B", .fieldLink ST 9 ST "value" "[B", .laysFinal ST ST "coder" "B", .fieldLink ST 15 ST "coder" "B",
  .methodLink ST 1 Lib.objectInit, .instanceMethod Lib.objectInit, .code Lib.objectInit ⟨#[0xb1]⟩ 1 none, .methodLink ST 177 Cmp3.yN, .static Cmp3.yN, .methodLink ST 47 CodL.yN, .static CodL.yN,
  .code Cmp3.yN Cmp3.yB 6 (some (.array .byte)), .initialized U16, .arrayClass .byte, .methodLink U16 115 Cmp5.yN, .static Cmp5.yN, .code Cmp5.yN Cmp5.yB 7 (some .int), .code CodL.yN CodL.yB 2 (some .byte)]
theorem tab_of {a : Array Value} {s : State} (h : ∀ w ∈ words, w.before a s = true) : New1.tab.before a s = true := by
  have h5 : Cmp5.tab.before a s = true := unparts (wk h (.code Cmp5.yN Cmp5.yB 7 (some .int))) (wks h (.initialized Cmp5.yN.cls :: Cmp5.site))
  have hc : CodL.tab.before a s = true := unparts (wk h (.code CodL.yN CodL.yB 2 (some .byte))) (wks h (.initialized CodL.yN.cls :: CodL.site))
  have q5 : ∀ w ∈ Cmp5.tab :: words, w.before a s = true := fun w hw => (List.mem_cons.mp hw).elim (fun e => e ▸ h5) (h w)
  have h3 : Cmp3.tab.before a s = true := unparts (wk q5 (.code Cmp3.yN Cmp3.yB 6 (some (.array .byte)))) (wks q5 (.initialized Cmp3.yN.cls :: Cmp3.site))
  have q3 : ∀ w ∈ Cmp3.tab :: CodL.tab :: words, w.before a s = true := fun w hw => (List.mem_cons.mp hw).elim (fun e => e ▸ h3) fun hw => (List.mem_cons.mp hw).elim (fun e => e ▸ hc) (h w)
  have h4 : New4.tab.before a s = true := unparts (wk q3 (.code New4.yN New4.yB 6 none)) (wks q3 (.initialized New4.yN.cls :: New4.site))
  have q4 : ∀ w ∈ New4.tab :: words, w.before a s = true := fun w hw => (List.mem_cons.mp hw).elim (fun e => e ▸ h4) (h w)
  exact unparts (wk q4 (.code New1.yN New1.yB 2 none)) (wks q4 (.initialized New1.yN.cls :: New1.site))
/-- the words ride from the start Z to the walk's own state -/
theorem moved {Z s : State} {a0 args : Array Value} (hZ : Z.Warmed39 s.vm) (hw : ∀ d ∈ words, d.before a0 Z = true) : ∀ d ∈ words, d.before args s = true := fun d hd => by
  have q := hw d hd
  have t : ∀ d ∈ words, d = .arrayClass .byte ∨ (d.onTables && d.keepsFace) = true := by decide +kernel
  rcases t d hd with rfl | t
  · exact RoadKit.mvA hZ q
  · exact RoadKit.mv hZ q t
/-- WHAT COMES BACK, over the tables of the start Z: h the heap at the call, h' behind it -/
def Q (Z : State) (x : Addr) (A : Cell) (h : Heap) (v : Option Value) (h' : Heap) (L : List Loc) : Prop := v = none ∧ (∀ y ∈ L, y.base = x) ∧ RoadKit.Keep h h' [x] ∧ h'.size = h.size + 1 ∧ RoadKit.Exa Z h' x ST ∧ RoadKit.Fld Z h' x ST "value" "[B" (.ref h.size) ∧ RoadKit.Fld Z h' x ST "coder" "B" (.int 0) ∧
  (∃ V : Cell, RoadKit.Arr Z h' h.size V .byte ∧ V.vm = .none ∧ Z.vm.findClass "[B" = some V.cls ∧ V.slots.size = A.slots.size ∧ ∀ j, j < A.slots.size → V.slots[j]? = some (.int (lo8 (cv A j)))) ∧
  ∀ (O n d : String) (w : Value), RoadKit.Fld Z h x O n d w → RoadKit.slotOf Z O n d ≠ RoadKit.slotOf Z ST "value" "[B" → RoadKit.slotOf Z O n d ≠ RoadKit.slotOf Z ST "coder" "B" → RoadKit.Fld Z h' x O n d w
/-- **new String(chars) AT A CALL, IN THE ROAD'S FORM**: for specialBack behind newO: x the fresh String, b the char[] with the cell A -/
theorem back {p : Program} {l : Launch} {e : Env} {R : Room} {s : State} {args : Array Value} {below : List Frame} {len W : Nat} {Z : State} {a0 : Array Value} {h : Heap} (hZ : Z.Warmed39 s.vm) (hw : ∀ d ∈ words, d.before a0 Z = true) {kI : Nat} (wi : (Jvm.Cond.instantiable ST kI).before a0 Z = true)
    {x b : Addr} {A : Cell} {z : Int32} {v0 c0 : Value} (E : RoadKit.Exa Z h x ST) (V : RoadKit.Fld Z h x ST "value" "[B" v0) (C : RoadKit.Fld Z h x ST "coder" "B" c0) (K : RoadKit.Arr Z h b A .char) (hty : Typed .char A) (S : RoadKit.Sta Z h ST "COMPACT_STRINGS" "Z" (.int z)) (hz : ¬ z = 0)
    (l0 : 0 < A.slots.size) (l2 : A.slots.size ≤ 536870912) (hp : ∀ i, i < A.slots.size → ¬ 255 < cv A i) (hfr : 4 ≤ R.frames) (hlo : W + 65 ≤ R.locals) :
    Back l R p e below s args New1.yN len W (fun P a => a = #[.ref x, .ref b] ∧ P.U.heap = h ∧ P.cells + 1 ≤ R.cells ∧ P.slots + A.slots.size ≤ R.slots)
      (fun P _ v B => ∃ L, Q Z x A h v B.U.heap L ∧ B.locs = P.locs ++ L ∧ B.cells = P.cells + 1 ∧ B.slots = P.slots + A.slots.size) := by
  intro m meth c P g ig mk a X hg hsize hdg hW hn hp'
  obtain ⟨rfl, rfl, r1, r2⟩ := hp'
  have al : Z.vm.Alike P.U.vm := hZ.alike.trans X.warmed.alike
  obtain ⟨D, cfV, kV, iV, fV, hD, gV, stV, knV, obV, asV, slV⟩ := id V
  obtain ⟨D', cfC, kC, iC, fC, hD', gC, stC, -, -, asC, slC⟩ := id C
  cases hD.symm.trans hD'
  obtain ⟨D2, kD, e1, e2, e3, e4, e5⟩ := id E
  cases hD.symm.trans e1
  obtain ⟨c2, k2, i1, i2, i3, -⟩ := Cond.instantiable_spec wi
  cases e2.symm.trans i1
  cases e3.symm.trans i2
  obtain ⟨kU, u1, u2⟩ := al.2.2 _ _ e3
  have hB : Blank ST x D P.U := ⟨hD, ⟨knV, fun q hq => by rw [hq] at obV; cases obV⟩, by rw [al.findClass]; exact e2, kU, u1, by rw [u2]; exact i3, by rw [u2]; exact e5 i3⟩
  have F1 : Found ST "value" "[B" fV P.U := ⟨SBG.found_only al ⟨cfV, kV, iV, gV⟩, stV⟩
  have F2 : Found ST "coder" "B" fC P.U := ⟨SBG.found_only al ⟨cfC, kC, iC, gC⟩, stC⟩
  have hA : Ch b A P.U := ⟨⟨K.1, State.isArrayOf_alike al K.2.1, K.2.2, by omega⟩, hty⟩
  have hS : StaticIs P.U ST "COMPACT_STRINGS" "Z" (.int z) := by
    obtain ⟨cfS, iS, kS, fS, st, cS, t1, t2, t3, t4, t5, t6, t7⟩ := S
    exact StaticIs.there (s := { Z with heap := P.U.heap }) ⟨cfS, iS, kS, fS, st, cS, t1, t2, t3, t4, t5, (fun q => by rw [q] at t6; cases t6), t7⟩ al rfl
  obtain ⟨v, B, X', ⟨⟨hv, E', V', q1, q2, q3, q4, q5, q6, q7, q8, q9, q10, q11⟩, hl, hc, hs⟩, st⟩ := New1.pays x D fV fC b A z (tab_of (moved hZ hw)) hfr hlo m meth c P g ig mk _ X hg hsize hdg hW hn ⟨r1, r2, rfl, hB, F1, F2, hA, hS, hz, l0, l2, hp⟩
  have al' : Z.vm.Alike B.U.vm := hZ.alike.trans X'.warmed.alike
  have hsz : E'.slots.size = D.slots.size := by
    obtain ⟨-, -, -, kB, w1, w2, w3⟩ := q1
    obtain ⟨kB', y1, y2⟩ := al'.2.2 _ _ e3
    rw [q2.2.1] at w1
    cases w1.symm.trans y1
    rw [w3, e5 i3, y2]
  refine ⟨v, B, X', ⟨_, ⟨hv, ?_, ⟨by omega, fun y cy hy hn' => q10 y cy (by simpa using hn') hy, fun y cy hy => ?_⟩, q11, ⟨E', _, q1.1, by rw [q2.2.1]; exact e2, by rw [q2.2.1]; exact e3, by rw [q2.1]; exact obV, fun _ => by rw [hsz]; exact e5 i3⟩,
    ⟨E', cfV, kV, iV, fV, q1.1, gV, stV, by rw [q2.1]; exact knV, by rw [q2.1]; exact obV, by rw [q2.2.1]; exact asV, q3⟩, ⟨E', cfC, kC, iC, fC, q1.1, gC, stC, by rw [q2.1]; exact knV, by rw [q2.1]; exact obV, by rw [q2.2.1]; exact asC, q4⟩,
    ⟨V', ⟨q5.1, State.isArrayOf_alike al'.symm q5.2.1, q5.2.2.1⟩, q6, by rw [← al'.findClass]; exact q7, q8, fun j hj => by have := q9 j hj; rwa [Nat.zero_add] at this⟩, fun O n d w F n1 n2 => ?_⟩, hl, hc, hs⟩, st⟩
  · intro y hy
    simp only [List.mem_cons, List.not_mem_nil, or_false] at hy
    rcases hy with rfl | rfl <;> rfl
  · by_cases q : y = x
    · subst q
      cases hD.symm.trans hy
      exact ⟨E', q1.1, q2.2.1, q2.1, hsz⟩
    · exact ⟨cy, q10 y cy q hy, rfl, rfl, rfl⟩
  · obtain ⟨D3, cf, k, i, f, g1, g2, g3, g4, g5, g6, g7⟩ := F
    cases hD.symm.trans g1
    simp only [RoadKit.slotOf, g2, gV, gC, Option.map_some, Option.getD_some] at n1 n2
    exact ⟨E', cf, k, i, f, q1.1, g2, g3, by rw [q2.1]; exact g4, by rw [q2.1]; exact g5, by rw [q2.2.1]; exact g6, by rw [q2.2.2 f.slot (by simp [n1, n2])]; exact g7⟩
end StrChars.Road
namespace StrChars.Road
open Jvm Sem ClassFile Op Lib Jvm.Stand Jvm.Free Jvm.Free.XT
/-- WHAT COMES BACK, the byte[] as a list of values -/
def QA (Z : State) (x : Addr) (zn : Int32) (cs : List Int32) (h : Heap) (v : Option Value) (h' : Heap) (L : List Loc) : Prop := v = none ∧ (∀ y ∈ L, y.base = x) ∧ RoadKit.Keep h h' [x] ∧ h'.size = h.size + 1 ∧ RoadKit.Exa Z h' x ST ∧ RoadKit.Fld Z h' x ST "value" "[B" (.ref h.size) ∧ RoadKit.Fld Z h' x ST "coder" "B" (.int 0) ∧
  (∃ kb, Z.vm.findClass "[B" = some kb ∧ RoadKit.Arv Z h' h.size kb .byte zn (cs.map fun c => .int (lo8 c)) (.int 0)) ∧
  ∀ (O n d : String) (w : Value), RoadKit.Fld Z h x O n d w → RoadKit.slotOf Z O n d ≠ RoadKit.slotOf Z ST "value" "[B" → RoadKit.slotOf Z O n d ≠ RoadKit.slotOf Z ST "coder" "B" → RoadKit.Fld Z h' x O n d w
/-- **new String(chars) AT A CALL, THE ARRAYS AS LISTS**: the char[] at b holds cs, not empty, no char above 255 -/
theorem backArv {p : Program} {l : Launch} {e : Env} {R : Room} {s : State} {args : Array Value} {below : List Frame} {len W : Nat} {Z : State} {a0 : Array Value} {h : Heap} (hZ : Z.Warmed39 s.vm) (hw : ∀ d ∈ words, d.before a0 Z = true) {kI : Nat} (wi : (Jvm.Cond.instantiable ST kI).before a0 Z = true)
    {x b : Addr} {k : ClassId} {zn z : Int32} {cs : List Int32} {dv v0 c0 : Value} (E : RoadKit.Exa Z h x ST) (V : RoadKit.Fld Z h x ST "value" "[B" v0) (C : RoadKit.Fld Z h x ST "coder" "B" c0) (K : RoadKit.Arv Z h b k .char zn (cs.map Value.int) dv) (S : RoadKit.Sta Z h ST "COMPACT_STRINGS" "Z" (.int z)) (hz : ¬ z = 0)
    (hlen : zn.toNatClampNeg = cs.length) (h0 : 0 < cs.length) (hbig : cs.length ≤ 536870912) (hall : ∀ c ∈ cs, ¬ 255 < c) (hfr : 4 ≤ R.frames) (hlo : W + 65 ≤ R.locals) :
    Back l R p e below s args New1.yN len W (fun P a => a = #[.ref x, .ref b] ∧ P.U.heap = h ∧ P.cells + 1 ≤ R.cells ∧ P.slots + cs.length ≤ R.slots)
      (fun P _ v B => ∃ L, QA Z x zn cs h v B.U.heap L ∧ B.locs = P.locs ++ L ∧ B.cells = P.cells + 1 ∧ B.slots = P.slots + cs.length) := by
  obtain ⟨A, K1, K2, K3, K4, K5, K6⟩ := K
  have e : A.slots.size = cs.length := K3.trans hlen
  have hat : ∀ (i : Nat) (hi : i < cs.length), A.slots[i]? = some (.int cs[i]) := fun i hi => by rw [K5 i (by omega)]; simp [List.getD_eq_getElem?_getD, hi]
  have hcv : ∀ (i : Nat) (hi : i < cs.length), cv A i = cs[i] := fun i hi => by unfold cv; rw [hat i hi]
  have hty : Typed .char A := fun i v hv => by
    have hi : i < A.slots.size := (Array.getElem?_eq_some_iff.mp hv).1
    have q := K5 i hi
    rw [hv] at q
    rw [Option.some.inj q]
    exact K6 i hi
  refine Back.mono (back hZ hw wi E V C K1 hty S hz (by omega) (by omega) (fun i hi => by rw [hcv i (by omega)]; exact hall _ (List.getElem_mem _)) hfr hlo) (fun P a hp => ⟨hp.1, hp.2.1, hp.2.2.1, by rw [e]; exact hp.2.2.2⟩) (fun P a v B hp hq => ?_)
  obtain ⟨L, ⟨q1, q2, q3, q4, q5, q6, q7, ⟨V', v1, v2, v3, v4, v5⟩, q9⟩, hl, hc, hs⟩ := hq
  refine ⟨L, ⟨q1, q2, q3, q4, q5, q6, q7, ⟨V'.cls, v3, V', v1, rfl, by rw [v4, e, hlen], K4, fun i hi => ?_, fun i hi => ?_⟩, q9⟩, hl, hc, by rw [hs, e]⟩
  · have hi' : i < cs.length := by omega
    rw [v5 i (by omega), hcv i hi']; simp [List.getD_eq_getElem?_getD, hi']
  · have hi' : i < cs.length := by omega
    simp only [List.getD_eq_getElem?_getD, List.getElem?_map, List.getElem?_eq_getElem hi', Option.map_some, Option.getD_some]
    exact fits_lo8 _
end StrChars.Road
namespace StrChars.Road
open Jvm Sem ClassFile Op Lib Jvm.Stand Jvm.Free Jvm.Free.XT
/-- WHAT COMES BACK, in the writer's own shape -/
def QV (Z : State) (x : Addr) (N : Int32) (bs : List Int32) (h : Heap) (n0 : Nat) (v : Option Value) (h' : Heap) (L : List Loc) : Prop := v = none ∧ RoadKit.Fr n0 L ∧ RoadKit.Keep h h' [x] ∧ RoadKit.Exa Z h' x ST ∧ RoadKit.Fld Z h' x ST "coder" "B" (.int 0) ∧
  ∃ (t : Addr) (kb : ClassId), n0 ≤ t ∧ h.size ≤ t ∧ ¬ t = x ∧ RoadKit.Fld Z h' x ST "value" "[B" (.ref t) ∧ RoadKit.Arv Z h' t kb .byte N (bs.map Value.int) (.int 0)
/-- **new String(chars) AT A CALL, FOR THE WRITER**: a char[] of n known ints, each 0 to 255 -/
theorem backV {p : Program} {l : Launch} {e : Env} {R : Room} {s : State} {args : Array Value} {below : List Frame} {len W : Nat} {Z : State} {a0 : Array Value} {h : Heap} (hZ : Z.Warmed39 s.vm) (hw : ∀ d ∈ words, d.before a0 Z = true) {kI : Nat} (wi : (Jvm.Cond.instantiable ST kI).before a0 Z = true)
    {x b : Addr} {kC : ClassId} {cs bs : List Int32} {d v0 c0 : Value} {z N : Int32} {n n0 : Nat} (hx0 : n0 ≤ x) (hh0 : n0 ≤ h.size) (E : RoadKit.Exa Z h x ST) (V : RoadKit.Fld Z h x ST "value" "[B" v0) (C : RoadKit.Fld Z h x ST "coder" "B" c0) (K : RoadKit.Arv Z h b kC .char N (cs.map Value.int) d) (S : RoadKit.Sta Z h ST "COMPACT_STRINGS" "Z" (.int z)) (hz : ¬ z = 0)
    (hn : cs.length = n) (hN : N = Int32.ofNat n) (l0 : 0 < n) (l2 : n ≤ 4000) (hp : ∀ c ∈ cs, ¬ c < 0 ∧ ¬ (255 : Int32) < c) (hb : bs = cs.map (fun c => c.toInt8.toInt32)) (hfr : 4 ≤ R.frames) (hlo : W + 65 ≤ R.locals) :
    Back l R p e below s args (⟨"java/lang/String", "<init>", "([C)V"⟩ : MethodName) len W (fun P a => a = #[.ref x, .ref b] ∧ P.U.heap = h ∧ P.cells + 1 ≤ R.cells ∧ P.slots + n ≤ R.slots)
      (fun P _ v B => ∃ L, QV Z x N bs h n0 v B.U.heap L ∧ B.locs = P.locs ++ L ∧ B.cells = P.cells + 1 ∧ B.slots = P.slots + n) := by
  subst hn hN hb
  refine Back.mono (backArv hZ hw wi E V C K S hz (n32 (by omega)) l0 (by omega) (fun c hc => (hp c hc).2) hfr hlo) (fun P a hp => hp) (fun P a v B hp hq => ?_)
  obtain ⟨L, ⟨q1, q2, q3, q4, q5, q6, q7, ⟨kb, v1, v2⟩, q9⟩, hl, hc, hs⟩ := hq
  exact ⟨L, ⟨q1, fun y hy => by rw [q2 y hy]; exact hx0, q3, q5, q7, h.size, kb, hh0, Nat.le_refl _, Nat.ne_of_gt E.lt, q6, by rw [List.map_map]; exact v2⟩, hl, hc, hs⟩
end StrChars.Road
end Jvm.Pilot.@@N@@
namespace Jvm.Pilot.@@N@@
open Jvm Jvm.ClassFile Sem Op Lib Jvm.Free Jvm.Stand Jvm.LawKit Jvm.RoadKit Bundle Jvm.Pilot.@@N@@.Jvm.D
theorem wd {Z : State} {a0 : Array Value} (hw : ∀ d ∈ tables_1, d.before a0 Z = true) (i : Nat) {d : Jvm.Cond} (h : tables_1[i]? = some d) : d.before a0 Z = true := hw _ (List.mem_of_getElem? h)
section OwnGo
/-- from this frame the run ends, and leaves what Q says -/
def Go (p : Program) (e : Env) (below : List Frame) (s : State) (k n : Nat) (Q : Option Value → Heap → List Loc → Prop) (m : MethodId) (T : State) (pc : Nat) (L : Array Slot) (S : List Value) : Prop :=
  ∃ s₂ o, Steps p.tables e below (T.setTop (mkF m pc L S)) s₂ ∧ s₂.status = .running ∧ Ended s₂ below o ∧ ∃ v Ls, o = .returned v ∧ Q v s₂.heap Ls ∧ FrameEnd s o s₂ Ls k n
variable {p : Program} {l : Launch} {e : Env} {R : Room} {s : State} {m : MethodId} {args : Array Value} {below : List Frame} {meth : Method} {c : Code} {T T' : State} {locs : List Loc} {cells slots k n : Nat} {Z : State} {h : Heap} {Q : Option Value → Heap → List Loc → Prop} {pc pc' : Nat} {L L' : Array Slot} {S S' : List Value}
theorem Go.st (h : ∀ t, Steps p.tables e below (T'.setTop (mkF m pc' L' S')) t → Steps p.tables e below (T.setTop (mkF m pc L S)) t) (g : Go p e below s k n Q m T' pc' L' S') : Go p e below s k n Q m T pc L S := by
  obtain ⟨a, b, c, d⟩ := g; exact ⟨a, b, h _ c, d⟩
theorem Go.tr (h : Steps p.tables e below (T.setTop (mkF m pc L S)) (T'.setTop (mkF m pc' L' S'))) (g : Go p e below s k n Q m T' pc' L' S') : Go p e below s k n Q m T pc L S := Go.st (fun _ q => h.trans q) g
theorem Go.retV (X : Stand p l e R s m args below meth c T locs cells slots) (hx : p.tables.exec = Jvm.exec) (hlk : meth.locks = false) (hret : meth.sig.returnType = none) (hd : decode c.code pc = .ok (.return_, 1)) (hk : cells ≤ k) (hn : slots ≤ n) (hq : Q none T.heap locs) : Go p e below s k n Q m T pc L [] := by
  obtain ⟨fs, hr, hrun, hended, hW, hsame⟩ := X.leave (v := none) (fun _ => rfl) hlk
  exact ⟨_, _, X.returnOut hx hret hd hr, hrun, hended, _, _, rfl, hq, ⟨_, rfl⟩, hW, hsame.mono hk hn⟩
theorem Go.retN (X : Stand p l e R s m args below meth c T locs cells slots) (hx : p.tables.exec = Jvm.exec) (hlk : meth.locks = false) {t : FieldType} {z : Int32} {rest : List Value} (hret : meth.sig.returnType = some t) (ht : t = .boolean ∨ t = .byte ∨ t = .char ∨ t = .short) (hd : decode c.code pc = .ok (.ireturn, 1)) (hk : cells ≤ k) (hn : slots ≤ n) (hq : Q (some (.int (nar t z))) T.heap locs) : Go p e below s k n Q m T pc L (.int z :: rest) := by
  obtain ⟨fs, hr, hrun, hended, hW, hsame⟩ := X.leave (v := some (.int (nar t z))) (fun h => by rw [hret] at h; cases h) hlk
  exact ⟨_, _, Jvm.RoadKit.retN X hx hret ht hd hr, hrun, hended, _, _, rfl, hq, ⟨_, rfl⟩, hW, hsame.mono hk hn⟩
theorem Go.retO (X : Stand p l e R s m args below meth c T locs cells slots) (hx : p.tables.exec = Jvm.exec) (hlk : meth.locks = false) {t : FieldType} {w : Value} {i : Instr} {rest : List Value} (hret : meth.sig.returnType = some t) (hw : narrow t w = w) (hi : (i = .ireturn ∧ (t = .int ∨ t = .boolean ∨ t = .byte ∨ t = .char ∨ t = .short) ∧ ∃ z, w = .int z) ∨ (i = .lreturn ∧ t = .long ∧ ∃ z, w = .long z) ∨ (i = .dreturn ∧ t = .double ∧ ∃ z, w = .double z) ∨ (i = .freturn ∧ t = .float ∧ ∃ z, w = .float z) ∨ (i = .areturn ∧ t.isReference = true ∧ w.isRef = true)) (hd : decode c.code pc = .ok (i, 1)) (hk : cells ≤ k) (hn : slots ≤ n) (hq : Q (some w) T.heap locs) : Go p e below s k n Q m T pc L (w :: rest) := by
  obtain ⟨fs, hr, hrun, hended, hW, hsame⟩ := X.leave (v := some w) (fun h => by rw [hret] at h; cases h) hlk
  exact ⟨_, _, retOut X hx hret hw hi hd hr, hrun, hended, _, _, rfl, hq, ⟨_, rfl⟩, hW, hsame.mono hk hn⟩
theorem Stand.up (X : Stand p l e R s m args below meth c T locs cells slots) (hk : cells ≤ k) (hn : slots ≤ n) : Stand p l e R s m args below meth c T locs k n :=
  ⟨X.admits, X.cas, X.clock, X.frames, X.room, X.hears, X.method, X.code, X.here, X.tail, X.warmed, X.limits, X.bytes, X.same.mono hk hn⟩
theorem own_len (X : Stand p l e R s m args below meth c T locs cells slots) (hx : p.tables.exec = Jvm.exec) (hZ : Z.Warmed39 s.vm) (eT : T.heap = h) {a : Addr} {cl : Cell} {ty : FieldType} {z : Int32} (A : Arr Z h a cl ty) (S : cl.slots.size = z.toNatClampNeg) (q : ¬ z < 0) {g : JFrame} (hg : g.method = m) {rest : List Value} (hs : g.stack = .ref a :: rest) (hd : decode c.code g.pc = .ok (.arraylength, 1)) (t : State)
    (k : Steps p.tables e below (T.setTop { g with pc := g.pc + 1, stack := .int z :: rest }) t) : Steps p.tables e below (T.setTop g) t := by
  refine X.arraylength hx (by rw [eT]; exact A.1) (State.isArrayOf_alike hZ.alike A.2.1) (g := g) hg hs hd _ ?_
  rw [len_of S q]; exact k
theorem own_met {l : Launch} {y : MethodName} {bytes : ByteArray} {maxL : Nat} {ret : Option FieldType} {ws : List Jvm.Cond} {rm : Room} {A : Array Value} {Z : State} {h0 : Heap} {Q : Option Value → Heap → List Loc → Prop} {L0 : Array Slot} {K N : Nat} (hpl : plainFor y = true) (hef : ∀ m, entryFrame m A maxL = mkF m 0 L0 [])
    (body : ∀ (p : Program) (e : Env) (s : State) (m : MethodId) (below : List Frame) (meth : Method) (c : Code) (s₁ : State), Stand p l e rm s m A below meth c s₁ [] 0 0 → p.tables.exec = Jvm.exec → c.code = bytes → c.maxLocals = maxL → s.vm.findClass y.cls = some m.cls → meth.name = y.name → meth.sig.returnType = ret → meth.locks = false → Z.Warmed39 s.vm → s₁.heap = h0 → Go p e below s K N Q m s₁ 0 L0 []) :
    MetFree l y (head1 (Jvm.Cond.code y bytes maxL ret :: ws) rm) (fun a U => a = A ∧ Z.Warmed39 U.vm ∧ U.heap = h0) (fun _ _ _ _ _ => True) (fun _ U o U' => ∃ v L, o = .returned v ∧ Q v U'.heap L ∧ FrameEnd U o U' L K N) := by
  refine MetFree.of_bodySF hpl hisR ?_
  intro p e s m args below meth c s₁ Bd hml0 hP hK
  obtain ⟨rfl, hZ, hh⟩ := hP
  obtain ⟨s₂, o, h1, h2⟩ := body p e s m below meth c s₁ (Stand.of_body Bd) Bd.exec Bd.bytes hml0 (findClass_of_methodNamed Bd.named) (name_of_methodNamed Bd.named Bd.method).1 Bd.returns Bd.notSynchronized hZ (by rw [← hh, Bd.state]; rfl)
  exact ⟨s₂, o, castTop (hef m) h1, h2⟩
end OwnGo
theorem own_and255 (x : Int32) : ¬ nar .char ((x &&& (255 : Int32)).toUInt32.toUInt16.toUInt32.toInt32) < 0 ∧ ¬ (255 : Int32) < nar .char ((x &&& (255 : Int32)).toUInt32.toUInt16.toUInt32.toInt32) := by
  have e1 : nar .char ((x &&& (255 : Int32)).toUInt32.toUInt16.toUInt32.toInt32) = x &&& 255 := by simp only [nar, i2c_mask]
  rw [e1]
  have h := c_mask x 255 8 (by decide) (by decide)
  have e0 : (0 : Int32).toInt = 0 := rfl
  have e2 : (255 : Int32).toInt = 255 := rfl
  simp only [Int32.lt_iff_toInt_lt, h, e0, e2]
  omega
theorem own_c255 (x : Int32) : ¬ (x &&& (255 : Int32)).toUInt32.toUInt16.toUInt32.toInt32 < 0 ∧ ¬ (255 : Int32) < (x &&& (255 : Int32)).toUInt32.toUInt16.toUInt32.toInt32 := by
  rw [i2c_mask]
  have h := c_mask x 255 8 (by decide) (by decide)
  have e0 : (0 : Int32).toInt = 0 := rfl
  have e2 : (255 : Int32).toInt = 255 := rfl
  simp only [Int32.lt_iff_toInt_lt, h, e0, e2]
  omega
theorem own_neArv {Z : State} {h : Heap} {a b : Addr} {k k' : ClassId} {ty ty' : FieldType} {z z' : Int32} {vs vs' : List Value} {d d' : Value} (A : Arv Z h a k ty z vs d) (B : Arv Z h b k' ty' z' vs' d') (hz : z.toNatClampNeg ≠ z'.toNatClampNeg) : a ≠ b := fun e => by
  subst e
  obtain ⟨c, A1, -, A2, -⟩ := A
  obtain ⟨c', B1, -, B2, -⟩ := B
  cases A1.1.symm.trans B1.1
  exact hz (A2.symm.trans B2)
theorem own_oneF {Z : State} {h : Heap} {a : Addr} {C n d : String} {v w : Value} (F : Fld Z h a C n d v) (G : Fld Z h a C n d w) : v = w := by
  obtain ⟨c1, _, _, _, _, h1, h2, -, -, -, -, h7⟩ := F
  obtain ⟨c2, _, _, _, _, g1, g2, -, -, -, -, g7⟩ := G
  cases h1.symm.trans g1; cases h2.symm.trans g2; exact Option.some.inj (h7.symm.trans g7)
section OwnGoH
/-- as Go, where String constants may be loaded: the wide frame, and the invariant of the constants held -/
def GoH (Z : State) (EL : List (String × Nat)) (p : Program) (e : Env) (below : List Frame) (s : State) (k n : Nat) (Q : Option Value → Heap → List Loc → Prop) (m : MethodId) (T : State) (pc : Nat) (L : Array Slot) (S : List Value) : Prop :=
  ∃ s₂ o, Steps p.tables e below (T.setTop (mkF m pc L S)) s₂ ∧ s₂.status = .running ∧ Ended s₂ below o ∧ ∃ v Ls, o = .returned v ∧ Q v s₂.heap Ls ∧ CHr Z EL s.vm s.heap s₂.vm s₂.heap ∧ ReturnedEndW s o s₂ Ls k n
variable {p : Program} {l : Launch} {e : Env} {R : Room} {s : State} {m : MethodId} {args : Array Value} {below : List Frame} {meth : Method} {c : Code} {T T' : State} {locs : List Loc} {cells slots k n k0 : Nat} {Z : State} {a0 : Array Value} {h h0 : Heap} {vm0 : Vm} {EL : List (String × Nat)} {Q : Option Value → Heap → List Loc → Prop} {pc pc' : Nat} {L L' : Array Slot} {S S' : List Value}
theorem GoH.st (h : ∀ t, Steps p.tables e below (T'.setTop (mkF m pc' L' S')) t → Steps p.tables e below (T.setTop (mkF m pc L S)) t) (g : GoH Z EL p e below s k n Q m T' pc' L' S') : GoH Z EL p e below s k n Q m T pc L S := by
  obtain ⟨a, b, c, d⟩ := g; exact ⟨a, b, h _ c, d⟩
theorem GoH.tr (h : Steps p.tables e below (T.setTop (mkF m pc L S)) (T'.setTop (mkF m pc' L' S'))) (g : GoH Z EL p e below s k n Q m T' pc' L' S') : GoH Z EL p e below s k n Q m T pc L S := GoH.st (fun _ q => h.trans q) g
theorem own_upW {s t : State} {o : Outcome} {L : List Loc} {k n k' n' : Nat} (h : ReturnedEndW s o t L k n) (hk : k ≤ k') (hn : n ≤ n') : ReturnedEndW s o t L k' n' := ⟨h.1, h.2.1, h.2.2.1, h.2.2.2.mono hk hn⟩
theorem own_chr (X : Stand p l e R (s.setVm vm0) m args below meth c T locs cells slots) (eT : T.heap = h) (hs0 : s.heap = h0) (hZ : Z.Warmed39 vm0) (hEL : EW Z a0 EL) (CR : CHr Z EL s.vm h0 vm0 h) : CHr Z EL s.vm s.heap T.vm T.heap := by
  rw [eT, hs0]; exact CR.trans (CHv.at X hZ hEL CR.1)
theorem GoH.retV (X : Stand p l e R (s.setVm vm0) m args below meth c T locs cells slots) (hx : p.tables.exec = Jvm.exec) (hlk : meth.locks = false) (hret : meth.sig.returnType = none) (hd : decode c.code pc = .ok (.return_, 1)) (hk : cells ≤ k) (hn : slots ≤ n) (hS : s.Since vm0 k0) (hk0 : k0 ≤ h.size) (eT : T.heap = h) (hs0 : s.heap = h0) (hZ : Z.Warmed39 vm0) (hEL : EW Z a0 EL) (CR : CHr Z EL s.vm h0 vm0 h) (hq : Q none T.heap locs) : GoH Z EL p e below s k n Q m T pc L [] := by
  obtain ⟨fs, hr, hrun, hended, hW⟩ := X.leaveW hS (by rw [eT]; exact hk0) (v := none) (fun _ => rfl) hlk
  have hc := own_chr X eT hs0 hZ hEL CR
  exact ⟨_, _, X.returnOut hx hret hd hr, hrun, hended, _, _, rfl, hq, hc, own_upW hW hk hn⟩
theorem GoH.retN (X : Stand p l e R (s.setVm vm0) m args below meth c T locs cells slots) (hx : p.tables.exec = Jvm.exec) (hlk : meth.locks = false) {t : FieldType} {z : Int32} {rest : List Value} (hret : meth.sig.returnType = some t) (ht : t = .boolean ∨ t = .byte ∨ t = .char ∨ t = .short) (hd : decode c.code pc = .ok (.ireturn, 1)) (hk : cells ≤ k) (hn : slots ≤ n) (hS : s.Since vm0 k0) (hk0 : k0 ≤ h.size) (eT : T.heap = h) (hs0 : s.heap = h0) (hZ : Z.Warmed39 vm0) (hEL : EW Z a0 EL) (CR : CHr Z EL s.vm h0 vm0 h) (hq : Q (some (.int (nar t z))) T.heap locs) : GoH Z EL p e below s k n Q m T pc L (.int z :: rest) := by
  obtain ⟨fs, hr, hrun, hended, hW⟩ := X.leaveW hS (by rw [eT]; exact hk0) (v := some (.int (nar t z))) (fun h => by rw [hret] at h; cases h) hlk
  have hc := own_chr X eT hs0 hZ hEL CR
  exact ⟨_, _, Jvm.RoadKit.retN X hx hret ht hd hr, hrun, hended, _, _, rfl, hq, hc, own_upW hW hk hn⟩
theorem GoH.retO (X : Stand p l e R (s.setVm vm0) m args below meth c T locs cells slots) (hx : p.tables.exec = Jvm.exec) (hlk : meth.locks = false) {t : FieldType} {w : Value} {i : Instr} {rest : List Value} (hret : meth.sig.returnType = some t) (hw : narrow t w = w) (hi : (i = .ireturn ∧ (t = .int ∨ t = .boolean ∨ t = .byte ∨ t = .char ∨ t = .short) ∧ ∃ z, w = .int z) ∨ (i = .lreturn ∧ t = .long ∧ ∃ z, w = .long z) ∨ (i = .dreturn ∧ t = .double ∧ ∃ z, w = .double z) ∨ (i = .freturn ∧ t = .float ∧ ∃ z, w = .float z) ∨ (i = .areturn ∧ t.isReference = true ∧ w.isRef = true)) (hd : decode c.code pc = .ok (i, 1)) (hk : cells ≤ k) (hn : slots ≤ n) (hS : s.Since vm0 k0) (hk0 : k0 ≤ h.size) (eT : T.heap = h) (hs0 : s.heap = h0) (hZ : Z.Warmed39 vm0) (hEL : EW Z a0 EL) (CR : CHr Z EL s.vm h0 vm0 h) (hq : Q (some w) T.heap locs) : GoH Z EL p e below s k n Q m T pc L (w :: rest) := by
  obtain ⟨fs, hr, hrun, hended, hW⟩ := X.leaveW hS (by rw [eT]; exact hk0) (v := some w) (fun h => by rw [hret] at h; cases h) hlk
  have hc := own_chr X eT hs0 hZ hEL CR
  exact ⟨_, _, retOut X hx hret hw hi hd hr, hrun, hended, _, _, rfl, hq, hc, own_upW hW hk hn⟩
theorem own_metH {l : Launch} {y : MethodName} {bytes : ByteArray} {maxL : Nat} {ret : Option FieldType} {ws : List Jvm.Cond} {rm : Room} {A : Array Value} {Z : State} {EL : List (String × Nat)} {h0 : Heap} {Q : Option Value → Heap → List Loc → Prop} {L0 : Array Slot} {K N : Nat} (hpl : plainFor y = true) (hef : ∀ m, entryFrame m A maxL = mkF m 0 L0 [])
    (body : ∀ (p : Program) (e : Env) (s : State) (m : MethodId) (below : List Frame) (meth : Method) (c : Code) (s₁ : State), Stand p l e rm (s.setVm s.vm) m A below meth c s₁ [] 0 0 → p.tables.exec = Jvm.exec → c.code = bytes → c.maxLocals = maxL → (s.setVm s.vm).vm.findClass y.cls = some m.cls → meth.name = y.name → meth.sig.returnType = ret → meth.locks = false → Z.Warmed39 (s.setVm s.vm).vm → s₁.heap = h0 → s.heap = h0 → CHr Z EL s.vm h0 s.vm h0 → s.Since s.vm 0 → 0 ≤ h0.size → GoH Z EL p e below s K N Q m s₁ 0 L0 []) :
    MetFree l y (head1 (Jvm.Cond.code y bytes maxL ret :: ws) rm) (fun a U => a = A ∧ Z.Warmed39 U.vm ∧ U.heap = h0 ∧ CHv Z EL U.vm h0) (fun _ _ _ _ _ => True) (fun _ U o U' => ∃ v L, o = .returned v ∧ Q v U'.heap L ∧ CHr Z EL U.vm U.heap U'.vm U'.heap ∧ ReturnedEndW U o U' L K N) := by
  refine MetFree.of_bodySF hpl hisR ?_
  intro p e s m args below meth c s₁ Bd hml0 hP hK
  obtain ⟨rfl, hZ, hh, hC⟩ := hP
  obtain ⟨s₂, o, h1, h2⟩ := body p e s m below meth c s₁ (Stand.of_body Bd) Bd.exec Bd.bytes hml0 (findClass_of_methodNamed Bd.named) (name_of_methodNamed Bd.named Bd.method).1 Bd.returns Bd.notSynchronized hZ (by rw [← hh, Bd.state]; rfl) hh (CHr.refl hC) ((State.WarmedH.refl s).since 0) (Nat.zero_le _)
  exact ⟨s₂, o, castTop (hef m) h1, h2⟩
theorem own_safeV {x : Addr} {kk : ClassId} {ty : FieldType} {z : Int32} {vs : List Value} {dv : Value} (hal : Z.vm.Alike vm0) (V : Arv Z h x kk ty z vs dv) (ht : ty ≠ .byte) : Safe Z EL vm0 h x := by
  obtain ⟨cl, A, -⟩ := V; exact Safe.arr hal A ht
theorem own_safeS {x : Addr} (hal : Z.vm.Alike vm0) (E : Exa Z h x "java/lang/String") (F : Fld Z h x "java/lang/String" "value" "[B" .null) : Safe Z EL vm0 h x := fun B => by
  obtain ⟨cell, kE, e1, e2, e3, -, -⟩ := E
  obtain ⟨cell', cf, kF, iF, f, f1, f2, f3, f4, f5, f6, f7⟩ := F
  cases e1.symm.trans f1
  obtain ⟨p, -, u, a, -, q, -, G, rfl | rfl⟩ := B
  · cases (show h[q.sa]? = some q.sC from G.ha).symm.trans e1
    obtain ⟨cS, ⟨⟨-, -, -, ⟨c1, k1, i1, g1, -⟩, -, -, -, v1, -⟩, -⟩, -⟩ := G
    obtain ⟨k3, g3, -⟩ := State.fieldFound?_setVm (s := Z) (vm' := vm0) hal f2
    have g4 := (show (Wst Z vm0 h).fieldFound? "java/lang/String" "value" "[B" = _ from g3).symm.trans g1
    simp only [Option.some.injEq, Prod.mk.injEq] at g4
    rw [← g4.2.2.2, f7] at v1
    cases v1
  · cases (show h[q.sd]? = some q.SA from G.hd).symm.trans e1
    obtain ⟨cS, -, -, g1, -⟩ := G
    have g2 : vm0.findClass "[B" = some q.SA.cls := g1
    rw [hal.findClass] at g2
    obtain ⟨k1, q1, q2⟩ := Vm.findClass_spec g2
    obtain ⟨k2, q3, q4⟩ := Vm.findClass_spec e2
    cases q1.symm.trans q3
    exact absurd (q2.symm.trans q4) (by decide)
end OwnGoH
theorem own_wS {Z : State} {a0 : Array Value} (hw : ∀ d ∈ tables_1, d.before a0 Z = true) : ∀ a ∈ Bundle.stringAtoms, a.before a0 Z = true := fun d hd => hw d ((by decide +kernel : ∀ d ∈ Bundle.stringAtoms, d ∈ tables_1) d hd)

def EL : List (String × Nat) := [("java/lang/String", 7)]
theorem own_EW {Z : State} {a0 : Array Value} (hw : ∀ d ∈ tables_1, d.before a0 Z = true) : EW Z a0 EL := (EW.cons (wd hw 94 rfl) (by decide) EW.nil)
def OMet (l : Launch) (y : MethodName) (bs : ByteArray) (ml : Nat) (rt : Option FieldType) (ws : List Jvm.Cond) (rn : Room) (A : Array Value) (Z : State) (h0 : Heap) (Q : Option Value → Heap → List Loc → Prop) : Prop := MetFree l y (head1 (Jvm.Cond.code y bs ml rt :: ws) rn) (fun a U => a = A ∧ Z.Warmed39 U.vm ∧ U.heap = h0) (fun _ _ _ _ _ => True) (fun _ U o W => ∃ v L, o = .returned v ∧ Q v W.heap L ∧ FrameEnd U o W L rn.cells rn.slots)
def OMetH (l : Launch) (y : MethodName) (bs : ByteArray) (ml : Nat) (rt : Option FieldType) (ws : List Jvm.Cond) (rn : Room) (A : Array Value) (Z : State) (h0 : Heap) (Q : Option Value → Heap → List Loc → Prop) : Prop := MetFree l y (head1 (Jvm.Cond.code y bs ml rt :: ws) rn) (fun a U => a = A ∧ Z.Warmed39 U.vm ∧ U.heap = h0 ∧ CHv Z EL U.vm h0) (fun _ _ _ _ _ => True) (fun _ U o W => ∃ v L, o = .returned v ∧ Q v W.heap L ∧ CHr Z EL U.vm U.heap W.vm W.heap ∧ ReturnedEndW U o W L rn.cells rn.slots)
theorem d18_0 : decode jdk_42_method_149_code 0 = .ok (.aload_n 0, 1) := by decide +kernel
theorem d18_1 : decode jdk_42_method_149_code 1 = .ok (.invokespecial 1, 3) := by decide +kernel
theorem d18_4 : decode jdk_42_method_149_code 4 = .ok (.iload_n 3, 1) := by decide +kernel
theorem d18_5 : decode jdk_42_method_149_code 5 = .ok (.ifCond .ne 22, 3) := by decide +kernel
theorem d18_8 : decode jdk_42_method_149_code 8 = .ok (.aload_n 0, 1) := by decide +kernel
theorem d18_9 : decode jdk_42_method_149_code 9 = .ok (.ldc 7, 2) := by decide +kernel
theorem d18_11 : decode jdk_42_method_149_code 11 = .ok (.getfield 9, 3) := by decide +kernel
theorem d18_14 : decode jdk_42_method_149_code 14 = .ok (.putfield 9, 3) := by decide +kernel
theorem d18_17 : decode jdk_42_method_149_code 17 = .ok (.aload_n 0, 1) := by decide +kernel
theorem d18_18 : decode jdk_42_method_149_code 18 = .ok (.ldc 7, 2) := by decide +kernel
theorem d18_20 : decode jdk_42_method_149_code 20 = .ok (.getfield 15, 3) := by decide +kernel
theorem d18_23 : decode jdk_42_method_149_code 23 = .ok (.putfield 15, 3) := by decide +kernel
theorem d18_26 : decode jdk_42_method_149_code 26 = .ok (.return_, 1) := by decide +kernel
theorem pn_0 : plainName "java/lang/String" = true := by first | (simp [plainName, overriddenIn]; done) | decide +kernel
def QE149 (Z : State) (a1 : Addr) (h0 : Heap) (n0 : Nat) (v : Option Value) (h : Heap) (L : List Loc) : Prop := ∃ (t : Addr) (kb : ClassId), v = none ∧ Fr n0 L ∧ Keep h0 h [a1] ∧ Fld Z h a1 "java/lang/String" "coder" "B" (.int 0) ∧ a1 ≠ t ∧ Fld Z h a1 "java/lang/String" "value" "[B" (.ref t) ∧ Arv Z h t kb .byte (0 : Int32) [] (.int (0 : Int32))
def roomE149 : Room := { frames := 1, cells := 4, slots := 8, locals := 12 }
theorem rmE149 (l : Launch) (Z : State) (a0 : Array Value) (hw : ∀ d ∈ tables_1, d.before a0 Z = true) (ws : List Jvm.Cond) (a1 : Addr) (a2 : Addr) (h0 : Heap) (n0 : Nat) (Z0 : n0 ≤ h0.size) (E_a1 : Exa Z h0 a1 "java/lang/String") (g_a1 : n0 ≤ a1) (F_value : Fld Z h0 a1 "java/lang/String" "value" "[B" .null) (F_coder : Fld Z h0 a1 "java/lang/String" "coder" "B" (.int (0 : Int32))) :
    OMetH l (⟨"java/lang/String", "<init>", "([CIILjava/lang/Void;)V"⟩ : MethodName) jdk_42_method_149_code 6 none ws roomE149 #[(.ref a1), (.ref a2), (.int (0 : Int32)), (.int (0 : Int32)), .null] Z h0 (QE149 Z a1 h0 n0) := by
  refine own_metH (Q := (QE149 Z a1 h0 n0)) (L0 := #[.val (.ref a1), .val (.ref a2), .val (.int (0 : Int32)), .val (.int (0 : Int32)), .val .null, .unset]) (plainFor_of_name pn_0) (fun m => by first | (simp [entryFrame, mkF, argsToLocals, Value.category]; done) | rfl) ?_
  intro p e s m below meth c T0 X0 hx hby hml hown hnm hret hlk hZ e0 hs0 CR hS hk
  have N0 := Fr.nil n0
  have K0 := Keep.refl h0 [a1]
  have S_a1 : Safe Z EL s.vm h0 a1 := own_safeS hZ.alike E_a1 F_value
  refine GoH.st (pc' := 1) (S' := [(.ref a1)]) (fun t_ k_ => XS.aloadN X0.here hx rfl (hb hby d18_0) rfl rfl k_) ?_
  obtain ⟨T1, X1, e1, st1⟩ := initO X0 hx hZ hown (wd hw 24 rfl) (wd hw 25 rfl) (wd hw 26 rfl) e0 (g := (mkF m 1 #[.val (.ref a1), .val (.ref a2), .val (.int (0 : Int32)), .val (.int (0 : Int32)), .val .null, .unset] [(.ref a1)])) rfl (by rw [hml]; rfl) rfl (hb hby d18_1) (by decide) (W := 0) (by show 2 * 0 + _ ≤ _; exact Nat.le_of_eq rfl) (by decide)
  refine GoH.st (pc' := 4) (S' := []) st1 ?_
  refine GoH.st (pc' := 5) (S' := [(.int (0 : Int32))]) (fun t_ k_ => XS.iloadN X1.here hx rfl (hb hby d18_4) rfl k_) ?_
  refine GoH.st (pc' := 8) (S' := []) (fun t_ k_ => XS.ifNo X1.here hx rfl (hb hby d18_5) rfl ((if0 _ _).trans (teq (by decide : ((0 : Int32) = (0 : Int32)))).2) k_) ?_
  refine GoH.st (pc' := 9) (S' := [(.ref a1)]) (fun t_ k_ => XS.aloadN X1.here hx rfl (hb hby d18_8) rfl rfl k_) ?_
  obtain ⟨a2_, T2, h2, k2, b2_, c2, X2, e2, E2, hS2, hk2, hZ2, ho2, E_a2_, Fc_a2_, Fv_a2_, V_b2_, lta2, ltb2, CR2, -, Sf2, st2⟩ := ldcCH X1 hx hZ hown (wd hw 94 rfl) (own_wS hw) e1 hS hk (own_EW hw) (by decide : ("java/lang/String", 7) ∈ EL) CR.1 (vs := []) (z := (0 : Int32)) ⟨by decide, by decide⟩ (by decide) rfl (g := (mkF m 9 #[.val (.ref a1), .val (.ref a2), .val (.int (0 : Int32)), .val (.int (0 : Int32)), .val .null, .unset] [(.ref a1)])) rfl (hb hby d18_9) (n := 0) (by decide) (by decide) (by decide) (by decide)
  replace S_a1 := CR2.safe E_a1.lt S_a1
  replace CR := CR.trans CR2
  replace Z0 := Nat.le_trans Z0 E2.1
  replace K0 := K0.ext E2
  replace E_a1 := E_a1.ext E2
  replace F_value := F_value.ext E2
  replace F_coder := F_coder.ext E2
  replace hZ := hZ2
  replace hown := ho2
  replace hS := hS2
  replace hk := hk2
  have ne_a1_a2_ := (Sf2 _ S_a1).1
  have ne_a1_b2_ := (Sf2 _ S_a1).2
  refine GoH.st (pc' := 11) (S' := [(.ref a2_), (.ref a1)]) st2 ?_
  obtain ⟨T3, X3, e3, st3⟩ := getF X2 hx hZ hown (host := "") (Or.inl (wd hw 27 rfl)) Via.refl e2 Fv_a2_ (g := (mkF m 11 #[.val (.ref a1), .val (.ref a2), .val (.int (0 : Int32)), .val (.int (0 : Int32)), .val .null, .unset] [(.ref a2_), (.ref a1)])) rfl rfl (hb hby d18_11)
  refine GoH.st (pc' := 14) (S' := [(.ref b2_), (.ref a1)]) st3 ?_
  obtain ⟨T4, h4, X4, e4, W4, st4⟩ := putF X3 hx hZ hown (host := "") (Or.inl (wd hw 27 rfl)) Via.refl e3 F_value E_a1 (Or.inr ⟨(wd hw 28 rfl), rfl, hnm⟩) (wd hw 15 rfl) (ty := (.array .byte)) (by decide) rfl rfl (g := (mkF m 14 #[.val (.ref a1), .val (.ref a2), .val (.int (0 : Int32)), .val (.int (0 : Int32)), .val .null, .unset] [(.ref b2_), (.ref a1)])) rfl rfl (hb hby d18_14)
  have Sw5 : Safe Z EL T2.vm h2 a1 := S_a1
  replace S_a1 := Safe.wr W4 Sw5 CR.1 S_a1
  replace CR := CR.trans (CHr.wr W4 Sw5 CR.1)
  replace hk := Nat.le_trans hk (Keep.of_wr W4).1
  replace Z0 := Nat.le_trans Z0 (Keep.of_wr W4).1
  replace K0 := K0.wr W4 (Or.inl (List.mem_of_getElem? (i := 0) rfl))
  replace E_a1 := E_a1.wr W4
  replace F_coder := F_coder.other W4 (Or.inr (slot_ne (Or.inr (wd hw 30 rfl)) (Or.inr (wd hw 28 rfl)) (by decide) (t := .byte) (t' := (.array .byte)) (by decide) (by decide)))
  replace E_a2_ := E_a2_.wr W4
  replace Fc_a2_ := Fc_a2_.other W4 (Or.inl (Ne.symm ne_a1_a2_))
  replace Fv_a2_ := Fv_a2_.other W4 (Or.inl (Ne.symm ne_a1_a2_))
  replace V_b2_ := V_b2_.other W4 (Ne.symm ne_a1_b2_)
  replace F_value := F_value.same W4
  have N4 := Fr.snoc X4 N0 g_a1
  refine GoH.st (pc' := 17) (S' := []) st4 ?_
  refine GoH.st (pc' := 18) (S' := [(.ref a1)]) (fun t_ k_ => XS.aloadN X4.here hx rfl (hb hby d18_17) rfl rfl k_) ?_
  obtain ⟨a6_, T6, h6, k6, b6_, c6, X6, e6, E6, hS6, hk6, hZ6, ho6, E_a6_, Fc_a6_, Fv_a6_, V_b6_, lta6, ltb6, CR6, -, Sf6, st6⟩ := ldcCH X4 hx hZ hown (wd hw 94 rfl) (own_wS hw) e4 hS hk (own_EW hw) (by decide : ("java/lang/String", 7) ∈ EL) CR.1 (vs := []) (z := (0 : Int32)) ⟨by decide, by decide⟩ (by decide) rfl (g := (mkF m 18 #[.val (.ref a1), .val (.ref a2), .val (.int (0 : Int32)), .val (.int (0 : Int32)), .val .null, .unset] [(.ref a1)])) rfl (hb hby d18_18) (n := 0) (by decide) (by decide) (by decide) (by decide)
  replace S_a1 := CR6.safe E_a1.lt S_a1
  replace CR := CR.trans CR6
  replace Z0 := Nat.le_trans Z0 E6.1
  replace K0 := K0.ext E6
  replace E_a1 := E_a1.ext E6
  replace F_value := F_value.ext E6
  replace F_coder := F_coder.ext E6
  replace E_a2_ := E_a2_.ext E6
  replace Fc_a2_ := Fc_a2_.ext E6
  replace Fv_a2_ := Fv_a2_.ext E6
  replace V_b2_ := V_b2_.ext E6
  replace hZ := hZ6
  replace hown := ho6
  replace hS := hS6
  replace hk := hk6
  have ne_a1_a6_ := (Sf6 _ S_a1).1
  have ne_a1_b6_ := (Sf6 _ S_a1).2
  refine GoH.st (pc' := 20) (S' := [(.ref a6_), (.ref a1)]) st6 ?_
  obtain ⟨T7, X7, e7, st7⟩ := getF X6 hx hZ hown (host := "") (Or.inl (wd hw 29 rfl)) Via.refl e6 Fc_a6_ (g := (mkF m 20 #[.val (.ref a1), .val (.ref a2), .val (.int (0 : Int32)), .val (.int (0 : Int32)), .val .null, .unset] [(.ref a6_), (.ref a1)])) rfl rfl (hb hby d18_20)
  refine GoH.st (pc' := 23) (S' := [(.int (0 : Int32)), (.ref a1)]) st7 ?_
  obtain ⟨T8, h8, X8, e8, W8, st8⟩ := putFN X7 hx hZ hown (wd hw 29 rfl) Via.refl e7 F_coder E_a1 (Or.inr ⟨(wd hw 30 rfl), rfl, hnm⟩) (wd hw 15 rfl) (ty := .byte) (v' := (.int (0 : Int32))) (by decide) rfl rfl (g := (mkF m 23 #[.val (.ref a1), .val (.ref a2), .val (.int (0 : Int32)), .val (.int (0 : Int32)), .val .null, .unset] [(.int (0 : Int32)), (.ref a1)])) rfl rfl (hb hby d18_23)
  have Sw9 : Safe Z EL T6.vm h6 a1 := S_a1
  replace S_a1 := Safe.wr W8 Sw9 CR.1 S_a1
  replace CR := CR.trans (CHr.wr W8 Sw9 CR.1)
  replace hk := Nat.le_trans hk (Keep.of_wr W8).1
  replace Z0 := Nat.le_trans Z0 (Keep.of_wr W8).1
  replace K0 := K0.wr W8 (Or.inl (List.mem_of_getElem? (i := 0) rfl))
  replace E_a1 := E_a1.wr W8
  replace F_value := F_value.other W8 (Or.inr (slot_ne (Or.inr (wd hw 28 rfl)) (Or.inr (wd hw 30 rfl)) (by decide) (t := (.array .byte)) (t' := .byte) (by decide) (by decide)))
  replace E_a2_ := E_a2_.wr W8
  replace Fc_a2_ := Fc_a2_.other W8 (Or.inl (Ne.symm ne_a1_a2_))
  replace Fv_a2_ := Fv_a2_.other W8 (Or.inl (Ne.symm ne_a1_a2_))
  replace V_b2_ := V_b2_.other W8 (Ne.symm ne_a1_b2_)
  replace E_a6_ := E_a6_.wr W8
  replace Fc_a6_ := Fc_a6_.other W8 (Or.inl (Ne.symm ne_a1_a6_))
  replace Fv_a6_ := Fv_a6_.other W8 (Or.inl (Ne.symm ne_a1_a6_))
  replace V_b6_ := V_b6_.other W8 (Ne.symm ne_a1_b6_)
  replace F_coder := F_coder.same W8
  have N8 := Fr.snoc X8 N4 g_a1
  refine GoH.st (pc' := 26) (S' := []) st8 ?_
  exact GoH.retV X8 hx hlk hret (hb hby d18_26) (by decide) (by decide) hS hk e8 hs0 hZ (own_EW hw) CR (by rw [e8]; exact ⟨b2_, _, rfl, N8, K0, F_coder, ne_a1_b2_, F_value, V_b2_⟩)
theorem d17_0 : decode jdk_42_method_3_code 0 = .ok (.aload_n 0, 1) := by decide +kernel
theorem d17_1 : decode jdk_42_method_3_code 1 = .ok (.aload_n 1, 1) := by decide +kernel
theorem d17_2 : decode jdk_42_method_3_code 2 = .ok (.iconst 0, 1) := by decide +kernel
theorem d17_3 : decode jdk_42_method_3_code 3 = .ok (.aload_n 1, 1) := by decide +kernel
theorem d17_4 : decode jdk_42_method_3_code 4 = .ok (.arraylength, 1) := by decide +kernel
theorem d17_5 : decode jdk_42_method_3_code 5 = .ok (.aconst_null, 1) := by decide +kernel
theorem d17_6 : decode jdk_42_method_3_code 6 = .ok (.invokespecial 27, 3) := by decide +kernel
theorem d17_9 : decode jdk_42_method_3_code 9 = .ok (.return_, 1) := by decide +kernel
theorem pd_0 : parseMethodDescriptor "([CIILjava/lang/Void;)V" = some ⟨[(.array .char), .int, .int, (.object "java/lang/Void")], none⟩ := by decide +kernel
def QE3 (Z : State) (a1 : Addr) (h0 : Heap) (n0 : Nat) (v : Option Value) (h : Heap) (L : List Loc) : Prop := ∃ (t : Addr) (kb : ClassId), v = none ∧ Fr n0 L ∧ Keep h0 h [a1] ∧ Fld Z h a1 "java/lang/String" "coder" "B" (.int 0) ∧ a1 ≠ t ∧ Fld Z h a1 "java/lang/String" "value" "[B" (.ref t) ∧ Arv Z h t kb .byte (0 : Int32) [] (.int (0 : Int32))
def roomE3 : Room := { frames := 2, cells := 4, slots := 8, locals := 29 }
theorem rmE3 (l : Launch) (Z : State) (a0 : Array Value) (hw : ∀ d ∈ tables_1, d.before a0 Z = true) (ws : List Jvm.Cond) (a1 : Addr) (a2 : Addr) (ka : ClassId) (h0 : Heap) (n0 : Nat) (Z0 : n0 ≤ h0.size) (E_a1 : Exa Z h0 a1 "java/lang/String") (g_a1 : n0 ≤ a1) (F_value : Fld Z h0 a1 "java/lang/String" "value" "[B" .null) (F_coder : Fld Z h0 a1 "java/lang/String" "coder" "B" (.int (0 : Int32))) (V_a2 : Arv Z h0 a2 ka .char (0 : Int32) [] (.int (0 : Int32))) (ne12 : a1 ≠ a2) :
    OMetH l (⟨"java/lang/String", "<init>", "([C)V"⟩ : MethodName) jdk_42_method_3_code 2 none ws roomE3 #[(.ref a1), (.ref a2)] Z h0 (QE3 Z a1 h0 n0) := by
  refine own_metH (Q := (QE3 Z a1 h0 n0)) (L0 := #[.val (.ref a1), .val (.ref a2)]) (plainFor_of_name pn_0) (fun m => by first | (simp [entryFrame, mkF, argsToLocals, Value.category]; done) | rfl) ?_
  intro p e s m below meth c T0 X0 hx hby hml hown hnm hret hlk hZ e0 hs0 CR hS hk
  have N0 := Fr.nil n0
  have K0 := Keep.refl h0 [a1]
  have S_a1 : Safe Z EL s.vm h0 a1 := own_safeS hZ.alike E_a1 F_value
  refine GoH.st (pc' := 1) (S' := [(.ref a1)]) (fun t_ k_ => XS.aloadN X0.here hx rfl (hb hby d17_0) rfl rfl k_) ?_
  refine GoH.st (pc' := 2) (S' := [(.ref a2), (.ref a1)]) (fun t_ k_ => XS.aloadN X0.here hx rfl (hb hby d17_1) rfl rfl k_) ?_
  refine GoH.st (pc' := 3) (S' := [(.int (0 : Int32)), (.ref a2), (.ref a1)]) (fun t_ k_ => XS.iconst X0.here hx rfl (hb hby d17_2) k_) ?_
  refine GoH.st (pc' := 4) (S' := [(.ref a2), (.int (0 : Int32)), (.ref a2), (.ref a1)]) (fun t_ k_ => XS.aloadN X0.here hx rfl (hb hby d17_3) rfl rfl k_) ?_
  obtain ⟨cl1, Ar1, -, q1a, q1b, -, -⟩ := id V_a2
  refine GoH.st (pc' := 5) (S' := [(.int (0 : Int32)), (.int (0 : Int32)), (.ref a2), (.ref a1)]) (fun t_ k_ => own_len X0 hx hZ e0 Ar1 q1a q1b (g := (mkF m 4 #[.val (.ref a1), .val (.ref a2)] [(.ref a2), (.int (0 : Int32)), (.ref a2), (.ref a1)])) rfl rfl (hb hby d17_4) t_ k_) ?_
  refine GoH.st (pc' := 6) (S' := [.null, (.int (0 : Int32)), (.int (0 : Int32)), (.ref a2), (.ref a1)]) (fun t_ k_ => XS.aconstNull X0.here hx rfl (hb hby d17_5) k_) ?_
  obtain ⟨_, _, ⟨T2, L2, k2, n2⟩, -, X2, hS2, hg2, ⟨Lc2, hQ2, l2, y2, z2, CR2⟩, st2⟩ := X0.specialBackS hx (y := (⟨"java/lang/String", "<init>", "([CIILjava/lang/Void;)V"⟩ : MethodName)) rfl hown (mvT hZ (wd hw 81 rfl)) (mvT hZ (wd hw 82 rfl)) (mvT hZ (wd hw 83 rfl)) (by decide) (backOfSH (W := 0) (rmE149 l Z a0 hw [] a1 a2 h0 n0 Z0 E_a1 g_a1 F_value F_coder) hZ (wd hw 83 rfl) (wd hw 7 rfl) (by decide) (by decide) (own_EW hw) CR.1) (g := (mkF m 6 #[.val (.ref a1), .val (.ref a2)] [.null, (.int (0 : Int32)), (.int (0 : Int32)), (.ref a2), (.ref a1)])) rfl (by rw [hml]; rfl) (Steps.refl _) (a := a1) (argsL := [(.ref a2), (.int (0 : Int32)), (.int (0 : Int32)), .null]) (rest := []) (lenOf pd_0 rfl) rfl (by show 2 * 0 + _ ≤ _; exact Nat.le_of_eq rfl) (hb hby d17_6) (fun _ _ => ⟨rfl, e0, (by decide : 0 + 4 ≤ _), (by decide : 0 + 8 ≤ _)⟩)
  dsimp only [Pt.U, Pt.locs, Pt.cells, Pt.slots] at X2 l2 y2 z2 st2 hQ2 hS2 hg2 CR2
  subst l2 y2 z2
  replace X2 : Stand p l e _ (s.setVm T2.vm) m _ below meth c T2 _ _ _ := X2
  replace hS := foldS hS (T := T0) (Nat.le_trans hk (Nat.le_of_eq (congrArg Array.size e0.symm))) hS2 hg2
  replace hk := Nat.le_refl T2.heap.size
  replace hZ : Z.Warmed39 (s.setVm T2.vm).vm := State.Warmed39.trans (t := s.setVm s.vm) hZ hS2.1
  replace hown : (s.setVm T2.vm).vm.findClass "java/lang/String" = some m.cls := by rw [show (s.setVm T2.vm).vm = T2.vm from rfl, hS2.1.alike.findClass]; exact hown
  obtain ⟨t2, kb2, rfl, N2q, K2, Co2, nt2, Va2, Ay2⟩ := hQ2
  have N2 := Fr.app N0 N2q
  obtain ⟨h2, e2⟩ : ∃ z, T2.heap = z := ⟨_, rfl⟩
  rw [e2] at K2 Co2 Va2 Ay2 CR2
  replace S_a1 := CR2.safe E_a1.lt S_a1
  replace CR := CR.trans CR2
  replace Z0 := Nat.le_trans Z0 K2.1
  replace K0 := K0.trans K2 (allS (Or.inl (List.mem_of_getElem? (i := 0) rfl)) all0)
  replace E_a1 := E_a1.keep K2
  replace V_a2 := V_a2.keep K2 (ninS (Ne.symm ne12) nin0)
  replace hk : T2.heap.size ≤ h2.size := Nat.le_of_eq (congrArg Array.size e2)
  refine GoH.tr (pc' := 9) (S' := []) st2 ?_
  exact GoH.retV X2 hx hlk hret (hb hby d17_9) (by decide) (by decide) hS hk e2 hs0 hZ (own_EW hw) CR (by rw [e2]; exact ⟨t2, _, rfl, N2, K0, Co2, nt2, Va2, Ay2⟩)
section OwnArr
theorem own_tn {i : Nat} (h : i < 2147483648) : i.toInt32.toNatClampNeg = i := by
  simp only [Int32.toNatClampNeg, len_toInt (n := i) h]; rfl
theorem own_inb {c : Cell} {z : Int32} {i N : Nat} (S : c.slots.size = z.toNatClampNeg) (hz : z.toNatClampNeg = N) (hi : i < N) (hN : N < 2147483648) : ¬ (i.toInt32 < 0 ∨ c.slots.size ≤ i.toInt32.toNatClampNeg) := by
  rw [S, hz]; exact idx_in hi hN
theorem own_getI (M : List Int32) (i : Nat) : (M.map Value.int).getD i (.int 0) = .int (M.getD i 0) := by
  simp only [List.getD_eq_getElem?_getD, List.getElem?_map]; cases M[i]? <;> rfl
theorem own_getD (M : List UInt64) (i : Nat) : (M.map Value.double).getD i (.double 0) = .double (M.getD i 0) := by
  simp only [List.getD_eq_getElem?_getD, List.getElem?_map]; cases M[i]? <;> rfl
theorem own_atI (M : List Int32) {i : Nat} (h : i < 2147483648) : (M.map Value.int).getD i.toInt32.toNatClampNeg (.int 0) = .int (M.getD i 0) := by rw [own_tn h, own_getI]
theorem own_atD (M : List UInt64) {i : Nat} (h : i < 2147483648) : (M.map Value.double).getD i.toInt32.toNatClampNeg (.double 0) = .double (M.getD i 0) := by rw [own_tn h, own_getD]
theorem own_setI (M : List Int32) (i : Nat) (v : Int32) : (M.map Value.int).set i (.int v) = (M.set i v).map Value.int := by rw [List.map_set]
theorem own_setD (M : List UInt64) (i : Nat) (v : UInt64) : (M.map Value.double).set i (.double v) = (M.set i v).map Value.double := by rw [List.map_set]
theorem own_next {n : Nat} (h : n < 2147483647) : n.toInt32 + 1 = (n + 1).toInt32 := by
  apply Int32.toInt_inj.mp
  have h1 := c_iadd n.toInt32 1
  rw [len_toInt (n := n) (by omega)] at h1
  rw [len_toInt (n := n + 1) (by omega)]
  have h2 := rng32 (n.toInt32 + 1)
  have e1 : (1 : Int32).toInt = 1 := rfl
  omega
theorem own_inj {m n : Nat} (hm : m < 2147483648) (hn : n < 2147483648) : m.toInt32 = n.toInt32 ↔ m = n := by
  rw [← Int32.toInt_inj, len_toInt (n := m) hm, len_toInt (n := n) hn]; omega
theorem own_ltI {m n : Nat} (hm : m < 2147483648) (hn : n < 2147483648) : m.toInt32 < n.toInt32 ↔ m < n := by
  rw [Int32.lt_iff_toInt_lt, len_toInt (n := m) hm, len_toInt (n := n) hn]; omega
end OwnArr

def own_lo (x : Int32) : Int32 := ((x >>> ((0 : Int32) &&& 31)).toInt8.toInt32).toInt8.toInt32
def own_hi (x : Int32) : Int32 := ((x >>> ((8 : Int32) &&& 31)).toInt8.toInt32).toInt8.toInt32
def own_gv (u w : Int32) : Int32 := (((u &&& (255 : Int32)) <<< ((0 : Int32) &&& 31)) ||| ((w &&& (255 : Int32)) <<< ((8 : Int32) &&& 31))).toUInt32.toUInt16.toUInt32.toInt32
theorem own_gc (x : Int32) (h0 : ¬ x < 0) (h1 : ¬ (65535 : Int32) < x) : own_gv (own_lo x) (own_hi x) = x := by
  have e0 : (0 : Int32).toInt = 0 := rfl
  have e1 : (65535 : Int32).toInt = 65535 := rfl
  rw [Int32.lt_iff_toInt_lt] at h0 h1
  unfold own_gv own_lo own_hi
  have a1 := c_ishr x 0 0 (by decide)
  have a2 := c_i2b (x >>> ((0 : Int32) &&& 31))
  have a3 := c_i2b ((x >>> ((0 : Int32) &&& 31)).toInt8.toInt32)
  have a4 := c_mask (((x >>> ((0 : Int32) &&& 31)).toInt8.toInt32).toInt8.toInt32) 255 8 (by decide) (by decide)
  have a5 := c_ishl ((((x >>> ((0 : Int32) &&& 31)).toInt8.toInt32).toInt8.toInt32) &&& 255) 0 0 (by decide)
  have b1 := c_ishr x 8 8 (by decide)
  have b2 := c_i2b (x >>> ((8 : Int32) &&& 31))
  have b3 := c_i2b ((x >>> ((8 : Int32) &&& 31)).toInt8.toInt32)
  have b4 := c_mask (((x >>> ((8 : Int32) &&& 31)).toInt8.toInt32).toInt8.toInt32) 255 8 (by decide) (by decide)
  have b5 := c_ishl ((((x >>> ((8 : Int32) &&& 31)).toInt8.toInt32).toInt8.toInt32) &&& 255) 8 8 (by decide)
  generalize ((((x >>> ((0 : Int32) &&& 31)).toInt8.toInt32).toInt8.toInt32) &&& 255) <<< ((0 : Int32) &&& 31) = A at *
  generalize ((((x >>> ((8 : Int32) &&& 31)).toInt8.toInt32).toInt8.toInt32) &&& 255) <<< ((8 : Int32) &&& 31) = B at *
  have rA := rng32 A
  have rB := rng32 B
  simp only [Nat.reducePow, Int.natCast_one, Int.cast_ofNat_Int] at a1 a4 a5 b1 b4 b5
  have hA : A.toInt = x.toInt % 256 := by omega
  have hB : B.toInt = x.toInt / 256 * 256 := by omega
  have o := c_or B A 8 (by decide) 256 rfl (by omega) (by omega) (by omega)
  rw [Int32.or_comm A B]
  have c := c_i2c (B ||| A)
  apply Int32.toInt_inj.mp
  omega
theorem own_nch0 (x : Int32) (h0 : ¬ x < 0) (h1 : ¬ (65535 : Int32) < x) : nar .char x = x := by
  have e0 : (0 : Int32).toInt = 0 := rfl
  have e1 : (65535 : Int32).toInt = 65535 := rfl
  rw [Int32.lt_iff_toInt_lt] at h0 h1
  simp only [nar]
  have c := c_i2c x
  apply Int32.toInt_inj.mp
  omega
theorem own_lc (x : Int32) (h0 : ¬ x < 0) (h1 : ¬ (255 : Int32) < x) : ((x.toInt8.toInt32) &&& (255 : Int32)).toUInt32.toUInt16.toUInt32.toInt32 = x := by
  have e0 : (0 : Int32).toInt = 0 := rfl
  have e1 : (255 : Int32).toInt = 255 := rfl
  rw [Int32.lt_iff_toInt_lt] at h0 h1
  have a2 := c_i2b x
  have a4 := c_mask (x.toInt8.toInt32) 255 8 (by decide) (by decide)
  have c := c_i2c ((x.toInt8.toInt32) &&& (255 : Int32))
  simp only [Nat.reducePow, Int.natCast_one, Int.cast_ofNat_Int] at a4
  apply Int32.toInt_inj.mp
  omega
theorem own_b2 (x : Int32) : (x.toInt8.toInt32).toInt8.toInt32 = x.toInt8.toInt32 := by
  have a2 := c_i2b x
  have a3 := c_i2b (x.toInt8.toInt32)
  apply Int32.toInt_inj.mp
  omega
theorem own_chb (x : Int32) : (¬ (nar .char x) < 0) ∧ ¬ (65535 : Int32) < nar .char x := by
  have e0 : (0 : Int32).toInt = 0 := rfl
  have e1 : (65535 : Int32).toInt = 65535 := rfl
  simp only [Int32.lt_iff_toInt_lt, nar]
  have c := c_i2c x
  omega

theorem own_nnN {i : Nat} (h : i < 2147483648) : ¬ i.toInt32 < 0 := by
  rw [Int32.lt_iff_toInt_lt, len_toInt (n := i) h]; have e0 : (0 : Int32).toInt = 0 := rfl; omega
def own_ST (Z : State) (gC : Int32) (fm : Value) : Prop := (Sta Z Z.heap "java/lang/String" "COMPACT_STRINGS" "Z" (.int gC)) ∧ (¬ (gC = (0 : Int32))) ∧ (fm.isRef = true) ∧ (Sta Z Z.heap "jdk/internal/util/Preconditions" "SIOOBE_FORMATTER" "Ljava/util/function/BiFunction;" fm) ∧ (Sta Z Z.heap "java/lang/StringUTF16" "$assertionsDisabled" "Z" (.int (1 : Int32))) ∧ (Sta Z Z.heap "java/lang/StringUTF16" "HI_BYTE_SHIFT" "I" (.int (0 : Int32))) ∧ (Sta Z Z.heap "java/lang/StringUTF16" "LO_BYTE_SHIFT" "I" (.int (8 : Int32)))
def own_bd (x : Int32) : Prop := ¬ x < 0 ∧ ¬ (65535 : Int32) < x
def SegH (Z : State) (n0 : Nat) (h0 hh : Heap) (rn : Room) (ce sl : Nat) (bs : ByteArray) (ml : Nat) (ow nme : String) (rt : Option FieldType) (Q : Option Value → Heap → List Loc → Prop) (pc : Nat) (L : Array Slot) (S : List Value) : Prop :=
  ∀ {p : Program} {l : Launch} {e : Env} {s : State} {m : MethodId} {args : Array Value} {below : List Frame} {meth : Method} {c : Code} {T0 : State} {locs : List Loc} {a0 : Array Value} {k0 : Nat} {vm0 : Vm}
    (_ : Stand p l e rn (s.setVm vm0) m args below meth c T0 locs ce sl) (_ : p.tables.exec = Jvm.exec) (_ : Z.Warmed39 (s.setVm vm0).vm) (_ : ∀ d ∈ tables_1, d.before a0 Z = true) (_ : c.code = bs) (_ : c.maxLocals = ml) (_ : (s.setVm vm0).vm.findClass ow = some m.cls) (_ : meth.name = nme) (_ : meth.sig.returnType = rt) (_ : meth.locks = false) (_ : T0.heap = hh) (_ : s.heap = h0) (_ : CHr Z EL s.vm h0 vm0 hh) (_ : s.Since vm0 k0) (_ : k0 ≤ hh.size) (_ : Fr n0 locs),
    GoH Z EL p e below s rn.cells rn.slots Q m T0 pc L S
theorem own_and {a b d e : Int32} (h : a = b) (g : d = e) : a &&& d = b &&& e := by subst h; subst g; rfl
def own_dg (x : Int32) : Int32 := if x < 48 ∨ (57 : Int32) < x then 0 else 1
theorem own_dg01 (x : Int32) : own_dg x = 0 ∨ own_dg x = 1 := by unfold own_dg; split <;> simp
theorem own_dgA {x : Int32} (h : x < 48) : own_dg x = 0 := if_pos (Or.inl h)
theorem own_dgB {x : Int32} (h : (57 : Int32) < x) : own_dg x = 0 := if_pos (Or.inr h)
theorem own_dgC {x : Int32} (h : ¬ x < 48) (g : ¬ (57 : Int32) < x) : own_dg x = 1 := if_neg (fun z => z.elim h g)
def own_are (ac k mi ma : Int32) : Int32 := if ac = 0 then 0 else if k < mi then 0 else if ma < k then 0 else 1
theorem own_m3 (x : Int32) : x &&& (3 : Int32) = 0 ∨ x &&& (3 : Int32) = 1 ∨ x &&& (3 : Int32) = 2 ∨ x &&& (3 : Int32) = 3 := by
  have h := c_mask x 3 2 (by decide) (by decide)
  simp only [← Int32.toInt_inj, h]
  have e0 : (0 : Int32).toInt = 0 := rfl
  have e1 : (1 : Int32).toInt = 1 := rfl
  have e2 : (2 : Int32).toInt = 2 := rfl
  have e3 : (3 : Int32).toInt = 3 := rfl
  omega
def own_CS0 (Z : State) (h : Heap) (a : Addr)  : Prop := Exa Z h a "java/lang/String" ∧ ∃ (t : Addr) (kt : ClassId), (Fld Z h a "java/lang/String" "coder" "B" (.int (0 : Int32)) ∧ Fld Z h a "java/lang/String" "value" "[B" (.ref t) ∧ Arv Z h t kt .byte (0 : Int32) [] (.int (0 : Int32)))
theorem own_CS0.exa {Z : State} {h : Heap} {a : Addr}  (C : own_CS0 Z h a ) : Exa Z h a "java/lang/String" := C.1
theorem own_CS0.ext {Z : State} {h h' : Heap} {a : Addr}  (C : own_CS0 Z h a ) (E : Ext h h') : own_CS0 Z h' a  := by
  obtain ⟨p0, t, kt, p1, p2, p3⟩ := C
  exact ⟨p0.ext E, t, kt, p1.ext E, p2.ext E, p3.ext E⟩
theorem own_CS0.keep {Z : State} {h h' : Heap} {a : Addr}  (C : own_CS0 Z h a ) (K : Keep h h' []) : own_CS0 Z h' a  := by
  obtain ⟨p0, t, kt, p1, p2, p3⟩ := C
  exact ⟨p0.keep K, t, kt, p1.keep K nin0, p2.keep K nin0, p3.keep K nin0⟩
def own_CS1 (Z : State) (h : Heap) (a : Addr) (x0 : Int32) : Prop := Exa Z h a "java/lang/String" ∧ ∃ (t : Addr) (kt : ClassId), ((Fld Z h a "java/lang/String" "coder" "B" (.int (0 : Int32)) ∧ Fld Z h a "java/lang/String" "value" "[B" (.ref t) ∧ Arv Z h t kt .byte (1 : Int32) [(.int (x0.toInt8.toInt32))] (.int (0 : Int32)) ∧ ¬ (255 : Int32) < x0 ∧ True) ∨ (Fld Z h a "java/lang/String" "coder" "B" (.int (1 : Int32)) ∧ Fld Z h a "java/lang/String" "value" "[B" (.ref t) ∧ Arv Z h t kt .byte (2 : Int32) [(.int (own_lo x0)), (.int (own_hi x0))] (.int (0 : Int32))))
theorem own_CS1.exa {Z : State} {h : Heap} {a : Addr} {x0 : Int32} (C : own_CS1 Z h a x0) : Exa Z h a "java/lang/String" := C.1
theorem own_CS1.ext {Z : State} {h h' : Heap} {a : Addr} {x0 : Int32} (C : own_CS1 Z h a x0) (E : Ext h h') : own_CS1 Z h' a x0 := by
  obtain ⟨p0, t, kt, ⟨p1, p2, p3, p4⟩ | ⟨p1, p2, p3⟩⟩ := C
  · exact ⟨p0.ext E, t, kt, Or.inl ⟨p1.ext E, p2.ext E, p3.ext E, p4⟩⟩
  · exact ⟨p0.ext E, t, kt, Or.inr ⟨p1.ext E, p2.ext E, p3.ext E⟩⟩
theorem own_CS1.keep {Z : State} {h h' : Heap} {a : Addr} {x0 : Int32} (C : own_CS1 Z h a x0) (K : Keep h h' []) : own_CS1 Z h' a x0 := by
  obtain ⟨p0, t, kt, ⟨p1, p2, p3, p4⟩ | ⟨p1, p2, p3⟩⟩ := C
  · exact ⟨p0.keep K, t, kt, Or.inl ⟨p1.keep K nin0, p2.keep K nin0, p3.keep K nin0, p4⟩⟩
  · exact ⟨p0.keep K, t, kt, Or.inr ⟨p1.keep K nin0, p2.keep K nin0, p3.keep K nin0⟩⟩
def own_CS2 (Z : State) (h : Heap) (a : Addr) (x0 x1 : Int32) : Prop := Exa Z h a "java/lang/String" ∧ ∃ (t : Addr) (kt : ClassId), ((Fld Z h a "java/lang/String" "coder" "B" (.int (0 : Int32)) ∧ Fld Z h a "java/lang/String" "value" "[B" (.ref t) ∧ Arv Z h t kt .byte (2 : Int32) [(.int (x0.toInt8.toInt32)), (.int (x1.toInt8.toInt32))] (.int (0 : Int32)) ∧ ¬ (255 : Int32) < x0 ∧ ¬ (255 : Int32) < x1 ∧ True) ∨ (Fld Z h a "java/lang/String" "coder" "B" (.int (1 : Int32)) ∧ Fld Z h a "java/lang/String" "value" "[B" (.ref t) ∧ Arv Z h t kt .byte (4 : Int32) [(.int (own_lo x0)), (.int (own_hi x0)), (.int (own_lo x1)), (.int (own_hi x1))] (.int (0 : Int32))))
theorem own_CS2.exa {Z : State} {h : Heap} {a : Addr} {x0 x1 : Int32} (C : own_CS2 Z h a x0 x1) : Exa Z h a "java/lang/String" := C.1
theorem own_CS2.ext {Z : State} {h h' : Heap} {a : Addr} {x0 x1 : Int32} (C : own_CS2 Z h a x0 x1) (E : Ext h h') : own_CS2 Z h' a x0 x1 := by
  obtain ⟨p0, t, kt, ⟨p1, p2, p3, p4⟩ | ⟨p1, p2, p3⟩⟩ := C
  · exact ⟨p0.ext E, t, kt, Or.inl ⟨p1.ext E, p2.ext E, p3.ext E, p4⟩⟩
  · exact ⟨p0.ext E, t, kt, Or.inr ⟨p1.ext E, p2.ext E, p3.ext E⟩⟩
theorem own_CS2.keep {Z : State} {h h' : Heap} {a : Addr} {x0 x1 : Int32} (C : own_CS2 Z h a x0 x1) (K : Keep h h' []) : own_CS2 Z h' a x0 x1 := by
  obtain ⟨p0, t, kt, ⟨p1, p2, p3, p4⟩ | ⟨p1, p2, p3⟩⟩ := C
  · exact ⟨p0.keep K, t, kt, Or.inl ⟨p1.keep K nin0, p2.keep K nin0, p3.keep K nin0, p4⟩⟩
  · exact ⟨p0.keep K, t, kt, Or.inr ⟨p1.keep K nin0, p2.keep K nin0, p3.keep K nin0⟩⟩
def own_CS3 (Z : State) (h : Heap) (a : Addr) (x0 x1 x2 : Int32) : Prop := Exa Z h a "java/lang/String" ∧ ∃ (t : Addr) (kt : ClassId), ((Fld Z h a "java/lang/String" "coder" "B" (.int (0 : Int32)) ∧ Fld Z h a "java/lang/String" "value" "[B" (.ref t) ∧ Arv Z h t kt .byte (3 : Int32) [(.int (x0.toInt8.toInt32)), (.int (x1.toInt8.toInt32)), (.int (x2.toInt8.toInt32))] (.int (0 : Int32)) ∧ ¬ (255 : Int32) < x0 ∧ ¬ (255 : Int32) < x1 ∧ ¬ (255 : Int32) < x2 ∧ True) ∨ (Fld Z h a "java/lang/String" "coder" "B" (.int (1 : Int32)) ∧ Fld Z h a "java/lang/String" "value" "[B" (.ref t) ∧ Arv Z h t kt .byte (6 : Int32) [(.int (own_lo x0)), (.int (own_hi x0)), (.int (own_lo x1)), (.int (own_hi x1)), (.int (own_lo x2)), (.int (own_hi x2))] (.int (0 : Int32))))
theorem own_CS3.exa {Z : State} {h : Heap} {a : Addr} {x0 x1 x2 : Int32} (C : own_CS3 Z h a x0 x1 x2) : Exa Z h a "java/lang/String" := C.1
theorem own_CS3.ext {Z : State} {h h' : Heap} {a : Addr} {x0 x1 x2 : Int32} (C : own_CS3 Z h a x0 x1 x2) (E : Ext h h') : own_CS3 Z h' a x0 x1 x2 := by
  obtain ⟨p0, t, kt, ⟨p1, p2, p3, p4⟩ | ⟨p1, p2, p3⟩⟩ := C
  · exact ⟨p0.ext E, t, kt, Or.inl ⟨p1.ext E, p2.ext E, p3.ext E, p4⟩⟩
  · exact ⟨p0.ext E, t, kt, Or.inr ⟨p1.ext E, p2.ext E, p3.ext E⟩⟩
theorem own_CS3.keep {Z : State} {h h' : Heap} {a : Addr} {x0 x1 x2 : Int32} (C : own_CS3 Z h a x0 x1 x2) (K : Keep h h' []) : own_CS3 Z h' a x0 x1 x2 := by
  obtain ⟨p0, t, kt, ⟨p1, p2, p3, p4⟩ | ⟨p1, p2, p3⟩⟩ := C
  · exact ⟨p0.keep K, t, kt, Or.inl ⟨p1.keep K nin0, p2.keep K nin0, p3.keep K nin0, p4⟩⟩
  · exact ⟨p0.keep K, t, kt, Or.inr ⟨p1.keep K nin0, p2.keep K nin0, p3.keep K nin0⟩⟩
theorem d3_0 : decode jdk_43_method_3_code 0 = .ok (.iload_n 0, 1) := by decide +kernel
theorem d3_1 : decode jdk_43_method_3_code 1 = .ok (.sipush 255, 3) := by decide +kernel
theorem d3_4 : decode jdk_43_method_3_code 4 = .ok (.if_icmp .gt 7, 3) := by decide +kernel
theorem d3_7 : decode jdk_43_method_3_code 7 = .ok (.iconst 1, 1) := by decide +kernel
theorem d3_8 : decode jdk_43_method_3_code 8 = .ok (.goto 4, 3) := by decide +kernel
theorem d3_12 : decode jdk_43_method_3_code 12 = .ok (.ireturn, 1) := by decide +kernel
theorem pn_1 : plainName "java/lang/StringLatin1" = true := by first | (simp [plainName, overriddenIn]; done) | decide +kernel
def Q3 (Z : State) (c1 : Int32) (h0 : Heap) (n0 : Nat) (v : Option Value) (h : Heap) (L : List Loc) : Prop := v = some (.int 1) ∧ Fr n0 L ∧ h = h0
def room3 : Room := { frames := 0, cells := 0, slots := 0, locals := 0 }
theorem rm3 (l : Launch) (Z : State) (a0 : Array Value) (hw : ∀ d ∈ tables_1, d.before a0 Z = true) (ws : List Jvm.Cond) (c1 : Int32) (h0 : Heap) (n0 : Nat) (Z0 : n0 ≤ h0.size) (hc : ¬ c1 < 0 ∧ ¬ (255 : Int32) < c1) :
    OMet l (⟨"java/lang/StringLatin1", "canEncode", "(C)Z"⟩ : MethodName) jdk_43_method_3_code 1 (some .boolean) ws room3 #[(.int c1)] Z h0 (Q3 Z c1 h0 n0) := by
  refine own_met (Q := (Q3 Z c1 h0 n0)) (L0 := #[.val (.int c1)]) (plainFor_of_name pn_1) (fun m => by first | (simp [entryFrame, mkF, argsToLocals, Value.category]; done) | rfl) ?_
  intro p e s m below meth c T0 X0 hx hby hml hown hnm hret hlk hZ e0
  have N0 := Fr.nil n0
  refine Go.st (pc' := 1) (S' := [(.int c1)]) (fun t_ k_ => XS.iloadN X0.here hx rfl (hb hby d3_0) rfl k_) ?_
  refine Go.st (pc' := 4) (S' := [(.int (255 : Int32)), (.int c1)]) (fun t_ k_ => XS.sipush X0.here hx rfl (hb hby d3_1) k_) ?_
  refine Go.st (pc' := 7) (S' := []) (fun t_ k_ => XS.icmpNo X0.here hx rfl (hb hby d3_4) rfl (flt (hc.2 : ¬ ((255 : Int32) < c1))).2.2.1 k_) ?_
  refine Go.st (pc' := 8) (S' := [(.int (1 : Int32))]) (fun t_ k_ => XS.iconst X0.here hx rfl (hb hby d3_7) k_) ?_
  refine Go.st (pc' := 12) (S' := [(.int (1 : Int32))]) (fun t_ k_ => XS.goto X0.here hx rfl (pc0 := 8) (pc' := 12) rfl (hb hby d3_8) (by decide) (by decide) k_) ?_
  exact Go.retN X0 hx hlk hret (by simp) (hb hby d3_12) (by decide) (by decide) (by rw [e0]; exact ⟨rfl, N0, rfl⟩)
theorem d4_0 : decode jdk_43_method_46_code 0 = .ok (.iconst 1, 1) := by decide +kernel
theorem d4_1 : decode jdk_43_method_46_code 1 = .ok (.newarray .byte, 2) := by decide +kernel
theorem d4_3 : decode jdk_43_method_46_code 3 = .ok (.dup, 1) := by decide +kernel
theorem d4_4 : decode jdk_43_method_46_code 4 = .ok (.iconst 0, 1) := by decide +kernel
theorem d4_5 : decode jdk_43_method_46_code 5 = .ok (.iload_n 0, 1) := by decide +kernel
theorem d4_6 : decode jdk_43_method_46_code 6 = .ok (.i2b, 1) := by decide +kernel
theorem d4_7 : decode jdk_43_method_46_code 7 = .ok (.bastore, 1) := by decide +kernel
theorem d4_8 : decode jdk_43_method_46_code 8 = .ok (.areturn, 1) := by decide +kernel
def Q4 (Z : State) (c1 : Int32) (h0 : Heap) (n0 : Nat) (v : Option Value) (h : Heap) (L : List Loc) : Prop := ∃ (b : Addr) (kb : ClassId), v = some (.ref b) ∧ Fr n0 L ∧ Keep h0 h [] ∧ n0 ≤ b ∧ h0.size ≤ b ∧ Arv Z h b kb .byte (1 : Int32) [(.int ((c1.toInt8.toInt32).toInt8.toInt32))] (.int (0 : Int32))
def room4 : Room := { frames := 0, cells := 1, slots := 1, locals := 0 }
theorem rm4 (l : Launch) (Z : State) (a0 : Array Value) (hw : ∀ d ∈ tables_1, d.before a0 Z = true) (ws : List Jvm.Cond) (c1 : Int32) (h0 : Heap) (n0 : Nat) (Z0 : n0 ≤ h0.size)  :
    OMet l (⟨"java/lang/StringLatin1", "toBytes", "(C)[B"⟩ : MethodName) jdk_43_method_46_code 1 (some (.array .byte)) ws room4 #[(.int c1)] Z h0 (Q4 Z c1 h0 n0) := by
  refine own_met (Q := (Q4 Z c1 h0 n0)) (L0 := #[.val (.int c1)]) (plainFor_of_name pn_1) (fun m => by first | (simp [entryFrame, mkF, argsToLocals, Value.category]; done) | rfl) ?_
  intro p e s m below meth c T0 X0 hx hby hml hown hnm hret hlk hZ e0
  have N0 := Fr.nil n0
  have K0 := Keep.refl h0 []
  refine Go.st (pc' := 1) (S' := [(.int (1 : Int32))]) (fun t_ k_ => XS.iconst X0.here hx rfl (hb hby d4_0) k_) ?_
  obtain ⟨T1, h1, k1, X1, e1, E1, A1, st1⟩ := newP X0 hx hZ (wd hw 19 rfl) e0 (g := (mkF m 1 #[.val (.int c1)] [(.int (1 : Int32))])) rfl (hb hby d4_1) rfl (by decide) (cap := 1) (by decide) (by decide) (by decide) (by decide)
  obtain ⟨b1, g1⟩ : ∃ z, z = h0.size := ⟨_, rfl⟩
  rw [← g1] at A1 st1
  have g_b1 : n0 ≤ b1 := Nat.le_trans Z0 (Nat.le_of_eq g1.symm)
  have sz_b1 : h0.size ≤ b1 := Nat.le_trans K0.1 (Nat.le_of_eq g1.symm)
  replace Z0 := Nat.le_trans Z0 E1.1
  replace K0 := K0.ext E1
  have V_b1 : Arv Z h1 b1 k1 .byte (1 : Int32) [(.int (0 : Int32))] (.int (0 : Int32)) := (Arv.new A1 (by decide)).pad (pad_rep [] (.int (0 : Int32)) 1)
  refine Go.st (pc' := 3) (S' := [(.ref b1)]) st1 ?_
  refine Go.st (pc' := 4) (S' := [(.ref b1), (.ref b1)]) (fun t_ k_ => XS.dup X1.here hx rfl (hb hby d4_3) rfl rfl k_) ?_
  refine Go.st (pc' := 5) (S' := [(.int (0 : Int32)), (.ref b1), (.ref b1)]) (fun t_ k_ => XS.iconst X1.here hx rfl (hb hby d4_4) k_) ?_
  refine Go.st (pc' := 6) (S' := [(.int c1), (.int (0 : Int32)), (.ref b1), (.ref b1)]) (fun t_ k_ => XS.iloadN X1.here hx rfl (hb hby d4_5) rfl k_) ?_
  refine Go.st (pc' := 7) (S' := [(.int (c1.toInt8.toInt32)), (.int (0 : Int32)), (.ref b1), (.ref b1)]) (fun t_ k_ => XS.i2b X1.here hx rfl (hb hby d4_6) rfl k_) ?_
  obtain ⟨cl2, Ar2, q21, q22, q23, q24, q25⟩ := V_b1
  obtain ⟨T2, h2, X2, e2, W2, st2⟩ := stB X1 hx hZ e1 Ar2 (j := (0 : Int32)) (inb_of q22 ⟨by decide, by decide⟩) (g := (mkF m 7 #[.val (.int c1)] [(.int (c1.toInt8.toInt32)), (.int (0 : Int32)), (.ref b1), (.ref b1)])) rfl rfl (hb hby d4_7)
  replace V_b1 := Arv.set Ar2 q21 q22 q23 q24 q25 (fits_nar_byte _) W2 0 rfl (Nat.le_of_ble_eq_true rfl)
  have V_b1 : Arv Z h2 b1 k1 .byte (1 : Int32) [(.int (c1.toInt8.toInt32).toInt8.toInt32)] (.int (0 : Int32)) := V_b1
  replace Z0 := Nat.le_trans Z0 (Keep.of_wr W2).1
  replace K0 := K0.wr W2 (Or.inr sz_b1)
  have N2 := Fr.snoc X2 N0 g_b1
  refine Go.st (pc' := 8) (S' := [(.ref b1)]) st2 ?_
  exact Go.retO X2 hx hlk hret rfl (by simp [FieldType.isReference, Value.isRef]) (hb hby d4_8) (by decide) (by decide) (by rw [e2]; exact ⟨b1, _, rfl, N2, K0, g_b1, sz_b1, V_b1⟩)
theorem d5_0 : decode jdk_42_method_151_code 0 = .ok (.aload_n 0, 1) := by decide +kernel
theorem d5_1 : decode jdk_42_method_151_code 1 = .ok (.invokespecial 1, 3) := by decide +kernel
theorem d5_4 : decode jdk_42_method_151_code 4 = .ok (.aload_n 0, 1) := by decide +kernel
theorem d5_5 : decode jdk_42_method_151_code 5 = .ok (.aload_n 1, 1) := by decide +kernel
theorem d5_6 : decode jdk_42_method_151_code 6 = .ok (.putfield 9, 3) := by decide +kernel
theorem d5_9 : decode jdk_42_method_151_code 9 = .ok (.aload_n 0, 1) := by decide +kernel
theorem d5_10 : decode jdk_42_method_151_code 10 = .ok (.iload_n 2, 1) := by decide +kernel
theorem d5_11 : decode jdk_42_method_151_code 11 = .ok (.putfield 15, 3) := by decide +kernel
theorem d5_14 : decode jdk_42_method_151_code 14 = .ok (.return_, 1) := by decide +kernel
def Q5 (Z : State) (a1 : Addr) (a2 : Addr) (h0 : Heap) (n0 : Nat) (v : Option Value) (h : Heap) (L : List Loc) : Prop := v = none ∧ Fr n0 L ∧ Keep h0 h [a1] ∧ Fld Z h a1 "java/lang/String" "value" "[B" (.ref a2) ∧ Fld Z h a1 "java/lang/String" "coder" "B" (.int (0 : Int32))
def room5 : Room := { frames := 1, cells := 0, slots := 0, locals := 12 }
theorem rm5 (l : Launch) (Z : State) (a0 : Array Value) (hw : ∀ d ∈ tables_1, d.before a0 Z = true) (ws : List Jvm.Cond) (a1 : Addr) (a2 : Addr) (h0 : Heap) (n0 : Nat) (Z0 : n0 ≤ h0.size) (E_a1 : Exa Z h0 a1 "java/lang/String") (g_a1 : n0 ≤ a1) (F_value : Fld Z h0 a1 "java/lang/String" "value" "[B" .null) (F_coder : Fld Z h0 a1 "java/lang/String" "coder" "B" (.int (0 : Int32))) :
    OMet l (⟨"java/lang/String", "<init>", "([BB)V"⟩ : MethodName) jdk_42_method_151_code 3 none ws room5 #[(.ref a1), (.ref a2), (.int (0 : Int32))] Z h0 (Q5 Z a1 a2 h0 n0) := by
  refine own_met (Q := (Q5 Z a1 a2 h0 n0)) (L0 := #[.val (.ref a1), .val (.ref a2), .val (.int (0 : Int32))]) (plainFor_of_name pn_0) (fun m => by first | (simp [entryFrame, mkF, argsToLocals, Value.category]; done) | rfl) ?_
  intro p e s m below meth c T0 X0 hx hby hml hown hnm hret hlk hZ e0
  have N0 := Fr.nil n0
  have K0 := Keep.refl h0 [a1]
  refine Go.st (pc' := 1) (S' := [(.ref a1)]) (fun t_ k_ => XS.aloadN X0.here hx rfl (hb hby d5_0) rfl rfl k_) ?_
  obtain ⟨T1, X1, e1, st1⟩ := initO X0 hx hZ hown (wd hw 24 rfl) (wd hw 25 rfl) (wd hw 26 rfl) e0 (g := (mkF m 1 #[.val (.ref a1), .val (.ref a2), .val (.int (0 : Int32))] [(.ref a1)])) rfl (by rw [hml]; rfl) rfl (hb hby d5_1) (by decide) (W := 0) (by show 2 * 0 + _ ≤ _; exact Nat.le_of_eq rfl) (by decide)
  refine Go.st (pc' := 4) (S' := []) st1 ?_
  refine Go.st (pc' := 5) (S' := [(.ref a1)]) (fun t_ k_ => XS.aloadN X1.here hx rfl (hb hby d5_4) rfl rfl k_) ?_
  refine Go.st (pc' := 6) (S' := [(.ref a2), (.ref a1)]) (fun t_ k_ => XS.aloadN X1.here hx rfl (hb hby d5_5) rfl rfl k_) ?_
  obtain ⟨T2, h2, X2, e2, W2, st2⟩ := putF X1 hx hZ hown (host := "") (Or.inl (wd hw 27 rfl)) Via.refl e1 F_value E_a1 (Or.inr ⟨(wd hw 28 rfl), rfl, hnm⟩) (wd hw 15 rfl) (ty := (.array .byte)) (by decide) rfl rfl (g := (mkF m 6 #[.val (.ref a1), .val (.ref a2), .val (.int (0 : Int32))] [(.ref a2), (.ref a1)])) rfl rfl (hb hby d5_6)
  replace Z0 := Nat.le_trans Z0 (Keep.of_wr W2).1
  replace K0 := K0.wr W2 (Or.inl (List.mem_of_getElem? (i := 0) rfl))
  replace E_a1 := E_a1.wr W2
  replace F_coder := F_coder.other W2 (Or.inr (slot_ne (Or.inr (wd hw 30 rfl)) (Or.inr (wd hw 28 rfl)) (by decide) (t := .byte) (t' := (.array .byte)) (by decide) (by decide)))
  replace F_value := F_value.same W2
  have N2 := Fr.snoc X2 N0 g_a1
  refine Go.st (pc' := 9) (S' := []) st2 ?_
  refine Go.st (pc' := 10) (S' := [(.ref a1)]) (fun t_ k_ => XS.aloadN X2.here hx rfl (hb hby d5_9) rfl rfl k_) ?_
  refine Go.st (pc' := 11) (S' := [(.int (0 : Int32)), (.ref a1)]) (fun t_ k_ => XS.iloadN X2.here hx rfl (hb hby d5_10) rfl k_) ?_
  obtain ⟨T3, h3, X3, e3, W3, st3⟩ := putFN X2 hx hZ hown (wd hw 29 rfl) Via.refl e2 F_coder E_a1 (Or.inr ⟨(wd hw 30 rfl), rfl, hnm⟩) (wd hw 15 rfl) (ty := .byte) (v' := (.int (0 : Int32))) (by decide) rfl rfl (g := (mkF m 11 #[.val (.ref a1), .val (.ref a2), .val (.int (0 : Int32))] [(.int (0 : Int32)), (.ref a1)])) rfl rfl (hb hby d5_11)
  replace Z0 := Nat.le_trans Z0 (Keep.of_wr W3).1
  replace K0 := K0.wr W3 (Or.inl (List.mem_of_getElem? (i := 0) rfl))
  replace E_a1 := E_a1.wr W3
  replace F_value := F_value.other W3 (Or.inr (slot_ne (Or.inr (wd hw 28 rfl)) (Or.inr (wd hw 30 rfl)) (by decide) (t := (.array .byte)) (t' := .byte) (by decide) (by decide)))
  replace F_coder := F_coder.same W3
  have N3 := Fr.snoc X3 N2 g_a1
  refine Go.st (pc' := 14) (S' := []) st3 ?_
  exact Go.retV X3 hx hlk hret (hb hby d5_14) (by decide) (by decide) (by rw [e3]; exact ⟨rfl, N3, K0, F_value, F_coder⟩)
theorem d2_0 : decode jdk_42_method_139_code 0 = .ok (.getstatic 38, 3) := by decide +kernel
theorem d2_3 : decode jdk_42_method_139_code 3 = .ok (.ifCond .eq 23, 3) := by decide +kernel
theorem d2_6 : decode jdk_42_method_139_code 6 = .ok (.iload_n 0, 1) := by decide +kernel
theorem d2_7 : decode jdk_42_method_139_code 7 = .ok (.invokestatic 1015, 3) := by decide +kernel
theorem d2_10 : decode jdk_42_method_139_code 10 = .ok (.ifCond .eq 16, 3) := by decide +kernel
theorem d2_13 : decode jdk_42_method_139_code 13 = .ok (.new 10, 3) := by decide +kernel
theorem d2_16 : decode jdk_42_method_139_code 16 = .ok (.dup, 1) := by decide +kernel
theorem d2_17 : decode jdk_42_method_139_code 17 = .ok (.iload_n 0, 1) := by decide +kernel
theorem d2_18 : decode jdk_42_method_139_code 18 = .ok (.invokestatic 1018, 3) := by decide +kernel
theorem d2_21 : decode jdk_42_method_139_code 21 = .ok (.iconst 0, 1) := by decide +kernel
theorem d2_22 : decode jdk_42_method_139_code 22 = .ok (.invokespecial 209, 3) := by decide +kernel
theorem d2_25 : decode jdk_42_method_139_code 25 = .ok (.areturn, 1) := by decide +kernel
theorem pd_1 : parseMethodDescriptor "(C)Z" = some ⟨[.char], some .boolean⟩ := by decide +kernel
theorem pd_2 : parseMethodDescriptor "(C)[B" = some ⟨[.char], some (.array .byte)⟩ := by decide +kernel
theorem pd_3 : parseMethodDescriptor "([BB)V" = some ⟨[(.array .byte), .byte], none⟩ := by decide +kernel
def Q2 (Z : State) (c1 : Int32) (h0 : Heap) (n0 : Nat) (v : Option Value) (h : Heap) (L : List Loc) : Prop := ∃ (b t : Addr) (kb : ClassId), v = some (.ref b) ∧ Fr n0 L ∧ Keep h0 h [] ∧ n0 ≤ b ∧ h0.size ≤ b ∧ Exa Z h b "java/lang/String" ∧ Fld Z h b "java/lang/String" "coder" "B" (.int (0 : Int32)) ∧ Fld Z h b "java/lang/String" "value" "[B" (.ref t) ∧ Arv Z h t kb .byte (1 : Int32) [(.int ((c1.toInt8.toInt32).toInt8.toInt32))] (.int (0 : Int32))
def room2 : Room := { frames := 2, cells := 2, slots := 5, locals := 27 }
theorem rm2 (l : Launch) (Z : State) (a0 : Array Value) (hw : ∀ d ∈ tables_1, d.before a0 Z = true) (ws : List Jvm.Cond) (c1 : Int32) (gC : Int32) (h0 : Heap) (n0 : Nat) (Z0 : n0 ≤ h0.size) (SC : Sta Z Z.heap "java/lang/String" "COMPACT_STRINGS" "Z" (.int gC)) (PC : ¬ (gC = (0 : Int32))) (O0 : Old Z n0 h0) (hc : ¬ c1 < 0 ∧ ¬ (255 : Int32) < c1) :
    OMet l (⟨"java/lang/String", "valueOf", "(C)Ljava/lang/String;"⟩ : MethodName) jdk_42_method_139_code 1 (some (.object "java/lang/String")) ws room2 #[(.int c1)] Z h0 (Q2 Z c1 h0 n0) := by
  refine own_met (Q := (Q2 Z c1 h0 n0)) (L0 := #[.val (.int c1)]) (plainFor_of_name pn_0) (fun m => by first | (simp [entryFrame, mkF, argsToLocals, Value.category]; done) | rfl) ?_
  intro p e s m below meth c T0 X0 hx hby hml hown hnm hret hlk hZ e0
  have N0 := Fr.nil n0
  have K0 := Keep.refl h0 []
  obtain ⟨T1, X1, e1, st1⟩ := getS2 X0 hx hZ hown (host := "") (Or.inl (wd hw 9 rfl)) Via.refl e0 (SC.ext O0.2) (g := (mkF m 0 #[.val (.int c1)] [])) rfl (hb hby d2_0)
  refine Go.st (pc' := 3) (S' := [(.int gC)]) st1 ?_
  refine Go.st (pc' := 6) (S' := []) (fun t_ k_ => XS.ifNo X1.here hx rfl (hb hby d2_3) rfl ((if0 _ _).trans (feq (PC : ¬ (gC = (0 : Int32)))).1) k_) ?_
  refine Go.st (pc' := 7) (S' := [(.int c1)]) (fun t_ k_ => XS.iloadN X1.here hx rfl (hb hby d2_6) rfl k_) ?_
  obtain ⟨_, _, ⟨T2, L2, k2, n2⟩, -, X2, ⟨Lc2, hQ2, l2, y2, z2⟩, st2⟩ := Jvm.LawKit.callS X1 hx (y := (⟨"java/lang/StringLatin1", "canEncode", "(C)Z"⟩ : MethodName)) hown (mvT hZ (wd hw 10 rfl)) (mvT hZ (wd hw 11 rfl)) (mvT hZ (wd hw 12 rfl)) (mvT hZ (wd hw 13 rfl)) (by decide) (backOf (W := 0) (rm3 l Z a0 hw [] c1 h0 n0 Z0 hc) hZ (wd hw 13 rfl) (wd hw 12 rfl) (by decide) (by decide)) (g := (mkF m 7 #[.val (.int c1)] [(.int c1)])) rfl (by rw [hml]; rfl) (argsL := [(.int c1)]) (rest := []) (lenOf pd_1 rfl) rfl (by show 2 * 0 + _ ≤ _; exact Nat.le_of_eq rfl) (hb hby d2_7) (fun _ _ => ⟨rfl, e1, (by decide : 0 + 0 ≤ _), (by decide : 0 + 0 ≤ _)⟩)
  dsimp only [Pt.U, Pt.locs, Pt.cells, Pt.slots] at X2 l2 y2 z2 st2 hQ2
  subst l2 y2 z2
  obtain ⟨rfl, N2q, e2⟩ := hQ2
  have N2 := Fr.app N0 N2q
  refine Go.st (pc' := 10) (S' := [(.int (1 : Int32))]) st2 ?_
  refine Go.st (pc' := 13) (S' := []) (fun t_ k_ => XS.ifNo X2.here hx rfl (hb hby d2_10) rfl ((if0 _ _).trans (feq (by decide : ¬ ((1 : Int32) = (0 : Int32)))).1) k_) ?_
  obtain ⟨T3, h3, X3, e3, E3, A3, D3, U3, st3⟩ := newO X2 hx hZ hown (wd hw 14 rfl) (wd hw 15 rfl) (wd hw 7 rfl) e2 (g := (mkF m 13 #[.val (.int c1)] [])) rfl (hb hby d2_13) (by decide) (by decide)
  obtain ⟨b3, g3⟩ : ∃ z, z = h0.size := ⟨_, rfl⟩
  rw [← g3] at A3 D3 U3 st3
  have g_b3 : n0 ≤ b3 := Nat.le_trans Z0 (Nat.le_of_eq g3.symm)
  have sz_b3 : h0.size ≤ b3 := Nat.le_trans K0.1 (Nat.le_of_eq g3.symm)
  replace Z0 := Nat.le_trans Z0 E3.1
  replace K0 := K0.ext E3
  replace O0 := O0.ext E3
  have E_b3 := A3
  have F_b3_value : Fld Z h3 b3 "java/lang/String" "value" "[B" .null := D3 (Or.inr (wd hw 28 rfl)) (ty := (.array .byte)) (by decide)
  have F_b3_coder : Fld Z h3 b3 "java/lang/String" "coder" "B" (.int (0 : Int32)) := D3 (Or.inr (wd hw 30 rfl)) (ty := .byte) (by decide)
  refine Go.st (pc' := 16) (S' := [(.ref b3)]) st3 ?_
  refine Go.st (pc' := 17) (S' := [(.ref b3), (.ref b3)]) (fun t_ k_ => XS.dup X3.here hx rfl (hb hby d2_16) rfl rfl k_) ?_
  refine Go.st (pc' := 18) (S' := [(.int c1), (.ref b3), (.ref b3)]) (fun t_ k_ => XS.iloadN X3.here hx rfl (hb hby d2_17) rfl k_) ?_
  obtain ⟨_, _, ⟨T4, L4, k4, n4⟩, -, X4, ⟨Lc4, hQ4, l4, y4, z4⟩, st4⟩ := Jvm.LawKit.callS X3 hx (y := (⟨"java/lang/StringLatin1", "toBytes", "(C)[B"⟩ : MethodName)) hown (mvT hZ (wd hw 16 rfl)) (mvT hZ (wd hw 17 rfl)) (mvT hZ (wd hw 12 rfl)) (mvT hZ (wd hw 18 rfl)) (by decide) (backOf (W := 2) (rm4 l Z a0 hw [] c1 h3 n0 Z0) hZ (wd hw 18 rfl) (wd hw 12 rfl) (by decide) (by decide)) (g := (mkF m 18 #[.val (.int c1)] [(.int c1), (.ref b3), (.ref b3)])) rfl (by rw [hml]; rfl) (argsL := [(.int c1)]) (rest := [(.ref b3), (.ref b3)]) (lenOf pd_2 rfl) rfl (by show 2 * 0 + _ ≤ _; exact Nat.le_of_eq rfl) (hb hby d2_18) (fun _ _ => ⟨rfl, e3, (by decide : 1 + 1 ≤ _), (by decide : 4 + 1 ≤ _)⟩)
  dsimp only [Pt.U, Pt.locs, Pt.cells, Pt.slots] at X4 l4 y4 z4 st4 hQ4
  subst l4 y4 z4
  obtain ⟨b4, kb4, rfl, N4q, K4, g_b4, lt4, V_b4⟩ := hQ4
  have N4 := Fr.app N2 N4q
  have ne_b3_b4 : b3 ≠ b4 := Nat.ne_of_lt (Nat.lt_of_lt_of_le E_b3.lt lt4)
  have sz_b4 : h0.size ≤ b4 := Nat.le_trans K0.1 lt4
  obtain ⟨h4, e4⟩ : ∃ z, T4.heap = z := ⟨_, rfl⟩
  rw [e4] at K4 V_b4
  replace Z0 := Nat.le_trans Z0 K4.1
  replace K0 := K0.trans K4 all0
  replace O0 := O0.keep K4 all0
  replace E_b3 := E_b3.keep K4
  replace F_b3_value := F_b3_value.keep K4 nin0
  replace F_b3_coder := F_b3_coder.keep K4 nin0
  refine Go.st (pc' := 21) (S' := [(.ref b4), (.ref b3), (.ref b3)]) st4 ?_
  refine Go.st (pc' := 22) (S' := [(.int (0 : Int32)), (.ref b4), (.ref b3), (.ref b3)]) (fun t_ k_ => XS.iconst X4.here hx rfl (hb hby d2_21) k_) ?_
  obtain ⟨_, _, ⟨T5, L5, k5, n5⟩, -, X5, ⟨Lc5, hQ5, l5, y5, z5⟩, st5⟩ := X4.specialBack hx (y := (⟨"java/lang/String", "<init>", "([BB)V"⟩ : MethodName)) rfl hown (mvT hZ (wd hw 20 rfl)) (mvT hZ (wd hw 21 rfl)) (mvT hZ (wd hw 23 rfl)) (by decide) (backOf (W := 1) (rm5 l Z a0 hw [] b3 b4 h4 n0 Z0 E_b3 g_b3 F_b3_value F_b3_coder) hZ (wd hw 23 rfl) (wd hw 7 rfl) (by decide) (by decide)) (g := (mkF m 22 #[.val (.int c1)] [(.int (0 : Int32)), (.ref b4), (.ref b3), (.ref b3)])) rfl (by rw [hml]; rfl) (Steps.refl _) (a := b3) (argsL := [(.ref b4), (.int (0 : Int32))]) (rest := [(.ref b3)]) (lenOf pd_3 rfl) rfl (by show 2 * 0 + _ ≤ _; exact Nat.le_of_eq rfl) (hb hby d2_22) (fun _ _ => ⟨rfl, e4, (by decide : 2 + 0 ≤ _), (by decide : 5 + 0 ≤ _)⟩)
  dsimp only [Pt.U, Pt.locs, Pt.cells, Pt.slots] at X5 l5 y5 z5 st5 hQ5
  subst l5 y5 z5
  obtain ⟨rfl, N5q, K5, G5_value, G5_coder⟩ := hQ5
  have N5 := Fr.app N4 N5q
  obtain ⟨h5, e5⟩ : ∃ z, T5.heap = z := ⟨_, rfl⟩
  rw [e5] at K5 G5_value G5_coder
  replace Z0 := Nat.le_trans Z0 K5.1
  replace K0 := K0.trans K5 (allS (Or.inr sz_b3) all0)
  replace O0 := O0.keep K5 (allS g_b3 all0)
  replace E_b3 := E_b3.keep K5
  replace V_b4 := V_b4.keep K5 (ninS (Ne.symm ne_b3_b4) nin0)
  refine Go.tr (pc' := 25) (S' := [(.ref b3)]) st5 ?_
  exact Go.retO X5 hx hlk hret rfl (by simp [FieldType.isReference, Value.isRef]) (hb hby d2_25) (by decide) (by decide) (by rw [e5]; exact ⟨b3, b4, _, rfl, N5, K0, g_b3, sz_b3, E_b3, G5_coder, G5_value, V_b4⟩)
theorem d9_0 : decode jdk_31_method_11_code 0 = .ok (.aload_n 0, 1) := by decide +kernel
theorem d9_1 : decode jdk_31_method_11_code 1 = .ok (.ifnonnull 12, 3) := by decide +kernel
theorem d9_13 : decode jdk_31_method_11_code 13 = .ok (.aload_n 0, 1) := by decide +kernel
theorem d9_14 : decode jdk_31_method_11_code 14 = .ok (.areturn, 1) := by decide +kernel
theorem pn_2 : plainName "java/util/Objects" = true := by first | (simp [plainName, overriddenIn]; done) | decide +kernel
def Q9 (Z : State) (x1 : Addr) (x2 : Addr) (h0 : Heap) (n0 : Nat) (v : Option Value) (h : Heap) (L : List Loc) : Prop := v = some (.ref x1) ∧ Fr n0 L ∧ h = h0
def room9 : Room := { frames := 0, cells := 0, slots := 0, locals := 0 }
theorem rm9 (l : Launch) (Z : State) (a0 : Array Value) (hw : ∀ d ∈ tables_1, d.before a0 Z = true) (ws : List Jvm.Cond) (x1 : Addr) (x2 : Addr) (h0 : Heap) (n0 : Nat) (Z0 : n0 ≤ h0.size)  :
    OMet l (⟨"java/util/Objects", "requireNonNull", "(Ljava/lang/Object;Ljava/lang/String;)Ljava/lang/Object;"⟩ : MethodName) jdk_31_method_11_code 2 (some (.object "java/lang/Object")) ws room9 #[(.ref x1), (.ref x2)] Z h0 (Q9 Z x1 x2 h0 n0) := by
  refine own_met (Q := (Q9 Z x1 x2 h0 n0)) (L0 := #[.val (.ref x1), .val (.ref x2)]) (plainFor_of_name pn_2) (fun m => by first | (simp [entryFrame, mkF, argsToLocals, Value.category]; done) | rfl) ?_
  intro p e s m below meth c T0 X0 hx hby hml hown hnm hret hlk hZ e0
  have N0 := Fr.nil n0
  refine Go.st (pc' := 1) (S' := [(.ref x1)]) (fun t_ k_ => XS.aloadN X0.here hx rfl (hb hby d9_0) rfl rfl k_) ?_
  refine Go.st (pc' := 13) (S' := []) (fun t_ k_ => XS.ifnonnullYes X0.here hx rfl (pc0 := 1) (pc' := 13) rfl (hb hby d9_1) rfl (by decide) (by decide) k_) ?_
  refine Go.st (pc' := 14) (S' := [(.ref x1)]) (fun t_ k_ => XS.aloadN X0.here hx rfl (hb hby d9_13) rfl rfl k_) ?_
  exact Go.retO X0 hx hlk hret rfl (by simp [FieldType.isReference, Value.isRef]) (hb hby d9_14) (by decide) (by decide) (by rw [e0]; exact ⟨rfl, N0, rfl⟩)
theorem own_s48 {x : Int32} (b : ¬ x < 0 ∧ ¬ (65535 : Int32) < x) : (x - 48 < 0 ↔ x < 48) ∧ (x - 48 < 10 ↔ ¬ (57 : Int32) < x) := by
  have e0 : (0 : Int32).toInt = 0 := rfl
  have e1 : (65535 : Int32).toInt = 65535 := rfl
  have e2 : (48 : Int32).toInt = 48 := rfl
  have e3 : (57 : Int32).toInt = 57 := rfl
  have e4 : (10 : Int32).toInt = 10 := rfl
  obtain ⟨b0, b1⟩ := b
  simp only [Int32.lt_iff_toInt_lt] at *
  have h := c_isub x 48
  have r := rng32 (x - 48)
  constructor <;> omega
theorem d1_0 : decode method_2_code 0 = .ok (.iload_n 0, 1) := by decide +kernel
theorem d1_1 : decode method_2_code 1 = .ok (.iconst 1, 1) := by decide +kernel
theorem d1_2 : decode method_2_code 2 = .ok (.iand, 1) := by decide +kernel
theorem d1_3 : decode method_2_code 3 = .ok (.ifCond .ne 14, 3) := by decide +kernel
theorem d1_6 : decode method_2_code 6 = .ok (.bipush 48, 2) := by decide +kernel
theorem d1_8 : decode method_2_code 8 = .ok (.iload_n 0, 1) := by decide +kernel
theorem d1_9 : decode method_2_code 9 = .ok (.iconst 1, 1) := by decide +kernel
theorem d1_10 : decode method_2_code 10 = .ok (.iushr, 1) := by decide +kernel
theorem d1_11 : decode method_2_code 11 = .ok (.bipush 10, 2) := by decide +kernel
theorem d1_13 : decode method_2_code 13 = .ok (.irem, 1) := by decide +kernel
theorem d1_14 : decode method_2_code 14 = .ok (.iadd, 1) := by decide +kernel
theorem d1_15 : decode method_2_code 15 = .ok (.i2c, 1) := by decide +kernel
theorem d1_16 : decode method_2_code 16 = .ok (.ireturn, 1) := by decide +kernel
theorem d1_17 : decode method_2_code 17 = .ok (.iload_n 0, 1) := by decide +kernel
theorem d1_18 : decode method_2_code 18 = .ok (.iconst 1, 1) := by decide +kernel
theorem d1_19 : decode method_2_code 19 = .ok (.iushr, 1) := by decide +kernel
theorem d1_20 : decode method_2_code 20 = .ok (.ldc 7, 2) := by decide +kernel
theorem d1_22 : decode method_2_code 22 = .ok (.iand, 1) := by decide +kernel
theorem d1_23 : decode method_2_code 23 = .ok (.i2c, 1) := by decide +kernel
theorem d1_24 : decode method_2_code 24 = .ok (.ireturn, 1) := by decide +kernel
theorem pn_3 : plainName "pechat/card/DigitsArePinLaw" = true := by first | (simp [plainName, overriddenIn]; done) | decide +kernel
def Q1 (Z : State)  (h0 : Heap) (n0 : Nat) (v : Option Value) (h : Heap) (L : List Loc) : Prop := ∃ r : Int32, v = some (.int r) ∧ own_bd r ∧ Fr n0 L ∧ h = h0
def room1 : Room := { frames := 0, cells := 0, slots := 0, locals := 0 }
theorem rm1 (l : Launch) (Z : State) (a0 : Array Value) (hw : ∀ d ∈ tables_1, d.before a0 Z = true) (ws : List Jvm.Cond) (p1 : Int32) (h0 : Heap) (n0 : Nat) (Z0 : n0 ≤ h0.size)  :
    OMet l (⟨"pechat/card/DigitsArePinLaw", "ch", "(I)C"⟩ : MethodName) method_2_code 1 (some .char) ws room1 #[(.int p1)] Z h0 (Q1 Z  h0 n0) := by
  refine own_met (Q := (Q1 Z  h0 n0)) (L0 := #[.val (.int p1)]) (plainFor_of_name pn_3) (fun m => by first | (simp [entryFrame, mkF, argsToLocals, Value.category]; done) | rfl) ?_
  intro p e s m below meth c T0 X0 hx hby hml hown hnm hret hlk hZ e0
  have N0 := Fr.nil n0
  refine Go.st (pc' := 1) (S' := [(.int p1)]) (fun t_ k_ => XS.iloadN X0.here hx rfl (hb hby d1_0) rfl k_) ?_
  refine Go.st (pc' := 2) (S' := [(.int (1 : Int32)), (.int p1)]) (fun t_ k_ => XS.iconst X0.here hx rfl (hb hby d1_1) k_) ?_
  refine Go.st (pc' := 3) (S' := [(.int (p1 &&& (1 : Int32)))]) (fun t_ k_ => XS.iand X0.here hx rfl (hb hby d1_2) rfl k_) ?_
  by_cases hc3_1 : (p1 &&& (1 : Int32)) = (0 : Int32)
  · refine Go.st (pc' := 6) (S' := []) (fun t_ k_ => XS.ifNo X0.here hx rfl (hb hby d1_3) rfl ((if0 _ _).trans (teq hc3_1).2) k_) ?_
    refine Go.st (pc' := 8) (S' := [(.int (48 : Int32))]) (fun t_ k_ => XS.bipush X0.here hx rfl (hb hby d1_6) k_) ?_
    refine Go.st (pc' := 9) (S' := [(.int p1), (.int (48 : Int32))]) (fun t_ k_ => XS.iloadN X0.here hx rfl (hb hby d1_8) rfl k_) ?_
    refine Go.st (pc' := 10) (S' := [(.int (1 : Int32)), (.int p1), (.int (48 : Int32))]) (fun t_ k_ => XS.iconst X0.here hx rfl (hb hby d1_9) k_) ?_
    refine Go.st (pc' := 11) (S' := [(.int ((p1.toUInt32 >>> ((1 : Int32) &&& 31).toUInt32).toInt32)), (.int (48 : Int32))]) (fun t_ k_ => XS.iushr X0.here hx rfl (hb hby d1_10) rfl k_) ?_
    refine Go.st (pc' := 13) (S' := [(.int (10 : Int32)), (.int ((p1.toUInt32 >>> ((1 : Int32) &&& 31).toUInt32).toInt32)), (.int (48 : Int32))]) (fun t_ k_ => XS.bipush X0.here hx rfl (hb hby d1_11) k_) ?_
    refine Go.st (pc' := 14) (S' := [(.int (((p1.toUInt32 >>> ((1 : Int32) &&& 31).toUInt32).toInt32) % (10 : Int32))), (.int (48 : Int32))]) (fun t_ k_ => iremM X0 hx rfl (hb hby d1_13) rfl (by decide) k_) ?_
    refine Go.st (pc' := 15) (S' := [(.int ((48 : Int32) + (((p1.toUInt32 >>> ((1 : Int32) &&& 31).toUInt32).toInt32) % (10 : Int32))))]) (fun t_ k_ => XS.iadd X0.here hx rfl (hb hby d1_14) rfl k_) ?_
    refine Go.st (pc' := 16) (S' := [(.int (((48 : Int32) + (((p1.toUInt32 >>> ((1 : Int32) &&& 31).toUInt32).toInt32) % (10 : Int32))).toUInt32.toUInt16.toUInt32.toInt32))]) (fun t_ k_ => XS.i2c X0.here hx rfl (hb hby d1_15) rfl k_) ?_
    exact Go.retN X0 hx hlk hret (by simp) (hb hby d1_16) (by decide) (by decide) (by rw [e0]; exact ⟨_, rfl, own_chb _, N0, rfl⟩)
  · refine Go.st (pc' := 17) (S' := []) (fun t_ k_ => XS.ifYes X0.here hx rfl (pc0 := 3) (pc' := 17) rfl (hb hby d1_3) rfl ((if0 _ _).trans (feq hc3_1).2) (by decide) (by decide) k_) ?_
    refine Go.st (pc' := 18) (S' := [(.int p1)]) (fun t_ k_ => XS.iloadN X0.here hx rfl (hb hby d1_17) rfl k_) ?_
    refine Go.st (pc' := 19) (S' := [(.int (1 : Int32)), (.int p1)]) (fun t_ k_ => XS.iconst X0.here hx rfl (hb hby d1_18) k_) ?_
    refine Go.st (pc' := 20) (S' := [(.int ((p1.toUInt32 >>> ((1 : Int32) &&& 31).toUInt32).toInt32))]) (fun t_ k_ => XS.iushr X0.here hx rfl (hb hby d1_19) rfl k_) ?_
    refine Go.st (pc' := 22) (S' := [(.int (65535 : Int32)), (.int ((p1.toUInt32 >>> ((1 : Int32) &&& 31).toUInt32).toInt32))]) (fun t_ k_ => X0.ldcInt hx hown (mvT hZ (wd hw 4 rfl)) (g := (mkF m 20 #[.val (.int p1)] [(.int ((p1.toUInt32 >>> ((1 : Int32) &&& 31).toUInt32).toInt32))])) rfl (hb hby d1_20) t_ k_) ?_
    refine Go.st (pc' := 23) (S' := [(.int (((p1.toUInt32 >>> ((1 : Int32) &&& 31).toUInt32).toInt32) &&& (65535 : Int32)))]) (fun t_ k_ => XS.iand X0.here hx rfl (hb hby d1_22) rfl k_) ?_
    refine Go.st (pc' := 24) (S' := [(.int ((((p1.toUInt32 >>> ((1 : Int32) &&& 31).toUInt32).toInt32) &&& (65535 : Int32)).toUInt32.toUInt16.toUInt32.toInt32))]) (fun t_ k_ => XS.i2c X0.here hx rfl (hb hby d1_23) rfl k_) ?_
    exact Go.retN X0 hx hlk hret (by simp) (hb hby d1_24) (by decide) (by decide) (by rw [e0]; exact ⟨_, rfl, own_chb _, N0, rfl⟩)
theorem d7_0 : decode method_3_code 0 = .ok (.iload_n 0, 1) := by decide +kernel
theorem d7_1 : decode method_3_code 1 = .ok (.bipush 48, 2) := by decide +kernel
theorem d7_3 : decode method_3_code 3 = .ok (.isub, 1) := by decide +kernel
theorem d7_4 : decode method_3_code 4 = .ok (.istore_n 1, 1) := by decide +kernel
theorem d7_5 : decode method_3_code 5 = .ok (.iload_n 1, 1) := by decide +kernel
theorem d7_6 : decode method_3_code 6 = .ok (.ifCond .lt 13, 3) := by decide +kernel
theorem d7_9 : decode method_3_code 9 = .ok (.iload_n 1, 1) := by decide +kernel
theorem d7_10 : decode method_3_code 10 = .ok (.bipush 10, 2) := by decide +kernel
theorem d7_12 : decode method_3_code 12 = .ok (.if_icmp .ge 7, 3) := by decide +kernel
theorem d7_15 : decode method_3_code 15 = .ok (.iconst 1, 1) := by decide +kernel
theorem d7_16 : decode method_3_code 16 = .ok (.goto 4, 3) := by decide +kernel
theorem d7_19 : decode method_3_code 19 = .ok (.iconst 0, 1) := by decide +kernel
theorem d7_20 : decode method_3_code 20 = .ok (.ireturn, 1) := by decide +kernel
def Q7 (Z : State) (x0 : Int32) (h0 : Heap) (n0 : Nat) (v : Option Value) (h : Heap) (L : List Loc) : Prop := v = some (.int (own_dg x0)) ∧ Fr n0 L ∧ h = h0
def room7 : Room := { frames := 0, cells := 0, slots := 0, locals := 0 }
theorem rm7 (l : Launch) (Z : State) (a0 : Array Value) (hw : ∀ d ∈ tables_1, d.before a0 Z = true) (ws : List Jvm.Cond) (x0 : Int32) (h0 : Heap) (n0 : Nat) (Z0 : n0 ≤ h0.size) (bd0 : own_bd x0) :
    OMet l (⟨"pechat/card/DigitsArePinLaw", "isAsciiDigit", "(C)Z"⟩ : MethodName) method_3_code 2 (some .boolean) ws room7 #[(.int x0)] Z h0 (Q7 Z x0 h0 n0) := by
  refine own_met (Q := (Q7 Z x0 h0 n0)) (L0 := #[.val (.int x0), .unset]) (plainFor_of_name pn_3) (fun m => by first | (simp [entryFrame, mkF, argsToLocals, Value.category]; done) | rfl) ?_
  intro p e s m below meth c T0 X0 hx hby hml hown hnm hret hlk hZ e0
  have N0 := Fr.nil n0
  refine Go.st (pc' := 1) (S' := [(.int x0)]) (fun t_ k_ => XS.iloadN X0.here hx rfl (hb hby d7_0) rfl k_) ?_
  refine Go.st (pc' := 3) (S' := [(.int (48 : Int32)), (.int x0)]) (fun t_ k_ => XS.bipush X0.here hx rfl (hb hby d7_1) k_) ?_
  refine Go.st (pc' := 4) (S' := [(.int (x0 - (48 : Int32)))]) (fun t_ k_ => XS.isub X0.here hx rfl (hb hby d7_3) rfl k_) ?_
  refine Go.st (pc' := 5) (S' := []) (fun t_ k_ => XS.istoreN X0.here hx rfl (hb hby d7_4) rfl (l' := #[.val (.int x0), .val (.int (x0 - (48 : Int32)))]) rfl k_) ?_
  refine Go.st (pc' := 6) (S' := [(.int (x0 - (48 : Int32)))]) (fun t_ k_ => XS.iloadN X0.here hx rfl (hb hby d7_5) rfl k_) ?_
  by_cases hc6_1 : (x0 - (48 : Int32)) < (0 : Int32)
  · refine Go.st (pc' := 19) (S' := []) (fun t_ k_ => XS.ifYes X0.here hx rfl (pc0 := 6) (pc' := 19) rfl (hb hby d7_6) rfl ((if0 _ _).trans (tlt hc6_1).1) (by decide) (by decide) k_) ?_
    have zd : own_dg x0 = 0 := own_dgA ((own_s48 bd0).1.mp hc6_1)
    refine Go.st (pc' := 20) (S' := [(.int (0 : Int32))]) (fun t_ k_ => XS.iconst X0.here hx rfl (hb hby d7_19) k_) ?_
    exact Go.retN X0 hx hlk hret (by simp) (hb hby d7_20) (by decide) (by decide) (by rw [e0]; exact ⟨by rw [zd]; rfl, N0, rfl⟩)
  · refine Go.st (pc' := 9) (S' := []) (fun t_ k_ => XS.ifNo X0.here hx rfl (hb hby d7_6) rfl ((if0 _ _).trans (flt hc6_1).1) k_) ?_
    have g6 : ¬ x0 < 48 := fun z => hc6_1 ((own_s48 bd0).1.mpr z)
    refine Go.st (pc' := 10) (S' := [(.int (x0 - (48 : Int32)))]) (fun t_ k_ => XS.iloadN X0.here hx rfl (hb hby d7_9) rfl k_) ?_
    refine Go.st (pc' := 12) (S' := [(.int (10 : Int32)), (.int (x0 - (48 : Int32)))]) (fun t_ k_ => XS.bipush X0.here hx rfl (hb hby d7_10) k_) ?_
    by_cases hc12_2 : (x0 - (48 : Int32)) < (10 : Int32)
    · refine Go.st (pc' := 15) (S' := []) (fun t_ k_ => XS.icmpNo X0.here hx rfl (hb hby d7_12) rfl (tlt hc12_2).2.1 k_) ?_
      have zd : own_dg x0 = 1 := own_dgC g6 ((own_s48 bd0).2.mp hc12_2)
      refine Go.st (pc' := 16) (S' := [(.int (1 : Int32))]) (fun t_ k_ => XS.iconst X0.here hx rfl (hb hby d7_15) k_) ?_
      refine Go.st (pc' := 20) (S' := [(.int (1 : Int32))]) (fun t_ k_ => XS.goto X0.here hx rfl (pc0 := 16) (pc' := 20) rfl (hb hby d7_16) (by decide) (by decide) k_) ?_
      exact Go.retN X0 hx hlk hret (by simp) (hb hby d7_20) (by decide) (by decide) (by rw [e0]; exact ⟨by rw [zd]; rfl, N0, rfl⟩)
    · refine Go.st (pc' := 19) (S' := []) (fun t_ k_ => XS.icmpYes X0.here hx rfl (pc0 := 12) (pc' := 19) rfl (hb hby d7_12) rfl (flt hc12_2).2.1 (by decide) (by decide) k_) ?_
      have zd : own_dg x0 = 0 := own_dgB (Decidable.byContradiction fun z => hc12_2 ((own_s48 bd0).2.mpr z))
      refine Go.st (pc' := 20) (S' := [(.int (0 : Int32))]) (fun t_ k_ => XS.iconst X0.here hx rfl (hb hby d7_19) k_) ?_
      exact Go.retN X0 hx hlk hret (by simp) (hb hby d7_20) (by decide) (by decide) (by rw [e0]; exact ⟨by rw [zd]; rfl, N0, rfl⟩)
def Qare0 (Z : State) (p1 : Int32) (p2 : Int32) (h0 : Heap) (n0 : Nat) (v : Option Value) (h : Heap) (L : List Loc) : Prop := v = some (.int (own_are (1 : Int32) (0 : Int32) p1 p2)) ∧ Fr n0 L ∧ Keep h0 h []
theorem d11_0 : decode jdk_42_method_152_code 0 = .ok (.getstatic 38, 3) := by decide +kernel
theorem d11_3 : decode jdk_42_method_152_code 3 = .ok (.ifCond .eq 10, 3) := by decide +kernel
theorem d11_6 : decode jdk_42_method_152_code 6 = .ok (.aload_n 0, 1) := by decide +kernel
theorem d11_7 : decode jdk_42_method_152_code 7 = .ok (.getfield 15, 3) := by decide +kernel
theorem d11_10 : decode jdk_42_method_152_code 10 = .ok (.goto 4, 3) := by decide +kernel
theorem d11_14 : decode jdk_42_method_152_code 14 = .ok (.ireturn, 1) := by decide +kernel
def Q11 (Z : State) (a1 : Addr) (gC : Int32) (h0 : Heap) (n0 : Nat) (v : Option Value) (h : Heap) (L : List Loc) : Prop := v = some (.int 0) ∧ Fr n0 L ∧ h = h0
def room11 : Room := { frames := 0, cells := 0, slots := 0, locals := 0 }
theorem rm11 (l : Launch) (Z : State) (a0 : Array Value) (hw : ∀ d ∈ tables_1, d.before a0 Z = true) (ws : List Jvm.Cond) (a1 : Addr) (gC : Int32) (h0 : Heap) (n0 : Nat) (Z0 : n0 ≤ h0.size) (SC : Sta Z Z.heap "java/lang/String" "COMPACT_STRINGS" "Z" (.int gC)) (PC : ¬ (gC = (0 : Int32))) (O0 : Old Z n0 h0) (Fc : Fld Z h0 a1 "java/lang/String" "coder" "B" (.int (0 : Int32))) :
    OMet l (⟨"java/lang/String", "coder", "()B"⟩ : MethodName) jdk_42_method_152_code 1 (some .byte) ws room11 #[(.ref a1)] Z h0 (Q11 Z a1 gC h0 n0) := by
  refine own_met (Q := (Q11 Z a1 gC h0 n0)) (L0 := #[.val (.ref a1)]) (plainFor_of_name pn_0) (fun m => by first | (simp [entryFrame, mkF, argsToLocals, Value.category]; done) | rfl) ?_
  intro p e s m below meth c T0 X0 hx hby hml hown hnm hret hlk hZ e0
  have N0 := Fr.nil n0
  obtain ⟨T1, X1, e1, st1⟩ := getS2 X0 hx hZ hown (host := "") (Or.inl (wd hw 9 rfl)) Via.refl e0 (SC.ext O0.2) (g := (mkF m 0 #[.val (.ref a1)] [])) rfl (hb hby d11_0)
  refine Go.st (pc' := 3) (S' := [(.int gC)]) st1 ?_
  refine Go.st (pc' := 6) (S' := []) (fun t_ k_ => XS.ifNo X1.here hx rfl (hb hby d11_3) rfl ((if0 _ _).trans (feq (PC : ¬ (gC = (0 : Int32)))).1) k_) ?_
  refine Go.st (pc' := 7) (S' := [(.ref a1)]) (fun t_ k_ => XS.aloadN X1.here hx rfl (hb hby d11_6) rfl rfl k_) ?_
  obtain ⟨T2, X2, e2, st2⟩ := getF X1 hx hZ hown (host := "") (Or.inl (wd hw 29 rfl)) Via.refl e1 Fc (g := (mkF m 7 #[.val (.ref a1)] [(.ref a1)])) rfl rfl (hb hby d11_7)
  refine Go.st (pc' := 10) (S' := [(.int (0 : Int32))]) st2 ?_
  refine Go.st (pc' := 14) (S' := [(.int (0 : Int32))]) (fun t_ k_ => XS.goto X2.here hx rfl (pc0 := 10) (pc' := 14) rfl (hb hby d11_10) (by decide) (by decide) k_) ?_
  exact Go.retN X2 hx hlk hret (by simp) (hb hby d11_14) (by decide) (by decide) (by rw [e2]; exact ⟨rfl, N0, rfl⟩)
theorem d10_0 : decode jdk_42_method_54_code 0 = .ok (.aload_n 0, 1) := by decide +kernel
theorem d10_1 : decode jdk_42_method_54_code 1 = .ok (.getfield 9, 3) := by decide +kernel
theorem d10_4 : decode jdk_42_method_54_code 4 = .ok (.arraylength, 1) := by decide +kernel
theorem d10_5 : decode jdk_42_method_54_code 5 = .ok (.aload_n 0, 1) := by decide +kernel
theorem d10_6 : decode jdk_42_method_54_code 6 = .ok (.invokevirtual 335, 3) := by decide +kernel
theorem d10_9 : decode jdk_42_method_54_code 9 = .ok (.ishr, 1) := by decide +kernel
theorem d10_10 : decode jdk_42_method_54_code 10 = .ok (.ireturn, 1) := by decide +kernel
theorem pd_4 : parseMethodDescriptor "()B" = some ⟨[], some .byte⟩ := by decide +kernel
def Qlen0L (Z : State) (a1 : Addr) (t1 : Addr) (k1 : ClassId) (gC : Int32) (h0 : Heap) (n0 : Nat) (v : Option Value) (h : Heap) (L : List Loc) : Prop := v = some (.int 0) ∧ Fr n0 L ∧ h = h0
def roomlen0L : Room := { frames := 1, cells := 0, slots := 0, locals := 13 }
theorem rmlen0L (l : Launch) (Z : State) (a0 : Array Value) (hw : ∀ d ∈ tables_1, d.before a0 Z = true) (ws : List Jvm.Cond) (a1 : Addr) (t1 : Addr) (k1 : ClassId) (gC : Int32) (h0 : Heap) (n0 : Nat) (Z0 : n0 ≤ h0.size) (SC : Sta Z Z.heap "java/lang/String" "COMPACT_STRINGS" "Z" (.int gC)) (PC : ¬ (gC = (0 : Int32))) (O0 : Old Z n0 h0) (E_a1 : Exa Z h0 a1 "java/lang/String") (Fc_a1 : Fld Z h0 a1 "java/lang/String" "coder" "B" (.int (0 : Int32))) (Fv_a1 : Fld Z h0 a1 "java/lang/String" "value" "[B" (.ref t1)) (V_t1 : Arv Z h0 t1 k1 .byte (0 : Int32) [] (.int (0 : Int32))) :
    OMet l (⟨"java/lang/String", "length", "()I"⟩ : MethodName) jdk_42_method_54_code 1 (some .int) ws roomlen0L #[(.ref a1)] Z h0 (Qlen0L Z a1 t1 k1 gC h0 n0) := by
  refine own_met (Q := (Qlen0L Z a1 t1 k1 gC h0 n0)) (L0 := #[.val (.ref a1)]) (plainFor_of_name pn_0) (fun m => by first | (simp [entryFrame, mkF, argsToLocals, Value.category]; done) | rfl) ?_
  intro p e s m below meth c T0 X0 hx hby hml hown hnm hret hlk hZ e0
  have N0 := Fr.nil n0
  refine Go.st (pc' := 1) (S' := [(.ref a1)]) (fun t_ k_ => XS.aloadN X0.here hx rfl (hb hby d10_0) rfl rfl k_) ?_
  obtain ⟨T1, X1, e1, st1⟩ := getF X0 hx hZ hown (host := "") (Or.inl (wd hw 27 rfl)) Via.refl e0 Fv_a1 (g := (mkF m 1 #[.val (.ref a1)] [(.ref a1)])) rfl rfl (hb hby d10_1)
  refine Go.st (pc' := 4) (S' := [(.ref t1)]) st1 ?_
  obtain ⟨cl2, Ar2, -, q2a, q2b, -, -⟩ := id V_t1
  refine Go.st (pc' := 5) (S' := [(.int (0 : Int32))]) (fun t_ k_ => own_len X1 hx hZ e1 Ar2 q2a q2b (g := (mkF m 4 #[.val (.ref a1)] [(.ref t1)])) rfl rfl (hb hby d10_4) t_ k_) ?_
  refine Go.st (pc' := 6) (S' := [(.ref a1), (.int (0 : Int32))]) (fun t_ k_ => XS.aloadN X1.here hx rfl (hb hby d10_5) rfl rfl k_) ?_
  obtain ⟨cq3, kq3, q3a, q3b, q3c⟩ := isOf hZ e1 E_a1
  obtain ⟨_, _, ⟨T3, L3, k3, n3⟩, -, X3, ⟨Lc3, hQ3, l3, y3, z3⟩, st3⟩ := X1.virtualBack hx (y := (⟨"java/lang/String", "coder", "()B"⟩ : MethodName)) (z := (⟨"java/lang/String", "coder", "()B"⟩ : MethodName)) hown (mvT hZ (wd hw 50 rfl)) (mvT hZ (wd hw 51 rfl)) (notFace_of_selects (args := #[]) (mvT hZ (wd hw 53 rfl))) (mvT hZ (wd hw 53 rfl)) (mvT hZ (wd hw 52 rfl)) (by decide) (backOf (W := 1) (rm11 l Z a0 hw [] a1 gC h0 n0 Z0 SC PC O0 Fc_a1) hZ (wd hw 54 rfl) (wd hw 7 rfl) (by decide) (by decide)) q3a q3c (g := (mkF m 6 #[.val (.ref a1)] [(.ref a1), (.int (0 : Int32))])) rfl (by rw [hml]; rfl) (Steps.refl _) (argsL := []) (rest := [(.int (0 : Int32))]) (lenOf pd_4 rfl) rfl (by show 2 * 0 + _ ≤ _; exact Nat.le_of_eq rfl) (hb hby d10_6) (fun _ _ => ⟨rfl, e1, (by decide : 0 + 0 ≤ _), (by decide : 0 + 0 ≤ _)⟩)
  dsimp only [Pt.U, Pt.locs, Pt.cells, Pt.slots] at X3 l3 y3 z3 st3 hQ3
  subst l3 y3 z3
  obtain ⟨rfl, N3q, e3⟩ := hQ3
  have N3 := Fr.app N0 N3q
  refine Go.tr (pc' := 9) (S' := [(.int (0 : Int32)), (.int (0 : Int32))]) st3 ?_
  refine Go.st (pc' := 10) (S' := [(.int ((0 : Int32) >>> ((0 : Int32) &&& 31)))]) (fun t_ k_ => XS.ishr X3.here hx rfl (hb hby d10_9) rfl k_) ?_
  rw [show ((0 : Int32) >>> ((0 : Int32) &&& 31)) = (0 : Int32) from by decide]
  exact Go.retO X3 hx hlk hret rfl (by simp [FieldType.isReference, Value.isRef]) (hb hby d10_10) (by decide) (by decide) (by rw [e3]; exact ⟨rfl, N3, rfl⟩)
def Qlen0C (Z : State)  (h0 : Heap) (n0 : Nat) (v : Option Value) (h : Heap) (L : List Loc) : Prop := v = some (.int 0) ∧ Fr n0 L ∧ h = h0
theorem rmlen0C (l : Launch) (Z : State) (a0 : Array Value) (hw : ∀ d ∈ tables_1, d.before a0 Z = true) (ws : List Jvm.Cond) (a1 : Addr) (fm : Value) (gC : Int32)  (h0 : Heap) (n0 : Nat) (Z0 : n0 ≤ h0.size) (ss : own_ST Z gC fm) (O0 : Old Z n0 h0) (C1 : own_CS0 Z h0 a1 )  :
    OMet l (⟨"java/lang/String", "length", "()I"⟩ : MethodName) jdk_42_method_54_code 1 (some .int) ws roomlen0L #[(.ref a1)] Z h0 (Qlen0C Z  h0 n0) := by
  obtain ⟨SC, PC, hfm, SF, SD, SH, SL⟩ := id ss
  obtain ⟨E_a1, t1, k1, Fc, Fv, V1⟩ := C1
  · exact rmlen0L l Z a0 hw ws a1 t1 k1 gC  h0 n0 Z0 SC PC O0 E_a1 Fc Fv V1
theorem d8_12 : decode prog_5_method_3_code 12 = .ok (.iload 4, 2) := by decide +kernel
theorem d8_14 : decode prog_5_method_3_code 14 = .ok (.aload_n 0, 1) := by decide +kernel
theorem d8_15 : decode prog_5_method_3_code 15 = .ok (.invokevirtual 41, 3) := by decide +kernel
theorem d8_18 : decode prog_5_method_3_code 18 = .ok (.if_icmp .ge 39, 3) := by decide +kernel
theorem d8_57 : decode prog_5_method_3_code 57 = .ok (.iload_n 3, 1) := by decide +kernel
theorem d8_58 : decode prog_5_method_3_code 58 = .ok (.ifCond .eq 23, 3) := by decide +kernel
theorem d8_61 : decode prog_5_method_3_code 61 = .ok (.aload_n 0, 1) := by decide +kernel
theorem d8_62 : decode prog_5_method_3_code 62 = .ok (.invokevirtual 41, 3) := by decide +kernel
theorem d8_65 : decode prog_5_method_3_code 65 = .ok (.iload_n 1, 1) := by decide +kernel
theorem d8_66 : decode prog_5_method_3_code 66 = .ok (.if_icmp .lt 15, 3) := by decide +kernel
theorem d8_69 : decode prog_5_method_3_code 69 = .ok (.aload_n 0, 1) := by decide +kernel
theorem d8_70 : decode prog_5_method_3_code 70 = .ok (.invokevirtual 41, 3) := by decide +kernel
theorem d8_73 : decode prog_5_method_3_code 73 = .ok (.iload_n 2, 1) := by decide +kernel
theorem d8_74 : decode prog_5_method_3_code 74 = .ok (.if_icmp .gt 7, 3) := by decide +kernel
theorem d8_77 : decode prog_5_method_3_code 77 = .ok (.iconst 1, 1) := by decide +kernel
theorem d8_78 : decode prog_5_method_3_code 78 = .ok (.goto 4, 3) := by decide +kernel
theorem d8_81 : decode prog_5_method_3_code 81 = .ok (.iconst 0, 1) := by decide +kernel
theorem d8_82 : decode prog_5_method_3_code 82 = .ok (.ireturn, 1) := by decide +kernel
theorem pd_5 : parseMethodDescriptor "()I" = some ⟨[], some .int⟩ := by decide +kernel
theorem pn_4 : plainName "pechat/card/Digits" = true := by first | (simp [plainName, overriddenIn]; done) | decide +kernel
theorem d8_0 : decode prog_5_method_3_code 0 = .ok (.aload_n 0, 1) := by decide +kernel
theorem d8_1 : decode prog_5_method_3_code 1 = .ok (.ldc 39, 2) := by decide +kernel
theorem d8_3 : decode prog_5_method_3_code 3 = .ok (.invokestatic 7, 3) := by decide +kernel
theorem d8_6 : decode prog_5_method_3_code 6 = .ok (.pop, 1) := by decide +kernel
theorem d8_7 : decode prog_5_method_3_code 7 = .ok (.iconst 1, 1) := by decide +kernel
theorem d8_8 : decode prog_5_method_3_code 8 = .ok (.istore_n 3, 1) := by decide +kernel
theorem d8_9 : decode prog_5_method_3_code 9 = .ok (.iconst 0, 1) := by decide +kernel
theorem d8_10 : decode prog_5_method_3_code 10 = .ok (.istore 4, 2) := by decide +kernel
theorem pd_6 : parseMethodDescriptor "(Ljava/lang/Object;Ljava/lang/String;)Ljava/lang/Object;" = some ⟨[(.object "java/lang/Object"), (.object "java/lang/String")], some (.object "java/lang/Object")⟩ := by decide +kernel
def roomare0 : Room := { frames := 2, cells := 2, slots := 24, locals := 26 }
theorem sgare0_0 {Z : State} {n0 : Nat} {h0 hh : Heap} (a1 : Addr) (p1 p2 : Int32) (fm : Value) (gC : Int32) (ac : Int32) (ss : own_ST Z gC fm) (O0 : Old Z n0 hh) (Z0 : n0 ≤ hh.size) (K0 : Keep h0 hh []) (C1 : own_CS0 Z hh a1 )  (hac : (1 : Int32) = ac) :
    SegH Z n0 h0 hh roomare0 2 24 prog_5_method_3_code 6 "pechat/card/Digits" "are" (some .boolean) (Qare0 Z  p1 p2 h0 n0) 12 #[.val (.ref a1), .val (.int p1), .val (.int p2), .val (.int ac), .val (.int (0 : Int32)), .unset] [] := by
  intro p l e s m args below meth c T0 locs a0 k0 vm0 X0 hx hZ hw hby hml hown hnm hret hlk e0 hs0 CR hS hk N0
  refine GoH.st (pc' := 14) (S' := [(.int (0 : Int32))]) (fun t_ k_ => XS.iload X0.here hx rfl (hb hby d8_12) rfl k_) ?_
  refine GoH.st (pc' := 15) (S' := [(.ref a1), (.int (0 : Int32))]) (fun t_ k_ => XS.aloadN X0.here hx rfl (hb hby d8_14) rfl rfl k_) ?_
  obtain ⟨cq1, kq1, q1a, q1b, q1c⟩ := isOf hZ e0 C1.exa
  obtain ⟨_, _, ⟨T1, L1, k1, n1⟩, -, X1, ⟨Lc1, hQ1, l1, y1, z1⟩, st1⟩ := X0.virtualBack hx (y := (⟨"java/lang/String", "length", "()I"⟩ : MethodName)) (z := (⟨"java/lang/String", "length", "()I"⟩ : MethodName)) hown (mvT hZ (wd hw 45 rfl)) (mvT hZ (wd hw 46 rfl)) (notFace_of_selects (args := #[]) (mvT hZ (wd hw 48 rfl))) (mvT hZ (wd hw 48 rfl)) (mvT hZ (wd hw 47 rfl)) (by decide) (backOf (W := 1) (rmlen0C l Z a0 hw [] a1 fm gC  hh n0 Z0 ss O0 C1 ) hZ (wd hw 49 rfl) (wd hw 7 rfl) (by decide) (by decide)) q1a q1c (g := (mkF m 15 #[.val (.ref a1), .val (.int p1), .val (.int p2), .val (.int ac), .val (.int (0 : Int32)), .unset] [(.ref a1), (.int (0 : Int32))])) rfl (by rw [hml]; rfl) (Steps.refl _) (argsL := []) (rest := [(.int (0 : Int32))]) (lenOf pd_5 rfl) rfl (by show 2 * 0 + _ ≤ _; exact Nat.le_of_eq rfl) (hb hby d8_15) (fun _ _ => ⟨rfl, e0, (by decide : 2 + 0 ≤ _), (by decide : 24 + 0 ≤ _)⟩)
  dsimp only [Pt.U, Pt.locs, Pt.cells, Pt.slots] at X1 l1 y1 z1 st1 hQ1
  subst l1 y1 z1
  obtain ⟨rfl, N1q, e1⟩ := hQ1
  have N1 := Fr.app N0 N1q
  refine GoH.tr (pc' := 18) (S' := [(.int (0 : Int32)), (.int (0 : Int32))]) st1 ?_
  refine GoH.st (pc' := 57) (S' := []) (fun t_ k_ => XS.icmpYes X1.here hx rfl (pc0 := 18) (pc' := 57) rfl (hb hby d8_18) rfl (flt (by decide : ¬ ((0 : Int32) < (0 : Int32)))).2.1 (by decide) (by decide) k_) ?_
  refine GoH.st (pc' := 58) (S' := [(.int ac)]) (fun t_ k_ => XS.iloadN X1.here hx rfl (hb hby d8_57) rfl k_) ?_
  by_cases hc58_2 : ac = (0 : Int32)
  · refine GoH.st (pc' := 81) (S' := []) (fun t_ k_ => XS.ifYes X1.here hx rfl (pc0 := 58) (pc' := 81) rfl (hb hby d8_58) rfl ((if0 _ _).trans (teq hc58_2).1) (by decide) (by decide) k_) ?_
    refine GoH.st (pc' := 82) (S' := [(.int (0 : Int32))]) (fun t_ k_ => XS.iconst X1.here hx rfl (hb hby d8_81) k_) ?_
    exact GoH.retN X1 hx hlk hret (by simp) (hb hby d8_82) (by decide) (by decide) hS hk e1 hs0 hZ (own_EW hw) CR (by rw [e1]; exact ⟨(by rw [show own_are (1 : Int32) (0 : Int32) p1 p2 = own_are ac (0 : Int32) p1 p2 from congrArg (fun u_ => own_are u_ (0 : Int32) p1 p2) hac, own_are, if_pos hc58_2]; rfl), N1, K0⟩)
  · refine GoH.st (pc' := 61) (S' := []) (fun t_ k_ => XS.ifNo X1.here hx rfl (hb hby d8_58) rfl ((if0 _ _).trans (feq hc58_2).1) k_) ?_
    refine GoH.st (pc' := 62) (S' := [(.ref a1)]) (fun t_ k_ => XS.aloadN X1.here hx rfl (hb hby d8_61) rfl rfl k_) ?_
    obtain ⟨cq3, kq3, q3a, q3b, q3c⟩ := isOf hZ e1 C1.exa
    obtain ⟨_, _, ⟨T3, L3, k3, n3⟩, -, X3, ⟨Lc3, hQ3, l3, y3, z3⟩, st3⟩ := X1.virtualBack hx (y := (⟨"java/lang/String", "length", "()I"⟩ : MethodName)) (z := (⟨"java/lang/String", "length", "()I"⟩ : MethodName)) hown (mvT hZ (wd hw 45 rfl)) (mvT hZ (wd hw 46 rfl)) (notFace_of_selects (args := #[]) (mvT hZ (wd hw 48 rfl))) (mvT hZ (wd hw 48 rfl)) (mvT hZ (wd hw 47 rfl)) (by decide) (backOf (W := 0) (rmlen0C l Z a0 hw [] a1 fm gC  hh n0 Z0 ss O0 C1 ) hZ (wd hw 49 rfl) (wd hw 7 rfl) (by decide) (by decide)) q3a q3c (g := (mkF m 62 #[.val (.ref a1), .val (.int p1), .val (.int p2), .val (.int ac), .val (.int (0 : Int32)), .unset] [(.ref a1)])) rfl (by rw [hml]; rfl) (Steps.refl _) (argsL := []) (rest := []) (lenOf pd_5 rfl) rfl (by show 2 * 0 + _ ≤ _; exact Nat.le_of_eq rfl) (hb hby d8_62) (fun _ _ => ⟨rfl, e1, (by decide : 2 + 0 ≤ _), (by decide : 24 + 0 ≤ _)⟩)
    dsimp only [Pt.U, Pt.locs, Pt.cells, Pt.slots] at X3 l3 y3 z3 st3 hQ3
    subst l3 y3 z3
    obtain ⟨rfl, N3q, e3⟩ := hQ3
    have N3 := Fr.app N1 N3q
    refine GoH.tr (pc' := 65) (S' := [(.int (0 : Int32))]) st3 ?_
    refine GoH.st (pc' := 66) (S' := [(.int p1), (.int (0 : Int32))]) (fun t_ k_ => XS.iloadN X3.here hx rfl (hb hby d8_65) rfl k_) ?_
    by_cases hc66_4 : (0 : Int32) < p1
    · refine GoH.st (pc' := 81) (S' := []) (fun t_ k_ => XS.icmpYes X3.here hx rfl (pc0 := 66) (pc' := 81) rfl (hb hby d8_66) rfl (tlt hc66_4).1 (by decide) (by decide) k_) ?_
      refine GoH.st (pc' := 82) (S' := [(.int (0 : Int32))]) (fun t_ k_ => XS.iconst X3.here hx rfl (hb hby d8_81) k_) ?_
      exact GoH.retN X3 hx hlk hret (by simp) (hb hby d8_82) (by decide) (by decide) hS hk e3 hs0 hZ (own_EW hw) CR (by rw [e3]; exact ⟨(by rw [show own_are (1 : Int32) (0 : Int32) p1 p2 = own_are ac (0 : Int32) p1 p2 from congrArg (fun u_ => own_are u_ (0 : Int32) p1 p2) hac, own_are, if_neg hc58_2, if_pos hc66_4]; rfl), N3, K0⟩)
    · refine GoH.st (pc' := 69) (S' := []) (fun t_ k_ => XS.icmpNo X3.here hx rfl (hb hby d8_66) rfl (flt hc66_4).1 k_) ?_
      refine GoH.st (pc' := 70) (S' := [(.ref a1)]) (fun t_ k_ => XS.aloadN X3.here hx rfl (hb hby d8_69) rfl rfl k_) ?_
      obtain ⟨cq5, kq5, q5a, q5b, q5c⟩ := isOf hZ e3 C1.exa
      obtain ⟨_, _, ⟨T5, L5, k5, n5⟩, -, X5, ⟨Lc5, hQ5, l5, y5, z5⟩, st5⟩ := X3.virtualBack hx (y := (⟨"java/lang/String", "length", "()I"⟩ : MethodName)) (z := (⟨"java/lang/String", "length", "()I"⟩ : MethodName)) hown (mvT hZ (wd hw 45 rfl)) (mvT hZ (wd hw 46 rfl)) (notFace_of_selects (args := #[]) (mvT hZ (wd hw 48 rfl))) (mvT hZ (wd hw 48 rfl)) (mvT hZ (wd hw 47 rfl)) (by decide) (backOf (W := 0) (rmlen0C l Z a0 hw [] a1 fm gC  hh n0 Z0 ss O0 C1 ) hZ (wd hw 49 rfl) (wd hw 7 rfl) (by decide) (by decide)) q5a q5c (g := (mkF m 70 #[.val (.ref a1), .val (.int p1), .val (.int p2), .val (.int ac), .val (.int (0 : Int32)), .unset] [(.ref a1)])) rfl (by rw [hml]; rfl) (Steps.refl _) (argsL := []) (rest := []) (lenOf pd_5 rfl) rfl (by show 2 * 0 + _ ≤ _; exact Nat.le_of_eq rfl) (hb hby d8_70) (fun _ _ => ⟨rfl, e3, (by decide : 2 + 0 ≤ _), (by decide : 24 + 0 ≤ _)⟩)
      dsimp only [Pt.U, Pt.locs, Pt.cells, Pt.slots] at X5 l5 y5 z5 st5 hQ5
      subst l5 y5 z5
      obtain ⟨rfl, N5q, e5⟩ := hQ5
      have N5 := Fr.app N3 N5q
      refine GoH.tr (pc' := 73) (S' := [(.int (0 : Int32))]) st5 ?_
      refine GoH.st (pc' := 74) (S' := [(.int p2), (.int (0 : Int32))]) (fun t_ k_ => XS.iloadN X5.here hx rfl (hb hby d8_73) rfl k_) ?_
      by_cases hc74_6 : p2 < (0 : Int32)
      · refine GoH.st (pc' := 81) (S' := []) (fun t_ k_ => XS.icmpYes X5.here hx rfl (pc0 := 74) (pc' := 81) rfl (hb hby d8_74) rfl (tlt hc74_6).2.2.1 (by decide) (by decide) k_) ?_
        refine GoH.st (pc' := 82) (S' := [(.int (0 : Int32))]) (fun t_ k_ => XS.iconst X5.here hx rfl (hb hby d8_81) k_) ?_
        exact GoH.retN X5 hx hlk hret (by simp) (hb hby d8_82) (by decide) (by decide) hS hk e5 hs0 hZ (own_EW hw) CR (by rw [e5]; exact ⟨(by rw [show own_are (1 : Int32) (0 : Int32) p1 p2 = own_are ac (0 : Int32) p1 p2 from congrArg (fun u_ => own_are u_ (0 : Int32) p1 p2) hac, own_are, if_neg hc58_2, if_neg hc66_4, if_pos hc74_6]; rfl), N5, K0⟩)
      · refine GoH.st (pc' := 77) (S' := []) (fun t_ k_ => XS.icmpNo X5.here hx rfl (hb hby d8_74) rfl (flt hc74_6).2.2.1 k_) ?_
        refine GoH.st (pc' := 78) (S' := [(.int (1 : Int32))]) (fun t_ k_ => XS.iconst X5.here hx rfl (hb hby d8_77) k_) ?_
        refine GoH.st (pc' := 82) (S' := [(.int (1 : Int32))]) (fun t_ k_ => XS.goto X5.here hx rfl (pc0 := 78) (pc' := 82) rfl (hb hby d8_78) (by decide) (by decide) k_) ?_
        exact GoH.retN X5 hx hlk hret (by simp) (hb hby d8_82) (by decide) (by decide) hS hk e5 hs0 hZ (own_EW hw) CR (by rw [e5]; exact ⟨(by rw [show own_are (1 : Int32) (0 : Int32) p1 p2 = own_are ac (0 : Int32) p1 p2 from congrArg (fun u_ => own_are u_ (0 : Int32) p1 p2) hac, own_are, if_neg hc58_2, if_neg hc66_4, if_neg hc74_6]; rfl), N5, K0⟩)
theorem rmare0 (l : Launch) (Z : State) (a0 : Array Value) (hw : ∀ d ∈ tables_1, d.before a0 Z = true) (ws : List Jvm.Cond) (a1 : Addr) (p1 p2 : Int32) (fm : Value) (gC : Int32) (h0 : Heap) (n0 : Nat) (Z0 : n0 ≤ h0.size) (ss : own_ST Z gC fm) (O0 : Old Z n0 h0) (C1 : own_CS0 Z h0 a1 )  :
    OMetH l (⟨"pechat/card/Digits", "are", "(Ljava/lang/String;II)Z"⟩ : MethodName) prog_5_method_3_code 6 (some .boolean) ws roomare0 #[(.ref a1), (.int p1), (.int p2)] Z h0 (Qare0 Z  p1 p2 h0 n0) := by
  refine own_metH (Q := (Qare0 Z  p1 p2 h0 n0)) (L0 := #[.val (.ref a1), .val (.int p1), .val (.int p2), .unset, .unset, .unset]) (plainFor_of_name pn_4) (fun m => by first | (simp [entryFrame, mkF, argsToLocals, Value.category]; done) | rfl) ?_
  intro p e s m below meth c T0 X0 hx hby hml hown hnm hret hlk hZ e0 hs0 CR hS hk
  have N0 := Fr.nil n0
  have K0 := Keep.refl h0 []
  refine GoH.st (pc' := 1) (S' := [(.ref a1)]) (fun t_ k_ => XS.aloadN X0.here hx rfl (hb hby d8_0) rfl rfl k_) ?_
  obtain ⟨a1_, T1, h1, k1, X1, e1, E1, hS1, hk1, hZ1, ho1, CR1, -, st1⟩ := ldcOH X0 hx hZ hown (wd hw 38 rfl) (own_wS hw) e0 hS hk (own_EW hw) CR.1 (g := (mkF m 1 #[.val (.ref a1), .val (.int p1), .val (.int p2), .unset, .unset, .unset] [(.ref a1)])) rfl (hb hby d8_1) (n := 20) (by decide) (by decide) (by decide) (by decide)
  replace CR := CR.trans CR1
  replace Z0 := Nat.le_trans Z0 E1.1
  replace O0 := O0.ext E1
  replace C1 := C1.ext E1
  replace K0 := K0.ext E1
  replace hZ := hZ1
  replace hown := ho1
  replace hS := hS1
  replace hk := hk1
  refine GoH.st (pc' := 3) (S' := [(.ref a1_), (.ref a1)]) st1 ?_
  obtain ⟨_, _, ⟨T2, L2, k2, n2⟩, -, X2, ⟨Lc2, hQ2, l2, y2, z2⟩, st2⟩ := Jvm.LawKit.callS X1 hx (y := (⟨"java/util/Objects", "requireNonNull", "(Ljava/lang/Object;Ljava/lang/String;)Ljava/lang/Object;"⟩ : MethodName)) hown (mvT hZ (wd hw 41 rfl)) (mvT hZ (wd hw 42 rfl)) (mvT hZ (wd hw 43 rfl)) (mvT hZ (wd hw 44 rfl)) (by decide) (backOf (W := 0) (rm9 l Z a0 hw [] a1 a1_ h1 n0 Z0) hZ (wd hw 44 rfl) (wd hw 43 rfl) (by decide) (by decide)) (g := (mkF m 3 #[.val (.ref a1), .val (.int p1), .val (.int p2), .unset, .unset, .unset] [(.ref a1_), (.ref a1)])) rfl (by rw [hml]; rfl) (argsL := [(.ref a1), (.ref a1_)]) (rest := []) (lenOf pd_6 rfl) rfl (by show 2 * 0 + _ ≤ _; exact Nat.le_of_eq rfl) (hb hby d8_3) (fun _ _ => ⟨rfl, e1, (by decide : 2 + 0 ≤ _), (by decide : 24 + 0 ≤ _)⟩)
  dsimp only [Pt.U, Pt.locs, Pt.cells, Pt.slots] at X2 l2 y2 z2 st2 hQ2
  subst l2 y2 z2
  obtain ⟨rfl, N2q, e2⟩ := hQ2
  have N2 := Fr.app N0 N2q
  refine GoH.st (pc' := 6) (S' := [(.ref a1)]) st2 ?_
  refine GoH.st (pc' := 7) (S' := []) (fun t_ k_ => XS.pop X2.here hx rfl (hb hby d8_6) rfl rfl k_) ?_
  refine GoH.st (pc' := 8) (S' := [(.int (1 : Int32))]) (fun t_ k_ => XS.iconst X2.here hx rfl (hb hby d8_7) k_) ?_
  refine GoH.st (pc' := 9) (S' := []) (fun t_ k_ => XS.istoreN X2.here hx rfl (hb hby d8_8) rfl (l' := #[.val (.ref a1), .val (.int p1), .val (.int p2), .val (.int (1 : Int32)), .unset, .unset]) rfl k_) ?_
  refine GoH.st (pc' := 10) (S' := [(.int (0 : Int32))]) (fun t_ k_ => XS.iconst X2.here hx rfl (hb hby d8_9) k_) ?_
  refine GoH.st (pc' := 12) (S' := []) (fun t_ k_ => XS.istore X2.here hx rfl (hb hby d8_10) rfl (l' := #[.val (.ref a1), .val (.int p1), .val (.int p2), .val (.int (1 : Int32)), .val (.int (0 : Int32)), .unset]) rfl k_) ?_
  exact sgare0_0 a1 p1 p2 fm gC  (1 : Int32) ss O0 Z0 K0 C1  rfl (Stand.up X2 (by decide) (by decide)) hx hZ hw hby hml hown hnm hret hlk e2 hs0 CR hS hk N2
def Qare1 (Z : State) (x0 : Int32) (p1 : Int32) (p2 : Int32) (h0 : Heap) (n0 : Nat) (v : Option Value) (h : Heap) (L : List Loc) : Prop := v = some (.int (own_are ((1 : Int32) &&& own_dg x0) (1 : Int32) p1 p2)) ∧ Fr n0 L ∧ Keep h0 h []

def Qlen1L (Z : State) (a1 : Addr) (t1 : Addr) (k1 : ClassId) (gC : Int32) (x0 : Int32) (h0 : Heap) (n0 : Nat) (v : Option Value) (h : Heap) (L : List Loc) : Prop := v = some (.int 1) ∧ Fr n0 L ∧ h = h0
def roomlen1L : Room := { frames := 1, cells := 0, slots := 0, locals := 13 }
theorem rmlen1L (l : Launch) (Z : State) (a0 : Array Value) (hw : ∀ d ∈ tables_1, d.before a0 Z = true) (ws : List Jvm.Cond) (a1 : Addr) (t1 : Addr) (k1 : ClassId) (gC : Int32) (x0 : Int32) (h0 : Heap) (n0 : Nat) (Z0 : n0 ≤ h0.size) (SC : Sta Z Z.heap "java/lang/String" "COMPACT_STRINGS" "Z" (.int gC)) (PC : ¬ (gC = (0 : Int32))) (O0 : Old Z n0 h0) (E_a1 : Exa Z h0 a1 "java/lang/String") (Fc_a1 : Fld Z h0 a1 "java/lang/String" "coder" "B" (.int (0 : Int32))) (Fv_a1 : Fld Z h0 a1 "java/lang/String" "value" "[B" (.ref t1)) (V_t1 : Arv Z h0 t1 k1 .byte (1 : Int32) [(.int (x0.toInt8.toInt32))] (.int (0 : Int32))) :
    OMet l (⟨"java/lang/String", "length", "()I"⟩ : MethodName) jdk_42_method_54_code 1 (some .int) ws roomlen1L #[(.ref a1)] Z h0 (Qlen1L Z a1 t1 k1 gC x0 h0 n0) := by
  refine own_met (Q := (Qlen1L Z a1 t1 k1 gC x0 h0 n0)) (L0 := #[.val (.ref a1)]) (plainFor_of_name pn_0) (fun m => by first | (simp [entryFrame, mkF, argsToLocals, Value.category]; done) | rfl) ?_
  intro p e s m below meth c T0 X0 hx hby hml hown hnm hret hlk hZ e0
  have N0 := Fr.nil n0
  refine Go.st (pc' := 1) (S' := [(.ref a1)]) (fun t_ k_ => XS.aloadN X0.here hx rfl (hb hby d10_0) rfl rfl k_) ?_
  obtain ⟨T1, X1, e1, st1⟩ := getF X0 hx hZ hown (host := "") (Or.inl (wd hw 27 rfl)) Via.refl e0 Fv_a1 (g := (mkF m 1 #[.val (.ref a1)] [(.ref a1)])) rfl rfl (hb hby d10_1)
  refine Go.st (pc' := 4) (S' := [(.ref t1)]) st1 ?_
  obtain ⟨cl2, Ar2, -, q2a, q2b, -, -⟩ := id V_t1
  refine Go.st (pc' := 5) (S' := [(.int (1 : Int32))]) (fun t_ k_ => own_len X1 hx hZ e1 Ar2 q2a q2b (g := (mkF m 4 #[.val (.ref a1)] [(.ref t1)])) rfl rfl (hb hby d10_4) t_ k_) ?_
  refine Go.st (pc' := 6) (S' := [(.ref a1), (.int (1 : Int32))]) (fun t_ k_ => XS.aloadN X1.here hx rfl (hb hby d10_5) rfl rfl k_) ?_
  obtain ⟨cq3, kq3, q3a, q3b, q3c⟩ := isOf hZ e1 E_a1
  obtain ⟨_, _, ⟨T3, L3, k3, n3⟩, -, X3, ⟨Lc3, hQ3, l3, y3, z3⟩, st3⟩ := X1.virtualBack hx (y := (⟨"java/lang/String", "coder", "()B"⟩ : MethodName)) (z := (⟨"java/lang/String", "coder", "()B"⟩ : MethodName)) hown (mvT hZ (wd hw 50 rfl)) (mvT hZ (wd hw 51 rfl)) (notFace_of_selects (args := #[]) (mvT hZ (wd hw 53 rfl))) (mvT hZ (wd hw 53 rfl)) (mvT hZ (wd hw 52 rfl)) (by decide) (backOf (W := 1) (rm11 l Z a0 hw [] a1 gC h0 n0 Z0 SC PC O0 Fc_a1) hZ (wd hw 54 rfl) (wd hw 7 rfl) (by decide) (by decide)) q3a q3c (g := (mkF m 6 #[.val (.ref a1)] [(.ref a1), (.int (1 : Int32))])) rfl (by rw [hml]; rfl) (Steps.refl _) (argsL := []) (rest := [(.int (1 : Int32))]) (lenOf pd_4 rfl) rfl (by show 2 * 0 + _ ≤ _; exact Nat.le_of_eq rfl) (hb hby d10_6) (fun _ _ => ⟨rfl, e1, (by decide : 0 + 0 ≤ _), (by decide : 0 + 0 ≤ _)⟩)
  dsimp only [Pt.U, Pt.locs, Pt.cells, Pt.slots] at X3 l3 y3 z3 st3 hQ3
  subst l3 y3 z3
  obtain ⟨rfl, N3q, e3⟩ := hQ3
  have N3 := Fr.app N0 N3q
  refine Go.tr (pc' := 9) (S' := [(.int (0 : Int32)), (.int (1 : Int32))]) st3 ?_
  refine Go.st (pc' := 10) (S' := [(.int ((1 : Int32) >>> ((0 : Int32) &&& 31)))]) (fun t_ k_ => XS.ishr X3.here hx rfl (hb hby d10_9) rfl k_) ?_
  rw [show ((1 : Int32) >>> ((0 : Int32) &&& 31)) = (1 : Int32) from by decide]
  exact Go.retO X3 hx hlk hret rfl (by simp [FieldType.isReference, Value.isRef]) (hb hby d10_10) (by decide) (by decide) (by rw [e3]; exact ⟨rfl, N3, rfl⟩)

def QcoderU (Z : State) (a1 : Addr) (gC : Int32) (h0 : Heap) (n0 : Nat) (v : Option Value) (h : Heap) (L : List Loc) : Prop := v = some (.int 1) ∧ Fr n0 L ∧ h = h0
def roomcoderU : Room := { frames := 0, cells := 0, slots := 0, locals := 0 }
theorem rmcoderU (l : Launch) (Z : State) (a0 : Array Value) (hw : ∀ d ∈ tables_1, d.before a0 Z = true) (ws : List Jvm.Cond) (a1 : Addr) (gC : Int32) (h0 : Heap) (n0 : Nat) (Z0 : n0 ≤ h0.size) (SC : Sta Z Z.heap "java/lang/String" "COMPACT_STRINGS" "Z" (.int gC)) (PC : ¬ (gC = (0 : Int32))) (O0 : Old Z n0 h0) (Fc : Fld Z h0 a1 "java/lang/String" "coder" "B" (.int (1 : Int32))) :
    OMet l (⟨"java/lang/String", "coder", "()B"⟩ : MethodName) jdk_42_method_152_code 1 (some .byte) ws roomcoderU #[(.ref a1)] Z h0 (QcoderU Z a1 gC h0 n0) := by
  refine own_met (Q := (QcoderU Z a1 gC h0 n0)) (L0 := #[.val (.ref a1)]) (plainFor_of_name pn_0) (fun m => by first | (simp [entryFrame, mkF, argsToLocals, Value.category]; done) | rfl) ?_
  intro p e s m below meth c T0 X0 hx hby hml hown hnm hret hlk hZ e0
  have N0 := Fr.nil n0
  obtain ⟨T1, X1, e1, st1⟩ := getS2 X0 hx hZ hown (host := "") (Or.inl (wd hw 9 rfl)) Via.refl e0 (SC.ext O0.2) (g := (mkF m 0 #[.val (.ref a1)] [])) rfl (hb hby d11_0)
  refine Go.st (pc' := 3) (S' := [(.int gC)]) st1 ?_
  refine Go.st (pc' := 6) (S' := []) (fun t_ k_ => XS.ifNo X1.here hx rfl (hb hby d11_3) rfl ((if0 _ _).trans (feq (PC : ¬ (gC = (0 : Int32)))).1) k_) ?_
  refine Go.st (pc' := 7) (S' := [(.ref a1)]) (fun t_ k_ => XS.aloadN X1.here hx rfl (hb hby d11_6) rfl rfl k_) ?_
  obtain ⟨T2, X2, e2, st2⟩ := getF X1 hx hZ hown (host := "") (Or.inl (wd hw 29 rfl)) Via.refl e1 Fc (g := (mkF m 7 #[.val (.ref a1)] [(.ref a1)])) rfl rfl (hb hby d11_7)
  refine Go.st (pc' := 10) (S' := [(.int (1 : Int32))]) st2 ?_
  refine Go.st (pc' := 14) (S' := [(.int (1 : Int32))]) (fun t_ k_ => XS.goto X2.here hx rfl (pc0 := 10) (pc' := 14) rfl (hb hby d11_10) (by decide) (by decide) k_) ?_
  exact Go.retN X2 hx hlk hret (by simp) (hb hby d11_14) (by decide) (by decide) (by rw [e2]; exact ⟨rfl, N0, rfl⟩)

def Qlen1U (Z : State) (a1 : Addr) (t1 : Addr) (k1 : ClassId) (gC : Int32) (x0 : Int32) (h0 : Heap) (n0 : Nat) (v : Option Value) (h : Heap) (L : List Loc) : Prop := v = some (.int 1) ∧ Fr n0 L ∧ h = h0
def roomlen1U : Room := { frames := 1, cells := 0, slots := 0, locals := 13 }
theorem rmlen1U (l : Launch) (Z : State) (a0 : Array Value) (hw : ∀ d ∈ tables_1, d.before a0 Z = true) (ws : List Jvm.Cond) (a1 : Addr) (t1 : Addr) (k1 : ClassId) (gC : Int32) (x0 : Int32) (h0 : Heap) (n0 : Nat) (Z0 : n0 ≤ h0.size) (SC : Sta Z Z.heap "java/lang/String" "COMPACT_STRINGS" "Z" (.int gC)) (PC : ¬ (gC = (0 : Int32))) (O0 : Old Z n0 h0) (E_a1 : Exa Z h0 a1 "java/lang/String") (Fc_a1 : Fld Z h0 a1 "java/lang/String" "coder" "B" (.int (1 : Int32))) (Fv_a1 : Fld Z h0 a1 "java/lang/String" "value" "[B" (.ref t1)) (V_t1 : Arv Z h0 t1 k1 .byte (2 : Int32) [(.int (own_lo x0)), (.int (own_hi x0))] (.int (0 : Int32))) :
    OMet l (⟨"java/lang/String", "length", "()I"⟩ : MethodName) jdk_42_method_54_code 1 (some .int) ws roomlen1U #[(.ref a1)] Z h0 (Qlen1U Z a1 t1 k1 gC x0 h0 n0) := by
  refine own_met (Q := (Qlen1U Z a1 t1 k1 gC x0 h0 n0)) (L0 := #[.val (.ref a1)]) (plainFor_of_name pn_0) (fun m => by first | (simp [entryFrame, mkF, argsToLocals, Value.category]; done) | rfl) ?_
  intro p e s m below meth c T0 X0 hx hby hml hown hnm hret hlk hZ e0
  have N0 := Fr.nil n0
  refine Go.st (pc' := 1) (S' := [(.ref a1)]) (fun t_ k_ => XS.aloadN X0.here hx rfl (hb hby d10_0) rfl rfl k_) ?_
  obtain ⟨T1, X1, e1, st1⟩ := getF X0 hx hZ hown (host := "") (Or.inl (wd hw 27 rfl)) Via.refl e0 Fv_a1 (g := (mkF m 1 #[.val (.ref a1)] [(.ref a1)])) rfl rfl (hb hby d10_1)
  refine Go.st (pc' := 4) (S' := [(.ref t1)]) st1 ?_
  obtain ⟨cl2, Ar2, -, q2a, q2b, -, -⟩ := id V_t1
  refine Go.st (pc' := 5) (S' := [(.int (2 : Int32))]) (fun t_ k_ => own_len X1 hx hZ e1 Ar2 q2a q2b (g := (mkF m 4 #[.val (.ref a1)] [(.ref t1)])) rfl rfl (hb hby d10_4) t_ k_) ?_
  refine Go.st (pc' := 6) (S' := [(.ref a1), (.int (2 : Int32))]) (fun t_ k_ => XS.aloadN X1.here hx rfl (hb hby d10_5) rfl rfl k_) ?_
  obtain ⟨cq3, kq3, q3a, q3b, q3c⟩ := isOf hZ e1 E_a1
  obtain ⟨_, _, ⟨T3, L3, k3, n3⟩, -, X3, ⟨Lc3, hQ3, l3, y3, z3⟩, st3⟩ := X1.virtualBack hx (y := (⟨"java/lang/String", "coder", "()B"⟩ : MethodName)) (z := (⟨"java/lang/String", "coder", "()B"⟩ : MethodName)) hown (mvT hZ (wd hw 50 rfl)) (mvT hZ (wd hw 51 rfl)) (notFace_of_selects (args := #[]) (mvT hZ (wd hw 53 rfl))) (mvT hZ (wd hw 53 rfl)) (mvT hZ (wd hw 52 rfl)) (by decide) (backOf (W := 1) (rmcoderU l Z a0 hw [] a1 gC h0 n0 Z0 SC PC O0 Fc_a1) hZ (wd hw 54 rfl) (wd hw 7 rfl) (by decide) (by decide)) q3a q3c (g := (mkF m 6 #[.val (.ref a1)] [(.ref a1), (.int (2 : Int32))])) rfl (by rw [hml]; rfl) (Steps.refl _) (argsL := []) (rest := [(.int (2 : Int32))]) (lenOf pd_4 rfl) rfl (by show 2 * 0 + _ ≤ _; exact Nat.le_of_eq rfl) (hb hby d10_6) (fun _ _ => ⟨rfl, e1, (by decide : 0 + 0 ≤ _), (by decide : 0 + 0 ≤ _)⟩)
  dsimp only [Pt.U, Pt.locs, Pt.cells, Pt.slots] at X3 l3 y3 z3 st3 hQ3
  subst l3 y3 z3
  obtain ⟨rfl, N3q, e3⟩ := hQ3
  have N3 := Fr.app N0 N3q
  refine Go.tr (pc' := 9) (S' := [(.int (1 : Int32)), (.int (2 : Int32))]) st3 ?_
  refine Go.st (pc' := 10) (S' := [(.int ((2 : Int32) >>> ((1 : Int32) &&& 31)))]) (fun t_ k_ => XS.ishr X3.here hx rfl (hb hby d10_9) rfl k_) ?_
  rw [show ((2 : Int32) >>> ((1 : Int32) &&& 31)) = (1 : Int32) from by decide]
  exact Go.retO X3 hx hlk hret rfl (by simp [FieldType.isReference, Value.isRef]) (hb hby d10_10) (by decide) (by decide) (by rw [e3]; exact ⟨rfl, N3, rfl⟩)
def Qlen1C (Z : State)  (h0 : Heap) (n0 : Nat) (v : Option Value) (h : Heap) (L : List Loc) : Prop := v = some (.int 1) ∧ Fr n0 L ∧ h = h0
theorem rmlen1C (l : Launch) (Z : State) (a0 : Array Value) (hw : ∀ d ∈ tables_1, d.before a0 Z = true) (ws : List Jvm.Cond) (a1 : Addr) (fm : Value) (gC : Int32) (x0 : Int32) (h0 : Heap) (n0 : Nat) (Z0 : n0 ≤ h0.size) (ss : own_ST Z gC fm) (O0 : Old Z n0 h0) (C1 : own_CS1 Z h0 a1 x0) (bd0 : own_bd x0) :
    OMet l (⟨"java/lang/String", "length", "()I"⟩ : MethodName) jdk_42_method_54_code 1 (some .int) ws roomlen1L #[(.ref a1)] Z h0 (Qlen1C Z  h0 n0) := by
  obtain ⟨SC, PC, hfm, SF, SD, SH, SL⟩ := id ss
  obtain ⟨E_a1, t1, k1, ⟨Fc, Fv, V1, la0, -⟩ | ⟨Fc, Fv, V1⟩⟩ := C1
  · exact rmlen1L l Z a0 hw ws a1 t1 k1 gC x0 h0 n0 Z0 SC PC O0 E_a1 Fc Fv V1
  · exact rmlen1U l Z a0 hw ws a1 t1 k1 gC x0 h0 n0 Z0 SC PC O0 E_a1 Fc Fv V1

theorem d13_0 : decode jdk_42_method_154_code 0 = .ok (.getstatic 38, 3) := by decide +kernel
theorem d13_3 : decode jdk_42_method_154_code 3 = .ok (.ifCond .eq 14, 3) := by decide +kernel
theorem d13_6 : decode jdk_42_method_154_code 6 = .ok (.aload_n 0, 1) := by decide +kernel
theorem d13_7 : decode jdk_42_method_154_code 7 = .ok (.getfield 15, 3) := by decide +kernel
theorem d13_10 : decode jdk_42_method_154_code 10 = .ok (.ifCond .ne 7, 3) := by decide +kernel
theorem d13_13 : decode jdk_42_method_154_code 13 = .ok (.iconst 1, 1) := by decide +kernel
theorem d13_14 : decode jdk_42_method_154_code 14 = .ok (.goto 4, 3) := by decide +kernel
theorem d13_18 : decode jdk_42_method_154_code 18 = .ok (.ireturn, 1) := by decide +kernel
def Q13 (Z : State) (a1 : Addr) (gC : Int32) (h0 : Heap) (n0 : Nat) (v : Option Value) (h : Heap) (L : List Loc) : Prop := v = some (.int 1) ∧ Fr n0 L ∧ h = h0
def room13 : Room := { frames := 0, cells := 0, slots := 0, locals := 0 }
theorem rm13 (l : Launch) (Z : State) (a0 : Array Value) (hw : ∀ d ∈ tables_1, d.before a0 Z = true) (ws : List Jvm.Cond) (a1 : Addr) (gC : Int32) (h0 : Heap) (n0 : Nat) (Z0 : n0 ≤ h0.size) (SC : Sta Z Z.heap "java/lang/String" "COMPACT_STRINGS" "Z" (.int gC)) (PC : ¬ (gC = (0 : Int32))) (O0 : Old Z n0 h0) (Fc : Fld Z h0 a1 "java/lang/String" "coder" "B" (.int (0 : Int32))) :
    OMet l (⟨"java/lang/String", "isLatin1", "()Z"⟩ : MethodName) jdk_42_method_154_code 1 (some .boolean) ws room13 #[(.ref a1)] Z h0 (Q13 Z a1 gC h0 n0) := by
  refine own_met (Q := (Q13 Z a1 gC h0 n0)) (L0 := #[.val (.ref a1)]) (plainFor_of_name pn_0) (fun m => by first | (simp [entryFrame, mkF, argsToLocals, Value.category]; done) | rfl) ?_
  intro p e s m below meth c T0 X0 hx hby hml hown hnm hret hlk hZ e0
  have N0 := Fr.nil n0
  obtain ⟨T1, X1, e1, st1⟩ := getS2 X0 hx hZ hown (host := "") (Or.inl (wd hw 9 rfl)) Via.refl e0 (SC.ext O0.2) (g := (mkF m 0 #[.val (.ref a1)] [])) rfl (hb hby d13_0)
  refine Go.st (pc' := 3) (S' := [(.int gC)]) st1 ?_
  refine Go.st (pc' := 6) (S' := []) (fun t_ k_ => XS.ifNo X1.here hx rfl (hb hby d13_3) rfl ((if0 _ _).trans (feq (PC : ¬ (gC = (0 : Int32)))).1) k_) ?_
  refine Go.st (pc' := 7) (S' := [(.ref a1)]) (fun t_ k_ => XS.aloadN X1.here hx rfl (hb hby d13_6) rfl rfl k_) ?_
  obtain ⟨T2, X2, e2, st2⟩ := getF X1 hx hZ hown (host := "") (Or.inl (wd hw 29 rfl)) Via.refl e1 Fc (g := (mkF m 7 #[.val (.ref a1)] [(.ref a1)])) rfl rfl (hb hby d13_7)
  refine Go.st (pc' := 10) (S' := [(.int (0 : Int32))]) st2 ?_
  refine Go.st (pc' := 13) (S' := []) (fun t_ k_ => XS.ifNo X2.here hx rfl (hb hby d13_10) rfl ((if0 _ _).trans (teq (by decide : ((0 : Int32) = (0 : Int32)))).2) k_) ?_
  refine Go.st (pc' := 14) (S' := [(.int (1 : Int32))]) (fun t_ k_ => XS.iconst X2.here hx rfl (hb hby d13_13) k_) ?_
  refine Go.st (pc' := 18) (S' := [(.int (1 : Int32))]) (fun t_ k_ => XS.goto X2.here hx rfl (pc0 := 14) (pc' := 18) rfl (hb hby d13_14) (by decide) (by decide) k_) ?_
  exact Go.retN X2 hx hlk hret (by simp) (hb hby d13_18) (by decide) (by decide) (by rw [e2]; exact ⟨rfl, N0, rfl⟩)
theorem d16_0 : decode jdk_41_method_11_code 0 = .ok (.iload_n 0, 1) := by decide +kernel
theorem d16_1 : decode jdk_41_method_11_code 1 = .ok (.ifCond .lt 8, 3) := by decide +kernel
theorem d16_4 : decode jdk_41_method_11_code 4 = .ok (.iload_n 0, 1) := by decide +kernel
theorem d16_5 : decode jdk_41_method_11_code 5 = .ok (.iload_n 1, 1) := by decide +kernel
theorem d16_6 : decode jdk_41_method_11_code 6 = .ok (.if_icmp .lt 10, 3) := by decide +kernel
theorem d16_16 : decode jdk_41_method_11_code 16 = .ok (.iload_n 0, 1) := by decide +kernel
theorem d16_17 : decode jdk_41_method_11_code 17 = .ok (.ireturn, 1) := by decide +kernel
theorem pd_7 : parseMethodDescriptor "()Z" = some ⟨[], some .boolean⟩ := by decide +kernel
theorem pn_5 : plainName "jdk/internal/util/Preconditions" = true := by first | (simp [plainName, overriddenIn]; done) | decide +kernel
def QckR (Z : State) (i : Nat) (k : Nat) (fa : Addr) (h0 : Heap) (n0 : Nat) (v : Option Value) (h : Heap) (L : List Loc) : Prop := v = some (.int (i.toInt32)) ∧ Fr n0 L ∧ h = h0
def roomckR : Room := { frames := 0, cells := 0, slots := 0, locals := 0 }
theorem rmckR (l : Launch) (Z : State) (a0 : Array Value) (hw : ∀ d ∈ tables_1, d.before a0 Z = true) (ws : List Jvm.Cond) (i : Nat) (k : Nat) (fa : Addr) (h0 : Heap) (n0 : Nat) (Z0 : n0 ≤ h0.size) (hi : i < k) (hk : k < 2147483648) :
    OMet l (⟨"jdk/internal/util/Preconditions", "checkIndex", "(IILjava/util/function/BiFunction;)I"⟩ : MethodName) jdk_41_method_11_code 3 (some .int) ws roomckR #[(.int (i.toInt32)), (.int (k.toInt32)), (.ref fa)] Z h0 (QckR Z i k fa h0 n0) := by
  refine own_met (Q := (QckR Z i k fa h0 n0)) (L0 := #[.val (.int (i.toInt32)), .val (.int (k.toInt32)), .val (.ref fa)]) (plainFor_of_name pn_5) (fun m => by first | (simp [entryFrame, mkF, argsToLocals, Value.category]; done) | rfl) ?_
  intro p e s m below meth c T0 X0 hx hby hml hown hnm hret hlk hZ e0
  have N0 := Fr.nil n0
  refine Go.st (pc' := 1) (S' := [(.int (i.toInt32))]) (fun t_ k_ => XS.iloadN X0.here hx rfl (hb hby d16_0) rfl k_) ?_
  refine Go.st (pc' := 4) (S' := []) (fun t_ k_ => XS.ifNo X0.here hx rfl (hb hby d16_1) rfl ((if0 _ _).trans (flt (own_nnN (by omega) : ¬ ((i.toInt32) < (0 : Int32)))).1) k_) ?_
  refine Go.st (pc' := 5) (S' := [(.int (i.toInt32))]) (fun t_ k_ => XS.iloadN X0.here hx rfl (hb hby d16_4) rfl k_) ?_
  refine Go.st (pc' := 6) (S' := [(.int (k.toInt32)), (.int (i.toInt32))]) (fun t_ k_ => XS.iloadN X0.here hx rfl (hb hby d16_5) rfl k_) ?_
  refine Go.st (pc' := 16) (S' := []) (fun t_ k_ => XS.icmpYes X0.here hx rfl (pc0 := 6) (pc' := 16) rfl (hb hby d16_6) rfl (tlt ((own_ltI (by omega) (by omega)).mpr hi : ((i.toInt32) < (k.toInt32)))).1 (by decide) (by decide) k_) ?_
  refine Go.st (pc' := 17) (S' := [(.int (i.toInt32))]) (fun t_ k_ => XS.iloadN X0.here hx rfl (hb hby d16_16) rfl k_) ?_
  exact Go.retO X0 hx hlk hret rfl (by simp [FieldType.isReference, Value.isRef]) (hb hby d16_17) (by decide) (by decide) (by rw [e0]; exact ⟨rfl, N0, rfl⟩)

def QckN (Z : State) (i : Nat) (k : Nat) (h0 : Heap) (n0 : Nat) (v : Option Value) (h : Heap) (L : List Loc) : Prop := v = some (.int (i.toInt32)) ∧ Fr n0 L ∧ h = h0
def roomckN : Room := { frames := 0, cells := 0, slots := 0, locals := 0 }
theorem rmckN (l : Launch) (Z : State) (a0 : Array Value) (hw : ∀ d ∈ tables_1, d.before a0 Z = true) (ws : List Jvm.Cond) (i : Nat) (k : Nat) (h0 : Heap) (n0 : Nat) (Z0 : n0 ≤ h0.size) (hi : i < k) (hk : k < 2147483648) :
    OMet l (⟨"jdk/internal/util/Preconditions", "checkIndex", "(IILjava/util/function/BiFunction;)I"⟩ : MethodName) jdk_41_method_11_code 3 (some .int) ws roomckN #[(.int (i.toInt32)), (.int (k.toInt32)), .null] Z h0 (QckN Z i k h0 n0) := by
  refine own_met (Q := (QckN Z i k h0 n0)) (L0 := #[.val (.int (i.toInt32)), .val (.int (k.toInt32)), .val .null]) (plainFor_of_name pn_5) (fun m => by first | (simp [entryFrame, mkF, argsToLocals, Value.category]; done) | rfl) ?_
  intro p e s m below meth c T0 X0 hx hby hml hown hnm hret hlk hZ e0
  have N0 := Fr.nil n0
  refine Go.st (pc' := 1) (S' := [(.int (i.toInt32))]) (fun t_ k_ => XS.iloadN X0.here hx rfl (hb hby d16_0) rfl k_) ?_
  refine Go.st (pc' := 4) (S' := []) (fun t_ k_ => XS.ifNo X0.here hx rfl (hb hby d16_1) rfl ((if0 _ _).trans (flt (own_nnN (by omega) : ¬ ((i.toInt32) < (0 : Int32)))).1) k_) ?_
  refine Go.st (pc' := 5) (S' := [(.int (i.toInt32))]) (fun t_ k_ => XS.iloadN X0.here hx rfl (hb hby d16_4) rfl k_) ?_
  refine Go.st (pc' := 6) (S' := [(.int (k.toInt32)), (.int (i.toInt32))]) (fun t_ k_ => XS.iloadN X0.here hx rfl (hb hby d16_5) rfl k_) ?_
  refine Go.st (pc' := 16) (S' := []) (fun t_ k_ => XS.icmpYes X0.here hx rfl (pc0 := 6) (pc' := 16) rfl (hb hby d16_6) rfl (tlt ((own_ltI (by omega) (by omega)).mpr hi : ((i.toInt32) < (k.toInt32)))).1 (by decide) (by decide) k_) ?_
  refine Go.st (pc' := 17) (S' := [(.int (i.toInt32))]) (fun t_ k_ => XS.iloadN X0.here hx rfl (hb hby d16_16) rfl k_) ?_
  exact Go.retO X0 hx hlk hret rfl (by simp [FieldType.isReference, Value.isRef]) (hb hby d16_17) (by decide) (by decide) (by rw [e0]; exact ⟨rfl, N0, rfl⟩)
theorem rmck (l : Launch) (Z : State) (a0 : Array Value) (hw : ∀ d ∈ tables_1, d.before a0 Z = true) (ws : List Jvm.Cond) (i : Nat) (k : Nat) (fm : Value) (h0 : Heap) (n0 : Nat) (Z0 : n0 ≤ h0.size) (hfm : fm.isRef = true) (hi : i < k) (hk : k < 2147483648) :
    OMet l (⟨"jdk/internal/util/Preconditions", "checkIndex", "(IILjava/util/function/BiFunction;)I"⟩ : MethodName) jdk_41_method_11_code 3 (some .int) ws roomckN #[(.int (i.toInt32)), (.int (k.toInt32)), fm] Z h0 (QckN Z i k h0 n0) := by
  rcases ref_cases hfm with rfl | ⟨a, rfl⟩
  · exact rmckN l Z a0 hw ws i k h0 n0 Z0 hi hk
  · exact rmckR l Z a0 hw ws i k a h0 n0 Z0 hi hk
theorem d15_0 : decode jdk_42_method_155_code 0 = .ok (.iload_n 0, 1) := by decide +kernel
theorem d15_1 : decode jdk_42_method_155_code 1 = .ok (.iload_n 1, 1) := by decide +kernel
theorem d15_2 : decode jdk_42_method_155_code 2 = .ok (.getstatic 1053, 3) := by decide +kernel
theorem d15_5 : decode jdk_42_method_155_code 5 = .ok (.invokestatic 1059, 3) := by decide +kernel
theorem d15_8 : decode jdk_42_method_155_code 8 = .ok (.pop, 1) := by decide +kernel
theorem d15_9 : decode jdk_42_method_155_code 9 = .ok (.return_, 1) := by decide +kernel
theorem pd_8 : parseMethodDescriptor "(IILjava/util/function/BiFunction;)I" = some ⟨[.int, .int, (.object "java/util/function/BiFunction")], some .int⟩ := by decide +kernel
def Q15 (Z : State) (i : Nat) (k : Nat) (fm : Value) (h0 : Heap) (n0 : Nat) (v : Option Value) (h : Heap) (L : List Loc) : Prop := v = none ∧ Fr n0 L ∧ h = h0
def room15 : Room := { frames := 1, cells := 0, slots := 0, locals := 14 }
theorem rm15 (l : Launch) (Z : State) (a0 : Array Value) (hw : ∀ d ∈ tables_1, d.before a0 Z = true) (ws : List Jvm.Cond) (i : Nat) (k : Nat) (fm : Value) (h0 : Heap) (n0 : Nat) (Z0 : n0 ≤ h0.size) (hfm : fm.isRef = true) (SF : Sta Z Z.heap "jdk/internal/util/Preconditions" "SIOOBE_FORMATTER" "Ljava/util/function/BiFunction;" fm) (O0 : Old Z n0 h0) (hi : i < k) (hk : k < 2147483648) :
    OMet l (⟨"java/lang/String", "checkIndex", "(II)V"⟩ : MethodName) jdk_42_method_155_code 2 none ws room15 #[(.int (i.toInt32)), (.int (k.toInt32))] Z h0 (Q15 Z i k fm h0 n0) := by
  refine own_met (Q := (Q15 Z i k fm h0 n0)) (L0 := #[.val (.int (i.toInt32)), .val (.int (k.toInt32))]) (plainFor_of_name pn_0) (fun m => by first | (simp [entryFrame, mkF, argsToLocals, Value.category]; done) | rfl) ?_
  intro p e s m below meth c T0 X0 hx hby hml hown hnm hret hlk hZ e0
  have N0 := Fr.nil n0
  refine Go.st (pc' := 1) (S' := [(.int (i.toInt32))]) (fun t_ k_ => XS.iloadN X0.here hx rfl (hb hby d15_0) rfl k_) ?_
  refine Go.st (pc' := 2) (S' := [(.int (k.toInt32)), (.int (i.toInt32))]) (fun t_ k_ => XS.iloadN X0.here hx rfl (hb hby d15_1) rfl k_) ?_
  obtain ⟨T1, X1, e1, st1⟩ := getS2 X0 hx hZ hown (host := "") (Or.inl (wd hw 71 rfl)) Via.refl e0 (SF.ext O0.2) (g := (mkF m 2 #[.val (.int (i.toInt32)), .val (.int (k.toInt32))] [(.int (k.toInt32)), (.int (i.toInt32))])) rfl (hb hby d15_2)
  refine Go.st (pc' := 5) (S' := [fm, (.int (k.toInt32)), (.int (i.toInt32))]) st1 ?_
  obtain ⟨_, _, ⟨T2, L2, k2, n2⟩, -, X2, ⟨Lc2, hQ2, l2, y2, z2⟩, st2⟩ := Jvm.LawKit.callS X1 hx (y := (⟨"jdk/internal/util/Preconditions", "checkIndex", "(IILjava/util/function/BiFunction;)I"⟩ : MethodName)) hown (mvT hZ (wd hw 73 rfl)) (mvT hZ (wd hw 74 rfl)) (mvT hZ (wd hw 72 rfl)) (mvT hZ (wd hw 75 rfl)) (by decide) (backOf (W := 0) (rmck l Z a0 hw [] i k fm h0 n0 Z0 hfm hi hk) hZ (wd hw 75 rfl) (wd hw 72 rfl) (by decide) (by decide)) (g := (mkF m 5 #[.val (.int (i.toInt32)), .val (.int (k.toInt32))] [fm, (.int (k.toInt32)), (.int (i.toInt32))])) rfl (by rw [hml]; rfl) (argsL := [(.int (i.toInt32)), (.int (k.toInt32)), fm]) (rest := []) (lenOf pd_8 rfl) rfl (by show 2 * 0 + _ ≤ _; exact Nat.le_of_eq rfl) (hb hby d15_5) (fun _ _ => ⟨rfl, e1, (by decide : 0 + 0 ≤ _), (by decide : 0 + 0 ≤ _)⟩)
  dsimp only [Pt.U, Pt.locs, Pt.cells, Pt.slots] at X2 l2 y2 z2 st2 hQ2
  subst l2 y2 z2
  obtain ⟨rfl, N2q, e2⟩ := hQ2
  have N2 := Fr.app N0 N2q
  refine Go.st (pc' := 8) (S' := [(.int (i.toInt32))]) st2 ?_
  refine Go.st (pc' := 9) (S' := []) (fun t_ k_ => XS.pop X2.here hx rfl (hb hby d15_8) rfl rfl k_) ?_
  exact Go.retV X2 hx hlk hret (hb hby d15_9) (by decide) (by decide) (by rw [e2]; exact ⟨rfl, N2, rfl⟩)
theorem d14_0 : decode jdk_43_method_2_code 0 = .ok (.iload_n 1, 1) := by decide +kernel
theorem d14_1 : decode jdk_43_method_2_code 1 = .ok (.aload_n 0, 1) := by decide +kernel
theorem d14_2 : decode jdk_43_method_2_code 2 = .ok (.arraylength, 1) := by decide +kernel
theorem d14_3 : decode jdk_43_method_2_code 3 = .ok (.invokestatic 9, 3) := by decide +kernel
theorem d14_6 : decode jdk_43_method_2_code 6 = .ok (.aload_n 0, 1) := by decide +kernel
theorem d14_7 : decode jdk_43_method_2_code 7 = .ok (.iload_n 1, 1) := by decide +kernel
theorem d14_8 : decode jdk_43_method_2_code 8 = .ok (.baload, 1) := by decide +kernel
theorem d14_9 : decode jdk_43_method_2_code 9 = .ok (.sipush 255, 3) := by decide +kernel
theorem d14_12 : decode jdk_43_method_2_code 12 = .ok (.iand, 1) := by decide +kernel
theorem d14_13 : decode jdk_43_method_2_code 13 = .ok (.i2c, 1) := by decide +kernel
theorem d14_14 : decode jdk_43_method_2_code 14 = .ok (.ireturn, 1) := by decide +kernel
theorem pd_9 : parseMethodDescriptor "(II)V" = some ⟨[.int, .int], none⟩ := by decide +kernel
def Qac1_0L (Z : State) (x0 : Int32) (h0 : Heap) (n0 : Nat) (v : Option Value) (h : Heap) (L : List Loc) : Prop := v = some (.int x0) ∧ Fr n0 L ∧ h = h0
def roomac1_0L : Room := { frames := 2, cells := 0, slots := 0, locals := 27 }
theorem rmac1_0L (l : Launch) (Z : State) (a0 : Array Value) (hw : ∀ d ∈ tables_1, d.before a0 Z = true) (ws : List Jvm.Cond) (t1 : Addr) (k1 : ClassId) (fm : Value) (x0 : Int32) (h0 : Heap) (n0 : Nat) (Z0 : n0 ≤ h0.size) (hfm : fm.isRef = true) (SF : Sta Z Z.heap "jdk/internal/util/Preconditions" "SIOOBE_FORMATTER" "Ljava/util/function/BiFunction;" fm) (O0 : Old Z n0 h0) (V_t1 : Arv Z h0 t1 k1 .byte (1 : Int32) [(.int (x0.toInt8.toInt32))] (.int (0 : Int32))) (bd0 : ¬ x0 < 0 ∧ ¬ (65535 : Int32) < x0) (la0 : ¬ (255 : Int32) < x0) :
    OMet l (⟨"java/lang/StringLatin1", "charAt", "([BI)C"⟩ : MethodName) jdk_43_method_2_code 2 (some .char) ws roomac1_0L #[(.ref t1), (.int (0 : Int32))] Z h0 (Qac1_0L Z x0 h0 n0) := by
  refine own_met (Q := (Qac1_0L Z x0 h0 n0)) (L0 := #[.val (.ref t1), .val (.int (0 : Int32))]) (plainFor_of_name pn_1) (fun m => by first | (simp [entryFrame, mkF, argsToLocals, Value.category]; done) | rfl) ?_
  intro p e s m below meth c T0 X0 hx hby hml hown hnm hret hlk hZ e0
  have N0 := Fr.nil n0
  refine Go.st (pc' := 1) (S' := [(.int (0 : Int32))]) (fun t_ k_ => XS.iloadN X0.here hx rfl (hb hby d14_0) rfl k_) ?_
  refine Go.st (pc' := 2) (S' := [(.ref t1), (.int (0 : Int32))]) (fun t_ k_ => XS.aloadN X0.here hx rfl (hb hby d14_1) rfl rfl k_) ?_
  obtain ⟨cl1, Ar1, -, q1a, q1b, -, -⟩ := id V_t1
  refine Go.st (pc' := 3) (S' := [(.int (1 : Int32)), (.int (0 : Int32))]) (fun t_ k_ => own_len X0 hx hZ e0 Ar1 q1a q1b (g := (mkF m 2 #[.val (.ref t1), .val (.int (0 : Int32))] [(.ref t1), (.int (0 : Int32))])) rfl rfl (hb hby d14_2) t_ k_) ?_
  obtain ⟨_, _, ⟨T2, L2, k2, n2⟩, -, X2, ⟨Lc2, hQ2, l2, y2, z2⟩, st2⟩ := Jvm.LawKit.callS X0 hx (y := (⟨"java/lang/String", "checkIndex", "(II)V"⟩ : MethodName)) hown (mvT hZ (wd hw 68 rfl)) (mvT hZ (wd hw 69 rfl)) (mvT hZ (wd hw 7 rfl)) (mvT hZ (wd hw 70 rfl)) (by decide) (backOf (W := 0) (rm15 l Z a0 hw [] 0 1 fm h0 n0 Z0 hfm SF O0 (by decide) (by decide)) hZ (wd hw 70 rfl) (wd hw 7 rfl) (by decide) (by decide)) (g := (mkF m 3 #[.val (.ref t1), .val (.int (0 : Int32))] [(.int (1 : Int32)), (.int (0 : Int32))])) rfl (by rw [hml]; rfl) (argsL := [(.int (0 : Int32)), (.int (1 : Int32))]) (rest := []) (lenOf pd_9 rfl) rfl (by show 2 * 0 + _ ≤ _; exact Nat.le_of_eq rfl) (hb hby d14_3) (fun _ _ => ⟨rfl, e0, (by decide : 0 + 0 ≤ _), (by decide : 0 + 0 ≤ _)⟩)
  dsimp only [Pt.U, Pt.locs, Pt.cells, Pt.slots] at X2 l2 y2 z2 st2 hQ2
  subst l2 y2 z2
  obtain ⟨rfl, N2q, e2⟩ := hQ2
  have N2 := Fr.app N0 N2q
  refine Go.st (pc' := 6) (S' := []) st2 ?_
  refine Go.st (pc' := 7) (S' := [(.ref t1)]) (fun t_ k_ => XS.aloadN X2.here hx rfl (hb hby d14_6) rfl rfl k_) ?_
  refine Go.st (pc' := 8) (S' := [(.int (0 : Int32)), (.ref t1)]) (fun t_ k_ => XS.iloadN X2.here hx rfl (hb hby d14_7) rfl k_) ?_
  obtain ⟨cl3, Ar3, -, q3a, q3b, q3c, q3d⟩ := id V_t1
  refine Go.st (pc' := 9) (S' := [(.int (x0.toInt8.toInt32))]) (fun t_ k_ => X2.baloadBytes hx (j := (0 : Int32)) (v := (.int (x0.toInt8.toInt32))) (by rw [e2]; exact Ar3.1) (State.isArrayOf_alike hZ.alike Ar3.2.1) Ar3.2.2 (inb_of q3a ⟨by decide, by decide⟩) (q3c.at (inb_of q3a ⟨by decide, by decide⟩) rfl) (g := (mkF m 8 #[.val (.ref t1), .val (.int (0 : Int32))] [(.int (0 : Int32)), (.ref t1)])) rfl rfl (hb hby d14_8) t_ k_) ?_
  refine Go.st (pc' := 12) (S' := [(.int (255 : Int32)), (.int (x0.toInt8.toInt32))]) (fun t_ k_ => XS.sipush X2.here hx rfl (hb hby d14_9) k_) ?_
  refine Go.st (pc' := 13) (S' := [(.int ((x0.toInt8.toInt32) &&& (255 : Int32)))]) (fun t_ k_ => XS.iand X2.here hx rfl (hb hby d14_12) rfl k_) ?_
  refine Go.st (pc' := 14) (S' := [(.int (((x0.toInt8.toInt32) &&& (255 : Int32)).toUInt32.toUInt16.toUInt32.toInt32))]) (fun t_ k_ => XS.i2c X2.here hx rfl (hb hby d14_13) rfl k_) ?_
  exact Go.retN X2 hx hlk hret (by simp) (hb hby d14_14) (by decide) (by decide) (by rw [e2]; exact ⟨by rw [own_lc _ bd0.1 la0, own_nch0 _ bd0.1 bd0.2], N2, rfl⟩)
theorem d12_0 : decode jdk_42_method_56_code 0 = .ok (.aload_n 0, 1) := by decide +kernel
theorem d12_1 : decode jdk_42_method_56_code 1 = .ok (.invokevirtual 492, 3) := by decide +kernel
theorem d12_4 : decode jdk_42_method_56_code 4 = .ok (.ifCond .eq 12, 3) := by decide +kernel
theorem d12_7 : decode jdk_42_method_56_code 7 = .ok (.aload_n 0, 1) := by decide +kernel
theorem d12_8 : decode jdk_42_method_56_code 8 = .ok (.getfield 9, 3) := by decide +kernel
theorem d12_11 : decode jdk_42_method_56_code 11 = .ok (.iload_n 1, 1) := by decide +kernel
theorem d12_12 : decode jdk_42_method_56_code 12 = .ok (.invokestatic 495, 3) := by decide +kernel
theorem d12_15 : decode jdk_42_method_56_code 15 = .ok (.ireturn, 1) := by decide +kernel
theorem pd_10 : parseMethodDescriptor "([BI)C" = some ⟨[(.array .byte), .int], some .char⟩ := by decide +kernel
def Qca1_0L (Z : State) (x0 : Int32) (h0 : Heap) (n0 : Nat) (v : Option Value) (h : Heap) (L : List Loc) : Prop := v = some (.int x0) ∧ Fr n0 L ∧ h = h0
def roomca1_0L : Room := { frames := 4, cells := 0, slots := 0, locals := 53 }
theorem rmca1_0L (l : Launch) (Z : State) (a0 : Array Value) (hw : ∀ d ∈ tables_1, d.before a0 Z = true) (ws : List Jvm.Cond) (a1 : Addr) (t1 : Addr) (k1 : ClassId) (fm : Value) (gC : Int32) (x0 : Int32) (h0 : Heap) (n0 : Nat) (Z0 : n0 ≤ h0.size) (SC : Sta Z Z.heap "java/lang/String" "COMPACT_STRINGS" "Z" (.int gC)) (PC : ¬ (gC = (0 : Int32))) (O0 : Old Z n0 h0) (hfm : fm.isRef = true) (SF : Sta Z Z.heap "jdk/internal/util/Preconditions" "SIOOBE_FORMATTER" "Ljava/util/function/BiFunction;" fm) (E_a1 : Exa Z h0 a1 "java/lang/String") (Fc_a1 : Fld Z h0 a1 "java/lang/String" "coder" "B" (.int (0 : Int32))) (Fv_a1 : Fld Z h0 a1 "java/lang/String" "value" "[B" (.ref t1)) (V_t1 : Arv Z h0 t1 k1 .byte (1 : Int32) [(.int (x0.toInt8.toInt32))] (.int (0 : Int32))) (bd0 : ¬ x0 < 0 ∧ ¬ (65535 : Int32) < x0) (la0 : ¬ (255 : Int32) < x0) :
    OMet l (⟨"java/lang/String", "charAt", "(I)C"⟩ : MethodName) jdk_42_method_56_code 2 (some .char) ws roomca1_0L #[(.ref a1), (.int (0 : Int32))] Z h0 (Qca1_0L Z x0 h0 n0) := by
  refine own_met (Q := (Qca1_0L Z x0 h0 n0)) (L0 := #[.val (.ref a1), .val (.int (0 : Int32))]) (plainFor_of_name pn_0) (fun m => by first | (simp [entryFrame, mkF, argsToLocals, Value.category]; done) | rfl) ?_
  intro p e s m below meth c T0 X0 hx hby hml hown hnm hret hlk hZ e0
  have N0 := Fr.nil n0
  refine Go.st (pc' := 1) (S' := [(.ref a1)]) (fun t_ k_ => XS.aloadN X0.here hx rfl (hb hby d12_0) rfl rfl k_) ?_
  obtain ⟨cq1, kq1, q1a, q1b, q1c⟩ := isOf hZ e0 E_a1
  obtain ⟨_, _, ⟨T1, L1, k1, n1⟩, -, X1, ⟨Lc1, hQ1, l1, y1, z1⟩, st1⟩ := X0.virtualBack hx (y := (⟨"java/lang/String", "isLatin1", "()Z"⟩ : MethodName)) (z := (⟨"java/lang/String", "isLatin1", "()Z"⟩ : MethodName)) hown (mvT hZ (wd hw 60 rfl)) (mvT hZ (wd hw 61 rfl)) (notFace_of_selects (args := #[]) (mvT hZ (wd hw 63 rfl))) (mvT hZ (wd hw 63 rfl)) (mvT hZ (wd hw 62 rfl)) (by decide) (backOf (W := 0) (rm13 l Z a0 hw [] a1 gC h0 n0 Z0 SC PC O0 Fc_a1) hZ (wd hw 64 rfl) (wd hw 7 rfl) (by decide) (by decide)) q1a q1c (g := (mkF m 1 #[.val (.ref a1), .val (.int (0 : Int32))] [(.ref a1)])) rfl (by rw [hml]; rfl) (Steps.refl _) (argsL := []) (rest := []) (lenOf pd_7 rfl) rfl (by show 2 * 0 + _ ≤ _; exact Nat.le_of_eq rfl) (hb hby d12_1) (fun _ _ => ⟨rfl, e0, (by decide : 0 + 0 ≤ _), (by decide : 0 + 0 ≤ _)⟩)
  dsimp only [Pt.U, Pt.locs, Pt.cells, Pt.slots] at X1 l1 y1 z1 st1 hQ1
  subst l1 y1 z1
  obtain ⟨rfl, N1q, e1⟩ := hQ1
  have N1 := Fr.app N0 N1q
  refine Go.tr (pc' := 4) (S' := [(.int (1 : Int32))]) st1 ?_
  refine Go.st (pc' := 7) (S' := []) (fun t_ k_ => XS.ifNo X1.here hx rfl (hb hby d12_4) rfl ((if0 _ _).trans (feq (by decide : ¬ ((1 : Int32) = (0 : Int32)))).1) k_) ?_
  refine Go.st (pc' := 8) (S' := [(.ref a1)]) (fun t_ k_ => XS.aloadN X1.here hx rfl (hb hby d12_7) rfl rfl k_) ?_
  obtain ⟨T2, X2, e2, st2⟩ := getF X1 hx hZ hown (host := "") (Or.inl (wd hw 27 rfl)) Via.refl e1 Fv_a1 (g := (mkF m 8 #[.val (.ref a1), .val (.int (0 : Int32))] [(.ref a1)])) rfl rfl (hb hby d12_8)
  refine Go.st (pc' := 11) (S' := [(.ref t1)]) st2 ?_
  refine Go.st (pc' := 12) (S' := [(.int (0 : Int32)), (.ref t1)]) (fun t_ k_ => XS.iloadN X2.here hx rfl (hb hby d12_11) rfl k_) ?_
  obtain ⟨_, _, ⟨T3, L3, k3, n3⟩, -, X3, ⟨Lc3, hQ3, l3, y3, z3⟩, st3⟩ := Jvm.LawKit.callS X2 hx (y := (⟨"java/lang/StringLatin1", "charAt", "([BI)C"⟩ : MethodName)) hown (mvT hZ (wd hw 65 rfl)) (mvT hZ (wd hw 66 rfl)) (mvT hZ (wd hw 12 rfl)) (mvT hZ (wd hw 67 rfl)) (by decide) (backOf (W := 0) (rmac1_0L l Z a0 hw [] t1 _ fm x0 h0 n0 Z0 hfm SF O0  V_t1 bd0 la0) hZ (wd hw 67 rfl) (wd hw 12 rfl) (by decide) (by decide)) (g := (mkF m 12 #[.val (.ref a1), .val (.int (0 : Int32))] [(.int (0 : Int32)), (.ref t1)])) rfl (by rw [hml]; rfl) (argsL := [(.ref t1), (.int (0 : Int32))]) (rest := []) (lenOf pd_10 rfl) rfl (by show 2 * 0 + _ ≤ _; exact Nat.le_of_eq rfl) (hb hby d12_12) (fun _ _ => ⟨rfl, e2, (by decide : 0 + 0 ≤ _), (by decide : 0 + 0 ≤ _)⟩)
  dsimp only [Pt.U, Pt.locs, Pt.cells, Pt.slots] at X3 l3 y3 z3 st3 hQ3
  subst l3 y3 z3
  obtain ⟨rfl, N3q, e3⟩ := hQ3
  have N3 := Fr.app N1 N3q
  refine Go.st (pc' := 15) (S' := [(.int x0)]) st3 ?_
  exact Go.retN X3 hx hlk hret (by simp) (hb hby d12_15) (by decide) (by decide) (by rw [e3]; exact ⟨by rw [own_nch0 _ bd0.1 bd0.2], N3, rfl⟩)
theorem d13_17 : decode jdk_42_method_154_code 17 = .ok (.iconst 0, 1) := by decide +kernel
def QisLatin1U (Z : State) (a1 : Addr) (gC : Int32) (h0 : Heap) (n0 : Nat) (v : Option Value) (h : Heap) (L : List Loc) : Prop := v = some (.int 0) ∧ Fr n0 L ∧ h = h0
def roomisLatin1U : Room := { frames := 0, cells := 0, slots := 0, locals := 0 }
theorem rmisLatin1U (l : Launch) (Z : State) (a0 : Array Value) (hw : ∀ d ∈ tables_1, d.before a0 Z = true) (ws : List Jvm.Cond) (a1 : Addr) (gC : Int32) (h0 : Heap) (n0 : Nat) (Z0 : n0 ≤ h0.size) (SC : Sta Z Z.heap "java/lang/String" "COMPACT_STRINGS" "Z" (.int gC)) (PC : ¬ (gC = (0 : Int32))) (O0 : Old Z n0 h0) (Fc : Fld Z h0 a1 "java/lang/String" "coder" "B" (.int (1 : Int32))) :
    OMet l (⟨"java/lang/String", "isLatin1", "()Z"⟩ : MethodName) jdk_42_method_154_code 1 (some .boolean) ws roomisLatin1U #[(.ref a1)] Z h0 (QisLatin1U Z a1 gC h0 n0) := by
  refine own_met (Q := (QisLatin1U Z a1 gC h0 n0)) (L0 := #[.val (.ref a1)]) (plainFor_of_name pn_0) (fun m => by first | (simp [entryFrame, mkF, argsToLocals, Value.category]; done) | rfl) ?_
  intro p e s m below meth c T0 X0 hx hby hml hown hnm hret hlk hZ e0
  have N0 := Fr.nil n0
  obtain ⟨T1, X1, e1, st1⟩ := getS2 X0 hx hZ hown (host := "") (Or.inl (wd hw 9 rfl)) Via.refl e0 (SC.ext O0.2) (g := (mkF m 0 #[.val (.ref a1)] [])) rfl (hb hby d13_0)
  refine Go.st (pc' := 3) (S' := [(.int gC)]) st1 ?_
  refine Go.st (pc' := 6) (S' := []) (fun t_ k_ => XS.ifNo X1.here hx rfl (hb hby d13_3) rfl ((if0 _ _).trans (feq (PC : ¬ (gC = (0 : Int32)))).1) k_) ?_
  refine Go.st (pc' := 7) (S' := [(.ref a1)]) (fun t_ k_ => XS.aloadN X1.here hx rfl (hb hby d13_6) rfl rfl k_) ?_
  obtain ⟨T2, X2, e2, st2⟩ := getF X1 hx hZ hown (host := "") (Or.inl (wd hw 29 rfl)) Via.refl e1 Fc (g := (mkF m 7 #[.val (.ref a1)] [(.ref a1)])) rfl rfl (hb hby d13_7)
  refine Go.st (pc' := 10) (S' := [(.int (1 : Int32))]) st2 ?_
  refine Go.st (pc' := 17) (S' := []) (fun t_ k_ => XS.ifYes X2.here hx rfl (pc0 := 10) (pc' := 17) rfl (hb hby d13_10) rfl ((if0 _ _).trans (feq (by decide : ¬ ((1 : Int32) = (0 : Int32)))).2) (by decide) (by decide) k_) ?_
  refine Go.st (pc' := 18) (S' := [(.int (0 : Int32))]) (fun t_ k_ => XS.iconst X2.here hx rfl (hb hby d13_17) k_) ?_
  exact Go.retN X2 hx hlk hret (by simp) (hb hby d13_18) (by decide) (by decide) (by rw [e2]; exact ⟨rfl, N0, rfl⟩)
theorem d29_0 : decode jdk_52_method_6_code 0 = .ok (.aload_n 0, 1) := by decide +kernel
theorem d29_1 : decode jdk_52_method_6_code 1 = .ok (.arraylength, 1) := by decide +kernel
theorem d29_2 : decode jdk_52_method_6_code 2 = .ok (.iconst 1, 1) := by decide +kernel
theorem d29_3 : decode jdk_52_method_6_code 3 = .ok (.ishr, 1) := by decide +kernel
theorem d29_4 : decode jdk_52_method_6_code 4 = .ok (.ireturn, 1) := by decide +kernel
theorem pn_6 : plainName "java/lang/StringUTF16" = true := by first | (simp [plainName, overriddenIn]; done) | decide +kernel
def Qulen2 (Z : State) (b : Addr) (kb : ClassId) (y0 : Int32) (y1 : Int32) (h0 : Heap) (n0 : Nat) (v : Option Value) (h : Heap) (L : List Loc) : Prop := v = some (.int 1) ∧ Fr n0 L ∧ h = h0
def roomulen2 : Room := { frames := 0, cells := 0, slots := 0, locals := 0 }
theorem rmulen2 (l : Launch) (Z : State) (a0 : Array Value) (hw : ∀ d ∈ tables_1, d.before a0 Z = true) (ws : List Jvm.Cond) (b : Addr) (kb : ClassId) (y0 : Int32) (y1 : Int32) (h0 : Heap) (n0 : Nat) (Z0 : n0 ≤ h0.size) (V_b : Arv Z h0 b kb .byte (2 : Int32) [(.int y0), (.int y1)] (.int (0 : Int32))) :
    OMet l (⟨"java/lang/StringUTF16", "length", "([B)I"⟩ : MethodName) jdk_52_method_6_code 1 (some .int) ws roomulen2 #[(.ref b)] Z h0 (Qulen2 Z b kb y0 y1 h0 n0) := by
  refine own_met (Q := (Qulen2 Z b kb y0 y1 h0 n0)) (L0 := #[.val (.ref b)]) (plainFor_of_name pn_6) (fun m => by first | (simp [entryFrame, mkF, argsToLocals, Value.category]; done) | rfl) ?_
  intro p e s m below meth c T0 X0 hx hby hml hown hnm hret hlk hZ e0
  have N0 := Fr.nil n0
  refine Go.st (pc' := 1) (S' := [(.ref b)]) (fun t_ k_ => XS.aloadN X0.here hx rfl (hb hby d29_0) rfl rfl k_) ?_
  obtain ⟨cl1, Ar1, -, q1a, q1b, -, -⟩ := id V_b
  refine Go.st (pc' := 2) (S' := [(.int (2 : Int32))]) (fun t_ k_ => own_len X0 hx hZ e0 Ar1 q1a q1b (g := (mkF m 1 #[.val (.ref b)] [(.ref b)])) rfl rfl (hb hby d29_1) t_ k_) ?_
  refine Go.st (pc' := 3) (S' := [(.int (1 : Int32)), (.int (2 : Int32))]) (fun t_ k_ => XS.iconst X0.here hx rfl (hb hby d29_2) k_) ?_
  refine Go.st (pc' := 4) (S' := [(.int ((2 : Int32) >>> ((1 : Int32) &&& 31)))]) (fun t_ k_ => XS.ishr X0.here hx rfl (hb hby d29_3) rfl k_) ?_
  rw [show ((2 : Int32) >>> ((1 : Int32) &&& 31)) = (1 : Int32) from by decide]
  exact Go.retO X0 hx hlk hret rfl (by simp [FieldType.isReference, Value.isRef]) (hb hby d29_4) (by decide) (by decide) (by rw [e0]; exact ⟨rfl, N0, rfl⟩)
theorem d28_0 : decode jdk_52_method_91_code 0 = .ok (.iload_n 0, 1) := by decide +kernel
theorem d28_1 : decode jdk_52_method_91_code 1 = .ok (.aload_n 1, 1) := by decide +kernel
theorem d28_2 : decode jdk_52_method_91_code 2 = .ok (.invokestatic 48, 3) := by decide +kernel
theorem d28_5 : decode jdk_52_method_91_code 5 = .ok (.invokestatic 414, 3) := by decide +kernel
theorem d28_8 : decode jdk_52_method_91_code 8 = .ok (.return_, 1) := by decide +kernel
theorem pd_11 : parseMethodDescriptor "([B)I" = some ⟨[(.array .byte)], some .int⟩ := by decide +kernel
def Quck0_2 (Z : State) (b : Addr) (kb : ClassId) (fm : Value) (y0 : Int32) (y1 : Int32) (h0 : Heap) (n0 : Nat) (v : Option Value) (h : Heap) (L : List Loc) : Prop := v = none ∧ Fr n0 L ∧ h = h0
def roomuck0_2 : Room := { frames := 2, cells := 0, slots := 0, locals := 27 }
theorem rmuck0_2 (l : Launch) (Z : State) (a0 : Array Value) (hw : ∀ d ∈ tables_1, d.before a0 Z = true) (ws : List Jvm.Cond) (b : Addr) (kb : ClassId) (fm : Value) (y0 : Int32) (y1 : Int32) (h0 : Heap) (n0 : Nat) (Z0 : n0 ≤ h0.size) (hfm : fm.isRef = true) (SF : Sta Z Z.heap "jdk/internal/util/Preconditions" "SIOOBE_FORMATTER" "Ljava/util/function/BiFunction;" fm) (O0 : Old Z n0 h0) (V_b : Arv Z h0 b kb .byte (2 : Int32) [(.int y0), (.int y1)] (.int (0 : Int32))) :
    OMet l (⟨"java/lang/StringUTF16", "checkIndex", "(I[B)V"⟩ : MethodName) jdk_52_method_91_code 2 none ws roomuck0_2 #[(.int (0 : Int32)), (.ref b)] Z h0 (Quck0_2 Z b kb fm y0 y1 h0 n0) := by
  refine own_met (Q := (Quck0_2 Z b kb fm y0 y1 h0 n0)) (L0 := #[.val (.int (0 : Int32)), .val (.ref b)]) (plainFor_of_name pn_6) (fun m => by first | (simp [entryFrame, mkF, argsToLocals, Value.category]; done) | rfl) ?_
  intro p e s m below meth c T0 X0 hx hby hml hown hnm hret hlk hZ e0
  have N0 := Fr.nil n0
  refine Go.st (pc' := 1) (S' := [(.int (0 : Int32))]) (fun t_ k_ => XS.iloadN X0.here hx rfl (hb hby d28_0) rfl k_) ?_
  refine Go.st (pc' := 2) (S' := [(.ref b), (.int (0 : Int32))]) (fun t_ k_ => XS.aloadN X0.here hx rfl (hb hby d28_1) rfl rfl k_) ?_
  obtain ⟨_, _, ⟨T1, L1, k1, n1⟩, -, X1, ⟨Lc1, hQ1, l1, y1, z1⟩, st1⟩ := Jvm.LawKit.callS X0 hx (y := (⟨"java/lang/StringUTF16", "length", "([B)I"⟩ : MethodName)) hown (mvT hZ (wd hw 120 rfl)) (mvT hZ (wd hw 121 rfl)) (mvT hZ (wd hw 86 rfl)) (mvT hZ (wd hw 122 rfl)) (by decide) (backOf (W := 1) (rmulen2 l Z a0 hw [] b _ (y0) (y1) h0 n0 Z0 V_b) hZ (wd hw 122 rfl) (wd hw 86 rfl) (by decide) (by decide)) (g := (mkF m 2 #[.val (.int (0 : Int32)), .val (.ref b)] [(.ref b), (.int (0 : Int32))])) rfl (by rw [hml]; rfl) (argsL := [(.ref b)]) (rest := [(.int (0 : Int32))]) (lenOf pd_11 rfl) rfl (by show 2 * 0 + _ ≤ _; exact Nat.le_of_eq rfl) (hb hby d28_2) (fun _ _ => ⟨rfl, e0, (by decide : 0 + 0 ≤ _), (by decide : 0 + 0 ≤ _)⟩)
  dsimp only [Pt.U, Pt.locs, Pt.cells, Pt.slots] at X1 l1 y1 z1 st1 hQ1
  subst l1 y1 z1
  obtain ⟨rfl, N1q, e1⟩ := hQ1
  have N1 := Fr.app N0 N1q
  refine Go.st (pc' := 5) (S' := [(.int (1 : Int32)), (.int (0 : Int32))]) st1 ?_
  obtain ⟨_, _, ⟨T2, L2, k2, n2⟩, -, X2, ⟨Lc2, hQ2, l2, y2, z2⟩, st2⟩ := Jvm.LawKit.callS X1 hx (y := (⟨"java/lang/String", "checkIndex", "(II)V"⟩ : MethodName)) hown (mvT hZ (wd hw 123 rfl)) (mvT hZ (wd hw 69 rfl)) (mvT hZ (wd hw 7 rfl)) (mvT hZ (wd hw 70 rfl)) (by decide) (backOf (W := 0) (rm15 l Z a0 hw [] 0 1 fm h0 n0 Z0 hfm SF O0 (by decide) (by decide)) hZ (wd hw 70 rfl) (wd hw 7 rfl) (by decide) (by decide)) (g := (mkF m 5 #[.val (.int (0 : Int32)), .val (.ref b)] [(.int (1 : Int32)), (.int (0 : Int32))])) rfl (by rw [hml]; rfl) (argsL := [(.int (0 : Int32)), (.int (1 : Int32))]) (rest := []) (lenOf pd_9 rfl) rfl (by show 2 * 0 + _ ≤ _; exact Nat.le_of_eq rfl) (hb hby d28_5) (fun _ _ => ⟨rfl, e1, (by decide : 0 + 0 ≤ _), (by decide : 0 + 0 ≤ _)⟩)
  dsimp only [Pt.U, Pt.locs, Pt.cells, Pt.slots] at X2 l2 y2 z2 st2 hQ2
  subst l2 y2 z2
  obtain ⟨rfl, N2q, e2⟩ := hQ2
  have N2 := Fr.app N1 N2q
  refine Go.st (pc' := 8) (S' := []) st2 ?_
  exact Go.retV X2 hx hlk hret (hb hby d28_8) (by decide) (by decide) (by rw [e2]; exact ⟨rfl, N2, rfl⟩)
theorem d26_0 : decode jdk_52_method_5_code 0 = .ok (.getstatic 44, 3) := by decide +kernel
theorem d26_3 : decode jdk_52_method_5_code 3 = .ok (.ifCond .ne 25, 3) := by decide +kernel
theorem d26_28 : decode jdk_52_method_5_code 28 = .ok (.iload_n 1, 1) := by decide +kernel
theorem d26_29 : decode jdk_52_method_5_code 29 = .ok (.iconst 1, 1) := by decide +kernel
theorem d26_30 : decode jdk_52_method_5_code 30 = .ok (.ishl, 1) := by decide +kernel
theorem d26_31 : decode jdk_52_method_5_code 31 = .ok (.istore_n 1, 1) := by decide +kernel
theorem d26_32 : decode jdk_52_method_5_code 32 = .ok (.aload_n 0, 1) := by decide +kernel
theorem d26_33 : decode jdk_52_method_5_code 33 = .ok (.iload_n 1, 1) := by decide +kernel
theorem d26_34 : decode jdk_52_method_5_code 34 = .ok (.iinc 1 1, 3) := by decide +kernel
theorem d26_37 : decode jdk_52_method_5_code 37 = .ok (.baload, 1) := by decide +kernel
theorem d26_38 : decode jdk_52_method_5_code 38 = .ok (.sipush 255, 3) := by decide +kernel
theorem d26_41 : decode jdk_52_method_5_code 41 = .ok (.iand, 1) := by decide +kernel
theorem d26_42 : decode jdk_52_method_5_code 42 = .ok (.getstatic 59, 3) := by decide +kernel
theorem d26_45 : decode jdk_52_method_5_code 45 = .ok (.ishl, 1) := by decide +kernel
theorem d26_46 : decode jdk_52_method_5_code 46 = .ok (.aload_n 0, 1) := by decide +kernel
theorem d26_47 : decode jdk_52_method_5_code 47 = .ok (.iload_n 1, 1) := by decide +kernel
theorem d26_48 : decode jdk_52_method_5_code 48 = .ok (.baload, 1) := by decide +kernel
theorem d26_49 : decode jdk_52_method_5_code 49 = .ok (.sipush 255, 3) := by decide +kernel
theorem d26_52 : decode jdk_52_method_5_code 52 = .ok (.iand, 1) := by decide +kernel
theorem d26_53 : decode jdk_52_method_5_code 53 = .ok (.getstatic 63, 3) := by decide +kernel
theorem d26_56 : decode jdk_52_method_5_code 56 = .ok (.ishl, 1) := by decide +kernel
theorem d26_57 : decode jdk_52_method_5_code 57 = .ok (.ior, 1) := by decide +kernel
theorem d26_58 : decode jdk_52_method_5_code 58 = .ok (.i2c, 1) := by decide +kernel
theorem d26_59 : decode jdk_52_method_5_code 59 = .ok (.ireturn, 1) := by decide +kernel
theorem pd_12 : parseMethodDescriptor "(I[B)V" = some ⟨[.int, (.array .byte)], none⟩ := by decide +kernel
def Qgetc1_0 (Z : State) (y0 : Int32) (y1 : Int32) (h0 : Heap) (n0 : Nat) (v : Option Value) (h : Heap) (L : List Loc) : Prop := ∃ r : Int32, v = some (.int r) ∧ r = nar .char (own_gv y0 y1) ∧ Fr n0 L ∧ h = h0
def roomgetc1_0 : Room := { frames := 0, cells := 0, slots := 0, locals := 0 }
theorem rmgetc1_0 (l : Launch) (Z : State) (a0 : Array Value) (hw : ∀ d ∈ tables_1, d.before a0 Z = true) (ws : List Jvm.Cond) (b : Addr) (kb : ClassId) (y0 : Int32) (y1 : Int32) (h0 : Heap) (n0 : Nat) (Z0 : n0 ≤ h0.size) (SD : Sta Z Z.heap "java/lang/StringUTF16" "$assertionsDisabled" "Z" (.int (1 : Int32))) (SH : Sta Z Z.heap "java/lang/StringUTF16" "HI_BYTE_SHIFT" "I" (.int (0 : Int32))) (SL : Sta Z Z.heap "java/lang/StringUTF16" "LO_BYTE_SHIFT" "I" (.int (8 : Int32))) (O0 : Old Z n0 h0) (V_b : Arv Z h0 b kb .byte (2 : Int32) [(.int y0), (.int y1)] (.int (0 : Int32))) :
    OMet l (⟨"java/lang/StringUTF16", "getChar", "([BI)C"⟩ : MethodName) jdk_52_method_5_code 2 (some .char) ws roomgetc1_0 #[(.ref b), (.int (0 : Int32))] Z h0 (Qgetc1_0 Z y0 y1 h0 n0) := by
  refine own_met (Q := (Qgetc1_0 Z y0 y1 h0 n0)) (L0 := #[.val (.ref b), .val (.int (0 : Int32))]) (plainFor_of_name pn_6) (fun m => by first | (simp [entryFrame, mkF, argsToLocals, Value.category]; done) | rfl) ?_
  intro p e s m below meth c T0 X0 hx hby hml hown hnm hret hlk hZ e0
  have N0 := Fr.nil n0
  obtain ⟨T1, X1, e1, st1⟩ := getS2 X0 hx hZ hown (host := "") (Or.inl (wd hw 108 rfl)) Via.refl e0 (SD.ext O0.2) (g := (mkF m 0 #[.val (.ref b), .val (.int (0 : Int32))] [])) rfl (hb hby d26_0)
  refine Go.st (pc' := 3) (S' := [(.int (1 : Int32))]) st1 ?_
  refine Go.st (pc' := 28) (S' := []) (fun t_ k_ => XS.ifYes X1.here hx rfl (pc0 := 3) (pc' := 28) rfl (hb hby d26_3) rfl ((if0 _ _).trans (feq (by decide : ¬ ((1 : Int32) = (0 : Int32)))).2) (by decide) (by decide) k_) ?_
  refine Go.st (pc' := 29) (S' := [(.int (0 : Int32))]) (fun t_ k_ => XS.iloadN X1.here hx rfl (hb hby d26_28) rfl k_) ?_
  refine Go.st (pc' := 30) (S' := [(.int (1 : Int32)), (.int (0 : Int32))]) (fun t_ k_ => XS.iconst X1.here hx rfl (hb hby d26_29) k_) ?_
  refine Go.st (pc' := 31) (S' := [(.int ((0 : Int32) <<< ((1 : Int32) &&& 31)))]) (fun t_ k_ => XS.ishl X1.here hx rfl (hb hby d26_30) rfl k_) ?_
  rw [show ((0 : Int32) <<< ((1 : Int32) &&& 31)) = (0 : Int32) from by decide]
  refine Go.st (pc' := 32) (S' := []) (fun t_ k_ => XS.istoreN X1.here hx rfl (hb hby d26_31) rfl (l' := #[.val (.ref b), .val (.int (0 : Int32))]) rfl k_) ?_
  refine Go.st (pc' := 33) (S' := [(.ref b)]) (fun t_ k_ => XS.aloadN X1.here hx rfl (hb hby d26_32) rfl rfl k_) ?_
  refine Go.st (pc' := 34) (S' := [(.int (0 : Int32)), (.ref b)]) (fun t_ k_ => XS.iloadN X1.here hx rfl (hb hby d26_33) rfl k_) ?_
  refine Go.st (pc' := 37) (S' := [(.int (0 : Int32)), (.ref b)]) (fun t_ k_ => XS.iinc X1.here hx rfl (hb hby d26_34) rfl (l' := #[.val (.ref b), .val (.int ((0 : Int32) + (1 : Int32)))]) rfl k_) ?_
  rw [show ((0 : Int32) + (1 : Int32)) = (1 : Int32) from by decide]
  obtain ⟨cl2, Ar2, -, q2a, q2b, q2c, q2d⟩ := id V_b
  refine Go.st (pc' := 38) (S' := [(.int y0)]) (fun t_ k_ => X1.baloadBytes hx (j := (0 : Int32)) (v := (.int y0)) (by rw [e1]; exact Ar2.1) (State.isArrayOf_alike hZ.alike Ar2.2.1) Ar2.2.2 (inb_of q2a ⟨by decide, by decide⟩) (q2c.at (inb_of q2a ⟨by decide, by decide⟩) rfl) (g := (mkF m 37 #[.val (.ref b), .val (.int (1 : Int32))] [(.int (0 : Int32)), (.ref b)])) rfl rfl (hb hby d26_37) t_ k_) ?_
  refine Go.st (pc' := 41) (S' := [(.int (255 : Int32)), (.int y0)]) (fun t_ k_ => XS.sipush X1.here hx rfl (hb hby d26_38) k_) ?_
  refine Go.st (pc' := 42) (S' := [(.int (y0 &&& (255 : Int32)))]) (fun t_ k_ => XS.iand X1.here hx rfl (hb hby d26_41) rfl k_) ?_
  obtain ⟨T3, X3, e3, st3⟩ := getS2 X1 hx hZ hown (host := "") (Or.inl (wd hw 109 rfl)) Via.refl e1 (SH.ext O0.2) (g := (mkF m 42 #[.val (.ref b), .val (.int (1 : Int32))] [(.int (y0 &&& (255 : Int32)))])) rfl (hb hby d26_42)
  refine Go.st (pc' := 45) (S' := [(.int (0 : Int32)), (.int (y0 &&& (255 : Int32)))]) st3 ?_
  refine Go.st (pc' := 46) (S' := [(.int ((y0 &&& (255 : Int32)) <<< ((0 : Int32) &&& 31)))]) (fun t_ k_ => XS.ishl X3.here hx rfl (hb hby d26_45) rfl k_) ?_
  refine Go.st (pc' := 47) (S' := [(.ref b), (.int ((y0 &&& (255 : Int32)) <<< ((0 : Int32) &&& 31)))]) (fun t_ k_ => XS.aloadN X3.here hx rfl (hb hby d26_46) rfl rfl k_) ?_
  refine Go.st (pc' := 48) (S' := [(.int (1 : Int32)), (.ref b), (.int ((y0 &&& (255 : Int32)) <<< ((0 : Int32) &&& 31)))]) (fun t_ k_ => XS.iloadN X3.here hx rfl (hb hby d26_47) rfl k_) ?_
  obtain ⟨cl4, Ar4, -, q4a, q4b, q4c, q4d⟩ := id V_b
  refine Go.st (pc' := 49) (S' := [(.int y1), (.int ((y0 &&& (255 : Int32)) <<< ((0 : Int32) &&& 31)))]) (fun t_ k_ => X3.baloadBytes hx (j := (1 : Int32)) (v := (.int y1)) (by rw [e3]; exact Ar4.1) (State.isArrayOf_alike hZ.alike Ar4.2.1) Ar4.2.2 (inb_of q4a ⟨by decide, by decide⟩) (q4c.at (inb_of q4a ⟨by decide, by decide⟩) rfl) (g := (mkF m 48 #[.val (.ref b), .val (.int (1 : Int32))] [(.int (1 : Int32)), (.ref b), (.int ((y0 &&& (255 : Int32)) <<< ((0 : Int32) &&& 31)))])) rfl rfl (hb hby d26_48) t_ k_) ?_
  refine Go.st (pc' := 52) (S' := [(.int (255 : Int32)), (.int y1), (.int ((y0 &&& (255 : Int32)) <<< ((0 : Int32) &&& 31)))]) (fun t_ k_ => XS.sipush X3.here hx rfl (hb hby d26_49) k_) ?_
  refine Go.st (pc' := 53) (S' := [(.int (y1 &&& (255 : Int32))), (.int ((y0 &&& (255 : Int32)) <<< ((0 : Int32) &&& 31)))]) (fun t_ k_ => XS.iand X3.here hx rfl (hb hby d26_52) rfl k_) ?_
  obtain ⟨T5, X5, e5, st5⟩ := getS2 X3 hx hZ hown (host := "") (Or.inl (wd hw 110 rfl)) Via.refl e3 (SL.ext O0.2) (g := (mkF m 53 #[.val (.ref b), .val (.int (1 : Int32))] [(.int (y1 &&& (255 : Int32))), (.int ((y0 &&& (255 : Int32)) <<< ((0 : Int32) &&& 31)))])) rfl (hb hby d26_53)
  refine Go.st (pc' := 56) (S' := [(.int (8 : Int32)), (.int (y1 &&& (255 : Int32))), (.int ((y0 &&& (255 : Int32)) <<< ((0 : Int32) &&& 31)))]) st5 ?_
  refine Go.st (pc' := 57) (S' := [(.int ((y1 &&& (255 : Int32)) <<< ((8 : Int32) &&& 31))), (.int ((y0 &&& (255 : Int32)) <<< ((0 : Int32) &&& 31)))]) (fun t_ k_ => XS.ishl X5.here hx rfl (hb hby d26_56) rfl k_) ?_
  refine Go.st (pc' := 58) (S' := [(.int (((y0 &&& (255 : Int32)) <<< ((0 : Int32) &&& 31)) ||| ((y1 &&& (255 : Int32)) <<< ((8 : Int32) &&& 31))))]) (fun t_ k_ => XS.ior X5.here hx rfl (hb hby d26_57) rfl k_) ?_
  refine Go.st (pc' := 59) (S' := [(.int ((((y0 &&& (255 : Int32)) <<< ((0 : Int32) &&& 31)) ||| ((y1 &&& (255 : Int32)) <<< ((8 : Int32) &&& 31))).toUInt32.toUInt16.toUInt32.toInt32))]) (fun t_ k_ => XS.i2c X5.here hx rfl (hb hby d26_58) rfl k_) ?_
  exact Go.retN X5 hx hlk hret (by simp) (hb hby d26_59) (by decide) (by decide) (by rw [e5]; exact ⟨_, rfl, rfl, N0, rfl⟩)
theorem d27_0 : decode jdk_52_method_83_code 0 = .ok (.iload_n 1, 1) := by decide +kernel
theorem d27_1 : decode jdk_52_method_83_code 1 = .ok (.aload_n 0, 1) := by decide +kernel
theorem d27_2 : decode jdk_52_method_83_code 2 = .ok (.invokestatic 67, 3) := by decide +kernel
theorem d27_5 : decode jdk_52_method_83_code 5 = .ok (.aload_n 0, 1) := by decide +kernel
theorem d27_6 : decode jdk_52_method_83_code 6 = .ok (.iload_n 1, 1) := by decide +kernel
theorem d27_7 : decode jdk_52_method_83_code 7 = .ok (.invokestatic 71, 3) := by decide +kernel
theorem d27_10 : decode jdk_52_method_83_code 10 = .ok (.ireturn, 1) := by decide +kernel
def Qac1_0U (Z : State) (x0 : Int32) (h0 : Heap) (n0 : Nat) (v : Option Value) (h : Heap) (L : List Loc) : Prop := v = some (.int x0) ∧ Fr n0 L ∧ h = h0
def roomac1_0U : Room := { frames := 3, cells := 0, slots := 0, locals := 40 }
theorem rmac1_0U (l : Launch) (Z : State) (a0 : Array Value) (hw : ∀ d ∈ tables_1, d.before a0 Z = true) (ws : List Jvm.Cond) (t1 : Addr) (k1 : ClassId) (fm : Value) (x0 : Int32) (h0 : Heap) (n0 : Nat) (Z0 : n0 ≤ h0.size) (hfm : fm.isRef = true) (SF : Sta Z Z.heap "jdk/internal/util/Preconditions" "SIOOBE_FORMATTER" "Ljava/util/function/BiFunction;" fm) (O0 : Old Z n0 h0) (SD : Sta Z Z.heap "java/lang/StringUTF16" "$assertionsDisabled" "Z" (.int (1 : Int32))) (SH : Sta Z Z.heap "java/lang/StringUTF16" "HI_BYTE_SHIFT" "I" (.int (0 : Int32))) (SL : Sta Z Z.heap "java/lang/StringUTF16" "LO_BYTE_SHIFT" "I" (.int (8 : Int32))) (V_t1 : Arv Z h0 t1 k1 .byte (2 : Int32) [(.int (own_lo x0)), (.int (own_hi x0))] (.int (0 : Int32))) (bd0 : ¬ x0 < 0 ∧ ¬ (65535 : Int32) < x0)  :
    OMet l (⟨"java/lang/StringUTF16", "charAt", "([BI)C"⟩ : MethodName) jdk_52_method_83_code 2 (some .char) ws roomac1_0U #[(.ref t1), (.int (0 : Int32))] Z h0 (Qac1_0U Z x0 h0 n0) := by
  refine own_met (Q := (Qac1_0U Z x0 h0 n0)) (L0 := #[.val (.ref t1), .val (.int (0 : Int32))]) (plainFor_of_name pn_6) (fun m => by first | (simp [entryFrame, mkF, argsToLocals, Value.category]; done) | rfl) ?_
  intro p e s m below meth c T0 X0 hx hby hml hown hnm hret hlk hZ e0
  have N0 := Fr.nil n0
  refine Go.st (pc' := 1) (S' := [(.int (0 : Int32))]) (fun t_ k_ => XS.iloadN X0.here hx rfl (hb hby d27_0) rfl k_) ?_
  refine Go.st (pc' := 2) (S' := [(.ref t1), (.int (0 : Int32))]) (fun t_ k_ => XS.aloadN X0.here hx rfl (hb hby d27_1) rfl rfl k_) ?_
  obtain ⟨_, _, ⟨T1, L1, k1, n1⟩, -, X1, ⟨Lc1, hQ1, l1, y1, z1⟩, st1⟩ := Jvm.LawKit.callS X0 hx (y := (⟨"java/lang/StringUTF16", "checkIndex", "(I[B)V"⟩ : MethodName)) hown (mvT hZ (wd hw 117 rfl)) (mvT hZ (wd hw 118 rfl)) (mvT hZ (wd hw 86 rfl)) (mvT hZ (wd hw 119 rfl)) (by decide) (backOf (W := 0) (rmuck0_2 l Z a0 hw [] t1 _ fm ((own_lo x0)) ((own_hi x0)) h0 n0 Z0 hfm SF O0 V_t1) hZ (wd hw 119 rfl) (wd hw 86 rfl) (by decide) (by decide)) (g := (mkF m 2 #[.val (.ref t1), .val (.int (0 : Int32))] [(.ref t1), (.int (0 : Int32))])) rfl (by rw [hml]; rfl) (argsL := [(.int (0 : Int32)), (.ref t1)]) (rest := []) (lenOf pd_12 rfl) rfl (by show 2 * 0 + _ ≤ _; exact Nat.le_of_eq rfl) (hb hby d27_2) (fun _ _ => ⟨rfl, e0, (by decide : 0 + 0 ≤ _), (by decide : 0 + 0 ≤ _)⟩)
  dsimp only [Pt.U, Pt.locs, Pt.cells, Pt.slots] at X1 l1 y1 z1 st1 hQ1
  subst l1 y1 z1
  obtain ⟨rfl, N1q, e1⟩ := hQ1
  have N1 := Fr.app N0 N1q
  refine Go.st (pc' := 5) (S' := []) st1 ?_
  refine Go.st (pc' := 6) (S' := [(.ref t1)]) (fun t_ k_ => XS.aloadN X1.here hx rfl (hb hby d27_5) rfl rfl k_) ?_
  refine Go.st (pc' := 7) (S' := [(.int (0 : Int32)), (.ref t1)]) (fun t_ k_ => XS.iloadN X1.here hx rfl (hb hby d27_6) rfl k_) ?_
  obtain ⟨_, _, ⟨T2, L2, k2, n2⟩, -, X2, ⟨Lc2, hQ2, l2, y2, z2⟩, st2⟩ := Jvm.LawKit.callS X1 hx (y := (⟨"java/lang/StringUTF16", "getChar", "([BI)C"⟩ : MethodName)) hown (mvT hZ (wd hw 111 rfl)) (mvT hZ (wd hw 112 rfl)) (mvT hZ (wd hw 86 rfl)) (mvT hZ (wd hw 113 rfl)) (by decide) (backOf (W := 0) (rmgetc1_0 l Z a0 hw [] t1 _ ((own_lo x0)) ((own_hi x0)) h0 n0 Z0 SD SH SL O0 V_t1) hZ (wd hw 113 rfl) (wd hw 86 rfl) (by decide) (by decide)) (g := (mkF m 7 #[.val (.ref t1), .val (.int (0 : Int32))] [(.int (0 : Int32)), (.ref t1)])) rfl (by rw [hml]; rfl) (argsL := [(.ref t1), (.int (0 : Int32))]) (rest := []) (lenOf pd_10 rfl) rfl (by show 2 * 0 + _ ≤ _; exact Nat.le_of_eq rfl) (hb hby d27_7) (fun _ _ => ⟨rfl, e1, (by decide : 0 + 0 ≤ _), (by decide : 0 + 0 ≤ _)⟩)
  dsimp only [Pt.U, Pt.locs, Pt.cells, Pt.slots] at X2 l2 y2 z2 st2 hQ2
  subst l2 y2 z2
  obtain ⟨rc2, rfl, hr2, N2q, e2⟩ := hQ2
  have N2 := Fr.app N1 N2q
  replace hr2 : rc2 = x0 := hr2.trans (by rw [own_gc _ bd0.1 bd0.2, own_nch0 _ bd0.1 bd0.2])
  subst rc2
  refine Go.st (pc' := 10) (S' := [(.int x0)]) st2 ?_
  exact Go.retN X2 hx hlk hret (by simp) (hb hby d27_10) (by decide) (by decide) (by rw [e2]; exact ⟨by rw [own_nch0 _ bd0.1 bd0.2], N2, rfl⟩)
theorem d12_16 : decode jdk_42_method_56_code 16 = .ok (.aload_n 0, 1) := by decide +kernel
theorem d12_17 : decode jdk_42_method_56_code 17 = .ok (.getfield 9, 3) := by decide +kernel
theorem d12_20 : decode jdk_42_method_56_code 20 = .ok (.iload_n 1, 1) := by decide +kernel
theorem d12_21 : decode jdk_42_method_56_code 21 = .ok (.invokestatic 498, 3) := by decide +kernel
theorem d12_24 : decode jdk_42_method_56_code 24 = .ok (.ireturn, 1) := by decide +kernel
def Qca1_0U (Z : State) (x0 : Int32) (h0 : Heap) (n0 : Nat) (v : Option Value) (h : Heap) (L : List Loc) : Prop := v = some (.int x0) ∧ Fr n0 L ∧ h = h0
def roomca1_0U : Room := { frames := 4, cells := 0, slots := 0, locals := 53 }
theorem rmca1_0U (l : Launch) (Z : State) (a0 : Array Value) (hw : ∀ d ∈ tables_1, d.before a0 Z = true) (ws : List Jvm.Cond) (a1 : Addr) (t1 : Addr) (k1 : ClassId) (fm : Value) (gC : Int32) (x0 : Int32) (h0 : Heap) (n0 : Nat) (Z0 : n0 ≤ h0.size) (SC : Sta Z Z.heap "java/lang/String" "COMPACT_STRINGS" "Z" (.int gC)) (PC : ¬ (gC = (0 : Int32))) (O0 : Old Z n0 h0) (hfm : fm.isRef = true) (SF : Sta Z Z.heap "jdk/internal/util/Preconditions" "SIOOBE_FORMATTER" "Ljava/util/function/BiFunction;" fm) (SD : Sta Z Z.heap "java/lang/StringUTF16" "$assertionsDisabled" "Z" (.int (1 : Int32))) (SH : Sta Z Z.heap "java/lang/StringUTF16" "HI_BYTE_SHIFT" "I" (.int (0 : Int32))) (SL : Sta Z Z.heap "java/lang/StringUTF16" "LO_BYTE_SHIFT" "I" (.int (8 : Int32))) (E_a1 : Exa Z h0 a1 "java/lang/String") (Fc_a1 : Fld Z h0 a1 "java/lang/String" "coder" "B" (.int (1 : Int32))) (Fv_a1 : Fld Z h0 a1 "java/lang/String" "value" "[B" (.ref t1)) (V_t1 : Arv Z h0 t1 k1 .byte (2 : Int32) [(.int (own_lo x0)), (.int (own_hi x0))] (.int (0 : Int32))) (bd0 : ¬ x0 < 0 ∧ ¬ (65535 : Int32) < x0)  :
    OMet l (⟨"java/lang/String", "charAt", "(I)C"⟩ : MethodName) jdk_42_method_56_code 2 (some .char) ws roomca1_0U #[(.ref a1), (.int (0 : Int32))] Z h0 (Qca1_0U Z x0 h0 n0) := by
  refine own_met (Q := (Qca1_0U Z x0 h0 n0)) (L0 := #[.val (.ref a1), .val (.int (0 : Int32))]) (plainFor_of_name pn_0) (fun m => by first | (simp [entryFrame, mkF, argsToLocals, Value.category]; done) | rfl) ?_
  intro p e s m below meth c T0 X0 hx hby hml hown hnm hret hlk hZ e0
  have N0 := Fr.nil n0
  refine Go.st (pc' := 1) (S' := [(.ref a1)]) (fun t_ k_ => XS.aloadN X0.here hx rfl (hb hby d12_0) rfl rfl k_) ?_
  obtain ⟨cq1, kq1, q1a, q1b, q1c⟩ := isOf hZ e0 E_a1
  obtain ⟨_, _, ⟨T1, L1, k1, n1⟩, -, X1, ⟨Lc1, hQ1, l1, y1, z1⟩, st1⟩ := X0.virtualBack hx (y := (⟨"java/lang/String", "isLatin1", "()Z"⟩ : MethodName)) (z := (⟨"java/lang/String", "isLatin1", "()Z"⟩ : MethodName)) hown (mvT hZ (wd hw 60 rfl)) (mvT hZ (wd hw 61 rfl)) (notFace_of_selects (args := #[]) (mvT hZ (wd hw 63 rfl))) (mvT hZ (wd hw 63 rfl)) (mvT hZ (wd hw 62 rfl)) (by decide) (backOf (W := 0) (rmisLatin1U l Z a0 hw [] a1 gC h0 n0 Z0 SC PC O0 Fc_a1) hZ (wd hw 64 rfl) (wd hw 7 rfl) (by decide) (by decide)) q1a q1c (g := (mkF m 1 #[.val (.ref a1), .val (.int (0 : Int32))] [(.ref a1)])) rfl (by rw [hml]; rfl) (Steps.refl _) (argsL := []) (rest := []) (lenOf pd_7 rfl) rfl (by show 2 * 0 + _ ≤ _; exact Nat.le_of_eq rfl) (hb hby d12_1) (fun _ _ => ⟨rfl, e0, (by decide : 0 + 0 ≤ _), (by decide : 0 + 0 ≤ _)⟩)
  dsimp only [Pt.U, Pt.locs, Pt.cells, Pt.slots] at X1 l1 y1 z1 st1 hQ1
  subst l1 y1 z1
  obtain ⟨rfl, N1q, e1⟩ := hQ1
  have N1 := Fr.app N0 N1q
  refine Go.tr (pc' := 4) (S' := [(.int (0 : Int32))]) st1 ?_
  refine Go.st (pc' := 16) (S' := []) (fun t_ k_ => XS.ifYes X1.here hx rfl (pc0 := 4) (pc' := 16) rfl (hb hby d12_4) rfl ((if0 _ _).trans (teq (by decide : ((0 : Int32) = (0 : Int32)))).1) (by decide) (by decide) k_) ?_
  refine Go.st (pc' := 17) (S' := [(.ref a1)]) (fun t_ k_ => XS.aloadN X1.here hx rfl (hb hby d12_16) rfl rfl k_) ?_
  obtain ⟨T2, X2, e2, st2⟩ := getF X1 hx hZ hown (host := "") (Or.inl (wd hw 27 rfl)) Via.refl e1 Fv_a1 (g := (mkF m 17 #[.val (.ref a1), .val (.int (0 : Int32))] [(.ref a1)])) rfl rfl (hb hby d12_17)
  refine Go.st (pc' := 20) (S' := [(.ref t1)]) st2 ?_
  refine Go.st (pc' := 21) (S' := [(.int (0 : Int32)), (.ref t1)]) (fun t_ k_ => XS.iloadN X2.here hx rfl (hb hby d12_20) rfl k_) ?_
  obtain ⟨_, _, ⟨T3, L3, k3, n3⟩, -, X3, ⟨Lc3, hQ3, l3, y3, z3⟩, st3⟩ := Jvm.LawKit.callS X2 hx (y := (⟨"java/lang/StringUTF16", "charAt", "([BI)C"⟩ : MethodName)) hown (mvT hZ (wd hw 114 rfl)) (mvT hZ (wd hw 115 rfl)) (mvT hZ (wd hw 86 rfl)) (mvT hZ (wd hw 116 rfl)) (by decide) (backOf (W := 0) (rmac1_0U l Z a0 hw [] t1 _ fm x0 h0 n0 Z0 hfm SF O0 SD SH SL V_t1 bd0 ) hZ (wd hw 116 rfl) (wd hw 86 rfl) (by decide) (by decide)) (g := (mkF m 21 #[.val (.ref a1), .val (.int (0 : Int32))] [(.int (0 : Int32)), (.ref t1)])) rfl (by rw [hml]; rfl) (argsL := [(.ref t1), (.int (0 : Int32))]) (rest := []) (lenOf pd_10 rfl) rfl (by show 2 * 0 + _ ≤ _; exact Nat.le_of_eq rfl) (hb hby d12_21) (fun _ _ => ⟨rfl, e2, (by decide : 0 + 0 ≤ _), (by decide : 0 + 0 ≤ _)⟩)
  dsimp only [Pt.U, Pt.locs, Pt.cells, Pt.slots] at X3 l3 y3 z3 st3 hQ3
  subst l3 y3 z3
  obtain ⟨rfl, N3q, e3⟩ := hQ3
  have N3 := Fr.app N1 N3q
  refine Go.st (pc' := 24) (S' := [(.int x0)]) st3 ?_
  exact Go.retN X3 hx hlk hret (by simp) (hb hby d12_24) (by decide) (by decide) (by rw [e3]; exact ⟨by rw [own_nch0 _ bd0.1 bd0.2], N3, rfl⟩)
def Qca1_0C (Z : State) (x0 : Int32) (h0 : Heap) (n0 : Nat) (v : Option Value) (h : Heap) (L : List Loc) : Prop := v = some (.int x0) ∧ Fr n0 L ∧ h = h0
theorem rmca1_0C (l : Launch) (Z : State) (a0 : Array Value) (hw : ∀ d ∈ tables_1, d.before a0 Z = true) (ws : List Jvm.Cond) (a1 : Addr) (fm : Value) (gC : Int32) (x0 : Int32) (h0 : Heap) (n0 : Nat) (Z0 : n0 ≤ h0.size) (ss : own_ST Z gC fm) (O0 : Old Z n0 h0) (C1 : own_CS1 Z h0 a1 x0) (bd0 : own_bd x0) :
    OMet l (⟨"java/lang/String", "charAt", "(I)C"⟩ : MethodName) jdk_42_method_56_code 2 (some .char) ws roomca1_0L #[(.ref a1), (.int (0 : Int32))] Z h0 (Qca1_0C Z x0 h0 n0) := by
  obtain ⟨SC, PC, hfm, SF, SD, SH, SL⟩ := id ss
  obtain ⟨E_a1, t1, k1, ⟨Fc, Fv, V1, la0, -⟩ | ⟨Fc, Fv, V1⟩⟩ := C1
  · exact rmca1_0L l Z a0 hw ws a1 t1 k1 fm gC x0 h0 n0 Z0 SC PC O0 hfm SF  E_a1 Fc Fv V1 bd0 la0
  · exact rmca1_0U l Z a0 hw ws a1 t1 k1 fm gC x0 h0 n0 Z0 SC PC O0 hfm SF SD SH SL E_a1 Fc Fv V1 bd0 
theorem d8_21 : decode prog_5_method_3_code 21 = .ok (.aload_n 0, 1) := by decide +kernel
theorem d8_22 : decode prog_5_method_3_code 22 = .ok (.iload 4, 2) := by decide +kernel
theorem d8_24 : decode prog_5_method_3_code 24 = .ok (.invokevirtual 45, 3) := by decide +kernel
theorem d8_27 : decode prog_5_method_3_code 27 = .ok (.istore 5, 2) := by decide +kernel
theorem d8_29 : decode prog_5_method_3_code 29 = .ok (.iload_n 3, 1) := by decide +kernel
theorem d8_30 : decode prog_5_method_3_code 30 = .ok (.iload 5, 2) := by decide +kernel
theorem d8_32 : decode prog_5_method_3_code 32 = .ok (.bipush 48, 2) := by decide +kernel
theorem d8_34 : decode prog_5_method_3_code 34 = .ok (.if_icmp .lt 14, 3) := by decide +kernel
theorem d8_37 : decode prog_5_method_3_code 37 = .ok (.iload 5, 2) := by decide +kernel
theorem d8_39 : decode prog_5_method_3_code 39 = .ok (.bipush 57, 2) := by decide +kernel
theorem d8_41 : decode prog_5_method_3_code 41 = .ok (.if_icmp .gt 7, 3) := by decide +kernel
theorem d8_44 : decode prog_5_method_3_code 44 = .ok (.iconst 1, 1) := by decide +kernel
theorem d8_45 : decode prog_5_method_3_code 45 = .ok (.goto 4, 3) := by decide +kernel
theorem d8_48 : decode prog_5_method_3_code 48 = .ok (.iconst 0, 1) := by decide +kernel
theorem d8_49 : decode prog_5_method_3_code 49 = .ok (.iand, 1) := by decide +kernel
theorem d8_50 : decode prog_5_method_3_code 50 = .ok (.istore_n 3, 1) := by decide +kernel
theorem d8_51 : decode prog_5_method_3_code 51 = .ok (.iinc 4 1, 3) := by decide +kernel
theorem d8_54 : decode prog_5_method_3_code 54 = .ok (.goto (-42), 3) := by decide +kernel
theorem pd_13 : parseMethodDescriptor "(I)C" = some ⟨[.int], some .char⟩ := by decide +kernel

def roomare1 : Room := { frames := 5, cells := 2, slots := 24, locals := 66 }
theorem sgare1_1 {Z : State} {n0 : Nat} {h0 hh : Heap} (a1 : Addr) (p1 p2 : Int32) (fm : Value) (gC : Int32) (x0 : Int32) (ac : Int32) (ss : own_ST Z gC fm) (O0 : Old Z n0 hh) (Z0 : n0 ≤ hh.size) (K0 : Keep h0 hh []) (C1 : own_CS1 Z hh a1 x0) (bd0 : own_bd x0) (hac : ((1 : Int32) &&& own_dg x0) = ac) :
    SegH Z n0 h0 hh roomare1 2 24 prog_5_method_3_code 6 "pechat/card/Digits" "are" (some .boolean) (Qare1 Z x0 p1 p2 h0 n0) 12 #[.val (.ref a1), .val (.int p1), .val (.int p2), .val (.int ac), .val (.int (1 : Int32)), .val (.int x0)] [] := by
  intro p l e s m args below meth c T0 locs a0 k0 vm0 X0 hx hZ hw hby hml hown hnm hret hlk e0 hs0 CR hS hk N0
  refine GoH.st (pc' := 14) (S' := [(.int (1 : Int32))]) (fun t_ k_ => XS.iload X0.here hx rfl (hb hby d8_12) rfl k_) ?_
  refine GoH.st (pc' := 15) (S' := [(.ref a1), (.int (1 : Int32))]) (fun t_ k_ => XS.aloadN X0.here hx rfl (hb hby d8_14) rfl rfl k_) ?_
  obtain ⟨cq1, kq1, q1a, q1b, q1c⟩ := isOf hZ e0 C1.exa
  obtain ⟨_, _, ⟨T1, L1, k1, n1⟩, -, X1, ⟨Lc1, hQ1, l1, y1, z1⟩, st1⟩ := X0.virtualBack hx (y := (⟨"java/lang/String", "length", "()I"⟩ : MethodName)) (z := (⟨"java/lang/String", "length", "()I"⟩ : MethodName)) hown (mvT hZ (wd hw 45 rfl)) (mvT hZ (wd hw 46 rfl)) (notFace_of_selects (args := #[]) (mvT hZ (wd hw 48 rfl))) (mvT hZ (wd hw 48 rfl)) (mvT hZ (wd hw 47 rfl)) (by decide) (backOf (W := 1) (rmlen1C l Z a0 hw [] a1 fm gC x0 hh n0 Z0 ss O0 C1 bd0) hZ (wd hw 49 rfl) (wd hw 7 rfl) (by decide) (by decide)) q1a q1c (g := (mkF m 15 #[.val (.ref a1), .val (.int p1), .val (.int p2), .val (.int ac), .val (.int (1 : Int32)), .val (.int x0)] [(.ref a1), (.int (1 : Int32))])) rfl (by rw [hml]; rfl) (Steps.refl _) (argsL := []) (rest := [(.int (1 : Int32))]) (lenOf pd_5 rfl) rfl (by show 2 * 0 + _ ≤ _; exact Nat.le_of_eq rfl) (hb hby d8_15) (fun _ _ => ⟨rfl, e0, (by decide : 2 + 0 ≤ _), (by decide : 24 + 0 ≤ _)⟩)
  dsimp only [Pt.U, Pt.locs, Pt.cells, Pt.slots] at X1 l1 y1 z1 st1 hQ1
  subst l1 y1 z1
  obtain ⟨rfl, N1q, e1⟩ := hQ1
  have N1 := Fr.app N0 N1q
  refine GoH.tr (pc' := 18) (S' := [(.int (1 : Int32)), (.int (1 : Int32))]) st1 ?_
  refine GoH.st (pc' := 57) (S' := []) (fun t_ k_ => XS.icmpYes X1.here hx rfl (pc0 := 18) (pc' := 57) rfl (hb hby d8_18) rfl (flt (by decide : ¬ ((1 : Int32) < (1 : Int32)))).2.1 (by decide) (by decide) k_) ?_
  refine GoH.st (pc' := 58) (S' := [(.int ac)]) (fun t_ k_ => XS.iloadN X1.here hx rfl (hb hby d8_57) rfl k_) ?_
  by_cases hc58_2 : ac = (0 : Int32)
  · refine GoH.st (pc' := 81) (S' := []) (fun t_ k_ => XS.ifYes X1.here hx rfl (pc0 := 58) (pc' := 81) rfl (hb hby d8_58) rfl ((if0 _ _).trans (teq hc58_2).1) (by decide) (by decide) k_) ?_
    refine GoH.st (pc' := 82) (S' := [(.int (0 : Int32))]) (fun t_ k_ => XS.iconst X1.here hx rfl (hb hby d8_81) k_) ?_
    exact GoH.retN X1 hx hlk hret (by simp) (hb hby d8_82) (by decide) (by decide) hS hk e1 hs0 hZ (own_EW hw) CR (by rw [e1]; exact ⟨(by rw [show own_are ((1 : Int32) &&& own_dg x0) (1 : Int32) p1 p2 = own_are ac (1 : Int32) p1 p2 from congrArg (fun u_ => own_are u_ (1 : Int32) p1 p2) hac, own_are, if_pos hc58_2]; rfl), N1, K0⟩)
  · refine GoH.st (pc' := 61) (S' := []) (fun t_ k_ => XS.ifNo X1.here hx rfl (hb hby d8_58) rfl ((if0 _ _).trans (feq hc58_2).1) k_) ?_
    refine GoH.st (pc' := 62) (S' := [(.ref a1)]) (fun t_ k_ => XS.aloadN X1.here hx rfl (hb hby d8_61) rfl rfl k_) ?_
    obtain ⟨cq3, kq3, q3a, q3b, q3c⟩ := isOf hZ e1 C1.exa
    obtain ⟨_, _, ⟨T3, L3, k3, n3⟩, -, X3, ⟨Lc3, hQ3, l3, y3, z3⟩, st3⟩ := X1.virtualBack hx (y := (⟨"java/lang/String", "length", "()I"⟩ : MethodName)) (z := (⟨"java/lang/String", "length", "()I"⟩ : MethodName)) hown (mvT hZ (wd hw 45 rfl)) (mvT hZ (wd hw 46 rfl)) (notFace_of_selects (args := #[]) (mvT hZ (wd hw 48 rfl))) (mvT hZ (wd hw 48 rfl)) (mvT hZ (wd hw 47 rfl)) (by decide) (backOf (W := 0) (rmlen1C l Z a0 hw [] a1 fm gC x0 hh n0 Z0 ss O0 C1 bd0) hZ (wd hw 49 rfl) (wd hw 7 rfl) (by decide) (by decide)) q3a q3c (g := (mkF m 62 #[.val (.ref a1), .val (.int p1), .val (.int p2), .val (.int ac), .val (.int (1 : Int32)), .val (.int x0)] [(.ref a1)])) rfl (by rw [hml]; rfl) (Steps.refl _) (argsL := []) (rest := []) (lenOf pd_5 rfl) rfl (by show 2 * 0 + _ ≤ _; exact Nat.le_of_eq rfl) (hb hby d8_62) (fun _ _ => ⟨rfl, e1, (by decide : 2 + 0 ≤ _), (by decide : 24 + 0 ≤ _)⟩)
    dsimp only [Pt.U, Pt.locs, Pt.cells, Pt.slots] at X3 l3 y3 z3 st3 hQ3
    subst l3 y3 z3
    obtain ⟨rfl, N3q, e3⟩ := hQ3
    have N3 := Fr.app N1 N3q
    refine GoH.tr (pc' := 65) (S' := [(.int (1 : Int32))]) st3 ?_
    refine GoH.st (pc' := 66) (S' := [(.int p1), (.int (1 : Int32))]) (fun t_ k_ => XS.iloadN X3.here hx rfl (hb hby d8_65) rfl k_) ?_
    by_cases hc66_4 : (1 : Int32) < p1
    · refine GoH.st (pc' := 81) (S' := []) (fun t_ k_ => XS.icmpYes X3.here hx rfl (pc0 := 66) (pc' := 81) rfl (hb hby d8_66) rfl (tlt hc66_4).1 (by decide) (by decide) k_) ?_
      refine GoH.st (pc' := 82) (S' := [(.int (0 : Int32))]) (fun t_ k_ => XS.iconst X3.here hx rfl (hb hby d8_81) k_) ?_
      exact GoH.retN X3 hx hlk hret (by simp) (hb hby d8_82) (by decide) (by decide) hS hk e3 hs0 hZ (own_EW hw) CR (by rw [e3]; exact ⟨(by rw [show own_are ((1 : Int32) &&& own_dg x0) (1 : Int32) p1 p2 = own_are ac (1 : Int32) p1 p2 from congrArg (fun u_ => own_are u_ (1 : Int32) p1 p2) hac, own_are, if_neg hc58_2, if_pos hc66_4]; rfl), N3, K0⟩)
    · refine GoH.st (pc' := 69) (S' := []) (fun t_ k_ => XS.icmpNo X3.here hx rfl (hb hby d8_66) rfl (flt hc66_4).1 k_) ?_
      refine GoH.st (pc' := 70) (S' := [(.ref a1)]) (fun t_ k_ => XS.aloadN X3.here hx rfl (hb hby d8_69) rfl rfl k_) ?_
      obtain ⟨cq5, kq5, q5a, q5b, q5c⟩ := isOf hZ e3 C1.exa
      obtain ⟨_, _, ⟨T5, L5, k5, n5⟩, -, X5, ⟨Lc5, hQ5, l5, y5, z5⟩, st5⟩ := X3.virtualBack hx (y := (⟨"java/lang/String", "length", "()I"⟩ : MethodName)) (z := (⟨"java/lang/String", "length", "()I"⟩ : MethodName)) hown (mvT hZ (wd hw 45 rfl)) (mvT hZ (wd hw 46 rfl)) (notFace_of_selects (args := #[]) (mvT hZ (wd hw 48 rfl))) (mvT hZ (wd hw 48 rfl)) (mvT hZ (wd hw 47 rfl)) (by decide) (backOf (W := 0) (rmlen1C l Z a0 hw [] a1 fm gC x0 hh n0 Z0 ss O0 C1 bd0) hZ (wd hw 49 rfl) (wd hw 7 rfl) (by decide) (by decide)) q5a q5c (g := (mkF m 70 #[.val (.ref a1), .val (.int p1), .val (.int p2), .val (.int ac), .val (.int (1 : Int32)), .val (.int x0)] [(.ref a1)])) rfl (by rw [hml]; rfl) (Steps.refl _) (argsL := []) (rest := []) (lenOf pd_5 rfl) rfl (by show 2 * 0 + _ ≤ _; exact Nat.le_of_eq rfl) (hb hby d8_70) (fun _ _ => ⟨rfl, e3, (by decide : 2 + 0 ≤ _), (by decide : 24 + 0 ≤ _)⟩)
      dsimp only [Pt.U, Pt.locs, Pt.cells, Pt.slots] at X5 l5 y5 z5 st5 hQ5
      subst l5 y5 z5
      obtain ⟨rfl, N5q, e5⟩ := hQ5
      have N5 := Fr.app N3 N5q
      refine GoH.tr (pc' := 73) (S' := [(.int (1 : Int32))]) st5 ?_
      refine GoH.st (pc' := 74) (S' := [(.int p2), (.int (1 : Int32))]) (fun t_ k_ => XS.iloadN X5.here hx rfl (hb hby d8_73) rfl k_) ?_
      by_cases hc74_6 : p2 < (1 : Int32)
      · refine GoH.st (pc' := 81) (S' := []) (fun t_ k_ => XS.icmpYes X5.here hx rfl (pc0 := 74) (pc' := 81) rfl (hb hby d8_74) rfl (tlt hc74_6).2.2.1 (by decide) (by decide) k_) ?_
        refine GoH.st (pc' := 82) (S' := [(.int (0 : Int32))]) (fun t_ k_ => XS.iconst X5.here hx rfl (hb hby d8_81) k_) ?_
        exact GoH.retN X5 hx hlk hret (by simp) (hb hby d8_82) (by decide) (by decide) hS hk e5 hs0 hZ (own_EW hw) CR (by rw [e5]; exact ⟨(by rw [show own_are ((1 : Int32) &&& own_dg x0) (1 : Int32) p1 p2 = own_are ac (1 : Int32) p1 p2 from congrArg (fun u_ => own_are u_ (1 : Int32) p1 p2) hac, own_are, if_neg hc58_2, if_neg hc66_4, if_pos hc74_6]; rfl), N5, K0⟩)
      · refine GoH.st (pc' := 77) (S' := []) (fun t_ k_ => XS.icmpNo X5.here hx rfl (hb hby d8_74) rfl (flt hc74_6).2.2.1 k_) ?_
        refine GoH.st (pc' := 78) (S' := [(.int (1 : Int32))]) (fun t_ k_ => XS.iconst X5.here hx rfl (hb hby d8_77) k_) ?_
        refine GoH.st (pc' := 82) (S' := [(.int (1 : Int32))]) (fun t_ k_ => XS.goto X5.here hx rfl (pc0 := 78) (pc' := 82) rfl (hb hby d8_78) (by decide) (by decide) k_) ?_
        exact GoH.retN X5 hx hlk hret (by simp) (hb hby d8_82) (by decide) (by decide) hS hk e5 hs0 hZ (own_EW hw) CR (by rw [e5]; exact ⟨(by rw [show own_are ((1 : Int32) &&& own_dg x0) (1 : Int32) p1 p2 = own_are ac (1 : Int32) p1 p2 from congrArg (fun u_ => own_are u_ (1 : Int32) p1 p2) hac, own_are, if_neg hc58_2, if_neg hc66_4, if_neg hc74_6]; rfl), N5, K0⟩)
theorem sgare1_0 {Z : State} {n0 : Nat} {h0 hh : Heap} (a1 : Addr) (p1 p2 : Int32) (fm : Value) (gC : Int32) (x0 : Int32) (ac : Int32) (ss : own_ST Z gC fm) (O0 : Old Z n0 hh) (Z0 : n0 ≤ hh.size) (K0 : Keep h0 hh []) (C1 : own_CS1 Z hh a1 x0) (bd0 : own_bd x0) (hac : (1 : Int32) = ac) :
    SegH Z n0 h0 hh roomare1 2 24 prog_5_method_3_code 6 "pechat/card/Digits" "are" (some .boolean) (Qare1 Z x0 p1 p2 h0 n0) 12 #[.val (.ref a1), .val (.int p1), .val (.int p2), .val (.int ac), .val (.int (0 : Int32)), .unset] [] := by
  intro p l e s m args below meth c T0 locs a0 k0 vm0 X0 hx hZ hw hby hml hown hnm hret hlk e0 hs0 CR hS hk N0
  refine GoH.st (pc' := 14) (S' := [(.int (0 : Int32))]) (fun t_ k_ => XS.iload X0.here hx rfl (hb hby d8_12) rfl k_) ?_
  refine GoH.st (pc' := 15) (S' := [(.ref a1), (.int (0 : Int32))]) (fun t_ k_ => XS.aloadN X0.here hx rfl (hb hby d8_14) rfl rfl k_) ?_
  obtain ⟨cq1, kq1, q1a, q1b, q1c⟩ := isOf hZ e0 C1.exa
  obtain ⟨_, _, ⟨T1, L1, k1, n1⟩, -, X1, ⟨Lc1, hQ1, l1, y1, z1⟩, st1⟩ := X0.virtualBack hx (y := (⟨"java/lang/String", "length", "()I"⟩ : MethodName)) (z := (⟨"java/lang/String", "length", "()I"⟩ : MethodName)) hown (mvT hZ (wd hw 45 rfl)) (mvT hZ (wd hw 46 rfl)) (notFace_of_selects (args := #[]) (mvT hZ (wd hw 48 rfl))) (mvT hZ (wd hw 48 rfl)) (mvT hZ (wd hw 47 rfl)) (by decide) (backOf (W := 1) (rmlen1C l Z a0 hw [] a1 fm gC x0 hh n0 Z0 ss O0 C1 bd0) hZ (wd hw 49 rfl) (wd hw 7 rfl) (by decide) (by decide)) q1a q1c (g := (mkF m 15 #[.val (.ref a1), .val (.int p1), .val (.int p2), .val (.int ac), .val (.int (0 : Int32)), .unset] [(.ref a1), (.int (0 : Int32))])) rfl (by rw [hml]; rfl) (Steps.refl _) (argsL := []) (rest := [(.int (0 : Int32))]) (lenOf pd_5 rfl) rfl (by show 2 * 0 + _ ≤ _; exact Nat.le_of_eq rfl) (hb hby d8_15) (fun _ _ => ⟨rfl, e0, (by decide : 2 + 0 ≤ _), (by decide : 24 + 0 ≤ _)⟩)
  dsimp only [Pt.U, Pt.locs, Pt.cells, Pt.slots] at X1 l1 y1 z1 st1 hQ1
  subst l1 y1 z1
  obtain ⟨rfl, N1q, e1⟩ := hQ1
  have N1 := Fr.app N0 N1q
  refine GoH.tr (pc' := 18) (S' := [(.int (1 : Int32)), (.int (0 : Int32))]) st1 ?_
  refine GoH.st (pc' := 21) (S' := []) (fun t_ k_ => XS.icmpNo X1.here hx rfl (hb hby d8_18) rfl (tlt (by decide : ((0 : Int32) < (1 : Int32)))).2.1 k_) ?_
  refine GoH.st (pc' := 22) (S' := [(.ref a1)]) (fun t_ k_ => XS.aloadN X1.here hx rfl (hb hby d8_21) rfl rfl k_) ?_
  refine GoH.st (pc' := 24) (S' := [(.int (0 : Int32)), (.ref a1)]) (fun t_ k_ => XS.iload X1.here hx rfl (hb hby d8_22) rfl k_) ?_
  obtain ⟨cq2, kq2, q2a, q2b, q2c⟩ := isOf hZ e1 C1.exa
  obtain ⟨_, _, ⟨T2, L2, k2, n2⟩, -, X2, ⟨Lc2, hQ2, l2, y2, z2⟩, st2⟩ := X1.virtualBack hx (y := (⟨"java/lang/String", "charAt", "(I)C"⟩ : MethodName)) (z := (⟨"java/lang/String", "charAt", "(I)C"⟩ : MethodName)) hown (mvT hZ (wd hw 55 rfl)) (mvT hZ (wd hw 56 rfl)) (notFace_of_selects (args := #[]) (mvT hZ (wd hw 58 rfl))) (mvT hZ (wd hw 58 rfl)) (mvT hZ (wd hw 57 rfl)) (by decide) (backOf (W := 0) (rmca1_0C l Z a0 hw [] a1 fm gC x0 hh n0 Z0 ss O0 C1 bd0) hZ (wd hw 59 rfl) (wd hw 7 rfl) (by decide) (by decide)) q2a q2c (g := (mkF m 24 #[.val (.ref a1), .val (.int p1), .val (.int p2), .val (.int ac), .val (.int (0 : Int32)), .unset] [(.int (0 : Int32)), (.ref a1)])) rfl (by rw [hml]; rfl) (Steps.refl _) (argsL := [(.int (0 : Int32))]) (rest := []) (lenOf pd_13 rfl) rfl (by show 2 * 0 + _ ≤ _; exact Nat.le_of_eq rfl) (hb hby d8_24) (fun _ _ => ⟨rfl, e1, (by decide : 2 + 0 ≤ _), (by decide : 24 + 0 ≤ _)⟩)
  dsimp only [Pt.U, Pt.locs, Pt.cells, Pt.slots] at X2 l2 y2 z2 st2 hQ2
  subst l2 y2 z2
  obtain ⟨rfl, N2q, e2⟩ := hQ2
  have N2 := Fr.app N1 N2q
  refine GoH.tr (pc' := 27) (S' := [(.int x0)]) st2 ?_
  refine GoH.st (pc' := 29) (S' := []) (fun t_ k_ => XS.istore X2.here hx rfl (hb hby d8_27) rfl (l' := #[.val (.ref a1), .val (.int p1), .val (.int p2), .val (.int ac), .val (.int (0 : Int32)), .val (.int x0)]) rfl k_) ?_
  refine GoH.st (pc' := 30) (S' := [(.int ac)]) (fun t_ k_ => XS.iloadN X2.here hx rfl (hb hby d8_29) rfl k_) ?_
  refine GoH.st (pc' := 32) (S' := [(.int x0), (.int ac)]) (fun t_ k_ => XS.iload X2.here hx rfl (hb hby d8_30) rfl k_) ?_
  refine GoH.st (pc' := 34) (S' := [(.int (48 : Int32)), (.int x0), (.int ac)]) (fun t_ k_ => XS.bipush X2.here hx rfl (hb hby d8_32) k_) ?_
  by_cases hc34_3 : x0 < (48 : Int32)
  · refine GoH.st (pc' := 48) (S' := [(.int ac)]) (fun t_ k_ => XS.icmpYes X2.here hx rfl (pc0 := 34) (pc' := 48) rfl (hb hby d8_34) rfl (tlt hc34_3).1 (by decide) (by decide) k_) ?_
    refine GoH.st (pc' := 49) (S' := [(.int (0 : Int32)), (.int ac)]) (fun t_ k_ => XS.iconst X2.here hx rfl (hb hby d8_48) k_) ?_
    refine GoH.st (pc' := 50) (S' := [(.int (ac &&& (0 : Int32)))]) (fun t_ k_ => XS.iand X2.here hx rfl (hb hby d8_49) rfl k_) ?_
    refine GoH.st (pc' := 51) (S' := []) (fun t_ k_ => XS.istoreN X2.here hx rfl (hb hby d8_50) rfl (l' := #[.val (.ref a1), .val (.int p1), .val (.int p2), .val (.int (ac &&& (0 : Int32))), .val (.int (0 : Int32)), .val (.int x0)]) rfl k_) ?_
    refine GoH.st (pc' := 54) (S' := []) (fun t_ k_ => XS.iinc X2.here hx rfl (hb hby d8_51) rfl (l' := #[.val (.ref a1), .val (.int p1), .val (.int p2), .val (.int (ac &&& (0 : Int32))), .val (.int ((0 : Int32) + (1 : Int32))), .val (.int x0)]) rfl k_) ?_
    rw [show ((0 : Int32) + (1 : Int32)) = (1 : Int32) from by decide]
    refine GoH.st (pc' := 12) (S' := []) (fun t_ k_ => XS.goto X2.here hx rfl (pc0 := 54) (pc' := 12) rfl (hb hby d8_54) (by decide) (by decide) k_) ?_
    exact sgare1_1 a1 p1 p2 fm gC x0 (ac &&& (0 : Int32)) ss O0 Z0 K0 C1 bd0 (own_and hac (own_dgA hc34_3)) (Stand.up X2 (by decide) (by decide)) hx hZ hw hby hml hown hnm hret hlk e2 hs0 CR hS hk N2
  · refine GoH.st (pc' := 37) (S' := [(.int ac)]) (fun t_ k_ => XS.icmpNo X2.here hx rfl (hb hby d8_34) rfl (flt hc34_3).1 k_) ?_
    refine GoH.st (pc' := 39) (S' := [(.int x0), (.int ac)]) (fun t_ k_ => XS.iload X2.here hx rfl (hb hby d8_37) rfl k_) ?_
    refine GoH.st (pc' := 41) (S' := [(.int (57 : Int32)), (.int x0), (.int ac)]) (fun t_ k_ => XS.bipush X2.here hx rfl (hb hby d8_39) k_) ?_
    by_cases hc41_4 : (57 : Int32) < x0
    · refine GoH.st (pc' := 48) (S' := [(.int ac)]) (fun t_ k_ => XS.icmpYes X2.here hx rfl (pc0 := 41) (pc' := 48) rfl (hb hby d8_41) rfl (tlt hc41_4).2.2.1 (by decide) (by decide) k_) ?_
      refine GoH.st (pc' := 49) (S' := [(.int (0 : Int32)), (.int ac)]) (fun t_ k_ => XS.iconst X2.here hx rfl (hb hby d8_48) k_) ?_
      refine GoH.st (pc' := 50) (S' := [(.int (ac &&& (0 : Int32)))]) (fun t_ k_ => XS.iand X2.here hx rfl (hb hby d8_49) rfl k_) ?_
      refine GoH.st (pc' := 51) (S' := []) (fun t_ k_ => XS.istoreN X2.here hx rfl (hb hby d8_50) rfl (l' := #[.val (.ref a1), .val (.int p1), .val (.int p2), .val (.int (ac &&& (0 : Int32))), .val (.int (0 : Int32)), .val (.int x0)]) rfl k_) ?_
      refine GoH.st (pc' := 54) (S' := []) (fun t_ k_ => XS.iinc X2.here hx rfl (hb hby d8_51) rfl (l' := #[.val (.ref a1), .val (.int p1), .val (.int p2), .val (.int (ac &&& (0 : Int32))), .val (.int ((0 : Int32) + (1 : Int32))), .val (.int x0)]) rfl k_) ?_
      rw [show ((0 : Int32) + (1 : Int32)) = (1 : Int32) from by decide]
      refine GoH.st (pc' := 12) (S' := []) (fun t_ k_ => XS.goto X2.here hx rfl (pc0 := 54) (pc' := 12) rfl (hb hby d8_54) (by decide) (by decide) k_) ?_
      exact sgare1_1 a1 p1 p2 fm gC x0 (ac &&& (0 : Int32)) ss O0 Z0 K0 C1 bd0 (own_and hac (own_dgB hc41_4)) (Stand.up X2 (by decide) (by decide)) hx hZ hw hby hml hown hnm hret hlk e2 hs0 CR hS hk N2
    · refine GoH.st (pc' := 44) (S' := [(.int ac)]) (fun t_ k_ => XS.icmpNo X2.here hx rfl (hb hby d8_41) rfl (flt hc41_4).2.2.1 k_) ?_
      refine GoH.st (pc' := 45) (S' := [(.int (1 : Int32)), (.int ac)]) (fun t_ k_ => XS.iconst X2.here hx rfl (hb hby d8_44) k_) ?_
      refine GoH.st (pc' := 49) (S' := [(.int (1 : Int32)), (.int ac)]) (fun t_ k_ => XS.goto X2.here hx rfl (pc0 := 45) (pc' := 49) rfl (hb hby d8_45) (by decide) (by decide) k_) ?_
      refine GoH.st (pc' := 50) (S' := [(.int (ac &&& (1 : Int32)))]) (fun t_ k_ => XS.iand X2.here hx rfl (hb hby d8_49) rfl k_) ?_
      refine GoH.st (pc' := 51) (S' := []) (fun t_ k_ => XS.istoreN X2.here hx rfl (hb hby d8_50) rfl (l' := #[.val (.ref a1), .val (.int p1), .val (.int p2), .val (.int (ac &&& (1 : Int32))), .val (.int (0 : Int32)), .val (.int x0)]) rfl k_) ?_
      refine GoH.st (pc' := 54) (S' := []) (fun t_ k_ => XS.iinc X2.here hx rfl (hb hby d8_51) rfl (l' := #[.val (.ref a1), .val (.int p1), .val (.int p2), .val (.int (ac &&& (1 : Int32))), .val (.int ((0 : Int32) + (1 : Int32))), .val (.int x0)]) rfl k_) ?_
      rw [show ((0 : Int32) + (1 : Int32)) = (1 : Int32) from by decide]
      refine GoH.st (pc' := 12) (S' := []) (fun t_ k_ => XS.goto X2.here hx rfl (pc0 := 54) (pc' := 12) rfl (hb hby d8_54) (by decide) (by decide) k_) ?_
      exact sgare1_1 a1 p1 p2 fm gC x0 (ac &&& (1 : Int32)) ss O0 Z0 K0 C1 bd0 (own_and hac (own_dgC hc34_3 hc41_4)) (Stand.up X2 (by decide) (by decide)) hx hZ hw hby hml hown hnm hret hlk e2 hs0 CR hS hk N2
theorem rmare1 (l : Launch) (Z : State) (a0 : Array Value) (hw : ∀ d ∈ tables_1, d.before a0 Z = true) (ws : List Jvm.Cond) (a1 : Addr) (p1 p2 : Int32) (fm : Value) (gC : Int32) (x0 : Int32) (h0 : Heap) (n0 : Nat) (Z0 : n0 ≤ h0.size) (ss : own_ST Z gC fm) (O0 : Old Z n0 h0) (C1 : own_CS1 Z h0 a1 x0) (bd0 : own_bd x0) :
    OMetH l (⟨"pechat/card/Digits", "are", "(Ljava/lang/String;II)Z"⟩ : MethodName) prog_5_method_3_code 6 (some .boolean) ws roomare1 #[(.ref a1), (.int p1), (.int p2)] Z h0 (Qare1 Z x0 p1 p2 h0 n0) := by
  refine own_metH (Q := (Qare1 Z x0 p1 p2 h0 n0)) (L0 := #[.val (.ref a1), .val (.int p1), .val (.int p2), .unset, .unset, .unset]) (plainFor_of_name pn_4) (fun m => by first | (simp [entryFrame, mkF, argsToLocals, Value.category]; done) | rfl) ?_
  intro p e s m below meth c T0 X0 hx hby hml hown hnm hret hlk hZ e0 hs0 CR hS hk
  have N0 := Fr.nil n0
  have K0 := Keep.refl h0 []
  refine GoH.st (pc' := 1) (S' := [(.ref a1)]) (fun t_ k_ => XS.aloadN X0.here hx rfl (hb hby d8_0) rfl rfl k_) ?_
  obtain ⟨a1_, T1, h1, k1, X1, e1, E1, hS1, hk1, hZ1, ho1, CR1, -, st1⟩ := ldcOH X0 hx hZ hown (wd hw 38 rfl) (own_wS hw) e0 hS hk (own_EW hw) CR.1 (g := (mkF m 1 #[.val (.ref a1), .val (.int p1), .val (.int p2), .unset, .unset, .unset] [(.ref a1)])) rfl (hb hby d8_1) (n := 20) (by decide) (by decide) (by decide) (by decide)
  replace CR := CR.trans CR1
  replace Z0 := Nat.le_trans Z0 E1.1
  replace O0 := O0.ext E1
  replace C1 := C1.ext E1
  replace K0 := K0.ext E1
  replace hZ := hZ1
  replace hown := ho1
  replace hS := hS1
  replace hk := hk1
  refine GoH.st (pc' := 3) (S' := [(.ref a1_), (.ref a1)]) st1 ?_
  obtain ⟨_, _, ⟨T2, L2, k2, n2⟩, -, X2, ⟨Lc2, hQ2, l2, y2, z2⟩, st2⟩ := Jvm.LawKit.callS X1 hx (y := (⟨"java/util/Objects", "requireNonNull", "(Ljava/lang/Object;Ljava/lang/String;)Ljava/lang/Object;"⟩ : MethodName)) hown (mvT hZ (wd hw 41 rfl)) (mvT hZ (wd hw 42 rfl)) (mvT hZ (wd hw 43 rfl)) (mvT hZ (wd hw 44 rfl)) (by decide) (backOf (W := 0) (rm9 l Z a0 hw [] a1 a1_ h1 n0 Z0) hZ (wd hw 44 rfl) (wd hw 43 rfl) (by decide) (by decide)) (g := (mkF m 3 #[.val (.ref a1), .val (.int p1), .val (.int p2), .unset, .unset, .unset] [(.ref a1_), (.ref a1)])) rfl (by rw [hml]; rfl) (argsL := [(.ref a1), (.ref a1_)]) (rest := []) (lenOf pd_6 rfl) rfl (by show 2 * 0 + _ ≤ _; exact Nat.le_of_eq rfl) (hb hby d8_3) (fun _ _ => ⟨rfl, e1, (by decide : 2 + 0 ≤ _), (by decide : 24 + 0 ≤ _)⟩)
  dsimp only [Pt.U, Pt.locs, Pt.cells, Pt.slots] at X2 l2 y2 z2 st2 hQ2
  subst l2 y2 z2
  obtain ⟨rfl, N2q, e2⟩ := hQ2
  have N2 := Fr.app N0 N2q
  refine GoH.st (pc' := 6) (S' := [(.ref a1)]) st2 ?_
  refine GoH.st (pc' := 7) (S' := []) (fun t_ k_ => XS.pop X2.here hx rfl (hb hby d8_6) rfl rfl k_) ?_
  refine GoH.st (pc' := 8) (S' := [(.int (1 : Int32))]) (fun t_ k_ => XS.iconst X2.here hx rfl (hb hby d8_7) k_) ?_
  refine GoH.st (pc' := 9) (S' := []) (fun t_ k_ => XS.istoreN X2.here hx rfl (hb hby d8_8) rfl (l' := #[.val (.ref a1), .val (.int p1), .val (.int p2), .val (.int (1 : Int32)), .unset, .unset]) rfl k_) ?_
  refine GoH.st (pc' := 10) (S' := [(.int (0 : Int32))]) (fun t_ k_ => XS.iconst X2.here hx rfl (hb hby d8_9) k_) ?_
  refine GoH.st (pc' := 12) (S' := []) (fun t_ k_ => XS.istore X2.here hx rfl (hb hby d8_10) rfl (l' := #[.val (.ref a1), .val (.int p1), .val (.int p2), .val (.int (1 : Int32)), .val (.int (0 : Int32)), .unset]) rfl k_) ?_
  exact sgare1_0 a1 p1 p2 fm gC x0 (1 : Int32) ss O0 Z0 K0 C1 bd0 rfl (Stand.up X2 (by decide) (by decide)) hx hZ hw hby hml hown hnm hret hlk e2 hs0 CR hS hk N2
def Qare2 (Z : State) (x0 : Int32) (x1 : Int32) (p1 : Int32) (p2 : Int32) (h0 : Heap) (n0 : Nat) (v : Option Value) (h : Heap) (L : List Loc) : Prop := v = some (.int (own_are (((1 : Int32) &&& own_dg x0) &&& own_dg x1) (2 : Int32) p1 p2)) ∧ Fr n0 L ∧ Keep h0 h []

def Qlen2L (Z : State) (a1 : Addr) (t1 : Addr) (k1 : ClassId) (gC : Int32) (x0 : Int32) (x1 : Int32) (h0 : Heap) (n0 : Nat) (v : Option Value) (h : Heap) (L : List Loc) : Prop := v = some (.int 2) ∧ Fr n0 L ∧ h = h0
def roomlen2L : Room := { frames := 1, cells := 0, slots := 0, locals := 13 }
theorem rmlen2L (l : Launch) (Z : State) (a0 : Array Value) (hw : ∀ d ∈ tables_1, d.before a0 Z = true) (ws : List Jvm.Cond) (a1 : Addr) (t1 : Addr) (k1 : ClassId) (gC : Int32) (x0 : Int32) (x1 : Int32) (h0 : Heap) (n0 : Nat) (Z0 : n0 ≤ h0.size) (SC : Sta Z Z.heap "java/lang/String" "COMPACT_STRINGS" "Z" (.int gC)) (PC : ¬ (gC = (0 : Int32))) (O0 : Old Z n0 h0) (E_a1 : Exa Z h0 a1 "java/lang/String") (Fc_a1 : Fld Z h0 a1 "java/lang/String" "coder" "B" (.int (0 : Int32))) (Fv_a1 : Fld Z h0 a1 "java/lang/String" "value" "[B" (.ref t1)) (V_t1 : Arv Z h0 t1 k1 .byte (2 : Int32) [(.int (x0.toInt8.toInt32)), (.int (x1.toInt8.toInt32))] (.int (0 : Int32))) :
    OMet l (⟨"java/lang/String", "length", "()I"⟩ : MethodName) jdk_42_method_54_code 1 (some .int) ws roomlen2L #[(.ref a1)] Z h0 (Qlen2L Z a1 t1 k1 gC x0 x1 h0 n0) := by
  refine own_met (Q := (Qlen2L Z a1 t1 k1 gC x0 x1 h0 n0)) (L0 := #[.val (.ref a1)]) (plainFor_of_name pn_0) (fun m => by first | (simp [entryFrame, mkF, argsToLocals, Value.category]; done) | rfl) ?_
  intro p e s m below meth c T0 X0 hx hby hml hown hnm hret hlk hZ e0
  have N0 := Fr.nil n0
  refine Go.st (pc' := 1) (S' := [(.ref a1)]) (fun t_ k_ => XS.aloadN X0.here hx rfl (hb hby d10_0) rfl rfl k_) ?_
  obtain ⟨T1, X1, e1, st1⟩ := getF X0 hx hZ hown (host := "") (Or.inl (wd hw 27 rfl)) Via.refl e0 Fv_a1 (g := (mkF m 1 #[.val (.ref a1)] [(.ref a1)])) rfl rfl (hb hby d10_1)
  refine Go.st (pc' := 4) (S' := [(.ref t1)]) st1 ?_
  obtain ⟨cl2, Ar2, -, q2a, q2b, -, -⟩ := id V_t1
  refine Go.st (pc' := 5) (S' := [(.int (2 : Int32))]) (fun t_ k_ => own_len X1 hx hZ e1 Ar2 q2a q2b (g := (mkF m 4 #[.val (.ref a1)] [(.ref t1)])) rfl rfl (hb hby d10_4) t_ k_) ?_
  refine Go.st (pc' := 6) (S' := [(.ref a1), (.int (2 : Int32))]) (fun t_ k_ => XS.aloadN X1.here hx rfl (hb hby d10_5) rfl rfl k_) ?_
  obtain ⟨cq3, kq3, q3a, q3b, q3c⟩ := isOf hZ e1 E_a1
  obtain ⟨_, _, ⟨T3, L3, k3, n3⟩, -, X3, ⟨Lc3, hQ3, l3, y3, z3⟩, st3⟩ := X1.virtualBack hx (y := (⟨"java/lang/String", "coder", "()B"⟩ : MethodName)) (z := (⟨"java/lang/String", "coder", "()B"⟩ : MethodName)) hown (mvT hZ (wd hw 50 rfl)) (mvT hZ (wd hw 51 rfl)) (notFace_of_selects (args := #[]) (mvT hZ (wd hw 53 rfl))) (mvT hZ (wd hw 53 rfl)) (mvT hZ (wd hw 52 rfl)) (by decide) (backOf (W := 1) (rm11 l Z a0 hw [] a1 gC h0 n0 Z0 SC PC O0 Fc_a1) hZ (wd hw 54 rfl) (wd hw 7 rfl) (by decide) (by decide)) q3a q3c (g := (mkF m 6 #[.val (.ref a1)] [(.ref a1), (.int (2 : Int32))])) rfl (by rw [hml]; rfl) (Steps.refl _) (argsL := []) (rest := [(.int (2 : Int32))]) (lenOf pd_4 rfl) rfl (by show 2 * 0 + _ ≤ _; exact Nat.le_of_eq rfl) (hb hby d10_6) (fun _ _ => ⟨rfl, e1, (by decide : 0 + 0 ≤ _), (by decide : 0 + 0 ≤ _)⟩)
  dsimp only [Pt.U, Pt.locs, Pt.cells, Pt.slots] at X3 l3 y3 z3 st3 hQ3
  subst l3 y3 z3
  obtain ⟨rfl, N3q, e3⟩ := hQ3
  have N3 := Fr.app N0 N3q
  refine Go.tr (pc' := 9) (S' := [(.int (0 : Int32)), (.int (2 : Int32))]) st3 ?_
  refine Go.st (pc' := 10) (S' := [(.int ((2 : Int32) >>> ((0 : Int32) &&& 31)))]) (fun t_ k_ => XS.ishr X3.here hx rfl (hb hby d10_9) rfl k_) ?_
  rw [show ((2 : Int32) >>> ((0 : Int32) &&& 31)) = (2 : Int32) from by decide]
  exact Go.retO X3 hx hlk hret rfl (by simp [FieldType.isReference, Value.isRef]) (hb hby d10_10) (by decide) (by decide) (by rw [e3]; exact ⟨rfl, N3, rfl⟩)

def Qlen2U (Z : State) (a1 : Addr) (t1 : Addr) (k1 : ClassId) (gC : Int32) (x0 : Int32) (x1 : Int32) (h0 : Heap) (n0 : Nat) (v : Option Value) (h : Heap) (L : List Loc) : Prop := v = some (.int 2) ∧ Fr n0 L ∧ h = h0
def roomlen2U : Room := { frames := 1, cells := 0, slots := 0, locals := 13 }
theorem rmlen2U (l : Launch) (Z : State) (a0 : Array Value) (hw : ∀ d ∈ tables_1, d.before a0 Z = true) (ws : List Jvm.Cond) (a1 : Addr) (t1 : Addr) (k1 : ClassId) (gC : Int32) (x0 : Int32) (x1 : Int32) (h0 : Heap) (n0 : Nat) (Z0 : n0 ≤ h0.size) (SC : Sta Z Z.heap "java/lang/String" "COMPACT_STRINGS" "Z" (.int gC)) (PC : ¬ (gC = (0 : Int32))) (O0 : Old Z n0 h0) (E_a1 : Exa Z h0 a1 "java/lang/String") (Fc_a1 : Fld Z h0 a1 "java/lang/String" "coder" "B" (.int (1 : Int32))) (Fv_a1 : Fld Z h0 a1 "java/lang/String" "value" "[B" (.ref t1)) (V_t1 : Arv Z h0 t1 k1 .byte (4 : Int32) [(.int (own_lo x0)), (.int (own_hi x0)), (.int (own_lo x1)), (.int (own_hi x1))] (.int (0 : Int32))) :
    OMet l (⟨"java/lang/String", "length", "()I"⟩ : MethodName) jdk_42_method_54_code 1 (some .int) ws roomlen2U #[(.ref a1)] Z h0 (Qlen2U Z a1 t1 k1 gC x0 x1 h0 n0) := by
  refine own_met (Q := (Qlen2U Z a1 t1 k1 gC x0 x1 h0 n0)) (L0 := #[.val (.ref a1)]) (plainFor_of_name pn_0) (fun m => by first | (simp [entryFrame, mkF, argsToLocals, Value.category]; done) | rfl) ?_
  intro p e s m below meth c T0 X0 hx hby hml hown hnm hret hlk hZ e0
  have N0 := Fr.nil n0
  refine Go.st (pc' := 1) (S' := [(.ref a1)]) (fun t_ k_ => XS.aloadN X0.here hx rfl (hb hby d10_0) rfl rfl k_) ?_
  obtain ⟨T1, X1, e1, st1⟩ := getF X0 hx hZ hown (host := "") (Or.inl (wd hw 27 rfl)) Via.refl e0 Fv_a1 (g := (mkF m 1 #[.val (.ref a1)] [(.ref a1)])) rfl rfl (hb hby d10_1)
  refine Go.st (pc' := 4) (S' := [(.ref t1)]) st1 ?_
  obtain ⟨cl2, Ar2, -, q2a, q2b, -, -⟩ := id V_t1
  refine Go.st (pc' := 5) (S' := [(.int (4 : Int32))]) (fun t_ k_ => own_len X1 hx hZ e1 Ar2 q2a q2b (g := (mkF m 4 #[.val (.ref a1)] [(.ref t1)])) rfl rfl (hb hby d10_4) t_ k_) ?_
  refine Go.st (pc' := 6) (S' := [(.ref a1), (.int (4 : Int32))]) (fun t_ k_ => XS.aloadN X1.here hx rfl (hb hby d10_5) rfl rfl k_) ?_
  obtain ⟨cq3, kq3, q3a, q3b, q3c⟩ := isOf hZ e1 E_a1
  obtain ⟨_, _, ⟨T3, L3, k3, n3⟩, -, X3, ⟨Lc3, hQ3, l3, y3, z3⟩, st3⟩ := X1.virtualBack hx (y := (⟨"java/lang/String", "coder", "()B"⟩ : MethodName)) (z := (⟨"java/lang/String", "coder", "()B"⟩ : MethodName)) hown (mvT hZ (wd hw 50 rfl)) (mvT hZ (wd hw 51 rfl)) (notFace_of_selects (args := #[]) (mvT hZ (wd hw 53 rfl))) (mvT hZ (wd hw 53 rfl)) (mvT hZ (wd hw 52 rfl)) (by decide) (backOf (W := 1) (rmcoderU l Z a0 hw [] a1 gC h0 n0 Z0 SC PC O0 Fc_a1) hZ (wd hw 54 rfl) (wd hw 7 rfl) (by decide) (by decide)) q3a q3c (g := (mkF m 6 #[.val (.ref a1)] [(.ref a1), (.int (4 : Int32))])) rfl (by rw [hml]; rfl) (Steps.refl _) (argsL := []) (rest := [(.int (4 : Int32))]) (lenOf pd_4 rfl) rfl (by show 2 * 0 + _ ≤ _; exact Nat.le_of_eq rfl) (hb hby d10_6) (fun _ _ => ⟨rfl, e1, (by decide : 0 + 0 ≤ _), (by decide : 0 + 0 ≤ _)⟩)
  dsimp only [Pt.U, Pt.locs, Pt.cells, Pt.slots] at X3 l3 y3 z3 st3 hQ3
  subst l3 y3 z3
  obtain ⟨rfl, N3q, e3⟩ := hQ3
  have N3 := Fr.app N0 N3q
  refine Go.tr (pc' := 9) (S' := [(.int (1 : Int32)), (.int (4 : Int32))]) st3 ?_
  refine Go.st (pc' := 10) (S' := [(.int ((4 : Int32) >>> ((1 : Int32) &&& 31)))]) (fun t_ k_ => XS.ishr X3.here hx rfl (hb hby d10_9) rfl k_) ?_
  rw [show ((4 : Int32) >>> ((1 : Int32) &&& 31)) = (2 : Int32) from by decide]
  exact Go.retO X3 hx hlk hret rfl (by simp [FieldType.isReference, Value.isRef]) (hb hby d10_10) (by decide) (by decide) (by rw [e3]; exact ⟨rfl, N3, rfl⟩)
def Qlen2C (Z : State)  (h0 : Heap) (n0 : Nat) (v : Option Value) (h : Heap) (L : List Loc) : Prop := v = some (.int 2) ∧ Fr n0 L ∧ h = h0
theorem rmlen2C (l : Launch) (Z : State) (a0 : Array Value) (hw : ∀ d ∈ tables_1, d.before a0 Z = true) (ws : List Jvm.Cond) (a1 : Addr) (fm : Value) (gC : Int32) (x0 : Int32) (x1 : Int32) (h0 : Heap) (n0 : Nat) (Z0 : n0 ≤ h0.size) (ss : own_ST Z gC fm) (O0 : Old Z n0 h0) (C1 : own_CS2 Z h0 a1 x0 x1) (bd0 : own_bd x0) (bd1 : own_bd x1) :
    OMet l (⟨"java/lang/String", "length", "()I"⟩ : MethodName) jdk_42_method_54_code 1 (some .int) ws roomlen2L #[(.ref a1)] Z h0 (Qlen2C Z  h0 n0) := by
  obtain ⟨SC, PC, hfm, SF, SD, SH, SL⟩ := id ss
  obtain ⟨E_a1, t1, k1, ⟨Fc, Fv, V1, la0, la1, -⟩ | ⟨Fc, Fv, V1⟩⟩ := C1
  · exact rmlen2L l Z a0 hw ws a1 t1 k1 gC x0 x1 h0 n0 Z0 SC PC O0 E_a1 Fc Fv V1
  · exact rmlen2U l Z a0 hw ws a1 t1 k1 gC x0 x1 h0 n0 Z0 SC PC O0 E_a1 Fc Fv V1


def Qac2_1L (Z : State) (x1 : Int32) (h0 : Heap) (n0 : Nat) (v : Option Value) (h : Heap) (L : List Loc) : Prop := v = some (.int x1) ∧ Fr n0 L ∧ h = h0
def roomac2_1L : Room := { frames := 2, cells := 0, slots := 0, locals := 27 }
theorem rmac2_1L (l : Launch) (Z : State) (a0 : Array Value) (hw : ∀ d ∈ tables_1, d.before a0 Z = true) (ws : List Jvm.Cond) (t1 : Addr) (k1 : ClassId) (fm : Value) (x0 : Int32) (x1 : Int32) (h0 : Heap) (n0 : Nat) (Z0 : n0 ≤ h0.size) (hfm : fm.isRef = true) (SF : Sta Z Z.heap "jdk/internal/util/Preconditions" "SIOOBE_FORMATTER" "Ljava/util/function/BiFunction;" fm) (O0 : Old Z n0 h0) (V_t1 : Arv Z h0 t1 k1 .byte (2 : Int32) [(.int (x0.toInt8.toInt32)), (.int (x1.toInt8.toInt32))] (.int (0 : Int32))) (bd0 : ¬ x0 < 0 ∧ ¬ (65535 : Int32) < x0) (bd1 : ¬ x1 < 0 ∧ ¬ (65535 : Int32) < x1) (la0 : ¬ (255 : Int32) < x0) (la1 : ¬ (255 : Int32) < x1) :
    OMet l (⟨"java/lang/StringLatin1", "charAt", "([BI)C"⟩ : MethodName) jdk_43_method_2_code 2 (some .char) ws roomac2_1L #[(.ref t1), (.int (1 : Int32))] Z h0 (Qac2_1L Z x1 h0 n0) := by
  refine own_met (Q := (Qac2_1L Z x1 h0 n0)) (L0 := #[.val (.ref t1), .val (.int (1 : Int32))]) (plainFor_of_name pn_1) (fun m => by first | (simp [entryFrame, mkF, argsToLocals, Value.category]; done) | rfl) ?_
  intro p e s m below meth c T0 X0 hx hby hml hown hnm hret hlk hZ e0
  have N0 := Fr.nil n0
  refine Go.st (pc' := 1) (S' := [(.int (1 : Int32))]) (fun t_ k_ => XS.iloadN X0.here hx rfl (hb hby d14_0) rfl k_) ?_
  refine Go.st (pc' := 2) (S' := [(.ref t1), (.int (1 : Int32))]) (fun t_ k_ => XS.aloadN X0.here hx rfl (hb hby d14_1) rfl rfl k_) ?_
  obtain ⟨cl1, Ar1, -, q1a, q1b, -, -⟩ := id V_t1
  refine Go.st (pc' := 3) (S' := [(.int (2 : Int32)), (.int (1 : Int32))]) (fun t_ k_ => own_len X0 hx hZ e0 Ar1 q1a q1b (g := (mkF m 2 #[.val (.ref t1), .val (.int (1 : Int32))] [(.ref t1), (.int (1 : Int32))])) rfl rfl (hb hby d14_2) t_ k_) ?_
  obtain ⟨_, _, ⟨T2, L2, k2, n2⟩, -, X2, ⟨Lc2, hQ2, l2, y2, z2⟩, st2⟩ := Jvm.LawKit.callS X0 hx (y := (⟨"java/lang/String", "checkIndex", "(II)V"⟩ : MethodName)) hown (mvT hZ (wd hw 68 rfl)) (mvT hZ (wd hw 69 rfl)) (mvT hZ (wd hw 7 rfl)) (mvT hZ (wd hw 70 rfl)) (by decide) (backOf (W := 0) (rm15 l Z a0 hw [] 1 2 fm h0 n0 Z0 hfm SF O0 (by decide) (by decide)) hZ (wd hw 70 rfl) (wd hw 7 rfl) (by decide) (by decide)) (g := (mkF m 3 #[.val (.ref t1), .val (.int (1 : Int32))] [(.int (2 : Int32)), (.int (1 : Int32))])) rfl (by rw [hml]; rfl) (argsL := [(.int (1 : Int32)), (.int (2 : Int32))]) (rest := []) (lenOf pd_9 rfl) rfl (by show 2 * 0 + _ ≤ _; exact Nat.le_of_eq rfl) (hb hby d14_3) (fun _ _ => ⟨rfl, e0, (by decide : 0 + 0 ≤ _), (by decide : 0 + 0 ≤ _)⟩)
  dsimp only [Pt.U, Pt.locs, Pt.cells, Pt.slots] at X2 l2 y2 z2 st2 hQ2
  subst l2 y2 z2
  obtain ⟨rfl, N2q, e2⟩ := hQ2
  have N2 := Fr.app N0 N2q
  refine Go.st (pc' := 6) (S' := []) st2 ?_
  refine Go.st (pc' := 7) (S' := [(.ref t1)]) (fun t_ k_ => XS.aloadN X2.here hx rfl (hb hby d14_6) rfl rfl k_) ?_
  refine Go.st (pc' := 8) (S' := [(.int (1 : Int32)), (.ref t1)]) (fun t_ k_ => XS.iloadN X2.here hx rfl (hb hby d14_7) rfl k_) ?_
  obtain ⟨cl3, Ar3, -, q3a, q3b, q3c, q3d⟩ := id V_t1
  refine Go.st (pc' := 9) (S' := [(.int (x1.toInt8.toInt32))]) (fun t_ k_ => X2.baloadBytes hx (j := (1 : Int32)) (v := (.int (x1.toInt8.toInt32))) (by rw [e2]; exact Ar3.1) (State.isArrayOf_alike hZ.alike Ar3.2.1) Ar3.2.2 (inb_of q3a ⟨by decide, by decide⟩) (q3c.at (inb_of q3a ⟨by decide, by decide⟩) rfl) (g := (mkF m 8 #[.val (.ref t1), .val (.int (1 : Int32))] [(.int (1 : Int32)), (.ref t1)])) rfl rfl (hb hby d14_8) t_ k_) ?_
  refine Go.st (pc' := 12) (S' := [(.int (255 : Int32)), (.int (x1.toInt8.toInt32))]) (fun t_ k_ => XS.sipush X2.here hx rfl (hb hby d14_9) k_) ?_
  refine Go.st (pc' := 13) (S' := [(.int ((x1.toInt8.toInt32) &&& (255 : Int32)))]) (fun t_ k_ => XS.iand X2.here hx rfl (hb hby d14_12) rfl k_) ?_
  refine Go.st (pc' := 14) (S' := [(.int (((x1.toInt8.toInt32) &&& (255 : Int32)).toUInt32.toUInt16.toUInt32.toInt32))]) (fun t_ k_ => XS.i2c X2.here hx rfl (hb hby d14_13) rfl k_) ?_
  exact Go.retN X2 hx hlk hret (by simp) (hb hby d14_14) (by decide) (by decide) (by rw [e2]; exact ⟨by rw [own_lc _ bd1.1 la1, own_nch0 _ bd1.1 bd1.2], N2, rfl⟩)

def Qca2_1L (Z : State) (x1 : Int32) (h0 : Heap) (n0 : Nat) (v : Option Value) (h : Heap) (L : List Loc) : Prop := v = some (.int x1) ∧ Fr n0 L ∧ h = h0
def roomca2_1L : Room := { frames := 4, cells := 0, slots := 0, locals := 53 }
theorem rmca2_1L (l : Launch) (Z : State) (a0 : Array Value) (hw : ∀ d ∈ tables_1, d.before a0 Z = true) (ws : List Jvm.Cond) (a1 : Addr) (t1 : Addr) (k1 : ClassId) (fm : Value) (gC : Int32) (x0 : Int32) (x1 : Int32) (h0 : Heap) (n0 : Nat) (Z0 : n0 ≤ h0.size) (SC : Sta Z Z.heap "java/lang/String" "COMPACT_STRINGS" "Z" (.int gC)) (PC : ¬ (gC = (0 : Int32))) (O0 : Old Z n0 h0) (hfm : fm.isRef = true) (SF : Sta Z Z.heap "jdk/internal/util/Preconditions" "SIOOBE_FORMATTER" "Ljava/util/function/BiFunction;" fm) (E_a1 : Exa Z h0 a1 "java/lang/String") (Fc_a1 : Fld Z h0 a1 "java/lang/String" "coder" "B" (.int (0 : Int32))) (Fv_a1 : Fld Z h0 a1 "java/lang/String" "value" "[B" (.ref t1)) (V_t1 : Arv Z h0 t1 k1 .byte (2 : Int32) [(.int (x0.toInt8.toInt32)), (.int (x1.toInt8.toInt32))] (.int (0 : Int32))) (bd0 : ¬ x0 < 0 ∧ ¬ (65535 : Int32) < x0) (bd1 : ¬ x1 < 0 ∧ ¬ (65535 : Int32) < x1) (la0 : ¬ (255 : Int32) < x0) (la1 : ¬ (255 : Int32) < x1) :
    OMet l (⟨"java/lang/String", "charAt", "(I)C"⟩ : MethodName) jdk_42_method_56_code 2 (some .char) ws roomca2_1L #[(.ref a1), (.int (1 : Int32))] Z h0 (Qca2_1L Z x1 h0 n0) := by
  refine own_met (Q := (Qca2_1L Z x1 h0 n0)) (L0 := #[.val (.ref a1), .val (.int (1 : Int32))]) (plainFor_of_name pn_0) (fun m => by first | (simp [entryFrame, mkF, argsToLocals, Value.category]; done) | rfl) ?_
  intro p e s m below meth c T0 X0 hx hby hml hown hnm hret hlk hZ e0
  have N0 := Fr.nil n0
  refine Go.st (pc' := 1) (S' := [(.ref a1)]) (fun t_ k_ => XS.aloadN X0.here hx rfl (hb hby d12_0) rfl rfl k_) ?_
  obtain ⟨cq1, kq1, q1a, q1b, q1c⟩ := isOf hZ e0 E_a1
  obtain ⟨_, _, ⟨T1, L1, k1, n1⟩, -, X1, ⟨Lc1, hQ1, l1, y1, z1⟩, st1⟩ := X0.virtualBack hx (y := (⟨"java/lang/String", "isLatin1", "()Z"⟩ : MethodName)) (z := (⟨"java/lang/String", "isLatin1", "()Z"⟩ : MethodName)) hown (mvT hZ (wd hw 60 rfl)) (mvT hZ (wd hw 61 rfl)) (notFace_of_selects (args := #[]) (mvT hZ (wd hw 63 rfl))) (mvT hZ (wd hw 63 rfl)) (mvT hZ (wd hw 62 rfl)) (by decide) (backOf (W := 0) (rm13 l Z a0 hw [] a1 gC h0 n0 Z0 SC PC O0 Fc_a1) hZ (wd hw 64 rfl) (wd hw 7 rfl) (by decide) (by decide)) q1a q1c (g := (mkF m 1 #[.val (.ref a1), .val (.int (1 : Int32))] [(.ref a1)])) rfl (by rw [hml]; rfl) (Steps.refl _) (argsL := []) (rest := []) (lenOf pd_7 rfl) rfl (by show 2 * 0 + _ ≤ _; exact Nat.le_of_eq rfl) (hb hby d12_1) (fun _ _ => ⟨rfl, e0, (by decide : 0 + 0 ≤ _), (by decide : 0 + 0 ≤ _)⟩)
  dsimp only [Pt.U, Pt.locs, Pt.cells, Pt.slots] at X1 l1 y1 z1 st1 hQ1
  subst l1 y1 z1
  obtain ⟨rfl, N1q, e1⟩ := hQ1
  have N1 := Fr.app N0 N1q
  refine Go.tr (pc' := 4) (S' := [(.int (1 : Int32))]) st1 ?_
  refine Go.st (pc' := 7) (S' := []) (fun t_ k_ => XS.ifNo X1.here hx rfl (hb hby d12_4) rfl ((if0 _ _).trans (feq (by decide : ¬ ((1 : Int32) = (0 : Int32)))).1) k_) ?_
  refine Go.st (pc' := 8) (S' := [(.ref a1)]) (fun t_ k_ => XS.aloadN X1.here hx rfl (hb hby d12_7) rfl rfl k_) ?_
  obtain ⟨T2, X2, e2, st2⟩ := getF X1 hx hZ hown (host := "") (Or.inl (wd hw 27 rfl)) Via.refl e1 Fv_a1 (g := (mkF m 8 #[.val (.ref a1), .val (.int (1 : Int32))] [(.ref a1)])) rfl rfl (hb hby d12_8)
  refine Go.st (pc' := 11) (S' := [(.ref t1)]) st2 ?_
  refine Go.st (pc' := 12) (S' := [(.int (1 : Int32)), (.ref t1)]) (fun t_ k_ => XS.iloadN X2.here hx rfl (hb hby d12_11) rfl k_) ?_
  obtain ⟨_, _, ⟨T3, L3, k3, n3⟩, -, X3, ⟨Lc3, hQ3, l3, y3, z3⟩, st3⟩ := Jvm.LawKit.callS X2 hx (y := (⟨"java/lang/StringLatin1", "charAt", "([BI)C"⟩ : MethodName)) hown (mvT hZ (wd hw 65 rfl)) (mvT hZ (wd hw 66 rfl)) (mvT hZ (wd hw 12 rfl)) (mvT hZ (wd hw 67 rfl)) (by decide) (backOf (W := 0) (rmac2_1L l Z a0 hw [] t1 _ fm x0 x1 h0 n0 Z0 hfm SF O0  V_t1 bd0 bd1 la0 la1) hZ (wd hw 67 rfl) (wd hw 12 rfl) (by decide) (by decide)) (g := (mkF m 12 #[.val (.ref a1), .val (.int (1 : Int32))] [(.int (1 : Int32)), (.ref t1)])) rfl (by rw [hml]; rfl) (argsL := [(.ref t1), (.int (1 : Int32))]) (rest := []) (lenOf pd_10 rfl) rfl (by show 2 * 0 + _ ≤ _; exact Nat.le_of_eq rfl) (hb hby d12_12) (fun _ _ => ⟨rfl, e2, (by decide : 0 + 0 ≤ _), (by decide : 0 + 0 ≤ _)⟩)
  dsimp only [Pt.U, Pt.locs, Pt.cells, Pt.slots] at X3 l3 y3 z3 st3 hQ3
  subst l3 y3 z3
  obtain ⟨rfl, N3q, e3⟩ := hQ3
  have N3 := Fr.app N1 N3q
  refine Go.st (pc' := 15) (S' := [(.int x1)]) st3 ?_
  exact Go.retN X3 hx hlk hret (by simp) (hb hby d12_15) (by decide) (by decide) (by rw [e3]; exact ⟨by rw [own_nch0 _ bd1.1 bd1.2], N3, rfl⟩)

def Qulen4 (Z : State) (b : Addr) (kb : ClassId) (y0 : Int32) (y1 : Int32) (y2 : Int32) (y3 : Int32) (h0 : Heap) (n0 : Nat) (v : Option Value) (h : Heap) (L : List Loc) : Prop := v = some (.int 2) ∧ Fr n0 L ∧ h = h0
def roomulen4 : Room := { frames := 0, cells := 0, slots := 0, locals := 0 }
theorem rmulen4 (l : Launch) (Z : State) (a0 : Array Value) (hw : ∀ d ∈ tables_1, d.before a0 Z = true) (ws : List Jvm.Cond) (b : Addr) (kb : ClassId) (y0 : Int32) (y1 : Int32) (y2 : Int32) (y3 : Int32) (h0 : Heap) (n0 : Nat) (Z0 : n0 ≤ h0.size) (V_b : Arv Z h0 b kb .byte (4 : Int32) [(.int y0), (.int y1), (.int y2), (.int y3)] (.int (0 : Int32))) :
    OMet l (⟨"java/lang/StringUTF16", "length", "([B)I"⟩ : MethodName) jdk_52_method_6_code 1 (some .int) ws roomulen4 #[(.ref b)] Z h0 (Qulen4 Z b kb y0 y1 y2 y3 h0 n0) := by
  refine own_met (Q := (Qulen4 Z b kb y0 y1 y2 y3 h0 n0)) (L0 := #[.val (.ref b)]) (plainFor_of_name pn_6) (fun m => by first | (simp [entryFrame, mkF, argsToLocals, Value.category]; done) | rfl) ?_
  intro p e s m below meth c T0 X0 hx hby hml hown hnm hret hlk hZ e0
  have N0 := Fr.nil n0
  refine Go.st (pc' := 1) (S' := [(.ref b)]) (fun t_ k_ => XS.aloadN X0.here hx rfl (hb hby d29_0) rfl rfl k_) ?_
  obtain ⟨cl1, Ar1, -, q1a, q1b, -, -⟩ := id V_b
  refine Go.st (pc' := 2) (S' := [(.int (4 : Int32))]) (fun t_ k_ => own_len X0 hx hZ e0 Ar1 q1a q1b (g := (mkF m 1 #[.val (.ref b)] [(.ref b)])) rfl rfl (hb hby d29_1) t_ k_) ?_
  refine Go.st (pc' := 3) (S' := [(.int (1 : Int32)), (.int (4 : Int32))]) (fun t_ k_ => XS.iconst X0.here hx rfl (hb hby d29_2) k_) ?_
  refine Go.st (pc' := 4) (S' := [(.int ((4 : Int32) >>> ((1 : Int32) &&& 31)))]) (fun t_ k_ => XS.ishr X0.here hx rfl (hb hby d29_3) rfl k_) ?_
  rw [show ((4 : Int32) >>> ((1 : Int32) &&& 31)) = (2 : Int32) from by decide]
  exact Go.retO X0 hx hlk hret rfl (by simp [FieldType.isReference, Value.isRef]) (hb hby d29_4) (by decide) (by decide) (by rw [e0]; exact ⟨rfl, N0, rfl⟩)

def Quck1_4 (Z : State) (b : Addr) (kb : ClassId) (fm : Value) (y0 : Int32) (y1 : Int32) (y2 : Int32) (y3 : Int32) (h0 : Heap) (n0 : Nat) (v : Option Value) (h : Heap) (L : List Loc) : Prop := v = none ∧ Fr n0 L ∧ h = h0
def roomuck1_4 : Room := { frames := 2, cells := 0, slots := 0, locals := 27 }
theorem rmuck1_4 (l : Launch) (Z : State) (a0 : Array Value) (hw : ∀ d ∈ tables_1, d.before a0 Z = true) (ws : List Jvm.Cond) (b : Addr) (kb : ClassId) (fm : Value) (y0 : Int32) (y1 : Int32) (y2 : Int32) (y3 : Int32) (h0 : Heap) (n0 : Nat) (Z0 : n0 ≤ h0.size) (hfm : fm.isRef = true) (SF : Sta Z Z.heap "jdk/internal/util/Preconditions" "SIOOBE_FORMATTER" "Ljava/util/function/BiFunction;" fm) (O0 : Old Z n0 h0) (V_b : Arv Z h0 b kb .byte (4 : Int32) [(.int y0), (.int y1), (.int y2), (.int y3)] (.int (0 : Int32))) :
    OMet l (⟨"java/lang/StringUTF16", "checkIndex", "(I[B)V"⟩ : MethodName) jdk_52_method_91_code 2 none ws roomuck1_4 #[(.int (1 : Int32)), (.ref b)] Z h0 (Quck1_4 Z b kb fm y0 y1 y2 y3 h0 n0) := by
  refine own_met (Q := (Quck1_4 Z b kb fm y0 y1 y2 y3 h0 n0)) (L0 := #[.val (.int (1 : Int32)), .val (.ref b)]) (plainFor_of_name pn_6) (fun m => by first | (simp [entryFrame, mkF, argsToLocals, Value.category]; done) | rfl) ?_
  intro p e s m below meth c T0 X0 hx hby hml hown hnm hret hlk hZ e0
  have N0 := Fr.nil n0
  refine Go.st (pc' := 1) (S' := [(.int (1 : Int32))]) (fun t_ k_ => XS.iloadN X0.here hx rfl (hb hby d28_0) rfl k_) ?_
  refine Go.st (pc' := 2) (S' := [(.ref b), (.int (1 : Int32))]) (fun t_ k_ => XS.aloadN X0.here hx rfl (hb hby d28_1) rfl rfl k_) ?_
  obtain ⟨_, _, ⟨T1, L1, k1, n1⟩, -, X1, ⟨Lc1, hQ1, l1, y1, z1⟩, st1⟩ := Jvm.LawKit.callS X0 hx (y := (⟨"java/lang/StringUTF16", "length", "([B)I"⟩ : MethodName)) hown (mvT hZ (wd hw 120 rfl)) (mvT hZ (wd hw 121 rfl)) (mvT hZ (wd hw 86 rfl)) (mvT hZ (wd hw 122 rfl)) (by decide) (backOf (W := 1) (rmulen4 l Z a0 hw [] b _ (y0) (y1) (y2) (y3) h0 n0 Z0 V_b) hZ (wd hw 122 rfl) (wd hw 86 rfl) (by decide) (by decide)) (g := (mkF m 2 #[.val (.int (1 : Int32)), .val (.ref b)] [(.ref b), (.int (1 : Int32))])) rfl (by rw [hml]; rfl) (argsL := [(.ref b)]) (rest := [(.int (1 : Int32))]) (lenOf pd_11 rfl) rfl (by show 2 * 0 + _ ≤ _; exact Nat.le_of_eq rfl) (hb hby d28_2) (fun _ _ => ⟨rfl, e0, (by decide : 0 + 0 ≤ _), (by decide : 0 + 0 ≤ _)⟩)
  dsimp only [Pt.U, Pt.locs, Pt.cells, Pt.slots] at X1 l1 y1 z1 st1 hQ1
  subst l1 y1 z1
  obtain ⟨rfl, N1q, e1⟩ := hQ1
  have N1 := Fr.app N0 N1q
  refine Go.st (pc' := 5) (S' := [(.int (2 : Int32)), (.int (1 : Int32))]) st1 ?_
  obtain ⟨_, _, ⟨T2, L2, k2, n2⟩, -, X2, ⟨Lc2, hQ2, l2, y2, z2⟩, st2⟩ := Jvm.LawKit.callS X1 hx (y := (⟨"java/lang/String", "checkIndex", "(II)V"⟩ : MethodName)) hown (mvT hZ (wd hw 123 rfl)) (mvT hZ (wd hw 69 rfl)) (mvT hZ (wd hw 7 rfl)) (mvT hZ (wd hw 70 rfl)) (by decide) (backOf (W := 0) (rm15 l Z a0 hw [] 1 2 fm h0 n0 Z0 hfm SF O0 (by decide) (by decide)) hZ (wd hw 70 rfl) (wd hw 7 rfl) (by decide) (by decide)) (g := (mkF m 5 #[.val (.int (1 : Int32)), .val (.ref b)] [(.int (2 : Int32)), (.int (1 : Int32))])) rfl (by rw [hml]; rfl) (argsL := [(.int (1 : Int32)), (.int (2 : Int32))]) (rest := []) (lenOf pd_9 rfl) rfl (by show 2 * 0 + _ ≤ _; exact Nat.le_of_eq rfl) (hb hby d28_5) (fun _ _ => ⟨rfl, e1, (by decide : 0 + 0 ≤ _), (by decide : 0 + 0 ≤ _)⟩)
  dsimp only [Pt.U, Pt.locs, Pt.cells, Pt.slots] at X2 l2 y2 z2 st2 hQ2
  subst l2 y2 z2
  obtain ⟨rfl, N2q, e2⟩ := hQ2
  have N2 := Fr.app N1 N2q
  refine Go.st (pc' := 8) (S' := []) st2 ?_
  exact Go.retV X2 hx hlk hret (hb hby d28_8) (by decide) (by decide) (by rw [e2]; exact ⟨rfl, N2, rfl⟩)

def Qgetc2_1 (Z : State) (y0 : Int32) (y1 : Int32) (h0 : Heap) (n0 : Nat) (v : Option Value) (h : Heap) (L : List Loc) : Prop := ∃ r : Int32, v = some (.int r) ∧ r = nar .char (own_gv y0 y1) ∧ Fr n0 L ∧ h = h0
def roomgetc2_1 : Room := { frames := 0, cells := 0, slots := 0, locals := 0 }
theorem rmgetc2_1 (l : Launch) (Z : State) (a0 : Array Value) (hw : ∀ d ∈ tables_1, d.before a0 Z = true) (ws : List Jvm.Cond) (b : Addr) (kb : ClassId) (y0 : Int32) (y1 : Int32) (y2 : Int32) (y3 : Int32) (h0 : Heap) (n0 : Nat) (Z0 : n0 ≤ h0.size) (SD : Sta Z Z.heap "java/lang/StringUTF16" "$assertionsDisabled" "Z" (.int (1 : Int32))) (SH : Sta Z Z.heap "java/lang/StringUTF16" "HI_BYTE_SHIFT" "I" (.int (0 : Int32))) (SL : Sta Z Z.heap "java/lang/StringUTF16" "LO_BYTE_SHIFT" "I" (.int (8 : Int32))) (O0 : Old Z n0 h0) (V_b : Arv Z h0 b kb .byte (4 : Int32) [(.int y0), (.int y1), (.int y2), (.int y3)] (.int (0 : Int32))) :
    OMet l (⟨"java/lang/StringUTF16", "getChar", "([BI)C"⟩ : MethodName) jdk_52_method_5_code 2 (some .char) ws roomgetc2_1 #[(.ref b), (.int (1 : Int32))] Z h0 (Qgetc2_1 Z y2 y3 h0 n0) := by
  refine own_met (Q := (Qgetc2_1 Z y2 y3 h0 n0)) (L0 := #[.val (.ref b), .val (.int (1 : Int32))]) (plainFor_of_name pn_6) (fun m => by first | (simp [entryFrame, mkF, argsToLocals, Value.category]; done) | rfl) ?_
  intro p e s m below meth c T0 X0 hx hby hml hown hnm hret hlk hZ e0
  have N0 := Fr.nil n0
  obtain ⟨T1, X1, e1, st1⟩ := getS2 X0 hx hZ hown (host := "") (Or.inl (wd hw 108 rfl)) Via.refl e0 (SD.ext O0.2) (g := (mkF m 0 #[.val (.ref b), .val (.int (1 : Int32))] [])) rfl (hb hby d26_0)
  refine Go.st (pc' := 3) (S' := [(.int (1 : Int32))]) st1 ?_
  refine Go.st (pc' := 28) (S' := []) (fun t_ k_ => XS.ifYes X1.here hx rfl (pc0 := 3) (pc' := 28) rfl (hb hby d26_3) rfl ((if0 _ _).trans (feq (by decide : ¬ ((1 : Int32) = (0 : Int32)))).2) (by decide) (by decide) k_) ?_
  refine Go.st (pc' := 29) (S' := [(.int (1 : Int32))]) (fun t_ k_ => XS.iloadN X1.here hx rfl (hb hby d26_28) rfl k_) ?_
  refine Go.st (pc' := 30) (S' := [(.int (1 : Int32)), (.int (1 : Int32))]) (fun t_ k_ => XS.iconst X1.here hx rfl (hb hby d26_29) k_) ?_
  refine Go.st (pc' := 31) (S' := [(.int ((1 : Int32) <<< ((1 : Int32) &&& 31)))]) (fun t_ k_ => XS.ishl X1.here hx rfl (hb hby d26_30) rfl k_) ?_
  rw [show ((1 : Int32) <<< ((1 : Int32) &&& 31)) = (2 : Int32) from by decide]
  refine Go.st (pc' := 32) (S' := []) (fun t_ k_ => XS.istoreN X1.here hx rfl (hb hby d26_31) rfl (l' := #[.val (.ref b), .val (.int (2 : Int32))]) rfl k_) ?_
  refine Go.st (pc' := 33) (S' := [(.ref b)]) (fun t_ k_ => XS.aloadN X1.here hx rfl (hb hby d26_32) rfl rfl k_) ?_
  refine Go.st (pc' := 34) (S' := [(.int (2 : Int32)), (.ref b)]) (fun t_ k_ => XS.iloadN X1.here hx rfl (hb hby d26_33) rfl k_) ?_
  refine Go.st (pc' := 37) (S' := [(.int (2 : Int32)), (.ref b)]) (fun t_ k_ => XS.iinc X1.here hx rfl (hb hby d26_34) rfl (l' := #[.val (.ref b), .val (.int ((2 : Int32) + (1 : Int32)))]) rfl k_) ?_
  rw [show ((2 : Int32) + (1 : Int32)) = (3 : Int32) from by decide]
  obtain ⟨cl2, Ar2, -, q2a, q2b, q2c, q2d⟩ := id V_b
  refine Go.st (pc' := 38) (S' := [(.int y2)]) (fun t_ k_ => X1.baloadBytes hx (j := (2 : Int32)) (v := (.int y2)) (by rw [e1]; exact Ar2.1) (State.isArrayOf_alike hZ.alike Ar2.2.1) Ar2.2.2 (inb_of q2a ⟨by decide, by decide⟩) (q2c.at (inb_of q2a ⟨by decide, by decide⟩) rfl) (g := (mkF m 37 #[.val (.ref b), .val (.int (3 : Int32))] [(.int (2 : Int32)), (.ref b)])) rfl rfl (hb hby d26_37) t_ k_) ?_
  refine Go.st (pc' := 41) (S' := [(.int (255 : Int32)), (.int y2)]) (fun t_ k_ => XS.sipush X1.here hx rfl (hb hby d26_38) k_) ?_
  refine Go.st (pc' := 42) (S' := [(.int (y2 &&& (255 : Int32)))]) (fun t_ k_ => XS.iand X1.here hx rfl (hb hby d26_41) rfl k_) ?_
  obtain ⟨T3, X3, e3, st3⟩ := getS2 X1 hx hZ hown (host := "") (Or.inl (wd hw 109 rfl)) Via.refl e1 (SH.ext O0.2) (g := (mkF m 42 #[.val (.ref b), .val (.int (3 : Int32))] [(.int (y2 &&& (255 : Int32)))])) rfl (hb hby d26_42)
  refine Go.st (pc' := 45) (S' := [(.int (0 : Int32)), (.int (y2 &&& (255 : Int32)))]) st3 ?_
  refine Go.st (pc' := 46) (S' := [(.int ((y2 &&& (255 : Int32)) <<< ((0 : Int32) &&& 31)))]) (fun t_ k_ => XS.ishl X3.here hx rfl (hb hby d26_45) rfl k_) ?_
  refine Go.st (pc' := 47) (S' := [(.ref b), (.int ((y2 &&& (255 : Int32)) <<< ((0 : Int32) &&& 31)))]) (fun t_ k_ => XS.aloadN X3.here hx rfl (hb hby d26_46) rfl rfl k_) ?_
  refine Go.st (pc' := 48) (S' := [(.int (3 : Int32)), (.ref b), (.int ((y2 &&& (255 : Int32)) <<< ((0 : Int32) &&& 31)))]) (fun t_ k_ => XS.iloadN X3.here hx rfl (hb hby d26_47) rfl k_) ?_
  obtain ⟨cl4, Ar4, -, q4a, q4b, q4c, q4d⟩ := id V_b
  refine Go.st (pc' := 49) (S' := [(.int y3), (.int ((y2 &&& (255 : Int32)) <<< ((0 : Int32) &&& 31)))]) (fun t_ k_ => X3.baloadBytes hx (j := (3 : Int32)) (v := (.int y3)) (by rw [e3]; exact Ar4.1) (State.isArrayOf_alike hZ.alike Ar4.2.1) Ar4.2.2 (inb_of q4a ⟨by decide, by decide⟩) (q4c.at (inb_of q4a ⟨by decide, by decide⟩) rfl) (g := (mkF m 48 #[.val (.ref b), .val (.int (3 : Int32))] [(.int (3 : Int32)), (.ref b), (.int ((y2 &&& (255 : Int32)) <<< ((0 : Int32) &&& 31)))])) rfl rfl (hb hby d26_48) t_ k_) ?_
  refine Go.st (pc' := 52) (S' := [(.int (255 : Int32)), (.int y3), (.int ((y2 &&& (255 : Int32)) <<< ((0 : Int32) &&& 31)))]) (fun t_ k_ => XS.sipush X3.here hx rfl (hb hby d26_49) k_) ?_
  refine Go.st (pc' := 53) (S' := [(.int (y3 &&& (255 : Int32))), (.int ((y2 &&& (255 : Int32)) <<< ((0 : Int32) &&& 31)))]) (fun t_ k_ => XS.iand X3.here hx rfl (hb hby d26_52) rfl k_) ?_
  obtain ⟨T5, X5, e5, st5⟩ := getS2 X3 hx hZ hown (host := "") (Or.inl (wd hw 110 rfl)) Via.refl e3 (SL.ext O0.2) (g := (mkF m 53 #[.val (.ref b), .val (.int (3 : Int32))] [(.int (y3 &&& (255 : Int32))), (.int ((y2 &&& (255 : Int32)) <<< ((0 : Int32) &&& 31)))])) rfl (hb hby d26_53)
  refine Go.st (pc' := 56) (S' := [(.int (8 : Int32)), (.int (y3 &&& (255 : Int32))), (.int ((y2 &&& (255 : Int32)) <<< ((0 : Int32) &&& 31)))]) st5 ?_
  refine Go.st (pc' := 57) (S' := [(.int ((y3 &&& (255 : Int32)) <<< ((8 : Int32) &&& 31))), (.int ((y2 &&& (255 : Int32)) <<< ((0 : Int32) &&& 31)))]) (fun t_ k_ => XS.ishl X5.here hx rfl (hb hby d26_56) rfl k_) ?_
  refine Go.st (pc' := 58) (S' := [(.int (((y2 &&& (255 : Int32)) <<< ((0 : Int32) &&& 31)) ||| ((y3 &&& (255 : Int32)) <<< ((8 : Int32) &&& 31))))]) (fun t_ k_ => XS.ior X5.here hx rfl (hb hby d26_57) rfl k_) ?_
  refine Go.st (pc' := 59) (S' := [(.int ((((y2 &&& (255 : Int32)) <<< ((0 : Int32) &&& 31)) ||| ((y3 &&& (255 : Int32)) <<< ((8 : Int32) &&& 31))).toUInt32.toUInt16.toUInt32.toInt32))]) (fun t_ k_ => XS.i2c X5.here hx rfl (hb hby d26_58) rfl k_) ?_
  exact Go.retN X5 hx hlk hret (by simp) (hb hby d26_59) (by decide) (by decide) (by rw [e5]; exact ⟨_, rfl, rfl, N0, rfl⟩)

def Qac2_1U (Z : State) (x1 : Int32) (h0 : Heap) (n0 : Nat) (v : Option Value) (h : Heap) (L : List Loc) : Prop := v = some (.int x1) ∧ Fr n0 L ∧ h = h0
def roomac2_1U : Room := { frames := 3, cells := 0, slots := 0, locals := 40 }
theorem rmac2_1U (l : Launch) (Z : State) (a0 : Array Value) (hw : ∀ d ∈ tables_1, d.before a0 Z = true) (ws : List Jvm.Cond) (t1 : Addr) (k1 : ClassId) (fm : Value) (x0 : Int32) (x1 : Int32) (h0 : Heap) (n0 : Nat) (Z0 : n0 ≤ h0.size) (hfm : fm.isRef = true) (SF : Sta Z Z.heap "jdk/internal/util/Preconditions" "SIOOBE_FORMATTER" "Ljava/util/function/BiFunction;" fm) (O0 : Old Z n0 h0) (SD : Sta Z Z.heap "java/lang/StringUTF16" "$assertionsDisabled" "Z" (.int (1 : Int32))) (SH : Sta Z Z.heap "java/lang/StringUTF16" "HI_BYTE_SHIFT" "I" (.int (0 : Int32))) (SL : Sta Z Z.heap "java/lang/StringUTF16" "LO_BYTE_SHIFT" "I" (.int (8 : Int32))) (V_t1 : Arv Z h0 t1 k1 .byte (4 : Int32) [(.int (own_lo x0)), (.int (own_hi x0)), (.int (own_lo x1)), (.int (own_hi x1))] (.int (0 : Int32))) (bd0 : ¬ x0 < 0 ∧ ¬ (65535 : Int32) < x0) (bd1 : ¬ x1 < 0 ∧ ¬ (65535 : Int32) < x1)  :
    OMet l (⟨"java/lang/StringUTF16", "charAt", "([BI)C"⟩ : MethodName) jdk_52_method_83_code 2 (some .char) ws roomac2_1U #[(.ref t1), (.int (1 : Int32))] Z h0 (Qac2_1U Z x1 h0 n0) := by
  refine own_met (Q := (Qac2_1U Z x1 h0 n0)) (L0 := #[.val (.ref t1), .val (.int (1 : Int32))]) (plainFor_of_name pn_6) (fun m => by first | (simp [entryFrame, mkF, argsToLocals, Value.category]; done) | rfl) ?_
  intro p e s m below meth c T0 X0 hx hby hml hown hnm hret hlk hZ e0
  have N0 := Fr.nil n0
  refine Go.st (pc' := 1) (S' := [(.int (1 : Int32))]) (fun t_ k_ => XS.iloadN X0.here hx rfl (hb hby d27_0) rfl k_) ?_
  refine Go.st (pc' := 2) (S' := [(.ref t1), (.int (1 : Int32))]) (fun t_ k_ => XS.aloadN X0.here hx rfl (hb hby d27_1) rfl rfl k_) ?_
  obtain ⟨_, _, ⟨T1, L1, k1, n1⟩, -, X1, ⟨Lc1, hQ1, l1, y1, z1⟩, st1⟩ := Jvm.LawKit.callS X0 hx (y := (⟨"java/lang/StringUTF16", "checkIndex", "(I[B)V"⟩ : MethodName)) hown (mvT hZ (wd hw 117 rfl)) (mvT hZ (wd hw 118 rfl)) (mvT hZ (wd hw 86 rfl)) (mvT hZ (wd hw 119 rfl)) (by decide) (backOf (W := 0) (rmuck1_4 l Z a0 hw [] t1 _ fm ((own_lo x0)) ((own_hi x0)) ((own_lo x1)) ((own_hi x1)) h0 n0 Z0 hfm SF O0 V_t1) hZ (wd hw 119 rfl) (wd hw 86 rfl) (by decide) (by decide)) (g := (mkF m 2 #[.val (.ref t1), .val (.int (1 : Int32))] [(.ref t1), (.int (1 : Int32))])) rfl (by rw [hml]; rfl) (argsL := [(.int (1 : Int32)), (.ref t1)]) (rest := []) (lenOf pd_12 rfl) rfl (by show 2 * 0 + _ ≤ _; exact Nat.le_of_eq rfl) (hb hby d27_2) (fun _ _ => ⟨rfl, e0, (by decide : 0 + 0 ≤ _), (by decide : 0 + 0 ≤ _)⟩)
  dsimp only [Pt.U, Pt.locs, Pt.cells, Pt.slots] at X1 l1 y1 z1 st1 hQ1
  subst l1 y1 z1
  obtain ⟨rfl, N1q, e1⟩ := hQ1
  have N1 := Fr.app N0 N1q
  refine Go.st (pc' := 5) (S' := []) st1 ?_
  refine Go.st (pc' := 6) (S' := [(.ref t1)]) (fun t_ k_ => XS.aloadN X1.here hx rfl (hb hby d27_5) rfl rfl k_) ?_
  refine Go.st (pc' := 7) (S' := [(.int (1 : Int32)), (.ref t1)]) (fun t_ k_ => XS.iloadN X1.here hx rfl (hb hby d27_6) rfl k_) ?_
  obtain ⟨_, _, ⟨T2, L2, k2, n2⟩, -, X2, ⟨Lc2, hQ2, l2, y2, z2⟩, st2⟩ := Jvm.LawKit.callS X1 hx (y := (⟨"java/lang/StringUTF16", "getChar", "([BI)C"⟩ : MethodName)) hown (mvT hZ (wd hw 111 rfl)) (mvT hZ (wd hw 112 rfl)) (mvT hZ (wd hw 86 rfl)) (mvT hZ (wd hw 113 rfl)) (by decide) (backOf (W := 0) (rmgetc2_1 l Z a0 hw [] t1 _ ((own_lo x0)) ((own_hi x0)) ((own_lo x1)) ((own_hi x1)) h0 n0 Z0 SD SH SL O0 V_t1) hZ (wd hw 113 rfl) (wd hw 86 rfl) (by decide) (by decide)) (g := (mkF m 7 #[.val (.ref t1), .val (.int (1 : Int32))] [(.int (1 : Int32)), (.ref t1)])) rfl (by rw [hml]; rfl) (argsL := [(.ref t1), (.int (1 : Int32))]) (rest := []) (lenOf pd_10 rfl) rfl (by show 2 * 0 + _ ≤ _; exact Nat.le_of_eq rfl) (hb hby d27_7) (fun _ _ => ⟨rfl, e1, (by decide : 0 + 0 ≤ _), (by decide : 0 + 0 ≤ _)⟩)
  dsimp only [Pt.U, Pt.locs, Pt.cells, Pt.slots] at X2 l2 y2 z2 st2 hQ2
  subst l2 y2 z2
  obtain ⟨rc2, rfl, hr2, N2q, e2⟩ := hQ2
  have N2 := Fr.app N1 N2q
  replace hr2 : rc2 = x1 := hr2.trans (by rw [own_gc _ bd1.1 bd1.2, own_nch0 _ bd1.1 bd1.2])
  subst rc2
  refine Go.st (pc' := 10) (S' := [(.int x1)]) st2 ?_
  exact Go.retN X2 hx hlk hret (by simp) (hb hby d27_10) (by decide) (by decide) (by rw [e2]; exact ⟨by rw [own_nch0 _ bd1.1 bd1.2], N2, rfl⟩)

def Qca2_1U (Z : State) (x1 : Int32) (h0 : Heap) (n0 : Nat) (v : Option Value) (h : Heap) (L : List Loc) : Prop := v = some (.int x1) ∧ Fr n0 L ∧ h = h0
def roomca2_1U : Room := { frames := 4, cells := 0, slots := 0, locals := 53 }
theorem rmca2_1U (l : Launch) (Z : State) (a0 : Array Value) (hw : ∀ d ∈ tables_1, d.before a0 Z = true) (ws : List Jvm.Cond) (a1 : Addr) (t1 : Addr) (k1 : ClassId) (fm : Value) (gC : Int32) (x0 : Int32) (x1 : Int32) (h0 : Heap) (n0 : Nat) (Z0 : n0 ≤ h0.size) (SC : Sta Z Z.heap "java/lang/String" "COMPACT_STRINGS" "Z" (.int gC)) (PC : ¬ (gC = (0 : Int32))) (O0 : Old Z n0 h0) (hfm : fm.isRef = true) (SF : Sta Z Z.heap "jdk/internal/util/Preconditions" "SIOOBE_FORMATTER" "Ljava/util/function/BiFunction;" fm) (SD : Sta Z Z.heap "java/lang/StringUTF16" "$assertionsDisabled" "Z" (.int (1 : Int32))) (SH : Sta Z Z.heap "java/lang/StringUTF16" "HI_BYTE_SHIFT" "I" (.int (0 : Int32))) (SL : Sta Z Z.heap "java/lang/StringUTF16" "LO_BYTE_SHIFT" "I" (.int (8 : Int32))) (E_a1 : Exa Z h0 a1 "java/lang/String") (Fc_a1 : Fld Z h0 a1 "java/lang/String" "coder" "B" (.int (1 : Int32))) (Fv_a1 : Fld Z h0 a1 "java/lang/String" "value" "[B" (.ref t1)) (V_t1 : Arv Z h0 t1 k1 .byte (4 : Int32) [(.int (own_lo x0)), (.int (own_hi x0)), (.int (own_lo x1)), (.int (own_hi x1))] (.int (0 : Int32))) (bd0 : ¬ x0 < 0 ∧ ¬ (65535 : Int32) < x0) (bd1 : ¬ x1 < 0 ∧ ¬ (65535 : Int32) < x1)  :
    OMet l (⟨"java/lang/String", "charAt", "(I)C"⟩ : MethodName) jdk_42_method_56_code 2 (some .char) ws roomca2_1U #[(.ref a1), (.int (1 : Int32))] Z h0 (Qca2_1U Z x1 h0 n0) := by
  refine own_met (Q := (Qca2_1U Z x1 h0 n0)) (L0 := #[.val (.ref a1), .val (.int (1 : Int32))]) (plainFor_of_name pn_0) (fun m => by first | (simp [entryFrame, mkF, argsToLocals, Value.category]; done) | rfl) ?_
  intro p e s m below meth c T0 X0 hx hby hml hown hnm hret hlk hZ e0
  have N0 := Fr.nil n0
  refine Go.st (pc' := 1) (S' := [(.ref a1)]) (fun t_ k_ => XS.aloadN X0.here hx rfl (hb hby d12_0) rfl rfl k_) ?_
  obtain ⟨cq1, kq1, q1a, q1b, q1c⟩ := isOf hZ e0 E_a1
  obtain ⟨_, _, ⟨T1, L1, k1, n1⟩, -, X1, ⟨Lc1, hQ1, l1, y1, z1⟩, st1⟩ := X0.virtualBack hx (y := (⟨"java/lang/String", "isLatin1", "()Z"⟩ : MethodName)) (z := (⟨"java/lang/String", "isLatin1", "()Z"⟩ : MethodName)) hown (mvT hZ (wd hw 60 rfl)) (mvT hZ (wd hw 61 rfl)) (notFace_of_selects (args := #[]) (mvT hZ (wd hw 63 rfl))) (mvT hZ (wd hw 63 rfl)) (mvT hZ (wd hw 62 rfl)) (by decide) (backOf (W := 0) (rmisLatin1U l Z a0 hw [] a1 gC h0 n0 Z0 SC PC O0 Fc_a1) hZ (wd hw 64 rfl) (wd hw 7 rfl) (by decide) (by decide)) q1a q1c (g := (mkF m 1 #[.val (.ref a1), .val (.int (1 : Int32))] [(.ref a1)])) rfl (by rw [hml]; rfl) (Steps.refl _) (argsL := []) (rest := []) (lenOf pd_7 rfl) rfl (by show 2 * 0 + _ ≤ _; exact Nat.le_of_eq rfl) (hb hby d12_1) (fun _ _ => ⟨rfl, e0, (by decide : 0 + 0 ≤ _), (by decide : 0 + 0 ≤ _)⟩)
  dsimp only [Pt.U, Pt.locs, Pt.cells, Pt.slots] at X1 l1 y1 z1 st1 hQ1
  subst l1 y1 z1
  obtain ⟨rfl, N1q, e1⟩ := hQ1
  have N1 := Fr.app N0 N1q
  refine Go.tr (pc' := 4) (S' := [(.int (0 : Int32))]) st1 ?_
  refine Go.st (pc' := 16) (S' := []) (fun t_ k_ => XS.ifYes X1.here hx rfl (pc0 := 4) (pc' := 16) rfl (hb hby d12_4) rfl ((if0 _ _).trans (teq (by decide : ((0 : Int32) = (0 : Int32)))).1) (by decide) (by decide) k_) ?_
  refine Go.st (pc' := 17) (S' := [(.ref a1)]) (fun t_ k_ => XS.aloadN X1.here hx rfl (hb hby d12_16) rfl rfl k_) ?_
  obtain ⟨T2, X2, e2, st2⟩ := getF X1 hx hZ hown (host := "") (Or.inl (wd hw 27 rfl)) Via.refl e1 Fv_a1 (g := (mkF m 17 #[.val (.ref a1), .val (.int (1 : Int32))] [(.ref a1)])) rfl rfl (hb hby d12_17)
  refine Go.st (pc' := 20) (S' := [(.ref t1)]) st2 ?_
  refine Go.st (pc' := 21) (S' := [(.int (1 : Int32)), (.ref t1)]) (fun t_ k_ => XS.iloadN X2.here hx rfl (hb hby d12_20) rfl k_) ?_
  obtain ⟨_, _, ⟨T3, L3, k3, n3⟩, -, X3, ⟨Lc3, hQ3, l3, y3, z3⟩, st3⟩ := Jvm.LawKit.callS X2 hx (y := (⟨"java/lang/StringUTF16", "charAt", "([BI)C"⟩ : MethodName)) hown (mvT hZ (wd hw 114 rfl)) (mvT hZ (wd hw 115 rfl)) (mvT hZ (wd hw 86 rfl)) (mvT hZ (wd hw 116 rfl)) (by decide) (backOf (W := 0) (rmac2_1U l Z a0 hw [] t1 _ fm x0 x1 h0 n0 Z0 hfm SF O0 SD SH SL V_t1 bd0 bd1 ) hZ (wd hw 116 rfl) (wd hw 86 rfl) (by decide) (by decide)) (g := (mkF m 21 #[.val (.ref a1), .val (.int (1 : Int32))] [(.int (1 : Int32)), (.ref t1)])) rfl (by rw [hml]; rfl) (argsL := [(.ref t1), (.int (1 : Int32))]) (rest := []) (lenOf pd_10 rfl) rfl (by show 2 * 0 + _ ≤ _; exact Nat.le_of_eq rfl) (hb hby d12_21) (fun _ _ => ⟨rfl, e2, (by decide : 0 + 0 ≤ _), (by decide : 0 + 0 ≤ _)⟩)
  dsimp only [Pt.U, Pt.locs, Pt.cells, Pt.slots] at X3 l3 y3 z3 st3 hQ3
  subst l3 y3 z3
  obtain ⟨rfl, N3q, e3⟩ := hQ3
  have N3 := Fr.app N1 N3q
  refine Go.st (pc' := 24) (S' := [(.int x1)]) st3 ?_
  exact Go.retN X3 hx hlk hret (by simp) (hb hby d12_24) (by decide) (by decide) (by rw [e3]; exact ⟨by rw [own_nch0 _ bd1.1 bd1.2], N3, rfl⟩)
def Qca2_1C (Z : State) (x1 : Int32) (h0 : Heap) (n0 : Nat) (v : Option Value) (h : Heap) (L : List Loc) : Prop := v = some (.int x1) ∧ Fr n0 L ∧ h = h0
theorem rmca2_1C (l : Launch) (Z : State) (a0 : Array Value) (hw : ∀ d ∈ tables_1, d.before a0 Z = true) (ws : List Jvm.Cond) (a1 : Addr) (fm : Value) (gC : Int32) (x0 : Int32) (x1 : Int32) (h0 : Heap) (n0 : Nat) (Z0 : n0 ≤ h0.size) (ss : own_ST Z gC fm) (O0 : Old Z n0 h0) (C1 : own_CS2 Z h0 a1 x0 x1) (bd0 : own_bd x0) (bd1 : own_bd x1) :
    OMet l (⟨"java/lang/String", "charAt", "(I)C"⟩ : MethodName) jdk_42_method_56_code 2 (some .char) ws roomca2_1L #[(.ref a1), (.int (1 : Int32))] Z h0 (Qca2_1C Z x1 h0 n0) := by
  obtain ⟨SC, PC, hfm, SF, SD, SH, SL⟩ := id ss
  obtain ⟨E_a1, t1, k1, ⟨Fc, Fv, V1, la0, la1, -⟩ | ⟨Fc, Fv, V1⟩⟩ := C1
  · exact rmca2_1L l Z a0 hw ws a1 t1 k1 fm gC x0 x1 h0 n0 Z0 SC PC O0 hfm SF  E_a1 Fc Fv V1 bd0 bd1 la0 la1
  · exact rmca2_1U l Z a0 hw ws a1 t1 k1 fm gC x0 x1 h0 n0 Z0 SC PC O0 hfm SF SD SH SL E_a1 Fc Fv V1 bd0 bd1 


def Qac2_0L (Z : State) (x0 : Int32) (h0 : Heap) (n0 : Nat) (v : Option Value) (h : Heap) (L : List Loc) : Prop := v = some (.int x0) ∧ Fr n0 L ∧ h = h0
def roomac2_0L : Room := { frames := 2, cells := 0, slots := 0, locals := 27 }
theorem rmac2_0L (l : Launch) (Z : State) (a0 : Array Value) (hw : ∀ d ∈ tables_1, d.before a0 Z = true) (ws : List Jvm.Cond) (t1 : Addr) (k1 : ClassId) (fm : Value) (x0 : Int32) (x1 : Int32) (h0 : Heap) (n0 : Nat) (Z0 : n0 ≤ h0.size) (hfm : fm.isRef = true) (SF : Sta Z Z.heap "jdk/internal/util/Preconditions" "SIOOBE_FORMATTER" "Ljava/util/function/BiFunction;" fm) (O0 : Old Z n0 h0) (V_t1 : Arv Z h0 t1 k1 .byte (2 : Int32) [(.int (x0.toInt8.toInt32)), (.int (x1.toInt8.toInt32))] (.int (0 : Int32))) (bd0 : ¬ x0 < 0 ∧ ¬ (65535 : Int32) < x0) (bd1 : ¬ x1 < 0 ∧ ¬ (65535 : Int32) < x1) (la0 : ¬ (255 : Int32) < x0) (la1 : ¬ (255 : Int32) < x1) :
    OMet l (⟨"java/lang/StringLatin1", "charAt", "([BI)C"⟩ : MethodName) jdk_43_method_2_code 2 (some .char) ws roomac2_0L #[(.ref t1), (.int (0 : Int32))] Z h0 (Qac2_0L Z x0 h0 n0) := by
  refine own_met (Q := (Qac2_0L Z x0 h0 n0)) (L0 := #[.val (.ref t1), .val (.int (0 : Int32))]) (plainFor_of_name pn_1) (fun m => by first | (simp [entryFrame, mkF, argsToLocals, Value.category]; done) | rfl) ?_
  intro p e s m below meth c T0 X0 hx hby hml hown hnm hret hlk hZ e0
  have N0 := Fr.nil n0
  refine Go.st (pc' := 1) (S' := [(.int (0 : Int32))]) (fun t_ k_ => XS.iloadN X0.here hx rfl (hb hby d14_0) rfl k_) ?_
  refine Go.st (pc' := 2) (S' := [(.ref t1), (.int (0 : Int32))]) (fun t_ k_ => XS.aloadN X0.here hx rfl (hb hby d14_1) rfl rfl k_) ?_
  obtain ⟨cl1, Ar1, -, q1a, q1b, -, -⟩ := id V_t1
  refine Go.st (pc' := 3) (S' := [(.int (2 : Int32)), (.int (0 : Int32))]) (fun t_ k_ => own_len X0 hx hZ e0 Ar1 q1a q1b (g := (mkF m 2 #[.val (.ref t1), .val (.int (0 : Int32))] [(.ref t1), (.int (0 : Int32))])) rfl rfl (hb hby d14_2) t_ k_) ?_
  obtain ⟨_, _, ⟨T2, L2, k2, n2⟩, -, X2, ⟨Lc2, hQ2, l2, y2, z2⟩, st2⟩ := Jvm.LawKit.callS X0 hx (y := (⟨"java/lang/String", "checkIndex", "(II)V"⟩ : MethodName)) hown (mvT hZ (wd hw 68 rfl)) (mvT hZ (wd hw 69 rfl)) (mvT hZ (wd hw 7 rfl)) (mvT hZ (wd hw 70 rfl)) (by decide) (backOf (W := 0) (rm15 l Z a0 hw [] 0 2 fm h0 n0 Z0 hfm SF O0 (by decide) (by decide)) hZ (wd hw 70 rfl) (wd hw 7 rfl) (by decide) (by decide)) (g := (mkF m 3 #[.val (.ref t1), .val (.int (0 : Int32))] [(.int (2 : Int32)), (.int (0 : Int32))])) rfl (by rw [hml]; rfl) (argsL := [(.int (0 : Int32)), (.int (2 : Int32))]) (rest := []) (lenOf pd_9 rfl) rfl (by show 2 * 0 + _ ≤ _; exact Nat.le_of_eq rfl) (hb hby d14_3) (fun _ _ => ⟨rfl, e0, (by decide : 0 + 0 ≤ _), (by decide : 0 + 0 ≤ _)⟩)
  dsimp only [Pt.U, Pt.locs, Pt.cells, Pt.slots] at X2 l2 y2 z2 st2 hQ2
  subst l2 y2 z2
  obtain ⟨rfl, N2q, e2⟩ := hQ2
  have N2 := Fr.app N0 N2q
  refine Go.st (pc' := 6) (S' := []) st2 ?_
  refine Go.st (pc' := 7) (S' := [(.ref t1)]) (fun t_ k_ => XS.aloadN X2.here hx rfl (hb hby d14_6) rfl rfl k_) ?_
  refine Go.st (pc' := 8) (S' := [(.int (0 : Int32)), (.ref t1)]) (fun t_ k_ => XS.iloadN X2.here hx rfl (hb hby d14_7) rfl k_) ?_
  obtain ⟨cl3, Ar3, -, q3a, q3b, q3c, q3d⟩ := id V_t1
  refine Go.st (pc' := 9) (S' := [(.int (x0.toInt8.toInt32))]) (fun t_ k_ => X2.baloadBytes hx (j := (0 : Int32)) (v := (.int (x0.toInt8.toInt32))) (by rw [e2]; exact Ar3.1) (State.isArrayOf_alike hZ.alike Ar3.2.1) Ar3.2.2 (inb_of q3a ⟨by decide, by decide⟩) (q3c.at (inb_of q3a ⟨by decide, by decide⟩) rfl) (g := (mkF m 8 #[.val (.ref t1), .val (.int (0 : Int32))] [(.int (0 : Int32)), (.ref t1)])) rfl rfl (hb hby d14_8) t_ k_) ?_
  refine Go.st (pc' := 12) (S' := [(.int (255 : Int32)), (.int (x0.toInt8.toInt32))]) (fun t_ k_ => XS.sipush X2.here hx rfl (hb hby d14_9) k_) ?_
  refine Go.st (pc' := 13) (S' := [(.int ((x0.toInt8.toInt32) &&& (255 : Int32)))]) (fun t_ k_ => XS.iand X2.here hx rfl (hb hby d14_12) rfl k_) ?_
  refine Go.st (pc' := 14) (S' := [(.int (((x0.toInt8.toInt32) &&& (255 : Int32)).toUInt32.toUInt16.toUInt32.toInt32))]) (fun t_ k_ => XS.i2c X2.here hx rfl (hb hby d14_13) rfl k_) ?_
  exact Go.retN X2 hx hlk hret (by simp) (hb hby d14_14) (by decide) (by decide) (by rw [e2]; exact ⟨by rw [own_lc _ bd0.1 la0, own_nch0 _ bd0.1 bd0.2], N2, rfl⟩)

def Qca2_0L (Z : State) (x0 : Int32) (h0 : Heap) (n0 : Nat) (v : Option Value) (h : Heap) (L : List Loc) : Prop := v = some (.int x0) ∧ Fr n0 L ∧ h = h0
def roomca2_0L : Room := { frames := 4, cells := 0, slots := 0, locals := 53 }
theorem rmca2_0L (l : Launch) (Z : State) (a0 : Array Value) (hw : ∀ d ∈ tables_1, d.before a0 Z = true) (ws : List Jvm.Cond) (a1 : Addr) (t1 : Addr) (k1 : ClassId) (fm : Value) (gC : Int32) (x0 : Int32) (x1 : Int32) (h0 : Heap) (n0 : Nat) (Z0 : n0 ≤ h0.size) (SC : Sta Z Z.heap "java/lang/String" "COMPACT_STRINGS" "Z" (.int gC)) (PC : ¬ (gC = (0 : Int32))) (O0 : Old Z n0 h0) (hfm : fm.isRef = true) (SF : Sta Z Z.heap "jdk/internal/util/Preconditions" "SIOOBE_FORMATTER" "Ljava/util/function/BiFunction;" fm) (E_a1 : Exa Z h0 a1 "java/lang/String") (Fc_a1 : Fld Z h0 a1 "java/lang/String" "coder" "B" (.int (0 : Int32))) (Fv_a1 : Fld Z h0 a1 "java/lang/String" "value" "[B" (.ref t1)) (V_t1 : Arv Z h0 t1 k1 .byte (2 : Int32) [(.int (x0.toInt8.toInt32)), (.int (x1.toInt8.toInt32))] (.int (0 : Int32))) (bd0 : ¬ x0 < 0 ∧ ¬ (65535 : Int32) < x0) (bd1 : ¬ x1 < 0 ∧ ¬ (65535 : Int32) < x1) (la0 : ¬ (255 : Int32) < x0) (la1 : ¬ (255 : Int32) < x1) :
    OMet l (⟨"java/lang/String", "charAt", "(I)C"⟩ : MethodName) jdk_42_method_56_code 2 (some .char) ws roomca2_0L #[(.ref a1), (.int (0 : Int32))] Z h0 (Qca2_0L Z x0 h0 n0) := by
  refine own_met (Q := (Qca2_0L Z x0 h0 n0)) (L0 := #[.val (.ref a1), .val (.int (0 : Int32))]) (plainFor_of_name pn_0) (fun m => by first | (simp [entryFrame, mkF, argsToLocals, Value.category]; done) | rfl) ?_
  intro p e s m below meth c T0 X0 hx hby hml hown hnm hret hlk hZ e0
  have N0 := Fr.nil n0
  refine Go.st (pc' := 1) (S' := [(.ref a1)]) (fun t_ k_ => XS.aloadN X0.here hx rfl (hb hby d12_0) rfl rfl k_) ?_
  obtain ⟨cq1, kq1, q1a, q1b, q1c⟩ := isOf hZ e0 E_a1
  obtain ⟨_, _, ⟨T1, L1, k1, n1⟩, -, X1, ⟨Lc1, hQ1, l1, y1, z1⟩, st1⟩ := X0.virtualBack hx (y := (⟨"java/lang/String", "isLatin1", "()Z"⟩ : MethodName)) (z := (⟨"java/lang/String", "isLatin1", "()Z"⟩ : MethodName)) hown (mvT hZ (wd hw 60 rfl)) (mvT hZ (wd hw 61 rfl)) (notFace_of_selects (args := #[]) (mvT hZ (wd hw 63 rfl))) (mvT hZ (wd hw 63 rfl)) (mvT hZ (wd hw 62 rfl)) (by decide) (backOf (W := 0) (rm13 l Z a0 hw [] a1 gC h0 n0 Z0 SC PC O0 Fc_a1) hZ (wd hw 64 rfl) (wd hw 7 rfl) (by decide) (by decide)) q1a q1c (g := (mkF m 1 #[.val (.ref a1), .val (.int (0 : Int32))] [(.ref a1)])) rfl (by rw [hml]; rfl) (Steps.refl _) (argsL := []) (rest := []) (lenOf pd_7 rfl) rfl (by show 2 * 0 + _ ≤ _; exact Nat.le_of_eq rfl) (hb hby d12_1) (fun _ _ => ⟨rfl, e0, (by decide : 0 + 0 ≤ _), (by decide : 0 + 0 ≤ _)⟩)
  dsimp only [Pt.U, Pt.locs, Pt.cells, Pt.slots] at X1 l1 y1 z1 st1 hQ1
  subst l1 y1 z1
  obtain ⟨rfl, N1q, e1⟩ := hQ1
  have N1 := Fr.app N0 N1q
  refine Go.tr (pc' := 4) (S' := [(.int (1 : Int32))]) st1 ?_
  refine Go.st (pc' := 7) (S' := []) (fun t_ k_ => XS.ifNo X1.here hx rfl (hb hby d12_4) rfl ((if0 _ _).trans (feq (by decide : ¬ ((1 : Int32) = (0 : Int32)))).1) k_) ?_
  refine Go.st (pc' := 8) (S' := [(.ref a1)]) (fun t_ k_ => XS.aloadN X1.here hx rfl (hb hby d12_7) rfl rfl k_) ?_
  obtain ⟨T2, X2, e2, st2⟩ := getF X1 hx hZ hown (host := "") (Or.inl (wd hw 27 rfl)) Via.refl e1 Fv_a1 (g := (mkF m 8 #[.val (.ref a1), .val (.int (0 : Int32))] [(.ref a1)])) rfl rfl (hb hby d12_8)
  refine Go.st (pc' := 11) (S' := [(.ref t1)]) st2 ?_
  refine Go.st (pc' := 12) (S' := [(.int (0 : Int32)), (.ref t1)]) (fun t_ k_ => XS.iloadN X2.here hx rfl (hb hby d12_11) rfl k_) ?_
  obtain ⟨_, _, ⟨T3, L3, k3, n3⟩, -, X3, ⟨Lc3, hQ3, l3, y3, z3⟩, st3⟩ := Jvm.LawKit.callS X2 hx (y := (⟨"java/lang/StringLatin1", "charAt", "([BI)C"⟩ : MethodName)) hown (mvT hZ (wd hw 65 rfl)) (mvT hZ (wd hw 66 rfl)) (mvT hZ (wd hw 12 rfl)) (mvT hZ (wd hw 67 rfl)) (by decide) (backOf (W := 0) (rmac2_0L l Z a0 hw [] t1 _ fm x0 x1 h0 n0 Z0 hfm SF O0  V_t1 bd0 bd1 la0 la1) hZ (wd hw 67 rfl) (wd hw 12 rfl) (by decide) (by decide)) (g := (mkF m 12 #[.val (.ref a1), .val (.int (0 : Int32))] [(.int (0 : Int32)), (.ref t1)])) rfl (by rw [hml]; rfl) (argsL := [(.ref t1), (.int (0 : Int32))]) (rest := []) (lenOf pd_10 rfl) rfl (by show 2 * 0 + _ ≤ _; exact Nat.le_of_eq rfl) (hb hby d12_12) (fun _ _ => ⟨rfl, e2, (by decide : 0 + 0 ≤ _), (by decide : 0 + 0 ≤ _)⟩)
  dsimp only [Pt.U, Pt.locs, Pt.cells, Pt.slots] at X3 l3 y3 z3 st3 hQ3
  subst l3 y3 z3
  obtain ⟨rfl, N3q, e3⟩ := hQ3
  have N3 := Fr.app N1 N3q
  refine Go.st (pc' := 15) (S' := [(.int x0)]) st3 ?_
  exact Go.retN X3 hx hlk hret (by simp) (hb hby d12_15) (by decide) (by decide) (by rw [e3]; exact ⟨by rw [own_nch0 _ bd0.1 bd0.2], N3, rfl⟩)

def Quck0_4 (Z : State) (b : Addr) (kb : ClassId) (fm : Value) (y0 : Int32) (y1 : Int32) (y2 : Int32) (y3 : Int32) (h0 : Heap) (n0 : Nat) (v : Option Value) (h : Heap) (L : List Loc) : Prop := v = none ∧ Fr n0 L ∧ h = h0
def roomuck0_4 : Room := { frames := 2, cells := 0, slots := 0, locals := 27 }
theorem rmuck0_4 (l : Launch) (Z : State) (a0 : Array Value) (hw : ∀ d ∈ tables_1, d.before a0 Z = true) (ws : List Jvm.Cond) (b : Addr) (kb : ClassId) (fm : Value) (y0 : Int32) (y1 : Int32) (y2 : Int32) (y3 : Int32) (h0 : Heap) (n0 : Nat) (Z0 : n0 ≤ h0.size) (hfm : fm.isRef = true) (SF : Sta Z Z.heap "jdk/internal/util/Preconditions" "SIOOBE_FORMATTER" "Ljava/util/function/BiFunction;" fm) (O0 : Old Z n0 h0) (V_b : Arv Z h0 b kb .byte (4 : Int32) [(.int y0), (.int y1), (.int y2), (.int y3)] (.int (0 : Int32))) :
    OMet l (⟨"java/lang/StringUTF16", "checkIndex", "(I[B)V"⟩ : MethodName) jdk_52_method_91_code 2 none ws roomuck0_4 #[(.int (0 : Int32)), (.ref b)] Z h0 (Quck0_4 Z b kb fm y0 y1 y2 y3 h0 n0) := by
  refine own_met (Q := (Quck0_4 Z b kb fm y0 y1 y2 y3 h0 n0)) (L0 := #[.val (.int (0 : Int32)), .val (.ref b)]) (plainFor_of_name pn_6) (fun m => by first | (simp [entryFrame, mkF, argsToLocals, Value.category]; done) | rfl) ?_
  intro p e s m below meth c T0 X0 hx hby hml hown hnm hret hlk hZ e0
  have N0 := Fr.nil n0
  refine Go.st (pc' := 1) (S' := [(.int (0 : Int32))]) (fun t_ k_ => XS.iloadN X0.here hx rfl (hb hby d28_0) rfl k_) ?_
  refine Go.st (pc' := 2) (S' := [(.ref b), (.int (0 : Int32))]) (fun t_ k_ => XS.aloadN X0.here hx rfl (hb hby d28_1) rfl rfl k_) ?_
  obtain ⟨_, _, ⟨T1, L1, k1, n1⟩, -, X1, ⟨Lc1, hQ1, l1, y1, z1⟩, st1⟩ := Jvm.LawKit.callS X0 hx (y := (⟨"java/lang/StringUTF16", "length", "([B)I"⟩ : MethodName)) hown (mvT hZ (wd hw 120 rfl)) (mvT hZ (wd hw 121 rfl)) (mvT hZ (wd hw 86 rfl)) (mvT hZ (wd hw 122 rfl)) (by decide) (backOf (W := 1) (rmulen4 l Z a0 hw [] b _ (y0) (y1) (y2) (y3) h0 n0 Z0 V_b) hZ (wd hw 122 rfl) (wd hw 86 rfl) (by decide) (by decide)) (g := (mkF m 2 #[.val (.int (0 : Int32)), .val (.ref b)] [(.ref b), (.int (0 : Int32))])) rfl (by rw [hml]; rfl) (argsL := [(.ref b)]) (rest := [(.int (0 : Int32))]) (lenOf pd_11 rfl) rfl (by show 2 * 0 + _ ≤ _; exact Nat.le_of_eq rfl) (hb hby d28_2) (fun _ _ => ⟨rfl, e0, (by decide : 0 + 0 ≤ _), (by decide : 0 + 0 ≤ _)⟩)
  dsimp only [Pt.U, Pt.locs, Pt.cells, Pt.slots] at X1 l1 y1 z1 st1 hQ1
  subst l1 y1 z1
  obtain ⟨rfl, N1q, e1⟩ := hQ1
  have N1 := Fr.app N0 N1q
  refine Go.st (pc' := 5) (S' := [(.int (2 : Int32)), (.int (0 : Int32))]) st1 ?_
  obtain ⟨_, _, ⟨T2, L2, k2, n2⟩, -, X2, ⟨Lc2, hQ2, l2, y2, z2⟩, st2⟩ := Jvm.LawKit.callS X1 hx (y := (⟨"java/lang/String", "checkIndex", "(II)V"⟩ : MethodName)) hown (mvT hZ (wd hw 123 rfl)) (mvT hZ (wd hw 69 rfl)) (mvT hZ (wd hw 7 rfl)) (mvT hZ (wd hw 70 rfl)) (by decide) (backOf (W := 0) (rm15 l Z a0 hw [] 0 2 fm h0 n0 Z0 hfm SF O0 (by decide) (by decide)) hZ (wd hw 70 rfl) (wd hw 7 rfl) (by decide) (by decide)) (g := (mkF m 5 #[.val (.int (0 : Int32)), .val (.ref b)] [(.int (2 : Int32)), (.int (0 : Int32))])) rfl (by rw [hml]; rfl) (argsL := [(.int (0 : Int32)), (.int (2 : Int32))]) (rest := []) (lenOf pd_9 rfl) rfl (by show 2 * 0 + _ ≤ _; exact Nat.le_of_eq rfl) (hb hby d28_5) (fun _ _ => ⟨rfl, e1, (by decide : 0 + 0 ≤ _), (by decide : 0 + 0 ≤ _)⟩)
  dsimp only [Pt.U, Pt.locs, Pt.cells, Pt.slots] at X2 l2 y2 z2 st2 hQ2
  subst l2 y2 z2
  obtain ⟨rfl, N2q, e2⟩ := hQ2
  have N2 := Fr.app N1 N2q
  refine Go.st (pc' := 8) (S' := []) st2 ?_
  exact Go.retV X2 hx hlk hret (hb hby d28_8) (by decide) (by decide) (by rw [e2]; exact ⟨rfl, N2, rfl⟩)

def Qgetc2_0 (Z : State) (y0 : Int32) (y1 : Int32) (h0 : Heap) (n0 : Nat) (v : Option Value) (h : Heap) (L : List Loc) : Prop := ∃ r : Int32, v = some (.int r) ∧ r = nar .char (own_gv y0 y1) ∧ Fr n0 L ∧ h = h0
def roomgetc2_0 : Room := { frames := 0, cells := 0, slots := 0, locals := 0 }
theorem rmgetc2_0 (l : Launch) (Z : State) (a0 : Array Value) (hw : ∀ d ∈ tables_1, d.before a0 Z = true) (ws : List Jvm.Cond) (b : Addr) (kb : ClassId) (y0 : Int32) (y1 : Int32) (y2 : Int32) (y3 : Int32) (h0 : Heap) (n0 : Nat) (Z0 : n0 ≤ h0.size) (SD : Sta Z Z.heap "java/lang/StringUTF16" "$assertionsDisabled" "Z" (.int (1 : Int32))) (SH : Sta Z Z.heap "java/lang/StringUTF16" "HI_BYTE_SHIFT" "I" (.int (0 : Int32))) (SL : Sta Z Z.heap "java/lang/StringUTF16" "LO_BYTE_SHIFT" "I" (.int (8 : Int32))) (O0 : Old Z n0 h0) (V_b : Arv Z h0 b kb .byte (4 : Int32) [(.int y0), (.int y1), (.int y2), (.int y3)] (.int (0 : Int32))) :
    OMet l (⟨"java/lang/StringUTF16", "getChar", "([BI)C"⟩ : MethodName) jdk_52_method_5_code 2 (some .char) ws roomgetc2_0 #[(.ref b), (.int (0 : Int32))] Z h0 (Qgetc2_0 Z y0 y1 h0 n0) := by
  refine own_met (Q := (Qgetc2_0 Z y0 y1 h0 n0)) (L0 := #[.val (.ref b), .val (.int (0 : Int32))]) (plainFor_of_name pn_6) (fun m => by first | (simp [entryFrame, mkF, argsToLocals, Value.category]; done) | rfl) ?_
  intro p e s m below meth c T0 X0 hx hby hml hown hnm hret hlk hZ e0
  have N0 := Fr.nil n0
  obtain ⟨T1, X1, e1, st1⟩ := getS2 X0 hx hZ hown (host := "") (Or.inl (wd hw 108 rfl)) Via.refl e0 (SD.ext O0.2) (g := (mkF m 0 #[.val (.ref b), .val (.int (0 : Int32))] [])) rfl (hb hby d26_0)
  refine Go.st (pc' := 3) (S' := [(.int (1 : Int32))]) st1 ?_
  refine Go.st (pc' := 28) (S' := []) (fun t_ k_ => XS.ifYes X1.here hx rfl (pc0 := 3) (pc' := 28) rfl (hb hby d26_3) rfl ((if0 _ _).trans (feq (by decide : ¬ ((1 : Int32) = (0 : Int32)))).2) (by decide) (by decide) k_) ?_
  refine Go.st (pc' := 29) (S' := [(.int (0 : Int32))]) (fun t_ k_ => XS.iloadN X1.here hx rfl (hb hby d26_28) rfl k_) ?_
  refine Go.st (pc' := 30) (S' := [(.int (1 : Int32)), (.int (0 : Int32))]) (fun t_ k_ => XS.iconst X1.here hx rfl (hb hby d26_29) k_) ?_
  refine Go.st (pc' := 31) (S' := [(.int ((0 : Int32) <<< ((1 : Int32) &&& 31)))]) (fun t_ k_ => XS.ishl X1.here hx rfl (hb hby d26_30) rfl k_) ?_
  rw [show ((0 : Int32) <<< ((1 : Int32) &&& 31)) = (0 : Int32) from by decide]
  refine Go.st (pc' := 32) (S' := []) (fun t_ k_ => XS.istoreN X1.here hx rfl (hb hby d26_31) rfl (l' := #[.val (.ref b), .val (.int (0 : Int32))]) rfl k_) ?_
  refine Go.st (pc' := 33) (S' := [(.ref b)]) (fun t_ k_ => XS.aloadN X1.here hx rfl (hb hby d26_32) rfl rfl k_) ?_
  refine Go.st (pc' := 34) (S' := [(.int (0 : Int32)), (.ref b)]) (fun t_ k_ => XS.iloadN X1.here hx rfl (hb hby d26_33) rfl k_) ?_
  refine Go.st (pc' := 37) (S' := [(.int (0 : Int32)), (.ref b)]) (fun t_ k_ => XS.iinc X1.here hx rfl (hb hby d26_34) rfl (l' := #[.val (.ref b), .val (.int ((0 : Int32) + (1 : Int32)))]) rfl k_) ?_
  rw [show ((0 : Int32) + (1 : Int32)) = (1 : Int32) from by decide]
  obtain ⟨cl2, Ar2, -, q2a, q2b, q2c, q2d⟩ := id V_b
  refine Go.st (pc' := 38) (S' := [(.int y0)]) (fun t_ k_ => X1.baloadBytes hx (j := (0 : Int32)) (v := (.int y0)) (by rw [e1]; exact Ar2.1) (State.isArrayOf_alike hZ.alike Ar2.2.1) Ar2.2.2 (inb_of q2a ⟨by decide, by decide⟩) (q2c.at (inb_of q2a ⟨by decide, by decide⟩) rfl) (g := (mkF m 37 #[.val (.ref b), .val (.int (1 : Int32))] [(.int (0 : Int32)), (.ref b)])) rfl rfl (hb hby d26_37) t_ k_) ?_
  refine Go.st (pc' := 41) (S' := [(.int (255 : Int32)), (.int y0)]) (fun t_ k_ => XS.sipush X1.here hx rfl (hb hby d26_38) k_) ?_
  refine Go.st (pc' := 42) (S' := [(.int (y0 &&& (255 : Int32)))]) (fun t_ k_ => XS.iand X1.here hx rfl (hb hby d26_41) rfl k_) ?_
  obtain ⟨T3, X3, e3, st3⟩ := getS2 X1 hx hZ hown (host := "") (Or.inl (wd hw 109 rfl)) Via.refl e1 (SH.ext O0.2) (g := (mkF m 42 #[.val (.ref b), .val (.int (1 : Int32))] [(.int (y0 &&& (255 : Int32)))])) rfl (hb hby d26_42)
  refine Go.st (pc' := 45) (S' := [(.int (0 : Int32)), (.int (y0 &&& (255 : Int32)))]) st3 ?_
  refine Go.st (pc' := 46) (S' := [(.int ((y0 &&& (255 : Int32)) <<< ((0 : Int32) &&& 31)))]) (fun t_ k_ => XS.ishl X3.here hx rfl (hb hby d26_45) rfl k_) ?_
  refine Go.st (pc' := 47) (S' := [(.ref b), (.int ((y0 &&& (255 : Int32)) <<< ((0 : Int32) &&& 31)))]) (fun t_ k_ => XS.aloadN X3.here hx rfl (hb hby d26_46) rfl rfl k_) ?_
  refine Go.st (pc' := 48) (S' := [(.int (1 : Int32)), (.ref b), (.int ((y0 &&& (255 : Int32)) <<< ((0 : Int32) &&& 31)))]) (fun t_ k_ => XS.iloadN X3.here hx rfl (hb hby d26_47) rfl k_) ?_
  obtain ⟨cl4, Ar4, -, q4a, q4b, q4c, q4d⟩ := id V_b
  refine Go.st (pc' := 49) (S' := [(.int y1), (.int ((y0 &&& (255 : Int32)) <<< ((0 : Int32) &&& 31)))]) (fun t_ k_ => X3.baloadBytes hx (j := (1 : Int32)) (v := (.int y1)) (by rw [e3]; exact Ar4.1) (State.isArrayOf_alike hZ.alike Ar4.2.1) Ar4.2.2 (inb_of q4a ⟨by decide, by decide⟩) (q4c.at (inb_of q4a ⟨by decide, by decide⟩) rfl) (g := (mkF m 48 #[.val (.ref b), .val (.int (1 : Int32))] [(.int (1 : Int32)), (.ref b), (.int ((y0 &&& (255 : Int32)) <<< ((0 : Int32) &&& 31)))])) rfl rfl (hb hby d26_48) t_ k_) ?_
  refine Go.st (pc' := 52) (S' := [(.int (255 : Int32)), (.int y1), (.int ((y0 &&& (255 : Int32)) <<< ((0 : Int32) &&& 31)))]) (fun t_ k_ => XS.sipush X3.here hx rfl (hb hby d26_49) k_) ?_
  refine Go.st (pc' := 53) (S' := [(.int (y1 &&& (255 : Int32))), (.int ((y0 &&& (255 : Int32)) <<< ((0 : Int32) &&& 31)))]) (fun t_ k_ => XS.iand X3.here hx rfl (hb hby d26_52) rfl k_) ?_
  obtain ⟨T5, X5, e5, st5⟩ := getS2 X3 hx hZ hown (host := "") (Or.inl (wd hw 110 rfl)) Via.refl e3 (SL.ext O0.2) (g := (mkF m 53 #[.val (.ref b), .val (.int (1 : Int32))] [(.int (y1 &&& (255 : Int32))), (.int ((y0 &&& (255 : Int32)) <<< ((0 : Int32) &&& 31)))])) rfl (hb hby d26_53)
  refine Go.st (pc' := 56) (S' := [(.int (8 : Int32)), (.int (y1 &&& (255 : Int32))), (.int ((y0 &&& (255 : Int32)) <<< ((0 : Int32) &&& 31)))]) st5 ?_
  refine Go.st (pc' := 57) (S' := [(.int ((y1 &&& (255 : Int32)) <<< ((8 : Int32) &&& 31))), (.int ((y0 &&& (255 : Int32)) <<< ((0 : Int32) &&& 31)))]) (fun t_ k_ => XS.ishl X5.here hx rfl (hb hby d26_56) rfl k_) ?_
  refine Go.st (pc' := 58) (S' := [(.int (((y0 &&& (255 : Int32)) <<< ((0 : Int32) &&& 31)) ||| ((y1 &&& (255 : Int32)) <<< ((8 : Int32) &&& 31))))]) (fun t_ k_ => XS.ior X5.here hx rfl (hb hby d26_57) rfl k_) ?_
  refine Go.st (pc' := 59) (S' := [(.int ((((y0 &&& (255 : Int32)) <<< ((0 : Int32) &&& 31)) ||| ((y1 &&& (255 : Int32)) <<< ((8 : Int32) &&& 31))).toUInt32.toUInt16.toUInt32.toInt32))]) (fun t_ k_ => XS.i2c X5.here hx rfl (hb hby d26_58) rfl k_) ?_
  exact Go.retN X5 hx hlk hret (by simp) (hb hby d26_59) (by decide) (by decide) (by rw [e5]; exact ⟨_, rfl, rfl, N0, rfl⟩)

def Qac2_0U (Z : State) (x0 : Int32) (h0 : Heap) (n0 : Nat) (v : Option Value) (h : Heap) (L : List Loc) : Prop := v = some (.int x0) ∧ Fr n0 L ∧ h = h0
def roomac2_0U : Room := { frames := 3, cells := 0, slots := 0, locals := 40 }
theorem rmac2_0U (l : Launch) (Z : State) (a0 : Array Value) (hw : ∀ d ∈ tables_1, d.before a0 Z = true) (ws : List Jvm.Cond) (t1 : Addr) (k1 : ClassId) (fm : Value) (x0 : Int32) (x1 : Int32) (h0 : Heap) (n0 : Nat) (Z0 : n0 ≤ h0.size) (hfm : fm.isRef = true) (SF : Sta Z Z.heap "jdk/internal/util/Preconditions" "SIOOBE_FORMATTER" "Ljava/util/function/BiFunction;" fm) (O0 : Old Z n0 h0) (SD : Sta Z Z.heap "java/lang/StringUTF16" "$assertionsDisabled" "Z" (.int (1 : Int32))) (SH : Sta Z Z.heap "java/lang/StringUTF16" "HI_BYTE_SHIFT" "I" (.int (0 : Int32))) (SL : Sta Z Z.heap "java/lang/StringUTF16" "LO_BYTE_SHIFT" "I" (.int (8 : Int32))) (V_t1 : Arv Z h0 t1 k1 .byte (4 : Int32) [(.int (own_lo x0)), (.int (own_hi x0)), (.int (own_lo x1)), (.int (own_hi x1))] (.int (0 : Int32))) (bd0 : ¬ x0 < 0 ∧ ¬ (65535 : Int32) < x0) (bd1 : ¬ x1 < 0 ∧ ¬ (65535 : Int32) < x1)  :
    OMet l (⟨"java/lang/StringUTF16", "charAt", "([BI)C"⟩ : MethodName) jdk_52_method_83_code 2 (some .char) ws roomac2_0U #[(.ref t1), (.int (0 : Int32))] Z h0 (Qac2_0U Z x0 h0 n0) := by
  refine own_met (Q := (Qac2_0U Z x0 h0 n0)) (L0 := #[.val (.ref t1), .val (.int (0 : Int32))]) (plainFor_of_name pn_6) (fun m => by first | (simp [entryFrame, mkF, argsToLocals, Value.category]; done) | rfl) ?_
  intro p e s m below meth c T0 X0 hx hby hml hown hnm hret hlk hZ e0
  have N0 := Fr.nil n0
  refine Go.st (pc' := 1) (S' := [(.int (0 : Int32))]) (fun t_ k_ => XS.iloadN X0.here hx rfl (hb hby d27_0) rfl k_) ?_
  refine Go.st (pc' := 2) (S' := [(.ref t1), (.int (0 : Int32))]) (fun t_ k_ => XS.aloadN X0.here hx rfl (hb hby d27_1) rfl rfl k_) ?_
  obtain ⟨_, _, ⟨T1, L1, k1, n1⟩, -, X1, ⟨Lc1, hQ1, l1, y1, z1⟩, st1⟩ := Jvm.LawKit.callS X0 hx (y := (⟨"java/lang/StringUTF16", "checkIndex", "(I[B)V"⟩ : MethodName)) hown (mvT hZ (wd hw 117 rfl)) (mvT hZ (wd hw 118 rfl)) (mvT hZ (wd hw 86 rfl)) (mvT hZ (wd hw 119 rfl)) (by decide) (backOf (W := 0) (rmuck0_4 l Z a0 hw [] t1 _ fm ((own_lo x0)) ((own_hi x0)) ((own_lo x1)) ((own_hi x1)) h0 n0 Z0 hfm SF O0 V_t1) hZ (wd hw 119 rfl) (wd hw 86 rfl) (by decide) (by decide)) (g := (mkF m 2 #[.val (.ref t1), .val (.int (0 : Int32))] [(.ref t1), (.int (0 : Int32))])) rfl (by rw [hml]; rfl) (argsL := [(.int (0 : Int32)), (.ref t1)]) (rest := []) (lenOf pd_12 rfl) rfl (by show 2 * 0 + _ ≤ _; exact Nat.le_of_eq rfl) (hb hby d27_2) (fun _ _ => ⟨rfl, e0, (by decide : 0 + 0 ≤ _), (by decide : 0 + 0 ≤ _)⟩)
  dsimp only [Pt.U, Pt.locs, Pt.cells, Pt.slots] at X1 l1 y1 z1 st1 hQ1
  subst l1 y1 z1
  obtain ⟨rfl, N1q, e1⟩ := hQ1
  have N1 := Fr.app N0 N1q
  refine Go.st (pc' := 5) (S' := []) st1 ?_
  refine Go.st (pc' := 6) (S' := [(.ref t1)]) (fun t_ k_ => XS.aloadN X1.here hx rfl (hb hby d27_5) rfl rfl k_) ?_
  refine Go.st (pc' := 7) (S' := [(.int (0 : Int32)), (.ref t1)]) (fun t_ k_ => XS.iloadN X1.here hx rfl (hb hby d27_6) rfl k_) ?_
  obtain ⟨_, _, ⟨T2, L2, k2, n2⟩, -, X2, ⟨Lc2, hQ2, l2, y2, z2⟩, st2⟩ := Jvm.LawKit.callS X1 hx (y := (⟨"java/lang/StringUTF16", "getChar", "([BI)C"⟩ : MethodName)) hown (mvT hZ (wd hw 111 rfl)) (mvT hZ (wd hw 112 rfl)) (mvT hZ (wd hw 86 rfl)) (mvT hZ (wd hw 113 rfl)) (by decide) (backOf (W := 0) (rmgetc2_0 l Z a0 hw [] t1 _ ((own_lo x0)) ((own_hi x0)) ((own_lo x1)) ((own_hi x1)) h0 n0 Z0 SD SH SL O0 V_t1) hZ (wd hw 113 rfl) (wd hw 86 rfl) (by decide) (by decide)) (g := (mkF m 7 #[.val (.ref t1), .val (.int (0 : Int32))] [(.int (0 : Int32)), (.ref t1)])) rfl (by rw [hml]; rfl) (argsL := [(.ref t1), (.int (0 : Int32))]) (rest := []) (lenOf pd_10 rfl) rfl (by show 2 * 0 + _ ≤ _; exact Nat.le_of_eq rfl) (hb hby d27_7) (fun _ _ => ⟨rfl, e1, (by decide : 0 + 0 ≤ _), (by decide : 0 + 0 ≤ _)⟩)
  dsimp only [Pt.U, Pt.locs, Pt.cells, Pt.slots] at X2 l2 y2 z2 st2 hQ2
  subst l2 y2 z2
  obtain ⟨rc2, rfl, hr2, N2q, e2⟩ := hQ2
  have N2 := Fr.app N1 N2q
  replace hr2 : rc2 = x0 := hr2.trans (by rw [own_gc _ bd0.1 bd0.2, own_nch0 _ bd0.1 bd0.2])
  subst rc2
  refine Go.st (pc' := 10) (S' := [(.int x0)]) st2 ?_
  exact Go.retN X2 hx hlk hret (by simp) (hb hby d27_10) (by decide) (by decide) (by rw [e2]; exact ⟨by rw [own_nch0 _ bd0.1 bd0.2], N2, rfl⟩)

def Qca2_0U (Z : State) (x0 : Int32) (h0 : Heap) (n0 : Nat) (v : Option Value) (h : Heap) (L : List Loc) : Prop := v = some (.int x0) ∧ Fr n0 L ∧ h = h0
def roomca2_0U : Room := { frames := 4, cells := 0, slots := 0, locals := 53 }
theorem rmca2_0U (l : Launch) (Z : State) (a0 : Array Value) (hw : ∀ d ∈ tables_1, d.before a0 Z = true) (ws : List Jvm.Cond) (a1 : Addr) (t1 : Addr) (k1 : ClassId) (fm : Value) (gC : Int32) (x0 : Int32) (x1 : Int32) (h0 : Heap) (n0 : Nat) (Z0 : n0 ≤ h0.size) (SC : Sta Z Z.heap "java/lang/String" "COMPACT_STRINGS" "Z" (.int gC)) (PC : ¬ (gC = (0 : Int32))) (O0 : Old Z n0 h0) (hfm : fm.isRef = true) (SF : Sta Z Z.heap "jdk/internal/util/Preconditions" "SIOOBE_FORMATTER" "Ljava/util/function/BiFunction;" fm) (SD : Sta Z Z.heap "java/lang/StringUTF16" "$assertionsDisabled" "Z" (.int (1 : Int32))) (SH : Sta Z Z.heap "java/lang/StringUTF16" "HI_BYTE_SHIFT" "I" (.int (0 : Int32))) (SL : Sta Z Z.heap "java/lang/StringUTF16" "LO_BYTE_SHIFT" "I" (.int (8 : Int32))) (E_a1 : Exa Z h0 a1 "java/lang/String") (Fc_a1 : Fld Z h0 a1 "java/lang/String" "coder" "B" (.int (1 : Int32))) (Fv_a1 : Fld Z h0 a1 "java/lang/String" "value" "[B" (.ref t1)) (V_t1 : Arv Z h0 t1 k1 .byte (4 : Int32) [(.int (own_lo x0)), (.int (own_hi x0)), (.int (own_lo x1)), (.int (own_hi x1))] (.int (0 : Int32))) (bd0 : ¬ x0 < 0 ∧ ¬ (65535 : Int32) < x0) (bd1 : ¬ x1 < 0 ∧ ¬ (65535 : Int32) < x1)  :
    OMet l (⟨"java/lang/String", "charAt", "(I)C"⟩ : MethodName) jdk_42_method_56_code 2 (some .char) ws roomca2_0U #[(.ref a1), (.int (0 : Int32))] Z h0 (Qca2_0U Z x0 h0 n0) := by
  refine own_met (Q := (Qca2_0U Z x0 h0 n0)) (L0 := #[.val (.ref a1), .val (.int (0 : Int32))]) (plainFor_of_name pn_0) (fun m => by first | (simp [entryFrame, mkF, argsToLocals, Value.category]; done) | rfl) ?_
  intro p e s m below meth c T0 X0 hx hby hml hown hnm hret hlk hZ e0
  have N0 := Fr.nil n0
  refine Go.st (pc' := 1) (S' := [(.ref a1)]) (fun t_ k_ => XS.aloadN X0.here hx rfl (hb hby d12_0) rfl rfl k_) ?_
  obtain ⟨cq1, kq1, q1a, q1b, q1c⟩ := isOf hZ e0 E_a1
  obtain ⟨_, _, ⟨T1, L1, k1, n1⟩, -, X1, ⟨Lc1, hQ1, l1, y1, z1⟩, st1⟩ := X0.virtualBack hx (y := (⟨"java/lang/String", "isLatin1", "()Z"⟩ : MethodName)) (z := (⟨"java/lang/String", "isLatin1", "()Z"⟩ : MethodName)) hown (mvT hZ (wd hw 60 rfl)) (mvT hZ (wd hw 61 rfl)) (notFace_of_selects (args := #[]) (mvT hZ (wd hw 63 rfl))) (mvT hZ (wd hw 63 rfl)) (mvT hZ (wd hw 62 rfl)) (by decide) (backOf (W := 0) (rmisLatin1U l Z a0 hw [] a1 gC h0 n0 Z0 SC PC O0 Fc_a1) hZ (wd hw 64 rfl) (wd hw 7 rfl) (by decide) (by decide)) q1a q1c (g := (mkF m 1 #[.val (.ref a1), .val (.int (0 : Int32))] [(.ref a1)])) rfl (by rw [hml]; rfl) (Steps.refl _) (argsL := []) (rest := []) (lenOf pd_7 rfl) rfl (by show 2 * 0 + _ ≤ _; exact Nat.le_of_eq rfl) (hb hby d12_1) (fun _ _ => ⟨rfl, e0, (by decide : 0 + 0 ≤ _), (by decide : 0 + 0 ≤ _)⟩)
  dsimp only [Pt.U, Pt.locs, Pt.cells, Pt.slots] at X1 l1 y1 z1 st1 hQ1
  subst l1 y1 z1
  obtain ⟨rfl, N1q, e1⟩ := hQ1
  have N1 := Fr.app N0 N1q
  refine Go.tr (pc' := 4) (S' := [(.int (0 : Int32))]) st1 ?_
  refine Go.st (pc' := 16) (S' := []) (fun t_ k_ => XS.ifYes X1.here hx rfl (pc0 := 4) (pc' := 16) rfl (hb hby d12_4) rfl ((if0 _ _).trans (teq (by decide : ((0 : Int32) = (0 : Int32)))).1) (by decide) (by decide) k_) ?_
  refine Go.st (pc' := 17) (S' := [(.ref a1)]) (fun t_ k_ => XS.aloadN X1.here hx rfl (hb hby d12_16) rfl rfl k_) ?_
  obtain ⟨T2, X2, e2, st2⟩ := getF X1 hx hZ hown (host := "") (Or.inl (wd hw 27 rfl)) Via.refl e1 Fv_a1 (g := (mkF m 17 #[.val (.ref a1), .val (.int (0 : Int32))] [(.ref a1)])) rfl rfl (hb hby d12_17)
  refine Go.st (pc' := 20) (S' := [(.ref t1)]) st2 ?_
  refine Go.st (pc' := 21) (S' := [(.int (0 : Int32)), (.ref t1)]) (fun t_ k_ => XS.iloadN X2.here hx rfl (hb hby d12_20) rfl k_) ?_
  obtain ⟨_, _, ⟨T3, L3, k3, n3⟩, -, X3, ⟨Lc3, hQ3, l3, y3, z3⟩, st3⟩ := Jvm.LawKit.callS X2 hx (y := (⟨"java/lang/StringUTF16", "charAt", "([BI)C"⟩ : MethodName)) hown (mvT hZ (wd hw 114 rfl)) (mvT hZ (wd hw 115 rfl)) (mvT hZ (wd hw 86 rfl)) (mvT hZ (wd hw 116 rfl)) (by decide) (backOf (W := 0) (rmac2_0U l Z a0 hw [] t1 _ fm x0 x1 h0 n0 Z0 hfm SF O0 SD SH SL V_t1 bd0 bd1 ) hZ (wd hw 116 rfl) (wd hw 86 rfl) (by decide) (by decide)) (g := (mkF m 21 #[.val (.ref a1), .val (.int (0 : Int32))] [(.int (0 : Int32)), (.ref t1)])) rfl (by rw [hml]; rfl) (argsL := [(.ref t1), (.int (0 : Int32))]) (rest := []) (lenOf pd_10 rfl) rfl (by show 2 * 0 + _ ≤ _; exact Nat.le_of_eq rfl) (hb hby d12_21) (fun _ _ => ⟨rfl, e2, (by decide : 0 + 0 ≤ _), (by decide : 0 + 0 ≤ _)⟩)
  dsimp only [Pt.U, Pt.locs, Pt.cells, Pt.slots] at X3 l3 y3 z3 st3 hQ3
  subst l3 y3 z3
  obtain ⟨rfl, N3q, e3⟩ := hQ3
  have N3 := Fr.app N1 N3q
  refine Go.st (pc' := 24) (S' := [(.int x0)]) st3 ?_
  exact Go.retN X3 hx hlk hret (by simp) (hb hby d12_24) (by decide) (by decide) (by rw [e3]; exact ⟨by rw [own_nch0 _ bd0.1 bd0.2], N3, rfl⟩)
def Qca2_0C (Z : State) (x0 : Int32) (h0 : Heap) (n0 : Nat) (v : Option Value) (h : Heap) (L : List Loc) : Prop := v = some (.int x0) ∧ Fr n0 L ∧ h = h0
theorem rmca2_0C (l : Launch) (Z : State) (a0 : Array Value) (hw : ∀ d ∈ tables_1, d.before a0 Z = true) (ws : List Jvm.Cond) (a1 : Addr) (fm : Value) (gC : Int32) (x0 : Int32) (x1 : Int32) (h0 : Heap) (n0 : Nat) (Z0 : n0 ≤ h0.size) (ss : own_ST Z gC fm) (O0 : Old Z n0 h0) (C1 : own_CS2 Z h0 a1 x0 x1) (bd0 : own_bd x0) (bd1 : own_bd x1) :
    OMet l (⟨"java/lang/String", "charAt", "(I)C"⟩ : MethodName) jdk_42_method_56_code 2 (some .char) ws roomca2_0L #[(.ref a1), (.int (0 : Int32))] Z h0 (Qca2_0C Z x0 h0 n0) := by
  obtain ⟨SC, PC, hfm, SF, SD, SH, SL⟩ := id ss
  obtain ⟨E_a1, t1, k1, ⟨Fc, Fv, V1, la0, la1, -⟩ | ⟨Fc, Fv, V1⟩⟩ := C1
  · exact rmca2_0L l Z a0 hw ws a1 t1 k1 fm gC x0 x1 h0 n0 Z0 SC PC O0 hfm SF  E_a1 Fc Fv V1 bd0 bd1 la0 la1
  · exact rmca2_0U l Z a0 hw ws a1 t1 k1 fm gC x0 x1 h0 n0 Z0 SC PC O0 hfm SF SD SH SL E_a1 Fc Fv V1 bd0 bd1 


def roomare2 : Room := { frames := 5, cells := 2, slots := 24, locals := 66 }
theorem sgare2_2 {Z : State} {n0 : Nat} {h0 hh : Heap} (a1 : Addr) (p1 p2 : Int32) (fm : Value) (gC : Int32) (x0 : Int32) (x1 : Int32) (ac : Int32) (ss : own_ST Z gC fm) (O0 : Old Z n0 hh) (Z0 : n0 ≤ hh.size) (K0 : Keep h0 hh []) (C1 : own_CS2 Z hh a1 x0 x1) (bd0 : own_bd x0) (bd1 : own_bd x1) (hac : (((1 : Int32) &&& own_dg x0) &&& own_dg x1) = ac) :
    SegH Z n0 h0 hh roomare2 2 24 prog_5_method_3_code 6 "pechat/card/Digits" "are" (some .boolean) (Qare2 Z x0 x1 p1 p2 h0 n0) 12 #[.val (.ref a1), .val (.int p1), .val (.int p2), .val (.int ac), .val (.int (2 : Int32)), .val (.int x1)] [] := by
  intro p l e s m args below meth c T0 locs a0 k0 vm0 X0 hx hZ hw hby hml hown hnm hret hlk e0 hs0 CR hS hk N0
  refine GoH.st (pc' := 14) (S' := [(.int (2 : Int32))]) (fun t_ k_ => XS.iload X0.here hx rfl (hb hby d8_12) rfl k_) ?_
  refine GoH.st (pc' := 15) (S' := [(.ref a1), (.int (2 : Int32))]) (fun t_ k_ => XS.aloadN X0.here hx rfl (hb hby d8_14) rfl rfl k_) ?_
  obtain ⟨cq1, kq1, q1a, q1b, q1c⟩ := isOf hZ e0 C1.exa
  obtain ⟨_, _, ⟨T1, L1, k1, n1⟩, -, X1, ⟨Lc1, hQ1, l1, y1, z1⟩, st1⟩ := X0.virtualBack hx (y := (⟨"java/lang/String", "length", "()I"⟩ : MethodName)) (z := (⟨"java/lang/String", "length", "()I"⟩ : MethodName)) hown (mvT hZ (wd hw 45 rfl)) (mvT hZ (wd hw 46 rfl)) (notFace_of_selects (args := #[]) (mvT hZ (wd hw 48 rfl))) (mvT hZ (wd hw 48 rfl)) (mvT hZ (wd hw 47 rfl)) (by decide) (backOf (W := 1) (rmlen2C l Z a0 hw [] a1 fm gC x0 x1 hh n0 Z0 ss O0 C1 bd0 bd1) hZ (wd hw 49 rfl) (wd hw 7 rfl) (by decide) (by decide)) q1a q1c (g := (mkF m 15 #[.val (.ref a1), .val (.int p1), .val (.int p2), .val (.int ac), .val (.int (2 : Int32)), .val (.int x1)] [(.ref a1), (.int (2 : Int32))])) rfl (by rw [hml]; rfl) (Steps.refl _) (argsL := []) (rest := [(.int (2 : Int32))]) (lenOf pd_5 rfl) rfl (by show 2 * 0 + _ ≤ _; exact Nat.le_of_eq rfl) (hb hby d8_15) (fun _ _ => ⟨rfl, e0, (by decide : 2 + 0 ≤ _), (by decide : 24 + 0 ≤ _)⟩)
  dsimp only [Pt.U, Pt.locs, Pt.cells, Pt.slots] at X1 l1 y1 z1 st1 hQ1
  subst l1 y1 z1
  obtain ⟨rfl, N1q, e1⟩ := hQ1
  have N1 := Fr.app N0 N1q
  refine GoH.tr (pc' := 18) (S' := [(.int (2 : Int32)), (.int (2 : Int32))]) st1 ?_
  refine GoH.st (pc' := 57) (S' := []) (fun t_ k_ => XS.icmpYes X1.here hx rfl (pc0 := 18) (pc' := 57) rfl (hb hby d8_18) rfl (flt (by decide : ¬ ((2 : Int32) < (2 : Int32)))).2.1 (by decide) (by decide) k_) ?_
  refine GoH.st (pc' := 58) (S' := [(.int ac)]) (fun t_ k_ => XS.iloadN X1.here hx rfl (hb hby d8_57) rfl k_) ?_
  by_cases hc58_2 : ac = (0 : Int32)
  · refine GoH.st (pc' := 81) (S' := []) (fun t_ k_ => XS.ifYes X1.here hx rfl (pc0 := 58) (pc' := 81) rfl (hb hby d8_58) rfl ((if0 _ _).trans (teq hc58_2).1) (by decide) (by decide) k_) ?_
    refine GoH.st (pc' := 82) (S' := [(.int (0 : Int32))]) (fun t_ k_ => XS.iconst X1.here hx rfl (hb hby d8_81) k_) ?_
    exact GoH.retN X1 hx hlk hret (by simp) (hb hby d8_82) (by decide) (by decide) hS hk e1 hs0 hZ (own_EW hw) CR (by rw [e1]; exact ⟨(by rw [show own_are (((1 : Int32) &&& own_dg x0) &&& own_dg x1) (2 : Int32) p1 p2 = own_are ac (2 : Int32) p1 p2 from congrArg (fun u_ => own_are u_ (2 : Int32) p1 p2) hac, own_are, if_pos hc58_2]; rfl), N1, K0⟩)
  · refine GoH.st (pc' := 61) (S' := []) (fun t_ k_ => XS.ifNo X1.here hx rfl (hb hby d8_58) rfl ((if0 _ _).trans (feq hc58_2).1) k_) ?_
    refine GoH.st (pc' := 62) (S' := [(.ref a1)]) (fun t_ k_ => XS.aloadN X1.here hx rfl (hb hby d8_61) rfl rfl k_) ?_
    obtain ⟨cq3, kq3, q3a, q3b, q3c⟩ := isOf hZ e1 C1.exa
    obtain ⟨_, _, ⟨T3, L3, k3, n3⟩, -, X3, ⟨Lc3, hQ3, l3, y3, z3⟩, st3⟩ := X1.virtualBack hx (y := (⟨"java/lang/String", "length", "()I"⟩ : MethodName)) (z := (⟨"java/lang/String", "length", "()I"⟩ : MethodName)) hown (mvT hZ (wd hw 45 rfl)) (mvT hZ (wd hw 46 rfl)) (notFace_of_selects (args := #[]) (mvT hZ (wd hw 48 rfl))) (mvT hZ (wd hw 48 rfl)) (mvT hZ (wd hw 47 rfl)) (by decide) (backOf (W := 0) (rmlen2C l Z a0 hw [] a1 fm gC x0 x1 hh n0 Z0 ss O0 C1 bd0 bd1) hZ (wd hw 49 rfl) (wd hw 7 rfl) (by decide) (by decide)) q3a q3c (g := (mkF m 62 #[.val (.ref a1), .val (.int p1), .val (.int p2), .val (.int ac), .val (.int (2 : Int32)), .val (.int x1)] [(.ref a1)])) rfl (by rw [hml]; rfl) (Steps.refl _) (argsL := []) (rest := []) (lenOf pd_5 rfl) rfl (by show 2 * 0 + _ ≤ _; exact Nat.le_of_eq rfl) (hb hby d8_62) (fun _ _ => ⟨rfl, e1, (by decide : 2 + 0 ≤ _), (by decide : 24 + 0 ≤ _)⟩)
    dsimp only [Pt.U, Pt.locs, Pt.cells, Pt.slots] at X3 l3 y3 z3 st3 hQ3
    subst l3 y3 z3
    obtain ⟨rfl, N3q, e3⟩ := hQ3
    have N3 := Fr.app N1 N3q
    refine GoH.tr (pc' := 65) (S' := [(.int (2 : Int32))]) st3 ?_
    refine GoH.st (pc' := 66) (S' := [(.int p1), (.int (2 : Int32))]) (fun t_ k_ => XS.iloadN X3.here hx rfl (hb hby d8_65) rfl k_) ?_
    by_cases hc66_4 : (2 : Int32) < p1
    · refine GoH.st (pc' := 81) (S' := []) (fun t_ k_ => XS.icmpYes X3.here hx rfl (pc0 := 66) (pc' := 81) rfl (hb hby d8_66) rfl (tlt hc66_4).1 (by decide) (by decide) k_) ?_
      refine GoH.st (pc' := 82) (S' := [(.int (0 : Int32))]) (fun t_ k_ => XS.iconst X3.here hx rfl (hb hby d8_81) k_) ?_
      exact GoH.retN X3 hx hlk hret (by simp) (hb hby d8_82) (by decide) (by decide) hS hk e3 hs0 hZ (own_EW hw) CR (by rw [e3]; exact ⟨(by rw [show own_are (((1 : Int32) &&& own_dg x0) &&& own_dg x1) (2 : Int32) p1 p2 = own_are ac (2 : Int32) p1 p2 from congrArg (fun u_ => own_are u_ (2 : Int32) p1 p2) hac, own_are, if_neg hc58_2, if_pos hc66_4]; rfl), N3, K0⟩)
    · refine GoH.st (pc' := 69) (S' := []) (fun t_ k_ => XS.icmpNo X3.here hx rfl (hb hby d8_66) rfl (flt hc66_4).1 k_) ?_
      refine GoH.st (pc' := 70) (S' := [(.ref a1)]) (fun t_ k_ => XS.aloadN X3.here hx rfl (hb hby d8_69) rfl rfl k_) ?_
      obtain ⟨cq5, kq5, q5a, q5b, q5c⟩ := isOf hZ e3 C1.exa
      obtain ⟨_, _, ⟨T5, L5, k5, n5⟩, -, X5, ⟨Lc5, hQ5, l5, y5, z5⟩, st5⟩ := X3.virtualBack hx (y := (⟨"java/lang/String", "length", "()I"⟩ : MethodName)) (z := (⟨"java/lang/String", "length", "()I"⟩ : MethodName)) hown (mvT hZ (wd hw 45 rfl)) (mvT hZ (wd hw 46 rfl)) (notFace_of_selects (args := #[]) (mvT hZ (wd hw 48 rfl))) (mvT hZ (wd hw 48 rfl)) (mvT hZ (wd hw 47 rfl)) (by decide) (backOf (W := 0) (rmlen2C l Z a0 hw [] a1 fm gC x0 x1 hh n0 Z0 ss O0 C1 bd0 bd1) hZ (wd hw 49 rfl) (wd hw 7 rfl) (by decide) (by decide)) q5a q5c (g := (mkF m 70 #[.val (.ref a1), .val (.int p1), .val (.int p2), .val (.int ac), .val (.int (2 : Int32)), .val (.int x1)] [(.ref a1)])) rfl (by rw [hml]; rfl) (Steps.refl _) (argsL := []) (rest := []) (lenOf pd_5 rfl) rfl (by show 2 * 0 + _ ≤ _; exact Nat.le_of_eq rfl) (hb hby d8_70) (fun _ _ => ⟨rfl, e3, (by decide : 2 + 0 ≤ _), (by decide : 24 + 0 ≤ _)⟩)
      dsimp only [Pt.U, Pt.locs, Pt.cells, Pt.slots] at X5 l5 y5 z5 st5 hQ5
      subst l5 y5 z5
      obtain ⟨rfl, N5q, e5⟩ := hQ5
      have N5 := Fr.app N3 N5q
      refine GoH.tr (pc' := 73) (S' := [(.int (2 : Int32))]) st5 ?_
      refine GoH.st (pc' := 74) (S' := [(.int p2), (.int (2 : Int32))]) (fun t_ k_ => XS.iloadN X5.here hx rfl (hb hby d8_73) rfl k_) ?_
      by_cases hc74_6 : p2 < (2 : Int32)
      · refine GoH.st (pc' := 81) (S' := []) (fun t_ k_ => XS.icmpYes X5.here hx rfl (pc0 := 74) (pc' := 81) rfl (hb hby d8_74) rfl (tlt hc74_6).2.2.1 (by decide) (by decide) k_) ?_
        refine GoH.st (pc' := 82) (S' := [(.int (0 : Int32))]) (fun t_ k_ => XS.iconst X5.here hx rfl (hb hby d8_81) k_) ?_
        exact GoH.retN X5 hx hlk hret (by simp) (hb hby d8_82) (by decide) (by decide) hS hk e5 hs0 hZ (own_EW hw) CR (by rw [e5]; exact ⟨(by rw [show own_are (((1 : Int32) &&& own_dg x0) &&& own_dg x1) (2 : Int32) p1 p2 = own_are ac (2 : Int32) p1 p2 from congrArg (fun u_ => own_are u_ (2 : Int32) p1 p2) hac, own_are, if_neg hc58_2, if_neg hc66_4, if_pos hc74_6]; rfl), N5, K0⟩)
      · refine GoH.st (pc' := 77) (S' := []) (fun t_ k_ => XS.icmpNo X5.here hx rfl (hb hby d8_74) rfl (flt hc74_6).2.2.1 k_) ?_
        refine GoH.st (pc' := 78) (S' := [(.int (1 : Int32))]) (fun t_ k_ => XS.iconst X5.here hx rfl (hb hby d8_77) k_) ?_
        refine GoH.st (pc' := 82) (S' := [(.int (1 : Int32))]) (fun t_ k_ => XS.goto X5.here hx rfl (pc0 := 78) (pc' := 82) rfl (hb hby d8_78) (by decide) (by decide) k_) ?_
        exact GoH.retN X5 hx hlk hret (by simp) (hb hby d8_82) (by decide) (by decide) hS hk e5 hs0 hZ (own_EW hw) CR (by rw [e5]; exact ⟨(by rw [show own_are (((1 : Int32) &&& own_dg x0) &&& own_dg x1) (2 : Int32) p1 p2 = own_are ac (2 : Int32) p1 p2 from congrArg (fun u_ => own_are u_ (2 : Int32) p1 p2) hac, own_are, if_neg hc58_2, if_neg hc66_4, if_neg hc74_6]; rfl), N5, K0⟩)
theorem sgare2_1 {Z : State} {n0 : Nat} {h0 hh : Heap} (a1 : Addr) (p1 p2 : Int32) (fm : Value) (gC : Int32) (x0 : Int32) (x1 : Int32) (ac : Int32) (ss : own_ST Z gC fm) (O0 : Old Z n0 hh) (Z0 : n0 ≤ hh.size) (K0 : Keep h0 hh []) (C1 : own_CS2 Z hh a1 x0 x1) (bd0 : own_bd x0) (bd1 : own_bd x1) (hac : ((1 : Int32) &&& own_dg x0) = ac) :
    SegH Z n0 h0 hh roomare2 2 24 prog_5_method_3_code 6 "pechat/card/Digits" "are" (some .boolean) (Qare2 Z x0 x1 p1 p2 h0 n0) 12 #[.val (.ref a1), .val (.int p1), .val (.int p2), .val (.int ac), .val (.int (1 : Int32)), .val (.int x0)] [] := by
  intro p l e s m args below meth c T0 locs a0 k0 vm0 X0 hx hZ hw hby hml hown hnm hret hlk e0 hs0 CR hS hk N0
  refine GoH.st (pc' := 14) (S' := [(.int (1 : Int32))]) (fun t_ k_ => XS.iload X0.here hx rfl (hb hby d8_12) rfl k_) ?_
  refine GoH.st (pc' := 15) (S' := [(.ref a1), (.int (1 : Int32))]) (fun t_ k_ => XS.aloadN X0.here hx rfl (hb hby d8_14) rfl rfl k_) ?_
  obtain ⟨cq1, kq1, q1a, q1b, q1c⟩ := isOf hZ e0 C1.exa
  obtain ⟨_, _, ⟨T1, L1, k1, n1⟩, -, X1, ⟨Lc1, hQ1, l1, y1, z1⟩, st1⟩ := X0.virtualBack hx (y := (⟨"java/lang/String", "length", "()I"⟩ : MethodName)) (z := (⟨"java/lang/String", "length", "()I"⟩ : MethodName)) hown (mvT hZ (wd hw 45 rfl)) (mvT hZ (wd hw 46 rfl)) (notFace_of_selects (args := #[]) (mvT hZ (wd hw 48 rfl))) (mvT hZ (wd hw 48 rfl)) (mvT hZ (wd hw 47 rfl)) (by decide) (backOf (W := 1) (rmlen2C l Z a0 hw [] a1 fm gC x0 x1 hh n0 Z0 ss O0 C1 bd0 bd1) hZ (wd hw 49 rfl) (wd hw 7 rfl) (by decide) (by decide)) q1a q1c (g := (mkF m 15 #[.val (.ref a1), .val (.int p1), .val (.int p2), .val (.int ac), .val (.int (1 : Int32)), .val (.int x0)] [(.ref a1), (.int (1 : Int32))])) rfl (by rw [hml]; rfl) (Steps.refl _) (argsL := []) (rest := [(.int (1 : Int32))]) (lenOf pd_5 rfl) rfl (by show 2 * 0 + _ ≤ _; exact Nat.le_of_eq rfl) (hb hby d8_15) (fun _ _ => ⟨rfl, e0, (by decide : 2 + 0 ≤ _), (by decide : 24 + 0 ≤ _)⟩)
  dsimp only [Pt.U, Pt.locs, Pt.cells, Pt.slots] at X1 l1 y1 z1 st1 hQ1
  subst l1 y1 z1
  obtain ⟨rfl, N1q, e1⟩ := hQ1
  have N1 := Fr.app N0 N1q
  refine GoH.tr (pc' := 18) (S' := [(.int (2 : Int32)), (.int (1 : Int32))]) st1 ?_
  refine GoH.st (pc' := 21) (S' := []) (fun t_ k_ => XS.icmpNo X1.here hx rfl (hb hby d8_18) rfl (tlt (by decide : ((1 : Int32) < (2 : Int32)))).2.1 k_) ?_
  refine GoH.st (pc' := 22) (S' := [(.ref a1)]) (fun t_ k_ => XS.aloadN X1.here hx rfl (hb hby d8_21) rfl rfl k_) ?_
  refine GoH.st (pc' := 24) (S' := [(.int (1 : Int32)), (.ref a1)]) (fun t_ k_ => XS.iload X1.here hx rfl (hb hby d8_22) rfl k_) ?_
  obtain ⟨cq2, kq2, q2a, q2b, q2c⟩ := isOf hZ e1 C1.exa
  obtain ⟨_, _, ⟨T2, L2, k2, n2⟩, -, X2, ⟨Lc2, hQ2, l2, y2, z2⟩, st2⟩ := X1.virtualBack hx (y := (⟨"java/lang/String", "charAt", "(I)C"⟩ : MethodName)) (z := (⟨"java/lang/String", "charAt", "(I)C"⟩ : MethodName)) hown (mvT hZ (wd hw 55 rfl)) (mvT hZ (wd hw 56 rfl)) (notFace_of_selects (args := #[]) (mvT hZ (wd hw 58 rfl))) (mvT hZ (wd hw 58 rfl)) (mvT hZ (wd hw 57 rfl)) (by decide) (backOf (W := 0) (rmca2_1C l Z a0 hw [] a1 fm gC x0 x1 hh n0 Z0 ss O0 C1 bd0 bd1) hZ (wd hw 59 rfl) (wd hw 7 rfl) (by decide) (by decide)) q2a q2c (g := (mkF m 24 #[.val (.ref a1), .val (.int p1), .val (.int p2), .val (.int ac), .val (.int (1 : Int32)), .val (.int x0)] [(.int (1 : Int32)), (.ref a1)])) rfl (by rw [hml]; rfl) (Steps.refl _) (argsL := [(.int (1 : Int32))]) (rest := []) (lenOf pd_13 rfl) rfl (by show 2 * 0 + _ ≤ _; exact Nat.le_of_eq rfl) (hb hby d8_24) (fun _ _ => ⟨rfl, e1, (by decide : 2 + 0 ≤ _), (by decide : 24 + 0 ≤ _)⟩)
  dsimp only [Pt.U, Pt.locs, Pt.cells, Pt.slots] at X2 l2 y2 z2 st2 hQ2
  subst l2 y2 z2
  obtain ⟨rfl, N2q, e2⟩ := hQ2
  have N2 := Fr.app N1 N2q
  refine GoH.tr (pc' := 27) (S' := [(.int x1)]) st2 ?_
  refine GoH.st (pc' := 29) (S' := []) (fun t_ k_ => XS.istore X2.here hx rfl (hb hby d8_27) rfl (l' := #[.val (.ref a1), .val (.int p1), .val (.int p2), .val (.int ac), .val (.int (1 : Int32)), .val (.int x1)]) rfl k_) ?_
  refine GoH.st (pc' := 30) (S' := [(.int ac)]) (fun t_ k_ => XS.iloadN X2.here hx rfl (hb hby d8_29) rfl k_) ?_
  refine GoH.st (pc' := 32) (S' := [(.int x1), (.int ac)]) (fun t_ k_ => XS.iload X2.here hx rfl (hb hby d8_30) rfl k_) ?_
  refine GoH.st (pc' := 34) (S' := [(.int (48 : Int32)), (.int x1), (.int ac)]) (fun t_ k_ => XS.bipush X2.here hx rfl (hb hby d8_32) k_) ?_
  by_cases hc34_3 : x1 < (48 : Int32)
  · refine GoH.st (pc' := 48) (S' := [(.int ac)]) (fun t_ k_ => XS.icmpYes X2.here hx rfl (pc0 := 34) (pc' := 48) rfl (hb hby d8_34) rfl (tlt hc34_3).1 (by decide) (by decide) k_) ?_
    refine GoH.st (pc' := 49) (S' := [(.int (0 : Int32)), (.int ac)]) (fun t_ k_ => XS.iconst X2.here hx rfl (hb hby d8_48) k_) ?_
    refine GoH.st (pc' := 50) (S' := [(.int (ac &&& (0 : Int32)))]) (fun t_ k_ => XS.iand X2.here hx rfl (hb hby d8_49) rfl k_) ?_
    refine GoH.st (pc' := 51) (S' := []) (fun t_ k_ => XS.istoreN X2.here hx rfl (hb hby d8_50) rfl (l' := #[.val (.ref a1), .val (.int p1), .val (.int p2), .val (.int (ac &&& (0 : Int32))), .val (.int (1 : Int32)), .val (.int x1)]) rfl k_) ?_
    refine GoH.st (pc' := 54) (S' := []) (fun t_ k_ => XS.iinc X2.here hx rfl (hb hby d8_51) rfl (l' := #[.val (.ref a1), .val (.int p1), .val (.int p2), .val (.int (ac &&& (0 : Int32))), .val (.int ((1 : Int32) + (1 : Int32))), .val (.int x1)]) rfl k_) ?_
    rw [show ((1 : Int32) + (1 : Int32)) = (2 : Int32) from by decide]
    refine GoH.st (pc' := 12) (S' := []) (fun t_ k_ => XS.goto X2.here hx rfl (pc0 := 54) (pc' := 12) rfl (hb hby d8_54) (by decide) (by decide) k_) ?_
    exact sgare2_2 a1 p1 p2 fm gC x0 x1 (ac &&& (0 : Int32)) ss O0 Z0 K0 C1 bd0 bd1 (own_and hac (own_dgA hc34_3)) (Stand.up X2 (by decide) (by decide)) hx hZ hw hby hml hown hnm hret hlk e2 hs0 CR hS hk N2
  · refine GoH.st (pc' := 37) (S' := [(.int ac)]) (fun t_ k_ => XS.icmpNo X2.here hx rfl (hb hby d8_34) rfl (flt hc34_3).1 k_) ?_
    refine GoH.st (pc' := 39) (S' := [(.int x1), (.int ac)]) (fun t_ k_ => XS.iload X2.here hx rfl (hb hby d8_37) rfl k_) ?_
    refine GoH.st (pc' := 41) (S' := [(.int (57 : Int32)), (.int x1), (.int ac)]) (fun t_ k_ => XS.bipush X2.here hx rfl (hb hby d8_39) k_) ?_
    by_cases hc41_4 : (57 : Int32) < x1
    · refine GoH.st (pc' := 48) (S' := [(.int ac)]) (fun t_ k_ => XS.icmpYes X2.here hx rfl (pc0 := 41) (pc' := 48) rfl (hb hby d8_41) rfl (tlt hc41_4).2.2.1 (by decide) (by decide) k_) ?_
      refine GoH.st (pc' := 49) (S' := [(.int (0 : Int32)), (.int ac)]) (fun t_ k_ => XS.iconst X2.here hx rfl (hb hby d8_48) k_) ?_
      refine GoH.st (pc' := 50) (S' := [(.int (ac &&& (0 : Int32)))]) (fun t_ k_ => XS.iand X2.here hx rfl (hb hby d8_49) rfl k_) ?_
      refine GoH.st (pc' := 51) (S' := []) (fun t_ k_ => XS.istoreN X2.here hx rfl (hb hby d8_50) rfl (l' := #[.val (.ref a1), .val (.int p1), .val (.int p2), .val (.int (ac &&& (0 : Int32))), .val (.int (1 : Int32)), .val (.int x1)]) rfl k_) ?_
      refine GoH.st (pc' := 54) (S' := []) (fun t_ k_ => XS.iinc X2.here hx rfl (hb hby d8_51) rfl (l' := #[.val (.ref a1), .val (.int p1), .val (.int p2), .val (.int (ac &&& (0 : Int32))), .val (.int ((1 : Int32) + (1 : Int32))), .val (.int x1)]) rfl k_) ?_
      rw [show ((1 : Int32) + (1 : Int32)) = (2 : Int32) from by decide]
      refine GoH.st (pc' := 12) (S' := []) (fun t_ k_ => XS.goto X2.here hx rfl (pc0 := 54) (pc' := 12) rfl (hb hby d8_54) (by decide) (by decide) k_) ?_
      exact sgare2_2 a1 p1 p2 fm gC x0 x1 (ac &&& (0 : Int32)) ss O0 Z0 K0 C1 bd0 bd1 (own_and hac (own_dgB hc41_4)) (Stand.up X2 (by decide) (by decide)) hx hZ hw hby hml hown hnm hret hlk e2 hs0 CR hS hk N2
    · refine GoH.st (pc' := 44) (S' := [(.int ac)]) (fun t_ k_ => XS.icmpNo X2.here hx rfl (hb hby d8_41) rfl (flt hc41_4).2.2.1 k_) ?_
      refine GoH.st (pc' := 45) (S' := [(.int (1 : Int32)), (.int ac)]) (fun t_ k_ => XS.iconst X2.here hx rfl (hb hby d8_44) k_) ?_
      refine GoH.st (pc' := 49) (S' := [(.int (1 : Int32)), (.int ac)]) (fun t_ k_ => XS.goto X2.here hx rfl (pc0 := 45) (pc' := 49) rfl (hb hby d8_45) (by decide) (by decide) k_) ?_
      refine GoH.st (pc' := 50) (S' := [(.int (ac &&& (1 : Int32)))]) (fun t_ k_ => XS.iand X2.here hx rfl (hb hby d8_49) rfl k_) ?_
      refine GoH.st (pc' := 51) (S' := []) (fun t_ k_ => XS.istoreN X2.here hx rfl (hb hby d8_50) rfl (l' := #[.val (.ref a1), .val (.int p1), .val (.int p2), .val (.int (ac &&& (1 : Int32))), .val (.int (1 : Int32)), .val (.int x1)]) rfl k_) ?_
      refine GoH.st (pc' := 54) (S' := []) (fun t_ k_ => XS.iinc X2.here hx rfl (hb hby d8_51) rfl (l' := #[.val (.ref a1), .val (.int p1), .val (.int p2), .val (.int (ac &&& (1 : Int32))), .val (.int ((1 : Int32) + (1 : Int32))), .val (.int x1)]) rfl k_) ?_
      rw [show ((1 : Int32) + (1 : Int32)) = (2 : Int32) from by decide]
      refine GoH.st (pc' := 12) (S' := []) (fun t_ k_ => XS.goto X2.here hx rfl (pc0 := 54) (pc' := 12) rfl (hb hby d8_54) (by decide) (by decide) k_) ?_
      exact sgare2_2 a1 p1 p2 fm gC x0 x1 (ac &&& (1 : Int32)) ss O0 Z0 K0 C1 bd0 bd1 (own_and hac (own_dgC hc34_3 hc41_4)) (Stand.up X2 (by decide) (by decide)) hx hZ hw hby hml hown hnm hret hlk e2 hs0 CR hS hk N2
theorem sgare2_0 {Z : State} {n0 : Nat} {h0 hh : Heap} (a1 : Addr) (p1 p2 : Int32) (fm : Value) (gC : Int32) (x0 : Int32) (x1 : Int32) (ac : Int32) (ss : own_ST Z gC fm) (O0 : Old Z n0 hh) (Z0 : n0 ≤ hh.size) (K0 : Keep h0 hh []) (C1 : own_CS2 Z hh a1 x0 x1) (bd0 : own_bd x0) (bd1 : own_bd x1) (hac : (1 : Int32) = ac) :
    SegH Z n0 h0 hh roomare2 2 24 prog_5_method_3_code 6 "pechat/card/Digits" "are" (some .boolean) (Qare2 Z x0 x1 p1 p2 h0 n0) 12 #[.val (.ref a1), .val (.int p1), .val (.int p2), .val (.int ac), .val (.int (0 : Int32)), .unset] [] := by
  intro p l e s m args below meth c T0 locs a0 k0 vm0 X0 hx hZ hw hby hml hown hnm hret hlk e0 hs0 CR hS hk N0
  refine GoH.st (pc' := 14) (S' := [(.int (0 : Int32))]) (fun t_ k_ => XS.iload X0.here hx rfl (hb hby d8_12) rfl k_) ?_
  refine GoH.st (pc' := 15) (S' := [(.ref a1), (.int (0 : Int32))]) (fun t_ k_ => XS.aloadN X0.here hx rfl (hb hby d8_14) rfl rfl k_) ?_
  obtain ⟨cq1, kq1, q1a, q1b, q1c⟩ := isOf hZ e0 C1.exa
  obtain ⟨_, _, ⟨T1, L1, k1, n1⟩, -, X1, ⟨Lc1, hQ1, l1, y1, z1⟩, st1⟩ := X0.virtualBack hx (y := (⟨"java/lang/String", "length", "()I"⟩ : MethodName)) (z := (⟨"java/lang/String", "length", "()I"⟩ : MethodName)) hown (mvT hZ (wd hw 45 rfl)) (mvT hZ (wd hw 46 rfl)) (notFace_of_selects (args := #[]) (mvT hZ (wd hw 48 rfl))) (mvT hZ (wd hw 48 rfl)) (mvT hZ (wd hw 47 rfl)) (by decide) (backOf (W := 1) (rmlen2C l Z a0 hw [] a1 fm gC x0 x1 hh n0 Z0 ss O0 C1 bd0 bd1) hZ (wd hw 49 rfl) (wd hw 7 rfl) (by decide) (by decide)) q1a q1c (g := (mkF m 15 #[.val (.ref a1), .val (.int p1), .val (.int p2), .val (.int ac), .val (.int (0 : Int32)), .unset] [(.ref a1), (.int (0 : Int32))])) rfl (by rw [hml]; rfl) (Steps.refl _) (argsL := []) (rest := [(.int (0 : Int32))]) (lenOf pd_5 rfl) rfl (by show 2 * 0 + _ ≤ _; exact Nat.le_of_eq rfl) (hb hby d8_15) (fun _ _ => ⟨rfl, e0, (by decide : 2 + 0 ≤ _), (by decide : 24 + 0 ≤ _)⟩)
  dsimp only [Pt.U, Pt.locs, Pt.cells, Pt.slots] at X1 l1 y1 z1 st1 hQ1
  subst l1 y1 z1
  obtain ⟨rfl, N1q, e1⟩ := hQ1
  have N1 := Fr.app N0 N1q
  refine GoH.tr (pc' := 18) (S' := [(.int (2 : Int32)), (.int (0 : Int32))]) st1 ?_
  refine GoH.st (pc' := 21) (S' := []) (fun t_ k_ => XS.icmpNo X1.here hx rfl (hb hby d8_18) rfl (tlt (by decide : ((0 : Int32) < (2 : Int32)))).2.1 k_) ?_
  refine GoH.st (pc' := 22) (S' := [(.ref a1)]) (fun t_ k_ => XS.aloadN X1.here hx rfl (hb hby d8_21) rfl rfl k_) ?_
  refine GoH.st (pc' := 24) (S' := [(.int (0 : Int32)), (.ref a1)]) (fun t_ k_ => XS.iload X1.here hx rfl (hb hby d8_22) rfl k_) ?_
  obtain ⟨cq2, kq2, q2a, q2b, q2c⟩ := isOf hZ e1 C1.exa
  obtain ⟨_, _, ⟨T2, L2, k2, n2⟩, -, X2, ⟨Lc2, hQ2, l2, y2, z2⟩, st2⟩ := X1.virtualBack hx (y := (⟨"java/lang/String", "charAt", "(I)C"⟩ : MethodName)) (z := (⟨"java/lang/String", "charAt", "(I)C"⟩ : MethodName)) hown (mvT hZ (wd hw 55 rfl)) (mvT hZ (wd hw 56 rfl)) (notFace_of_selects (args := #[]) (mvT hZ (wd hw 58 rfl))) (mvT hZ (wd hw 58 rfl)) (mvT hZ (wd hw 57 rfl)) (by decide) (backOf (W := 0) (rmca2_0C l Z a0 hw [] a1 fm gC x0 x1 hh n0 Z0 ss O0 C1 bd0 bd1) hZ (wd hw 59 rfl) (wd hw 7 rfl) (by decide) (by decide)) q2a q2c (g := (mkF m 24 #[.val (.ref a1), .val (.int p1), .val (.int p2), .val (.int ac), .val (.int (0 : Int32)), .unset] [(.int (0 : Int32)), (.ref a1)])) rfl (by rw [hml]; rfl) (Steps.refl _) (argsL := [(.int (0 : Int32))]) (rest := []) (lenOf pd_13 rfl) rfl (by show 2 * 0 + _ ≤ _; exact Nat.le_of_eq rfl) (hb hby d8_24) (fun _ _ => ⟨rfl, e1, (by decide : 2 + 0 ≤ _), (by decide : 24 + 0 ≤ _)⟩)
  dsimp only [Pt.U, Pt.locs, Pt.cells, Pt.slots] at X2 l2 y2 z2 st2 hQ2
  subst l2 y2 z2
  obtain ⟨rfl, N2q, e2⟩ := hQ2
  have N2 := Fr.app N1 N2q
  refine GoH.tr (pc' := 27) (S' := [(.int x0)]) st2 ?_
  refine GoH.st (pc' := 29) (S' := []) (fun t_ k_ => XS.istore X2.here hx rfl (hb hby d8_27) rfl (l' := #[.val (.ref a1), .val (.int p1), .val (.int p2), .val (.int ac), .val (.int (0 : Int32)), .val (.int x0)]) rfl k_) ?_
  refine GoH.st (pc' := 30) (S' := [(.int ac)]) (fun t_ k_ => XS.iloadN X2.here hx rfl (hb hby d8_29) rfl k_) ?_
  refine GoH.st (pc' := 32) (S' := [(.int x0), (.int ac)]) (fun t_ k_ => XS.iload X2.here hx rfl (hb hby d8_30) rfl k_) ?_
  refine GoH.st (pc' := 34) (S' := [(.int (48 : Int32)), (.int x0), (.int ac)]) (fun t_ k_ => XS.bipush X2.here hx rfl (hb hby d8_32) k_) ?_
  by_cases hc34_3 : x0 < (48 : Int32)
  · refine GoH.st (pc' := 48) (S' := [(.int ac)]) (fun t_ k_ => XS.icmpYes X2.here hx rfl (pc0 := 34) (pc' := 48) rfl (hb hby d8_34) rfl (tlt hc34_3).1 (by decide) (by decide) k_) ?_
    refine GoH.st (pc' := 49) (S' := [(.int (0 : Int32)), (.int ac)]) (fun t_ k_ => XS.iconst X2.here hx rfl (hb hby d8_48) k_) ?_
    refine GoH.st (pc' := 50) (S' := [(.int (ac &&& (0 : Int32)))]) (fun t_ k_ => XS.iand X2.here hx rfl (hb hby d8_49) rfl k_) ?_
    refine GoH.st (pc' := 51) (S' := []) (fun t_ k_ => XS.istoreN X2.here hx rfl (hb hby d8_50) rfl (l' := #[.val (.ref a1), .val (.int p1), .val (.int p2), .val (.int (ac &&& (0 : Int32))), .val (.int (0 : Int32)), .val (.int x0)]) rfl k_) ?_
    refine GoH.st (pc' := 54) (S' := []) (fun t_ k_ => XS.iinc X2.here hx rfl (hb hby d8_51) rfl (l' := #[.val (.ref a1), .val (.int p1), .val (.int p2), .val (.int (ac &&& (0 : Int32))), .val (.int ((0 : Int32) + (1 : Int32))), .val (.int x0)]) rfl k_) ?_
    rw [show ((0 : Int32) + (1 : Int32)) = (1 : Int32) from by decide]
    refine GoH.st (pc' := 12) (S' := []) (fun t_ k_ => XS.goto X2.here hx rfl (pc0 := 54) (pc' := 12) rfl (hb hby d8_54) (by decide) (by decide) k_) ?_
    exact sgare2_1 a1 p1 p2 fm gC x0 x1 (ac &&& (0 : Int32)) ss O0 Z0 K0 C1 bd0 bd1 (own_and hac (own_dgA hc34_3)) (Stand.up X2 (by decide) (by decide)) hx hZ hw hby hml hown hnm hret hlk e2 hs0 CR hS hk N2
  · refine GoH.st (pc' := 37) (S' := [(.int ac)]) (fun t_ k_ => XS.icmpNo X2.here hx rfl (hb hby d8_34) rfl (flt hc34_3).1 k_) ?_
    refine GoH.st (pc' := 39) (S' := [(.int x0), (.int ac)]) (fun t_ k_ => XS.iload X2.here hx rfl (hb hby d8_37) rfl k_) ?_
    refine GoH.st (pc' := 41) (S' := [(.int (57 : Int32)), (.int x0), (.int ac)]) (fun t_ k_ => XS.bipush X2.here hx rfl (hb hby d8_39) k_) ?_
    by_cases hc41_4 : (57 : Int32) < x0
    · refine GoH.st (pc' := 48) (S' := [(.int ac)]) (fun t_ k_ => XS.icmpYes X2.here hx rfl (pc0 := 41) (pc' := 48) rfl (hb hby d8_41) rfl (tlt hc41_4).2.2.1 (by decide) (by decide) k_) ?_
      refine GoH.st (pc' := 49) (S' := [(.int (0 : Int32)), (.int ac)]) (fun t_ k_ => XS.iconst X2.here hx rfl (hb hby d8_48) k_) ?_
      refine GoH.st (pc' := 50) (S' := [(.int (ac &&& (0 : Int32)))]) (fun t_ k_ => XS.iand X2.here hx rfl (hb hby d8_49) rfl k_) ?_
      refine GoH.st (pc' := 51) (S' := []) (fun t_ k_ => XS.istoreN X2.here hx rfl (hb hby d8_50) rfl (l' := #[.val (.ref a1), .val (.int p1), .val (.int p2), .val (.int (ac &&& (0 : Int32))), .val (.int (0 : Int32)), .val (.int x0)]) rfl k_) ?_
      refine GoH.st (pc' := 54) (S' := []) (fun t_ k_ => XS.iinc X2.here hx rfl (hb hby d8_51) rfl (l' := #[.val (.ref a1), .val (.int p1), .val (.int p2), .val (.int (ac &&& (0 : Int32))), .val (.int ((0 : Int32) + (1 : Int32))), .val (.int x0)]) rfl k_) ?_
      rw [show ((0 : Int32) + (1 : Int32)) = (1 : Int32) from by decide]
      refine GoH.st (pc' := 12) (S' := []) (fun t_ k_ => XS.goto X2.here hx rfl (pc0 := 54) (pc' := 12) rfl (hb hby d8_54) (by decide) (by decide) k_) ?_
      exact sgare2_1 a1 p1 p2 fm gC x0 x1 (ac &&& (0 : Int32)) ss O0 Z0 K0 C1 bd0 bd1 (own_and hac (own_dgB hc41_4)) (Stand.up X2 (by decide) (by decide)) hx hZ hw hby hml hown hnm hret hlk e2 hs0 CR hS hk N2
    · refine GoH.st (pc' := 44) (S' := [(.int ac)]) (fun t_ k_ => XS.icmpNo X2.here hx rfl (hb hby d8_41) rfl (flt hc41_4).2.2.1 k_) ?_
      refine GoH.st (pc' := 45) (S' := [(.int (1 : Int32)), (.int ac)]) (fun t_ k_ => XS.iconst X2.here hx rfl (hb hby d8_44) k_) ?_
      refine GoH.st (pc' := 49) (S' := [(.int (1 : Int32)), (.int ac)]) (fun t_ k_ => XS.goto X2.here hx rfl (pc0 := 45) (pc' := 49) rfl (hb hby d8_45) (by decide) (by decide) k_) ?_
      refine GoH.st (pc' := 50) (S' := [(.int (ac &&& (1 : Int32)))]) (fun t_ k_ => XS.iand X2.here hx rfl (hb hby d8_49) rfl k_) ?_
      refine GoH.st (pc' := 51) (S' := []) (fun t_ k_ => XS.istoreN X2.here hx rfl (hb hby d8_50) rfl (l' := #[.val (.ref a1), .val (.int p1), .val (.int p2), .val (.int (ac &&& (1 : Int32))), .val (.int (0 : Int32)), .val (.int x0)]) rfl k_) ?_
      refine GoH.st (pc' := 54) (S' := []) (fun t_ k_ => XS.iinc X2.here hx rfl (hb hby d8_51) rfl (l' := #[.val (.ref a1), .val (.int p1), .val (.int p2), .val (.int (ac &&& (1 : Int32))), .val (.int ((0 : Int32) + (1 : Int32))), .val (.int x0)]) rfl k_) ?_
      rw [show ((0 : Int32) + (1 : Int32)) = (1 : Int32) from by decide]
      refine GoH.st (pc' := 12) (S' := []) (fun t_ k_ => XS.goto X2.here hx rfl (pc0 := 54) (pc' := 12) rfl (hb hby d8_54) (by decide) (by decide) k_) ?_
      exact sgare2_1 a1 p1 p2 fm gC x0 x1 (ac &&& (1 : Int32)) ss O0 Z0 K0 C1 bd0 bd1 (own_and hac (own_dgC hc34_3 hc41_4)) (Stand.up X2 (by decide) (by decide)) hx hZ hw hby hml hown hnm hret hlk e2 hs0 CR hS hk N2
theorem rmare2 (l : Launch) (Z : State) (a0 : Array Value) (hw : ∀ d ∈ tables_1, d.before a0 Z = true) (ws : List Jvm.Cond) (a1 : Addr) (p1 p2 : Int32) (fm : Value) (gC : Int32) (x0 : Int32) (x1 : Int32) (h0 : Heap) (n0 : Nat) (Z0 : n0 ≤ h0.size) (ss : own_ST Z gC fm) (O0 : Old Z n0 h0) (C1 : own_CS2 Z h0 a1 x0 x1) (bd0 : own_bd x0) (bd1 : own_bd x1) :
    OMetH l (⟨"pechat/card/Digits", "are", "(Ljava/lang/String;II)Z"⟩ : MethodName) prog_5_method_3_code 6 (some .boolean) ws roomare2 #[(.ref a1), (.int p1), (.int p2)] Z h0 (Qare2 Z x0 x1 p1 p2 h0 n0) := by
  refine own_metH (Q := (Qare2 Z x0 x1 p1 p2 h0 n0)) (L0 := #[.val (.ref a1), .val (.int p1), .val (.int p2), .unset, .unset, .unset]) (plainFor_of_name pn_4) (fun m => by first | (simp [entryFrame, mkF, argsToLocals, Value.category]; done) | rfl) ?_
  intro p e s m below meth c T0 X0 hx hby hml hown hnm hret hlk hZ e0 hs0 CR hS hk
  have N0 := Fr.nil n0
  have K0 := Keep.refl h0 []
  refine GoH.st (pc' := 1) (S' := [(.ref a1)]) (fun t_ k_ => XS.aloadN X0.here hx rfl (hb hby d8_0) rfl rfl k_) ?_
  obtain ⟨a1_, T1, h1, k1, X1, e1, E1, hS1, hk1, hZ1, ho1, CR1, -, st1⟩ := ldcOH X0 hx hZ hown (wd hw 38 rfl) (own_wS hw) e0 hS hk (own_EW hw) CR.1 (g := (mkF m 1 #[.val (.ref a1), .val (.int p1), .val (.int p2), .unset, .unset, .unset] [(.ref a1)])) rfl (hb hby d8_1) (n := 20) (by decide) (by decide) (by decide) (by decide)
  replace CR := CR.trans CR1
  replace Z0 := Nat.le_trans Z0 E1.1
  replace O0 := O0.ext E1
  replace C1 := C1.ext E1
  replace K0 := K0.ext E1
  replace hZ := hZ1
  replace hown := ho1
  replace hS := hS1
  replace hk := hk1
  refine GoH.st (pc' := 3) (S' := [(.ref a1_), (.ref a1)]) st1 ?_
  obtain ⟨_, _, ⟨T2, L2, k2, n2⟩, -, X2, ⟨Lc2, hQ2, l2, y2, z2⟩, st2⟩ := Jvm.LawKit.callS X1 hx (y := (⟨"java/util/Objects", "requireNonNull", "(Ljava/lang/Object;Ljava/lang/String;)Ljava/lang/Object;"⟩ : MethodName)) hown (mvT hZ (wd hw 41 rfl)) (mvT hZ (wd hw 42 rfl)) (mvT hZ (wd hw 43 rfl)) (mvT hZ (wd hw 44 rfl)) (by decide) (backOf (W := 0) (rm9 l Z a0 hw [] a1 a1_ h1 n0 Z0) hZ (wd hw 44 rfl) (wd hw 43 rfl) (by decide) (by decide)) (g := (mkF m 3 #[.val (.ref a1), .val (.int p1), .val (.int p2), .unset, .unset, .unset] [(.ref a1_), (.ref a1)])) rfl (by rw [hml]; rfl) (argsL := [(.ref a1), (.ref a1_)]) (rest := []) (lenOf pd_6 rfl) rfl (by show 2 * 0 + _ ≤ _; exact Nat.le_of_eq rfl) (hb hby d8_3) (fun _ _ => ⟨rfl, e1, (by decide : 2 + 0 ≤ _), (by decide : 24 + 0 ≤ _)⟩)
  dsimp only [Pt.U, Pt.locs, Pt.cells, Pt.slots] at X2 l2 y2 z2 st2 hQ2
  subst l2 y2 z2
  obtain ⟨rfl, N2q, e2⟩ := hQ2
  have N2 := Fr.app N0 N2q
  refine GoH.st (pc' := 6) (S' := [(.ref a1)]) st2 ?_
  refine GoH.st (pc' := 7) (S' := []) (fun t_ k_ => XS.pop X2.here hx rfl (hb hby d8_6) rfl rfl k_) ?_
  refine GoH.st (pc' := 8) (S' := [(.int (1 : Int32))]) (fun t_ k_ => XS.iconst X2.here hx rfl (hb hby d8_7) k_) ?_
  refine GoH.st (pc' := 9) (S' := []) (fun t_ k_ => XS.istoreN X2.here hx rfl (hb hby d8_8) rfl (l' := #[.val (.ref a1), .val (.int p1), .val (.int p2), .val (.int (1 : Int32)), .unset, .unset]) rfl k_) ?_
  refine GoH.st (pc' := 10) (S' := [(.int (0 : Int32))]) (fun t_ k_ => XS.iconst X2.here hx rfl (hb hby d8_9) k_) ?_
  refine GoH.st (pc' := 12) (S' := []) (fun t_ k_ => XS.istore X2.here hx rfl (hb hby d8_10) rfl (l' := #[.val (.ref a1), .val (.int p1), .val (.int p2), .val (.int (1 : Int32)), .val (.int (0 : Int32)), .unset]) rfl k_) ?_
  exact sgare2_0 a1 p1 p2 fm gC x0 x1 (1 : Int32) ss O0 Z0 K0 C1 bd0 bd1 rfl (Stand.up X2 (by decide) (by decide)) hx hZ hw hby hml hown hnm hret hlk e2 hs0 CR hS hk N2
def Qare3 (Z : State) (x0 : Int32) (x1 : Int32) (x2 : Int32) (p1 : Int32) (p2 : Int32) (h0 : Heap) (n0 : Nat) (v : Option Value) (h : Heap) (L : List Loc) : Prop := v = some (.int (own_are ((((1 : Int32) &&& own_dg x0) &&& own_dg x1) &&& own_dg x2) (3 : Int32) p1 p2)) ∧ Fr n0 L ∧ Keep h0 h []

def Qlen3L (Z : State) (a1 : Addr) (t1 : Addr) (k1 : ClassId) (gC : Int32) (x0 : Int32) (x1 : Int32) (x2 : Int32) (h0 : Heap) (n0 : Nat) (v : Option Value) (h : Heap) (L : List Loc) : Prop := v = some (.int 3) ∧ Fr n0 L ∧ h = h0
def roomlen3L : Room := { frames := 1, cells := 0, slots := 0, locals := 13 }
theorem rmlen3L (l : Launch) (Z : State) (a0 : Array Value) (hw : ∀ d ∈ tables_1, d.before a0 Z = true) (ws : List Jvm.Cond) (a1 : Addr) (t1 : Addr) (k1 : ClassId) (gC : Int32) (x0 : Int32) (x1 : Int32) (x2 : Int32) (h0 : Heap) (n0 : Nat) (Z0 : n0 ≤ h0.size) (SC : Sta Z Z.heap "java/lang/String" "COMPACT_STRINGS" "Z" (.int gC)) (PC : ¬ (gC = (0 : Int32))) (O0 : Old Z n0 h0) (E_a1 : Exa Z h0 a1 "java/lang/String") (Fc_a1 : Fld Z h0 a1 "java/lang/String" "coder" "B" (.int (0 : Int32))) (Fv_a1 : Fld Z h0 a1 "java/lang/String" "value" "[B" (.ref t1)) (V_t1 : Arv Z h0 t1 k1 .byte (3 : Int32) [(.int (x0.toInt8.toInt32)), (.int (x1.toInt8.toInt32)), (.int (x2.toInt8.toInt32))] (.int (0 : Int32))) :
    OMet l (⟨"java/lang/String", "length", "()I"⟩ : MethodName) jdk_42_method_54_code 1 (some .int) ws roomlen3L #[(.ref a1)] Z h0 (Qlen3L Z a1 t1 k1 gC x0 x1 x2 h0 n0) := by
  refine own_met (Q := (Qlen3L Z a1 t1 k1 gC x0 x1 x2 h0 n0)) (L0 := #[.val (.ref a1)]) (plainFor_of_name pn_0) (fun m => by first | (simp [entryFrame, mkF, argsToLocals, Value.category]; done) | rfl) ?_
  intro p e s m below meth c T0 X0 hx hby hml hown hnm hret hlk hZ e0
  have N0 := Fr.nil n0
  refine Go.st (pc' := 1) (S' := [(.ref a1)]) (fun t_ k_ => XS.aloadN X0.here hx rfl (hb hby d10_0) rfl rfl k_) ?_
  obtain ⟨T1, X1, e1, st1⟩ := getF X0 hx hZ hown (host := "") (Or.inl (wd hw 27 rfl)) Via.refl e0 Fv_a1 (g := (mkF m 1 #[.val (.ref a1)] [(.ref a1)])) rfl rfl (hb hby d10_1)
  refine Go.st (pc' := 4) (S' := [(.ref t1)]) st1 ?_
  obtain ⟨cl2, Ar2, -, q2a, q2b, -, -⟩ := id V_t1
  refine Go.st (pc' := 5) (S' := [(.int (3 : Int32))]) (fun t_ k_ => own_len X1 hx hZ e1 Ar2 q2a q2b (g := (mkF m 4 #[.val (.ref a1)] [(.ref t1)])) rfl rfl (hb hby d10_4) t_ k_) ?_
  refine Go.st (pc' := 6) (S' := [(.ref a1), (.int (3 : Int32))]) (fun t_ k_ => XS.aloadN X1.here hx rfl (hb hby d10_5) rfl rfl k_) ?_
  obtain ⟨cq3, kq3, q3a, q3b, q3c⟩ := isOf hZ e1 E_a1
  obtain ⟨_, _, ⟨T3, L3, k3, n3⟩, -, X3, ⟨Lc3, hQ3, l3, y3, z3⟩, st3⟩ := X1.virtualBack hx (y := (⟨"java/lang/String", "coder", "()B"⟩ : MethodName)) (z := (⟨"java/lang/String", "coder", "()B"⟩ : MethodName)) hown (mvT hZ (wd hw 50 rfl)) (mvT hZ (wd hw 51 rfl)) (notFace_of_selects (args := #[]) (mvT hZ (wd hw 53 rfl))) (mvT hZ (wd hw 53 rfl)) (mvT hZ (wd hw 52 rfl)) (by decide) (backOf (W := 1) (rm11 l Z a0 hw [] a1 gC h0 n0 Z0 SC PC O0 Fc_a1) hZ (wd hw 54 rfl) (wd hw 7 rfl) (by decide) (by decide)) q3a q3c (g := (mkF m 6 #[.val (.ref a1)] [(.ref a1), (.int (3 : Int32))])) rfl (by rw [hml]; rfl) (Steps.refl _) (argsL := []) (rest := [(.int (3 : Int32))]) (lenOf pd_4 rfl) rfl (by show 2 * 0 + _ ≤ _; exact Nat.le_of_eq rfl) (hb hby d10_6) (fun _ _ => ⟨rfl, e1, (by decide : 0 + 0 ≤ _), (by decide : 0 + 0 ≤ _)⟩)
  dsimp only [Pt.U, Pt.locs, Pt.cells, Pt.slots] at X3 l3 y3 z3 st3 hQ3
  subst l3 y3 z3
  obtain ⟨rfl, N3q, e3⟩ := hQ3
  have N3 := Fr.app N0 N3q
  refine Go.tr (pc' := 9) (S' := [(.int (0 : Int32)), (.int (3 : Int32))]) st3 ?_
  refine Go.st (pc' := 10) (S' := [(.int ((3 : Int32) >>> ((0 : Int32) &&& 31)))]) (fun t_ k_ => XS.ishr X3.here hx rfl (hb hby d10_9) rfl k_) ?_
  rw [show ((3 : Int32) >>> ((0 : Int32) &&& 31)) = (3 : Int32) from by decide]
  exact Go.retO X3 hx hlk hret rfl (by simp [FieldType.isReference, Value.isRef]) (hb hby d10_10) (by decide) (by decide) (by rw [e3]; exact ⟨rfl, N3, rfl⟩)

def Qlen3U (Z : State) (a1 : Addr) (t1 : Addr) (k1 : ClassId) (gC : Int32) (x0 : Int32) (x1 : Int32) (x2 : Int32) (h0 : Heap) (n0 : Nat) (v : Option Value) (h : Heap) (L : List Loc) : Prop := v = some (.int 3) ∧ Fr n0 L ∧ h = h0
def roomlen3U : Room := { frames := 1, cells := 0, slots := 0, locals := 13 }
theorem rmlen3U (l : Launch) (Z : State) (a0 : Array Value) (hw : ∀ d ∈ tables_1, d.before a0 Z = true) (ws : List Jvm.Cond) (a1 : Addr) (t1 : Addr) (k1 : ClassId) (gC : Int32) (x0 : Int32) (x1 : Int32) (x2 : Int32) (h0 : Heap) (n0 : Nat) (Z0 : n0 ≤ h0.size) (SC : Sta Z Z.heap "java/lang/String" "COMPACT_STRINGS" "Z" (.int gC)) (PC : ¬ (gC = (0 : Int32))) (O0 : Old Z n0 h0) (E_a1 : Exa Z h0 a1 "java/lang/String") (Fc_a1 : Fld Z h0 a1 "java/lang/String" "coder" "B" (.int (1 : Int32))) (Fv_a1 : Fld Z h0 a1 "java/lang/String" "value" "[B" (.ref t1)) (V_t1 : Arv Z h0 t1 k1 .byte (6 : Int32) [(.int (own_lo x0)), (.int (own_hi x0)), (.int (own_lo x1)), (.int (own_hi x1)), (.int (own_lo x2)), (.int (own_hi x2))] (.int (0 : Int32))) :
    OMet l (⟨"java/lang/String", "length", "()I"⟩ : MethodName) jdk_42_method_54_code 1 (some .int) ws roomlen3U #[(.ref a1)] Z h0 (Qlen3U Z a1 t1 k1 gC x0 x1 x2 h0 n0) := by
  refine own_met (Q := (Qlen3U Z a1 t1 k1 gC x0 x1 x2 h0 n0)) (L0 := #[.val (.ref a1)]) (plainFor_of_name pn_0) (fun m => by first | (simp [entryFrame, mkF, argsToLocals, Value.category]; done) | rfl) ?_
  intro p e s m below meth c T0 X0 hx hby hml hown hnm hret hlk hZ e0
  have N0 := Fr.nil n0
  refine Go.st (pc' := 1) (S' := [(.ref a1)]) (fun t_ k_ => XS.aloadN X0.here hx rfl (hb hby d10_0) rfl rfl k_) ?_
  obtain ⟨T1, X1, e1, st1⟩ := getF X0 hx hZ hown (host := "") (Or.inl (wd hw 27 rfl)) Via.refl e0 Fv_a1 (g := (mkF m 1 #[.val (.ref a1)] [(.ref a1)])) rfl rfl (hb hby d10_1)
  refine Go.st (pc' := 4) (S' := [(.ref t1)]) st1 ?_
  obtain ⟨cl2, Ar2, -, q2a, q2b, -, -⟩ := id V_t1
  refine Go.st (pc' := 5) (S' := [(.int (6 : Int32))]) (fun t_ k_ => own_len X1 hx hZ e1 Ar2 q2a q2b (g := (mkF m 4 #[.val (.ref a1)] [(.ref t1)])) rfl rfl (hb hby d10_4) t_ k_) ?_
  refine Go.st (pc' := 6) (S' := [(.ref a1), (.int (6 : Int32))]) (fun t_ k_ => XS.aloadN X1.here hx rfl (hb hby d10_5) rfl rfl k_) ?_
  obtain ⟨cq3, kq3, q3a, q3b, q3c⟩ := isOf hZ e1 E_a1
  obtain ⟨_, _, ⟨T3, L3, k3, n3⟩, -, X3, ⟨Lc3, hQ3, l3, y3, z3⟩, st3⟩ := X1.virtualBack hx (y := (⟨"java/lang/String", "coder", "()B"⟩ : MethodName)) (z := (⟨"java/lang/String", "coder", "()B"⟩ : MethodName)) hown (mvT hZ (wd hw 50 rfl)) (mvT hZ (wd hw 51 rfl)) (notFace_of_selects (args := #[]) (mvT hZ (wd hw 53 rfl))) (mvT hZ (wd hw 53 rfl)) (mvT hZ (wd hw 52 rfl)) (by decide) (backOf (W := 1) (rmcoderU l Z a0 hw [] a1 gC h0 n0 Z0 SC PC O0 Fc_a1) hZ (wd hw 54 rfl) (wd hw 7 rfl) (by decide) (by decide)) q3a q3c (g := (mkF m 6 #[.val (.ref a1)] [(.ref a1), (.int (6 : Int32))])) rfl (by rw [hml]; rfl) (Steps.refl _) (argsL := []) (rest := [(.int (6 : Int32))]) (lenOf pd_4 rfl) rfl (by show 2 * 0 + _ ≤ _; exact Nat.le_of_eq rfl) (hb hby d10_6) (fun _ _ => ⟨rfl, e1, (by decide : 0 + 0 ≤ _), (by decide : 0 + 0 ≤ _)⟩)
  dsimp only [Pt.U, Pt.locs, Pt.cells, Pt.slots] at X3 l3 y3 z3 st3 hQ3
  subst l3 y3 z3
  obtain ⟨rfl, N3q, e3⟩ := hQ3
  have N3 := Fr.app N0 N3q
  refine Go.tr (pc' := 9) (S' := [(.int (1 : Int32)), (.int (6 : Int32))]) st3 ?_
  refine Go.st (pc' := 10) (S' := [(.int ((6 : Int32) >>> ((1 : Int32) &&& 31)))]) (fun t_ k_ => XS.ishr X3.here hx rfl (hb hby d10_9) rfl k_) ?_
  rw [show ((6 : Int32) >>> ((1 : Int32) &&& 31)) = (3 : Int32) from by decide]
  exact Go.retO X3 hx hlk hret rfl (by simp [FieldType.isReference, Value.isRef]) (hb hby d10_10) (by decide) (by decide) (by rw [e3]; exact ⟨rfl, N3, rfl⟩)
def Qlen3C (Z : State)  (h0 : Heap) (n0 : Nat) (v : Option Value) (h : Heap) (L : List Loc) : Prop := v = some (.int 3) ∧ Fr n0 L ∧ h = h0
theorem rmlen3C (l : Launch) (Z : State) (a0 : Array Value) (hw : ∀ d ∈ tables_1, d.before a0 Z = true) (ws : List Jvm.Cond) (a1 : Addr) (fm : Value) (gC : Int32) (x0 : Int32) (x1 : Int32) (x2 : Int32) (h0 : Heap) (n0 : Nat) (Z0 : n0 ≤ h0.size) (ss : own_ST Z gC fm) (O0 : Old Z n0 h0) (C1 : own_CS3 Z h0 a1 x0 x1 x2) (bd0 : own_bd x0) (bd1 : own_bd x1) (bd2 : own_bd x2) :
    OMet l (⟨"java/lang/String", "length", "()I"⟩ : MethodName) jdk_42_method_54_code 1 (some .int) ws roomlen3L #[(.ref a1)] Z h0 (Qlen3C Z  h0 n0) := by
  obtain ⟨SC, PC, hfm, SF, SD, SH, SL⟩ := id ss
  obtain ⟨E_a1, t1, k1, ⟨Fc, Fv, V1, la0, la1, la2, -⟩ | ⟨Fc, Fv, V1⟩⟩ := C1
  · exact rmlen3L l Z a0 hw ws a1 t1 k1 gC x0 x1 x2 h0 n0 Z0 SC PC O0 E_a1 Fc Fv V1
  · exact rmlen3U l Z a0 hw ws a1 t1 k1 gC x0 x1 x2 h0 n0 Z0 SC PC O0 E_a1 Fc Fv V1


def Qac3_2L (Z : State) (x2 : Int32) (h0 : Heap) (n0 : Nat) (v : Option Value) (h : Heap) (L : List Loc) : Prop := v = some (.int x2) ∧ Fr n0 L ∧ h = h0
def roomac3_2L : Room := { frames := 2, cells := 0, slots := 0, locals := 27 }
theorem rmac3_2L (l : Launch) (Z : State) (a0 : Array Value) (hw : ∀ d ∈ tables_1, d.before a0 Z = true) (ws : List Jvm.Cond) (t1 : Addr) (k1 : ClassId) (fm : Value) (x0 : Int32) (x1 : Int32) (x2 : Int32) (h0 : Heap) (n0 : Nat) (Z0 : n0 ≤ h0.size) (hfm : fm.isRef = true) (SF : Sta Z Z.heap "jdk/internal/util/Preconditions" "SIOOBE_FORMATTER" "Ljava/util/function/BiFunction;" fm) (O0 : Old Z n0 h0) (V_t1 : Arv Z h0 t1 k1 .byte (3 : Int32) [(.int (x0.toInt8.toInt32)), (.int (x1.toInt8.toInt32)), (.int (x2.toInt8.toInt32))] (.int (0 : Int32))) (bd0 : ¬ x0 < 0 ∧ ¬ (65535 : Int32) < x0) (bd1 : ¬ x1 < 0 ∧ ¬ (65535 : Int32) < x1) (bd2 : ¬ x2 < 0 ∧ ¬ (65535 : Int32) < x2) (la0 : ¬ (255 : Int32) < x0) (la1 : ¬ (255 : Int32) < x1) (la2 : ¬ (255 : Int32) < x2) :
    OMet l (⟨"java/lang/StringLatin1", "charAt", "([BI)C"⟩ : MethodName) jdk_43_method_2_code 2 (some .char) ws roomac3_2L #[(.ref t1), (.int (2 : Int32))] Z h0 (Qac3_2L Z x2 h0 n0) := by
  refine own_met (Q := (Qac3_2L Z x2 h0 n0)) (L0 := #[.val (.ref t1), .val (.int (2 : Int32))]) (plainFor_of_name pn_1) (fun m => by first | (simp [entryFrame, mkF, argsToLocals, Value.category]; done) | rfl) ?_
  intro p e s m below meth c T0 X0 hx hby hml hown hnm hret hlk hZ e0
  have N0 := Fr.nil n0
  refine Go.st (pc' := 1) (S' := [(.int (2 : Int32))]) (fun t_ k_ => XS.iloadN X0.here hx rfl (hb hby d14_0) rfl k_) ?_
  refine Go.st (pc' := 2) (S' := [(.ref t1), (.int (2 : Int32))]) (fun t_ k_ => XS.aloadN X0.here hx rfl (hb hby d14_1) rfl rfl k_) ?_
  obtain ⟨cl1, Ar1, -, q1a, q1b, -, -⟩ := id V_t1
  refine Go.st (pc' := 3) (S' := [(.int (3 : Int32)), (.int (2 : Int32))]) (fun t_ k_ => own_len X0 hx hZ e0 Ar1 q1a q1b (g := (mkF m 2 #[.val (.ref t1), .val (.int (2 : Int32))] [(.ref t1), (.int (2 : Int32))])) rfl rfl (hb hby d14_2) t_ k_) ?_
  obtain ⟨_, _, ⟨T2, L2, k2, n2⟩, -, X2, ⟨Lc2, hQ2, l2, y2, z2⟩, st2⟩ := Jvm.LawKit.callS X0 hx (y := (⟨"java/lang/String", "checkIndex", "(II)V"⟩ : MethodName)) hown (mvT hZ (wd hw 68 rfl)) (mvT hZ (wd hw 69 rfl)) (mvT hZ (wd hw 7 rfl)) (mvT hZ (wd hw 70 rfl)) (by decide) (backOf (W := 0) (rm15 l Z a0 hw [] 2 3 fm h0 n0 Z0 hfm SF O0 (by decide) (by decide)) hZ (wd hw 70 rfl) (wd hw 7 rfl) (by decide) (by decide)) (g := (mkF m 3 #[.val (.ref t1), .val (.int (2 : Int32))] [(.int (3 : Int32)), (.int (2 : Int32))])) rfl (by rw [hml]; rfl) (argsL := [(.int (2 : Int32)), (.int (3 : Int32))]) (rest := []) (lenOf pd_9 rfl) rfl (by show 2 * 0 + _ ≤ _; exact Nat.le_of_eq rfl) (hb hby d14_3) (fun _ _ => ⟨rfl, e0, (by decide : 0 + 0 ≤ _), (by decide : 0 + 0 ≤ _)⟩)
  dsimp only [Pt.U, Pt.locs, Pt.cells, Pt.slots] at X2 l2 y2 z2 st2 hQ2
  subst l2 y2 z2
  obtain ⟨rfl, N2q, e2⟩ := hQ2
  have N2 := Fr.app N0 N2q
  refine Go.st (pc' := 6) (S' := []) st2 ?_
  refine Go.st (pc' := 7) (S' := [(.ref t1)]) (fun t_ k_ => XS.aloadN X2.here hx rfl (hb hby d14_6) rfl rfl k_) ?_
  refine Go.st (pc' := 8) (S' := [(.int (2 : Int32)), (.ref t1)]) (fun t_ k_ => XS.iloadN X2.here hx rfl (hb hby d14_7) rfl k_) ?_
  obtain ⟨cl3, Ar3, -, q3a, q3b, q3c, q3d⟩ := id V_t1
  refine Go.st (pc' := 9) (S' := [(.int (x2.toInt8.toInt32))]) (fun t_ k_ => X2.baloadBytes hx (j := (2 : Int32)) (v := (.int (x2.toInt8.toInt32))) (by rw [e2]; exact Ar3.1) (State.isArrayOf_alike hZ.alike Ar3.2.1) Ar3.2.2 (inb_of q3a ⟨by decide, by decide⟩) (q3c.at (inb_of q3a ⟨by decide, by decide⟩) rfl) (g := (mkF m 8 #[.val (.ref t1), .val (.int (2 : Int32))] [(.int (2 : Int32)), (.ref t1)])) rfl rfl (hb hby d14_8) t_ k_) ?_
  refine Go.st (pc' := 12) (S' := [(.int (255 : Int32)), (.int (x2.toInt8.toInt32))]) (fun t_ k_ => XS.sipush X2.here hx rfl (hb hby d14_9) k_) ?_
  refine Go.st (pc' := 13) (S' := [(.int ((x2.toInt8.toInt32) &&& (255 : Int32)))]) (fun t_ k_ => XS.iand X2.here hx rfl (hb hby d14_12) rfl k_) ?_
  refine Go.st (pc' := 14) (S' := [(.int (((x2.toInt8.toInt32) &&& (255 : Int32)).toUInt32.toUInt16.toUInt32.toInt32))]) (fun t_ k_ => XS.i2c X2.here hx rfl (hb hby d14_13) rfl k_) ?_
  exact Go.retN X2 hx hlk hret (by simp) (hb hby d14_14) (by decide) (by decide) (by rw [e2]; exact ⟨by rw [own_lc _ bd2.1 la2, own_nch0 _ bd2.1 bd2.2], N2, rfl⟩)

def Qca3_2L (Z : State) (x2 : Int32) (h0 : Heap) (n0 : Nat) (v : Option Value) (h : Heap) (L : List Loc) : Prop := v = some (.int x2) ∧ Fr n0 L ∧ h = h0
def roomca3_2L : Room := { frames := 4, cells := 0, slots := 0, locals := 53 }
theorem rmca3_2L (l : Launch) (Z : State) (a0 : Array Value) (hw : ∀ d ∈ tables_1, d.before a0 Z = true) (ws : List Jvm.Cond) (a1 : Addr) (t1 : Addr) (k1 : ClassId) (fm : Value) (gC : Int32) (x0 : Int32) (x1 : Int32) (x2 : Int32) (h0 : Heap) (n0 : Nat) (Z0 : n0 ≤ h0.size) (SC : Sta Z Z.heap "java/lang/String" "COMPACT_STRINGS" "Z" (.int gC)) (PC : ¬ (gC = (0 : Int32))) (O0 : Old Z n0 h0) (hfm : fm.isRef = true) (SF : Sta Z Z.heap "jdk/internal/util/Preconditions" "SIOOBE_FORMATTER" "Ljava/util/function/BiFunction;" fm) (E_a1 : Exa Z h0 a1 "java/lang/String") (Fc_a1 : Fld Z h0 a1 "java/lang/String" "coder" "B" (.int (0 : Int32))) (Fv_a1 : Fld Z h0 a1 "java/lang/String" "value" "[B" (.ref t1)) (V_t1 : Arv Z h0 t1 k1 .byte (3 : Int32) [(.int (x0.toInt8.toInt32)), (.int (x1.toInt8.toInt32)), (.int (x2.toInt8.toInt32))] (.int (0 : Int32))) (bd0 : ¬ x0 < 0 ∧ ¬ (65535 : Int32) < x0) (bd1 : ¬ x1 < 0 ∧ ¬ (65535 : Int32) < x1) (bd2 : ¬ x2 < 0 ∧ ¬ (65535 : Int32) < x2) (la0 : ¬ (255 : Int32) < x0) (la1 : ¬ (255 : Int32) < x1) (la2 : ¬ (255 : Int32) < x2) :
    OMet l (⟨"java/lang/String", "charAt", "(I)C"⟩ : MethodName) jdk_42_method_56_code 2 (some .char) ws roomca3_2L #[(.ref a1), (.int (2 : Int32))] Z h0 (Qca3_2L Z x2 h0 n0) := by
  refine own_met (Q := (Qca3_2L Z x2 h0 n0)) (L0 := #[.val (.ref a1), .val (.int (2 : Int32))]) (plainFor_of_name pn_0) (fun m => by first | (simp [entryFrame, mkF, argsToLocals, Value.category]; done) | rfl) ?_
  intro p e s m below meth c T0 X0 hx hby hml hown hnm hret hlk hZ e0
  have N0 := Fr.nil n0
  refine Go.st (pc' := 1) (S' := [(.ref a1)]) (fun t_ k_ => XS.aloadN X0.here hx rfl (hb hby d12_0) rfl rfl k_) ?_
  obtain ⟨cq1, kq1, q1a, q1b, q1c⟩ := isOf hZ e0 E_a1
  obtain ⟨_, _, ⟨T1, L1, k1, n1⟩, -, X1, ⟨Lc1, hQ1, l1, y1, z1⟩, st1⟩ := X0.virtualBack hx (y := (⟨"java/lang/String", "isLatin1", "()Z"⟩ : MethodName)) (z := (⟨"java/lang/String", "isLatin1", "()Z"⟩ : MethodName)) hown (mvT hZ (wd hw 60 rfl)) (mvT hZ (wd hw 61 rfl)) (notFace_of_selects (args := #[]) (mvT hZ (wd hw 63 rfl))) (mvT hZ (wd hw 63 rfl)) (mvT hZ (wd hw 62 rfl)) (by decide) (backOf (W := 0) (rm13 l Z a0 hw [] a1 gC h0 n0 Z0 SC PC O0 Fc_a1) hZ (wd hw 64 rfl) (wd hw 7 rfl) (by decide) (by decide)) q1a q1c (g := (mkF m 1 #[.val (.ref a1), .val (.int (2 : Int32))] [(.ref a1)])) rfl (by rw [hml]; rfl) (Steps.refl _) (argsL := []) (rest := []) (lenOf pd_7 rfl) rfl (by show 2 * 0 + _ ≤ _; exact Nat.le_of_eq rfl) (hb hby d12_1) (fun _ _ => ⟨rfl, e0, (by decide : 0 + 0 ≤ _), (by decide : 0 + 0 ≤ _)⟩)
  dsimp only [Pt.U, Pt.locs, Pt.cells, Pt.slots] at X1 l1 y1 z1 st1 hQ1
  subst l1 y1 z1
  obtain ⟨rfl, N1q, e1⟩ := hQ1
  have N1 := Fr.app N0 N1q
  refine Go.tr (pc' := 4) (S' := [(.int (1 : Int32))]) st1 ?_
  refine Go.st (pc' := 7) (S' := []) (fun t_ k_ => XS.ifNo X1.here hx rfl (hb hby d12_4) rfl ((if0 _ _).trans (feq (by decide : ¬ ((1 : Int32) = (0 : Int32)))).1) k_) ?_
  refine Go.st (pc' := 8) (S' := [(.ref a1)]) (fun t_ k_ => XS.aloadN X1.here hx rfl (hb hby d12_7) rfl rfl k_) ?_
  obtain ⟨T2, X2, e2, st2⟩ := getF X1 hx hZ hown (host := "") (Or.inl (wd hw 27 rfl)) Via.refl e1 Fv_a1 (g := (mkF m 8 #[.val (.ref a1), .val (.int (2 : Int32))] [(.ref a1)])) rfl rfl (hb hby d12_8)
  refine Go.st (pc' := 11) (S' := [(.ref t1)]) st2 ?_
  refine Go.st (pc' := 12) (S' := [(.int (2 : Int32)), (.ref t1)]) (fun t_ k_ => XS.iloadN X2.here hx rfl (hb hby d12_11) rfl k_) ?_
  obtain ⟨_, _, ⟨T3, L3, k3, n3⟩, -, X3, ⟨Lc3, hQ3, l3, y3, z3⟩, st3⟩ := Jvm.LawKit.callS X2 hx (y := (⟨"java/lang/StringLatin1", "charAt", "([BI)C"⟩ : MethodName)) hown (mvT hZ (wd hw 65 rfl)) (mvT hZ (wd hw 66 rfl)) (mvT hZ (wd hw 12 rfl)) (mvT hZ (wd hw 67 rfl)) (by decide) (backOf (W := 0) (rmac3_2L l Z a0 hw [] t1 _ fm x0 x1 x2 h0 n0 Z0 hfm SF O0  V_t1 bd0 bd1 bd2 la0 la1 la2) hZ (wd hw 67 rfl) (wd hw 12 rfl) (by decide) (by decide)) (g := (mkF m 12 #[.val (.ref a1), .val (.int (2 : Int32))] [(.int (2 : Int32)), (.ref t1)])) rfl (by rw [hml]; rfl) (argsL := [(.ref t1), (.int (2 : Int32))]) (rest := []) (lenOf pd_10 rfl) rfl (by show 2 * 0 + _ ≤ _; exact Nat.le_of_eq rfl) (hb hby d12_12) (fun _ _ => ⟨rfl, e2, (by decide : 0 + 0 ≤ _), (by decide : 0 + 0 ≤ _)⟩)
  dsimp only [Pt.U, Pt.locs, Pt.cells, Pt.slots] at X3 l3 y3 z3 st3 hQ3
  subst l3 y3 z3
  obtain ⟨rfl, N3q, e3⟩ := hQ3
  have N3 := Fr.app N1 N3q
  refine Go.st (pc' := 15) (S' := [(.int x2)]) st3 ?_
  exact Go.retN X3 hx hlk hret (by simp) (hb hby d12_15) (by decide) (by decide) (by rw [e3]; exact ⟨by rw [own_nch0 _ bd2.1 bd2.2], N3, rfl⟩)

def Qulen6 (Z : State) (b : Addr) (kb : ClassId) (y0 : Int32) (y1 : Int32) (y2 : Int32) (y3 : Int32) (y4 : Int32) (y5 : Int32) (h0 : Heap) (n0 : Nat) (v : Option Value) (h : Heap) (L : List Loc) : Prop := v = some (.int 3) ∧ Fr n0 L ∧ h = h0
def roomulen6 : Room := { frames := 0, cells := 0, slots := 0, locals := 0 }
theorem rmulen6 (l : Launch) (Z : State) (a0 : Array Value) (hw : ∀ d ∈ tables_1, d.before a0 Z = true) (ws : List Jvm.Cond) (b : Addr) (kb : ClassId) (y0 : Int32) (y1 : Int32) (y2 : Int32) (y3 : Int32) (y4 : Int32) (y5 : Int32) (h0 : Heap) (n0 : Nat) (Z0 : n0 ≤ h0.size) (V_b : Arv Z h0 b kb .byte (6 : Int32) [(.int y0), (.int y1), (.int y2), (.int y3), (.int y4), (.int y5)] (.int (0 : Int32))) :
    OMet l (⟨"java/lang/StringUTF16", "length", "([B)I"⟩ : MethodName) jdk_52_method_6_code 1 (some .int) ws roomulen6 #[(.ref b)] Z h0 (Qulen6 Z b kb y0 y1 y2 y3 y4 y5 h0 n0) := by
  refine own_met (Q := (Qulen6 Z b kb y0 y1 y2 y3 y4 y5 h0 n0)) (L0 := #[.val (.ref b)]) (plainFor_of_name pn_6) (fun m => by first | (simp [entryFrame, mkF, argsToLocals, Value.category]; done) | rfl) ?_
  intro p e s m below meth c T0 X0 hx hby hml hown hnm hret hlk hZ e0
  have N0 := Fr.nil n0
  refine Go.st (pc' := 1) (S' := [(.ref b)]) (fun t_ k_ => XS.aloadN X0.here hx rfl (hb hby d29_0) rfl rfl k_) ?_
  obtain ⟨cl1, Ar1, -, q1a, q1b, -, -⟩ := id V_b
  refine Go.st (pc' := 2) (S' := [(.int (6 : Int32))]) (fun t_ k_ => own_len X0 hx hZ e0 Ar1 q1a q1b (g := (mkF m 1 #[.val (.ref b)] [(.ref b)])) rfl rfl (hb hby d29_1) t_ k_) ?_
  refine Go.st (pc' := 3) (S' := [(.int (1 : Int32)), (.int (6 : Int32))]) (fun t_ k_ => XS.iconst X0.here hx rfl (hb hby d29_2) k_) ?_
  refine Go.st (pc' := 4) (S' := [(.int ((6 : Int32) >>> ((1 : Int32) &&& 31)))]) (fun t_ k_ => XS.ishr X0.here hx rfl (hb hby d29_3) rfl k_) ?_
  rw [show ((6 : Int32) >>> ((1 : Int32) &&& 31)) = (3 : Int32) from by decide]
  exact Go.retO X0 hx hlk hret rfl (by simp [FieldType.isReference, Value.isRef]) (hb hby d29_4) (by decide) (by decide) (by rw [e0]; exact ⟨rfl, N0, rfl⟩)

def Quck2_6 (Z : State) (b : Addr) (kb : ClassId) (fm : Value) (y0 : Int32) (y1 : Int32) (y2 : Int32) (y3 : Int32) (y4 : Int32) (y5 : Int32) (h0 : Heap) (n0 : Nat) (v : Option Value) (h : Heap) (L : List Loc) : Prop := v = none ∧ Fr n0 L ∧ h = h0
def roomuck2_6 : Room := { frames := 2, cells := 0, slots := 0, locals := 27 }
theorem rmuck2_6 (l : Launch) (Z : State) (a0 : Array Value) (hw : ∀ d ∈ tables_1, d.before a0 Z = true) (ws : List Jvm.Cond) (b : Addr) (kb : ClassId) (fm : Value) (y0 : Int32) (y1 : Int32) (y2 : Int32) (y3 : Int32) (y4 : Int32) (y5 : Int32) (h0 : Heap) (n0 : Nat) (Z0 : n0 ≤ h0.size) (hfm : fm.isRef = true) (SF : Sta Z Z.heap "jdk/internal/util/Preconditions" "SIOOBE_FORMATTER" "Ljava/util/function/BiFunction;" fm) (O0 : Old Z n0 h0) (V_b : Arv Z h0 b kb .byte (6 : Int32) [(.int y0), (.int y1), (.int y2), (.int y3), (.int y4), (.int y5)] (.int (0 : Int32))) :
    OMet l (⟨"java/lang/StringUTF16", "checkIndex", "(I[B)V"⟩ : MethodName) jdk_52_method_91_code 2 none ws roomuck2_6 #[(.int (2 : Int32)), (.ref b)] Z h0 (Quck2_6 Z b kb fm y0 y1 y2 y3 y4 y5 h0 n0) := by
  refine own_met (Q := (Quck2_6 Z b kb fm y0 y1 y2 y3 y4 y5 h0 n0)) (L0 := #[.val (.int (2 : Int32)), .val (.ref b)]) (plainFor_of_name pn_6) (fun m => by first | (simp [entryFrame, mkF, argsToLocals, Value.category]; done) | rfl) ?_
  intro p e s m below meth c T0 X0 hx hby hml hown hnm hret hlk hZ e0
  have N0 := Fr.nil n0
  refine Go.st (pc' := 1) (S' := [(.int (2 : Int32))]) (fun t_ k_ => XS.iloadN X0.here hx rfl (hb hby d28_0) rfl k_) ?_
  refine Go.st (pc' := 2) (S' := [(.ref b), (.int (2 : Int32))]) (fun t_ k_ => XS.aloadN X0.here hx rfl (hb hby d28_1) rfl rfl k_) ?_
  obtain ⟨_, _, ⟨T1, L1, k1, n1⟩, -, X1, ⟨Lc1, hQ1, l1, y1, z1⟩, st1⟩ := Jvm.LawKit.callS X0 hx (y := (⟨"java/lang/StringUTF16", "length", "([B)I"⟩ : MethodName)) hown (mvT hZ (wd hw 120 rfl)) (mvT hZ (wd hw 121 rfl)) (mvT hZ (wd hw 86 rfl)) (mvT hZ (wd hw 122 rfl)) (by decide) (backOf (W := 1) (rmulen6 l Z a0 hw [] b _ (y0) (y1) (y2) (y3) (y4) (y5) h0 n0 Z0 V_b) hZ (wd hw 122 rfl) (wd hw 86 rfl) (by decide) (by decide)) (g := (mkF m 2 #[.val (.int (2 : Int32)), .val (.ref b)] [(.ref b), (.int (2 : Int32))])) rfl (by rw [hml]; rfl) (argsL := [(.ref b)]) (rest := [(.int (2 : Int32))]) (lenOf pd_11 rfl) rfl (by show 2 * 0 + _ ≤ _; exact Nat.le_of_eq rfl) (hb hby d28_2) (fun _ _ => ⟨rfl, e0, (by decide : 0 + 0 ≤ _), (by decide : 0 + 0 ≤ _)⟩)
  dsimp only [Pt.U, Pt.locs, Pt.cells, Pt.slots] at X1 l1 y1 z1 st1 hQ1
  subst l1 y1 z1
  obtain ⟨rfl, N1q, e1⟩ := hQ1
  have N1 := Fr.app N0 N1q
  refine Go.st (pc' := 5) (S' := [(.int (3 : Int32)), (.int (2 : Int32))]) st1 ?_
  obtain ⟨_, _, ⟨T2, L2, k2, n2⟩, -, X2, ⟨Lc2, hQ2, l2, y2, z2⟩, st2⟩ := Jvm.LawKit.callS X1 hx (y := (⟨"java/lang/String", "checkIndex", "(II)V"⟩ : MethodName)) hown (mvT hZ (wd hw 123 rfl)) (mvT hZ (wd hw 69 rfl)) (mvT hZ (wd hw 7 rfl)) (mvT hZ (wd hw 70 rfl)) (by decide) (backOf (W := 0) (rm15 l Z a0 hw [] 2 3 fm h0 n0 Z0 hfm SF O0 (by decide) (by decide)) hZ (wd hw 70 rfl) (wd hw 7 rfl) (by decide) (by decide)) (g := (mkF m 5 #[.val (.int (2 : Int32)), .val (.ref b)] [(.int (3 : Int32)), (.int (2 : Int32))])) rfl (by rw [hml]; rfl) (argsL := [(.int (2 : Int32)), (.int (3 : Int32))]) (rest := []) (lenOf pd_9 rfl) rfl (by show 2 * 0 + _ ≤ _; exact Nat.le_of_eq rfl) (hb hby d28_5) (fun _ _ => ⟨rfl, e1, (by decide : 0 + 0 ≤ _), (by decide : 0 + 0 ≤ _)⟩)
  dsimp only [Pt.U, Pt.locs, Pt.cells, Pt.slots] at X2 l2 y2 z2 st2 hQ2
  subst l2 y2 z2
  obtain ⟨rfl, N2q, e2⟩ := hQ2
  have N2 := Fr.app N1 N2q
  refine Go.st (pc' := 8) (S' := []) st2 ?_
  exact Go.retV X2 hx hlk hret (hb hby d28_8) (by decide) (by decide) (by rw [e2]; exact ⟨rfl, N2, rfl⟩)

def Qgetc3_2 (Z : State) (y0 : Int32) (y1 : Int32) (h0 : Heap) (n0 : Nat) (v : Option Value) (h : Heap) (L : List Loc) : Prop := ∃ r : Int32, v = some (.int r) ∧ r = nar .char (own_gv y0 y1) ∧ Fr n0 L ∧ h = h0
def roomgetc3_2 : Room := { frames := 0, cells := 0, slots := 0, locals := 0 }
theorem rmgetc3_2 (l : Launch) (Z : State) (a0 : Array Value) (hw : ∀ d ∈ tables_1, d.before a0 Z = true) (ws : List Jvm.Cond) (b : Addr) (kb : ClassId) (y0 : Int32) (y1 : Int32) (y2 : Int32) (y3 : Int32) (y4 : Int32) (y5 : Int32) (h0 : Heap) (n0 : Nat) (Z0 : n0 ≤ h0.size) (SD : Sta Z Z.heap "java/lang/StringUTF16" "$assertionsDisabled" "Z" (.int (1 : Int32))) (SH : Sta Z Z.heap "java/lang/StringUTF16" "HI_BYTE_SHIFT" "I" (.int (0 : Int32))) (SL : Sta Z Z.heap "java/lang/StringUTF16" "LO_BYTE_SHIFT" "I" (.int (8 : Int32))) (O0 : Old Z n0 h0) (V_b : Arv Z h0 b kb .byte (6 : Int32) [(.int y0), (.int y1), (.int y2), (.int y3), (.int y4), (.int y5)] (.int (0 : Int32))) :
    OMet l (⟨"java/lang/StringUTF16", "getChar", "([BI)C"⟩ : MethodName) jdk_52_method_5_code 2 (some .char) ws roomgetc3_2 #[(.ref b), (.int (2 : Int32))] Z h0 (Qgetc3_2 Z y4 y5 h0 n0) := by
  refine own_met (Q := (Qgetc3_2 Z y4 y5 h0 n0)) (L0 := #[.val (.ref b), .val (.int (2 : Int32))]) (plainFor_of_name pn_6) (fun m => by first | (simp [entryFrame, mkF, argsToLocals, Value.category]; done) | rfl) ?_
  intro p e s m below meth c T0 X0 hx hby hml hown hnm hret hlk hZ e0
  have N0 := Fr.nil n0
  obtain ⟨T1, X1, e1, st1⟩ := getS2 X0 hx hZ hown (host := "") (Or.inl (wd hw 108 rfl)) Via.refl e0 (SD.ext O0.2) (g := (mkF m 0 #[.val (.ref b), .val (.int (2 : Int32))] [])) rfl (hb hby d26_0)
  refine Go.st (pc' := 3) (S' := [(.int (1 : Int32))]) st1 ?_
  refine Go.st (pc' := 28) (S' := []) (fun t_ k_ => XS.ifYes X1.here hx rfl (pc0 := 3) (pc' := 28) rfl (hb hby d26_3) rfl ((if0 _ _).trans (feq (by decide : ¬ ((1 : Int32) = (0 : Int32)))).2) (by decide) (by decide) k_) ?_
  refine Go.st (pc' := 29) (S' := [(.int (2 : Int32))]) (fun t_ k_ => XS.iloadN X1.here hx rfl (hb hby d26_28) rfl k_) ?_
  refine Go.st (pc' := 30) (S' := [(.int (1 : Int32)), (.int (2 : Int32))]) (fun t_ k_ => XS.iconst X1.here hx rfl (hb hby d26_29) k_) ?_
  refine Go.st (pc' := 31) (S' := [(.int ((2 : Int32) <<< ((1 : Int32) &&& 31)))]) (fun t_ k_ => XS.ishl X1.here hx rfl (hb hby d26_30) rfl k_) ?_
  rw [show ((2 : Int32) <<< ((1 : Int32) &&& 31)) = (4 : Int32) from by decide]
  refine Go.st (pc' := 32) (S' := []) (fun t_ k_ => XS.istoreN X1.here hx rfl (hb hby d26_31) rfl (l' := #[.val (.ref b), .val (.int (4 : Int32))]) rfl k_) ?_
  refine Go.st (pc' := 33) (S' := [(.ref b)]) (fun t_ k_ => XS.aloadN X1.here hx rfl (hb hby d26_32) rfl rfl k_) ?_
  refine Go.st (pc' := 34) (S' := [(.int (4 : Int32)), (.ref b)]) (fun t_ k_ => XS.iloadN X1.here hx rfl (hb hby d26_33) rfl k_) ?_
  refine Go.st (pc' := 37) (S' := [(.int (4 : Int32)), (.ref b)]) (fun t_ k_ => XS.iinc X1.here hx rfl (hb hby d26_34) rfl (l' := #[.val (.ref b), .val (.int ((4 : Int32) + (1 : Int32)))]) rfl k_) ?_
  rw [show ((4 : Int32) + (1 : Int32)) = (5 : Int32) from by decide]
  obtain ⟨cl2, Ar2, -, q2a, q2b, q2c, q2d⟩ := id V_b
  refine Go.st (pc' := 38) (S' := [(.int y4)]) (fun t_ k_ => X1.baloadBytes hx (j := (4 : Int32)) (v := (.int y4)) (by rw [e1]; exact Ar2.1) (State.isArrayOf_alike hZ.alike Ar2.2.1) Ar2.2.2 (inb_of q2a ⟨by decide, by decide⟩) (q2c.at (inb_of q2a ⟨by decide, by decide⟩) rfl) (g := (mkF m 37 #[.val (.ref b), .val (.int (5 : Int32))] [(.int (4 : Int32)), (.ref b)])) rfl rfl (hb hby d26_37) t_ k_) ?_
  refine Go.st (pc' := 41) (S' := [(.int (255 : Int32)), (.int y4)]) (fun t_ k_ => XS.sipush X1.here hx rfl (hb hby d26_38) k_) ?_
  refine Go.st (pc' := 42) (S' := [(.int (y4 &&& (255 : Int32)))]) (fun t_ k_ => XS.iand X1.here hx rfl (hb hby d26_41) rfl k_) ?_
  obtain ⟨T3, X3, e3, st3⟩ := getS2 X1 hx hZ hown (host := "") (Or.inl (wd hw 109 rfl)) Via.refl e1 (SH.ext O0.2) (g := (mkF m 42 #[.val (.ref b), .val (.int (5 : Int32))] [(.int (y4 &&& (255 : Int32)))])) rfl (hb hby d26_42)
  refine Go.st (pc' := 45) (S' := [(.int (0 : Int32)), (.int (y4 &&& (255 : Int32)))]) st3 ?_
  refine Go.st (pc' := 46) (S' := [(.int ((y4 &&& (255 : Int32)) <<< ((0 : Int32) &&& 31)))]) (fun t_ k_ => XS.ishl X3.here hx rfl (hb hby d26_45) rfl k_) ?_
  refine Go.st (pc' := 47) (S' := [(.ref b), (.int ((y4 &&& (255 : Int32)) <<< ((0 : Int32) &&& 31)))]) (fun t_ k_ => XS.aloadN X3.here hx rfl (hb hby d26_46) rfl rfl k_) ?_
  refine Go.st (pc' := 48) (S' := [(.int (5 : Int32)), (.ref b), (.int ((y4 &&& (255 : Int32)) <<< ((0 : Int32) &&& 31)))]) (fun t_ k_ => XS.iloadN X3.here hx rfl (hb hby d26_47) rfl k_) ?_
  obtain ⟨cl4, Ar4, -, q4a, q4b, q4c, q4d⟩ := id V_b
  refine Go.st (pc' := 49) (S' := [(.int y5), (.int ((y4 &&& (255 : Int32)) <<< ((0 : Int32) &&& 31)))]) (fun t_ k_ => X3.baloadBytes hx (j := (5 : Int32)) (v := (.int y5)) (by rw [e3]; exact Ar4.1) (State.isArrayOf_alike hZ.alike Ar4.2.1) Ar4.2.2 (inb_of q4a ⟨by decide, by decide⟩) (q4c.at (inb_of q4a ⟨by decide, by decide⟩) rfl) (g := (mkF m 48 #[.val (.ref b), .val (.int (5 : Int32))] [(.int (5 : Int32)), (.ref b), (.int ((y4 &&& (255 : Int32)) <<< ((0 : Int32) &&& 31)))])) rfl rfl (hb hby d26_48) t_ k_) ?_
  refine Go.st (pc' := 52) (S' := [(.int (255 : Int32)), (.int y5), (.int ((y4 &&& (255 : Int32)) <<< ((0 : Int32) &&& 31)))]) (fun t_ k_ => XS.sipush X3.here hx rfl (hb hby d26_49) k_) ?_
  refine Go.st (pc' := 53) (S' := [(.int (y5 &&& (255 : Int32))), (.int ((y4 &&& (255 : Int32)) <<< ((0 : Int32) &&& 31)))]) (fun t_ k_ => XS.iand X3.here hx rfl (hb hby d26_52) rfl k_) ?_
  obtain ⟨T5, X5, e5, st5⟩ := getS2 X3 hx hZ hown (host := "") (Or.inl (wd hw 110 rfl)) Via.refl e3 (SL.ext O0.2) (g := (mkF m 53 #[.val (.ref b), .val (.int (5 : Int32))] [(.int (y5 &&& (255 : Int32))), (.int ((y4 &&& (255 : Int32)) <<< ((0 : Int32) &&& 31)))])) rfl (hb hby d26_53)
  refine Go.st (pc' := 56) (S' := [(.int (8 : Int32)), (.int (y5 &&& (255 : Int32))), (.int ((y4 &&& (255 : Int32)) <<< ((0 : Int32) &&& 31)))]) st5 ?_
  refine Go.st (pc' := 57) (S' := [(.int ((y5 &&& (255 : Int32)) <<< ((8 : Int32) &&& 31))), (.int ((y4 &&& (255 : Int32)) <<< ((0 : Int32) &&& 31)))]) (fun t_ k_ => XS.ishl X5.here hx rfl (hb hby d26_56) rfl k_) ?_
  refine Go.st (pc' := 58) (S' := [(.int (((y4 &&& (255 : Int32)) <<< ((0 : Int32) &&& 31)) ||| ((y5 &&& (255 : Int32)) <<< ((8 : Int32) &&& 31))))]) (fun t_ k_ => XS.ior X5.here hx rfl (hb hby d26_57) rfl k_) ?_
  refine Go.st (pc' := 59) (S' := [(.int ((((y4 &&& (255 : Int32)) <<< ((0 : Int32) &&& 31)) ||| ((y5 &&& (255 : Int32)) <<< ((8 : Int32) &&& 31))).toUInt32.toUInt16.toUInt32.toInt32))]) (fun t_ k_ => XS.i2c X5.here hx rfl (hb hby d26_58) rfl k_) ?_
  exact Go.retN X5 hx hlk hret (by simp) (hb hby d26_59) (by decide) (by decide) (by rw [e5]; exact ⟨_, rfl, rfl, N0, rfl⟩)

def Qac3_2U (Z : State) (x2 : Int32) (h0 : Heap) (n0 : Nat) (v : Option Value) (h : Heap) (L : List Loc) : Prop := v = some (.int x2) ∧ Fr n0 L ∧ h = h0
def roomac3_2U : Room := { frames := 3, cells := 0, slots := 0, locals := 40 }
theorem rmac3_2U (l : Launch) (Z : State) (a0 : Array Value) (hw : ∀ d ∈ tables_1, d.before a0 Z = true) (ws : List Jvm.Cond) (t1 : Addr) (k1 : ClassId) (fm : Value) (x0 : Int32) (x1 : Int32) (x2 : Int32) (h0 : Heap) (n0 : Nat) (Z0 : n0 ≤ h0.size) (hfm : fm.isRef = true) (SF : Sta Z Z.heap "jdk/internal/util/Preconditions" "SIOOBE_FORMATTER" "Ljava/util/function/BiFunction;" fm) (O0 : Old Z n0 h0) (SD : Sta Z Z.heap "java/lang/StringUTF16" "$assertionsDisabled" "Z" (.int (1 : Int32))) (SH : Sta Z Z.heap "java/lang/StringUTF16" "HI_BYTE_SHIFT" "I" (.int (0 : Int32))) (SL : Sta Z Z.heap "java/lang/StringUTF16" "LO_BYTE_SHIFT" "I" (.int (8 : Int32))) (V_t1 : Arv Z h0 t1 k1 .byte (6 : Int32) [(.int (own_lo x0)), (.int (own_hi x0)), (.int (own_lo x1)), (.int (own_hi x1)), (.int (own_lo x2)), (.int (own_hi x2))] (.int (0 : Int32))) (bd0 : ¬ x0 < 0 ∧ ¬ (65535 : Int32) < x0) (bd1 : ¬ x1 < 0 ∧ ¬ (65535 : Int32) < x1) (bd2 : ¬ x2 < 0 ∧ ¬ (65535 : Int32) < x2)  :
    OMet l (⟨"java/lang/StringUTF16", "charAt", "([BI)C"⟩ : MethodName) jdk_52_method_83_code 2 (some .char) ws roomac3_2U #[(.ref t1), (.int (2 : Int32))] Z h0 (Qac3_2U Z x2 h0 n0) := by
  refine own_met (Q := (Qac3_2U Z x2 h0 n0)) (L0 := #[.val (.ref t1), .val (.int (2 : Int32))]) (plainFor_of_name pn_6) (fun m => by first | (simp [entryFrame, mkF, argsToLocals, Value.category]; done) | rfl) ?_
  intro p e s m below meth c T0 X0 hx hby hml hown hnm hret hlk hZ e0
  have N0 := Fr.nil n0
  refine Go.st (pc' := 1) (S' := [(.int (2 : Int32))]) (fun t_ k_ => XS.iloadN X0.here hx rfl (hb hby d27_0) rfl k_) ?_
  refine Go.st (pc' := 2) (S' := [(.ref t1), (.int (2 : Int32))]) (fun t_ k_ => XS.aloadN X0.here hx rfl (hb hby d27_1) rfl rfl k_) ?_
  obtain ⟨_, _, ⟨T1, L1, k1, n1⟩, -, X1, ⟨Lc1, hQ1, l1, y1, z1⟩, st1⟩ := Jvm.LawKit.callS X0 hx (y := (⟨"java/lang/StringUTF16", "checkIndex", "(I[B)V"⟩ : MethodName)) hown (mvT hZ (wd hw 117 rfl)) (mvT hZ (wd hw 118 rfl)) (mvT hZ (wd hw 86 rfl)) (mvT hZ (wd hw 119 rfl)) (by decide) (backOf (W := 0) (rmuck2_6 l Z a0 hw [] t1 _ fm ((own_lo x0)) ((own_hi x0)) ((own_lo x1)) ((own_hi x1)) ((own_lo x2)) ((own_hi x2)) h0 n0 Z0 hfm SF O0 V_t1) hZ (wd hw 119 rfl) (wd hw 86 rfl) (by decide) (by decide)) (g := (mkF m 2 #[.val (.ref t1), .val (.int (2 : Int32))] [(.ref t1), (.int (2 : Int32))])) rfl (by rw [hml]; rfl) (argsL := [(.int (2 : Int32)), (.ref t1)]) (rest := []) (lenOf pd_12 rfl) rfl (by show 2 * 0 + _ ≤ _; exact Nat.le_of_eq rfl) (hb hby d27_2) (fun _ _ => ⟨rfl, e0, (by decide : 0 + 0 ≤ _), (by decide : 0 + 0 ≤ _)⟩)
  dsimp only [Pt.U, Pt.locs, Pt.cells, Pt.slots] at X1 l1 y1 z1 st1 hQ1
  subst l1 y1 z1
  obtain ⟨rfl, N1q, e1⟩ := hQ1
  have N1 := Fr.app N0 N1q
  refine Go.st (pc' := 5) (S' := []) st1 ?_
  refine Go.st (pc' := 6) (S' := [(.ref t1)]) (fun t_ k_ => XS.aloadN X1.here hx rfl (hb hby d27_5) rfl rfl k_) ?_
  refine Go.st (pc' := 7) (S' := [(.int (2 : Int32)), (.ref t1)]) (fun t_ k_ => XS.iloadN X1.here hx rfl (hb hby d27_6) rfl k_) ?_
  obtain ⟨_, _, ⟨T2, L2, k2, n2⟩, -, X2, ⟨Lc2, hQ2, l2, y2, z2⟩, st2⟩ := Jvm.LawKit.callS X1 hx (y := (⟨"java/lang/StringUTF16", "getChar", "([BI)C"⟩ : MethodName)) hown (mvT hZ (wd hw 111 rfl)) (mvT hZ (wd hw 112 rfl)) (mvT hZ (wd hw 86 rfl)) (mvT hZ (wd hw 113 rfl)) (by decide) (backOf (W := 0) (rmgetc3_2 l Z a0 hw [] t1 _ ((own_lo x0)) ((own_hi x0)) ((own_lo x1)) ((own_hi x1)) ((own_lo x2)) ((own_hi x2)) h0 n0 Z0 SD SH SL O0 V_t1) hZ (wd hw 113 rfl) (wd hw 86 rfl) (by decide) (by decide)) (g := (mkF m 7 #[.val (.ref t1), .val (.int (2 : Int32))] [(.int (2 : Int32)), (.ref t1)])) rfl (by rw [hml]; rfl) (argsL := [(.ref t1), (.int (2 : Int32))]) (rest := []) (lenOf pd_10 rfl) rfl (by show 2 * 0 + _ ≤ _; exact Nat.le_of_eq rfl) (hb hby d27_7) (fun _ _ => ⟨rfl, e1, (by decide : 0 + 0 ≤ _), (by decide : 0 + 0 ≤ _)⟩)
  dsimp only [Pt.U, Pt.locs, Pt.cells, Pt.slots] at X2 l2 y2 z2 st2 hQ2
  subst l2 y2 z2
  obtain ⟨rc2, rfl, hr2, N2q, e2⟩ := hQ2
  have N2 := Fr.app N1 N2q
  replace hr2 : rc2 = x2 := hr2.trans (by rw [own_gc _ bd2.1 bd2.2, own_nch0 _ bd2.1 bd2.2])
  subst rc2
  refine Go.st (pc' := 10) (S' := [(.int x2)]) st2 ?_
  exact Go.retN X2 hx hlk hret (by simp) (hb hby d27_10) (by decide) (by decide) (by rw [e2]; exact ⟨by rw [own_nch0 _ bd2.1 bd2.2], N2, rfl⟩)

def Qca3_2U (Z : State) (x2 : Int32) (h0 : Heap) (n0 : Nat) (v : Option Value) (h : Heap) (L : List Loc) : Prop := v = some (.int x2) ∧ Fr n0 L ∧ h = h0
def roomca3_2U : Room := { frames := 4, cells := 0, slots := 0, locals := 53 }
theorem rmca3_2U (l : Launch) (Z : State) (a0 : Array Value) (hw : ∀ d ∈ tables_1, d.before a0 Z = true) (ws : List Jvm.Cond) (a1 : Addr) (t1 : Addr) (k1 : ClassId) (fm : Value) (gC : Int32) (x0 : Int32) (x1 : Int32) (x2 : Int32) (h0 : Heap) (n0 : Nat) (Z0 : n0 ≤ h0.size) (SC : Sta Z Z.heap "java/lang/String" "COMPACT_STRINGS" "Z" (.int gC)) (PC : ¬ (gC = (0 : Int32))) (O0 : Old Z n0 h0) (hfm : fm.isRef = true) (SF : Sta Z Z.heap "jdk/internal/util/Preconditions" "SIOOBE_FORMATTER" "Ljava/util/function/BiFunction;" fm) (SD : Sta Z Z.heap "java/lang/StringUTF16" "$assertionsDisabled" "Z" (.int (1 : Int32))) (SH : Sta Z Z.heap "java/lang/StringUTF16" "HI_BYTE_SHIFT" "I" (.int (0 : Int32))) (SL : Sta Z Z.heap "java/lang/StringUTF16" "LO_BYTE_SHIFT" "I" (.int (8 : Int32))) (E_a1 : Exa Z h0 a1 "java/lang/String") (Fc_a1 : Fld Z h0 a1 "java/lang/String" "coder" "B" (.int (1 : Int32))) (Fv_a1 : Fld Z h0 a1 "java/lang/String" "value" "[B" (.ref t1)) (V_t1 : Arv Z h0 t1 k1 .byte (6 : Int32) [(.int (own_lo x0)), (.int (own_hi x0)), (.int (own_lo x1)), (.int (own_hi x1)), (.int (own_lo x2)), (.int (own_hi x2))] (.int (0 : Int32))) (bd0 : ¬ x0 < 0 ∧ ¬ (65535 : Int32) < x0) (bd1 : ¬ x1 < 0 ∧ ¬ (65535 : Int32) < x1) (bd2 : ¬ x2 < 0 ∧ ¬ (65535 : Int32) < x2)  :
    OMet l (⟨"java/lang/String", "charAt", "(I)C"⟩ : MethodName) jdk_42_method_56_code 2 (some .char) ws roomca3_2U #[(.ref a1), (.int (2 : Int32))] Z h0 (Qca3_2U Z x2 h0 n0) := by
  refine own_met (Q := (Qca3_2U Z x2 h0 n0)) (L0 := #[.val (.ref a1), .val (.int (2 : Int32))]) (plainFor_of_name pn_0) (fun m => by first | (simp [entryFrame, mkF, argsToLocals, Value.category]; done) | rfl) ?_
  intro p e s m below meth c T0 X0 hx hby hml hown hnm hret hlk hZ e0
  have N0 := Fr.nil n0
  refine Go.st (pc' := 1) (S' := [(.ref a1)]) (fun t_ k_ => XS.aloadN X0.here hx rfl (hb hby d12_0) rfl rfl k_) ?_
  obtain ⟨cq1, kq1, q1a, q1b, q1c⟩ := isOf hZ e0 E_a1
  obtain ⟨_, _, ⟨T1, L1, k1, n1⟩, -, X1, ⟨Lc1, hQ1, l1, y1, z1⟩, st1⟩ := X0.virtualBack hx (y := (⟨"java/lang/String", "isLatin1", "()Z"⟩ : MethodName)) (z := (⟨"java/lang/String", "isLatin1", "()Z"⟩ : MethodName)) hown (mvT hZ (wd hw 60 rfl)) (mvT hZ (wd hw 61 rfl)) (notFace_of_selects (args := #[]) (mvT hZ (wd hw 63 rfl))) (mvT hZ (wd hw 63 rfl)) (mvT hZ (wd hw 62 rfl)) (by decide) (backOf (W := 0) (rmisLatin1U l Z a0 hw [] a1 gC h0 n0 Z0 SC PC O0 Fc_a1) hZ (wd hw 64 rfl) (wd hw 7 rfl) (by decide) (by decide)) q1a q1c (g := (mkF m 1 #[.val (.ref a1), .val (.int (2 : Int32))] [(.ref a1)])) rfl (by rw [hml]; rfl) (Steps.refl _) (argsL := []) (rest := []) (lenOf pd_7 rfl) rfl (by show 2 * 0 + _ ≤ _; exact Nat.le_of_eq rfl) (hb hby d12_1) (fun _ _ => ⟨rfl, e0, (by decide : 0 + 0 ≤ _), (by decide : 0 + 0 ≤ _)⟩)
  dsimp only [Pt.U, Pt.locs, Pt.cells, Pt.slots] at X1 l1 y1 z1 st1 hQ1
  subst l1 y1 z1
  obtain ⟨rfl, N1q, e1⟩ := hQ1
  have N1 := Fr.app N0 N1q
  refine Go.tr (pc' := 4) (S' := [(.int (0 : Int32))]) st1 ?_
  refine Go.st (pc' := 16) (S' := []) (fun t_ k_ => XS.ifYes X1.here hx rfl (pc0 := 4) (pc' := 16) rfl (hb hby d12_4) rfl ((if0 _ _).trans (teq (by decide : ((0 : Int32) = (0 : Int32)))).1) (by decide) (by decide) k_) ?_
  refine Go.st (pc' := 17) (S' := [(.ref a1)]) (fun t_ k_ => XS.aloadN X1.here hx rfl (hb hby d12_16) rfl rfl k_) ?_
  obtain ⟨T2, X2, e2, st2⟩ := getF X1 hx hZ hown (host := "") (Or.inl (wd hw 27 rfl)) Via.refl e1 Fv_a1 (g := (mkF m 17 #[.val (.ref a1), .val (.int (2 : Int32))] [(.ref a1)])) rfl rfl (hb hby d12_17)
  refine Go.st (pc' := 20) (S' := [(.ref t1)]) st2 ?_
  refine Go.st (pc' := 21) (S' := [(.int (2 : Int32)), (.ref t1)]) (fun t_ k_ => XS.iloadN X2.here hx rfl (hb hby d12_20) rfl k_) ?_
  obtain ⟨_, _, ⟨T3, L3, k3, n3⟩, -, X3, ⟨Lc3, hQ3, l3, y3, z3⟩, st3⟩ := Jvm.LawKit.callS X2 hx (y := (⟨"java/lang/StringUTF16", "charAt", "([BI)C"⟩ : MethodName)) hown (mvT hZ (wd hw 114 rfl)) (mvT hZ (wd hw 115 rfl)) (mvT hZ (wd hw 86 rfl)) (mvT hZ (wd hw 116 rfl)) (by decide) (backOf (W := 0) (rmac3_2U l Z a0 hw [] t1 _ fm x0 x1 x2 h0 n0 Z0 hfm SF O0 SD SH SL V_t1 bd0 bd1 bd2 ) hZ (wd hw 116 rfl) (wd hw 86 rfl) (by decide) (by decide)) (g := (mkF m 21 #[.val (.ref a1), .val (.int (2 : Int32))] [(.int (2 : Int32)), (.ref t1)])) rfl (by rw [hml]; rfl) (argsL := [(.ref t1), (.int (2 : Int32))]) (rest := []) (lenOf pd_10 rfl) rfl (by show 2 * 0 + _ ≤ _; exact Nat.le_of_eq rfl) (hb hby d12_21) (fun _ _ => ⟨rfl, e2, (by decide : 0 + 0 ≤ _), (by decide : 0 + 0 ≤ _)⟩)
  dsimp only [Pt.U, Pt.locs, Pt.cells, Pt.slots] at X3 l3 y3 z3 st3 hQ3
  subst l3 y3 z3
  obtain ⟨rfl, N3q, e3⟩ := hQ3
  have N3 := Fr.app N1 N3q
  refine Go.st (pc' := 24) (S' := [(.int x2)]) st3 ?_
  exact Go.retN X3 hx hlk hret (by simp) (hb hby d12_24) (by decide) (by decide) (by rw [e3]; exact ⟨by rw [own_nch0 _ bd2.1 bd2.2], N3, rfl⟩)
def Qca3_2C (Z : State) (x2 : Int32) (h0 : Heap) (n0 : Nat) (v : Option Value) (h : Heap) (L : List Loc) : Prop := v = some (.int x2) ∧ Fr n0 L ∧ h = h0
theorem rmca3_2C (l : Launch) (Z : State) (a0 : Array Value) (hw : ∀ d ∈ tables_1, d.before a0 Z = true) (ws : List Jvm.Cond) (a1 : Addr) (fm : Value) (gC : Int32) (x0 : Int32) (x1 : Int32) (x2 : Int32) (h0 : Heap) (n0 : Nat) (Z0 : n0 ≤ h0.size) (ss : own_ST Z gC fm) (O0 : Old Z n0 h0) (C1 : own_CS3 Z h0 a1 x0 x1 x2) (bd0 : own_bd x0) (bd1 : own_bd x1) (bd2 : own_bd x2) :
    OMet l (⟨"java/lang/String", "charAt", "(I)C"⟩ : MethodName) jdk_42_method_56_code 2 (some .char) ws roomca3_2L #[(.ref a1), (.int (2 : Int32))] Z h0 (Qca3_2C Z x2 h0 n0) := by
  obtain ⟨SC, PC, hfm, SF, SD, SH, SL⟩ := id ss
  obtain ⟨E_a1, t1, k1, ⟨Fc, Fv, V1, la0, la1, la2, -⟩ | ⟨Fc, Fv, V1⟩⟩ := C1
  · exact rmca3_2L l Z a0 hw ws a1 t1 k1 fm gC x0 x1 x2 h0 n0 Z0 SC PC O0 hfm SF  E_a1 Fc Fv V1 bd0 bd1 bd2 la0 la1 la2
  · exact rmca3_2U l Z a0 hw ws a1 t1 k1 fm gC x0 x1 x2 h0 n0 Z0 SC PC O0 hfm SF SD SH SL E_a1 Fc Fv V1 bd0 bd1 bd2 


def Qac3_1L (Z : State) (x1 : Int32) (h0 : Heap) (n0 : Nat) (v : Option Value) (h : Heap) (L : List Loc) : Prop := v = some (.int x1) ∧ Fr n0 L ∧ h = h0
def roomac3_1L : Room := { frames := 2, cells := 0, slots := 0, locals := 27 }
theorem rmac3_1L (l : Launch) (Z : State) (a0 : Array Value) (hw : ∀ d ∈ tables_1, d.before a0 Z = true) (ws : List Jvm.Cond) (t1 : Addr) (k1 : ClassId) (fm : Value) (x0 : Int32) (x1 : Int32) (x2 : Int32) (h0 : Heap) (n0 : Nat) (Z0 : n0 ≤ h0.size) (hfm : fm.isRef = true) (SF : Sta Z Z.heap "jdk/internal/util/Preconditions" "SIOOBE_FORMATTER" "Ljava/util/function/BiFunction;" fm) (O0 : Old Z n0 h0) (V_t1 : Arv Z h0 t1 k1 .byte (3 : Int32) [(.int (x0.toInt8.toInt32)), (.int (x1.toInt8.toInt32)), (.int (x2.toInt8.toInt32))] (.int (0 : Int32))) (bd0 : ¬ x0 < 0 ∧ ¬ (65535 : Int32) < x0) (bd1 : ¬ x1 < 0 ∧ ¬ (65535 : Int32) < x1) (bd2 : ¬ x2 < 0 ∧ ¬ (65535 : Int32) < x2) (la0 : ¬ (255 : Int32) < x0) (la1 : ¬ (255 : Int32) < x1) (la2 : ¬ (255 : Int32) < x2) :
    OMet l (⟨"java/lang/StringLatin1", "charAt", "([BI)C"⟩ : MethodName) jdk_43_method_2_code 2 (some .char) ws roomac3_1L #[(.ref t1), (.int (1 : Int32))] Z h0 (Qac3_1L Z x1 h0 n0) := by
  refine own_met (Q := (Qac3_1L Z x1 h0 n0)) (L0 := #[.val (.ref t1), .val (.int (1 : Int32))]) (plainFor_of_name pn_1) (fun m => by first | (simp [entryFrame, mkF, argsToLocals, Value.category]; done) | rfl) ?_
  intro p e s m below meth c T0 X0 hx hby hml hown hnm hret hlk hZ e0
  have N0 := Fr.nil n0
  refine Go.st (pc' := 1) (S' := [(.int (1 : Int32))]) (fun t_ k_ => XS.iloadN X0.here hx rfl (hb hby d14_0) rfl k_) ?_
  refine Go.st (pc' := 2) (S' := [(.ref t1), (.int (1 : Int32))]) (fun t_ k_ => XS.aloadN X0.here hx rfl (hb hby d14_1) rfl rfl k_) ?_
  obtain ⟨cl1, Ar1, -, q1a, q1b, -, -⟩ := id V_t1
  refine Go.st (pc' := 3) (S' := [(.int (3 : Int32)), (.int (1 : Int32))]) (fun t_ k_ => own_len X0 hx hZ e0 Ar1 q1a q1b (g := (mkF m 2 #[.val (.ref t1), .val (.int (1 : Int32))] [(.ref t1), (.int (1 : Int32))])) rfl rfl (hb hby d14_2) t_ k_) ?_
  obtain ⟨_, _, ⟨T2, L2, k2, n2⟩, -, X2, ⟨Lc2, hQ2, l2, y2, z2⟩, st2⟩ := Jvm.LawKit.callS X0 hx (y := (⟨"java/lang/String", "checkIndex", "(II)V"⟩ : MethodName)) hown (mvT hZ (wd hw 68 rfl)) (mvT hZ (wd hw 69 rfl)) (mvT hZ (wd hw 7 rfl)) (mvT hZ (wd hw 70 rfl)) (by decide) (backOf (W := 0) (rm15 l Z a0 hw [] 1 3 fm h0 n0 Z0 hfm SF O0 (by decide) (by decide)) hZ (wd hw 70 rfl) (wd hw 7 rfl) (by decide) (by decide)) (g := (mkF m 3 #[.val (.ref t1), .val (.int (1 : Int32))] [(.int (3 : Int32)), (.int (1 : Int32))])) rfl (by rw [hml]; rfl) (argsL := [(.int (1 : Int32)), (.int (3 : Int32))]) (rest := []) (lenOf pd_9 rfl) rfl (by show 2 * 0 + _ ≤ _; exact Nat.le_of_eq rfl) (hb hby d14_3) (fun _ _ => ⟨rfl, e0, (by decide : 0 + 0 ≤ _), (by decide : 0 + 0 ≤ _)⟩)
  dsimp only [Pt.U, Pt.locs, Pt.cells, Pt.slots] at X2 l2 y2 z2 st2 hQ2
  subst l2 y2 z2
  obtain ⟨rfl, N2q, e2⟩ := hQ2
  have N2 := Fr.app N0 N2q
  refine Go.st (pc' := 6) (S' := []) st2 ?_
  refine Go.st (pc' := 7) (S' := [(.ref t1)]) (fun t_ k_ => XS.aloadN X2.here hx rfl (hb hby d14_6) rfl rfl k_) ?_
  refine Go.st (pc' := 8) (S' := [(.int (1 : Int32)), (.ref t1)]) (fun t_ k_ => XS.iloadN X2.here hx rfl (hb hby d14_7) rfl k_) ?_
  obtain ⟨cl3, Ar3, -, q3a, q3b, q3c, q3d⟩ := id V_t1
  refine Go.st (pc' := 9) (S' := [(.int (x1.toInt8.toInt32))]) (fun t_ k_ => X2.baloadBytes hx (j := (1 : Int32)) (v := (.int (x1.toInt8.toInt32))) (by rw [e2]; exact Ar3.1) (State.isArrayOf_alike hZ.alike Ar3.2.1) Ar3.2.2 (inb_of q3a ⟨by decide, by decide⟩) (q3c.at (inb_of q3a ⟨by decide, by decide⟩) rfl) (g := (mkF m 8 #[.val (.ref t1), .val (.int (1 : Int32))] [(.int (1 : Int32)), (.ref t1)])) rfl rfl (hb hby d14_8) t_ k_) ?_
  refine Go.st (pc' := 12) (S' := [(.int (255 : Int32)), (.int (x1.toInt8.toInt32))]) (fun t_ k_ => XS.sipush X2.here hx rfl (hb hby d14_9) k_) ?_
  refine Go.st (pc' := 13) (S' := [(.int ((x1.toInt8.toInt32) &&& (255 : Int32)))]) (fun t_ k_ => XS.iand X2.here hx rfl (hb hby d14_12) rfl k_) ?_
  refine Go.st (pc' := 14) (S' := [(.int (((x1.toInt8.toInt32) &&& (255 : Int32)).toUInt32.toUInt16.toUInt32.toInt32))]) (fun t_ k_ => XS.i2c X2.here hx rfl (hb hby d14_13) rfl k_) ?_
  exact Go.retN X2 hx hlk hret (by simp) (hb hby d14_14) (by decide) (by decide) (by rw [e2]; exact ⟨by rw [own_lc _ bd1.1 la1, own_nch0 _ bd1.1 bd1.2], N2, rfl⟩)

def Qca3_1L (Z : State) (x1 : Int32) (h0 : Heap) (n0 : Nat) (v : Option Value) (h : Heap) (L : List Loc) : Prop := v = some (.int x1) ∧ Fr n0 L ∧ h = h0
def roomca3_1L : Room := { frames := 4, cells := 0, slots := 0, locals := 53 }
theorem rmca3_1L (l : Launch) (Z : State) (a0 : Array Value) (hw : ∀ d ∈ tables_1, d.before a0 Z = true) (ws : List Jvm.Cond) (a1 : Addr) (t1 : Addr) (k1 : ClassId) (fm : Value) (gC : Int32) (x0 : Int32) (x1 : Int32) (x2 : Int32) (h0 : Heap) (n0 : Nat) (Z0 : n0 ≤ h0.size) (SC : Sta Z Z.heap "java/lang/String" "COMPACT_STRINGS" "Z" (.int gC)) (PC : ¬ (gC = (0 : Int32))) (O0 : Old Z n0 h0) (hfm : fm.isRef = true) (SF : Sta Z Z.heap "jdk/internal/util/Preconditions" "SIOOBE_FORMATTER" "Ljava/util/function/BiFunction;" fm) (E_a1 : Exa Z h0 a1 "java/lang/String") (Fc_a1 : Fld Z h0 a1 "java/lang/String" "coder" "B" (.int (0 : Int32))) (Fv_a1 : Fld Z h0 a1 "java/lang/String" "value" "[B" (.ref t1)) (V_t1 : Arv Z h0 t1 k1 .byte (3 : Int32) [(.int (x0.toInt8.toInt32)), (.int (x1.toInt8.toInt32)), (.int (x2.toInt8.toInt32))] (.int (0 : Int32))) (bd0 : ¬ x0 < 0 ∧ ¬ (65535 : Int32) < x0) (bd1 : ¬ x1 < 0 ∧ ¬ (65535 : Int32) < x1) (bd2 : ¬ x2 < 0 ∧ ¬ (65535 : Int32) < x2) (la0 : ¬ (255 : Int32) < x0) (la1 : ¬ (255 : Int32) < x1) (la2 : ¬ (255 : Int32) < x2) :
    OMet l (⟨"java/lang/String", "charAt", "(I)C"⟩ : MethodName) jdk_42_method_56_code 2 (some .char) ws roomca3_1L #[(.ref a1), (.int (1 : Int32))] Z h0 (Qca3_1L Z x1 h0 n0) := by
  refine own_met (Q := (Qca3_1L Z x1 h0 n0)) (L0 := #[.val (.ref a1), .val (.int (1 : Int32))]) (plainFor_of_name pn_0) (fun m => by first | (simp [entryFrame, mkF, argsToLocals, Value.category]; done) | rfl) ?_
  intro p e s m below meth c T0 X0 hx hby hml hown hnm hret hlk hZ e0
  have N0 := Fr.nil n0
  refine Go.st (pc' := 1) (S' := [(.ref a1)]) (fun t_ k_ => XS.aloadN X0.here hx rfl (hb hby d12_0) rfl rfl k_) ?_
  obtain ⟨cq1, kq1, q1a, q1b, q1c⟩ := isOf hZ e0 E_a1
  obtain ⟨_, _, ⟨T1, L1, k1, n1⟩, -, X1, ⟨Lc1, hQ1, l1, y1, z1⟩, st1⟩ := X0.virtualBack hx (y := (⟨"java/lang/String", "isLatin1", "()Z"⟩ : MethodName)) (z := (⟨"java/lang/String", "isLatin1", "()Z"⟩ : MethodName)) hown (mvT hZ (wd hw 60 rfl)) (mvT hZ (wd hw 61 rfl)) (notFace_of_selects (args := #[]) (mvT hZ (wd hw 63 rfl))) (mvT hZ (wd hw 63 rfl)) (mvT hZ (wd hw 62 rfl)) (by decide) (backOf (W := 0) (rm13 l Z a0 hw [] a1 gC h0 n0 Z0 SC PC O0 Fc_a1) hZ (wd hw 64 rfl) (wd hw 7 rfl) (by decide) (by decide)) q1a q1c (g := (mkF m 1 #[.val (.ref a1), .val (.int (1 : Int32))] [(.ref a1)])) rfl (by rw [hml]; rfl) (Steps.refl _) (argsL := []) (rest := []) (lenOf pd_7 rfl) rfl (by show 2 * 0 + _ ≤ _; exact Nat.le_of_eq rfl) (hb hby d12_1) (fun _ _ => ⟨rfl, e0, (by decide : 0 + 0 ≤ _), (by decide : 0 + 0 ≤ _)⟩)
  dsimp only [Pt.U, Pt.locs, Pt.cells, Pt.slots] at X1 l1 y1 z1 st1 hQ1
  subst l1 y1 z1
  obtain ⟨rfl, N1q, e1⟩ := hQ1
  have N1 := Fr.app N0 N1q
  refine Go.tr (pc' := 4) (S' := [(.int (1 : Int32))]) st1 ?_
  refine Go.st (pc' := 7) (S' := []) (fun t_ k_ => XS.ifNo X1.here hx rfl (hb hby d12_4) rfl ((if0 _ _).trans (feq (by decide : ¬ ((1 : Int32) = (0 : Int32)))).1) k_) ?_
  refine Go.st (pc' := 8) (S' := [(.ref a1)]) (fun t_ k_ => XS.aloadN X1.here hx rfl (hb hby d12_7) rfl rfl k_) ?_
  obtain ⟨T2, X2, e2, st2⟩ := getF X1 hx hZ hown (host := "") (Or.inl (wd hw 27 rfl)) Via.refl e1 Fv_a1 (g := (mkF m 8 #[.val (.ref a1), .val (.int (1 : Int32))] [(.ref a1)])) rfl rfl (hb hby d12_8)
  refine Go.st (pc' := 11) (S' := [(.ref t1)]) st2 ?_
  refine Go.st (pc' := 12) (S' := [(.int (1 : Int32)), (.ref t1)]) (fun t_ k_ => XS.iloadN X2.here hx rfl (hb hby d12_11) rfl k_) ?_
  obtain ⟨_, _, ⟨T3, L3, k3, n3⟩, -, X3, ⟨Lc3, hQ3, l3, y3, z3⟩, st3⟩ := Jvm.LawKit.callS X2 hx (y := (⟨"java/lang/StringLatin1", "charAt", "([BI)C"⟩ : MethodName)) hown (mvT hZ (wd hw 65 rfl)) (mvT hZ (wd hw 66 rfl)) (mvT hZ (wd hw 12 rfl)) (mvT hZ (wd hw 67 rfl)) (by decide) (backOf (W := 0) (rmac3_1L l Z a0 hw [] t1 _ fm x0 x1 x2 h0 n0 Z0 hfm SF O0  V_t1 bd0 bd1 bd2 la0 la1 la2) hZ (wd hw 67 rfl) (wd hw 12 rfl) (by decide) (by decide)) (g := (mkF m 12 #[.val (.ref a1), .val (.int (1 : Int32))] [(.int (1 : Int32)), (.ref t1)])) rfl (by rw [hml]; rfl) (argsL := [(.ref t1), (.int (1 : Int32))]) (rest := []) (lenOf pd_10 rfl) rfl (by show 2 * 0 + _ ≤ _; exact Nat.le_of_eq rfl) (hb hby d12_12) (fun _ _ => ⟨rfl, e2, (by decide : 0 + 0 ≤ _), (by decide : 0 + 0 ≤ _)⟩)
  dsimp only [Pt.U, Pt.locs, Pt.cells, Pt.slots] at X3 l3 y3 z3 st3 hQ3
  subst l3 y3 z3
  obtain ⟨rfl, N3q, e3⟩ := hQ3
  have N3 := Fr.app N1 N3q
  refine Go.st (pc' := 15) (S' := [(.int x1)]) st3 ?_
  exact Go.retN X3 hx hlk hret (by simp) (hb hby d12_15) (by decide) (by decide) (by rw [e3]; exact ⟨by rw [own_nch0 _ bd1.1 bd1.2], N3, rfl⟩)

def Quck1_6 (Z : State) (b : Addr) (kb : ClassId) (fm : Value) (y0 : Int32) (y1 : Int32) (y2 : Int32) (y3 : Int32) (y4 : Int32) (y5 : Int32) (h0 : Heap) (n0 : Nat) (v : Option Value) (h : Heap) (L : List Loc) : Prop := v = none ∧ Fr n0 L ∧ h = h0
def roomuck1_6 : Room := { frames := 2, cells := 0, slots := 0, locals := 27 }
theorem rmuck1_6 (l : Launch) (Z : State) (a0 : Array Value) (hw : ∀ d ∈ tables_1, d.before a0 Z = true) (ws : List Jvm.Cond) (b : Addr) (kb : ClassId) (fm : Value) (y0 : Int32) (y1 : Int32) (y2 : Int32) (y3 : Int32) (y4 : Int32) (y5 : Int32) (h0 : Heap) (n0 : Nat) (Z0 : n0 ≤ h0.size) (hfm : fm.isRef = true) (SF : Sta Z Z.heap "jdk/internal/util/Preconditions" "SIOOBE_FORMATTER" "Ljava/util/function/BiFunction;" fm) (O0 : Old Z n0 h0) (V_b : Arv Z h0 b kb .byte (6 : Int32) [(.int y0), (.int y1), (.int y2), (.int y3), (.int y4), (.int y5)] (.int (0 : Int32))) :
    OMet l (⟨"java/lang/StringUTF16", "checkIndex", "(I[B)V"⟩ : MethodName) jdk_52_method_91_code 2 none ws roomuck1_6 #[(.int (1 : Int32)), (.ref b)] Z h0 (Quck1_6 Z b kb fm y0 y1 y2 y3 y4 y5 h0 n0) := by
  refine own_met (Q := (Quck1_6 Z b kb fm y0 y1 y2 y3 y4 y5 h0 n0)) (L0 := #[.val (.int (1 : Int32)), .val (.ref b)]) (plainFor_of_name pn_6) (fun m => by first | (simp [entryFrame, mkF, argsToLocals, Value.category]; done) | rfl) ?_
  intro p e s m below meth c T0 X0 hx hby hml hown hnm hret hlk hZ e0
  have N0 := Fr.nil n0
  refine Go.st (pc' := 1) (S' := [(.int (1 : Int32))]) (fun t_ k_ => XS.iloadN X0.here hx rfl (hb hby d28_0) rfl k_) ?_
  refine Go.st (pc' := 2) (S' := [(.ref b), (.int (1 : Int32))]) (fun t_ k_ => XS.aloadN X0.here hx rfl (hb hby d28_1) rfl rfl k_) ?_
  obtain ⟨_, _, ⟨T1, L1, k1, n1⟩, -, X1, ⟨Lc1, hQ1, l1, y1, z1⟩, st1⟩ := Jvm.LawKit.callS X0 hx (y := (⟨"java/lang/StringUTF16", "length", "([B)I"⟩ : MethodName)) hown (mvT hZ (wd hw 120 rfl)) (mvT hZ (wd hw 121 rfl)) (mvT hZ (wd hw 86 rfl)) (mvT hZ (wd hw 122 rfl)) (by decide) (backOf (W := 1) (rmulen6 l Z a0 hw [] b _ (y0) (y1) (y2) (y3) (y4) (y5) h0 n0 Z0 V_b) hZ (wd hw 122 rfl) (wd hw 86 rfl) (by decide) (by decide)) (g := (mkF m 2 #[.val (.int (1 : Int32)), .val (.ref b)] [(.ref b), (.int (1 : Int32))])) rfl (by rw [hml]; rfl) (argsL := [(.ref b)]) (rest := [(.int (1 : Int32))]) (lenOf pd_11 rfl) rfl (by show 2 * 0 + _ ≤ _; exact Nat.le_of_eq rfl) (hb hby d28_2) (fun _ _ => ⟨rfl, e0, (by decide : 0 + 0 ≤ _), (by decide : 0 + 0 ≤ _)⟩)
  dsimp only [Pt.U, Pt.locs, Pt.cells, Pt.slots] at X1 l1 y1 z1 st1 hQ1
  subst l1 y1 z1
  obtain ⟨rfl, N1q, e1⟩ := hQ1
  have N1 := Fr.app N0 N1q
  refine Go.st (pc' := 5) (S' := [(.int (3 : Int32)), (.int (1 : Int32))]) st1 ?_
  obtain ⟨_, _, ⟨T2, L2, k2, n2⟩, -, X2, ⟨Lc2, hQ2, l2, y2, z2⟩, st2⟩ := Jvm.LawKit.callS X1 hx (y := (⟨"java/lang/String", "checkIndex", "(II)V"⟩ : MethodName)) hown (mvT hZ (wd hw 123 rfl)) (mvT hZ (wd hw 69 rfl)) (mvT hZ (wd hw 7 rfl)) (mvT hZ (wd hw 70 rfl)) (by decide) (backOf (W := 0) (rm15 l Z a0 hw [] 1 3 fm h0 n0 Z0 hfm SF O0 (by decide) (by decide)) hZ (wd hw 70 rfl) (wd hw 7 rfl) (by decide) (by decide)) (g := (mkF m 5 #[.val (.int (1 : Int32)), .val (.ref b)] [(.int (3 : Int32)), (.int (1 : Int32))])) rfl (by rw [hml]; rfl) (argsL := [(.int (1 : Int32)), (.int (3 : Int32))]) (rest := []) (lenOf pd_9 rfl) rfl (by show 2 * 0 + _ ≤ _; exact Nat.le_of_eq rfl) (hb hby d28_5) (fun _ _ => ⟨rfl, e1, (by decide : 0 + 0 ≤ _), (by decide : 0 + 0 ≤ _)⟩)
  dsimp only [Pt.U, Pt.locs, Pt.cells, Pt.slots] at X2 l2 y2 z2 st2 hQ2
  subst l2 y2 z2
  obtain ⟨rfl, N2q, e2⟩ := hQ2
  have N2 := Fr.app N1 N2q
  refine Go.st (pc' := 8) (S' := []) st2 ?_
  exact Go.retV X2 hx hlk hret (hb hby d28_8) (by decide) (by decide) (by rw [e2]; exact ⟨rfl, N2, rfl⟩)

def Qgetc3_1 (Z : State) (y0 : Int32) (y1 : Int32) (h0 : Heap) (n0 : Nat) (v : Option Value) (h : Heap) (L : List Loc) : Prop := ∃ r : Int32, v = some (.int r) ∧ r = nar .char (own_gv y0 y1) ∧ Fr n0 L ∧ h = h0
def roomgetc3_1 : Room := { frames := 0, cells := 0, slots := 0, locals := 0 }
theorem rmgetc3_1 (l : Launch) (Z : State) (a0 : Array Value) (hw : ∀ d ∈ tables_1, d.before a0 Z = true) (ws : List Jvm.Cond) (b : Addr) (kb : ClassId) (y0 : Int32) (y1 : Int32) (y2 : Int32) (y3 : Int32) (y4 : Int32) (y5 : Int32) (h0 : Heap) (n0 : Nat) (Z0 : n0 ≤ h0.size) (SD : Sta Z Z.heap "java/lang/StringUTF16" "$assertionsDisabled" "Z" (.int (1 : Int32))) (SH : Sta Z Z.heap "java/lang/StringUTF16" "HI_BYTE_SHIFT" "I" (.int (0 : Int32))) (SL : Sta Z Z.heap "java/lang/StringUTF16" "LO_BYTE_SHIFT" "I" (.int (8 : Int32))) (O0 : Old Z n0 h0) (V_b : Arv Z h0 b kb .byte (6 : Int32) [(.int y0), (.int y1), (.int y2), (.int y3), (.int y4), (.int y5)] (.int (0 : Int32))) :
    OMet l (⟨"java/lang/StringUTF16", "getChar", "([BI)C"⟩ : MethodName) jdk_52_method_5_code 2 (some .char) ws roomgetc3_1 #[(.ref b), (.int (1 : Int32))] Z h0 (Qgetc3_1 Z y2 y3 h0 n0) := by
  refine own_met (Q := (Qgetc3_1 Z y2 y3 h0 n0)) (L0 := #[.val (.ref b), .val (.int (1 : Int32))]) (plainFor_of_name pn_6) (fun m => by first | (simp [entryFrame, mkF, argsToLocals, Value.category]; done) | rfl) ?_
  intro p e s m below meth c T0 X0 hx hby hml hown hnm hret hlk hZ e0
  have N0 := Fr.nil n0
  obtain ⟨T1, X1, e1, st1⟩ := getS2 X0 hx hZ hown (host := "") (Or.inl (wd hw 108 rfl)) Via.refl e0 (SD.ext O0.2) (g := (mkF m 0 #[.val (.ref b), .val (.int (1 : Int32))] [])) rfl (hb hby d26_0)
  refine Go.st (pc' := 3) (S' := [(.int (1 : Int32))]) st1 ?_
  refine Go.st (pc' := 28) (S' := []) (fun t_ k_ => XS.ifYes X1.here hx rfl (pc0 := 3) (pc' := 28) rfl (hb hby d26_3) rfl ((if0 _ _).trans (feq (by decide : ¬ ((1 : Int32) = (0 : Int32)))).2) (by decide) (by decide) k_) ?_
  refine Go.st (pc' := 29) (S' := [(.int (1 : Int32))]) (fun t_ k_ => XS.iloadN X1.here hx rfl (hb hby d26_28) rfl k_) ?_
  refine Go.st (pc' := 30) (S' := [(.int (1 : Int32)), (.int (1 : Int32))]) (fun t_ k_ => XS.iconst X1.here hx rfl (hb hby d26_29) k_) ?_
  refine Go.st (pc' := 31) (S' := [(.int ((1 : Int32) <<< ((1 : Int32) &&& 31)))]) (fun t_ k_ => XS.ishl X1.here hx rfl (hb hby d26_30) rfl k_) ?_
  rw [show ((1 : Int32) <<< ((1 : Int32) &&& 31)) = (2 : Int32) from by decide]
  refine Go.st (pc' := 32) (S' := []) (fun t_ k_ => XS.istoreN X1.here hx rfl (hb hby d26_31) rfl (l' := #[.val (.ref b), .val (.int (2 : Int32))]) rfl k_) ?_
  refine Go.st (pc' := 33) (S' := [(.ref b)]) (fun t_ k_ => XS.aloadN X1.here hx rfl (hb hby d26_32) rfl rfl k_) ?_
  refine Go.st (pc' := 34) (S' := [(.int (2 : Int32)), (.ref b)]) (fun t_ k_ => XS.iloadN X1.here hx rfl (hb hby d26_33) rfl k_) ?_
  refine Go.st (pc' := 37) (S' := [(.int (2 : Int32)), (.ref b)]) (fun t_ k_ => XS.iinc X1.here hx rfl (hb hby d26_34) rfl (l' := #[.val (.ref b), .val (.int ((2 : Int32) + (1 : Int32)))]) rfl k_) ?_
  rw [show ((2 : Int32) + (1 : Int32)) = (3 : Int32) from by decide]
  obtain ⟨cl2, Ar2, -, q2a, q2b, q2c, q2d⟩ := id V_b
  refine Go.st (pc' := 38) (S' := [(.int y2)]) (fun t_ k_ => X1.baloadBytes hx (j := (2 : Int32)) (v := (.int y2)) (by rw [e1]; exact Ar2.1) (State.isArrayOf_alike hZ.alike Ar2.2.1) Ar2.2.2 (inb_of q2a ⟨by decide, by decide⟩) (q2c.at (inb_of q2a ⟨by decide, by decide⟩) rfl) (g := (mkF m 37 #[.val (.ref b), .val (.int (3 : Int32))] [(.int (2 : Int32)), (.ref b)])) rfl rfl (hb hby d26_37) t_ k_) ?_
  refine Go.st (pc' := 41) (S' := [(.int (255 : Int32)), (.int y2)]) (fun t_ k_ => XS.sipush X1.here hx rfl (hb hby d26_38) k_) ?_
  refine Go.st (pc' := 42) (S' := [(.int (y2 &&& (255 : Int32)))]) (fun t_ k_ => XS.iand X1.here hx rfl (hb hby d26_41) rfl k_) ?_
  obtain ⟨T3, X3, e3, st3⟩ := getS2 X1 hx hZ hown (host := "") (Or.inl (wd hw 109 rfl)) Via.refl e1 (SH.ext O0.2) (g := (mkF m 42 #[.val (.ref b), .val (.int (3 : Int32))] [(.int (y2 &&& (255 : Int32)))])) rfl (hb hby d26_42)
  refine Go.st (pc' := 45) (S' := [(.int (0 : Int32)), (.int (y2 &&& (255 : Int32)))]) st3 ?_
  refine Go.st (pc' := 46) (S' := [(.int ((y2 &&& (255 : Int32)) <<< ((0 : Int32) &&& 31)))]) (fun t_ k_ => XS.ishl X3.here hx rfl (hb hby d26_45) rfl k_) ?_
  refine Go.st (pc' := 47) (S' := [(.ref b), (.int ((y2 &&& (255 : Int32)) <<< ((0 : Int32) &&& 31)))]) (fun t_ k_ => XS.aloadN X3.here hx rfl (hb hby d26_46) rfl rfl k_) ?_
  refine Go.st (pc' := 48) (S' := [(.int (3 : Int32)), (.ref b), (.int ((y2 &&& (255 : Int32)) <<< ((0 : Int32) &&& 31)))]) (fun t_ k_ => XS.iloadN X3.here hx rfl (hb hby d26_47) rfl k_) ?_
  obtain ⟨cl4, Ar4, -, q4a, q4b, q4c, q4d⟩ := id V_b
  refine Go.st (pc' := 49) (S' := [(.int y3), (.int ((y2 &&& (255 : Int32)) <<< ((0 : Int32) &&& 31)))]) (fun t_ k_ => X3.baloadBytes hx (j := (3 : Int32)) (v := (.int y3)) (by rw [e3]; exact Ar4.1) (State.isArrayOf_alike hZ.alike Ar4.2.1) Ar4.2.2 (inb_of q4a ⟨by decide, by decide⟩) (q4c.at (inb_of q4a ⟨by decide, by decide⟩) rfl) (g := (mkF m 48 #[.val (.ref b), .val (.int (3 : Int32))] [(.int (3 : Int32)), (.ref b), (.int ((y2 &&& (255 : Int32)) <<< ((0 : Int32) &&& 31)))])) rfl rfl (hb hby d26_48) t_ k_) ?_
  refine Go.st (pc' := 52) (S' := [(.int (255 : Int32)), (.int y3), (.int ((y2 &&& (255 : Int32)) <<< ((0 : Int32) &&& 31)))]) (fun t_ k_ => XS.sipush X3.here hx rfl (hb hby d26_49) k_) ?_
  refine Go.st (pc' := 53) (S' := [(.int (y3 &&& (255 : Int32))), (.int ((y2 &&& (255 : Int32)) <<< ((0 : Int32) &&& 31)))]) (fun t_ k_ => XS.iand X3.here hx rfl (hb hby d26_52) rfl k_) ?_
  obtain ⟨T5, X5, e5, st5⟩ := getS2 X3 hx hZ hown (host := "") (Or.inl (wd hw 110 rfl)) Via.refl e3 (SL.ext O0.2) (g := (mkF m 53 #[.val (.ref b), .val (.int (3 : Int32))] [(.int (y3 &&& (255 : Int32))), (.int ((y2 &&& (255 : Int32)) <<< ((0 : Int32) &&& 31)))])) rfl (hb hby d26_53)
  refine Go.st (pc' := 56) (S' := [(.int (8 : Int32)), (.int (y3 &&& (255 : Int32))), (.int ((y2 &&& (255 : Int32)) <<< ((0 : Int32) &&& 31)))]) st5 ?_
  refine Go.st (pc' := 57) (S' := [(.int ((y3 &&& (255 : Int32)) <<< ((8 : Int32) &&& 31))), (.int ((y2 &&& (255 : Int32)) <<< ((0 : Int32) &&& 31)))]) (fun t_ k_ => XS.ishl X5.here hx rfl (hb hby d26_56) rfl k_) ?_
  refine Go.st (pc' := 58) (S' := [(.int (((y2 &&& (255 : Int32)) <<< ((0 : Int32) &&& 31)) ||| ((y3 &&& (255 : Int32)) <<< ((8 : Int32) &&& 31))))]) (fun t_ k_ => XS.ior X5.here hx rfl (hb hby d26_57) rfl k_) ?_
  refine Go.st (pc' := 59) (S' := [(.int ((((y2 &&& (255 : Int32)) <<< ((0 : Int32) &&& 31)) ||| ((y3 &&& (255 : Int32)) <<< ((8 : Int32) &&& 31))).toUInt32.toUInt16.toUInt32.toInt32))]) (fun t_ k_ => XS.i2c X5.here hx rfl (hb hby d26_58) rfl k_) ?_
  exact Go.retN X5 hx hlk hret (by simp) (hb hby d26_59) (by decide) (by decide) (by rw [e5]; exact ⟨_, rfl, rfl, N0, rfl⟩)

def Qac3_1U (Z : State) (x1 : Int32) (h0 : Heap) (n0 : Nat) (v : Option Value) (h : Heap) (L : List Loc) : Prop := v = some (.int x1) ∧ Fr n0 L ∧ h = h0
def roomac3_1U : Room := { frames := 3, cells := 0, slots := 0, locals := 40 }
theorem rmac3_1U (l : Launch) (Z : State) (a0 : Array Value) (hw : ∀ d ∈ tables_1, d.before a0 Z = true) (ws : List Jvm.Cond) (t1 : Addr) (k1 : ClassId) (fm : Value) (x0 : Int32) (x1 : Int32) (x2 : Int32) (h0 : Heap) (n0 : Nat) (Z0 : n0 ≤ h0.size) (hfm : fm.isRef = true) (SF : Sta Z Z.heap "jdk/internal/util/Preconditions" "SIOOBE_FORMATTER" "Ljava/util/function/BiFunction;" fm) (O0 : Old Z n0 h0) (SD : Sta Z Z.heap "java/lang/StringUTF16" "$assertionsDisabled" "Z" (.int (1 : Int32))) (SH : Sta Z Z.heap "java/lang/StringUTF16" "HI_BYTE_SHIFT" "I" (.int (0 : Int32))) (SL : Sta Z Z.heap "java/lang/StringUTF16" "LO_BYTE_SHIFT" "I" (.int (8 : Int32))) (V_t1 : Arv Z h0 t1 k1 .byte (6 : Int32) [(.int (own_lo x0)), (.int (own_hi x0)), (.int (own_lo x1)), (.int (own_hi x1)), (.int (own_lo x2)), (.int (own_hi x2))] (.int (0 : Int32))) (bd0 : ¬ x0 < 0 ∧ ¬ (65535 : Int32) < x0) (bd1 : ¬ x1 < 0 ∧ ¬ (65535 : Int32) < x1) (bd2 : ¬ x2 < 0 ∧ ¬ (65535 : Int32) < x2)  :
    OMet l (⟨"java/lang/StringUTF16", "charAt", "([BI)C"⟩ : MethodName) jdk_52_method_83_code 2 (some .char) ws roomac3_1U #[(.ref t1), (.int (1 : Int32))] Z h0 (Qac3_1U Z x1 h0 n0) := by
  refine own_met (Q := (Qac3_1U Z x1 h0 n0)) (L0 := #[.val (.ref t1), .val (.int (1 : Int32))]) (plainFor_of_name pn_6) (fun m => by first | (simp [entryFrame, mkF, argsToLocals, Value.category]; done) | rfl) ?_
  intro p e s m below meth c T0 X0 hx hby hml hown hnm hret hlk hZ e0
  have N0 := Fr.nil n0
  refine Go.st (pc' := 1) (S' := [(.int (1 : Int32))]) (fun t_ k_ => XS.iloadN X0.here hx rfl (hb hby d27_0) rfl k_) ?_
  refine Go.st (pc' := 2) (S' := [(.ref t1), (.int (1 : Int32))]) (fun t_ k_ => XS.aloadN X0.here hx rfl (hb hby d27_1) rfl rfl k_) ?_
  obtain ⟨_, _, ⟨T1, L1, k1, n1⟩, -, X1, ⟨Lc1, hQ1, l1, y1, z1⟩, st1⟩ := Jvm.LawKit.callS X0 hx (y := (⟨"java/lang/StringUTF16", "checkIndex", "(I[B)V"⟩ : MethodName)) hown (mvT hZ (wd hw 117 rfl)) (mvT hZ (wd hw 118 rfl)) (mvT hZ (wd hw 86 rfl)) (mvT hZ (wd hw 119 rfl)) (by decide) (backOf (W := 0) (rmuck1_6 l Z a0 hw [] t1 _ fm ((own_lo x0)) ((own_hi x0)) ((own_lo x1)) ((own_hi x1)) ((own_lo x2)) ((own_hi x2)) h0 n0 Z0 hfm SF O0 V_t1) hZ (wd hw 119 rfl) (wd hw 86 rfl) (by decide) (by decide)) (g := (mkF m 2 #[.val (.ref t1), .val (.int (1 : Int32))] [(.ref t1), (.int (1 : Int32))])) rfl (by rw [hml]; rfl) (argsL := [(.int (1 : Int32)), (.ref t1)]) (rest := []) (lenOf pd_12 rfl) rfl (by show 2 * 0 + _ ≤ _; exact Nat.le_of_eq rfl) (hb hby d27_2) (fun _ _ => ⟨rfl, e0, (by decide : 0 + 0 ≤ _), (by decide : 0 + 0 ≤ _)⟩)
  dsimp only [Pt.U, Pt.locs, Pt.cells, Pt.slots] at X1 l1 y1 z1 st1 hQ1
  subst l1 y1 z1
  obtain ⟨rfl, N1q, e1⟩ := hQ1
  have N1 := Fr.app N0 N1q
  refine Go.st (pc' := 5) (S' := []) st1 ?_
  refine Go.st (pc' := 6) (S' := [(.ref t1)]) (fun t_ k_ => XS.aloadN X1.here hx rfl (hb hby d27_5) rfl rfl k_) ?_
  refine Go.st (pc' := 7) (S' := [(.int (1 : Int32)), (.ref t1)]) (fun t_ k_ => XS.iloadN X1.here hx rfl (hb hby d27_6) rfl k_) ?_
  obtain ⟨_, _, ⟨T2, L2, k2, n2⟩, -, X2, ⟨Lc2, hQ2, l2, y2, z2⟩, st2⟩ := Jvm.LawKit.callS X1 hx (y := (⟨"java/lang/StringUTF16", "getChar", "([BI)C"⟩ : MethodName)) hown (mvT hZ (wd hw 111 rfl)) (mvT hZ (wd hw 112 rfl)) (mvT hZ (wd hw 86 rfl)) (mvT hZ (wd hw 113 rfl)) (by decide) (backOf (W := 0) (rmgetc3_1 l Z a0 hw [] t1 _ ((own_lo x0)) ((own_hi x0)) ((own_lo x1)) ((own_hi x1)) ((own_lo x2)) ((own_hi x2)) h0 n0 Z0 SD SH SL O0 V_t1) hZ (wd hw 113 rfl) (wd hw 86 rfl) (by decide) (by decide)) (g := (mkF m 7 #[.val (.ref t1), .val (.int (1 : Int32))] [(.int (1 : Int32)), (.ref t1)])) rfl (by rw [hml]; rfl) (argsL := [(.ref t1), (.int (1 : Int32))]) (rest := []) (lenOf pd_10 rfl) rfl (by show 2 * 0 + _ ≤ _; exact Nat.le_of_eq rfl) (hb hby d27_7) (fun _ _ => ⟨rfl, e1, (by decide : 0 + 0 ≤ _), (by decide : 0 + 0 ≤ _)⟩)
  dsimp only [Pt.U, Pt.locs, Pt.cells, Pt.slots] at X2 l2 y2 z2 st2 hQ2
  subst l2 y2 z2
  obtain ⟨rc2, rfl, hr2, N2q, e2⟩ := hQ2
  have N2 := Fr.app N1 N2q
  replace hr2 : rc2 = x1 := hr2.trans (by rw [own_gc _ bd1.1 bd1.2, own_nch0 _ bd1.1 bd1.2])
  subst rc2
  refine Go.st (pc' := 10) (S' := [(.int x1)]) st2 ?_
  exact Go.retN X2 hx hlk hret (by simp) (hb hby d27_10) (by decide) (by decide) (by rw [e2]; exact ⟨by rw [own_nch0 _ bd1.1 bd1.2], N2, rfl⟩)

def Qca3_1U (Z : State) (x1 : Int32) (h0 : Heap) (n0 : Nat) (v : Option Value) (h : Heap) (L : List Loc) : Prop := v = some (.int x1) ∧ Fr n0 L ∧ h = h0
def roomca3_1U : Room := { frames := 4, cells := 0, slots := 0, locals := 53 }
theorem rmca3_1U (l : Launch) (Z : State) (a0 : Array Value) (hw : ∀ d ∈ tables_1, d.before a0 Z = true) (ws : List Jvm.Cond) (a1 : Addr) (t1 : Addr) (k1 : ClassId) (fm : Value) (gC : Int32) (x0 : Int32) (x1 : Int32) (x2 : Int32) (h0 : Heap) (n0 : Nat) (Z0 : n0 ≤ h0.size) (SC : Sta Z Z.heap "java/lang/String" "COMPACT_STRINGS" "Z" (.int gC)) (PC : ¬ (gC = (0 : Int32))) (O0 : Old Z n0 h0) (hfm : fm.isRef = true) (SF : Sta Z Z.heap "jdk/internal/util/Preconditions" "SIOOBE_FORMATTER" "Ljava/util/function/BiFunction;" fm) (SD : Sta Z Z.heap "java/lang/StringUTF16" "$assertionsDisabled" "Z" (.int (1 : Int32))) (SH : Sta Z Z.heap "java/lang/StringUTF16" "HI_BYTE_SHIFT" "I" (.int (0 : Int32))) (SL : Sta Z Z.heap "java/lang/StringUTF16" "LO_BYTE_SHIFT" "I" (.int (8 : Int32))) (E_a1 : Exa Z h0 a1 "java/lang/String") (Fc_a1 : Fld Z h0 a1 "java/lang/String" "coder" "B" (.int (1 : Int32))) (Fv_a1 : Fld Z h0 a1 "java/lang/String" "value" "[B" (.ref t1)) (V_t1 : Arv Z h0 t1 k1 .byte (6 : Int32) [(.int (own_lo x0)), (.int (own_hi x0)), (.int (own_lo x1)), (.int (own_hi x1)), (.int (own_lo x2)), (.int (own_hi x2))] (.int (0 : Int32))) (bd0 : ¬ x0 < 0 ∧ ¬ (65535 : Int32) < x0) (bd1 : ¬ x1 < 0 ∧ ¬ (65535 : Int32) < x1) (bd2 : ¬ x2 < 0 ∧ ¬ (65535 : Int32) < x2)  :
    OMet l (⟨"java/lang/String", "charAt", "(I)C"⟩ : MethodName) jdk_42_method_56_code 2 (some .char) ws roomca3_1U #[(.ref a1), (.int (1 : Int32))] Z h0 (Qca3_1U Z x1 h0 n0) := by
  refine own_met (Q := (Qca3_1U Z x1 h0 n0)) (L0 := #[.val (.ref a1), .val (.int (1 : Int32))]) (plainFor_of_name pn_0) (fun m => by first | (simp [entryFrame, mkF, argsToLocals, Value.category]; done) | rfl) ?_
  intro p e s m below meth c T0 X0 hx hby hml hown hnm hret hlk hZ e0
  have N0 := Fr.nil n0
  refine Go.st (pc' := 1) (S' := [(.ref a1)]) (fun t_ k_ => XS.aloadN X0.here hx rfl (hb hby d12_0) rfl rfl k_) ?_
  obtain ⟨cq1, kq1, q1a, q1b, q1c⟩ := isOf hZ e0 E_a1
  obtain ⟨_, _, ⟨T1, L1, k1, n1⟩, -, X1, ⟨Lc1, hQ1, l1, y1, z1⟩, st1⟩ := X0.virtualBack hx (y := (⟨"java/lang/String", "isLatin1", "()Z"⟩ : MethodName)) (z := (⟨"java/lang/String", "isLatin1", "()Z"⟩ : MethodName)) hown (mvT hZ (wd hw 60 rfl)) (mvT hZ (wd hw 61 rfl)) (notFace_of_selects (args := #[]) (mvT hZ (wd hw 63 rfl))) (mvT hZ (wd hw 63 rfl)) (mvT hZ (wd hw 62 rfl)) (by decide) (backOf (W := 0) (rmisLatin1U l Z a0 hw [] a1 gC h0 n0 Z0 SC PC O0 Fc_a1) hZ (wd hw 64 rfl) (wd hw 7 rfl) (by decide) (by decide)) q1a q1c (g := (mkF m 1 #[.val (.ref a1), .val (.int (1 : Int32))] [(.ref a1)])) rfl (by rw [hml]; rfl) (Steps.refl _) (argsL := []) (rest := []) (lenOf pd_7 rfl) rfl (by show 2 * 0 + _ ≤ _; exact Nat.le_of_eq rfl) (hb hby d12_1) (fun _ _ => ⟨rfl, e0, (by decide : 0 + 0 ≤ _), (by decide : 0 + 0 ≤ _)⟩)
  dsimp only [Pt.U, Pt.locs, Pt.cells, Pt.slots] at X1 l1 y1 z1 st1 hQ1
  subst l1 y1 z1
  obtain ⟨rfl, N1q, e1⟩ := hQ1
  have N1 := Fr.app N0 N1q
  refine Go.tr (pc' := 4) (S' := [(.int (0 : Int32))]) st1 ?_
  refine Go.st (pc' := 16) (S' := []) (fun t_ k_ => XS.ifYes X1.here hx rfl (pc0 := 4) (pc' := 16) rfl (hb hby d12_4) rfl ((if0 _ _).trans (teq (by decide : ((0 : Int32) = (0 : Int32)))).1) (by decide) (by decide) k_) ?_
  refine Go.st (pc' := 17) (S' := [(.ref a1)]) (fun t_ k_ => XS.aloadN X1.here hx rfl (hb hby d12_16) rfl rfl k_) ?_
  obtain ⟨T2, X2, e2, st2⟩ := getF X1 hx hZ hown (host := "") (Or.inl (wd hw 27 rfl)) Via.refl e1 Fv_a1 (g := (mkF m 17 #[.val (.ref a1), .val (.int (1 : Int32))] [(.ref a1)])) rfl rfl (hb hby d12_17)
  refine Go.st (pc' := 20) (S' := [(.ref t1)]) st2 ?_
  refine Go.st (pc' := 21) (S' := [(.int (1 : Int32)), (.ref t1)]) (fun t_ k_ => XS.iloadN X2.here hx rfl (hb hby d12_20) rfl k_) ?_
  obtain ⟨_, _, ⟨T3, L3, k3, n3⟩, -, X3, ⟨Lc3, hQ3, l3, y3, z3⟩, st3⟩ := Jvm.LawKit.callS X2 hx (y := (⟨"java/lang/StringUTF16", "charAt", "([BI)C"⟩ : MethodName)) hown (mvT hZ (wd hw 114 rfl)) (mvT hZ (wd hw 115 rfl)) (mvT hZ (wd hw 86 rfl)) (mvT hZ (wd hw 116 rfl)) (by decide) (backOf (W := 0) (rmac3_1U l Z a0 hw [] t1 _ fm x0 x1 x2 h0 n0 Z0 hfm SF O0 SD SH SL V_t1 bd0 bd1 bd2 ) hZ (wd hw 116 rfl) (wd hw 86 rfl) (by decide) (by decide)) (g := (mkF m 21 #[.val (.ref a1), .val (.int (1 : Int32))] [(.int (1 : Int32)), (.ref t1)])) rfl (by rw [hml]; rfl) (argsL := [(.ref t1), (.int (1 : Int32))]) (rest := []) (lenOf pd_10 rfl) rfl (by show 2 * 0 + _ ≤ _; exact Nat.le_of_eq rfl) (hb hby d12_21) (fun _ _ => ⟨rfl, e2, (by decide : 0 + 0 ≤ _), (by decide : 0 + 0 ≤ _)⟩)
  dsimp only [Pt.U, Pt.locs, Pt.cells, Pt.slots] at X3 l3 y3 z3 st3 hQ3
  subst l3 y3 z3
  obtain ⟨rfl, N3q, e3⟩ := hQ3
  have N3 := Fr.app N1 N3q
  refine Go.st (pc' := 24) (S' := [(.int x1)]) st3 ?_
  exact Go.retN X3 hx hlk hret (by simp) (hb hby d12_24) (by decide) (by decide) (by rw [e3]; exact ⟨by rw [own_nch0 _ bd1.1 bd1.2], N3, rfl⟩)
def Qca3_1C (Z : State) (x1 : Int32) (h0 : Heap) (n0 : Nat) (v : Option Value) (h : Heap) (L : List Loc) : Prop := v = some (.int x1) ∧ Fr n0 L ∧ h = h0
theorem rmca3_1C (l : Launch) (Z : State) (a0 : Array Value) (hw : ∀ d ∈ tables_1, d.before a0 Z = true) (ws : List Jvm.Cond) (a1 : Addr) (fm : Value) (gC : Int32) (x0 : Int32) (x1 : Int32) (x2 : Int32) (h0 : Heap) (n0 : Nat) (Z0 : n0 ≤ h0.size) (ss : own_ST Z gC fm) (O0 : Old Z n0 h0) (C1 : own_CS3 Z h0 a1 x0 x1 x2) (bd0 : own_bd x0) (bd1 : own_bd x1) (bd2 : own_bd x2) :
    OMet l (⟨"java/lang/String", "charAt", "(I)C"⟩ : MethodName) jdk_42_method_56_code 2 (some .char) ws roomca3_1L #[(.ref a1), (.int (1 : Int32))] Z h0 (Qca3_1C Z x1 h0 n0) := by
  obtain ⟨SC, PC, hfm, SF, SD, SH, SL⟩ := id ss
  obtain ⟨E_a1, t1, k1, ⟨Fc, Fv, V1, la0, la1, la2, -⟩ | ⟨Fc, Fv, V1⟩⟩ := C1
  · exact rmca3_1L l Z a0 hw ws a1 t1 k1 fm gC x0 x1 x2 h0 n0 Z0 SC PC O0 hfm SF  E_a1 Fc Fv V1 bd0 bd1 bd2 la0 la1 la2
  · exact rmca3_1U l Z a0 hw ws a1 t1 k1 fm gC x0 x1 x2 h0 n0 Z0 SC PC O0 hfm SF SD SH SL E_a1 Fc Fv V1 bd0 bd1 bd2 


def Qac3_0L (Z : State) (x0 : Int32) (h0 : Heap) (n0 : Nat) (v : Option Value) (h : Heap) (L : List Loc) : Prop := v = some (.int x0) ∧ Fr n0 L ∧ h = h0
def roomac3_0L : Room := { frames := 2, cells := 0, slots := 0, locals := 27 }
theorem rmac3_0L (l : Launch) (Z : State) (a0 : Array Value) (hw : ∀ d ∈ tables_1, d.before a0 Z = true) (ws : List Jvm.Cond) (t1 : Addr) (k1 : ClassId) (fm : Value) (x0 : Int32) (x1 : Int32) (x2 : Int32) (h0 : Heap) (n0 : Nat) (Z0 : n0 ≤ h0.size) (hfm : fm.isRef = true) (SF : Sta Z Z.heap "jdk/internal/util/Preconditions" "SIOOBE_FORMATTER" "Ljava/util/function/BiFunction;" fm) (O0 : Old Z n0 h0) (V_t1 : Arv Z h0 t1 k1 .byte (3 : Int32) [(.int (x0.toInt8.toInt32)), (.int (x1.toInt8.toInt32)), (.int (x2.toInt8.toInt32))] (.int (0 : Int32))) (bd0 : ¬ x0 < 0 ∧ ¬ (65535 : Int32) < x0) (bd1 : ¬ x1 < 0 ∧ ¬ (65535 : Int32) < x1) (bd2 : ¬ x2 < 0 ∧ ¬ (65535 : Int32) < x2) (la0 : ¬ (255 : Int32) < x0) (la1 : ¬ (255 : Int32) < x1) (la2 : ¬ (255 : Int32) < x2) :
    OMet l (⟨"java/lang/StringLatin1", "charAt", "([BI)C"⟩ : MethodName) jdk_43_method_2_code 2 (some .char) ws roomac3_0L #[(.ref t1), (.int (0 : Int32))] Z h0 (Qac3_0L Z x0 h0 n0) := by
  refine own_met (Q := (Qac3_0L Z x0 h0 n0)) (L0 := #[.val (.ref t1), .val (.int (0 : Int32))]) (plainFor_of_name pn_1) (fun m => by first | (simp [entryFrame, mkF, argsToLocals, Value.category]; done) | rfl) ?_
  intro p e s m below meth c T0 X0 hx hby hml hown hnm hret hlk hZ e0
  have N0 := Fr.nil n0
  refine Go.st (pc' := 1) (S' := [(.int (0 : Int32))]) (fun t_ k_ => XS.iloadN X0.here hx rfl (hb hby d14_0) rfl k_) ?_
  refine Go.st (pc' := 2) (S' := [(.ref t1), (.int (0 : Int32))]) (fun t_ k_ => XS.aloadN X0.here hx rfl (hb hby d14_1) rfl rfl k_) ?_
  obtain ⟨cl1, Ar1, -, q1a, q1b, -, -⟩ := id V_t1
  refine Go.st (pc' := 3) (S' := [(.int (3 : Int32)), (.int (0 : Int32))]) (fun t_ k_ => own_len X0 hx hZ e0 Ar1 q1a q1b (g := (mkF m 2 #[.val (.ref t1), .val (.int (0 : Int32))] [(.ref t1), (.int (0 : Int32))])) rfl rfl (hb hby d14_2) t_ k_) ?_
  obtain ⟨_, _, ⟨T2, L2, k2, n2⟩, -, X2, ⟨Lc2, hQ2, l2, y2, z2⟩, st2⟩ := Jvm.LawKit.callS X0 hx (y := (⟨"java/lang/String", "checkIndex", "(II)V"⟩ : MethodName)) hown (mvT hZ (wd hw 68 rfl)) (mvT hZ (wd hw 69 rfl)) (mvT hZ (wd hw 7 rfl)) (mvT hZ (wd hw 70 rfl)) (by decide) (backOf (W := 0) (rm15 l Z a0 hw [] 0 3 fm h0 n0 Z0 hfm SF O0 (by decide) (by decide)) hZ (wd hw 70 rfl) (wd hw 7 rfl) (by decide) (by decide)) (g := (mkF m 3 #[.val (.ref t1), .val (.int (0 : Int32))] [(.int (3 : Int32)), (.int (0 : Int32))])) rfl (by rw [hml]; rfl) (argsL := [(.int (0 : Int32)), (.int (3 : Int32))]) (rest := []) (lenOf pd_9 rfl) rfl (by show 2 * 0 + _ ≤ _; exact Nat.le_of_eq rfl) (hb hby d14_3) (fun _ _ => ⟨rfl, e0, (by decide : 0 + 0 ≤ _), (by decide : 0 + 0 ≤ _)⟩)
  dsimp only [Pt.U, Pt.locs, Pt.cells, Pt.slots] at X2 l2 y2 z2 st2 hQ2
  subst l2 y2 z2
  obtain ⟨rfl, N2q, e2⟩ := hQ2
  have N2 := Fr.app N0 N2q
  refine Go.st (pc' := 6) (S' := []) st2 ?_
  refine Go.st (pc' := 7) (S' := [(.ref t1)]) (fun t_ k_ => XS.aloadN X2.here hx rfl (hb hby d14_6) rfl rfl k_) ?_
  refine Go.st (pc' := 8) (S' := [(.int (0 : Int32)), (.ref t1)]) (fun t_ k_ => XS.iloadN X2.here hx rfl (hb hby d14_7) rfl k_) ?_
  obtain ⟨cl3, Ar3, -, q3a, q3b, q3c, q3d⟩ := id V_t1
  refine Go.st (pc' := 9) (S' := [(.int (x0.toInt8.toInt32))]) (fun t_ k_ => X2.baloadBytes hx (j := (0 : Int32)) (v := (.int (x0.toInt8.toInt32))) (by rw [e2]; exact Ar3.1) (State.isArrayOf_alike hZ.alike Ar3.2.1) Ar3.2.2 (inb_of q3a ⟨by decide, by decide⟩) (q3c.at (inb_of q3a ⟨by decide, by decide⟩) rfl) (g := (mkF m 8 #[.val (.ref t1), .val (.int (0 : Int32))] [(.int (0 : Int32)), (.ref t1)])) rfl rfl (hb hby d14_8) t_ k_) ?_
  refine Go.st (pc' := 12) (S' := [(.int (255 : Int32)), (.int (x0.toInt8.toInt32))]) (fun t_ k_ => XS.sipush X2.here hx rfl (hb hby d14_9) k_) ?_
  refine Go.st (pc' := 13) (S' := [(.int ((x0.toInt8.toInt32) &&& (255 : Int32)))]) (fun t_ k_ => XS.iand X2.here hx rfl (hb hby d14_12) rfl k_) ?_
  refine Go.st (pc' := 14) (S' := [(.int (((x0.toInt8.toInt32) &&& (255 : Int32)).toUInt32.toUInt16.toUInt32.toInt32))]) (fun t_ k_ => XS.i2c X2.here hx rfl (hb hby d14_13) rfl k_) ?_
  exact Go.retN X2 hx hlk hret (by simp) (hb hby d14_14) (by decide) (by decide) (by rw [e2]; exact ⟨by rw [own_lc _ bd0.1 la0, own_nch0 _ bd0.1 bd0.2], N2, rfl⟩)

def Qca3_0L (Z : State) (x0 : Int32) (h0 : Heap) (n0 : Nat) (v : Option Value) (h : Heap) (L : List Loc) : Prop := v = some (.int x0) ∧ Fr n0 L ∧ h = h0
def roomca3_0L : Room := { frames := 4, cells := 0, slots := 0, locals := 53 }
theorem rmca3_0L (l : Launch) (Z : State) (a0 : Array Value) (hw : ∀ d ∈ tables_1, d.before a0 Z = true) (ws : List Jvm.Cond) (a1 : Addr) (t1 : Addr) (k1 : ClassId) (fm : Value) (gC : Int32) (x0 : Int32) (x1 : Int32) (x2 : Int32) (h0 : Heap) (n0 : Nat) (Z0 : n0 ≤ h0.size) (SC : Sta Z Z.heap "java/lang/String" "COMPACT_STRINGS" "Z" (.int gC)) (PC : ¬ (gC = (0 : Int32))) (O0 : Old Z n0 h0) (hfm : fm.isRef = true) (SF : Sta Z Z.heap "jdk/internal/util/Preconditions" "SIOOBE_FORMATTER" "Ljava/util/function/BiFunction;" fm) (E_a1 : Exa Z h0 a1 "java/lang/String") (Fc_a1 : Fld Z h0 a1 "java/lang/String" "coder" "B" (.int (0 : Int32))) (Fv_a1 : Fld Z h0 a1 "java/lang/String" "value" "[B" (.ref t1)) (V_t1 : Arv Z h0 t1 k1 .byte (3 : Int32) [(.int (x0.toInt8.toInt32)), (.int (x1.toInt8.toInt32)), (.int (x2.toInt8.toInt32))] (.int (0 : Int32))) (bd0 : ¬ x0 < 0 ∧ ¬ (65535 : Int32) < x0) (bd1 : ¬ x1 < 0 ∧ ¬ (65535 : Int32) < x1) (bd2 : ¬ x2 < 0 ∧ ¬ (65535 : Int32) < x2) (la0 : ¬ (255 : Int32) < x0) (la1 : ¬ (255 : Int32) < x1) (la2 : ¬ (255 : Int32) < x2) :
    OMet l (⟨"java/lang/String", "charAt", "(I)C"⟩ : MethodName) jdk_42_method_56_code 2 (some .char) ws roomca3_0L #[(.ref a1), (.int (0 : Int32))] Z h0 (Qca3_0L Z x0 h0 n0) := by
  refine own_met (Q := (Qca3_0L Z x0 h0 n0)) (L0 := #[.val (.ref a1), .val (.int (0 : Int32))]) (plainFor_of_name pn_0) (fun m => by first | (simp [entryFrame, mkF, argsToLocals, Value.category]; done) | rfl) ?_
  intro p e s m below meth c T0 X0 hx hby hml hown hnm hret hlk hZ e0
  have N0 := Fr.nil n0
  refine Go.st (pc' := 1) (S' := [(.ref a1)]) (fun t_ k_ => XS.aloadN X0.here hx rfl (hb hby d12_0) rfl rfl k_) ?_
  obtain ⟨cq1, kq1, q1a, q1b, q1c⟩ := isOf hZ e0 E_a1
  obtain ⟨_, _, ⟨T1, L1, k1, n1⟩, -, X1, ⟨Lc1, hQ1, l1, y1, z1⟩, st1⟩ := X0.virtualBack hx (y := (⟨"java/lang/String", "isLatin1", "()Z"⟩ : MethodName)) (z := (⟨"java/lang/String", "isLatin1", "()Z"⟩ : MethodName)) hown (mvT hZ (wd hw 60 rfl)) (mvT hZ (wd hw 61 rfl)) (notFace_of_selects (args := #[]) (mvT hZ (wd hw 63 rfl))) (mvT hZ (wd hw 63 rfl)) (mvT hZ (wd hw 62 rfl)) (by decide) (backOf (W := 0) (rm13 l Z a0 hw [] a1 gC h0 n0 Z0 SC PC O0 Fc_a1) hZ (wd hw 64 rfl) (wd hw 7 rfl) (by decide) (by decide)) q1a q1c (g := (mkF m 1 #[.val (.ref a1), .val (.int (0 : Int32))] [(.ref a1)])) rfl (by rw [hml]; rfl) (Steps.refl _) (argsL := []) (rest := []) (lenOf pd_7 rfl) rfl (by show 2 * 0 + _ ≤ _; exact Nat.le_of_eq rfl) (hb hby d12_1) (fun _ _ => ⟨rfl, e0, (by decide : 0 + 0 ≤ _), (by decide : 0 + 0 ≤ _)⟩)
  dsimp only [Pt.U, Pt.locs, Pt.cells, Pt.slots] at X1 l1 y1 z1 st1 hQ1
  subst l1 y1 z1
  obtain ⟨rfl, N1q, e1⟩ := hQ1
  have N1 := Fr.app N0 N1q
  refine Go.tr (pc' := 4) (S' := [(.int (1 : Int32))]) st1 ?_
  refine Go.st (pc' := 7) (S' := []) (fun t_ k_ => XS.ifNo X1.here hx rfl (hb hby d12_4) rfl ((if0 _ _).trans (feq (by decide : ¬ ((1 : Int32) = (0 : Int32)))).1) k_) ?_
  refine Go.st (pc' := 8) (S' := [(.ref a1)]) (fun t_ k_ => XS.aloadN X1.here hx rfl (hb hby d12_7) rfl rfl k_) ?_
  obtain ⟨T2, X2, e2, st2⟩ := getF X1 hx hZ hown (host := "") (Or.inl (wd hw 27 rfl)) Via.refl e1 Fv_a1 (g := (mkF m 8 #[.val (.ref a1), .val (.int (0 : Int32))] [(.ref a1)])) rfl rfl (hb hby d12_8)
  refine Go.st (pc' := 11) (S' := [(.ref t1)]) st2 ?_
  refine Go.st (pc' := 12) (S' := [(.int (0 : Int32)), (.ref t1)]) (fun t_ k_ => XS.iloadN X2.here hx rfl (hb hby d12_11) rfl k_) ?_
  obtain ⟨_, _, ⟨T3, L3, k3, n3⟩, -, X3, ⟨Lc3, hQ3, l3, y3, z3⟩, st3⟩ := Jvm.LawKit.callS X2 hx (y := (⟨"java/lang/StringLatin1", "charAt", "([BI)C"⟩ : MethodName)) hown (mvT hZ (wd hw 65 rfl)) (mvT hZ (wd hw 66 rfl)) (mvT hZ (wd hw 12 rfl)) (mvT hZ (wd hw 67 rfl)) (by decide) (backOf (W := 0) (rmac3_0L l Z a0 hw [] t1 _ fm x0 x1 x2 h0 n0 Z0 hfm SF O0  V_t1 bd0 bd1 bd2 la0 la1 la2) hZ (wd hw 67 rfl) (wd hw 12 rfl) (by decide) (by decide)) (g := (mkF m 12 #[.val (.ref a1), .val (.int (0 : Int32))] [(.int (0 : Int32)), (.ref t1)])) rfl (by rw [hml]; rfl) (argsL := [(.ref t1), (.int (0 : Int32))]) (rest := []) (lenOf pd_10 rfl) rfl (by show 2 * 0 + _ ≤ _; exact Nat.le_of_eq rfl) (hb hby d12_12) (fun _ _ => ⟨rfl, e2, (by decide : 0 + 0 ≤ _), (by decide : 0 + 0 ≤ _)⟩)
  dsimp only [Pt.U, Pt.locs, Pt.cells, Pt.slots] at X3 l3 y3 z3 st3 hQ3
  subst l3 y3 z3
  obtain ⟨rfl, N3q, e3⟩ := hQ3
  have N3 := Fr.app N1 N3q
  refine Go.st (pc' := 15) (S' := [(.int x0)]) st3 ?_
  exact Go.retN X3 hx hlk hret (by simp) (hb hby d12_15) (by decide) (by decide) (by rw [e3]; exact ⟨by rw [own_nch0 _ bd0.1 bd0.2], N3, rfl⟩)

def Quck0_6 (Z : State) (b : Addr) (kb : ClassId) (fm : Value) (y0 : Int32) (y1 : Int32) (y2 : Int32) (y3 : Int32) (y4 : Int32) (y5 : Int32) (h0 : Heap) (n0 : Nat) (v : Option Value) (h : Heap) (L : List Loc) : Prop := v = none ∧ Fr n0 L ∧ h = h0
def roomuck0_6 : Room := { frames := 2, cells := 0, slots := 0, locals := 27 }
theorem rmuck0_6 (l : Launch) (Z : State) (a0 : Array Value) (hw : ∀ d ∈ tables_1, d.before a0 Z = true) (ws : List Jvm.Cond) (b : Addr) (kb : ClassId) (fm : Value) (y0 : Int32) (y1 : Int32) (y2 : Int32) (y3 : Int32) (y4 : Int32) (y5 : Int32) (h0 : Heap) (n0 : Nat) (Z0 : n0 ≤ h0.size) (hfm : fm.isRef = true) (SF : Sta Z Z.heap "jdk/internal/util/Preconditions" "SIOOBE_FORMATTER" "Ljava/util/function/BiFunction;" fm) (O0 : Old Z n0 h0) (V_b : Arv Z h0 b kb .byte (6 : Int32) [(.int y0), (.int y1), (.int y2), (.int y3), (.int y4), (.int y5)] (.int (0 : Int32))) :
    OMet l (⟨"java/lang/StringUTF16", "checkIndex", "(I[B)V"⟩ : MethodName) jdk_52_method_91_code 2 none ws roomuck0_6 #[(.int (0 : Int32)), (.ref b)] Z h0 (Quck0_6 Z b kb fm y0 y1 y2 y3 y4 y5 h0 n0) := by
  refine own_met (Q := (Quck0_6 Z b kb fm y0 y1 y2 y3 y4 y5 h0 n0)) (L0 := #[.val (.int (0 : Int32)), .val (.ref b)]) (plainFor_of_name pn_6) (fun m => by first | (simp [entryFrame, mkF, argsToLocals, Value.category]; done) | rfl) ?_
  intro p e s m below meth c T0 X0 hx hby hml hown hnm hret hlk hZ e0
  have N0 := Fr.nil n0
  refine Go.st (pc' := 1) (S' := [(.int (0 : Int32))]) (fun t_ k_ => XS.iloadN X0.here hx rfl (hb hby d28_0) rfl k_) ?_
  refine Go.st (pc' := 2) (S' := [(.ref b), (.int (0 : Int32))]) (fun t_ k_ => XS.aloadN X0.here hx rfl (hb hby d28_1) rfl rfl k_) ?_
  obtain ⟨_, _, ⟨T1, L1, k1, n1⟩, -, X1, ⟨Lc1, hQ1, l1, y1, z1⟩, st1⟩ := Jvm.LawKit.callS X0 hx (y := (⟨"java/lang/StringUTF16", "length", "([B)I"⟩ : MethodName)) hown (mvT hZ (wd hw 120 rfl)) (mvT hZ (wd hw 121 rfl)) (mvT hZ (wd hw 86 rfl)) (mvT hZ (wd hw 122 rfl)) (by decide) (backOf (W := 1) (rmulen6 l Z a0 hw [] b _ (y0) (y1) (y2) (y3) (y4) (y5) h0 n0 Z0 V_b) hZ (wd hw 122 rfl) (wd hw 86 rfl) (by decide) (by decide)) (g := (mkF m 2 #[.val (.int (0 : Int32)), .val (.ref b)] [(.ref b), (.int (0 : Int32))])) rfl (by rw [hml]; rfl) (argsL := [(.ref b)]) (rest := [(.int (0 : Int32))]) (lenOf pd_11 rfl) rfl (by show 2 * 0 + _ ≤ _; exact Nat.le_of_eq rfl) (hb hby d28_2) (fun _ _ => ⟨rfl, e0, (by decide : 0 + 0 ≤ _), (by decide : 0 + 0 ≤ _)⟩)
  dsimp only [Pt.U, Pt.locs, Pt.cells, Pt.slots] at X1 l1 y1 z1 st1 hQ1
  subst l1 y1 z1
  obtain ⟨rfl, N1q, e1⟩ := hQ1
  have N1 := Fr.app N0 N1q
  refine Go.st (pc' := 5) (S' := [(.int (3 : Int32)), (.int (0 : Int32))]) st1 ?_
  obtain ⟨_, _, ⟨T2, L2, k2, n2⟩, -, X2, ⟨Lc2, hQ2, l2, y2, z2⟩, st2⟩ := Jvm.LawKit.callS X1 hx (y := (⟨"java/lang/String", "checkIndex", "(II)V"⟩ : MethodName)) hown (mvT hZ (wd hw 123 rfl)) (mvT hZ (wd hw 69 rfl)) (mvT hZ (wd hw 7 rfl)) (mvT hZ (wd hw 70 rfl)) (by decide) (backOf (W := 0) (rm15 l Z a0 hw [] 0 3 fm h0 n0 Z0 hfm SF O0 (by decide) (by decide)) hZ (wd hw 70 rfl) (wd hw 7 rfl) (by decide) (by decide)) (g := (mkF m 5 #[.val (.int (0 : Int32)), .val (.ref b)] [(.int (3 : Int32)), (.int (0 : Int32))])) rfl (by rw [hml]; rfl) (argsL := [(.int (0 : Int32)), (.int (3 : Int32))]) (rest := []) (lenOf pd_9 rfl) rfl (by show 2 * 0 + _ ≤ _; exact Nat.le_of_eq rfl) (hb hby d28_5) (fun _ _ => ⟨rfl, e1, (by decide : 0 + 0 ≤ _), (by decide : 0 + 0 ≤ _)⟩)
  dsimp only [Pt.U, Pt.locs, Pt.cells, Pt.slots] at X2 l2 y2 z2 st2 hQ2
  subst l2 y2 z2
  obtain ⟨rfl, N2q, e2⟩ := hQ2
  have N2 := Fr.app N1 N2q
  refine Go.st (pc' := 8) (S' := []) st2 ?_
  exact Go.retV X2 hx hlk hret (hb hby d28_8) (by decide) (by decide) (by rw [e2]; exact ⟨rfl, N2, rfl⟩)

def Qgetc3_0 (Z : State) (y0 : Int32) (y1 : Int32) (h0 : Heap) (n0 : Nat) (v : Option Value) (h : Heap) (L : List Loc) : Prop := ∃ r : Int32, v = some (.int r) ∧ r = nar .char (own_gv y0 y1) ∧ Fr n0 L ∧ h = h0
def roomgetc3_0 : Room := { frames := 0, cells := 0, slots := 0, locals := 0 }
theorem rmgetc3_0 (l : Launch) (Z : State) (a0 : Array Value) (hw : ∀ d ∈ tables_1, d.before a0 Z = true) (ws : List Jvm.Cond) (b : Addr) (kb : ClassId) (y0 : Int32) (y1 : Int32) (y2 : Int32) (y3 : Int32) (y4 : Int32) (y5 : Int32) (h0 : Heap) (n0 : Nat) (Z0 : n0 ≤ h0.size) (SD : Sta Z Z.heap "java/lang/StringUTF16" "$assertionsDisabled" "Z" (.int (1 : Int32))) (SH : Sta Z Z.heap "java/lang/StringUTF16" "HI_BYTE_SHIFT" "I" (.int (0 : Int32))) (SL : Sta Z Z.heap "java/lang/StringUTF16" "LO_BYTE_SHIFT" "I" (.int (8 : Int32))) (O0 : Old Z n0 h0) (V_b : Arv Z h0 b kb .byte (6 : Int32) [(.int y0), (.int y1), (.int y2), (.int y3), (.int y4), (.int y5)] (.int (0 : Int32))) :
    OMet l (⟨"java/lang/StringUTF16", "getChar", "([BI)C"⟩ : MethodName) jdk_52_method_5_code 2 (some .char) ws roomgetc3_0 #[(.ref b), (.int (0 : Int32))] Z h0 (Qgetc3_0 Z y0 y1 h0 n0) := by
  refine own_met (Q := (Qgetc3_0 Z y0 y1 h0 n0)) (L0 := #[.val (.ref b), .val (.int (0 : Int32))]) (plainFor_of_name pn_6) (fun m => by first | (simp [entryFrame, mkF, argsToLocals, Value.category]; done) | rfl) ?_
  intro p e s m below meth c T0 X0 hx hby hml hown hnm hret hlk hZ e0
  have N0 := Fr.nil n0
  obtain ⟨T1, X1, e1, st1⟩ := getS2 X0 hx hZ hown (host := "") (Or.inl (wd hw 108 rfl)) Via.refl e0 (SD.ext O0.2) (g := (mkF m 0 #[.val (.ref b), .val (.int (0 : Int32))] [])) rfl (hb hby d26_0)
  refine Go.st (pc' := 3) (S' := [(.int (1 : Int32))]) st1 ?_
  refine Go.st (pc' := 28) (S' := []) (fun t_ k_ => XS.ifYes X1.here hx rfl (pc0 := 3) (pc' := 28) rfl (hb hby d26_3) rfl ((if0 _ _).trans (feq (by decide : ¬ ((1 : Int32) = (0 : Int32)))).2) (by decide) (by decide) k_) ?_
  refine Go.st (pc' := 29) (S' := [(.int (0 : Int32))]) (fun t_ k_ => XS.iloadN X1.here hx rfl (hb hby d26_28) rfl k_) ?_
  refine Go.st (pc' := 30) (S' := [(.int (1 : Int32)), (.int (0 : Int32))]) (fun t_ k_ => XS.iconst X1.here hx rfl (hb hby d26_29) k_) ?_
  refine Go.st (pc' := 31) (S' := [(.int ((0 : Int32) <<< ((1 : Int32) &&& 31)))]) (fun t_ k_ => XS.ishl X1.here hx rfl (hb hby d26_30) rfl k_) ?_
  rw [show ((0 : Int32) <<< ((1 : Int32) &&& 31)) = (0 : Int32) from by decide]
  refine Go.st (pc' := 32) (S' := []) (fun t_ k_ => XS.istoreN X1.here hx rfl (hb hby d26_31) rfl (l' := #[.val (.ref b), .val (.int (0 : Int32))]) rfl k_) ?_
  refine Go.st (pc' := 33) (S' := [(.ref b)]) (fun t_ k_ => XS.aloadN X1.here hx rfl (hb hby d26_32) rfl rfl k_) ?_
  refine Go.st (pc' := 34) (S' := [(.int (0 : Int32)), (.ref b)]) (fun t_ k_ => XS.iloadN X1.here hx rfl (hb hby d26_33) rfl k_) ?_
  refine Go.st (pc' := 37) (S' := [(.int (0 : Int32)), (.ref b)]) (fun t_ k_ => XS.iinc X1.here hx rfl (hb hby d26_34) rfl (l' := #[.val (.ref b), .val (.int ((0 : Int32) + (1 : Int32)))]) rfl k_) ?_
  rw [show ((0 : Int32) + (1 : Int32)) = (1 : Int32) from by decide]
  obtain ⟨cl2, Ar2, -, q2a, q2b, q2c, q2d⟩ := id V_b
  refine Go.st (pc' := 38) (S' := [(.int y0)]) (fun t_ k_ => X1.baloadBytes hx (j := (0 : Int32)) (v := (.int y0)) (by rw [e1]; exact Ar2.1) (State.isArrayOf_alike hZ.alike Ar2.2.1) Ar2.2.2 (inb_of q2a ⟨by decide, by decide⟩) (q2c.at (inb_of q2a ⟨by decide, by decide⟩) rfl) (g := (mkF m 37 #[.val (.ref b), .val (.int (1 : Int32))] [(.int (0 : Int32)), (.ref b)])) rfl rfl (hb hby d26_37) t_ k_) ?_
  refine Go.st (pc' := 41) (S' := [(.int (255 : Int32)), (.int y0)]) (fun t_ k_ => XS.sipush X1.here hx rfl (hb hby d26_38) k_) ?_
  refine Go.st (pc' := 42) (S' := [(.int (y0 &&& (255 : Int32)))]) (fun t_ k_ => XS.iand X1.here hx rfl (hb hby d26_41) rfl k_) ?_
  obtain ⟨T3, X3, e3, st3⟩ := getS2 X1 hx hZ hown (host := "") (Or.inl (wd hw 109 rfl)) Via.refl e1 (SH.ext O0.2) (g := (mkF m 42 #[.val (.ref b), .val (.int (1 : Int32))] [(.int (y0 &&& (255 : Int32)))])) rfl (hb hby d26_42)
  refine Go.st (pc' := 45) (S' := [(.int (0 : Int32)), (.int (y0 &&& (255 : Int32)))]) st3 ?_
  refine Go.st (pc' := 46) (S' := [(.int ((y0 &&& (255 : Int32)) <<< ((0 : Int32) &&& 31)))]) (fun t_ k_ => XS.ishl X3.here hx rfl (hb hby d26_45) rfl k_) ?_
  refine Go.st (pc' := 47) (S' := [(.ref b), (.int ((y0 &&& (255 : Int32)) <<< ((0 : Int32) &&& 31)))]) (fun t_ k_ => XS.aloadN X3.here hx rfl (hb hby d26_46) rfl rfl k_) ?_
  refine Go.st (pc' := 48) (S' := [(.int (1 : Int32)), (.ref b), (.int ((y0 &&& (255 : Int32)) <<< ((0 : Int32) &&& 31)))]) (fun t_ k_ => XS.iloadN X3.here hx rfl (hb hby d26_47) rfl k_) ?_
  obtain ⟨cl4, Ar4, -, q4a, q4b, q4c, q4d⟩ := id V_b
  refine Go.st (pc' := 49) (S' := [(.int y1), (.int ((y0 &&& (255 : Int32)) <<< ((0 : Int32) &&& 31)))]) (fun t_ k_ => X3.baloadBytes hx (j := (1 : Int32)) (v := (.int y1)) (by rw [e3]; exact Ar4.1) (State.isArrayOf_alike hZ.alike Ar4.2.1) Ar4.2.2 (inb_of q4a ⟨by decide, by decide⟩) (q4c.at (inb_of q4a ⟨by decide, by decide⟩) rfl) (g := (mkF m 48 #[.val (.ref b), .val (.int (1 : Int32))] [(.int (1 : Int32)), (.ref b), (.int ((y0 &&& (255 : Int32)) <<< ((0 : Int32) &&& 31)))])) rfl rfl (hb hby d26_48) t_ k_) ?_
  refine Go.st (pc' := 52) (S' := [(.int (255 : Int32)), (.int y1), (.int ((y0 &&& (255 : Int32)) <<< ((0 : Int32) &&& 31)))]) (fun t_ k_ => XS.sipush X3.here hx rfl (hb hby d26_49) k_) ?_
  refine Go.st (pc' := 53) (S' := [(.int (y1 &&& (255 : Int32))), (.int ((y0 &&& (255 : Int32)) <<< ((0 : Int32) &&& 31)))]) (fun t_ k_ => XS.iand X3.here hx rfl (hb hby d26_52) rfl k_) ?_
  obtain ⟨T5, X5, e5, st5⟩ := getS2 X3 hx hZ hown (host := "") (Or.inl (wd hw 110 rfl)) Via.refl e3 (SL.ext O0.2) (g := (mkF m 53 #[.val (.ref b), .val (.int (1 : Int32))] [(.int (y1 &&& (255 : Int32))), (.int ((y0 &&& (255 : Int32)) <<< ((0 : Int32) &&& 31)))])) rfl (hb hby d26_53)
  refine Go.st (pc' := 56) (S' := [(.int (8 : Int32)), (.int (y1 &&& (255 : Int32))), (.int ((y0 &&& (255 : Int32)) <<< ((0 : Int32) &&& 31)))]) st5 ?_
  refine Go.st (pc' := 57) (S' := [(.int ((y1 &&& (255 : Int32)) <<< ((8 : Int32) &&& 31))), (.int ((y0 &&& (255 : Int32)) <<< ((0 : Int32) &&& 31)))]) (fun t_ k_ => XS.ishl X5.here hx rfl (hb hby d26_56) rfl k_) ?_
  refine Go.st (pc' := 58) (S' := [(.int (((y0 &&& (255 : Int32)) <<< ((0 : Int32) &&& 31)) ||| ((y1 &&& (255 : Int32)) <<< ((8 : Int32) &&& 31))))]) (fun t_ k_ => XS.ior X5.here hx rfl (hb hby d26_57) rfl k_) ?_
  refine Go.st (pc' := 59) (S' := [(.int ((((y0 &&& (255 : Int32)) <<< ((0 : Int32) &&& 31)) ||| ((y1 &&& (255 : Int32)) <<< ((8 : Int32) &&& 31))).toUInt32.toUInt16.toUInt32.toInt32))]) (fun t_ k_ => XS.i2c X5.here hx rfl (hb hby d26_58) rfl k_) ?_
  exact Go.retN X5 hx hlk hret (by simp) (hb hby d26_59) (by decide) (by decide) (by rw [e5]; exact ⟨_, rfl, rfl, N0, rfl⟩)

def Qac3_0U (Z : State) (x0 : Int32) (h0 : Heap) (n0 : Nat) (v : Option Value) (h : Heap) (L : List Loc) : Prop := v = some (.int x0) ∧ Fr n0 L ∧ h = h0
def roomac3_0U : Room := { frames := 3, cells := 0, slots := 0, locals := 40 }
theorem rmac3_0U (l : Launch) (Z : State) (a0 : Array Value) (hw : ∀ d ∈ tables_1, d.before a0 Z = true) (ws : List Jvm.Cond) (t1 : Addr) (k1 : ClassId) (fm : Value) (x0 : Int32) (x1 : Int32) (x2 : Int32) (h0 : Heap) (n0 : Nat) (Z0 : n0 ≤ h0.size) (hfm : fm.isRef = true) (SF : Sta Z Z.heap "jdk/internal/util/Preconditions" "SIOOBE_FORMATTER" "Ljava/util/function/BiFunction;" fm) (O0 : Old Z n0 h0) (SD : Sta Z Z.heap "java/lang/StringUTF16" "$assertionsDisabled" "Z" (.int (1 : Int32))) (SH : Sta Z Z.heap "java/lang/StringUTF16" "HI_BYTE_SHIFT" "I" (.int (0 : Int32))) (SL : Sta Z Z.heap "java/lang/StringUTF16" "LO_BYTE_SHIFT" "I" (.int (8 : Int32))) (V_t1 : Arv Z h0 t1 k1 .byte (6 : Int32) [(.int (own_lo x0)), (.int (own_hi x0)), (.int (own_lo x1)), (.int (own_hi x1)), (.int (own_lo x2)), (.int (own_hi x2))] (.int (0 : Int32))) (bd0 : ¬ x0 < 0 ∧ ¬ (65535 : Int32) < x0) (bd1 : ¬ x1 < 0 ∧ ¬ (65535 : Int32) < x1) (bd2 : ¬ x2 < 0 ∧ ¬ (65535 : Int32) < x2)  :
    OMet l (⟨"java/lang/StringUTF16", "charAt", "([BI)C"⟩ : MethodName) jdk_52_method_83_code 2 (some .char) ws roomac3_0U #[(.ref t1), (.int (0 : Int32))] Z h0 (Qac3_0U Z x0 h0 n0) := by
  refine own_met (Q := (Qac3_0U Z x0 h0 n0)) (L0 := #[.val (.ref t1), .val (.int (0 : Int32))]) (plainFor_of_name pn_6) (fun m => by first | (simp [entryFrame, mkF, argsToLocals, Value.category]; done) | rfl) ?_
  intro p e s m below meth c T0 X0 hx hby hml hown hnm hret hlk hZ e0
  have N0 := Fr.nil n0
  refine Go.st (pc' := 1) (S' := [(.int (0 : Int32))]) (fun t_ k_ => XS.iloadN X0.here hx rfl (hb hby d27_0) rfl k_) ?_
  refine Go.st (pc' := 2) (S' := [(.ref t1), (.int (0 : Int32))]) (fun t_ k_ => XS.aloadN X0.here hx rfl (hb hby d27_1) rfl rfl k_) ?_
  obtain ⟨_, _, ⟨T1, L1, k1, n1⟩, -, X1, ⟨Lc1, hQ1, l1, y1, z1⟩, st1⟩ := Jvm.LawKit.callS X0 hx (y := (⟨"java/lang/StringUTF16", "checkIndex", "(I[B)V"⟩ : MethodName)) hown (mvT hZ (wd hw 117 rfl)) (mvT hZ (wd hw 118 rfl)) (mvT hZ (wd hw 86 rfl)) (mvT hZ (wd hw 119 rfl)) (by decide) (backOf (W := 0) (rmuck0_6 l Z a0 hw [] t1 _ fm ((own_lo x0)) ((own_hi x0)) ((own_lo x1)) ((own_hi x1)) ((own_lo x2)) ((own_hi x2)) h0 n0 Z0 hfm SF O0 V_t1) hZ (wd hw 119 rfl) (wd hw 86 rfl) (by decide) (by decide)) (g := (mkF m 2 #[.val (.ref t1), .val (.int (0 : Int32))] [(.ref t1), (.int (0 : Int32))])) rfl (by rw [hml]; rfl) (argsL := [(.int (0 : Int32)), (.ref t1)]) (rest := []) (lenOf pd_12 rfl) rfl (by show 2 * 0 + _ ≤ _; exact Nat.le_of_eq rfl) (hb hby d27_2) (fun _ _ => ⟨rfl, e0, (by decide : 0 + 0 ≤ _), (by decide : 0 + 0 ≤ _)⟩)
  dsimp only [Pt.U, Pt.locs, Pt.cells, Pt.slots] at X1 l1 y1 z1 st1 hQ1
  subst l1 y1 z1
  obtain ⟨rfl, N1q, e1⟩ := hQ1
  have N1 := Fr.app N0 N1q
  refine Go.st (pc' := 5) (S' := []) st1 ?_
  refine Go.st (pc' := 6) (S' := [(.ref t1)]) (fun t_ k_ => XS.aloadN X1.here hx rfl (hb hby d27_5) rfl rfl k_) ?_
  refine Go.st (pc' := 7) (S' := [(.int (0 : Int32)), (.ref t1)]) (fun t_ k_ => XS.iloadN X1.here hx rfl (hb hby d27_6) rfl k_) ?_
  obtain ⟨_, _, ⟨T2, L2, k2, n2⟩, -, X2, ⟨Lc2, hQ2, l2, y2, z2⟩, st2⟩ := Jvm.LawKit.callS X1 hx (y := (⟨"java/lang/StringUTF16", "getChar", "([BI)C"⟩ : MethodName)) hown (mvT hZ (wd hw 111 rfl)) (mvT hZ (wd hw 112 rfl)) (mvT hZ (wd hw 86 rfl)) (mvT hZ (wd hw 113 rfl)) (by decide) (backOf (W := 0) (rmgetc3_0 l Z a0 hw [] t1 _ ((own_lo x0)) ((own_hi x0)) ((own_lo x1)) ((own_hi x1)) ((own_lo x2)) ((own_hi x2)) h0 n0 Z0 SD SH SL O0 V_t1) hZ (wd hw 113 rfl) (wd hw 86 rfl) (by decide) (by decide)) (g := (mkF m 7 #[.val (.ref t1), .val (.int (0 : Int32))] [(.int (0 : Int32)), (.ref t1)])) rfl (by rw [hml]; rfl) (argsL := [(.ref t1), (.int (0 : Int32))]) (rest := []) (lenOf pd_10 rfl) rfl (by show 2 * 0 + _ ≤ _; exact Nat.le_of_eq rfl) (hb hby d27_7) (fun _ _ => ⟨rfl, e1, (by decide : 0 + 0 ≤ _), (by decide : 0 + 0 ≤ _)⟩)
  dsimp only [Pt.U, Pt.locs, Pt.cells, Pt.slots] at X2 l2 y2 z2 st2 hQ2
  subst l2 y2 z2
  obtain ⟨rc2, rfl, hr2, N2q, e2⟩ := hQ2
  have N2 := Fr.app N1 N2q
  replace hr2 : rc2 = x0 := hr2.trans (by rw [own_gc _ bd0.1 bd0.2, own_nch0 _ bd0.1 bd0.2])
  subst rc2
  refine Go.st (pc' := 10) (S' := [(.int x0)]) st2 ?_
  exact Go.retN X2 hx hlk hret (by simp) (hb hby d27_10) (by decide) (by decide) (by rw [e2]; exact ⟨by rw [own_nch0 _ bd0.1 bd0.2], N2, rfl⟩)

def Qca3_0U (Z : State) (x0 : Int32) (h0 : Heap) (n0 : Nat) (v : Option Value) (h : Heap) (L : List Loc) : Prop := v = some (.int x0) ∧ Fr n0 L ∧ h = h0
def roomca3_0U : Room := { frames := 4, cells := 0, slots := 0, locals := 53 }
theorem rmca3_0U (l : Launch) (Z : State) (a0 : Array Value) (hw : ∀ d ∈ tables_1, d.before a0 Z = true) (ws : List Jvm.Cond) (a1 : Addr) (t1 : Addr) (k1 : ClassId) (fm : Value) (gC : Int32) (x0 : Int32) (x1 : Int32) (x2 : Int32) (h0 : Heap) (n0 : Nat) (Z0 : n0 ≤ h0.size) (SC : Sta Z Z.heap "java/lang/String" "COMPACT_STRINGS" "Z" (.int gC)) (PC : ¬ (gC = (0 : Int32))) (O0 : Old Z n0 h0) (hfm : fm.isRef = true) (SF : Sta Z Z.heap "jdk/internal/util/Preconditions" "SIOOBE_FORMATTER" "Ljava/util/function/BiFunction;" fm) (SD : Sta Z Z.heap "java/lang/StringUTF16" "$assertionsDisabled" "Z" (.int (1 : Int32))) (SH : Sta Z Z.heap "java/lang/StringUTF16" "HI_BYTE_SHIFT" "I" (.int (0 : Int32))) (SL : Sta Z Z.heap "java/lang/StringUTF16" "LO_BYTE_SHIFT" "I" (.int (8 : Int32))) (E_a1 : Exa Z h0 a1 "java/lang/String") (Fc_a1 : Fld Z h0 a1 "java/lang/String" "coder" "B" (.int (1 : Int32))) (Fv_a1 : Fld Z h0 a1 "java/lang/String" "value" "[B" (.ref t1)) (V_t1 : Arv Z h0 t1 k1 .byte (6 : Int32) [(.int (own_lo x0)), (.int (own_hi x0)), (.int (own_lo x1)), (.int (own_hi x1)), (.int (own_lo x2)), (.int (own_hi x2))] (.int (0 : Int32))) (bd0 : ¬ x0 < 0 ∧ ¬ (65535 : Int32) < x0) (bd1 : ¬ x1 < 0 ∧ ¬ (65535 : Int32) < x1) (bd2 : ¬ x2 < 0 ∧ ¬ (65535 : Int32) < x2)  :
    OMet l (⟨"java/lang/String", "charAt", "(I)C"⟩ : MethodName) jdk_42_method_56_code 2 (some .char) ws roomca3_0U #[(.ref a1), (.int (0 : Int32))] Z h0 (Qca3_0U Z x0 h0 n0) := by
  refine own_met (Q := (Qca3_0U Z x0 h0 n0)) (L0 := #[.val (.ref a1), .val (.int (0 : Int32))]) (plainFor_of_name pn_0) (fun m => by first | (simp [entryFrame, mkF, argsToLocals, Value.category]; done) | rfl) ?_
  intro p e s m below meth c T0 X0 hx hby hml hown hnm hret hlk hZ e0
  have N0 := Fr.nil n0
  refine Go.st (pc' := 1) (S' := [(.ref a1)]) (fun t_ k_ => XS.aloadN X0.here hx rfl (hb hby d12_0) rfl rfl k_) ?_
  obtain ⟨cq1, kq1, q1a, q1b, q1c⟩ := isOf hZ e0 E_a1
  obtain ⟨_, _, ⟨T1, L1, k1, n1⟩, -, X1, ⟨Lc1, hQ1, l1, y1, z1⟩, st1⟩ := X0.virtualBack hx (y := (⟨"java/lang/String", "isLatin1", "()Z"⟩ : MethodName)) (z := (⟨"java/lang/String", "isLatin1", "()Z"⟩ : MethodName)) hown (mvT hZ (wd hw 60 rfl)) (mvT hZ (wd hw 61 rfl)) (notFace_of_selects (args := #[]) (mvT hZ (wd hw 63 rfl))) (mvT hZ (wd hw 63 rfl)) (mvT hZ (wd hw 62 rfl)) (by decide) (backOf (W := 0) (rmisLatin1U l Z a0 hw [] a1 gC h0 n0 Z0 SC PC O0 Fc_a1) hZ (wd hw 64 rfl) (wd hw 7 rfl) (by decide) (by decide)) q1a q1c (g := (mkF m 1 #[.val (.ref a1), .val (.int (0 : Int32))] [(.ref a1)])) rfl (by rw [hml]; rfl) (Steps.refl _) (argsL := []) (rest := []) (lenOf pd_7 rfl) rfl (by show 2 * 0 + _ ≤ _; exact Nat.le_of_eq rfl) (hb hby d12_1) (fun _ _ => ⟨rfl, e0, (by decide : 0 + 0 ≤ _), (by decide : 0 + 0 ≤ _)⟩)
  dsimp only [Pt.U, Pt.locs, Pt.cells, Pt.slots] at X1 l1 y1 z1 st1 hQ1
  subst l1 y1 z1
  obtain ⟨rfl, N1q, e1⟩ := hQ1
  have N1 := Fr.app N0 N1q
  refine Go.tr (pc' := 4) (S' := [(.int (0 : Int32))]) st1 ?_
  refine Go.st (pc' := 16) (S' := []) (fun t_ k_ => XS.ifYes X1.here hx rfl (pc0 := 4) (pc' := 16) rfl (hb hby d12_4) rfl ((if0 _ _).trans (teq (by decide : ((0 : Int32) = (0 : Int32)))).1) (by decide) (by decide) k_) ?_
  refine Go.st (pc' := 17) (S' := [(.ref a1)]) (fun t_ k_ => XS.aloadN X1.here hx rfl (hb hby d12_16) rfl rfl k_) ?_
  obtain ⟨T2, X2, e2, st2⟩ := getF X1 hx hZ hown (host := "") (Or.inl (wd hw 27 rfl)) Via.refl e1 Fv_a1 (g := (mkF m 17 #[.val (.ref a1), .val (.int (0 : Int32))] [(.ref a1)])) rfl rfl (hb hby d12_17)
  refine Go.st (pc' := 20) (S' := [(.ref t1)]) st2 ?_
  refine Go.st (pc' := 21) (S' := [(.int (0 : Int32)), (.ref t1)]) (fun t_ k_ => XS.iloadN X2.here hx rfl (hb hby d12_20) rfl k_) ?_
  obtain ⟨_, _, ⟨T3, L3, k3, n3⟩, -, X3, ⟨Lc3, hQ3, l3, y3, z3⟩, st3⟩ := Jvm.LawKit.callS X2 hx (y := (⟨"java/lang/StringUTF16", "charAt", "([BI)C"⟩ : MethodName)) hown (mvT hZ (wd hw 114 rfl)) (mvT hZ (wd hw 115 rfl)) (mvT hZ (wd hw 86 rfl)) (mvT hZ (wd hw 116 rfl)) (by decide) (backOf (W := 0) (rmac3_0U l Z a0 hw [] t1 _ fm x0 x1 x2 h0 n0 Z0 hfm SF O0 SD SH SL V_t1 bd0 bd1 bd2 ) hZ (wd hw 116 rfl) (wd hw 86 rfl) (by decide) (by decide)) (g := (mkF m 21 #[.val (.ref a1), .val (.int (0 : Int32))] [(.int (0 : Int32)), (.ref t1)])) rfl (by rw [hml]; rfl) (argsL := [(.ref t1), (.int (0 : Int32))]) (rest := []) (lenOf pd_10 rfl) rfl (by show 2 * 0 + _ ≤ _; exact Nat.le_of_eq rfl) (hb hby d12_21) (fun _ _ => ⟨rfl, e2, (by decide : 0 + 0 ≤ _), (by decide : 0 + 0 ≤ _)⟩)
  dsimp only [Pt.U, Pt.locs, Pt.cells, Pt.slots] at X3 l3 y3 z3 st3 hQ3
  subst l3 y3 z3
  obtain ⟨rfl, N3q, e3⟩ := hQ3
  have N3 := Fr.app N1 N3q
  refine Go.st (pc' := 24) (S' := [(.int x0)]) st3 ?_
  exact Go.retN X3 hx hlk hret (by simp) (hb hby d12_24) (by decide) (by decide) (by rw [e3]; exact ⟨by rw [own_nch0 _ bd0.1 bd0.2], N3, rfl⟩)
def Qca3_0C (Z : State) (x0 : Int32) (h0 : Heap) (n0 : Nat) (v : Option Value) (h : Heap) (L : List Loc) : Prop := v = some (.int x0) ∧ Fr n0 L ∧ h = h0
theorem rmca3_0C (l : Launch) (Z : State) (a0 : Array Value) (hw : ∀ d ∈ tables_1, d.before a0 Z = true) (ws : List Jvm.Cond) (a1 : Addr) (fm : Value) (gC : Int32) (x0 : Int32) (x1 : Int32) (x2 : Int32) (h0 : Heap) (n0 : Nat) (Z0 : n0 ≤ h0.size) (ss : own_ST Z gC fm) (O0 : Old Z n0 h0) (C1 : own_CS3 Z h0 a1 x0 x1 x2) (bd0 : own_bd x0) (bd1 : own_bd x1) (bd2 : own_bd x2) :
    OMet l (⟨"java/lang/String", "charAt", "(I)C"⟩ : MethodName) jdk_42_method_56_code 2 (some .char) ws roomca3_0L #[(.ref a1), (.int (0 : Int32))] Z h0 (Qca3_0C Z x0 h0 n0) := by
  obtain ⟨SC, PC, hfm, SF, SD, SH, SL⟩ := id ss
  obtain ⟨E_a1, t1, k1, ⟨Fc, Fv, V1, la0, la1, la2, -⟩ | ⟨Fc, Fv, V1⟩⟩ := C1
  · exact rmca3_0L l Z a0 hw ws a1 t1 k1 fm gC x0 x1 x2 h0 n0 Z0 SC PC O0 hfm SF  E_a1 Fc Fv V1 bd0 bd1 bd2 la0 la1 la2
  · exact rmca3_0U l Z a0 hw ws a1 t1 k1 fm gC x0 x1 x2 h0 n0 Z0 SC PC O0 hfm SF SD SH SL E_a1 Fc Fv V1 bd0 bd1 bd2 


def roomare3 : Room := { frames := 5, cells := 2, slots := 24, locals := 66 }
theorem sgare3_3 {Z : State} {n0 : Nat} {h0 hh : Heap} (a1 : Addr) (p1 p2 : Int32) (fm : Value) (gC : Int32) (x0 : Int32) (x1 : Int32) (x2 : Int32) (ac : Int32) (ss : own_ST Z gC fm) (O0 : Old Z n0 hh) (Z0 : n0 ≤ hh.size) (K0 : Keep h0 hh []) (C1 : own_CS3 Z hh a1 x0 x1 x2) (bd0 : own_bd x0) (bd1 : own_bd x1) (bd2 : own_bd x2) (hac : ((((1 : Int32) &&& own_dg x0) &&& own_dg x1) &&& own_dg x2) = ac) :
    SegH Z n0 h0 hh roomare3 2 24 prog_5_method_3_code 6 "pechat/card/Digits" "are" (some .boolean) (Qare3 Z x0 x1 x2 p1 p2 h0 n0) 12 #[.val (.ref a1), .val (.int p1), .val (.int p2), .val (.int ac), .val (.int (3 : Int32)), .val (.int x2)] [] := by
  intro p l e s m args below meth c T0 locs a0 k0 vm0 X0 hx hZ hw hby hml hown hnm hret hlk e0 hs0 CR hS hk N0
  refine GoH.st (pc' := 14) (S' := [(.int (3 : Int32))]) (fun t_ k_ => XS.iload X0.here hx rfl (hb hby d8_12) rfl k_) ?_
  refine GoH.st (pc' := 15) (S' := [(.ref a1), (.int (3 : Int32))]) (fun t_ k_ => XS.aloadN X0.here hx rfl (hb hby d8_14) rfl rfl k_) ?_
  obtain ⟨cq1, kq1, q1a, q1b, q1c⟩ := isOf hZ e0 C1.exa
  obtain ⟨_, _, ⟨T1, L1, k1, n1⟩, -, X1, ⟨Lc1, hQ1, l1, y1, z1⟩, st1⟩ := X0.virtualBack hx (y := (⟨"java/lang/String", "length", "()I"⟩ : MethodName)) (z := (⟨"java/lang/String", "length", "()I"⟩ : MethodName)) hown (mvT hZ (wd hw 45 rfl)) (mvT hZ (wd hw 46 rfl)) (notFace_of_selects (args := #[]) (mvT hZ (wd hw 48 rfl))) (mvT hZ (wd hw 48 rfl)) (mvT hZ (wd hw 47 rfl)) (by decide) (backOf (W := 1) (rmlen3C l Z a0 hw [] a1 fm gC x0 x1 x2 hh n0 Z0 ss O0 C1 bd0 bd1 bd2) hZ (wd hw 49 rfl) (wd hw 7 rfl) (by decide) (by decide)) q1a q1c (g := (mkF m 15 #[.val (.ref a1), .val (.int p1), .val (.int p2), .val (.int ac), .val (.int (3 : Int32)), .val (.int x2)] [(.ref a1), (.int (3 : Int32))])) rfl (by rw [hml]; rfl) (Steps.refl _) (argsL := []) (rest := [(.int (3 : Int32))]) (lenOf pd_5 rfl) rfl (by show 2 * 0 + _ ≤ _; exact Nat.le_of_eq rfl) (hb hby d8_15) (fun _ _ => ⟨rfl, e0, (by decide : 2 + 0 ≤ _), (by decide : 24 + 0 ≤ _)⟩)
  dsimp only [Pt.U, Pt.locs, Pt.cells, Pt.slots] at X1 l1 y1 z1 st1 hQ1
  subst l1 y1 z1
  obtain ⟨rfl, N1q, e1⟩ := hQ1
  have N1 := Fr.app N0 N1q
  refine GoH.tr (pc' := 18) (S' := [(.int (3 : Int32)), (.int (3 : Int32))]) st1 ?_
  refine GoH.st (pc' := 57) (S' := []) (fun t_ k_ => XS.icmpYes X1.here hx rfl (pc0 := 18) (pc' := 57) rfl (hb hby d8_18) rfl (flt (by decide : ¬ ((3 : Int32) < (3 : Int32)))).2.1 (by decide) (by decide) k_) ?_
  refine GoH.st (pc' := 58) (S' := [(.int ac)]) (fun t_ k_ => XS.iloadN X1.here hx rfl (hb hby d8_57) rfl k_) ?_
  by_cases hc58_2 : ac = (0 : Int32)
  · refine GoH.st (pc' := 81) (S' := []) (fun t_ k_ => XS.ifYes X1.here hx rfl (pc0 := 58) (pc' := 81) rfl (hb hby d8_58) rfl ((if0 _ _).trans (teq hc58_2).1) (by decide) (by decide) k_) ?_
    refine GoH.st (pc' := 82) (S' := [(.int (0 : Int32))]) (fun t_ k_ => XS.iconst X1.here hx rfl (hb hby d8_81) k_) ?_
    exact GoH.retN X1 hx hlk hret (by simp) (hb hby d8_82) (by decide) (by decide) hS hk e1 hs0 hZ (own_EW hw) CR (by rw [e1]; exact ⟨(by rw [show own_are ((((1 : Int32) &&& own_dg x0) &&& own_dg x1) &&& own_dg x2) (3 : Int32) p1 p2 = own_are ac (3 : Int32) p1 p2 from congrArg (fun u_ => own_are u_ (3 : Int32) p1 p2) hac, own_are, if_pos hc58_2]; rfl), N1, K0⟩)
  · refine GoH.st (pc' := 61) (S' := []) (fun t_ k_ => XS.ifNo X1.here hx rfl (hb hby d8_58) rfl ((if0 _ _).trans (feq hc58_2).1) k_) ?_
    refine GoH.st (pc' := 62) (S' := [(.ref a1)]) (fun t_ k_ => XS.aloadN X1.here hx rfl (hb hby d8_61) rfl rfl k_) ?_
    obtain ⟨cq3, kq3, q3a, q3b, q3c⟩ := isOf hZ e1 C1.exa
    obtain ⟨_, _, ⟨T3, L3, k3, n3⟩, -, X3, ⟨Lc3, hQ3, l3, y3, z3⟩, st3⟩ := X1.virtualBack hx (y := (⟨"java/lang/String", "length", "()I"⟩ : MethodName)) (z := (⟨"java/lang/String", "length", "()I"⟩ : MethodName)) hown (mvT hZ (wd hw 45 rfl)) (mvT hZ (wd hw 46 rfl)) (notFace_of_selects (args := #[]) (mvT hZ (wd hw 48 rfl))) (mvT hZ (wd hw 48 rfl)) (mvT hZ (wd hw 47 rfl)) (by decide) (backOf (W := 0) (rmlen3C l Z a0 hw [] a1 fm gC x0 x1 x2 hh n0 Z0 ss O0 C1 bd0 bd1 bd2) hZ (wd hw 49 rfl) (wd hw 7 rfl) (by decide) (by decide)) q3a q3c (g := (mkF m 62 #[.val (.ref a1), .val (.int p1), .val (.int p2), .val (.int ac), .val (.int (3 : Int32)), .val (.int x2)] [(.ref a1)])) rfl (by rw [hml]; rfl) (Steps.refl _) (argsL := []) (rest := []) (lenOf pd_5 rfl) rfl (by show 2 * 0 + _ ≤ _; exact Nat.le_of_eq rfl) (hb hby d8_62) (fun _ _ => ⟨rfl, e1, (by decide : 2 + 0 ≤ _), (by decide : 24 + 0 ≤ _)⟩)
    dsimp only [Pt.U, Pt.locs, Pt.cells, Pt.slots] at X3 l3 y3 z3 st3 hQ3
    subst l3 y3 z3
    obtain ⟨rfl, N3q, e3⟩ := hQ3
    have N3 := Fr.app N1 N3q
    refine GoH.tr (pc' := 65) (S' := [(.int (3 : Int32))]) st3 ?_
    refine GoH.st (pc' := 66) (S' := [(.int p1), (.int (3 : Int32))]) (fun t_ k_ => XS.iloadN X3.here hx rfl (hb hby d8_65) rfl k_) ?_
    by_cases hc66_4 : (3 : Int32) < p1
    · refine GoH.st (pc' := 81) (S' := []) (fun t_ k_ => XS.icmpYes X3.here hx rfl (pc0 := 66) (pc' := 81) rfl (hb hby d8_66) rfl (tlt hc66_4).1 (by decide) (by decide) k_) ?_
      refine GoH.st (pc' := 82) (S' := [(.int (0 : Int32))]) (fun t_ k_ => XS.iconst X3.here hx rfl (hb hby d8_81) k_) ?_
      exact GoH.retN X3 hx hlk hret (by simp) (hb hby d8_82) (by decide) (by decide) hS hk e3 hs0 hZ (own_EW hw) CR (by rw [e3]; exact ⟨(by rw [show own_are ((((1 : Int32) &&& own_dg x0) &&& own_dg x1) &&& own_dg x2) (3 : Int32) p1 p2 = own_are ac (3 : Int32) p1 p2 from congrArg (fun u_ => own_are u_ (3 : Int32) p1 p2) hac, own_are, if_neg hc58_2, if_pos hc66_4]; rfl), N3, K0⟩)
    · refine GoH.st (pc' := 69) (S' := []) (fun t_ k_ => XS.icmpNo X3.here hx rfl (hb hby d8_66) rfl (flt hc66_4).1 k_) ?_
      refine GoH.st (pc' := 70) (S' := [(.ref a1)]) (fun t_ k_ => XS.aloadN X3.here hx rfl (hb hby d8_69) rfl rfl k_) ?_
      obtain ⟨cq5, kq5, q5a, q5b, q5c⟩ := isOf hZ e3 C1.exa
      obtain ⟨_, _, ⟨T5, L5, k5, n5⟩, -, X5, ⟨Lc5, hQ5, l5, y5, z5⟩, st5⟩ := X3.virtualBack hx (y := (⟨"java/lang/String", "length", "()I"⟩ : MethodName)) (z := (⟨"java/lang/String", "length", "()I"⟩ : MethodName)) hown (mvT hZ (wd hw 45 rfl)) (mvT hZ (wd hw 46 rfl)) (notFace_of_selects (args := #[]) (mvT hZ (wd hw 48 rfl))) (mvT hZ (wd hw 48 rfl)) (mvT hZ (wd hw 47 rfl)) (by decide) (backOf (W := 0) (rmlen3C l Z a0 hw [] a1 fm gC x0 x1 x2 hh n0 Z0 ss O0 C1 bd0 bd1 bd2) hZ (wd hw 49 rfl) (wd hw 7 rfl) (by decide) (by decide)) q5a q5c (g := (mkF m 70 #[.val (.ref a1), .val (.int p1), .val (.int p2), .val (.int ac), .val (.int (3 : Int32)), .val (.int x2)] [(.ref a1)])) rfl (by rw [hml]; rfl) (Steps.refl _) (argsL := []) (rest := []) (lenOf pd_5 rfl) rfl (by show 2 * 0 + _ ≤ _; exact Nat.le_of_eq rfl) (hb hby d8_70) (fun _ _ => ⟨rfl, e3, (by decide : 2 + 0 ≤ _), (by decide : 24 + 0 ≤ _)⟩)
      dsimp only [Pt.U, Pt.locs, Pt.cells, Pt.slots] at X5 l5 y5 z5 st5 hQ5
      subst l5 y5 z5
      obtain ⟨rfl, N5q, e5⟩ := hQ5
      have N5 := Fr.app N3 N5q
      refine GoH.tr (pc' := 73) (S' := [(.int (3 : Int32))]) st5 ?_
      refine GoH.st (pc' := 74) (S' := [(.int p2), (.int (3 : Int32))]) (fun t_ k_ => XS.iloadN X5.here hx rfl (hb hby d8_73) rfl k_) ?_
      by_cases hc74_6 : p2 < (3 : Int32)
      · refine GoH.st (pc' := 81) (S' := []) (fun t_ k_ => XS.icmpYes X5.here hx rfl (pc0 := 74) (pc' := 81) rfl (hb hby d8_74) rfl (tlt hc74_6).2.2.1 (by decide) (by decide) k_) ?_
        refine GoH.st (pc' := 82) (S' := [(.int (0 : Int32))]) (fun t_ k_ => XS.iconst X5.here hx rfl (hb hby d8_81) k_) ?_
        exact GoH.retN X5 hx hlk hret (by simp) (hb hby d8_82) (by decide) (by decide) hS hk e5 hs0 hZ (own_EW hw) CR (by rw [e5]; exact ⟨(by rw [show own_are ((((1 : Int32) &&& own_dg x0) &&& own_dg x1) &&& own_dg x2) (3 : Int32) p1 p2 = own_are ac (3 : Int32) p1 p2 from congrArg (fun u_ => own_are u_ (3 : Int32) p1 p2) hac, own_are, if_neg hc58_2, if_neg hc66_4, if_pos hc74_6]; rfl), N5, K0⟩)
      · refine GoH.st (pc' := 77) (S' := []) (fun t_ k_ => XS.icmpNo X5.here hx rfl (hb hby d8_74) rfl (flt hc74_6).2.2.1 k_) ?_
        refine GoH.st (pc' := 78) (S' := [(.int (1 : Int32))]) (fun t_ k_ => XS.iconst X5.here hx rfl (hb hby d8_77) k_) ?_
        refine GoH.st (pc' := 82) (S' := [(.int (1 : Int32))]) (fun t_ k_ => XS.goto X5.here hx rfl (pc0 := 78) (pc' := 82) rfl (hb hby d8_78) (by decide) (by decide) k_) ?_
        exact GoH.retN X5 hx hlk hret (by simp) (hb hby d8_82) (by decide) (by decide) hS hk e5 hs0 hZ (own_EW hw) CR (by rw [e5]; exact ⟨(by rw [show own_are ((((1 : Int32) &&& own_dg x0) &&& own_dg x1) &&& own_dg x2) (3 : Int32) p1 p2 = own_are ac (3 : Int32) p1 p2 from congrArg (fun u_ => own_are u_ (3 : Int32) p1 p2) hac, own_are, if_neg hc58_2, if_neg hc66_4, if_neg hc74_6]; rfl), N5, K0⟩)
theorem sgare3_2 {Z : State} {n0 : Nat} {h0 hh : Heap} (a1 : Addr) (p1 p2 : Int32) (fm : Value) (gC : Int32) (x0 : Int32) (x1 : Int32) (x2 : Int32) (ac : Int32) (ss : own_ST Z gC fm) (O0 : Old Z n0 hh) (Z0 : n0 ≤ hh.size) (K0 : Keep h0 hh []) (C1 : own_CS3 Z hh a1 x0 x1 x2) (bd0 : own_bd x0) (bd1 : own_bd x1) (bd2 : own_bd x2) (hac : (((1 : Int32) &&& own_dg x0) &&& own_dg x1) = ac) :
    SegH Z n0 h0 hh roomare3 2 24 prog_5_method_3_code 6 "pechat/card/Digits" "are" (some .boolean) (Qare3 Z x0 x1 x2 p1 p2 h0 n0) 12 #[.val (.ref a1), .val (.int p1), .val (.int p2), .val (.int ac), .val (.int (2 : Int32)), .val (.int x1)] [] := by
  intro p l e s m args below meth c T0 locs a0 k0 vm0 X0 hx hZ hw hby hml hown hnm hret hlk e0 hs0 CR hS hk N0
  refine GoH.st (pc' := 14) (S' := [(.int (2 : Int32))]) (fun t_ k_ => XS.iload X0.here hx rfl (hb hby d8_12) rfl k_) ?_
  refine GoH.st (pc' := 15) (S' := [(.ref a1), (.int (2 : Int32))]) (fun t_ k_ => XS.aloadN X0.here hx rfl (hb hby d8_14) rfl rfl k_) ?_
  obtain ⟨cq1, kq1, q1a, q1b, q1c⟩ := isOf hZ e0 C1.exa
  obtain ⟨_, _, ⟨T1, L1, k1, n1⟩, -, X1, ⟨Lc1, hQ1, l1, y1, z1⟩, st1⟩ := X0.virtualBack hx (y := (⟨"java/lang/String", "length", "()I"⟩ : MethodName)) (z := (⟨"java/lang/String", "length", "()I"⟩ : MethodName)) hown (mvT hZ (wd hw 45 rfl)) (mvT hZ (wd hw 46 rfl)) (notFace_of_selects (args := #[]) (mvT hZ (wd hw 48 rfl))) (mvT hZ (wd hw 48 rfl)) (mvT hZ (wd hw 47 rfl)) (by decide) (backOf (W := 1) (rmlen3C l Z a0 hw [] a1 fm gC x0 x1 x2 hh n0 Z0 ss O0 C1 bd0 bd1 bd2) hZ (wd hw 49 rfl) (wd hw 7 rfl) (by decide) (by decide)) q1a q1c (g := (mkF m 15 #[.val (.ref a1), .val (.int p1), .val (.int p2), .val (.int ac), .val (.int (2 : Int32)), .val (.int x1)] [(.ref a1), (.int (2 : Int32))])) rfl (by rw [hml]; rfl) (Steps.refl _) (argsL := []) (rest := [(.int (2 : Int32))]) (lenOf pd_5 rfl) rfl (by show 2 * 0 + _ ≤ _; exact Nat.le_of_eq rfl) (hb hby d8_15) (fun _ _ => ⟨rfl, e0, (by decide : 2 + 0 ≤ _), (by decide : 24 + 0 ≤ _)⟩)
  dsimp only [Pt.U, Pt.locs, Pt.cells, Pt.slots] at X1 l1 y1 z1 st1 hQ1
  subst l1 y1 z1
  obtain ⟨rfl, N1q, e1⟩ := hQ1
  have N1 := Fr.app N0 N1q
  refine GoH.tr (pc' := 18) (S' := [(.int (3 : Int32)), (.int (2 : Int32))]) st1 ?_
  refine GoH.st (pc' := 21) (S' := []) (fun t_ k_ => XS.icmpNo X1.here hx rfl (hb hby d8_18) rfl (tlt (by decide : ((2 : Int32) < (3 : Int32)))).2.1 k_) ?_
  refine GoH.st (pc' := 22) (S' := [(.ref a1)]) (fun t_ k_ => XS.aloadN X1.here hx rfl (hb hby d8_21) rfl rfl k_) ?_
  refine GoH.st (pc' := 24) (S' := [(.int (2 : Int32)), (.ref a1)]) (fun t_ k_ => XS.iload X1.here hx rfl (hb hby d8_22) rfl k_) ?_
  obtain ⟨cq2, kq2, q2a, q2b, q2c⟩ := isOf hZ e1 C1.exa
  obtain ⟨_, _, ⟨T2, L2, k2, n2⟩, -, X2, ⟨Lc2, hQ2, l2, y2, z2⟩, st2⟩ := X1.virtualBack hx (y := (⟨"java/lang/String", "charAt", "(I)C"⟩ : MethodName)) (z := (⟨"java/lang/String", "charAt", "(I)C"⟩ : MethodName)) hown (mvT hZ (wd hw 55 rfl)) (mvT hZ (wd hw 56 rfl)) (notFace_of_selects (args := #[]) (mvT hZ (wd hw 58 rfl))) (mvT hZ (wd hw 58 rfl)) (mvT hZ (wd hw 57 rfl)) (by decide) (backOf (W := 0) (rmca3_2C l Z a0 hw [] a1 fm gC x0 x1 x2 hh n0 Z0 ss O0 C1 bd0 bd1 bd2) hZ (wd hw 59 rfl) (wd hw 7 rfl) (by decide) (by decide)) q2a q2c (g := (mkF m 24 #[.val (.ref a1), .val (.int p1), .val (.int p2), .val (.int ac), .val (.int (2 : Int32)), .val (.int x1)] [(.int (2 : Int32)), (.ref a1)])) rfl (by rw [hml]; rfl) (Steps.refl _) (argsL := [(.int (2 : Int32))]) (rest := []) (lenOf pd_13 rfl) rfl (by show 2 * 0 + _ ≤ _; exact Nat.le_of_eq rfl) (hb hby d8_24) (fun _ _ => ⟨rfl, e1, (by decide : 2 + 0 ≤ _), (by decide : 24 + 0 ≤ _)⟩)
  dsimp only [Pt.U, Pt.locs, Pt.cells, Pt.slots] at X2 l2 y2 z2 st2 hQ2
  subst l2 y2 z2
  obtain ⟨rfl, N2q, e2⟩ := hQ2
  have N2 := Fr.app N1 N2q
  refine GoH.tr (pc' := 27) (S' := [(.int x2)]) st2 ?_
  refine GoH.st (pc' := 29) (S' := []) (fun t_ k_ => XS.istore X2.here hx rfl (hb hby d8_27) rfl (l' := #[.val (.ref a1), .val (.int p1), .val (.int p2), .val (.int ac), .val (.int (2 : Int32)), .val (.int x2)]) rfl k_) ?_
  refine GoH.st (pc' := 30) (S' := [(.int ac)]) (fun t_ k_ => XS.iloadN X2.here hx rfl (hb hby d8_29) rfl k_) ?_
  refine GoH.st (pc' := 32) (S' := [(.int x2), (.int ac)]) (fun t_ k_ => XS.iload X2.here hx rfl (hb hby d8_30) rfl k_) ?_
  refine GoH.st (pc' := 34) (S' := [(.int (48 : Int32)), (.int x2), (.int ac)]) (fun t_ k_ => XS.bipush X2.here hx rfl (hb hby d8_32) k_) ?_
  by_cases hc34_3 : x2 < (48 : Int32)
  · refine GoH.st (pc' := 48) (S' := [(.int ac)]) (fun t_ k_ => XS.icmpYes X2.here hx rfl (pc0 := 34) (pc' := 48) rfl (hb hby d8_34) rfl (tlt hc34_3).1 (by decide) (by decide) k_) ?_
    refine GoH.st (pc' := 49) (S' := [(.int (0 : Int32)), (.int ac)]) (fun t_ k_ => XS.iconst X2.here hx rfl (hb hby d8_48) k_) ?_
    refine GoH.st (pc' := 50) (S' := [(.int (ac &&& (0 : Int32)))]) (fun t_ k_ => XS.iand X2.here hx rfl (hb hby d8_49) rfl k_) ?_
    refine GoH.st (pc' := 51) (S' := []) (fun t_ k_ => XS.istoreN X2.here hx rfl (hb hby d8_50) rfl (l' := #[.val (.ref a1), .val (.int p1), .val (.int p2), .val (.int (ac &&& (0 : Int32))), .val (.int (2 : Int32)), .val (.int x2)]) rfl k_) ?_
    refine GoH.st (pc' := 54) (S' := []) (fun t_ k_ => XS.iinc X2.here hx rfl (hb hby d8_51) rfl (l' := #[.val (.ref a1), .val (.int p1), .val (.int p2), .val (.int (ac &&& (0 : Int32))), .val (.int ((2 : Int32) + (1 : Int32))), .val (.int x2)]) rfl k_) ?_
    rw [show ((2 : Int32) + (1 : Int32)) = (3 : Int32) from by decide]
    refine GoH.st (pc' := 12) (S' := []) (fun t_ k_ => XS.goto X2.here hx rfl (pc0 := 54) (pc' := 12) rfl (hb hby d8_54) (by decide) (by decide) k_) ?_
    exact sgare3_3 a1 p1 p2 fm gC x0 x1 x2 (ac &&& (0 : Int32)) ss O0 Z0 K0 C1 bd0 bd1 bd2 (own_and hac (own_dgA hc34_3)) (Stand.up X2 (by decide) (by decide)) hx hZ hw hby hml hown hnm hret hlk e2 hs0 CR hS hk N2
  · refine GoH.st (pc' := 37) (S' := [(.int ac)]) (fun t_ k_ => XS.icmpNo X2.here hx rfl (hb hby d8_34) rfl (flt hc34_3).1 k_) ?_
    refine GoH.st (pc' := 39) (S' := [(.int x2), (.int ac)]) (fun t_ k_ => XS.iload X2.here hx rfl (hb hby d8_37) rfl k_) ?_
    refine GoH.st (pc' := 41) (S' := [(.int (57 : Int32)), (.int x2), (.int ac)]) (fun t_ k_ => XS.bipush X2.here hx rfl (hb hby d8_39) k_) ?_
    by_cases hc41_4 : (57 : Int32) < x2
    · refine GoH.st (pc' := 48) (S' := [(.int ac)]) (fun t_ k_ => XS.icmpYes X2.here hx rfl (pc0 := 41) (pc' := 48) rfl (hb hby d8_41) rfl (tlt hc41_4).2.2.1 (by decide) (by decide) k_) ?_
      refine GoH.st (pc' := 49) (S' := [(.int (0 : Int32)), (.int ac)]) (fun t_ k_ => XS.iconst X2.here hx rfl (hb hby d8_48) k_) ?_
      refine GoH.st (pc' := 50) (S' := [(.int (ac &&& (0 : Int32)))]) (fun t_ k_ => XS.iand X2.here hx rfl (hb hby d8_49) rfl k_) ?_
      refine GoH.st (pc' := 51) (S' := []) (fun t_ k_ => XS.istoreN X2.here hx rfl (hb hby d8_50) rfl (l' := #[.val (.ref a1), .val (.int p1), .val (.int p2), .val (.int (ac &&& (0 : Int32))), .val (.int (2 : Int32)), .val (.int x2)]) rfl k_) ?_
      refine GoH.st (pc' := 54) (S' := []) (fun t_ k_ => XS.iinc X2.here hx rfl (hb hby d8_51) rfl (l' := #[.val (.ref a1), .val (.int p1), .val (.int p2), .val (.int (ac &&& (0 : Int32))), .val (.int ((2 : Int32) + (1 : Int32))), .val (.int x2)]) rfl k_) ?_
      rw [show ((2 : Int32) + (1 : Int32)) = (3 : Int32) from by decide]
      refine GoH.st (pc' := 12) (S' := []) (fun t_ k_ => XS.goto X2.here hx rfl (pc0 := 54) (pc' := 12) rfl (hb hby d8_54) (by decide) (by decide) k_) ?_
      exact sgare3_3 a1 p1 p2 fm gC x0 x1 x2 (ac &&& (0 : Int32)) ss O0 Z0 K0 C1 bd0 bd1 bd2 (own_and hac (own_dgB hc41_4)) (Stand.up X2 (by decide) (by decide)) hx hZ hw hby hml hown hnm hret hlk e2 hs0 CR hS hk N2
    · refine GoH.st (pc' := 44) (S' := [(.int ac)]) (fun t_ k_ => XS.icmpNo X2.here hx rfl (hb hby d8_41) rfl (flt hc41_4).2.2.1 k_) ?_
      refine GoH.st (pc' := 45) (S' := [(.int (1 : Int32)), (.int ac)]) (fun t_ k_ => XS.iconst X2.here hx rfl (hb hby d8_44) k_) ?_
      refine GoH.st (pc' := 49) (S' := [(.int (1 : Int32)), (.int ac)]) (fun t_ k_ => XS.goto X2.here hx rfl (pc0 := 45) (pc' := 49) rfl (hb hby d8_45) (by decide) (by decide) k_) ?_
      refine GoH.st (pc' := 50) (S' := [(.int (ac &&& (1 : Int32)))]) (fun t_ k_ => XS.iand X2.here hx rfl (hb hby d8_49) rfl k_) ?_
      refine GoH.st (pc' := 51) (S' := []) (fun t_ k_ => XS.istoreN X2.here hx rfl (hb hby d8_50) rfl (l' := #[.val (.ref a1), .val (.int p1), .val (.int p2), .val (.int (ac &&& (1 : Int32))), .val (.int (2 : Int32)), .val (.int x2)]) rfl k_) ?_
      refine GoH.st (pc' := 54) (S' := []) (fun t_ k_ => XS.iinc X2.here hx rfl (hb hby d8_51) rfl (l' := #[.val (.ref a1), .val (.int p1), .val (.int p2), .val (.int (ac &&& (1 : Int32))), .val (.int ((2 : Int32) + (1 : Int32))), .val (.int x2)]) rfl k_) ?_
      rw [show ((2 : Int32) + (1 : Int32)) = (3 : Int32) from by decide]
      refine GoH.st (pc' := 12) (S' := []) (fun t_ k_ => XS.goto X2.here hx rfl (pc0 := 54) (pc' := 12) rfl (hb hby d8_54) (by decide) (by decide) k_) ?_
      exact sgare3_3 a1 p1 p2 fm gC x0 x1 x2 (ac &&& (1 : Int32)) ss O0 Z0 K0 C1 bd0 bd1 bd2 (own_and hac (own_dgC hc34_3 hc41_4)) (Stand.up X2 (by decide) (by decide)) hx hZ hw hby hml hown hnm hret hlk e2 hs0 CR hS hk N2
theorem sgare3_1 {Z : State} {n0 : Nat} {h0 hh : Heap} (a1 : Addr) (p1 p2 : Int32) (fm : Value) (gC : Int32) (x0 : Int32) (x1 : Int32) (x2 : Int32) (ac : Int32) (ss : own_ST Z gC fm) (O0 : Old Z n0 hh) (Z0 : n0 ≤ hh.size) (K0 : Keep h0 hh []) (C1 : own_CS3 Z hh a1 x0 x1 x2) (bd0 : own_bd x0) (bd1 : own_bd x1) (bd2 : own_bd x2) (hac : ((1 : Int32) &&& own_dg x0) = ac) :
    SegH Z n0 h0 hh roomare3 2 24 prog_5_method_3_code 6 "pechat/card/Digits" "are" (some .boolean) (Qare3 Z x0 x1 x2 p1 p2 h0 n0) 12 #[.val (.ref a1), .val (.int p1), .val (.int p2), .val (.int ac), .val (.int (1 : Int32)), .val (.int x0)] [] := by
  intro p l e s m args below meth c T0 locs a0 k0 vm0 X0 hx hZ hw hby hml hown hnm hret hlk e0 hs0 CR hS hk N0
  refine GoH.st (pc' := 14) (S' := [(.int (1 : Int32))]) (fun t_ k_ => XS.iload X0.here hx rfl (hb hby d8_12) rfl k_) ?_
  refine GoH.st (pc' := 15) (S' := [(.ref a1), (.int (1 : Int32))]) (fun t_ k_ => XS.aloadN X0.here hx rfl (hb hby d8_14) rfl rfl k_) ?_
  obtain ⟨cq1, kq1, q1a, q1b, q1c⟩ := isOf hZ e0 C1.exa
  obtain ⟨_, _, ⟨T1, L1, k1, n1⟩, -, X1, ⟨Lc1, hQ1, l1, y1, z1⟩, st1⟩ := X0.virtualBack hx (y := (⟨"java/lang/String", "length", "()I"⟩ : MethodName)) (z := (⟨"java/lang/String", "length", "()I"⟩ : MethodName)) hown (mvT hZ (wd hw 45 rfl)) (mvT hZ (wd hw 46 rfl)) (notFace_of_selects (args := #[]) (mvT hZ (wd hw 48 rfl))) (mvT hZ (wd hw 48 rfl)) (mvT hZ (wd hw 47 rfl)) (by decide) (backOf (W := 1) (rmlen3C l Z a0 hw [] a1 fm gC x0 x1 x2 hh n0 Z0 ss O0 C1 bd0 bd1 bd2) hZ (wd hw 49 rfl) (wd hw 7 rfl) (by decide) (by decide)) q1a q1c (g := (mkF m 15 #[.val (.ref a1), .val (.int p1), .val (.int p2), .val (.int ac), .val (.int (1 : Int32)), .val (.int x0)] [(.ref a1), (.int (1 : Int32))])) rfl (by rw [hml]; rfl) (Steps.refl _) (argsL := []) (rest := [(.int (1 : Int32))]) (lenOf pd_5 rfl) rfl (by show 2 * 0 + _ ≤ _; exact Nat.le_of_eq rfl) (hb hby d8_15) (fun _ _ => ⟨rfl, e0, (by decide : 2 + 0 ≤ _), (by decide : 24 + 0 ≤ _)⟩)
  dsimp only [Pt.U, Pt.locs, Pt.cells, Pt.slots] at X1 l1 y1 z1 st1 hQ1
  subst l1 y1 z1
  obtain ⟨rfl, N1q, e1⟩ := hQ1
  have N1 := Fr.app N0 N1q
  refine GoH.tr (pc' := 18) (S' := [(.int (3 : Int32)), (.int (1 : Int32))]) st1 ?_
  refine GoH.st (pc' := 21) (S' := []) (fun t_ k_ => XS.icmpNo X1.here hx rfl (hb hby d8_18) rfl (tlt (by decide : ((1 : Int32) < (3 : Int32)))).2.1 k_) ?_
  refine GoH.st (pc' := 22) (S' := [(.ref a1)]) (fun t_ k_ => XS.aloadN X1.here hx rfl (hb hby d8_21) rfl rfl k_) ?_
  refine GoH.st (pc' := 24) (S' := [(.int (1 : Int32)), (.ref a1)]) (fun t_ k_ => XS.iload X1.here hx rfl (hb hby d8_22) rfl k_) ?_
  obtain ⟨cq2, kq2, q2a, q2b, q2c⟩ := isOf hZ e1 C1.exa
  obtain ⟨_, _, ⟨T2, L2, k2, n2⟩, -, X2, ⟨Lc2, hQ2, l2, y2, z2⟩, st2⟩ := X1.virtualBack hx (y := (⟨"java/lang/String", "charAt", "(I)C"⟩ : MethodName)) (z := (⟨"java/lang/String", "charAt", "(I)C"⟩ : MethodName)) hown (mvT hZ (wd hw 55 rfl)) (mvT hZ (wd hw 56 rfl)) (notFace_of_selects (args := #[]) (mvT hZ (wd hw 58 rfl))) (mvT hZ (wd hw 58 rfl)) (mvT hZ (wd hw 57 rfl)) (by decide) (backOf (W := 0) (rmca3_1C l Z a0 hw [] a1 fm gC x0 x1 x2 hh n0 Z0 ss O0 C1 bd0 bd1 bd2) hZ (wd hw 59 rfl) (wd hw 7 rfl) (by decide) (by decide)) q2a q2c (g := (mkF m 24 #[.val (.ref a1), .val (.int p1), .val (.int p2), .val (.int ac), .val (.int (1 : Int32)), .val (.int x0)] [(.int (1 : Int32)), (.ref a1)])) rfl (by rw [hml]; rfl) (Steps.refl _) (argsL := [(.int (1 : Int32))]) (rest := []) (lenOf pd_13 rfl) rfl (by show 2 * 0 + _ ≤ _; exact Nat.le_of_eq rfl) (hb hby d8_24) (fun _ _ => ⟨rfl, e1, (by decide : 2 + 0 ≤ _), (by decide : 24 + 0 ≤ _)⟩)
  dsimp only [Pt.U, Pt.locs, Pt.cells, Pt.slots] at X2 l2 y2 z2 st2 hQ2
  subst l2 y2 z2
  obtain ⟨rfl, N2q, e2⟩ := hQ2
  have N2 := Fr.app N1 N2q
  refine GoH.tr (pc' := 27) (S' := [(.int x1)]) st2 ?_
  refine GoH.st (pc' := 29) (S' := []) (fun t_ k_ => XS.istore X2.here hx rfl (hb hby d8_27) rfl (l' := #[.val (.ref a1), .val (.int p1), .val (.int p2), .val (.int ac), .val (.int (1 : Int32)), .val (.int x1)]) rfl k_) ?_
  refine GoH.st (pc' := 30) (S' := [(.int ac)]) (fun t_ k_ => XS.iloadN X2.here hx rfl (hb hby d8_29) rfl k_) ?_
  refine GoH.st (pc' := 32) (S' := [(.int x1), (.int ac)]) (fun t_ k_ => XS.iload X2.here hx rfl (hb hby d8_30) rfl k_) ?_
  refine GoH.st (pc' := 34) (S' := [(.int (48 : Int32)), (.int x1), (.int ac)]) (fun t_ k_ => XS.bipush X2.here hx rfl (hb hby d8_32) k_) ?_
  by_cases hc34_3 : x1 < (48 : Int32)
  · refine GoH.st (pc' := 48) (S' := [(.int ac)]) (fun t_ k_ => XS.icmpYes X2.here hx rfl (pc0 := 34) (pc' := 48) rfl (hb hby d8_34) rfl (tlt hc34_3).1 (by decide) (by decide) k_) ?_
    refine GoH.st (pc' := 49) (S' := [(.int (0 : Int32)), (.int ac)]) (fun t_ k_ => XS.iconst X2.here hx rfl (hb hby d8_48) k_) ?_
    refine GoH.st (pc' := 50) (S' := [(.int (ac &&& (0 : Int32)))]) (fun t_ k_ => XS.iand X2.here hx rfl (hb hby d8_49) rfl k_) ?_
    refine GoH.st (pc' := 51) (S' := []) (fun t_ k_ => XS.istoreN X2.here hx rfl (hb hby d8_50) rfl (l' := #[.val (.ref a1), .val (.int p1), .val (.int p2), .val (.int (ac &&& (0 : Int32))), .val (.int (1 : Int32)), .val (.int x1)]) rfl k_) ?_
    refine GoH.st (pc' := 54) (S' := []) (fun t_ k_ => XS.iinc X2.here hx rfl (hb hby d8_51) rfl (l' := #[.val (.ref a1), .val (.int p1), .val (.int p2), .val (.int (ac &&& (0 : Int32))), .val (.int ((1 : Int32) + (1 : Int32))), .val (.int x1)]) rfl k_) ?_
    rw [show ((1 : Int32) + (1 : Int32)) = (2 : Int32) from by decide]
    refine GoH.st (pc' := 12) (S' := []) (fun t_ k_ => XS.goto X2.here hx rfl (pc0 := 54) (pc' := 12) rfl (hb hby d8_54) (by decide) (by decide) k_) ?_
    exact sgare3_2 a1 p1 p2 fm gC x0 x1 x2 (ac &&& (0 : Int32)) ss O0 Z0 K0 C1 bd0 bd1 bd2 (own_and hac (own_dgA hc34_3)) (Stand.up X2 (by decide) (by decide)) hx hZ hw hby hml hown hnm hret hlk e2 hs0 CR hS hk N2
  · refine GoH.st (pc' := 37) (S' := [(.int ac)]) (fun t_ k_ => XS.icmpNo X2.here hx rfl (hb hby d8_34) rfl (flt hc34_3).1 k_) ?_
    refine GoH.st (pc' := 39) (S' := [(.int x1), (.int ac)]) (fun t_ k_ => XS.iload X2.here hx rfl (hb hby d8_37) rfl k_) ?_
    refine GoH.st (pc' := 41) (S' := [(.int (57 : Int32)), (.int x1), (.int ac)]) (fun t_ k_ => XS.bipush X2.here hx rfl (hb hby d8_39) k_) ?_
    by_cases hc41_4 : (57 : Int32) < x1
    · refine GoH.st (pc' := 48) (S' := [(.int ac)]) (fun t_ k_ => XS.icmpYes X2.here hx rfl (pc0 := 41) (pc' := 48) rfl (hb hby d8_41) rfl (tlt hc41_4).2.2.1 (by decide) (by decide) k_) ?_
      refine GoH.st (pc' := 49) (S' := [(.int (0 : Int32)), (.int ac)]) (fun t_ k_ => XS.iconst X2.here hx rfl (hb hby d8_48) k_) ?_
      refine GoH.st (pc' := 50) (S' := [(.int (ac &&& (0 : Int32)))]) (fun t_ k_ => XS.iand X2.here hx rfl (hb hby d8_49) rfl k_) ?_
      refine GoH.st (pc' := 51) (S' := []) (fun t_ k_ => XS.istoreN X2.here hx rfl (hb hby d8_50) rfl (l' := #[.val (.ref a1), .val (.int p1), .val (.int p2), .val (.int (ac &&& (0 : Int32))), .val (.int (1 : Int32)), .val (.int x1)]) rfl k_) ?_
      refine GoH.st (pc' := 54) (S' := []) (fun t_ k_ => XS.iinc X2.here hx rfl (hb hby d8_51) rfl (l' := #[.val (.ref a1), .val (.int p1), .val (.int p2), .val (.int (ac &&& (0 : Int32))), .val (.int ((1 : Int32) + (1 : Int32))), .val (.int x1)]) rfl k_) ?_
      rw [show ((1 : Int32) + (1 : Int32)) = (2 : Int32) from by decide]
      refine GoH.st (pc' := 12) (S' := []) (fun t_ k_ => XS.goto X2.here hx rfl (pc0 := 54) (pc' := 12) rfl (hb hby d8_54) (by decide) (by decide) k_) ?_
      exact sgare3_2 a1 p1 p2 fm gC x0 x1 x2 (ac &&& (0 : Int32)) ss O0 Z0 K0 C1 bd0 bd1 bd2 (own_and hac (own_dgB hc41_4)) (Stand.up X2 (by decide) (by decide)) hx hZ hw hby hml hown hnm hret hlk e2 hs0 CR hS hk N2
    · refine GoH.st (pc' := 44) (S' := [(.int ac)]) (fun t_ k_ => XS.icmpNo X2.here hx rfl (hb hby d8_41) rfl (flt hc41_4).2.2.1 k_) ?_
      refine GoH.st (pc' := 45) (S' := [(.int (1 : Int32)), (.int ac)]) (fun t_ k_ => XS.iconst X2.here hx rfl (hb hby d8_44) k_) ?_
      refine GoH.st (pc' := 49) (S' := [(.int (1 : Int32)), (.int ac)]) (fun t_ k_ => XS.goto X2.here hx rfl (pc0 := 45) (pc' := 49) rfl (hb hby d8_45) (by decide) (by decide) k_) ?_
      refine GoH.st (pc' := 50) (S' := [(.int (ac &&& (1 : Int32)))]) (fun t_ k_ => XS.iand X2.here hx rfl (hb hby d8_49) rfl k_) ?_
      refine GoH.st (pc' := 51) (S' := []) (fun t_ k_ => XS.istoreN X2.here hx rfl (hb hby d8_50) rfl (l' := #[.val (.ref a1), .val (.int p1), .val (.int p2), .val (.int (ac &&& (1 : Int32))), .val (.int (1 : Int32)), .val (.int x1)]) rfl k_) ?_
      refine GoH.st (pc' := 54) (S' := []) (fun t_ k_ => XS.iinc X2.here hx rfl (hb hby d8_51) rfl (l' := #[.val (.ref a1), .val (.int p1), .val (.int p2), .val (.int (ac &&& (1 : Int32))), .val (.int ((1 : Int32) + (1 : Int32))), .val (.int x1)]) rfl k_) ?_
      rw [show ((1 : Int32) + (1 : Int32)) = (2 : Int32) from by decide]
      refine GoH.st (pc' := 12) (S' := []) (fun t_ k_ => XS.goto X2.here hx rfl (pc0 := 54) (pc' := 12) rfl (hb hby d8_54) (by decide) (by decide) k_) ?_
      exact sgare3_2 a1 p1 p2 fm gC x0 x1 x2 (ac &&& (1 : Int32)) ss O0 Z0 K0 C1 bd0 bd1 bd2 (own_and hac (own_dgC hc34_3 hc41_4)) (Stand.up X2 (by decide) (by decide)) hx hZ hw hby hml hown hnm hret hlk e2 hs0 CR hS hk N2
theorem sgare3_0 {Z : State} {n0 : Nat} {h0 hh : Heap} (a1 : Addr) (p1 p2 : Int32) (fm : Value) (gC : Int32) (x0 : Int32) (x1 : Int32) (x2 : Int32) (ac : Int32) (ss : own_ST Z gC fm) (O0 : Old Z n0 hh) (Z0 : n0 ≤ hh.size) (K0 : Keep h0 hh []) (C1 : own_CS3 Z hh a1 x0 x1 x2) (bd0 : own_bd x0) (bd1 : own_bd x1) (bd2 : own_bd x2) (hac : (1 : Int32) = ac) :
    SegH Z n0 h0 hh roomare3 2 24 prog_5_method_3_code 6 "pechat/card/Digits" "are" (some .boolean) (Qare3 Z x0 x1 x2 p1 p2 h0 n0) 12 #[.val (.ref a1), .val (.int p1), .val (.int p2), .val (.int ac), .val (.int (0 : Int32)), .unset] [] := by
  intro p l e s m args below meth c T0 locs a0 k0 vm0 X0 hx hZ hw hby hml hown hnm hret hlk e0 hs0 CR hS hk N0
  refine GoH.st (pc' := 14) (S' := [(.int (0 : Int32))]) (fun t_ k_ => XS.iload X0.here hx rfl (hb hby d8_12) rfl k_) ?_
  refine GoH.st (pc' := 15) (S' := [(.ref a1), (.int (0 : Int32))]) (fun t_ k_ => XS.aloadN X0.here hx rfl (hb hby d8_14) rfl rfl k_) ?_
  obtain ⟨cq1, kq1, q1a, q1b, q1c⟩ := isOf hZ e0 C1.exa
  obtain ⟨_, _, ⟨T1, L1, k1, n1⟩, -, X1, ⟨Lc1, hQ1, l1, y1, z1⟩, st1⟩ := X0.virtualBack hx (y := (⟨"java/lang/String", "length", "()I"⟩ : MethodName)) (z := (⟨"java/lang/String", "length", "()I"⟩ : MethodName)) hown (mvT hZ (wd hw 45 rfl)) (mvT hZ (wd hw 46 rfl)) (notFace_of_selects (args := #[]) (mvT hZ (wd hw 48 rfl))) (mvT hZ (wd hw 48 rfl)) (mvT hZ (wd hw 47 rfl)) (by decide) (backOf (W := 1) (rmlen3C l Z a0 hw [] a1 fm gC x0 x1 x2 hh n0 Z0 ss O0 C1 bd0 bd1 bd2) hZ (wd hw 49 rfl) (wd hw 7 rfl) (by decide) (by decide)) q1a q1c (g := (mkF m 15 #[.val (.ref a1), .val (.int p1), .val (.int p2), .val (.int ac), .val (.int (0 : Int32)), .unset] [(.ref a1), (.int (0 : Int32))])) rfl (by rw [hml]; rfl) (Steps.refl _) (argsL := []) (rest := [(.int (0 : Int32))]) (lenOf pd_5 rfl) rfl (by show 2 * 0 + _ ≤ _; exact Nat.le_of_eq rfl) (hb hby d8_15) (fun _ _ => ⟨rfl, e0, (by decide : 2 + 0 ≤ _), (by decide : 24 + 0 ≤ _)⟩)
  dsimp only [Pt.U, Pt.locs, Pt.cells, Pt.slots] at X1 l1 y1 z1 st1 hQ1
  subst l1 y1 z1
  obtain ⟨rfl, N1q, e1⟩ := hQ1
  have N1 := Fr.app N0 N1q
  refine GoH.tr (pc' := 18) (S' := [(.int (3 : Int32)), (.int (0 : Int32))]) st1 ?_
  refine GoH.st (pc' := 21) (S' := []) (fun t_ k_ => XS.icmpNo X1.here hx rfl (hb hby d8_18) rfl (tlt (by decide : ((0 : Int32) < (3 : Int32)))).2.1 k_) ?_
  refine GoH.st (pc' := 22) (S' := [(.ref a1)]) (fun t_ k_ => XS.aloadN X1.here hx rfl (hb hby d8_21) rfl rfl k_) ?_
  refine GoH.st (pc' := 24) (S' := [(.int (0 : Int32)), (.ref a1)]) (fun t_ k_ => XS.iload X1.here hx rfl (hb hby d8_22) rfl k_) ?_
  obtain ⟨cq2, kq2, q2a, q2b, q2c⟩ := isOf hZ e1 C1.exa
  obtain ⟨_, _, ⟨T2, L2, k2, n2⟩, -, X2, ⟨Lc2, hQ2, l2, y2, z2⟩, st2⟩ := X1.virtualBack hx (y := (⟨"java/lang/String", "charAt", "(I)C"⟩ : MethodName)) (z := (⟨"java/lang/String", "charAt", "(I)C"⟩ : MethodName)) hown (mvT hZ (wd hw 55 rfl)) (mvT hZ (wd hw 56 rfl)) (notFace_of_selects (args := #[]) (mvT hZ (wd hw 58 rfl))) (mvT hZ (wd hw 58 rfl)) (mvT hZ (wd hw 57 rfl)) (by decide) (backOf (W := 0) (rmca3_0C l Z a0 hw [] a1 fm gC x0 x1 x2 hh n0 Z0 ss O0 C1 bd0 bd1 bd2) hZ (wd hw 59 rfl) (wd hw 7 rfl) (by decide) (by decide)) q2a q2c (g := (mkF m 24 #[.val (.ref a1), .val (.int p1), .val (.int p2), .val (.int ac), .val (.int (0 : Int32)), .unset] [(.int (0 : Int32)), (.ref a1)])) rfl (by rw [hml]; rfl) (Steps.refl _) (argsL := [(.int (0 : Int32))]) (rest := []) (lenOf pd_13 rfl) rfl (by show 2 * 0 + _ ≤ _; exact Nat.le_of_eq rfl) (hb hby d8_24) (fun _ _ => ⟨rfl, e1, (by decide : 2 + 0 ≤ _), (by decide : 24 + 0 ≤ _)⟩)
  dsimp only [Pt.U, Pt.locs, Pt.cells, Pt.slots] at X2 l2 y2 z2 st2 hQ2
  subst l2 y2 z2
  obtain ⟨rfl, N2q, e2⟩ := hQ2
  have N2 := Fr.app N1 N2q
  refine GoH.tr (pc' := 27) (S' := [(.int x0)]) st2 ?_
  refine GoH.st (pc' := 29) (S' := []) (fun t_ k_ => XS.istore X2.here hx rfl (hb hby d8_27) rfl (l' := #[.val (.ref a1), .val (.int p1), .val (.int p2), .val (.int ac), .val (.int (0 : Int32)), .val (.int x0)]) rfl k_) ?_
  refine GoH.st (pc' := 30) (S' := [(.int ac)]) (fun t_ k_ => XS.iloadN X2.here hx rfl (hb hby d8_29) rfl k_) ?_
  refine GoH.st (pc' := 32) (S' := [(.int x0), (.int ac)]) (fun t_ k_ => XS.iload X2.here hx rfl (hb hby d8_30) rfl k_) ?_
  refine GoH.st (pc' := 34) (S' := [(.int (48 : Int32)), (.int x0), (.int ac)]) (fun t_ k_ => XS.bipush X2.here hx rfl (hb hby d8_32) k_) ?_
  by_cases hc34_3 : x0 < (48 : Int32)
  · refine GoH.st (pc' := 48) (S' := [(.int ac)]) (fun t_ k_ => XS.icmpYes X2.here hx rfl (pc0 := 34) (pc' := 48) rfl (hb hby d8_34) rfl (tlt hc34_3).1 (by decide) (by decide) k_) ?_
    refine GoH.st (pc' := 49) (S' := [(.int (0 : Int32)), (.int ac)]) (fun t_ k_ => XS.iconst X2.here hx rfl (hb hby d8_48) k_) ?_
    refine GoH.st (pc' := 50) (S' := [(.int (ac &&& (0 : Int32)))]) (fun t_ k_ => XS.iand X2.here hx rfl (hb hby d8_49) rfl k_) ?_
    refine GoH.st (pc' := 51) (S' := []) (fun t_ k_ => XS.istoreN X2.here hx rfl (hb hby d8_50) rfl (l' := #[.val (.ref a1), .val (.int p1), .val (.int p2), .val (.int (ac &&& (0 : Int32))), .val (.int (0 : Int32)), .val (.int x0)]) rfl k_) ?_
    refine GoH.st (pc' := 54) (S' := []) (fun t_ k_ => XS.iinc X2.here hx rfl (hb hby d8_51) rfl (l' := #[.val (.ref a1), .val (.int p1), .val (.int p2), .val (.int (ac &&& (0 : Int32))), .val (.int ((0 : Int32) + (1 : Int32))), .val (.int x0)]) rfl k_) ?_
    rw [show ((0 : Int32) + (1 : Int32)) = (1 : Int32) from by decide]
    refine GoH.st (pc' := 12) (S' := []) (fun t_ k_ => XS.goto X2.here hx rfl (pc0 := 54) (pc' := 12) rfl (hb hby d8_54) (by decide) (by decide) k_) ?_
    exact sgare3_1 a1 p1 p2 fm gC x0 x1 x2 (ac &&& (0 : Int32)) ss O0 Z0 K0 C1 bd0 bd1 bd2 (own_and hac (own_dgA hc34_3)) (Stand.up X2 (by decide) (by decide)) hx hZ hw hby hml hown hnm hret hlk e2 hs0 CR hS hk N2
  · refine GoH.st (pc' := 37) (S' := [(.int ac)]) (fun t_ k_ => XS.icmpNo X2.here hx rfl (hb hby d8_34) rfl (flt hc34_3).1 k_) ?_
    refine GoH.st (pc' := 39) (S' := [(.int x0), (.int ac)]) (fun t_ k_ => XS.iload X2.here hx rfl (hb hby d8_37) rfl k_) ?_
    refine GoH.st (pc' := 41) (S' := [(.int (57 : Int32)), (.int x0), (.int ac)]) (fun t_ k_ => XS.bipush X2.here hx rfl (hb hby d8_39) k_) ?_
    by_cases hc41_4 : (57 : Int32) < x0
    · refine GoH.st (pc' := 48) (S' := [(.int ac)]) (fun t_ k_ => XS.icmpYes X2.here hx rfl (pc0 := 41) (pc' := 48) rfl (hb hby d8_41) rfl (tlt hc41_4).2.2.1 (by decide) (by decide) k_) ?_
      refine GoH.st (pc' := 49) (S' := [(.int (0 : Int32)), (.int ac)]) (fun t_ k_ => XS.iconst X2.here hx rfl (hb hby d8_48) k_) ?_
      refine GoH.st (pc' := 50) (S' := [(.int (ac &&& (0 : Int32)))]) (fun t_ k_ => XS.iand X2.here hx rfl (hb hby d8_49) rfl k_) ?_
      refine GoH.st (pc' := 51) (S' := []) (fun t_ k_ => XS.istoreN X2.here hx rfl (hb hby d8_50) rfl (l' := #[.val (.ref a1), .val (.int p1), .val (.int p2), .val (.int (ac &&& (0 : Int32))), .val (.int (0 : Int32)), .val (.int x0)]) rfl k_) ?_
      refine GoH.st (pc' := 54) (S' := []) (fun t_ k_ => XS.iinc X2.here hx rfl (hb hby d8_51) rfl (l' := #[.val (.ref a1), .val (.int p1), .val (.int p2), .val (.int (ac &&& (0 : Int32))), .val (.int ((0 : Int32) + (1 : Int32))), .val (.int x0)]) rfl k_) ?_
      rw [show ((0 : Int32) + (1 : Int32)) = (1 : Int32) from by decide]
      refine GoH.st (pc' := 12) (S' := []) (fun t_ k_ => XS.goto X2.here hx rfl (pc0 := 54) (pc' := 12) rfl (hb hby d8_54) (by decide) (by decide) k_) ?_
      exact sgare3_1 a1 p1 p2 fm gC x0 x1 x2 (ac &&& (0 : Int32)) ss O0 Z0 K0 C1 bd0 bd1 bd2 (own_and hac (own_dgB hc41_4)) (Stand.up X2 (by decide) (by decide)) hx hZ hw hby hml hown hnm hret hlk e2 hs0 CR hS hk N2
    · refine GoH.st (pc' := 44) (S' := [(.int ac)]) (fun t_ k_ => XS.icmpNo X2.here hx rfl (hb hby d8_41) rfl (flt hc41_4).2.2.1 k_) ?_
      refine GoH.st (pc' := 45) (S' := [(.int (1 : Int32)), (.int ac)]) (fun t_ k_ => XS.iconst X2.here hx rfl (hb hby d8_44) k_) ?_
      refine GoH.st (pc' := 49) (S' := [(.int (1 : Int32)), (.int ac)]) (fun t_ k_ => XS.goto X2.here hx rfl (pc0 := 45) (pc' := 49) rfl (hb hby d8_45) (by decide) (by decide) k_) ?_
      refine GoH.st (pc' := 50) (S' := [(.int (ac &&& (1 : Int32)))]) (fun t_ k_ => XS.iand X2.here hx rfl (hb hby d8_49) rfl k_) ?_
      refine GoH.st (pc' := 51) (S' := []) (fun t_ k_ => XS.istoreN X2.here hx rfl (hb hby d8_50) rfl (l' := #[.val (.ref a1), .val (.int p1), .val (.int p2), .val (.int (ac &&& (1 : Int32))), .val (.int (0 : Int32)), .val (.int x0)]) rfl k_) ?_
      refine GoH.st (pc' := 54) (S' := []) (fun t_ k_ => XS.iinc X2.here hx rfl (hb hby d8_51) rfl (l' := #[.val (.ref a1), .val (.int p1), .val (.int p2), .val (.int (ac &&& (1 : Int32))), .val (.int ((0 : Int32) + (1 : Int32))), .val (.int x0)]) rfl k_) ?_
      rw [show ((0 : Int32) + (1 : Int32)) = (1 : Int32) from by decide]
      refine GoH.st (pc' := 12) (S' := []) (fun t_ k_ => XS.goto X2.here hx rfl (pc0 := 54) (pc' := 12) rfl (hb hby d8_54) (by decide) (by decide) k_) ?_
      exact sgare3_1 a1 p1 p2 fm gC x0 x1 x2 (ac &&& (1 : Int32)) ss O0 Z0 K0 C1 bd0 bd1 bd2 (own_and hac (own_dgC hc34_3 hc41_4)) (Stand.up X2 (by decide) (by decide)) hx hZ hw hby hml hown hnm hret hlk e2 hs0 CR hS hk N2
theorem rmare3 (l : Launch) (Z : State) (a0 : Array Value) (hw : ∀ d ∈ tables_1, d.before a0 Z = true) (ws : List Jvm.Cond) (a1 : Addr) (p1 p2 : Int32) (fm : Value) (gC : Int32) (x0 : Int32) (x1 : Int32) (x2 : Int32) (h0 : Heap) (n0 : Nat) (Z0 : n0 ≤ h0.size) (ss : own_ST Z gC fm) (O0 : Old Z n0 h0) (C1 : own_CS3 Z h0 a1 x0 x1 x2) (bd0 : own_bd x0) (bd1 : own_bd x1) (bd2 : own_bd x2) :
    OMetH l (⟨"pechat/card/Digits", "are", "(Ljava/lang/String;II)Z"⟩ : MethodName) prog_5_method_3_code 6 (some .boolean) ws roomare3 #[(.ref a1), (.int p1), (.int p2)] Z h0 (Qare3 Z x0 x1 x2 p1 p2 h0 n0) := by
  refine own_metH (Q := (Qare3 Z x0 x1 x2 p1 p2 h0 n0)) (L0 := #[.val (.ref a1), .val (.int p1), .val (.int p2), .unset, .unset, .unset]) (plainFor_of_name pn_4) (fun m => by first | (simp [entryFrame, mkF, argsToLocals, Value.category]; done) | rfl) ?_
  intro p e s m below meth c T0 X0 hx hby hml hown hnm hret hlk hZ e0 hs0 CR hS hk
  have N0 := Fr.nil n0
  have K0 := Keep.refl h0 []
  refine GoH.st (pc' := 1) (S' := [(.ref a1)]) (fun t_ k_ => XS.aloadN X0.here hx rfl (hb hby d8_0) rfl rfl k_) ?_
  obtain ⟨a1_, T1, h1, k1, X1, e1, E1, hS1, hk1, hZ1, ho1, CR1, -, st1⟩ := ldcOH X0 hx hZ hown (wd hw 38 rfl) (own_wS hw) e0 hS hk (own_EW hw) CR.1 (g := (mkF m 1 #[.val (.ref a1), .val (.int p1), .val (.int p2), .unset, .unset, .unset] [(.ref a1)])) rfl (hb hby d8_1) (n := 20) (by decide) (by decide) (by decide) (by decide)
  replace CR := CR.trans CR1
  replace Z0 := Nat.le_trans Z0 E1.1
  replace O0 := O0.ext E1
  replace C1 := C1.ext E1
  replace K0 := K0.ext E1
  replace hZ := hZ1
  replace hown := ho1
  replace hS := hS1
  replace hk := hk1
  refine GoH.st (pc' := 3) (S' := [(.ref a1_), (.ref a1)]) st1 ?_
  obtain ⟨_, _, ⟨T2, L2, k2, n2⟩, -, X2, ⟨Lc2, hQ2, l2, y2, z2⟩, st2⟩ := Jvm.LawKit.callS X1 hx (y := (⟨"java/util/Objects", "requireNonNull", "(Ljava/lang/Object;Ljava/lang/String;)Ljava/lang/Object;"⟩ : MethodName)) hown (mvT hZ (wd hw 41 rfl)) (mvT hZ (wd hw 42 rfl)) (mvT hZ (wd hw 43 rfl)) (mvT hZ (wd hw 44 rfl)) (by decide) (backOf (W := 0) (rm9 l Z a0 hw [] a1 a1_ h1 n0 Z0) hZ (wd hw 44 rfl) (wd hw 43 rfl) (by decide) (by decide)) (g := (mkF m 3 #[.val (.ref a1), .val (.int p1), .val (.int p2), .unset, .unset, .unset] [(.ref a1_), (.ref a1)])) rfl (by rw [hml]; rfl) (argsL := [(.ref a1), (.ref a1_)]) (rest := []) (lenOf pd_6 rfl) rfl (by show 2 * 0 + _ ≤ _; exact Nat.le_of_eq rfl) (hb hby d8_3) (fun _ _ => ⟨rfl, e1, (by decide : 2 + 0 ≤ _), (by decide : 24 + 0 ≤ _)⟩)
  dsimp only [Pt.U, Pt.locs, Pt.cells, Pt.slots] at X2 l2 y2 z2 st2 hQ2
  subst l2 y2 z2
  obtain ⟨rfl, N2q, e2⟩ := hQ2
  have N2 := Fr.app N0 N2q
  refine GoH.st (pc' := 6) (S' := [(.ref a1)]) st2 ?_
  refine GoH.st (pc' := 7) (S' := []) (fun t_ k_ => XS.pop X2.here hx rfl (hb hby d8_6) rfl rfl k_) ?_
  refine GoH.st (pc' := 8) (S' := [(.int (1 : Int32))]) (fun t_ k_ => XS.iconst X2.here hx rfl (hb hby d8_7) k_) ?_
  refine GoH.st (pc' := 9) (S' := []) (fun t_ k_ => XS.istoreN X2.here hx rfl (hb hby d8_8) rfl (l' := #[.val (.ref a1), .val (.int p1), .val (.int p2), .val (.int (1 : Int32)), .unset, .unset]) rfl k_) ?_
  refine GoH.st (pc' := 10) (S' := [(.int (0 : Int32))]) (fun t_ k_ => XS.iconst X2.here hx rfl (hb hby d8_9) k_) ?_
  refine GoH.st (pc' := 12) (S' := []) (fun t_ k_ => XS.istore X2.here hx rfl (hb hby d8_10) rfl (l' := #[.val (.ref a1), .val (.int p1), .val (.int p2), .val (.int (1 : Int32)), .val (.int (0 : Int32)), .unset]) rfl k_) ?_
  exact sgare3_0 a1 p1 p2 fm gC x0 x1 x2 (1 : Int32) ss O0 Z0 K0 C1 bd0 bd1 bd2 rfl (Stand.up X2 (by decide) (by decide)) hx hZ hw hby hml hown hnm hret hlk e2 hs0 CR hS hk N2
def Q0 (Z : State)  (h0 : Heap) (n0 : Nat) (v : Option Value) (h : Heap) (L : List Loc) : Prop := v = some (.int 1) ∧ Fr n0 L
theorem pd_14 : parseMethodDescriptor "(Ljava/lang/String;II)Z" = some ⟨[(.object "java/lang/String"), .int, .int], some .boolean⟩ := by decide +kernel
theorem sl197_0 {Z : State} {n0 : Nat} {h0 hh : Heap} (p1 p2 p3 p4 p5 p6 x0 x1 x2 : Int32) (a1 : Addr) (fm : Value) (gC : Int32) (al ex : Int32) (ss : own_ST Z gC fm) (O0 : Old Z n0 hh) (Z0 : n0 ≤ hh.size) (C1 : own_CS0 Z hh a1 ) (bd0 : own_bd x0) (bd1 : own_bd x1) (bd2 : own_bd x2) (hex : own_are (1 : Int32) (0 : Int32) p5 p6 = ex) :
    SegH Z n0 h0 hh room_1 14 80 code 14 "pechat/card/DigitsArePinLaw" "law" (some .boolean) (Q0 Z h0 n0) 197 #[.val (.int p1), .val (.int p2), .val (.int p3), .val (.int p4), .val (.int p5), .val (.int p6), .val (.int (0 : Int32)), .val (.int x0), .val (.int x1), .val (.int x2), .val (.ref a1), .val (.int al), .val (.int ex), .unset] [] := by
  intro p l e s m args below meth c T0 locs a0 k0 vm0 X0 hx hZ hw hby hml hown hnm hret hlk e0 hs0 CR hS hk N0
  refine GoH.st (pc' := 199) (S' := [(.ref a1)]) (fun t_ k_ => XS.aload X0.here hx rfl (hb hby at_197) rfl rfl k_) ?_
  refine GoH.st (pc' := 201) (S' := [(.int p5), (.ref a1)]) (fun t_ k_ => XS.iload X0.here hx rfl (hb hby at_199) rfl k_) ?_
  refine GoH.st (pc' := 203) (S' := [(.int p6), (.int p5), (.ref a1)]) (fun t_ k_ => XS.iload X0.here hx rfl (hb hby at_201) rfl k_) ?_
  obtain ⟨_, _, ⟨T1, L1, k1, n1⟩, -, X1, hS1, hg1, ⟨Lc1, hQ1, l1, y1, z1, CR1⟩, st1⟩ := callSS X0 hx (y := (⟨"pechat/card/Digits", "are", "(Ljava/lang/String;II)Z"⟩ : MethodName)) hown (mvT hZ (wd hw 34 rfl)) (mvT hZ (wd hw 35 rfl)) (mvT hZ (wd hw 36 rfl)) (mvT hZ (wd hw 37 rfl)) (by decide) (backOfSH (W := 0) (rmare0 l Z a0 hw [] a1 p5 p6 fm gC  hh n0 Z0 ss O0 C1 ) hZ (wd hw 37 rfl) (wd hw 36 rfl) (by decide) (by decide) (own_EW hw) CR.1) (g := (mkF m 203 #[.val (.int p1), .val (.int p2), .val (.int p3), .val (.int p4), .val (.int p5), .val (.int p6), .val (.int (0 : Int32)), .val (.int x0), .val (.int x1), .val (.int x2), .val (.ref a1), .val (.int al), .val (.int ex), .unset] [(.int p6), (.int p5), (.ref a1)])) rfl (by rw [hml]; rfl) (argsL := [(.ref a1), (.int p5), (.int p6)]) (rest := []) (lenOf pd_14 rfl) rfl (by show 2 * 0 + _ ≤ _; exact Nat.le_of_eq rfl) (hb hby at_203) (fun _ _ => ⟨rfl, e0, (by decide : 14 + 2 ≤ _), (by decide : 80 + 24 ≤ _)⟩)
  dsimp only [Pt.U, Pt.locs, Pt.cells, Pt.slots] at X1 l1 y1 z1 st1 hQ1 hS1 hg1 CR1
  subst l1 y1 z1
  replace X1 : Stand p l e _ (s.setVm T1.vm) m _ below meth c T1 _ _ _ := X1
  replace hS := foldS hS (T := T0) (Nat.le_trans hk (Nat.le_of_eq (congrArg Array.size e0.symm))) hS1 hg1
  replace hk := Nat.le_refl T1.heap.size
  replace hZ : Z.Warmed39 (s.setVm T1.vm).vm := State.Warmed39.trans (t := s.setVm vm0) hZ hS1.1
  replace hown : (s.setVm T1.vm).vm.findClass "pechat/card/DigitsArePinLaw" = some m.cls := by rw [show (s.setVm T1.vm).vm = T1.vm from rfl, hS1.1.alike.findClass]; exact hown
  obtain ⟨rfl, N1q, K1⟩ := hQ1
  have N1 := Fr.app N0 N1q
  obtain ⟨h1, e1⟩ : ∃ z, T1.heap = z := ⟨_, rfl⟩
  rw [e1] at K1 CR1
  replace CR := CR.trans CR1
  replace Z0 := Nat.le_trans Z0 K1.1
  replace O0 := O0.keep K1 all0
  replace C1 := C1.keep K1
  replace hk : T1.heap.size ≤ h1.size := Nat.le_of_eq (congrArg Array.size e1)
  refine GoH.tr (pc' := 206) (S' := [(.int (own_are (1 : Int32) (0 : Int32) p5 p6))]) st1 ?_
  refine GoH.st (pc' := 208) (S' := []) (fun t_ k_ => XS.istore X1.here hx rfl (hb hby at_206) rfl (l' := #[.val (.int p1), .val (.int p2), .val (.int p3), .val (.int p4), .val (.int p5), .val (.int p6), .val (.int (0 : Int32)), .val (.int x0), .val (.int x1), .val (.int x2), .val (.ref a1), .val (.int al), .val (.int ex), .val (.int (own_are (1 : Int32) (0 : Int32) p5 p6))]) rfl k_) ?_
  refine GoH.st (pc' := 210) (S' := [(.int (own_are (1 : Int32) (0 : Int32) p5 p6))]) (fun t_ k_ => XS.iload X1.here hx rfl (hb hby at_208) rfl k_) ?_
  refine GoH.st (pc' := 212) (S' := [(.int ex), (.int (own_are (1 : Int32) (0 : Int32) p5 p6))]) (fun t_ k_ => XS.iload X1.here hx rfl (hb hby at_210) rfl k_) ?_
  refine GoH.st (pc' := 215) (S' := []) (fun t_ k_ => XS.icmpNo X1.here hx rfl (hb hby at_212) rfl (teq (hex : ((own_are (1 : Int32) (0 : Int32) p5 p6) = ex))).2 k_) ?_
  refine GoH.st (pc' := 216) (S' := [(.int (1 : Int32))]) (fun t_ k_ => XS.iconst X1.here hx rfl (hb hby at_215) k_) ?_
  refine GoH.st (pc' := 220) (S' := [(.int (1 : Int32))]) (fun t_ k_ => XS.goto X1.here hx rfl (pc0 := 216) (pc' := 220) rfl (hb hby at_216) (by decide) (by decide) k_) ?_
  exact GoH.retN X1 hx hlk hret (by simp) (hb hby at_220) (by decide) (by decide) hS hk e1 hs0 hZ (own_EW hw) CR (by rw [e1]; exact ⟨rfl, N1⟩)

theorem sl171_0 {Z : State} {n0 : Nat} {h0 hh : Heap} (p1 p2 p3 p4 p5 p6 x0 x1 x2 : Int32) (a1 : Addr) (fm : Value) (gC : Int32) (al : Int32) (ss : own_ST Z gC fm) (O0 : Old Z n0 hh) (Z0 : n0 ≤ hh.size) (C1 : own_CS0 Z hh a1 ) (bd0 : own_bd x0) (bd1 : own_bd x1) (bd2 : own_bd x2) (hA : (1 : Int32) = al) (hB : al = 0 ∨ al = 1) :
    SegH Z n0 h0 hh room_1 14 80 code 14 "pechat/card/DigitsArePinLaw" "law" (some .boolean) (Q0 Z h0 n0) 171 #[.val (.int p1), .val (.int p2), .val (.int p3), .val (.int p4), .val (.int p5), .val (.int p6), .val (.int (0 : Int32)), .val (.int x0), .val (.int x1), .val (.int x2), .val (.ref a1), .val (.int al), .unset, .unset] [] := by
  intro p l e s m args below meth c T0 locs a0 k0 vm0 X0 hx hZ hw hby hml hown hnm hret hlk e0 hs0 CR hS hk N0
  refine GoH.st (pc' := 173) (S' := [(.int al)]) (fun t_ k_ => XS.iload X0.here hx rfl (hb hby at_171) rfl k_) ?_
  by_cases hc173_1 : al = (0 : Int32)
  · refine GoH.st (pc' := 194) (S' := []) (fun t_ k_ => XS.ifYes X0.here hx rfl (pc0 := 173) (pc' := 194) rfl (hb hby at_173) rfl ((if0 _ _).trans (teq hc173_1).1) (by decide) (by decide) k_) ?_
    refine GoH.st (pc' := 195) (S' := [(.int (0 : Int32))]) (fun t_ k_ => XS.iconst X0.here hx rfl (hb hby at_194) k_) ?_
    refine GoH.st (pc' := 197) (S' := []) (fun t_ k_ => XS.istore X0.here hx rfl (hb hby at_195) rfl (l' := #[.val (.int p1), .val (.int p2), .val (.int p3), .val (.int p4), .val (.int p5), .val (.int p6), .val (.int (0 : Int32)), .val (.int x0), .val (.int x1), .val (.int x2), .val (.ref a1), .val (.int al), .val (.int (0 : Int32)), .unset]) rfl k_) ?_
    exact sl197_0 p1 p2 p3 p4 p5 p6 x0 x1 x2 a1 fm gC al (0 : Int32) ss O0 Z0 C1 bd0 bd1 bd2 (by rw [show own_are (1 : Int32) (0 : Int32) p5 p6 = own_are al (0 : Int32) p5 p6 from congrArg (fun u_ => own_are u_ (0 : Int32) p5 p6) hA, own_are, if_pos hc173_1]) (Stand.up X0 (by decide) (by decide)) hx hZ hw hby hml hown hnm hret hlk e0 hs0 CR hS hk N0
  · refine GoH.st (pc' := 176) (S' := []) (fun t_ k_ => XS.ifNo X0.here hx rfl (hb hby at_173) rfl ((if0 _ _).trans (feq hc173_1).1) k_) ?_
    refine GoH.st (pc' := 178) (S' := [(.int p5)]) (fun t_ k_ => XS.iload X0.here hx rfl (hb hby at_176) rfl k_) ?_
    refine GoH.st (pc' := 180) (S' := [(.int (0 : Int32)), (.int p5)]) (fun t_ k_ => XS.iload X0.here hx rfl (hb hby at_178) rfl k_) ?_
    by_cases hc180_2 : (0 : Int32) < p5
    · refine GoH.st (pc' := 194) (S' := []) (fun t_ k_ => XS.icmpYes X0.here hx rfl (pc0 := 180) (pc' := 194) rfl (hb hby at_180) rfl (tlt hc180_2).2.2.1 (by decide) (by decide) k_) ?_
      refine GoH.st (pc' := 195) (S' := [(.int (0 : Int32))]) (fun t_ k_ => XS.iconst X0.here hx rfl (hb hby at_194) k_) ?_
      refine GoH.st (pc' := 197) (S' := []) (fun t_ k_ => XS.istore X0.here hx rfl (hb hby at_195) rfl (l' := #[.val (.int p1), .val (.int p2), .val (.int p3), .val (.int p4), .val (.int p5), .val (.int p6), .val (.int (0 : Int32)), .val (.int x0), .val (.int x1), .val (.int x2), .val (.ref a1), .val (.int al), .val (.int (0 : Int32)), .unset]) rfl k_) ?_
      exact sl197_0 p1 p2 p3 p4 p5 p6 x0 x1 x2 a1 fm gC al (0 : Int32) ss O0 Z0 C1 bd0 bd1 bd2 (by rw [show own_are (1 : Int32) (0 : Int32) p5 p6 = own_are al (0 : Int32) p5 p6 from congrArg (fun u_ => own_are u_ (0 : Int32) p5 p6) hA, own_are, if_neg hc173_1, if_pos hc180_2]) (Stand.up X0 (by decide) (by decide)) hx hZ hw hby hml hown hnm hret hlk e0 hs0 CR hS hk N0
    · refine GoH.st (pc' := 183) (S' := []) (fun t_ k_ => XS.icmpNo X0.here hx rfl (hb hby at_180) rfl (flt hc180_2).2.2.1 k_) ?_
      refine GoH.st (pc' := 185) (S' := [(.int (0 : Int32))]) (fun t_ k_ => XS.iload X0.here hx rfl (hb hby at_183) rfl k_) ?_
      refine GoH.st (pc' := 187) (S' := [(.int p6), (.int (0 : Int32))]) (fun t_ k_ => XS.iload X0.here hx rfl (hb hby at_185) rfl k_) ?_
      by_cases hc187_3 : p6 < (0 : Int32)
      · refine GoH.st (pc' := 194) (S' := []) (fun t_ k_ => XS.icmpYes X0.here hx rfl (pc0 := 187) (pc' := 194) rfl (hb hby at_187) rfl (tlt hc187_3).2.2.1 (by decide) (by decide) k_) ?_
        refine GoH.st (pc' := 195) (S' := [(.int (0 : Int32))]) (fun t_ k_ => XS.iconst X0.here hx rfl (hb hby at_194) k_) ?_
        refine GoH.st (pc' := 197) (S' := []) (fun t_ k_ => XS.istore X0.here hx rfl (hb hby at_195) rfl (l' := #[.val (.int p1), .val (.int p2), .val (.int p3), .val (.int p4), .val (.int p5), .val (.int p6), .val (.int (0 : Int32)), .val (.int x0), .val (.int x1), .val (.int x2), .val (.ref a1), .val (.int al), .val (.int (0 : Int32)), .unset]) rfl k_) ?_
        exact sl197_0 p1 p2 p3 p4 p5 p6 x0 x1 x2 a1 fm gC al (0 : Int32) ss O0 Z0 C1 bd0 bd1 bd2 (by rw [show own_are (1 : Int32) (0 : Int32) p5 p6 = own_are al (0 : Int32) p5 p6 from congrArg (fun u_ => own_are u_ (0 : Int32) p5 p6) hA, own_are, if_neg hc173_1, if_neg hc180_2, if_pos hc187_3]) (Stand.up X0 (by decide) (by decide)) hx hZ hw hby hml hown hnm hret hlk e0 hs0 CR hS hk N0
      · refine GoH.st (pc' := 190) (S' := []) (fun t_ k_ => XS.icmpNo X0.here hx rfl (hb hby at_187) rfl (flt hc187_3).2.2.1 k_) ?_
        refine GoH.st (pc' := 191) (S' := [(.int (1 : Int32))]) (fun t_ k_ => XS.iconst X0.here hx rfl (hb hby at_190) k_) ?_
        refine GoH.st (pc' := 195) (S' := [(.int (1 : Int32))]) (fun t_ k_ => XS.goto X0.here hx rfl (pc0 := 191) (pc' := 195) rfl (hb hby at_191) (by decide) (by decide) k_) ?_
        refine GoH.st (pc' := 197) (S' := []) (fun t_ k_ => XS.istore X0.here hx rfl (hb hby at_195) rfl (l' := #[.val (.int p1), .val (.int p2), .val (.int p3), .val (.int p4), .val (.int p5), .val (.int p6), .val (.int (0 : Int32)), .val (.int x0), .val (.int x1), .val (.int x2), .val (.ref a1), .val (.int al), .val (.int (1 : Int32)), .unset]) rfl k_) ?_
        exact sl197_0 p1 p2 p3 p4 p5 p6 x0 x1 x2 a1 fm gC al (1 : Int32) ss O0 Z0 C1 bd0 bd1 bd2 (by rw [show own_are (1 : Int32) (0 : Int32) p5 p6 = own_are al (0 : Int32) p5 p6 from congrArg (fun u_ => own_are u_ (0 : Int32) p5 p6) hA, own_are, if_neg hc173_1, if_neg hc180_2, if_neg hc187_3]) (Stand.up X0 (by decide) (by decide)) hx hZ hw hby hml hown hnm hret hlk e0 hs0 CR hS hk N0

theorem sl154_0 {Z : State} {n0 : Nat} {h0 hh : Heap} (p1 p2 p3 p4 p5 p6 x0 x1 x2 : Int32) (a1 : Addr) (fm : Value) (gC : Int32) (al : Int32) (ss : own_ST Z gC fm) (O0 : Old Z n0 hh) (Z0 : n0 ≤ hh.size) (C1 : own_CS0 Z hh a1 ) (bd0 : own_bd x0) (bd1 : own_bd x1) (bd2 : own_bd x2) (hA : (1 : Int32) = al) (hB : al = 0 ∨ al = 1) :
    SegH Z n0 h0 hh room_1 14 80 code 14 "pechat/card/DigitsArePinLaw" "law" (some .boolean) (Q0 Z h0 n0) 154 #[.val (.int p1), .val (.int p2), .val (.int p3), .val (.int p4), .val (.int p5), .val (.int p6), .val (.int (0 : Int32)), .val (.int x0), .val (.int x1), .val (.int x2), .val (.ref a1), .val (.int al), .unset, .unset] [] := by
  intro p l e s m args below meth c T0 locs a0 k0 vm0 X0 hx hZ hw hby hml hown hnm hret hlk e0 hs0 CR hS hk N0
  refine GoH.st (pc' := 156) (S' := [(.int (0 : Int32))]) (fun t_ k_ => XS.iload X0.here hx rfl (hb hby at_154) rfl k_) ?_
  refine GoH.st (pc' := 157) (S' := [(.int (3 : Int32)), (.int (0 : Int32))]) (fun t_ k_ => XS.iconst X0.here hx rfl (hb hby at_156) k_) ?_
  refine GoH.st (pc' := 171) (S' := []) (fun t_ k_ => XS.icmpYes X0.here hx rfl (pc0 := 157) (pc' := 171) rfl (hb hby at_157) rfl (tlt (by decide : ((0 : Int32) < (3 : Int32)))).1 (by decide) (by decide) k_) ?_
  exact sl171_0 p1 p2 p3 p4 p5 p6 x0 x1 x2 a1 fm gC al ss O0 Z0 C1 bd0 bd1 bd2 hA hB (Stand.up X0 (by decide) (by decide)) hx hZ hw hby hml hown hnm hret hlk e0 hs0 CR hS hk N0

theorem sl137_0 {Z : State} {n0 : Nat} {h0 hh : Heap} (p1 p2 p3 p4 p5 p6 x0 x1 x2 : Int32) (a1 : Addr) (fm : Value) (gC : Int32) (al : Int32) (ss : own_ST Z gC fm) (O0 : Old Z n0 hh) (Z0 : n0 ≤ hh.size) (C1 : own_CS0 Z hh a1 ) (bd0 : own_bd x0) (bd1 : own_bd x1) (bd2 : own_bd x2) (hA : (1 : Int32) = al) (hB : al = 0 ∨ al = 1) :
    SegH Z n0 h0 hh room_1 14 80 code 14 "pechat/card/DigitsArePinLaw" "law" (some .boolean) (Q0 Z h0 n0) 137 #[.val (.int p1), .val (.int p2), .val (.int p3), .val (.int p4), .val (.int p5), .val (.int p6), .val (.int (0 : Int32)), .val (.int x0), .val (.int x1), .val (.int x2), .val (.ref a1), .val (.int al), .unset, .unset] [] := by
  intro p l e s m args below meth c T0 locs a0 k0 vm0 X0 hx hZ hw hby hml hown hnm hret hlk e0 hs0 CR hS hk N0
  refine GoH.st (pc' := 139) (S' := [(.int (0 : Int32))]) (fun t_ k_ => XS.iload X0.here hx rfl (hb hby at_137) rfl k_) ?_
  refine GoH.st (pc' := 140) (S' := [(.int (2 : Int32)), (.int (0 : Int32))]) (fun t_ k_ => XS.iconst X0.here hx rfl (hb hby at_139) k_) ?_
  refine GoH.st (pc' := 154) (S' := []) (fun t_ k_ => XS.icmpYes X0.here hx rfl (pc0 := 140) (pc' := 154) rfl (hb hby at_140) rfl (tlt (by decide : ((0 : Int32) < (2 : Int32)))).1 (by decide) (by decide) k_) ?_
  exact sl154_0 p1 p2 p3 p4 p5 p6 x0 x1 x2 a1 fm gC al ss O0 Z0 C1 bd0 bd1 bd2 hA hB (Stand.up X0 (by decide) (by decide)) hx hZ hw hby hml hown hnm hret hlk e0 hs0 CR hS hk N0

theorem sl117_0 {Z : State} {n0 : Nat} {h0 hh : Heap} (p1 p2 p3 p4 p5 p6 x0 x1 x2 : Int32) (a1 : Addr) (fm : Value) (gC : Int32) (ss : own_ST Z gC fm) (O0 : Old Z n0 hh) (Z0 : n0 ≤ hh.size) (C1 : own_CS0 Z hh a1 ) (bd0 : own_bd x0) (bd1 : own_bd x1) (bd2 : own_bd x2) :
    SegH Z n0 h0 hh room_1 14 80 code 14 "pechat/card/DigitsArePinLaw" "law" (some .boolean) (Q0 Z h0 n0) 117 #[.val (.int p1), .val (.int p2), .val (.int p3), .val (.int p4), .val (.int p5), .val (.int p6), .val (.int (0 : Int32)), .val (.int x0), .val (.int x1), .val (.int x2), .val (.ref a1), .unset, .unset, .unset] [] := by
  intro p l e s m args below meth c T0 locs a0 k0 vm0 X0 hx hZ hw hby hml hown hnm hret hlk e0 hs0 CR hS hk N0
  refine GoH.st (pc' := 118) (S' := [(.int (1 : Int32))]) (fun t_ k_ => XS.iconst X0.here hx rfl (hb hby at_117) k_) ?_
  refine GoH.st (pc' := 120) (S' := []) (fun t_ k_ => XS.istore X0.here hx rfl (hb hby at_118) rfl (l' := #[.val (.int p1), .val (.int p2), .val (.int p3), .val (.int p4), .val (.int p5), .val (.int p6), .val (.int (0 : Int32)), .val (.int x0), .val (.int x1), .val (.int x2), .val (.ref a1), .val (.int (1 : Int32)), .unset, .unset]) rfl k_) ?_
  refine GoH.st (pc' := 122) (S' := [(.int (0 : Int32))]) (fun t_ k_ => XS.iload X0.here hx rfl (hb hby at_120) rfl k_) ?_
  refine GoH.st (pc' := 123) (S' := [(.int (1 : Int32)), (.int (0 : Int32))]) (fun t_ k_ => XS.iconst X0.here hx rfl (hb hby at_122) k_) ?_
  refine GoH.st (pc' := 137) (S' := []) (fun t_ k_ => XS.icmpYes X0.here hx rfl (pc0 := 123) (pc' := 137) rfl (hb hby at_123) rfl (tlt (by decide : ((0 : Int32) < (1 : Int32)))).1 (by decide) (by decide) k_) ?_
  exact sl137_0 p1 p2 p3 p4 p5 p6 x0 x1 x2 a1 fm gC (1 : Int32) ss O0 Z0 C1 bd0 bd1 bd2 rfl (Or.inr rfl) (Stand.up X0 (by decide) (by decide)) hx hZ hw hby hml hown hnm hret hlk e0 hs0 CR hS hk N0

theorem sl197_1 {Z : State} {n0 : Nat} {h0 hh : Heap} (p1 p2 p3 p4 p5 p6 x0 x1 x2 : Int32) (a1 : Addr) (fm : Value) (gC : Int32) (al ex : Int32) (ss : own_ST Z gC fm) (O0 : Old Z n0 hh) (Z0 : n0 ≤ hh.size) (C1 : own_CS1 Z hh a1 x0) (bd0 : own_bd x0) (bd1 : own_bd x1) (bd2 : own_bd x2) (hex : own_are ((1 : Int32) &&& own_dg x0) (1 : Int32) p5 p6 = ex) :
    SegH Z n0 h0 hh room_1 14 80 code 14 "pechat/card/DigitsArePinLaw" "law" (some .boolean) (Q0 Z h0 n0) 197 #[.val (.int p1), .val (.int p2), .val (.int p3), .val (.int p4), .val (.int p5), .val (.int p6), .val (.int (1 : Int32)), .val (.int x0), .val (.int x1), .val (.int x2), .val (.ref a1), .val (.int al), .val (.int ex), .unset] [] := by
  intro p l e s m args below meth c T0 locs a0 k0 vm0 X0 hx hZ hw hby hml hown hnm hret hlk e0 hs0 CR hS hk N0
  refine GoH.st (pc' := 199) (S' := [(.ref a1)]) (fun t_ k_ => XS.aload X0.here hx rfl (hb hby at_197) rfl rfl k_) ?_
  refine GoH.st (pc' := 201) (S' := [(.int p5), (.ref a1)]) (fun t_ k_ => XS.iload X0.here hx rfl (hb hby at_199) rfl k_) ?_
  refine GoH.st (pc' := 203) (S' := [(.int p6), (.int p5), (.ref a1)]) (fun t_ k_ => XS.iload X0.here hx rfl (hb hby at_201) rfl k_) ?_
  obtain ⟨_, _, ⟨T1, L1, k1, n1⟩, -, X1, hS1, hg1, ⟨Lc1, hQ1, l1, y1, z1, CR1⟩, st1⟩ := callSS X0 hx (y := (⟨"pechat/card/Digits", "are", "(Ljava/lang/String;II)Z"⟩ : MethodName)) hown (mvT hZ (wd hw 34 rfl)) (mvT hZ (wd hw 35 rfl)) (mvT hZ (wd hw 36 rfl)) (mvT hZ (wd hw 37 rfl)) (by decide) (backOfSH (W := 0) (rmare1 l Z a0 hw [] a1 p5 p6 fm gC x0 hh n0 Z0 ss O0 C1 bd0) hZ (wd hw 37 rfl) (wd hw 36 rfl) (by decide) (by decide) (own_EW hw) CR.1) (g := (mkF m 203 #[.val (.int p1), .val (.int p2), .val (.int p3), .val (.int p4), .val (.int p5), .val (.int p6), .val (.int (1 : Int32)), .val (.int x0), .val (.int x1), .val (.int x2), .val (.ref a1), .val (.int al), .val (.int ex), .unset] [(.int p6), (.int p5), (.ref a1)])) rfl (by rw [hml]; rfl) (argsL := [(.ref a1), (.int p5), (.int p6)]) (rest := []) (lenOf pd_14 rfl) rfl (by show 2 * 0 + _ ≤ _; exact Nat.le_of_eq rfl) (hb hby at_203) (fun _ _ => ⟨rfl, e0, (by decide : 14 + 2 ≤ _), (by decide : 80 + 24 ≤ _)⟩)
  dsimp only [Pt.U, Pt.locs, Pt.cells, Pt.slots] at X1 l1 y1 z1 st1 hQ1 hS1 hg1 CR1
  subst l1 y1 z1
  replace X1 : Stand p l e _ (s.setVm T1.vm) m _ below meth c T1 _ _ _ := X1
  replace hS := foldS hS (T := T0) (Nat.le_trans hk (Nat.le_of_eq (congrArg Array.size e0.symm))) hS1 hg1
  replace hk := Nat.le_refl T1.heap.size
  replace hZ : Z.Warmed39 (s.setVm T1.vm).vm := State.Warmed39.trans (t := s.setVm vm0) hZ hS1.1
  replace hown : (s.setVm T1.vm).vm.findClass "pechat/card/DigitsArePinLaw" = some m.cls := by rw [show (s.setVm T1.vm).vm = T1.vm from rfl, hS1.1.alike.findClass]; exact hown
  obtain ⟨rfl, N1q, K1⟩ := hQ1
  have N1 := Fr.app N0 N1q
  obtain ⟨h1, e1⟩ : ∃ z, T1.heap = z := ⟨_, rfl⟩
  rw [e1] at K1 CR1
  replace CR := CR.trans CR1
  replace Z0 := Nat.le_trans Z0 K1.1
  replace O0 := O0.keep K1 all0
  replace C1 := C1.keep K1
  replace hk : T1.heap.size ≤ h1.size := Nat.le_of_eq (congrArg Array.size e1)
  refine GoH.tr (pc' := 206) (S' := [(.int (own_are ((1 : Int32) &&& own_dg x0) (1 : Int32) p5 p6))]) st1 ?_
  refine GoH.st (pc' := 208) (S' := []) (fun t_ k_ => XS.istore X1.here hx rfl (hb hby at_206) rfl (l' := #[.val (.int p1), .val (.int p2), .val (.int p3), .val (.int p4), .val (.int p5), .val (.int p6), .val (.int (1 : Int32)), .val (.int x0), .val (.int x1), .val (.int x2), .val (.ref a1), .val (.int al), .val (.int ex), .val (.int (own_are ((1 : Int32) &&& own_dg x0) (1 : Int32) p5 p6))]) rfl k_) ?_
  refine GoH.st (pc' := 210) (S' := [(.int (own_are ((1 : Int32) &&& own_dg x0) (1 : Int32) p5 p6))]) (fun t_ k_ => XS.iload X1.here hx rfl (hb hby at_208) rfl k_) ?_
  refine GoH.st (pc' := 212) (S' := [(.int ex), (.int (own_are ((1 : Int32) &&& own_dg x0) (1 : Int32) p5 p6))]) (fun t_ k_ => XS.iload X1.here hx rfl (hb hby at_210) rfl k_) ?_
  refine GoH.st (pc' := 215) (S' := []) (fun t_ k_ => XS.icmpNo X1.here hx rfl (hb hby at_212) rfl (teq (hex : ((own_are ((1 : Int32) &&& own_dg x0) (1 : Int32) p5 p6) = ex))).2 k_) ?_
  refine GoH.st (pc' := 216) (S' := [(.int (1 : Int32))]) (fun t_ k_ => XS.iconst X1.here hx rfl (hb hby at_215) k_) ?_
  refine GoH.st (pc' := 220) (S' := [(.int (1 : Int32))]) (fun t_ k_ => XS.goto X1.here hx rfl (pc0 := 216) (pc' := 220) rfl (hb hby at_216) (by decide) (by decide) k_) ?_
  exact GoH.retN X1 hx hlk hret (by simp) (hb hby at_220) (by decide) (by decide) hS hk e1 hs0 hZ (own_EW hw) CR (by rw [e1]; exact ⟨rfl, N1⟩)

theorem sl171_1 {Z : State} {n0 : Nat} {h0 hh : Heap} (p1 p2 p3 p4 p5 p6 x0 x1 x2 : Int32) (a1 : Addr) (fm : Value) (gC : Int32) (al : Int32) (ss : own_ST Z gC fm) (O0 : Old Z n0 hh) (Z0 : n0 ≤ hh.size) (C1 : own_CS1 Z hh a1 x0) (bd0 : own_bd x0) (bd1 : own_bd x1) (bd2 : own_bd x2) (hA : ((1 : Int32) &&& own_dg x0) = al) (hB : al = 0 ∨ al = 1) :
    SegH Z n0 h0 hh room_1 14 80 code 14 "pechat/card/DigitsArePinLaw" "law" (some .boolean) (Q0 Z h0 n0) 171 #[.val (.int p1), .val (.int p2), .val (.int p3), .val (.int p4), .val (.int p5), .val (.int p6), .val (.int (1 : Int32)), .val (.int x0), .val (.int x1), .val (.int x2), .val (.ref a1), .val (.int al), .unset, .unset] [] := by
  intro p l e s m args below meth c T0 locs a0 k0 vm0 X0 hx hZ hw hby hml hown hnm hret hlk e0 hs0 CR hS hk N0
  refine GoH.st (pc' := 173) (S' := [(.int al)]) (fun t_ k_ => XS.iload X0.here hx rfl (hb hby at_171) rfl k_) ?_
  by_cases hc173_1 : al = (0 : Int32)
  · refine GoH.st (pc' := 194) (S' := []) (fun t_ k_ => XS.ifYes X0.here hx rfl (pc0 := 173) (pc' := 194) rfl (hb hby at_173) rfl ((if0 _ _).trans (teq hc173_1).1) (by decide) (by decide) k_) ?_
    refine GoH.st (pc' := 195) (S' := [(.int (0 : Int32))]) (fun t_ k_ => XS.iconst X0.here hx rfl (hb hby at_194) k_) ?_
    refine GoH.st (pc' := 197) (S' := []) (fun t_ k_ => XS.istore X0.here hx rfl (hb hby at_195) rfl (l' := #[.val (.int p1), .val (.int p2), .val (.int p3), .val (.int p4), .val (.int p5), .val (.int p6), .val (.int (1 : Int32)), .val (.int x0), .val (.int x1), .val (.int x2), .val (.ref a1), .val (.int al), .val (.int (0 : Int32)), .unset]) rfl k_) ?_
    exact sl197_1 p1 p2 p3 p4 p5 p6 x0 x1 x2 a1 fm gC al (0 : Int32) ss O0 Z0 C1 bd0 bd1 bd2 (by rw [show own_are ((1 : Int32) &&& own_dg x0) (1 : Int32) p5 p6 = own_are al (1 : Int32) p5 p6 from congrArg (fun u_ => own_are u_ (1 : Int32) p5 p6) hA, own_are, if_pos hc173_1]) (Stand.up X0 (by decide) (by decide)) hx hZ hw hby hml hown hnm hret hlk e0 hs0 CR hS hk N0
  · refine GoH.st (pc' := 176) (S' := []) (fun t_ k_ => XS.ifNo X0.here hx rfl (hb hby at_173) rfl ((if0 _ _).trans (feq hc173_1).1) k_) ?_
    refine GoH.st (pc' := 178) (S' := [(.int p5)]) (fun t_ k_ => XS.iload X0.here hx rfl (hb hby at_176) rfl k_) ?_
    refine GoH.st (pc' := 180) (S' := [(.int (1 : Int32)), (.int p5)]) (fun t_ k_ => XS.iload X0.here hx rfl (hb hby at_178) rfl k_) ?_
    by_cases hc180_2 : (1 : Int32) < p5
    · refine GoH.st (pc' := 194) (S' := []) (fun t_ k_ => XS.icmpYes X0.here hx rfl (pc0 := 180) (pc' := 194) rfl (hb hby at_180) rfl (tlt hc180_2).2.2.1 (by decide) (by decide) k_) ?_
      refine GoH.st (pc' := 195) (S' := [(.int (0 : Int32))]) (fun t_ k_ => XS.iconst X0.here hx rfl (hb hby at_194) k_) ?_
      refine GoH.st (pc' := 197) (S' := []) (fun t_ k_ => XS.istore X0.here hx rfl (hb hby at_195) rfl (l' := #[.val (.int p1), .val (.int p2), .val (.int p3), .val (.int p4), .val (.int p5), .val (.int p6), .val (.int (1 : Int32)), .val (.int x0), .val (.int x1), .val (.int x2), .val (.ref a1), .val (.int al), .val (.int (0 : Int32)), .unset]) rfl k_) ?_
      exact sl197_1 p1 p2 p3 p4 p5 p6 x0 x1 x2 a1 fm gC al (0 : Int32) ss O0 Z0 C1 bd0 bd1 bd2 (by rw [show own_are ((1 : Int32) &&& own_dg x0) (1 : Int32) p5 p6 = own_are al (1 : Int32) p5 p6 from congrArg (fun u_ => own_are u_ (1 : Int32) p5 p6) hA, own_are, if_neg hc173_1, if_pos hc180_2]) (Stand.up X0 (by decide) (by decide)) hx hZ hw hby hml hown hnm hret hlk e0 hs0 CR hS hk N0
    · refine GoH.st (pc' := 183) (S' := []) (fun t_ k_ => XS.icmpNo X0.here hx rfl (hb hby at_180) rfl (flt hc180_2).2.2.1 k_) ?_
      refine GoH.st (pc' := 185) (S' := [(.int (1 : Int32))]) (fun t_ k_ => XS.iload X0.here hx rfl (hb hby at_183) rfl k_) ?_
      refine GoH.st (pc' := 187) (S' := [(.int p6), (.int (1 : Int32))]) (fun t_ k_ => XS.iload X0.here hx rfl (hb hby at_185) rfl k_) ?_
      by_cases hc187_3 : p6 < (1 : Int32)
      · refine GoH.st (pc' := 194) (S' := []) (fun t_ k_ => XS.icmpYes X0.here hx rfl (pc0 := 187) (pc' := 194) rfl (hb hby at_187) rfl (tlt hc187_3).2.2.1 (by decide) (by decide) k_) ?_
        refine GoH.st (pc' := 195) (S' := [(.int (0 : Int32))]) (fun t_ k_ => XS.iconst X0.here hx rfl (hb hby at_194) k_) ?_
        refine GoH.st (pc' := 197) (S' := []) (fun t_ k_ => XS.istore X0.here hx rfl (hb hby at_195) rfl (l' := #[.val (.int p1), .val (.int p2), .val (.int p3), .val (.int p4), .val (.int p5), .val (.int p6), .val (.int (1 : Int32)), .val (.int x0), .val (.int x1), .val (.int x2), .val (.ref a1), .val (.int al), .val (.int (0 : Int32)), .unset]) rfl k_) ?_
        exact sl197_1 p1 p2 p3 p4 p5 p6 x0 x1 x2 a1 fm gC al (0 : Int32) ss O0 Z0 C1 bd0 bd1 bd2 (by rw [show own_are ((1 : Int32) &&& own_dg x0) (1 : Int32) p5 p6 = own_are al (1 : Int32) p5 p6 from congrArg (fun u_ => own_are u_ (1 : Int32) p5 p6) hA, own_are, if_neg hc173_1, if_neg hc180_2, if_pos hc187_3]) (Stand.up X0 (by decide) (by decide)) hx hZ hw hby hml hown hnm hret hlk e0 hs0 CR hS hk N0
      · refine GoH.st (pc' := 190) (S' := []) (fun t_ k_ => XS.icmpNo X0.here hx rfl (hb hby at_187) rfl (flt hc187_3).2.2.1 k_) ?_
        refine GoH.st (pc' := 191) (S' := [(.int (1 : Int32))]) (fun t_ k_ => XS.iconst X0.here hx rfl (hb hby at_190) k_) ?_
        refine GoH.st (pc' := 195) (S' := [(.int (1 : Int32))]) (fun t_ k_ => XS.goto X0.here hx rfl (pc0 := 191) (pc' := 195) rfl (hb hby at_191) (by decide) (by decide) k_) ?_
        refine GoH.st (pc' := 197) (S' := []) (fun t_ k_ => XS.istore X0.here hx rfl (hb hby at_195) rfl (l' := #[.val (.int p1), .val (.int p2), .val (.int p3), .val (.int p4), .val (.int p5), .val (.int p6), .val (.int (1 : Int32)), .val (.int x0), .val (.int x1), .val (.int x2), .val (.ref a1), .val (.int al), .val (.int (1 : Int32)), .unset]) rfl k_) ?_
        exact sl197_1 p1 p2 p3 p4 p5 p6 x0 x1 x2 a1 fm gC al (1 : Int32) ss O0 Z0 C1 bd0 bd1 bd2 (by rw [show own_are ((1 : Int32) &&& own_dg x0) (1 : Int32) p5 p6 = own_are al (1 : Int32) p5 p6 from congrArg (fun u_ => own_are u_ (1 : Int32) p5 p6) hA, own_are, if_neg hc173_1, if_neg hc180_2, if_neg hc187_3]) (Stand.up X0 (by decide) (by decide)) hx hZ hw hby hml hown hnm hret hlk e0 hs0 CR hS hk N0

theorem sl154_1 {Z : State} {n0 : Nat} {h0 hh : Heap} (p1 p2 p3 p4 p5 p6 x0 x1 x2 : Int32) (a1 : Addr) (fm : Value) (gC : Int32) (al : Int32) (ss : own_ST Z gC fm) (O0 : Old Z n0 hh) (Z0 : n0 ≤ hh.size) (C1 : own_CS1 Z hh a1 x0) (bd0 : own_bd x0) (bd1 : own_bd x1) (bd2 : own_bd x2) (hA : ((1 : Int32) &&& own_dg x0) = al) (hB : al = 0 ∨ al = 1) :
    SegH Z n0 h0 hh room_1 14 80 code 14 "pechat/card/DigitsArePinLaw" "law" (some .boolean) (Q0 Z h0 n0) 154 #[.val (.int p1), .val (.int p2), .val (.int p3), .val (.int p4), .val (.int p5), .val (.int p6), .val (.int (1 : Int32)), .val (.int x0), .val (.int x1), .val (.int x2), .val (.ref a1), .val (.int al), .unset, .unset] [] := by
  intro p l e s m args below meth c T0 locs a0 k0 vm0 X0 hx hZ hw hby hml hown hnm hret hlk e0 hs0 CR hS hk N0
  refine GoH.st (pc' := 156) (S' := [(.int (1 : Int32))]) (fun t_ k_ => XS.iload X0.here hx rfl (hb hby at_154) rfl k_) ?_
  refine GoH.st (pc' := 157) (S' := [(.int (3 : Int32)), (.int (1 : Int32))]) (fun t_ k_ => XS.iconst X0.here hx rfl (hb hby at_156) k_) ?_
  refine GoH.st (pc' := 171) (S' := []) (fun t_ k_ => XS.icmpYes X0.here hx rfl (pc0 := 157) (pc' := 171) rfl (hb hby at_157) rfl (tlt (by decide : ((1 : Int32) < (3 : Int32)))).1 (by decide) (by decide) k_) ?_
  exact sl171_1 p1 p2 p3 p4 p5 p6 x0 x1 x2 a1 fm gC al ss O0 Z0 C1 bd0 bd1 bd2 hA hB (Stand.up X0 (by decide) (by decide)) hx hZ hw hby hml hown hnm hret hlk e0 hs0 CR hS hk N0

theorem sl137_1 {Z : State} {n0 : Nat} {h0 hh : Heap} (p1 p2 p3 p4 p5 p6 x0 x1 x2 : Int32) (a1 : Addr) (fm : Value) (gC : Int32) (al : Int32) (ss : own_ST Z gC fm) (O0 : Old Z n0 hh) (Z0 : n0 ≤ hh.size) (C1 : own_CS1 Z hh a1 x0) (bd0 : own_bd x0) (bd1 : own_bd x1) (bd2 : own_bd x2) (hA : ((1 : Int32) &&& own_dg x0) = al) (hB : al = 0 ∨ al = 1) :
    SegH Z n0 h0 hh room_1 14 80 code 14 "pechat/card/DigitsArePinLaw" "law" (some .boolean) (Q0 Z h0 n0) 137 #[.val (.int p1), .val (.int p2), .val (.int p3), .val (.int p4), .val (.int p5), .val (.int p6), .val (.int (1 : Int32)), .val (.int x0), .val (.int x1), .val (.int x2), .val (.ref a1), .val (.int al), .unset, .unset] [] := by
  intro p l e s m args below meth c T0 locs a0 k0 vm0 X0 hx hZ hw hby hml hown hnm hret hlk e0 hs0 CR hS hk N0
  refine GoH.st (pc' := 139) (S' := [(.int (1 : Int32))]) (fun t_ k_ => XS.iload X0.here hx rfl (hb hby at_137) rfl k_) ?_
  refine GoH.st (pc' := 140) (S' := [(.int (2 : Int32)), (.int (1 : Int32))]) (fun t_ k_ => XS.iconst X0.here hx rfl (hb hby at_139) k_) ?_
  refine GoH.st (pc' := 154) (S' := []) (fun t_ k_ => XS.icmpYes X0.here hx rfl (pc0 := 140) (pc' := 154) rfl (hb hby at_140) rfl (tlt (by decide : ((1 : Int32) < (2 : Int32)))).1 (by decide) (by decide) k_) ?_
  exact sl154_1 p1 p2 p3 p4 p5 p6 x0 x1 x2 a1 fm gC al ss O0 Z0 C1 bd0 bd1 bd2 hA hB (Stand.up X0 (by decide) (by decide)) hx hZ hw hby hml hown hnm hret hlk e0 hs0 CR hS hk N0

theorem sl117_1 {Z : State} {n0 : Nat} {h0 hh : Heap} (p1 p2 p3 p4 p5 p6 x0 x1 x2 : Int32) (a1 : Addr) (fm : Value) (gC : Int32) (ss : own_ST Z gC fm) (O0 : Old Z n0 hh) (Z0 : n0 ≤ hh.size) (C1 : own_CS1 Z hh a1 x0) (bd0 : own_bd x0) (bd1 : own_bd x1) (bd2 : own_bd x2) :
    SegH Z n0 h0 hh room_1 14 80 code 14 "pechat/card/DigitsArePinLaw" "law" (some .boolean) (Q0 Z h0 n0) 117 #[.val (.int p1), .val (.int p2), .val (.int p3), .val (.int p4), .val (.int p5), .val (.int p6), .val (.int (1 : Int32)), .val (.int x0), .val (.int x1), .val (.int x2), .val (.ref a1), .unset, .unset, .unset] [] := by
  intro p l e s m args below meth c T0 locs a0 k0 vm0 X0 hx hZ hw hby hml hown hnm hret hlk e0 hs0 CR hS hk N0
  refine GoH.st (pc' := 118) (S' := [(.int (1 : Int32))]) (fun t_ k_ => XS.iconst X0.here hx rfl (hb hby at_117) k_) ?_
  refine GoH.st (pc' := 120) (S' := []) (fun t_ k_ => XS.istore X0.here hx rfl (hb hby at_118) rfl (l' := #[.val (.int p1), .val (.int p2), .val (.int p3), .val (.int p4), .val (.int p5), .val (.int p6), .val (.int (1 : Int32)), .val (.int x0), .val (.int x1), .val (.int x2), .val (.ref a1), .val (.int (1 : Int32)), .unset, .unset]) rfl k_) ?_
  refine GoH.st (pc' := 122) (S' := [(.int (1 : Int32))]) (fun t_ k_ => XS.iload X0.here hx rfl (hb hby at_120) rfl k_) ?_
  refine GoH.st (pc' := 123) (S' := [(.int (1 : Int32)), (.int (1 : Int32))]) (fun t_ k_ => XS.iconst X0.here hx rfl (hb hby at_122) k_) ?_
  refine GoH.st (pc' := 126) (S' := []) (fun t_ k_ => XS.icmpNo X0.here hx rfl (hb hby at_123) rfl (flt (by decide : ¬ ((1 : Int32) < (1 : Int32)))).1 k_) ?_
  refine GoH.st (pc' := 128) (S' := [(.int x0)]) (fun t_ k_ => XS.iload X0.here hx rfl (hb hby at_126) rfl k_) ?_
  obtain ⟨_, _, ⟨T1, L1, k1, n1⟩, -, X1, ⟨Lc1, hQ1, l1, y1, z1⟩, st1⟩ := Jvm.LawKit.callS X0 hx (y := (⟨"pechat/card/DigitsArePinLaw", "isAsciiDigit", "(C)Z"⟩ : MethodName)) hown (mvT hZ (wd hw 31 rfl)) (mvT hZ (wd hw 32 rfl)) (mvT hZ (wd hw 2 rfl)) (mvT hZ (wd hw 33 rfl)) (by decide) (backOf (W := 0) (rm7 l Z a0 hw [] x0 hh n0 Z0 bd0) hZ (wd hw 33 rfl) (wd hw 2 rfl) (by decide) (by decide)) (g := (mkF m 128 #[.val (.int p1), .val (.int p2), .val (.int p3), .val (.int p4), .val (.int p5), .val (.int p6), .val (.int (1 : Int32)), .val (.int x0), .val (.int x1), .val (.int x2), .val (.ref a1), .val (.int (1 : Int32)), .unset, .unset] [(.int x0)])) rfl (by rw [hml]; rfl) (argsL := [(.int x0)]) (rest := []) (lenOf pd_1 rfl) rfl (by show 2 * 0 + _ ≤ _; exact Nat.le_of_eq rfl) (hb hby at_128) (fun _ _ => ⟨rfl, e0, (by decide : 14 + 0 ≤ _), (by decide : 80 + 0 ≤ _)⟩)
  dsimp only [Pt.U, Pt.locs, Pt.cells, Pt.slots] at X1 l1 y1 z1 st1 hQ1
  subst l1 y1 z1
  obtain ⟨rfl, N1q, e1⟩ := hQ1
  have N1 := Fr.app N0 N1q
  refine GoH.st (pc' := 131) (S' := [(.int (own_dg x0))]) st1 ?_
  by_cases hc131_2 : (own_dg x0) = (0 : Int32)
  · refine GoH.st (pc' := 134) (S' := []) (fun t_ k_ => XS.ifNo X1.here hx rfl (hb hby at_131) rfl ((if0 _ _).trans (teq hc131_2).2) k_) ?_
    have zd : own_dg x0 = 0 := hc131_2
    refine GoH.st (pc' := 135) (S' := [(.int (0 : Int32))]) (fun t_ k_ => XS.iconst X1.here hx rfl (hb hby at_134) k_) ?_
    refine GoH.st (pc' := 137) (S' := []) (fun t_ k_ => XS.istore X1.here hx rfl (hb hby at_135) rfl (l' := #[.val (.int p1), .val (.int p2), .val (.int p3), .val (.int p4), .val (.int p5), .val (.int p6), .val (.int (1 : Int32)), .val (.int x0), .val (.int x1), .val (.int x2), .val (.ref a1), .val (.int (0 : Int32)), .unset, .unset]) rfl k_) ?_
    exact sl137_1 p1 p2 p3 p4 p5 p6 x0 x1 x2 a1 fm gC (0 : Int32) ss O0 Z0 C1 bd0 bd1 bd2 (by rw [zd]; decide) (Or.inl rfl) (Stand.up X1 (by decide) (by decide)) hx hZ hw hby hml hown hnm hret hlk e1 hs0 CR hS hk N1
  · refine GoH.st (pc' := 137) (S' := []) (fun t_ k_ => XS.ifYes X1.here hx rfl (pc0 := 131) (pc' := 137) rfl (hb hby at_131) rfl ((if0 _ _).trans (feq hc131_2).2) (by decide) (by decide) k_) ?_
    have zd : own_dg x0 = 1 := (own_dg01 x0).resolve_left hc131_2
    exact sl137_1 p1 p2 p3 p4 p5 p6 x0 x1 x2 a1 fm gC (1 : Int32) ss O0 Z0 C1 bd0 bd1 bd2 (by rw [zd]; decide) (Or.inr rfl) (Stand.up X1 (by decide) (by decide)) hx hZ hw hby hml hown hnm hret hlk e1 hs0 CR hS hk N1

theorem sl197_2 {Z : State} {n0 : Nat} {h0 hh : Heap} (p1 p2 p3 p4 p5 p6 x0 x1 x2 : Int32) (a1 : Addr) (fm : Value) (gC : Int32) (al ex : Int32) (ss : own_ST Z gC fm) (O0 : Old Z n0 hh) (Z0 : n0 ≤ hh.size) (C1 : own_CS2 Z hh a1 x0 x1) (bd0 : own_bd x0) (bd1 : own_bd x1) (bd2 : own_bd x2) (hex : own_are (((1 : Int32) &&& own_dg x0) &&& own_dg x1) (2 : Int32) p5 p6 = ex) :
    SegH Z n0 h0 hh room_1 14 80 code 14 "pechat/card/DigitsArePinLaw" "law" (some .boolean) (Q0 Z h0 n0) 197 #[.val (.int p1), .val (.int p2), .val (.int p3), .val (.int p4), .val (.int p5), .val (.int p6), .val (.int (2 : Int32)), .val (.int x0), .val (.int x1), .val (.int x2), .val (.ref a1), .val (.int al), .val (.int ex), .unset] [] := by
  intro p l e s m args below meth c T0 locs a0 k0 vm0 X0 hx hZ hw hby hml hown hnm hret hlk e0 hs0 CR hS hk N0
  refine GoH.st (pc' := 199) (S' := [(.ref a1)]) (fun t_ k_ => XS.aload X0.here hx rfl (hb hby at_197) rfl rfl k_) ?_
  refine GoH.st (pc' := 201) (S' := [(.int p5), (.ref a1)]) (fun t_ k_ => XS.iload X0.here hx rfl (hb hby at_199) rfl k_) ?_
  refine GoH.st (pc' := 203) (S' := [(.int p6), (.int p5), (.ref a1)]) (fun t_ k_ => XS.iload X0.here hx rfl (hb hby at_201) rfl k_) ?_
  obtain ⟨_, _, ⟨T1, L1, k1, n1⟩, -, X1, hS1, hg1, ⟨Lc1, hQ1, l1, y1, z1, CR1⟩, st1⟩ := callSS X0 hx (y := (⟨"pechat/card/Digits", "are", "(Ljava/lang/String;II)Z"⟩ : MethodName)) hown (mvT hZ (wd hw 34 rfl)) (mvT hZ (wd hw 35 rfl)) (mvT hZ (wd hw 36 rfl)) (mvT hZ (wd hw 37 rfl)) (by decide) (backOfSH (W := 0) (rmare2 l Z a0 hw [] a1 p5 p6 fm gC x0 x1 hh n0 Z0 ss O0 C1 bd0 bd1) hZ (wd hw 37 rfl) (wd hw 36 rfl) (by decide) (by decide) (own_EW hw) CR.1) (g := (mkF m 203 #[.val (.int p1), .val (.int p2), .val (.int p3), .val (.int p4), .val (.int p5), .val (.int p6), .val (.int (2 : Int32)), .val (.int x0), .val (.int x1), .val (.int x2), .val (.ref a1), .val (.int al), .val (.int ex), .unset] [(.int p6), (.int p5), (.ref a1)])) rfl (by rw [hml]; rfl) (argsL := [(.ref a1), (.int p5), (.int p6)]) (rest := []) (lenOf pd_14 rfl) rfl (by show 2 * 0 + _ ≤ _; exact Nat.le_of_eq rfl) (hb hby at_203) (fun _ _ => ⟨rfl, e0, (by decide : 14 + 2 ≤ _), (by decide : 80 + 24 ≤ _)⟩)
  dsimp only [Pt.U, Pt.locs, Pt.cells, Pt.slots] at X1 l1 y1 z1 st1 hQ1 hS1 hg1 CR1
  subst l1 y1 z1
  replace X1 : Stand p l e _ (s.setVm T1.vm) m _ below meth c T1 _ _ _ := X1
  replace hS := foldS hS (T := T0) (Nat.le_trans hk (Nat.le_of_eq (congrArg Array.size e0.symm))) hS1 hg1
  replace hk := Nat.le_refl T1.heap.size
  replace hZ : Z.Warmed39 (s.setVm T1.vm).vm := State.Warmed39.trans (t := s.setVm vm0) hZ hS1.1
  replace hown : (s.setVm T1.vm).vm.findClass "pechat/card/DigitsArePinLaw" = some m.cls := by rw [show (s.setVm T1.vm).vm = T1.vm from rfl, hS1.1.alike.findClass]; exact hown
  obtain ⟨rfl, N1q, K1⟩ := hQ1
  have N1 := Fr.app N0 N1q
  obtain ⟨h1, e1⟩ : ∃ z, T1.heap = z := ⟨_, rfl⟩
  rw [e1] at K1 CR1
  replace CR := CR.trans CR1
  replace Z0 := Nat.le_trans Z0 K1.1
  replace O0 := O0.keep K1 all0
  replace C1 := C1.keep K1
  replace hk : T1.heap.size ≤ h1.size := Nat.le_of_eq (congrArg Array.size e1)
  refine GoH.tr (pc' := 206) (S' := [(.int (own_are (((1 : Int32) &&& own_dg x0) &&& own_dg x1) (2 : Int32) p5 p6))]) st1 ?_
  refine GoH.st (pc' := 208) (S' := []) (fun t_ k_ => XS.istore X1.here hx rfl (hb hby at_206) rfl (l' := #[.val (.int p1), .val (.int p2), .val (.int p3), .val (.int p4), .val (.int p5), .val (.int p6), .val (.int (2 : Int32)), .val (.int x0), .val (.int x1), .val (.int x2), .val (.ref a1), .val (.int al), .val (.int ex), .val (.int (own_are (((1 : Int32) &&& own_dg x0) &&& own_dg x1) (2 : Int32) p5 p6))]) rfl k_) ?_
  refine GoH.st (pc' := 210) (S' := [(.int (own_are (((1 : Int32) &&& own_dg x0) &&& own_dg x1) (2 : Int32) p5 p6))]) (fun t_ k_ => XS.iload X1.here hx rfl (hb hby at_208) rfl k_) ?_
  refine GoH.st (pc' := 212) (S' := [(.int ex), (.int (own_are (((1 : Int32) &&& own_dg x0) &&& own_dg x1) (2 : Int32) p5 p6))]) (fun t_ k_ => XS.iload X1.here hx rfl (hb hby at_210) rfl k_) ?_
  refine GoH.st (pc' := 215) (S' := []) (fun t_ k_ => XS.icmpNo X1.here hx rfl (hb hby at_212) rfl (teq (hex : ((own_are (((1 : Int32) &&& own_dg x0) &&& own_dg x1) (2 : Int32) p5 p6) = ex))).2 k_) ?_
  refine GoH.st (pc' := 216) (S' := [(.int (1 : Int32))]) (fun t_ k_ => XS.iconst X1.here hx rfl (hb hby at_215) k_) ?_
  refine GoH.st (pc' := 220) (S' := [(.int (1 : Int32))]) (fun t_ k_ => XS.goto X1.here hx rfl (pc0 := 216) (pc' := 220) rfl (hb hby at_216) (by decide) (by decide) k_) ?_
  exact GoH.retN X1 hx hlk hret (by simp) (hb hby at_220) (by decide) (by decide) hS hk e1 hs0 hZ (own_EW hw) CR (by rw [e1]; exact ⟨rfl, N1⟩)

theorem sl171_2 {Z : State} {n0 : Nat} {h0 hh : Heap} (p1 p2 p3 p4 p5 p6 x0 x1 x2 : Int32) (a1 : Addr) (fm : Value) (gC : Int32) (al : Int32) (ss : own_ST Z gC fm) (O0 : Old Z n0 hh) (Z0 : n0 ≤ hh.size) (C1 : own_CS2 Z hh a1 x0 x1) (bd0 : own_bd x0) (bd1 : own_bd x1) (bd2 : own_bd x2) (hA : (((1 : Int32) &&& own_dg x0) &&& own_dg x1) = al) (hB : al = 0 ∨ al = 1) :
    SegH Z n0 h0 hh room_1 14 80 code 14 "pechat/card/DigitsArePinLaw" "law" (some .boolean) (Q0 Z h0 n0) 171 #[.val (.int p1), .val (.int p2), .val (.int p3), .val (.int p4), .val (.int p5), .val (.int p6), .val (.int (2 : Int32)), .val (.int x0), .val (.int x1), .val (.int x2), .val (.ref a1), .val (.int al), .unset, .unset] [] := by
  intro p l e s m args below meth c T0 locs a0 k0 vm0 X0 hx hZ hw hby hml hown hnm hret hlk e0 hs0 CR hS hk N0
  refine GoH.st (pc' := 173) (S' := [(.int al)]) (fun t_ k_ => XS.iload X0.here hx rfl (hb hby at_171) rfl k_) ?_
  by_cases hc173_1 : al = (0 : Int32)
  · refine GoH.st (pc' := 194) (S' := []) (fun t_ k_ => XS.ifYes X0.here hx rfl (pc0 := 173) (pc' := 194) rfl (hb hby at_173) rfl ((if0 _ _).trans (teq hc173_1).1) (by decide) (by decide) k_) ?_
    refine GoH.st (pc' := 195) (S' := [(.int (0 : Int32))]) (fun t_ k_ => XS.iconst X0.here hx rfl (hb hby at_194) k_) ?_
    refine GoH.st (pc' := 197) (S' := []) (fun t_ k_ => XS.istore X0.here hx rfl (hb hby at_195) rfl (l' := #[.val (.int p1), .val (.int p2), .val (.int p3), .val (.int p4), .val (.int p5), .val (.int p6), .val (.int (2 : Int32)), .val (.int x0), .val (.int x1), .val (.int x2), .val (.ref a1), .val (.int al), .val (.int (0 : Int32)), .unset]) rfl k_) ?_
    exact sl197_2 p1 p2 p3 p4 p5 p6 x0 x1 x2 a1 fm gC al (0 : Int32) ss O0 Z0 C1 bd0 bd1 bd2 (by rw [show own_are (((1 : Int32) &&& own_dg x0) &&& own_dg x1) (2 : Int32) p5 p6 = own_are al (2 : Int32) p5 p6 from congrArg (fun u_ => own_are u_ (2 : Int32) p5 p6) hA, own_are, if_pos hc173_1]) (Stand.up X0 (by decide) (by decide)) hx hZ hw hby hml hown hnm hret hlk e0 hs0 CR hS hk N0
  · refine GoH.st (pc' := 176) (S' := []) (fun t_ k_ => XS.ifNo X0.here hx rfl (hb hby at_173) rfl ((if0 _ _).trans (feq hc173_1).1) k_) ?_
    refine GoH.st (pc' := 178) (S' := [(.int p5)]) (fun t_ k_ => XS.iload X0.here hx rfl (hb hby at_176) rfl k_) ?_
    refine GoH.st (pc' := 180) (S' := [(.int (2 : Int32)), (.int p5)]) (fun t_ k_ => XS.iload X0.here hx rfl (hb hby at_178) rfl k_) ?_
    by_cases hc180_2 : (2 : Int32) < p5
    · refine GoH.st (pc' := 194) (S' := []) (fun t_ k_ => XS.icmpYes X0.here hx rfl (pc0 := 180) (pc' := 194) rfl (hb hby at_180) rfl (tlt hc180_2).2.2.1 (by decide) (by decide) k_) ?_
      refine GoH.st (pc' := 195) (S' := [(.int (0 : Int32))]) (fun t_ k_ => XS.iconst X0.here hx rfl (hb hby at_194) k_) ?_
      refine GoH.st (pc' := 197) (S' := []) (fun t_ k_ => XS.istore X0.here hx rfl (hb hby at_195) rfl (l' := #[.val (.int p1), .val (.int p2), .val (.int p3), .val (.int p4), .val (.int p5), .val (.int p6), .val (.int (2 : Int32)), .val (.int x0), .val (.int x1), .val (.int x2), .val (.ref a1), .val (.int al), .val (.int (0 : Int32)), .unset]) rfl k_) ?_
      exact sl197_2 p1 p2 p3 p4 p5 p6 x0 x1 x2 a1 fm gC al (0 : Int32) ss O0 Z0 C1 bd0 bd1 bd2 (by rw [show own_are (((1 : Int32) &&& own_dg x0) &&& own_dg x1) (2 : Int32) p5 p6 = own_are al (2 : Int32) p5 p6 from congrArg (fun u_ => own_are u_ (2 : Int32) p5 p6) hA, own_are, if_neg hc173_1, if_pos hc180_2]) (Stand.up X0 (by decide) (by decide)) hx hZ hw hby hml hown hnm hret hlk e0 hs0 CR hS hk N0
    · refine GoH.st (pc' := 183) (S' := []) (fun t_ k_ => XS.icmpNo X0.here hx rfl (hb hby at_180) rfl (flt hc180_2).2.2.1 k_) ?_
      refine GoH.st (pc' := 185) (S' := [(.int (2 : Int32))]) (fun t_ k_ => XS.iload X0.here hx rfl (hb hby at_183) rfl k_) ?_
      refine GoH.st (pc' := 187) (S' := [(.int p6), (.int (2 : Int32))]) (fun t_ k_ => XS.iload X0.here hx rfl (hb hby at_185) rfl k_) ?_
      by_cases hc187_3 : p6 < (2 : Int32)
      · refine GoH.st (pc' := 194) (S' := []) (fun t_ k_ => XS.icmpYes X0.here hx rfl (pc0 := 187) (pc' := 194) rfl (hb hby at_187) rfl (tlt hc187_3).2.2.1 (by decide) (by decide) k_) ?_
        refine GoH.st (pc' := 195) (S' := [(.int (0 : Int32))]) (fun t_ k_ => XS.iconst X0.here hx rfl (hb hby at_194) k_) ?_
        refine GoH.st (pc' := 197) (S' := []) (fun t_ k_ => XS.istore X0.here hx rfl (hb hby at_195) rfl (l' := #[.val (.int p1), .val (.int p2), .val (.int p3), .val (.int p4), .val (.int p5), .val (.int p6), .val (.int (2 : Int32)), .val (.int x0), .val (.int x1), .val (.int x2), .val (.ref a1), .val (.int al), .val (.int (0 : Int32)), .unset]) rfl k_) ?_
        exact sl197_2 p1 p2 p3 p4 p5 p6 x0 x1 x2 a1 fm gC al (0 : Int32) ss O0 Z0 C1 bd0 bd1 bd2 (by rw [show own_are (((1 : Int32) &&& own_dg x0) &&& own_dg x1) (2 : Int32) p5 p6 = own_are al (2 : Int32) p5 p6 from congrArg (fun u_ => own_are u_ (2 : Int32) p5 p6) hA, own_are, if_neg hc173_1, if_neg hc180_2, if_pos hc187_3]) (Stand.up X0 (by decide) (by decide)) hx hZ hw hby hml hown hnm hret hlk e0 hs0 CR hS hk N0
      · refine GoH.st (pc' := 190) (S' := []) (fun t_ k_ => XS.icmpNo X0.here hx rfl (hb hby at_187) rfl (flt hc187_3).2.2.1 k_) ?_
        refine GoH.st (pc' := 191) (S' := [(.int (1 : Int32))]) (fun t_ k_ => XS.iconst X0.here hx rfl (hb hby at_190) k_) ?_
        refine GoH.st (pc' := 195) (S' := [(.int (1 : Int32))]) (fun t_ k_ => XS.goto X0.here hx rfl (pc0 := 191) (pc' := 195) rfl (hb hby at_191) (by decide) (by decide) k_) ?_
        refine GoH.st (pc' := 197) (S' := []) (fun t_ k_ => XS.istore X0.here hx rfl (hb hby at_195) rfl (l' := #[.val (.int p1), .val (.int p2), .val (.int p3), .val (.int p4), .val (.int p5), .val (.int p6), .val (.int (2 : Int32)), .val (.int x0), .val (.int x1), .val (.int x2), .val (.ref a1), .val (.int al), .val (.int (1 : Int32)), .unset]) rfl k_) ?_
        exact sl197_2 p1 p2 p3 p4 p5 p6 x0 x1 x2 a1 fm gC al (1 : Int32) ss O0 Z0 C1 bd0 bd1 bd2 (by rw [show own_are (((1 : Int32) &&& own_dg x0) &&& own_dg x1) (2 : Int32) p5 p6 = own_are al (2 : Int32) p5 p6 from congrArg (fun u_ => own_are u_ (2 : Int32) p5 p6) hA, own_are, if_neg hc173_1, if_neg hc180_2, if_neg hc187_3]) (Stand.up X0 (by decide) (by decide)) hx hZ hw hby hml hown hnm hret hlk e0 hs0 CR hS hk N0

theorem sl154_2 {Z : State} {n0 : Nat} {h0 hh : Heap} (p1 p2 p3 p4 p5 p6 x0 x1 x2 : Int32) (a1 : Addr) (fm : Value) (gC : Int32) (al : Int32) (ss : own_ST Z gC fm) (O0 : Old Z n0 hh) (Z0 : n0 ≤ hh.size) (C1 : own_CS2 Z hh a1 x0 x1) (bd0 : own_bd x0) (bd1 : own_bd x1) (bd2 : own_bd x2) (hA : (((1 : Int32) &&& own_dg x0) &&& own_dg x1) = al) (hB : al = 0 ∨ al = 1) :
    SegH Z n0 h0 hh room_1 14 80 code 14 "pechat/card/DigitsArePinLaw" "law" (some .boolean) (Q0 Z h0 n0) 154 #[.val (.int p1), .val (.int p2), .val (.int p3), .val (.int p4), .val (.int p5), .val (.int p6), .val (.int (2 : Int32)), .val (.int x0), .val (.int x1), .val (.int x2), .val (.ref a1), .val (.int al), .unset, .unset] [] := by
  intro p l e s m args below meth c T0 locs a0 k0 vm0 X0 hx hZ hw hby hml hown hnm hret hlk e0 hs0 CR hS hk N0
  refine GoH.st (pc' := 156) (S' := [(.int (2 : Int32))]) (fun t_ k_ => XS.iload X0.here hx rfl (hb hby at_154) rfl k_) ?_
  refine GoH.st (pc' := 157) (S' := [(.int (3 : Int32)), (.int (2 : Int32))]) (fun t_ k_ => XS.iconst X0.here hx rfl (hb hby at_156) k_) ?_
  refine GoH.st (pc' := 171) (S' := []) (fun t_ k_ => XS.icmpYes X0.here hx rfl (pc0 := 157) (pc' := 171) rfl (hb hby at_157) rfl (tlt (by decide : ((2 : Int32) < (3 : Int32)))).1 (by decide) (by decide) k_) ?_
  exact sl171_2 p1 p2 p3 p4 p5 p6 x0 x1 x2 a1 fm gC al ss O0 Z0 C1 bd0 bd1 bd2 hA hB (Stand.up X0 (by decide) (by decide)) hx hZ hw hby hml hown hnm hret hlk e0 hs0 CR hS hk N0

theorem sl137_2 {Z : State} {n0 : Nat} {h0 hh : Heap} (p1 p2 p3 p4 p5 p6 x0 x1 x2 : Int32) (a1 : Addr) (fm : Value) (gC : Int32) (al : Int32) (ss : own_ST Z gC fm) (O0 : Old Z n0 hh) (Z0 : n0 ≤ hh.size) (C1 : own_CS2 Z hh a1 x0 x1) (bd0 : own_bd x0) (bd1 : own_bd x1) (bd2 : own_bd x2) (hA : ((1 : Int32) &&& own_dg x0) = al) (hB : al = 0 ∨ al = 1) :
    SegH Z n0 h0 hh room_1 14 80 code 14 "pechat/card/DigitsArePinLaw" "law" (some .boolean) (Q0 Z h0 n0) 137 #[.val (.int p1), .val (.int p2), .val (.int p3), .val (.int p4), .val (.int p5), .val (.int p6), .val (.int (2 : Int32)), .val (.int x0), .val (.int x1), .val (.int x2), .val (.ref a1), .val (.int al), .unset, .unset] [] := by
  intro p l e s m args below meth c T0 locs a0 k0 vm0 X0 hx hZ hw hby hml hown hnm hret hlk e0 hs0 CR hS hk N0
  refine GoH.st (pc' := 139) (S' := [(.int (2 : Int32))]) (fun t_ k_ => XS.iload X0.here hx rfl (hb hby at_137) rfl k_) ?_
  refine GoH.st (pc' := 140) (S' := [(.int (2 : Int32)), (.int (2 : Int32))]) (fun t_ k_ => XS.iconst X0.here hx rfl (hb hby at_139) k_) ?_
  refine GoH.st (pc' := 143) (S' := []) (fun t_ k_ => XS.icmpNo X0.here hx rfl (hb hby at_140) rfl (flt (by decide : ¬ ((2 : Int32) < (2 : Int32)))).1 k_) ?_
  refine GoH.st (pc' := 145) (S' := [(.int x1)]) (fun t_ k_ => XS.iload X0.here hx rfl (hb hby at_143) rfl k_) ?_
  obtain ⟨_, _, ⟨T1, L1, k1, n1⟩, -, X1, ⟨Lc1, hQ1, l1, y1, z1⟩, st1⟩ := Jvm.LawKit.callS X0 hx (y := (⟨"pechat/card/DigitsArePinLaw", "isAsciiDigit", "(C)Z"⟩ : MethodName)) hown (mvT hZ (wd hw 31 rfl)) (mvT hZ (wd hw 32 rfl)) (mvT hZ (wd hw 2 rfl)) (mvT hZ (wd hw 33 rfl)) (by decide) (backOf (W := 0) (rm7 l Z a0 hw [] x1 hh n0 Z0 bd1) hZ (wd hw 33 rfl) (wd hw 2 rfl) (by decide) (by decide)) (g := (mkF m 145 #[.val (.int p1), .val (.int p2), .val (.int p3), .val (.int p4), .val (.int p5), .val (.int p6), .val (.int (2 : Int32)), .val (.int x0), .val (.int x1), .val (.int x2), .val (.ref a1), .val (.int al), .unset, .unset] [(.int x1)])) rfl (by rw [hml]; rfl) (argsL := [(.int x1)]) (rest := []) (lenOf pd_1 rfl) rfl (by show 2 * 0 + _ ≤ _; exact Nat.le_of_eq rfl) (hb hby at_145) (fun _ _ => ⟨rfl, e0, (by decide : 14 + 0 ≤ _), (by decide : 80 + 0 ≤ _)⟩)
  dsimp only [Pt.U, Pt.locs, Pt.cells, Pt.slots] at X1 l1 y1 z1 st1 hQ1
  subst l1 y1 z1
  obtain ⟨rfl, N1q, e1⟩ := hQ1
  have N1 := Fr.app N0 N1q
  refine GoH.st (pc' := 148) (S' := [(.int (own_dg x1))]) st1 ?_
  by_cases hc148_2 : (own_dg x1) = (0 : Int32)
  · refine GoH.st (pc' := 151) (S' := []) (fun t_ k_ => XS.ifNo X1.here hx rfl (hb hby at_148) rfl ((if0 _ _).trans (teq hc148_2).2) k_) ?_
    have zd : own_dg x1 = 0 := hc148_2
    refine GoH.st (pc' := 152) (S' := [(.int (0 : Int32))]) (fun t_ k_ => XS.iconst X1.here hx rfl (hb hby at_151) k_) ?_
    refine GoH.st (pc' := 154) (S' := []) (fun t_ k_ => XS.istore X1.here hx rfl (hb hby at_152) rfl (l' := #[.val (.int p1), .val (.int p2), .val (.int p3), .val (.int p4), .val (.int p5), .val (.int p6), .val (.int (2 : Int32)), .val (.int x0), .val (.int x1), .val (.int x2), .val (.ref a1), .val (.int (0 : Int32)), .unset, .unset]) rfl k_) ?_
    exact sl154_2 p1 p2 p3 p4 p5 p6 x0 x1 x2 a1 fm gC (0 : Int32) ss O0 Z0 C1 bd0 bd1 bd2 (by rw [hA, zd]; rcases hB with z | z <;> rw [z] <;> decide) (Or.inl rfl) (Stand.up X1 (by decide) (by decide)) hx hZ hw hby hml hown hnm hret hlk e1 hs0 CR hS hk N1
  · refine GoH.st (pc' := 154) (S' := []) (fun t_ k_ => XS.ifYes X1.here hx rfl (pc0 := 148) (pc' := 154) rfl (hb hby at_148) rfl ((if0 _ _).trans (feq hc148_2).2) (by decide) (by decide) k_) ?_
    have zd : own_dg x1 = 1 := (own_dg01 x1).resolve_left hc148_2
    exact sl154_2 p1 p2 p3 p4 p5 p6 x0 x1 x2 a1 fm gC al ss O0 Z0 C1 bd0 bd1 bd2 (by rw [hA, zd]; rcases hB with z | z <;> rw [z] <;> decide) hB (Stand.up X1 (by decide) (by decide)) hx hZ hw hby hml hown hnm hret hlk e1 hs0 CR hS hk N1

theorem sl117_2 {Z : State} {n0 : Nat} {h0 hh : Heap} (p1 p2 p3 p4 p5 p6 x0 x1 x2 : Int32) (a1 : Addr) (fm : Value) (gC : Int32) (ss : own_ST Z gC fm) (O0 : Old Z n0 hh) (Z0 : n0 ≤ hh.size) (C1 : own_CS2 Z hh a1 x0 x1) (bd0 : own_bd x0) (bd1 : own_bd x1) (bd2 : own_bd x2) :
    SegH Z n0 h0 hh room_1 14 80 code 14 "pechat/card/DigitsArePinLaw" "law" (some .boolean) (Q0 Z h0 n0) 117 #[.val (.int p1), .val (.int p2), .val (.int p3), .val (.int p4), .val (.int p5), .val (.int p6), .val (.int (2 : Int32)), .val (.int x0), .val (.int x1), .val (.int x2), .val (.ref a1), .unset, .unset, .unset] [] := by
  intro p l e s m args below meth c T0 locs a0 k0 vm0 X0 hx hZ hw hby hml hown hnm hret hlk e0 hs0 CR hS hk N0
  refine GoH.st (pc' := 118) (S' := [(.int (1 : Int32))]) (fun t_ k_ => XS.iconst X0.here hx rfl (hb hby at_117) k_) ?_
  refine GoH.st (pc' := 120) (S' := []) (fun t_ k_ => XS.istore X0.here hx rfl (hb hby at_118) rfl (l' := #[.val (.int p1), .val (.int p2), .val (.int p3), .val (.int p4), .val (.int p5), .val (.int p6), .val (.int (2 : Int32)), .val (.int x0), .val (.int x1), .val (.int x2), .val (.ref a1), .val (.int (1 : Int32)), .unset, .unset]) rfl k_) ?_
  refine GoH.st (pc' := 122) (S' := [(.int (2 : Int32))]) (fun t_ k_ => XS.iload X0.here hx rfl (hb hby at_120) rfl k_) ?_
  refine GoH.st (pc' := 123) (S' := [(.int (1 : Int32)), (.int (2 : Int32))]) (fun t_ k_ => XS.iconst X0.here hx rfl (hb hby at_122) k_) ?_
  refine GoH.st (pc' := 126) (S' := []) (fun t_ k_ => XS.icmpNo X0.here hx rfl (hb hby at_123) rfl (flt (by decide : ¬ ((2 : Int32) < (1 : Int32)))).1 k_) ?_
  refine GoH.st (pc' := 128) (S' := [(.int x0)]) (fun t_ k_ => XS.iload X0.here hx rfl (hb hby at_126) rfl k_) ?_
  obtain ⟨_, _, ⟨T1, L1, k1, n1⟩, -, X1, ⟨Lc1, hQ1, l1, y1, z1⟩, st1⟩ := Jvm.LawKit.callS X0 hx (y := (⟨"pechat/card/DigitsArePinLaw", "isAsciiDigit", "(C)Z"⟩ : MethodName)) hown (mvT hZ (wd hw 31 rfl)) (mvT hZ (wd hw 32 rfl)) (mvT hZ (wd hw 2 rfl)) (mvT hZ (wd hw 33 rfl)) (by decide) (backOf (W := 0) (rm7 l Z a0 hw [] x0 hh n0 Z0 bd0) hZ (wd hw 33 rfl) (wd hw 2 rfl) (by decide) (by decide)) (g := (mkF m 128 #[.val (.int p1), .val (.int p2), .val (.int p3), .val (.int p4), .val (.int p5), .val (.int p6), .val (.int (2 : Int32)), .val (.int x0), .val (.int x1), .val (.int x2), .val (.ref a1), .val (.int (1 : Int32)), .unset, .unset] [(.int x0)])) rfl (by rw [hml]; rfl) (argsL := [(.int x0)]) (rest := []) (lenOf pd_1 rfl) rfl (by show 2 * 0 + _ ≤ _; exact Nat.le_of_eq rfl) (hb hby at_128) (fun _ _ => ⟨rfl, e0, (by decide : 14 + 0 ≤ _), (by decide : 80 + 0 ≤ _)⟩)
  dsimp only [Pt.U, Pt.locs, Pt.cells, Pt.slots] at X1 l1 y1 z1 st1 hQ1
  subst l1 y1 z1
  obtain ⟨rfl, N1q, e1⟩ := hQ1
  have N1 := Fr.app N0 N1q
  refine GoH.st (pc' := 131) (S' := [(.int (own_dg x0))]) st1 ?_
  by_cases hc131_2 : (own_dg x0) = (0 : Int32)
  · refine GoH.st (pc' := 134) (S' := []) (fun t_ k_ => XS.ifNo X1.here hx rfl (hb hby at_131) rfl ((if0 _ _).trans (teq hc131_2).2) k_) ?_
    have zd : own_dg x0 = 0 := hc131_2
    refine GoH.st (pc' := 135) (S' := [(.int (0 : Int32))]) (fun t_ k_ => XS.iconst X1.here hx rfl (hb hby at_134) k_) ?_
    refine GoH.st (pc' := 137) (S' := []) (fun t_ k_ => XS.istore X1.here hx rfl (hb hby at_135) rfl (l' := #[.val (.int p1), .val (.int p2), .val (.int p3), .val (.int p4), .val (.int p5), .val (.int p6), .val (.int (2 : Int32)), .val (.int x0), .val (.int x1), .val (.int x2), .val (.ref a1), .val (.int (0 : Int32)), .unset, .unset]) rfl k_) ?_
    exact sl137_2 p1 p2 p3 p4 p5 p6 x0 x1 x2 a1 fm gC (0 : Int32) ss O0 Z0 C1 bd0 bd1 bd2 (by rw [zd]; decide) (Or.inl rfl) (Stand.up X1 (by decide) (by decide)) hx hZ hw hby hml hown hnm hret hlk e1 hs0 CR hS hk N1
  · refine GoH.st (pc' := 137) (S' := []) (fun t_ k_ => XS.ifYes X1.here hx rfl (pc0 := 131) (pc' := 137) rfl (hb hby at_131) rfl ((if0 _ _).trans (feq hc131_2).2) (by decide) (by decide) k_) ?_
    have zd : own_dg x0 = 1 := (own_dg01 x0).resolve_left hc131_2
    exact sl137_2 p1 p2 p3 p4 p5 p6 x0 x1 x2 a1 fm gC (1 : Int32) ss O0 Z0 C1 bd0 bd1 bd2 (by rw [zd]; decide) (Or.inr rfl) (Stand.up X1 (by decide) (by decide)) hx hZ hw hby hml hown hnm hret hlk e1 hs0 CR hS hk N1

theorem sl197_3 {Z : State} {n0 : Nat} {h0 hh : Heap} (p1 p2 p3 p4 p5 p6 x0 x1 x2 : Int32) (a1 : Addr) (fm : Value) (gC : Int32) (al ex : Int32) (ss : own_ST Z gC fm) (O0 : Old Z n0 hh) (Z0 : n0 ≤ hh.size) (C1 : own_CS3 Z hh a1 x0 x1 x2) (bd0 : own_bd x0) (bd1 : own_bd x1) (bd2 : own_bd x2) (hex : own_are ((((1 : Int32) &&& own_dg x0) &&& own_dg x1) &&& own_dg x2) (3 : Int32) p5 p6 = ex) :
    SegH Z n0 h0 hh room_1 14 80 code 14 "pechat/card/DigitsArePinLaw" "law" (some .boolean) (Q0 Z h0 n0) 197 #[.val (.int p1), .val (.int p2), .val (.int p3), .val (.int p4), .val (.int p5), .val (.int p6), .val (.int (3 : Int32)), .val (.int x0), .val (.int x1), .val (.int x2), .val (.ref a1), .val (.int al), .val (.int ex), .unset] [] := by
  intro p l e s m args below meth c T0 locs a0 k0 vm0 X0 hx hZ hw hby hml hown hnm hret hlk e0 hs0 CR hS hk N0
  refine GoH.st (pc' := 199) (S' := [(.ref a1)]) (fun t_ k_ => XS.aload X0.here hx rfl (hb hby at_197) rfl rfl k_) ?_
  refine GoH.st (pc' := 201) (S' := [(.int p5), (.ref a1)]) (fun t_ k_ => XS.iload X0.here hx rfl (hb hby at_199) rfl k_) ?_
  refine GoH.st (pc' := 203) (S' := [(.int p6), (.int p5), (.ref a1)]) (fun t_ k_ => XS.iload X0.here hx rfl (hb hby at_201) rfl k_) ?_
  obtain ⟨_, _, ⟨T1, L1, k1, n1⟩, -, X1, hS1, hg1, ⟨Lc1, hQ1, l1, y1, z1, CR1⟩, st1⟩ := callSS X0 hx (y := (⟨"pechat/card/Digits", "are", "(Ljava/lang/String;II)Z"⟩ : MethodName)) hown (mvT hZ (wd hw 34 rfl)) (mvT hZ (wd hw 35 rfl)) (mvT hZ (wd hw 36 rfl)) (mvT hZ (wd hw 37 rfl)) (by decide) (backOfSH (W := 0) (rmare3 l Z a0 hw [] a1 p5 p6 fm gC x0 x1 x2 hh n0 Z0 ss O0 C1 bd0 bd1 bd2) hZ (wd hw 37 rfl) (wd hw 36 rfl) (by decide) (by decide) (own_EW hw) CR.1) (g := (mkF m 203 #[.val (.int p1), .val (.int p2), .val (.int p3), .val (.int p4), .val (.int p5), .val (.int p6), .val (.int (3 : Int32)), .val (.int x0), .val (.int x1), .val (.int x2), .val (.ref a1), .val (.int al), .val (.int ex), .unset] [(.int p6), (.int p5), (.ref a1)])) rfl (by rw [hml]; rfl) (argsL := [(.ref a1), (.int p5), (.int p6)]) (rest := []) (lenOf pd_14 rfl) rfl (by show 2 * 0 + _ ≤ _; exact Nat.le_of_eq rfl) (hb hby at_203) (fun _ _ => ⟨rfl, e0, (by decide : 14 + 2 ≤ _), (by decide : 80 + 24 ≤ _)⟩)
  dsimp only [Pt.U, Pt.locs, Pt.cells, Pt.slots] at X1 l1 y1 z1 st1 hQ1 hS1 hg1 CR1
  subst l1 y1 z1
  replace X1 : Stand p l e _ (s.setVm T1.vm) m _ below meth c T1 _ _ _ := X1
  replace hS := foldS hS (T := T0) (Nat.le_trans hk (Nat.le_of_eq (congrArg Array.size e0.symm))) hS1 hg1
  replace hk := Nat.le_refl T1.heap.size
  replace hZ : Z.Warmed39 (s.setVm T1.vm).vm := State.Warmed39.trans (t := s.setVm vm0) hZ hS1.1
  replace hown : (s.setVm T1.vm).vm.findClass "pechat/card/DigitsArePinLaw" = some m.cls := by rw [show (s.setVm T1.vm).vm = T1.vm from rfl, hS1.1.alike.findClass]; exact hown
  obtain ⟨rfl, N1q, K1⟩ := hQ1
  have N1 := Fr.app N0 N1q
  obtain ⟨h1, e1⟩ : ∃ z, T1.heap = z := ⟨_, rfl⟩
  rw [e1] at K1 CR1
  replace CR := CR.trans CR1
  replace Z0 := Nat.le_trans Z0 K1.1
  replace O0 := O0.keep K1 all0
  replace C1 := C1.keep K1
  replace hk : T1.heap.size ≤ h1.size := Nat.le_of_eq (congrArg Array.size e1)
  refine GoH.tr (pc' := 206) (S' := [(.int (own_are ((((1 : Int32) &&& own_dg x0) &&& own_dg x1) &&& own_dg x2) (3 : Int32) p5 p6))]) st1 ?_
  refine GoH.st (pc' := 208) (S' := []) (fun t_ k_ => XS.istore X1.here hx rfl (hb hby at_206) rfl (l' := #[.val (.int p1), .val (.int p2), .val (.int p3), .val (.int p4), .val (.int p5), .val (.int p6), .val (.int (3 : Int32)), .val (.int x0), .val (.int x1), .val (.int x2), .val (.ref a1), .val (.int al), .val (.int ex), .val (.int (own_are ((((1 : Int32) &&& own_dg x0) &&& own_dg x1) &&& own_dg x2) (3 : Int32) p5 p6))]) rfl k_) ?_
  refine GoH.st (pc' := 210) (S' := [(.int (own_are ((((1 : Int32) &&& own_dg x0) &&& own_dg x1) &&& own_dg x2) (3 : Int32) p5 p6))]) (fun t_ k_ => XS.iload X1.here hx rfl (hb hby at_208) rfl k_) ?_
  refine GoH.st (pc' := 212) (S' := [(.int ex), (.int (own_are ((((1 : Int32) &&& own_dg x0) &&& own_dg x1) &&& own_dg x2) (3 : Int32) p5 p6))]) (fun t_ k_ => XS.iload X1.here hx rfl (hb hby at_210) rfl k_) ?_
  refine GoH.st (pc' := 215) (S' := []) (fun t_ k_ => XS.icmpNo X1.here hx rfl (hb hby at_212) rfl (teq (hex : ((own_are ((((1 : Int32) &&& own_dg x0) &&& own_dg x1) &&& own_dg x2) (3 : Int32) p5 p6) = ex))).2 k_) ?_
  refine GoH.st (pc' := 216) (S' := [(.int (1 : Int32))]) (fun t_ k_ => XS.iconst X1.here hx rfl (hb hby at_215) k_) ?_
  refine GoH.st (pc' := 220) (S' := [(.int (1 : Int32))]) (fun t_ k_ => XS.goto X1.here hx rfl (pc0 := 216) (pc' := 220) rfl (hb hby at_216) (by decide) (by decide) k_) ?_
  exact GoH.retN X1 hx hlk hret (by simp) (hb hby at_220) (by decide) (by decide) hS hk e1 hs0 hZ (own_EW hw) CR (by rw [e1]; exact ⟨rfl, N1⟩)

theorem sl171_3 {Z : State} {n0 : Nat} {h0 hh : Heap} (p1 p2 p3 p4 p5 p6 x0 x1 x2 : Int32) (a1 : Addr) (fm : Value) (gC : Int32) (al : Int32) (ss : own_ST Z gC fm) (O0 : Old Z n0 hh) (Z0 : n0 ≤ hh.size) (C1 : own_CS3 Z hh a1 x0 x1 x2) (bd0 : own_bd x0) (bd1 : own_bd x1) (bd2 : own_bd x2) (hA : ((((1 : Int32) &&& own_dg x0) &&& own_dg x1) &&& own_dg x2) = al) (hB : al = 0 ∨ al = 1) :
    SegH Z n0 h0 hh room_1 14 80 code 14 "pechat/card/DigitsArePinLaw" "law" (some .boolean) (Q0 Z h0 n0) 171 #[.val (.int p1), .val (.int p2), .val (.int p3), .val (.int p4), .val (.int p5), .val (.int p6), .val (.int (3 : Int32)), .val (.int x0), .val (.int x1), .val (.int x2), .val (.ref a1), .val (.int al), .unset, .unset] [] := by
  intro p l e s m args below meth c T0 locs a0 k0 vm0 X0 hx hZ hw hby hml hown hnm hret hlk e0 hs0 CR hS hk N0
  refine GoH.st (pc' := 173) (S' := [(.int al)]) (fun t_ k_ => XS.iload X0.here hx rfl (hb hby at_171) rfl k_) ?_
  by_cases hc173_1 : al = (0 : Int32)
  · refine GoH.st (pc' := 194) (S' := []) (fun t_ k_ => XS.ifYes X0.here hx rfl (pc0 := 173) (pc' := 194) rfl (hb hby at_173) rfl ((if0 _ _).trans (teq hc173_1).1) (by decide) (by decide) k_) ?_
    refine GoH.st (pc' := 195) (S' := [(.int (0 : Int32))]) (fun t_ k_ => XS.iconst X0.here hx rfl (hb hby at_194) k_) ?_
    refine GoH.st (pc' := 197) (S' := []) (fun t_ k_ => XS.istore X0.here hx rfl (hb hby at_195) rfl (l' := #[.val (.int p1), .val (.int p2), .val (.int p3), .val (.int p4), .val (.int p5), .val (.int p6), .val (.int (3 : Int32)), .val (.int x0), .val (.int x1), .val (.int x2), .val (.ref a1), .val (.int al), .val (.int (0 : Int32)), .unset]) rfl k_) ?_
    exact sl197_3 p1 p2 p3 p4 p5 p6 x0 x1 x2 a1 fm gC al (0 : Int32) ss O0 Z0 C1 bd0 bd1 bd2 (by rw [show own_are ((((1 : Int32) &&& own_dg x0) &&& own_dg x1) &&& own_dg x2) (3 : Int32) p5 p6 = own_are al (3 : Int32) p5 p6 from congrArg (fun u_ => own_are u_ (3 : Int32) p5 p6) hA, own_are, if_pos hc173_1]) (Stand.up X0 (by decide) (by decide)) hx hZ hw hby hml hown hnm hret hlk e0 hs0 CR hS hk N0
  · refine GoH.st (pc' := 176) (S' := []) (fun t_ k_ => XS.ifNo X0.here hx rfl (hb hby at_173) rfl ((if0 _ _).trans (feq hc173_1).1) k_) ?_
    refine GoH.st (pc' := 178) (S' := [(.int p5)]) (fun t_ k_ => XS.iload X0.here hx rfl (hb hby at_176) rfl k_) ?_
    refine GoH.st (pc' := 180) (S' := [(.int (3 : Int32)), (.int p5)]) (fun t_ k_ => XS.iload X0.here hx rfl (hb hby at_178) rfl k_) ?_
    by_cases hc180_2 : (3 : Int32) < p5
    · refine GoH.st (pc' := 194) (S' := []) (fun t_ k_ => XS.icmpYes X0.here hx rfl (pc0 := 180) (pc' := 194) rfl (hb hby at_180) rfl (tlt hc180_2).2.2.1 (by decide) (by decide) k_) ?_
      refine GoH.st (pc' := 195) (S' := [(.int (0 : Int32))]) (fun t_ k_ => XS.iconst X0.here hx rfl (hb hby at_194) k_) ?_
      refine GoH.st (pc' := 197) (S' := []) (fun t_ k_ => XS.istore X0.here hx rfl (hb hby at_195) rfl (l' := #[.val (.int p1), .val (.int p2), .val (.int p3), .val (.int p4), .val (.int p5), .val (.int p6), .val (.int (3 : Int32)), .val (.int x0), .val (.int x1), .val (.int x2), .val (.ref a1), .val (.int al), .val (.int (0 : Int32)), .unset]) rfl k_) ?_
      exact sl197_3 p1 p2 p3 p4 p5 p6 x0 x1 x2 a1 fm gC al (0 : Int32) ss O0 Z0 C1 bd0 bd1 bd2 (by rw [show own_are ((((1 : Int32) &&& own_dg x0) &&& own_dg x1) &&& own_dg x2) (3 : Int32) p5 p6 = own_are al (3 : Int32) p5 p6 from congrArg (fun u_ => own_are u_ (3 : Int32) p5 p6) hA, own_are, if_neg hc173_1, if_pos hc180_2]) (Stand.up X0 (by decide) (by decide)) hx hZ hw hby hml hown hnm hret hlk e0 hs0 CR hS hk N0
    · refine GoH.st (pc' := 183) (S' := []) (fun t_ k_ => XS.icmpNo X0.here hx rfl (hb hby at_180) rfl (flt hc180_2).2.2.1 k_) ?_
      refine GoH.st (pc' := 185) (S' := [(.int (3 : Int32))]) (fun t_ k_ => XS.iload X0.here hx rfl (hb hby at_183) rfl k_) ?_
      refine GoH.st (pc' := 187) (S' := [(.int p6), (.int (3 : Int32))]) (fun t_ k_ => XS.iload X0.here hx rfl (hb hby at_185) rfl k_) ?_
      by_cases hc187_3 : p6 < (3 : Int32)
      · refine GoH.st (pc' := 194) (S' := []) (fun t_ k_ => XS.icmpYes X0.here hx rfl (pc0 := 187) (pc' := 194) rfl (hb hby at_187) rfl (tlt hc187_3).2.2.1 (by decide) (by decide) k_) ?_
        refine GoH.st (pc' := 195) (S' := [(.int (0 : Int32))]) (fun t_ k_ => XS.iconst X0.here hx rfl (hb hby at_194) k_) ?_
        refine GoH.st (pc' := 197) (S' := []) (fun t_ k_ => XS.istore X0.here hx rfl (hb hby at_195) rfl (l' := #[.val (.int p1), .val (.int p2), .val (.int p3), .val (.int p4), .val (.int p5), .val (.int p6), .val (.int (3 : Int32)), .val (.int x0), .val (.int x1), .val (.int x2), .val (.ref a1), .val (.int al), .val (.int (0 : Int32)), .unset]) rfl k_) ?_
        exact sl197_3 p1 p2 p3 p4 p5 p6 x0 x1 x2 a1 fm gC al (0 : Int32) ss O0 Z0 C1 bd0 bd1 bd2 (by rw [show own_are ((((1 : Int32) &&& own_dg x0) &&& own_dg x1) &&& own_dg x2) (3 : Int32) p5 p6 = own_are al (3 : Int32) p5 p6 from congrArg (fun u_ => own_are u_ (3 : Int32) p5 p6) hA, own_are, if_neg hc173_1, if_neg hc180_2, if_pos hc187_3]) (Stand.up X0 (by decide) (by decide)) hx hZ hw hby hml hown hnm hret hlk e0 hs0 CR hS hk N0
      · refine GoH.st (pc' := 190) (S' := []) (fun t_ k_ => XS.icmpNo X0.here hx rfl (hb hby at_187) rfl (flt hc187_3).2.2.1 k_) ?_
        refine GoH.st (pc' := 191) (S' := [(.int (1 : Int32))]) (fun t_ k_ => XS.iconst X0.here hx rfl (hb hby at_190) k_) ?_
        refine GoH.st (pc' := 195) (S' := [(.int (1 : Int32))]) (fun t_ k_ => XS.goto X0.here hx rfl (pc0 := 191) (pc' := 195) rfl (hb hby at_191) (by decide) (by decide) k_) ?_
        refine GoH.st (pc' := 197) (S' := []) (fun t_ k_ => XS.istore X0.here hx rfl (hb hby at_195) rfl (l' := #[.val (.int p1), .val (.int p2), .val (.int p3), .val (.int p4), .val (.int p5), .val (.int p6), .val (.int (3 : Int32)), .val (.int x0), .val (.int x1), .val (.int x2), .val (.ref a1), .val (.int al), .val (.int (1 : Int32)), .unset]) rfl k_) ?_
        exact sl197_3 p1 p2 p3 p4 p5 p6 x0 x1 x2 a1 fm gC al (1 : Int32) ss O0 Z0 C1 bd0 bd1 bd2 (by rw [show own_are ((((1 : Int32) &&& own_dg x0) &&& own_dg x1) &&& own_dg x2) (3 : Int32) p5 p6 = own_are al (3 : Int32) p5 p6 from congrArg (fun u_ => own_are u_ (3 : Int32) p5 p6) hA, own_are, if_neg hc173_1, if_neg hc180_2, if_neg hc187_3]) (Stand.up X0 (by decide) (by decide)) hx hZ hw hby hml hown hnm hret hlk e0 hs0 CR hS hk N0

theorem sl154_3 {Z : State} {n0 : Nat} {h0 hh : Heap} (p1 p2 p3 p4 p5 p6 x0 x1 x2 : Int32) (a1 : Addr) (fm : Value) (gC : Int32) (al : Int32) (ss : own_ST Z gC fm) (O0 : Old Z n0 hh) (Z0 : n0 ≤ hh.size) (C1 : own_CS3 Z hh a1 x0 x1 x2) (bd0 : own_bd x0) (bd1 : own_bd x1) (bd2 : own_bd x2) (hA : (((1 : Int32) &&& own_dg x0) &&& own_dg x1) = al) (hB : al = 0 ∨ al = 1) :
    SegH Z n0 h0 hh room_1 14 80 code 14 "pechat/card/DigitsArePinLaw" "law" (some .boolean) (Q0 Z h0 n0) 154 #[.val (.int p1), .val (.int p2), .val (.int p3), .val (.int p4), .val (.int p5), .val (.int p6), .val (.int (3 : Int32)), .val (.int x0), .val (.int x1), .val (.int x2), .val (.ref a1), .val (.int al), .unset, .unset] [] := by
  intro p l e s m args below meth c T0 locs a0 k0 vm0 X0 hx hZ hw hby hml hown hnm hret hlk e0 hs0 CR hS hk N0
  refine GoH.st (pc' := 156) (S' := [(.int (3 : Int32))]) (fun t_ k_ => XS.iload X0.here hx rfl (hb hby at_154) rfl k_) ?_
  refine GoH.st (pc' := 157) (S' := [(.int (3 : Int32)), (.int (3 : Int32))]) (fun t_ k_ => XS.iconst X0.here hx rfl (hb hby at_156) k_) ?_
  refine GoH.st (pc' := 160) (S' := []) (fun t_ k_ => XS.icmpNo X0.here hx rfl (hb hby at_157) rfl (flt (by decide : ¬ ((3 : Int32) < (3 : Int32)))).1 k_) ?_
  refine GoH.st (pc' := 162) (S' := [(.int x2)]) (fun t_ k_ => XS.iload X0.here hx rfl (hb hby at_160) rfl k_) ?_
  obtain ⟨_, _, ⟨T1, L1, k1, n1⟩, -, X1, ⟨Lc1, hQ1, l1, y1, z1⟩, st1⟩ := Jvm.LawKit.callS X0 hx (y := (⟨"pechat/card/DigitsArePinLaw", "isAsciiDigit", "(C)Z"⟩ : MethodName)) hown (mvT hZ (wd hw 31 rfl)) (mvT hZ (wd hw 32 rfl)) (mvT hZ (wd hw 2 rfl)) (mvT hZ (wd hw 33 rfl)) (by decide) (backOf (W := 0) (rm7 l Z a0 hw [] x2 hh n0 Z0 bd2) hZ (wd hw 33 rfl) (wd hw 2 rfl) (by decide) (by decide)) (g := (mkF m 162 #[.val (.int p1), .val (.int p2), .val (.int p3), .val (.int p4), .val (.int p5), .val (.int p6), .val (.int (3 : Int32)), .val (.int x0), .val (.int x1), .val (.int x2), .val (.ref a1), .val (.int al), .unset, .unset] [(.int x2)])) rfl (by rw [hml]; rfl) (argsL := [(.int x2)]) (rest := []) (lenOf pd_1 rfl) rfl (by show 2 * 0 + _ ≤ _; exact Nat.le_of_eq rfl) (hb hby at_162) (fun _ _ => ⟨rfl, e0, (by decide : 14 + 0 ≤ _), (by decide : 80 + 0 ≤ _)⟩)
  dsimp only [Pt.U, Pt.locs, Pt.cells, Pt.slots] at X1 l1 y1 z1 st1 hQ1
  subst l1 y1 z1
  obtain ⟨rfl, N1q, e1⟩ := hQ1
  have N1 := Fr.app N0 N1q
  refine GoH.st (pc' := 165) (S' := [(.int (own_dg x2))]) st1 ?_
  by_cases hc165_2 : (own_dg x2) = (0 : Int32)
  · refine GoH.st (pc' := 168) (S' := []) (fun t_ k_ => XS.ifNo X1.here hx rfl (hb hby at_165) rfl ((if0 _ _).trans (teq hc165_2).2) k_) ?_
    have zd : own_dg x2 = 0 := hc165_2
    refine GoH.st (pc' := 169) (S' := [(.int (0 : Int32))]) (fun t_ k_ => XS.iconst X1.here hx rfl (hb hby at_168) k_) ?_
    refine GoH.st (pc' := 171) (S' := []) (fun t_ k_ => XS.istore X1.here hx rfl (hb hby at_169) rfl (l' := #[.val (.int p1), .val (.int p2), .val (.int p3), .val (.int p4), .val (.int p5), .val (.int p6), .val (.int (3 : Int32)), .val (.int x0), .val (.int x1), .val (.int x2), .val (.ref a1), .val (.int (0 : Int32)), .unset, .unset]) rfl k_) ?_
    exact sl171_3 p1 p2 p3 p4 p5 p6 x0 x1 x2 a1 fm gC (0 : Int32) ss O0 Z0 C1 bd0 bd1 bd2 (by rw [hA, zd]; rcases hB with z | z <;> rw [z] <;> decide) (Or.inl rfl) (Stand.up X1 (by decide) (by decide)) hx hZ hw hby hml hown hnm hret hlk e1 hs0 CR hS hk N1
  · refine GoH.st (pc' := 171) (S' := []) (fun t_ k_ => XS.ifYes X1.here hx rfl (pc0 := 165) (pc' := 171) rfl (hb hby at_165) rfl ((if0 _ _).trans (feq hc165_2).2) (by decide) (by decide) k_) ?_
    have zd : own_dg x2 = 1 := (own_dg01 x2).resolve_left hc165_2
    exact sl171_3 p1 p2 p3 p4 p5 p6 x0 x1 x2 a1 fm gC al ss O0 Z0 C1 bd0 bd1 bd2 (by rw [hA, zd]; rcases hB with z | z <;> rw [z] <;> decide) hB (Stand.up X1 (by decide) (by decide)) hx hZ hw hby hml hown hnm hret hlk e1 hs0 CR hS hk N1

theorem sl137_3 {Z : State} {n0 : Nat} {h0 hh : Heap} (p1 p2 p3 p4 p5 p6 x0 x1 x2 : Int32) (a1 : Addr) (fm : Value) (gC : Int32) (al : Int32) (ss : own_ST Z gC fm) (O0 : Old Z n0 hh) (Z0 : n0 ≤ hh.size) (C1 : own_CS3 Z hh a1 x0 x1 x2) (bd0 : own_bd x0) (bd1 : own_bd x1) (bd2 : own_bd x2) (hA : ((1 : Int32) &&& own_dg x0) = al) (hB : al = 0 ∨ al = 1) :
    SegH Z n0 h0 hh room_1 14 80 code 14 "pechat/card/DigitsArePinLaw" "law" (some .boolean) (Q0 Z h0 n0) 137 #[.val (.int p1), .val (.int p2), .val (.int p3), .val (.int p4), .val (.int p5), .val (.int p6), .val (.int (3 : Int32)), .val (.int x0), .val (.int x1), .val (.int x2), .val (.ref a1), .val (.int al), .unset, .unset] [] := by
  intro p l e s m args below meth c T0 locs a0 k0 vm0 X0 hx hZ hw hby hml hown hnm hret hlk e0 hs0 CR hS hk N0
  refine GoH.st (pc' := 139) (S' := [(.int (3 : Int32))]) (fun t_ k_ => XS.iload X0.here hx rfl (hb hby at_137) rfl k_) ?_
  refine GoH.st (pc' := 140) (S' := [(.int (2 : Int32)), (.int (3 : Int32))]) (fun t_ k_ => XS.iconst X0.here hx rfl (hb hby at_139) k_) ?_
  refine GoH.st (pc' := 143) (S' := []) (fun t_ k_ => XS.icmpNo X0.here hx rfl (hb hby at_140) rfl (flt (by decide : ¬ ((3 : Int32) < (2 : Int32)))).1 k_) ?_
  refine GoH.st (pc' := 145) (S' := [(.int x1)]) (fun t_ k_ => XS.iload X0.here hx rfl (hb hby at_143) rfl k_) ?_
  obtain ⟨_, _, ⟨T1, L1, k1, n1⟩, -, X1, ⟨Lc1, hQ1, l1, y1, z1⟩, st1⟩ := Jvm.LawKit.callS X0 hx (y := (⟨"pechat/card/DigitsArePinLaw", "isAsciiDigit", "(C)Z"⟩ : MethodName)) hown (mvT hZ (wd hw 31 rfl)) (mvT hZ (wd hw 32 rfl)) (mvT hZ (wd hw 2 rfl)) (mvT hZ (wd hw 33 rfl)) (by decide) (backOf (W := 0) (rm7 l Z a0 hw [] x1 hh n0 Z0 bd1) hZ (wd hw 33 rfl) (wd hw 2 rfl) (by decide) (by decide)) (g := (mkF m 145 #[.val (.int p1), .val (.int p2), .val (.int p3), .val (.int p4), .val (.int p5), .val (.int p6), .val (.int (3 : Int32)), .val (.int x0), .val (.int x1), .val (.int x2), .val (.ref a1), .val (.int al), .unset, .unset] [(.int x1)])) rfl (by rw [hml]; rfl) (argsL := [(.int x1)]) (rest := []) (lenOf pd_1 rfl) rfl (by show 2 * 0 + _ ≤ _; exact Nat.le_of_eq rfl) (hb hby at_145) (fun _ _ => ⟨rfl, e0, (by decide : 14 + 0 ≤ _), (by decide : 80 + 0 ≤ _)⟩)
  dsimp only [Pt.U, Pt.locs, Pt.cells, Pt.slots] at X1 l1 y1 z1 st1 hQ1
  subst l1 y1 z1
  obtain ⟨rfl, N1q, e1⟩ := hQ1
  have N1 := Fr.app N0 N1q
  refine GoH.st (pc' := 148) (S' := [(.int (own_dg x1))]) st1 ?_
  by_cases hc148_2 : (own_dg x1) = (0 : Int32)
  · refine GoH.st (pc' := 151) (S' := []) (fun t_ k_ => XS.ifNo X1.here hx rfl (hb hby at_148) rfl ((if0 _ _).trans (teq hc148_2).2) k_) ?_
    have zd : own_dg x1 = 0 := hc148_2
    refine GoH.st (pc' := 152) (S' := [(.int (0 : Int32))]) (fun t_ k_ => XS.iconst X1.here hx rfl (hb hby at_151) k_) ?_
    refine GoH.st (pc' := 154) (S' := []) (fun t_ k_ => XS.istore X1.here hx rfl (hb hby at_152) rfl (l' := #[.val (.int p1), .val (.int p2), .val (.int p3), .val (.int p4), .val (.int p5), .val (.int p6), .val (.int (3 : Int32)), .val (.int x0), .val (.int x1), .val (.int x2), .val (.ref a1), .val (.int (0 : Int32)), .unset, .unset]) rfl k_) ?_
    exact sl154_3 p1 p2 p3 p4 p5 p6 x0 x1 x2 a1 fm gC (0 : Int32) ss O0 Z0 C1 bd0 bd1 bd2 (by rw [hA, zd]; rcases hB with z | z <;> rw [z] <;> decide) (Or.inl rfl) (Stand.up X1 (by decide) (by decide)) hx hZ hw hby hml hown hnm hret hlk e1 hs0 CR hS hk N1
  · refine GoH.st (pc' := 154) (S' := []) (fun t_ k_ => XS.ifYes X1.here hx rfl (pc0 := 148) (pc' := 154) rfl (hb hby at_148) rfl ((if0 _ _).trans (feq hc148_2).2) (by decide) (by decide) k_) ?_
    have zd : own_dg x1 = 1 := (own_dg01 x1).resolve_left hc148_2
    exact sl154_3 p1 p2 p3 p4 p5 p6 x0 x1 x2 a1 fm gC al ss O0 Z0 C1 bd0 bd1 bd2 (by rw [hA, zd]; rcases hB with z | z <;> rw [z] <;> decide) hB (Stand.up X1 (by decide) (by decide)) hx hZ hw hby hml hown hnm hret hlk e1 hs0 CR hS hk N1

theorem sl117_3 {Z : State} {n0 : Nat} {h0 hh : Heap} (p1 p2 p3 p4 p5 p6 x0 x1 x2 : Int32) (a1 : Addr) (fm : Value) (gC : Int32) (ss : own_ST Z gC fm) (O0 : Old Z n0 hh) (Z0 : n0 ≤ hh.size) (C1 : own_CS3 Z hh a1 x0 x1 x2) (bd0 : own_bd x0) (bd1 : own_bd x1) (bd2 : own_bd x2) :
    SegH Z n0 h0 hh room_1 14 80 code 14 "pechat/card/DigitsArePinLaw" "law" (some .boolean) (Q0 Z h0 n0) 117 #[.val (.int p1), .val (.int p2), .val (.int p3), .val (.int p4), .val (.int p5), .val (.int p6), .val (.int (3 : Int32)), .val (.int x0), .val (.int x1), .val (.int x2), .val (.ref a1), .unset, .unset, .unset] [] := by
  intro p l e s m args below meth c T0 locs a0 k0 vm0 X0 hx hZ hw hby hml hown hnm hret hlk e0 hs0 CR hS hk N0
  refine GoH.st (pc' := 118) (S' := [(.int (1 : Int32))]) (fun t_ k_ => XS.iconst X0.here hx rfl (hb hby at_117) k_) ?_
  refine GoH.st (pc' := 120) (S' := []) (fun t_ k_ => XS.istore X0.here hx rfl (hb hby at_118) rfl (l' := #[.val (.int p1), .val (.int p2), .val (.int p3), .val (.int p4), .val (.int p5), .val (.int p6), .val (.int (3 : Int32)), .val (.int x0), .val (.int x1), .val (.int x2), .val (.ref a1), .val (.int (1 : Int32)), .unset, .unset]) rfl k_) ?_
  refine GoH.st (pc' := 122) (S' := [(.int (3 : Int32))]) (fun t_ k_ => XS.iload X0.here hx rfl (hb hby at_120) rfl k_) ?_
  refine GoH.st (pc' := 123) (S' := [(.int (1 : Int32)), (.int (3 : Int32))]) (fun t_ k_ => XS.iconst X0.here hx rfl (hb hby at_122) k_) ?_
  refine GoH.st (pc' := 126) (S' := []) (fun t_ k_ => XS.icmpNo X0.here hx rfl (hb hby at_123) rfl (flt (by decide : ¬ ((3 : Int32) < (1 : Int32)))).1 k_) ?_
  refine GoH.st (pc' := 128) (S' := [(.int x0)]) (fun t_ k_ => XS.iload X0.here hx rfl (hb hby at_126) rfl k_) ?_
  obtain ⟨_, _, ⟨T1, L1, k1, n1⟩, -, X1, ⟨Lc1, hQ1, l1, y1, z1⟩, st1⟩ := Jvm.LawKit.callS X0 hx (y := (⟨"pechat/card/DigitsArePinLaw", "isAsciiDigit", "(C)Z"⟩ : MethodName)) hown (mvT hZ (wd hw 31 rfl)) (mvT hZ (wd hw 32 rfl)) (mvT hZ (wd hw 2 rfl)) (mvT hZ (wd hw 33 rfl)) (by decide) (backOf (W := 0) (rm7 l Z a0 hw [] x0 hh n0 Z0 bd0) hZ (wd hw 33 rfl) (wd hw 2 rfl) (by decide) (by decide)) (g := (mkF m 128 #[.val (.int p1), .val (.int p2), .val (.int p3), .val (.int p4), .val (.int p5), .val (.int p6), .val (.int (3 : Int32)), .val (.int x0), .val (.int x1), .val (.int x2), .val (.ref a1), .val (.int (1 : Int32)), .unset, .unset] [(.int x0)])) rfl (by rw [hml]; rfl) (argsL := [(.int x0)]) (rest := []) (lenOf pd_1 rfl) rfl (by show 2 * 0 + _ ≤ _; exact Nat.le_of_eq rfl) (hb hby at_128) (fun _ _ => ⟨rfl, e0, (by decide : 14 + 0 ≤ _), (by decide : 80 + 0 ≤ _)⟩)
  dsimp only [Pt.U, Pt.locs, Pt.cells, Pt.slots] at X1 l1 y1 z1 st1 hQ1
  subst l1 y1 z1
  obtain ⟨rfl, N1q, e1⟩ := hQ1
  have N1 := Fr.app N0 N1q
  refine GoH.st (pc' := 131) (S' := [(.int (own_dg x0))]) st1 ?_
  by_cases hc131_2 : (own_dg x0) = (0 : Int32)
  · refine GoH.st (pc' := 134) (S' := []) (fun t_ k_ => XS.ifNo X1.here hx rfl (hb hby at_131) rfl ((if0 _ _).trans (teq hc131_2).2) k_) ?_
    have zd : own_dg x0 = 0 := hc131_2
    refine GoH.st (pc' := 135) (S' := [(.int (0 : Int32))]) (fun t_ k_ => XS.iconst X1.here hx rfl (hb hby at_134) k_) ?_
    refine GoH.st (pc' := 137) (S' := []) (fun t_ k_ => XS.istore X1.here hx rfl (hb hby at_135) rfl (l' := #[.val (.int p1), .val (.int p2), .val (.int p3), .val (.int p4), .val (.int p5), .val (.int p6), .val (.int (3 : Int32)), .val (.int x0), .val (.int x1), .val (.int x2), .val (.ref a1), .val (.int (0 : Int32)), .unset, .unset]) rfl k_) ?_
    exact sl137_3 p1 p2 p3 p4 p5 p6 x0 x1 x2 a1 fm gC (0 : Int32) ss O0 Z0 C1 bd0 bd1 bd2 (by rw [zd]; decide) (Or.inl rfl) (Stand.up X1 (by decide) (by decide)) hx hZ hw hby hml hown hnm hret hlk e1 hs0 CR hS hk N1
  · refine GoH.st (pc' := 137) (S' := []) (fun t_ k_ => XS.ifYes X1.here hx rfl (pc0 := 131) (pc' := 137) rfl (hb hby at_131) rfl ((if0 _ _).trans (feq hc131_2).2) (by decide) (by decide) k_) ?_
    have zd : own_dg x0 = 1 := (own_dg01 x0).resolve_left hc131_2
    exact sl137_3 p1 p2 p3 p4 p5 p6 x0 x1 x2 a1 fm gC (1 : Int32) ss O0 Z0 C1 bd0 bd1 bd2 (by rw [zd]; decide) (Or.inr rfl) (Stand.up X1 (by decide) (by decide)) hx hZ hw hby hml hown hnm hret hlk e1 hs0 CR hS hk N1
theorem d3_11 : decode jdk_43_method_3_code 11 = .ok (.iconst 0, 1) := by decide +kernel
theorem pd_15 : parseMethodDescriptor "([C)V" = some ⟨[(.array .char)], none⟩ := by decide +kernel
def QceU (Z : State) (x0 : Int32) (h0 : Heap) (n0 : Nat) (v : Option Value) (h : Heap) (L : List Loc) : Prop := v = some (.int 0) ∧ Fr n0 L ∧ h = h0
def roomceU : Room := { frames := 0, cells := 0, slots := 0, locals := 0 }
theorem rmceU (l : Launch) (Z : State) (a0 : Array Value) (hw : ∀ d ∈ tables_1, d.before a0 Z = true) (ws : List Jvm.Cond) (x0 : Int32) (h0 : Heap) (n0 : Nat) (Z0 : n0 ≤ h0.size) (gx0 : (255 : Int32) < x0) :
    OMet l (⟨"java/lang/StringLatin1", "canEncode", "(C)Z"⟩ : MethodName) jdk_43_method_3_code 1 (some .boolean) ws roomceU #[(.int x0)] Z h0 (QceU Z x0 h0 n0) := by
  refine own_met (Q := (QceU Z x0 h0 n0)) (L0 := #[.val (.int x0)]) (plainFor_of_name pn_1) (fun m => by first | (simp [entryFrame, mkF, argsToLocals, Value.category]; done) | rfl) ?_
  intro p e s m below meth c T0 X0 hx hby hml hown hnm hret hlk hZ e0
  have N0 := Fr.nil n0
  refine Go.st (pc' := 1) (S' := [(.int x0)]) (fun t_ k_ => XS.iloadN X0.here hx rfl (hb hby d3_0) rfl k_) ?_
  refine Go.st (pc' := 4) (S' := [(.int (255 : Int32)), (.int x0)]) (fun t_ k_ => XS.sipush X0.here hx rfl (hb hby d3_1) k_) ?_
  refine Go.st (pc' := 11) (S' := []) (fun t_ k_ => XS.icmpYes X0.here hx rfl (pc0 := 4) (pc' := 11) rfl (hb hby d3_4) rfl (tlt (gx0 : ((255 : Int32) < x0))).2.2.1 (by decide) (by decide) k_) ?_
  refine Go.st (pc' := 12) (S' := [(.int (0 : Int32))]) (fun t_ k_ => XS.iconst X0.here hx rfl (hb hby d3_11) k_) ?_
  exact Go.retN X0 hx hlk hret (by simp) (hb hby d3_12) (by decide) (by decide) (by rw [e0]; exact ⟨rfl, N0, rfl⟩)

def QbbU (Z : State) (a1 : Addr) (a2 : Addr) (h0 : Heap) (n0 : Nat) (v : Option Value) (h : Heap) (L : List Loc) : Prop := v = none ∧ Fr n0 L ∧ Keep h0 h [a1] ∧ Fld Z h a1 "java/lang/String" "value" "[B" (.ref a2) ∧ Fld Z h a1 "java/lang/String" "coder" "B" (.int (1 : Int32))
def roombbU : Room := { frames := 1, cells := 0, slots := 0, locals := 12 }
theorem rmbbU (l : Launch) (Z : State) (a0 : Array Value) (hw : ∀ d ∈ tables_1, d.before a0 Z = true) (ws : List Jvm.Cond) (a1 : Addr) (a2 : Addr) (h0 : Heap) (n0 : Nat) (Z0 : n0 ≤ h0.size) (E_a1 : Exa Z h0 a1 "java/lang/String") (g_a1 : n0 ≤ a1) (F_value : Fld Z h0 a1 "java/lang/String" "value" "[B" .null) (F_coder : Fld Z h0 a1 "java/lang/String" "coder" "B" (.int (0 : Int32))) :
    OMet l (⟨"java/lang/String", "<init>", "([BB)V"⟩ : MethodName) jdk_42_method_151_code 3 none ws roombbU #[(.ref a1), (.ref a2), (.int (1 : Int32))] Z h0 (QbbU Z a1 a2 h0 n0) := by
  refine own_met (Q := (QbbU Z a1 a2 h0 n0)) (L0 := #[.val (.ref a1), .val (.ref a2), .val (.int (1 : Int32))]) (plainFor_of_name pn_0) (fun m => by first | (simp [entryFrame, mkF, argsToLocals, Value.category]; done) | rfl) ?_
  intro p e s m below meth c T0 X0 hx hby hml hown hnm hret hlk hZ e0
  have N0 := Fr.nil n0
  have K0 := Keep.refl h0 [a1]
  refine Go.st (pc' := 1) (S' := [(.ref a1)]) (fun t_ k_ => XS.aloadN X0.here hx rfl (hb hby d5_0) rfl rfl k_) ?_
  obtain ⟨T1, X1, e1, st1⟩ := initO X0 hx hZ hown (wd hw 24 rfl) (wd hw 25 rfl) (wd hw 26 rfl) e0 (g := (mkF m 1 #[.val (.ref a1), .val (.ref a2), .val (.int (1 : Int32))] [(.ref a1)])) rfl (by rw [hml]; rfl) rfl (hb hby d5_1) (by decide) (W := 0) (by show 2 * 0 + _ ≤ _; exact Nat.le_of_eq rfl) (by decide)
  refine Go.st (pc' := 4) (S' := []) st1 ?_
  refine Go.st (pc' := 5) (S' := [(.ref a1)]) (fun t_ k_ => XS.aloadN X1.here hx rfl (hb hby d5_4) rfl rfl k_) ?_
  refine Go.st (pc' := 6) (S' := [(.ref a2), (.ref a1)]) (fun t_ k_ => XS.aloadN X1.here hx rfl (hb hby d5_5) rfl rfl k_) ?_
  obtain ⟨T2, h2, X2, e2, W2, st2⟩ := putF X1 hx hZ hown (host := "") (Or.inl (wd hw 27 rfl)) Via.refl e1 F_value E_a1 (Or.inr ⟨(wd hw 28 rfl), rfl, hnm⟩) (wd hw 15 rfl) (ty := (.array .byte)) (by decide) rfl rfl (g := (mkF m 6 #[.val (.ref a1), .val (.ref a2), .val (.int (1 : Int32))] [(.ref a2), (.ref a1)])) rfl rfl (hb hby d5_6)
  replace Z0 := Nat.le_trans Z0 (Keep.of_wr W2).1
  replace K0 := K0.wr W2 (Or.inl (List.mem_of_getElem? (i := 0) rfl))
  replace E_a1 := E_a1.wr W2
  replace F_coder := F_coder.other W2 (Or.inr (slot_ne (Or.inr (wd hw 30 rfl)) (Or.inr (wd hw 28 rfl)) (by decide) (t := .byte) (t' := (.array .byte)) (by decide) (by decide)))
  replace F_value := F_value.same W2
  have N2 := Fr.snoc X2 N0 g_a1
  refine Go.st (pc' := 9) (S' := []) st2 ?_
  refine Go.st (pc' := 10) (S' := [(.ref a1)]) (fun t_ k_ => XS.aloadN X2.here hx rfl (hb hby d5_9) rfl rfl k_) ?_
  refine Go.st (pc' := 11) (S' := [(.int (1 : Int32)), (.ref a1)]) (fun t_ k_ => XS.iloadN X2.here hx rfl (hb hby d5_10) rfl k_) ?_
  obtain ⟨T3, h3, X3, e3, W3, st3⟩ := putFN X2 hx hZ hown (wd hw 29 rfl) Via.refl e2 F_coder E_a1 (Or.inr ⟨(wd hw 30 rfl), rfl, hnm⟩) (wd hw 15 rfl) (ty := .byte) (v' := (.int (1 : Int32))) (by decide) rfl rfl (g := (mkF m 11 #[.val (.ref a1), .val (.ref a2), .val (.int (1 : Int32))] [(.int (1 : Int32)), (.ref a1)])) rfl rfl (hb hby d5_11)
  replace Z0 := Nat.le_trans Z0 (Keep.of_wr W3).1
  replace K0 := K0.wr W3 (Or.inl (List.mem_of_getElem? (i := 0) rfl))
  replace E_a1 := E_a1.wr W3
  replace F_value := F_value.other W3 (Or.inr (slot_ne (Or.inr (wd hw 28 rfl)) (Or.inr (wd hw 30 rfl)) (by decide) (t := (.array .byte)) (t' := .byte) (by decide) (by decide)))
  replace F_coder := F_coder.same W3
  have N3 := Fr.snoc X3 N2 g_a1
  refine Go.st (pc' := 14) (S' := []) st3 ?_
  exact Go.retV X3 hx hlk hret (hb hby d5_14) (by decide) (by decide) (by rw [e3]; exact ⟨rfl, N3, K0, F_value, F_coder⟩)
theorem d25_0 : decode jdk_52_method_4_code 0 = .ok (.getstatic 44, 3) := by decide +kernel
theorem d25_3 : decode jdk_52_method_4_code 3 = .ok (.ifCond .ne 25, 3) := by decide +kernel
theorem d25_28 : decode jdk_52_method_4_code 28 = .ok (.iload_n 1, 1) := by decide +kernel
theorem d25_29 : decode jdk_52_method_4_code 29 = .ok (.iconst 1, 1) := by decide +kernel
theorem d25_30 : decode jdk_52_method_4_code 30 = .ok (.ishl, 1) := by decide +kernel
theorem d25_31 : decode jdk_52_method_4_code 31 = .ok (.istore_n 1, 1) := by decide +kernel
theorem d25_32 : decode jdk_52_method_4_code 32 = .ok (.aload_n 0, 1) := by decide +kernel
theorem d25_33 : decode jdk_52_method_4_code 33 = .ok (.iload_n 1, 1) := by decide +kernel
theorem d25_34 : decode jdk_52_method_4_code 34 = .ok (.iinc 1 1, 3) := by decide +kernel
theorem d25_37 : decode jdk_52_method_4_code 37 = .ok (.iload_n 2, 1) := by decide +kernel
theorem d25_38 : decode jdk_52_method_4_code 38 = .ok (.getstatic 59, 3) := by decide +kernel
theorem d25_41 : decode jdk_52_method_4_code 41 = .ok (.ishr, 1) := by decide +kernel
theorem d25_42 : decode jdk_52_method_4_code 42 = .ok (.i2b, 1) := by decide +kernel
theorem d25_43 : decode jdk_52_method_4_code 43 = .ok (.bastore, 1) := by decide +kernel
theorem d25_44 : decode jdk_52_method_4_code 44 = .ok (.aload_n 0, 1) := by decide +kernel
theorem d25_45 : decode jdk_52_method_4_code 45 = .ok (.iload_n 1, 1) := by decide +kernel
theorem d25_46 : decode jdk_52_method_4_code 46 = .ok (.iload_n 2, 1) := by decide +kernel
theorem d25_47 : decode jdk_52_method_4_code 47 = .ok (.getstatic 63, 3) := by decide +kernel
theorem d25_50 : decode jdk_52_method_4_code 50 = .ok (.ishr, 1) := by decide +kernel
theorem d25_51 : decode jdk_52_method_4_code 51 = .ok (.i2b, 1) := by decide +kernel
theorem d25_52 : decode jdk_52_method_4_code 52 = .ok (.bastore, 1) := by decide +kernel
theorem d25_53 : decode jdk_52_method_4_code 53 = .ok (.return_, 1) := by decide +kernel
def Qput1_0 (Z : State) (b : Addr) (kb : ClassId) (x0 : Int32) (y0 : Int32) (y1 : Int32) (h0 : Heap) (n0 : Nat) (v : Option Value) (h : Heap) (L : List Loc) : Prop := v = none ∧ Fr n0 L ∧ Keep h0 h [b] ∧ Arv Z h b kb .byte (2 : Int32) [(.int (own_lo x0)), (.int (own_hi x0))] (.int (0 : Int32))
def roomput1_0 : Room := { frames := 0, cells := 0, slots := 0, locals := 0 }
theorem rmput1_0 (l : Launch) (Z : State) (a0 : Array Value) (hw : ∀ d ∈ tables_1, d.before a0 Z = true) (ws : List Jvm.Cond) (b : Addr) (kb : ClassId) (x0 : Int32) (y0 : Int32) (y1 : Int32) (h0 : Heap) (n0 : Nat) (Z0 : n0 ≤ h0.size) (SD : Sta Z Z.heap "java/lang/StringUTF16" "$assertionsDisabled" "Z" (.int (1 : Int32))) (SH : Sta Z Z.heap "java/lang/StringUTF16" "HI_BYTE_SHIFT" "I" (.int (0 : Int32))) (SL : Sta Z Z.heap "java/lang/StringUTF16" "LO_BYTE_SHIFT" "I" (.int (8 : Int32))) (O0 : Old Z n0 h0) (V_b : Arv Z h0 b kb .byte (2 : Int32) [(.int y0), (.int y1)] (.int (0 : Int32))) (g_b : n0 ≤ b) :
    OMet l (⟨"java/lang/StringUTF16", "putChar", "([BII)V"⟩ : MethodName) jdk_52_method_4_code 3 none ws roomput1_0 #[(.ref b), (.int (0 : Int32)), (.int x0)] Z h0 (Qput1_0 Z b kb x0 y0 y1 h0 n0) := by
  refine own_met (Q := (Qput1_0 Z b kb x0 y0 y1 h0 n0)) (L0 := #[.val (.ref b), .val (.int (0 : Int32)), .val (.int x0)]) (plainFor_of_name pn_6) (fun m => by first | (simp [entryFrame, mkF, argsToLocals, Value.category]; done) | rfl) ?_
  intro p e s m below meth c T0 X0 hx hby hml hown hnm hret hlk hZ e0
  have N0 := Fr.nil n0
  have K0 := Keep.refl h0 [b]
  obtain ⟨T1, X1, e1, st1⟩ := getS2 X0 hx hZ hown (host := "") (Or.inl (wd hw 108 rfl)) Via.refl e0 (SD.ext O0.2) (g := (mkF m 0 #[.val (.ref b), .val (.int (0 : Int32)), .val (.int x0)] [])) rfl (hb hby d25_0)
  refine Go.st (pc' := 3) (S' := [(.int (1 : Int32))]) st1 ?_
  refine Go.st (pc' := 28) (S' := []) (fun t_ k_ => XS.ifYes X1.here hx rfl (pc0 := 3) (pc' := 28) rfl (hb hby d25_3) rfl ((if0 _ _).trans (feq (by decide : ¬ ((1 : Int32) = (0 : Int32)))).2) (by decide) (by decide) k_) ?_
  refine Go.st (pc' := 29) (S' := [(.int (0 : Int32))]) (fun t_ k_ => XS.iloadN X1.here hx rfl (hb hby d25_28) rfl k_) ?_
  refine Go.st (pc' := 30) (S' := [(.int (1 : Int32)), (.int (0 : Int32))]) (fun t_ k_ => XS.iconst X1.here hx rfl (hb hby d25_29) k_) ?_
  refine Go.st (pc' := 31) (S' := [(.int ((0 : Int32) <<< ((1 : Int32) &&& 31)))]) (fun t_ k_ => XS.ishl X1.here hx rfl (hb hby d25_30) rfl k_) ?_
  rw [show ((0 : Int32) <<< ((1 : Int32) &&& 31)) = (0 : Int32) from by decide]
  refine Go.st (pc' := 32) (S' := []) (fun t_ k_ => XS.istoreN X1.here hx rfl (hb hby d25_31) rfl (l' := #[.val (.ref b), .val (.int (0 : Int32)), .val (.int x0)]) rfl k_) ?_
  refine Go.st (pc' := 33) (S' := [(.ref b)]) (fun t_ k_ => XS.aloadN X1.here hx rfl (hb hby d25_32) rfl rfl k_) ?_
  refine Go.st (pc' := 34) (S' := [(.int (0 : Int32)), (.ref b)]) (fun t_ k_ => XS.iloadN X1.here hx rfl (hb hby d25_33) rfl k_) ?_
  refine Go.st (pc' := 37) (S' := [(.int (0 : Int32)), (.ref b)]) (fun t_ k_ => XS.iinc X1.here hx rfl (hb hby d25_34) rfl (l' := #[.val (.ref b), .val (.int ((0 : Int32) + (1 : Int32))), .val (.int x0)]) rfl k_) ?_
  rw [show ((0 : Int32) + (1 : Int32)) = (1 : Int32) from by decide]
  refine Go.st (pc' := 38) (S' := [(.int x0), (.int (0 : Int32)), (.ref b)]) (fun t_ k_ => XS.iloadN X1.here hx rfl (hb hby d25_37) rfl k_) ?_
  obtain ⟨T2, X2, e2, st2⟩ := getS2 X1 hx hZ hown (host := "") (Or.inl (wd hw 109 rfl)) Via.refl e1 (SH.ext O0.2) (g := (mkF m 38 #[.val (.ref b), .val (.int (1 : Int32)), .val (.int x0)] [(.int x0), (.int (0 : Int32)), (.ref b)])) rfl (hb hby d25_38)
  refine Go.st (pc' := 41) (S' := [(.int (0 : Int32)), (.int x0), (.int (0 : Int32)), (.ref b)]) st2 ?_
  refine Go.st (pc' := 42) (S' := [(.int (x0 >>> ((0 : Int32) &&& 31))), (.int (0 : Int32)), (.ref b)]) (fun t_ k_ => XS.ishr X2.here hx rfl (hb hby d25_41) rfl k_) ?_
  refine Go.st (pc' := 43) (S' := [(.int ((x0 >>> ((0 : Int32) &&& 31)).toInt8.toInt32)), (.int (0 : Int32)), (.ref b)]) (fun t_ k_ => XS.i2b X2.here hx rfl (hb hby d25_42) rfl k_) ?_
  obtain ⟨cl3, Ar3, q31, q32, q33, q34, q35⟩ := V_b
  obtain ⟨T3, h3, X3, e3, W3, st3⟩ := stB X2 hx hZ e2 Ar3 (j := (0 : Int32)) (inb_of q32 ⟨by decide, by decide⟩) (g := (mkF m 43 #[.val (.ref b), .val (.int (1 : Int32)), .val (.int x0)] [(.int ((x0 >>> ((0 : Int32) &&& 31)).toInt8.toInt32)), (.int (0 : Int32)), (.ref b)])) rfl rfl (hb hby d25_43)
  replace V_b := Arv.set Ar3 q31 q32 q33 q34 q35 (fits_nar_byte _) W3 0 rfl (Nat.le_of_ble_eq_true rfl)
  have V_b : Arv Z h3 b kb .byte (2 : Int32) [(.int ((x0 >>> ((0 : Int32) &&& 31)).toInt8.toInt32).toInt8.toInt32), (.int y1)] (.int (0 : Int32)) := V_b
  replace Z0 := Nat.le_trans Z0 (Keep.of_wr W3).1
  replace K0 := K0.wr W3 (Or.inl (List.mem_of_getElem? (i := 0) rfl))
  replace O0 := O0.wr W3 g_b
  have N3 := Fr.snoc X3 N0 g_b
  refine Go.st (pc' := 44) (S' := []) st3 ?_
  refine Go.st (pc' := 45) (S' := [(.ref b)]) (fun t_ k_ => XS.aloadN X3.here hx rfl (hb hby d25_44) rfl rfl k_) ?_
  refine Go.st (pc' := 46) (S' := [(.int (1 : Int32)), (.ref b)]) (fun t_ k_ => XS.iloadN X3.here hx rfl (hb hby d25_45) rfl k_) ?_
  refine Go.st (pc' := 47) (S' := [(.int x0), (.int (1 : Int32)), (.ref b)]) (fun t_ k_ => XS.iloadN X3.here hx rfl (hb hby d25_46) rfl k_) ?_
  obtain ⟨T4, X4, e4, st4⟩ := getS2 X3 hx hZ hown (host := "") (Or.inl (wd hw 110 rfl)) Via.refl e3 (SL.ext O0.2) (g := (mkF m 47 #[.val (.ref b), .val (.int (1 : Int32)), .val (.int x0)] [(.int x0), (.int (1 : Int32)), (.ref b)])) rfl (hb hby d25_47)
  refine Go.st (pc' := 50) (S' := [(.int (8 : Int32)), (.int x0), (.int (1 : Int32)), (.ref b)]) st4 ?_
  refine Go.st (pc' := 51) (S' := [(.int (x0 >>> ((8 : Int32) &&& 31))), (.int (1 : Int32)), (.ref b)]) (fun t_ k_ => XS.ishr X4.here hx rfl (hb hby d25_50) rfl k_) ?_
  refine Go.st (pc' := 52) (S' := [(.int ((x0 >>> ((8 : Int32) &&& 31)).toInt8.toInt32)), (.int (1 : Int32)), (.ref b)]) (fun t_ k_ => XS.i2b X4.here hx rfl (hb hby d25_51) rfl k_) ?_
  obtain ⟨cl5, Ar5, q51, q52, q53, q54, q55⟩ := V_b
  obtain ⟨T5, h5, X5, e5, W5, st5⟩ := stB X4 hx hZ e4 Ar5 (j := (1 : Int32)) (inb_of q52 ⟨by decide, by decide⟩) (g := (mkF m 52 #[.val (.ref b), .val (.int (1 : Int32)), .val (.int x0)] [(.int ((x0 >>> ((8 : Int32) &&& 31)).toInt8.toInt32)), (.int (1 : Int32)), (.ref b)])) rfl rfl (hb hby d25_52)
  replace V_b := Arv.set Ar5 q51 q52 q53 q54 q55 (fits_nar_byte _) W5 1 rfl (Nat.le_of_ble_eq_true rfl)
  have V_b : Arv Z h5 b kb .byte (2 : Int32) [(.int ((x0 >>> ((0 : Int32) &&& 31)).toInt8.toInt32).toInt8.toInt32), (.int ((x0 >>> ((8 : Int32) &&& 31)).toInt8.toInt32).toInt8.toInt32)] (.int (0 : Int32)) := V_b
  replace Z0 := Nat.le_trans Z0 (Keep.of_wr W5).1
  replace K0 := K0.wr W5 (Or.inl (List.mem_of_getElem? (i := 0) rfl))
  replace O0 := O0.wr W5 g_b
  have N5 := Fr.snoc X5 N3 g_b
  refine Go.st (pc' := 53) (S' := []) st5 ?_
  exact Go.retV X5 hx hlk hret (hb hby d25_53) (by decide) (by decide) (by rw [e5]; exact ⟨rfl, N5, K0, V_b⟩)
theorem d30_0 : decode jdk_52_method_24_code 0 = .ok (.iconst 2, 1) := by decide +kernel
theorem d30_1 : decode jdk_52_method_24_code 1 = .ok (.newarray .byte, 2) := by decide +kernel
theorem d30_3 : decode jdk_52_method_24_code 3 = .ok (.astore_n 1, 1) := by decide +kernel
theorem d30_4 : decode jdk_52_method_24_code 4 = .ok (.aload_n 1, 1) := by decide +kernel
theorem d30_5 : decode jdk_52_method_24_code 5 = .ok (.iconst 0, 1) := by decide +kernel
theorem d30_6 : decode jdk_52_method_24_code 6 = .ok (.iload_n 0, 1) := by decide +kernel
theorem d30_7 : decode jdk_52_method_24_code 7 = .ok (.invokestatic 111, 3) := by decide +kernel
theorem d30_10 : decode jdk_52_method_24_code 10 = .ok (.aload_n 1, 1) := by decide +kernel
theorem d30_11 : decode jdk_52_method_24_code 11 = .ok (.areturn, 1) := by decide +kernel
theorem pd_16 : parseMethodDescriptor "([BII)V" = some ⟨[(.array .byte), .int, .int], none⟩ := by decide +kernel
def QtoBc (Z : State) (x0 : Int32) (h0 : Heap) (n0 : Nat) (v : Option Value) (h : Heap) (L : List Loc) : Prop := ∃ (b : Addr) (kb : ClassId), v = some (.ref b) ∧ Fr n0 L ∧ Keep h0 h [] ∧ n0 ≤ b ∧ h0.size ≤ b ∧ Arv Z h b kb .byte (2 : Int32) [(.int (own_lo x0)), (.int (own_hi x0))] (.int (0 : Int32))
def roomtoBc : Room := { frames := 1, cells := 1, slots := 2, locals := 14 }
theorem rmtoBc (l : Launch) (Z : State) (a0 : Array Value) (hw : ∀ d ∈ tables_1, d.before a0 Z = true) (ws : List Jvm.Cond) (x0 : Int32) (h0 : Heap) (n0 : Nat) (Z0 : n0 ≤ h0.size) (SD : Sta Z Z.heap "java/lang/StringUTF16" "$assertionsDisabled" "Z" (.int (1 : Int32))) (SH : Sta Z Z.heap "java/lang/StringUTF16" "HI_BYTE_SHIFT" "I" (.int (0 : Int32))) (SL : Sta Z Z.heap "java/lang/StringUTF16" "LO_BYTE_SHIFT" "I" (.int (8 : Int32))) (O0 : Old Z n0 h0) :
    OMet l (⟨"java/lang/StringUTF16", "toBytes", "(C)[B"⟩ : MethodName) jdk_52_method_24_code 2 (some (.array .byte)) ws roomtoBc #[(.int x0)] Z h0 (QtoBc Z x0 h0 n0) := by
  refine own_met (Q := (QtoBc Z x0 h0 n0)) (L0 := #[.val (.int x0), .unset]) (plainFor_of_name pn_6) (fun m => by first | (simp [entryFrame, mkF, argsToLocals, Value.category]; done) | rfl) ?_
  intro p e s m below meth c T0 X0 hx hby hml hown hnm hret hlk hZ e0
  have N0 := Fr.nil n0
  have K0 := Keep.refl h0 []
  refine Go.st (pc' := 1) (S' := [(.int (2 : Int32))]) (fun t_ k_ => XS.iconst X0.here hx rfl (hb hby d30_0) k_) ?_
  obtain ⟨T1, h1, k1, X1, e1, E1, A1, st1⟩ := newP X0 hx hZ (wd hw 19 rfl) e0 (g := (mkF m 1 #[.val (.int x0), .unset] [(.int (2 : Int32))])) rfl (hb hby d30_1) rfl (by decide) (cap := 2) (by decide) (by decide) (by decide) (by decide)
  obtain ⟨b1, g1⟩ : ∃ z, z = h0.size := ⟨_, rfl⟩
  rw [← g1] at A1 st1
  have g_b1 : n0 ≤ b1 := Nat.le_trans Z0 (Nat.le_of_eq g1.symm)
  have sz_b1 : h0.size ≤ b1 := Nat.le_trans K0.1 (Nat.le_of_eq g1.symm)
  replace Z0 := Nat.le_trans Z0 E1.1
  replace K0 := K0.ext E1
  replace O0 := O0.ext E1
  have V_b1 : Arv Z h1 b1 k1 .byte (2 : Int32) [(.int (0 : Int32)), (.int (0 : Int32))] (.int (0 : Int32)) := (Arv.new A1 (by decide)).pad (pad_rep [] (.int (0 : Int32)) 2)
  refine Go.st (pc' := 3) (S' := [(.ref b1)]) st1 ?_
  refine Go.st (pc' := 4) (S' := []) (fun t_ k_ => XS.astoreN X1.here hx rfl (hb hby d30_3) rfl rfl (l' := #[.val (.int x0), .val (.ref b1)]) rfl k_) ?_
  refine Go.st (pc' := 5) (S' := [(.ref b1)]) (fun t_ k_ => XS.aloadN X1.here hx rfl (hb hby d30_4) rfl rfl k_) ?_
  refine Go.st (pc' := 6) (S' := [(.int (0 : Int32)), (.ref b1)]) (fun t_ k_ => XS.iconst X1.here hx rfl (hb hby d30_5) k_) ?_
  refine Go.st (pc' := 7) (S' := [(.int x0), (.int (0 : Int32)), (.ref b1)]) (fun t_ k_ => XS.iloadN X1.here hx rfl (hb hby d30_6) rfl k_) ?_
  obtain ⟨_, _, ⟨T2, L2, k2, n2⟩, -, X2, ⟨Lc2, hQ2, l2, y2, z2⟩, st2⟩ := Jvm.LawKit.callS X1 hx (y := (⟨"java/lang/StringUTF16", "putChar", "([BII)V"⟩ : MethodName)) hown (mvT hZ (wd hw 105 rfl)) (mvT hZ (wd hw 106 rfl)) (mvT hZ (wd hw 86 rfl)) (mvT hZ (wd hw 107 rfl)) (by decide) (backOf (W := 0) (rmput1_0 l Z a0 hw [] b1 _ (x0) ((0 : Int32)) ((0 : Int32)) h1 n0 Z0 SD SH SL O0 V_b1 g_b1) hZ (wd hw 107 rfl) (wd hw 86 rfl) (by decide) (by decide)) (g := (mkF m 7 #[.val (.int x0), .val (.ref b1)] [(.int x0), (.int (0 : Int32)), (.ref b1)])) rfl (by rw [hml]; rfl) (argsL := [(.ref b1), (.int (0 : Int32)), (.int x0)]) (rest := []) (lenOf pd_16 rfl) rfl (by show 2 * 0 + _ ≤ _; exact Nat.le_of_eq rfl) (hb hby d30_7) (fun _ _ => ⟨rfl, e1, (by decide : 1 + 0 ≤ _), (by decide : 2 + 0 ≤ _)⟩)
  dsimp only [Pt.U, Pt.locs, Pt.cells, Pt.slots] at X2 l2 y2 z2 st2 hQ2
  subst l2 y2 z2
  obtain ⟨rfl, N2q, K2, Vb2⟩ := hQ2
  have N2 := Fr.app N0 N2q
  obtain ⟨h2, e2⟩ : ∃ z, T2.heap = z := ⟨_, rfl⟩
  rw [e2] at K2 Vb2
  replace Z0 := Nat.le_trans Z0 K2.1
  replace K0 := K0.trans K2 (allS (Or.inr sz_b1) all0)
  replace O0 := O0.keep K2 (allS g_b1 all0)
  refine Go.st (pc' := 10) (S' := []) st2 ?_
  refine Go.st (pc' := 11) (S' := [(.ref b1)]) (fun t_ k_ => XS.aloadN X2.here hx rfl (hb hby d30_10) rfl rfl k_) ?_
  exact Go.retO X2 hx hlk hret rfl (by simp [FieldType.isReference, Value.isRef]) (hb hby d30_11) (by decide) (by decide) (by rw [e2]; exact ⟨b1, _, rfl, N2, K0, g_b1, sz_b1, Vb2⟩)
theorem d2_26 : decode jdk_42_method_139_code 26 = .ok (.new 10, 3) := by decide +kernel
theorem d2_29 : decode jdk_42_method_139_code 29 = .ok (.dup, 1) := by decide +kernel
theorem d2_30 : decode jdk_42_method_139_code 30 = .ok (.iload_n 0, 1) := by decide +kernel
theorem d2_31 : decode jdk_42_method_139_code 31 = .ok (.invokestatic 1021, 3) := by decide +kernel
theorem d2_34 : decode jdk_42_method_139_code 34 = .ok (.iconst 1, 1) := by decide +kernel
theorem d2_35 : decode jdk_42_method_139_code 35 = .ok (.invokespecial 209, 3) := by decide +kernel
theorem d2_38 : decode jdk_42_method_139_code 38 = .ok (.areturn, 1) := by decide +kernel
def QvalU (Z : State) (x0 : Int32) (h0 : Heap) (n0 : Nat) (v : Option Value) (h : Heap) (L : List Loc) : Prop := ∃ (b t : Addr) (kb : ClassId), v = some (.ref b) ∧ Fr n0 L ∧ Keep h0 h [] ∧ n0 ≤ b ∧ h0.size ≤ b ∧ Exa Z h b "java/lang/String" ∧ Fld Z h b "java/lang/String" "coder" "B" (.int (1 : Int32)) ∧ Fld Z h b "java/lang/String" "value" "[B" (.ref t) ∧ Arv Z h t kb .byte (2 : Int32) [(.int (own_lo x0)), (.int (own_hi x0))] (.int (0 : Int32))
def roomvalU : Room := { frames := 2, cells := 2, slots := 6, locals := 29 }
theorem rmvalU (l : Launch) (Z : State) (a0 : Array Value) (hw : ∀ d ∈ tables_1, d.before a0 Z = true) (ws : List Jvm.Cond) (x0 : Int32) (gC : Int32) (h0 : Heap) (n0 : Nat) (Z0 : n0 ≤ h0.size) (SC : Sta Z Z.heap "java/lang/String" "COMPACT_STRINGS" "Z" (.int gC)) (PC : ¬ (gC = (0 : Int32))) (SD : Sta Z Z.heap "java/lang/StringUTF16" "$assertionsDisabled" "Z" (.int (1 : Int32))) (SH : Sta Z Z.heap "java/lang/StringUTF16" "HI_BYTE_SHIFT" "I" (.int (0 : Int32))) (SL : Sta Z Z.heap "java/lang/StringUTF16" "LO_BYTE_SHIFT" "I" (.int (8 : Int32))) (O0 : Old Z n0 h0) (gx0 : (255 : Int32) < x0) :
    OMet l (⟨"java/lang/String", "valueOf", "(C)Ljava/lang/String;"⟩ : MethodName) jdk_42_method_139_code 1 (some (.object "java/lang/String")) ws roomvalU #[(.int x0)] Z h0 (QvalU Z x0 h0 n0) := by
  refine own_met (Q := (QvalU Z x0 h0 n0)) (L0 := #[.val (.int x0)]) (plainFor_of_name pn_0) (fun m => by first | (simp [entryFrame, mkF, argsToLocals, Value.category]; done) | rfl) ?_
  intro p e s m below meth c T0 X0 hx hby hml hown hnm hret hlk hZ e0
  have N0 := Fr.nil n0
  have K0 := Keep.refl h0 []
  obtain ⟨T1, X1, e1, st1⟩ := getS2 X0 hx hZ hown (host := "") (Or.inl (wd hw 9 rfl)) Via.refl e0 (SC.ext O0.2) (g := (mkF m 0 #[.val (.int x0)] [])) rfl (hb hby d2_0)
  refine Go.st (pc' := 3) (S' := [(.int gC)]) st1 ?_
  refine Go.st (pc' := 6) (S' := []) (fun t_ k_ => XS.ifNo X1.here hx rfl (hb hby d2_3) rfl ((if0 _ _).trans (feq (PC : ¬ (gC = (0 : Int32)))).1) k_) ?_
  refine Go.st (pc' := 7) (S' := [(.int x0)]) (fun t_ k_ => XS.iloadN X1.here hx rfl (hb hby d2_6) rfl k_) ?_
  obtain ⟨_, _, ⟨T2, L2, k2, n2⟩, -, X2, ⟨Lc2, hQ2, l2, y2, z2⟩, st2⟩ := Jvm.LawKit.callS X1 hx (y := (⟨"java/lang/StringLatin1", "canEncode", "(C)Z"⟩ : MethodName)) hown (mvT hZ (wd hw 10 rfl)) (mvT hZ (wd hw 11 rfl)) (mvT hZ (wd hw 12 rfl)) (mvT hZ (wd hw 13 rfl)) (by decide) (backOf (W := 0) (rmceU l Z a0 hw [] x0 h0 n0 Z0 gx0) hZ (wd hw 13 rfl) (wd hw 12 rfl) (by decide) (by decide)) (g := (mkF m 7 #[.val (.int x0)] [(.int x0)])) rfl (by rw [hml]; rfl) (argsL := [(.int x0)]) (rest := []) (lenOf pd_1 rfl) rfl (by show 2 * 0 + _ ≤ _; exact Nat.le_of_eq rfl) (hb hby d2_7) (fun _ _ => ⟨rfl, e1, (by decide : 0 + 0 ≤ _), (by decide : 0 + 0 ≤ _)⟩)
  dsimp only [Pt.U, Pt.locs, Pt.cells, Pt.slots] at X2 l2 y2 z2 st2 hQ2
  subst l2 y2 z2
  obtain ⟨rfl, N2q, e2⟩ := hQ2
  have N2 := Fr.app N0 N2q
  refine Go.st (pc' := 10) (S' := [(.int (0 : Int32))]) st2 ?_
  refine Go.st (pc' := 26) (S' := []) (fun t_ k_ => XS.ifYes X2.here hx rfl (pc0 := 10) (pc' := 26) rfl (hb hby d2_10) rfl ((if0 _ _).trans (teq (by decide : ((0 : Int32) = (0 : Int32)))).1) (by decide) (by decide) k_) ?_
  obtain ⟨T3, h3, X3, e3, E3, A3, D3, U3, st3⟩ := newO X2 hx hZ hown (wd hw 14 rfl) (wd hw 15 rfl) (wd hw 7 rfl) e2 (g := (mkF m 26 #[.val (.int x0)] [])) rfl (hb hby d2_26) (by decide) (by decide)
  obtain ⟨b3, g3⟩ : ∃ z, z = h0.size := ⟨_, rfl⟩
  rw [← g3] at A3 D3 U3 st3
  have g_b3 : n0 ≤ b3 := Nat.le_trans Z0 (Nat.le_of_eq g3.symm)
  have sz_b3 : h0.size ≤ b3 := Nat.le_trans K0.1 (Nat.le_of_eq g3.symm)
  replace Z0 := Nat.le_trans Z0 E3.1
  replace K0 := K0.ext E3
  replace O0 := O0.ext E3
  have E_b3 := A3
  have F_b3_value : Fld Z h3 b3 "java/lang/String" "value" "[B" .null := D3 (Or.inr (wd hw 28 rfl)) (ty := (.array .byte)) (by decide)
  have F_b3_coder : Fld Z h3 b3 "java/lang/String" "coder" "B" (.int (0 : Int32)) := D3 (Or.inr (wd hw 30 rfl)) (ty := .byte) (by decide)
  refine Go.st (pc' := 29) (S' := [(.ref b3)]) st3 ?_
  refine Go.st (pc' := 30) (S' := [(.ref b3), (.ref b3)]) (fun t_ k_ => XS.dup X3.here hx rfl (hb hby d2_29) rfl rfl k_) ?_
  refine Go.st (pc' := 31) (S' := [(.int x0), (.ref b3), (.ref b3)]) (fun t_ k_ => XS.iloadN X3.here hx rfl (hb hby d2_30) rfl k_) ?_
  obtain ⟨_, _, ⟨T4, L4, k4, n4⟩, -, X4, ⟨Lc4, hQ4, l4, y4, z4⟩, st4⟩ := Jvm.LawKit.callS X3 hx (y := (⟨"java/lang/StringUTF16", "toBytes", "(C)[B"⟩ : MethodName)) hown (mvT hZ (wd hw 124 rfl)) (mvT hZ (wd hw 125 rfl)) (mvT hZ (wd hw 86 rfl)) (mvT hZ (wd hw 126 rfl)) (by decide) (backOf (W := 2) (rmtoBc l Z a0 hw [] (x0) h3 n0 Z0 SD SH SL O0) hZ (wd hw 126 rfl) (wd hw 86 rfl) (by decide) (by decide)) (g := (mkF m 31 #[.val (.int x0)] [(.int x0), (.ref b3), (.ref b3)])) rfl (by rw [hml]; rfl) (argsL := [(.int x0)]) (rest := [(.ref b3), (.ref b3)]) (lenOf pd_2 rfl) rfl (by show 2 * 0 + _ ≤ _; exact Nat.le_of_eq rfl) (hb hby d2_31) (fun _ _ => ⟨rfl, e3, (by decide : 1 + 1 ≤ _), (by decide : 4 + 2 ≤ _)⟩)
  dsimp only [Pt.U, Pt.locs, Pt.cells, Pt.slots] at X4 l4 y4 z4 st4 hQ4
  subst l4 y4 z4
  obtain ⟨bu4, kb4, rfl, N4q, K4, g_bu4, lt4, Vb4⟩ := hQ4
  have N4 := Fr.app N2 N4q
  have ne_b3_bu4 : b3 ≠ bu4 := Nat.ne_of_lt (Nat.lt_of_lt_of_le E_b3.lt lt4)
  have sz_bu4 : h0.size ≤ bu4 := Nat.le_trans K0.1 lt4
  obtain ⟨h4, e4⟩ : ∃ z, T4.heap = z := ⟨_, rfl⟩
  rw [e4] at K4 Vb4
  replace Z0 := Nat.le_trans Z0 K4.1
  replace K0 := K0.trans K4 all0
  replace O0 := O0.keep K4 all0
  replace E_b3 := E_b3.keep K4
  replace F_b3_value := F_b3_value.keep K4 nin0
  replace F_b3_coder := F_b3_coder.keep K4 nin0
  refine Go.st (pc' := 34) (S' := [(.ref bu4), (.ref b3), (.ref b3)]) st4 ?_
  refine Go.st (pc' := 35) (S' := [(.int (1 : Int32)), (.ref bu4), (.ref b3), (.ref b3)]) (fun t_ k_ => XS.iconst X4.here hx rfl (hb hby d2_34) k_) ?_
  obtain ⟨_, _, ⟨T5, L5, k5, n5⟩, -, X5, ⟨Lc5, hQ5, l5, y5, z5⟩, st5⟩ := X4.specialBack hx (y := (⟨"java/lang/String", "<init>", "([BB)V"⟩ : MethodName)) rfl hown (mvT hZ (wd hw 20 rfl)) (mvT hZ (wd hw 21 rfl)) (mvT hZ (wd hw 23 rfl)) (by decide) (backOf (W := 1) (rmbbU l Z a0 hw [] b3 bu4 h4 n0 Z0 E_b3 g_b3 F_b3_value F_b3_coder) hZ (wd hw 23 rfl) (wd hw 7 rfl) (by decide) (by decide)) (g := (mkF m 35 #[.val (.int x0)] [(.int (1 : Int32)), (.ref bu4), (.ref b3), (.ref b3)])) rfl (by rw [hml]; rfl) (Steps.refl _) (a := b3) (argsL := [(.ref bu4), (.int (1 : Int32))]) (rest := [(.ref b3)]) (lenOf pd_3 rfl) rfl (by show 2 * 0 + _ ≤ _; exact Nat.le_of_eq rfl) (hb hby d2_35) (fun _ _ => ⟨rfl, e4, (by decide : 2 + 0 ≤ _), (by decide : 6 + 0 ≤ _)⟩)
  dsimp only [Pt.U, Pt.locs, Pt.cells, Pt.slots] at X5 l5 y5 z5 st5 hQ5
  subst l5 y5 z5
  obtain ⟨rfl, N5q, K5, G5_value, G5_coder⟩ := hQ5
  have N5 := Fr.app N4 N5q
  obtain ⟨h5, e5⟩ : ∃ z, T5.heap = z := ⟨_, rfl⟩
  rw [e5] at K5 G5_value G5_coder
  replace Z0 := Nat.le_trans Z0 K5.1
  replace K0 := K0.trans K5 (allS (Or.inr sz_b3) all0)
  replace O0 := O0.keep K5 (allS g_b3 all0)
  replace E_b3 := E_b3.keep K5
  replace Vb4 := Vb4.keep K5 (ninS (Ne.symm ne_b3_bu4) nin0)
  refine Go.tr (pc' := 38) (S' := [(.ref b3)]) st5 ?_
  exact Go.retO X5 hx hlk hret rfl (by simp [FieldType.isReference, Value.isRef]) (hb hby d2_38) (by decide) (by decide) (by rw [e5]; exact ⟨b3, bu4, _, rfl, N5, K0, g_b3, sz_b3, E_b3, G5_coder, G5_value, Vb4⟩)
theorem d20_0 : decode jdk_52_method_21_code 0 = .ok (.iconst 0, 1) := by decide +kernel
theorem d20_1 : decode jdk_52_method_21_code 1 = .ok (.istore 5, 2) := by decide +kernel
theorem d20_3 : decode jdk_52_method_21_code 3 = .ok (.iload 5, 2) := by decide +kernel
theorem d20_5 : decode jdk_52_method_21_code 5 = .ok (.iload 4, 2) := by decide +kernel
theorem d20_7 : decode jdk_52_method_21_code 7 = .ok (.if_icmp .ge 37, 3) := by decide +kernel
theorem d20_10 : decode jdk_52_method_21_code 10 = .ok (.aload_n 0, 1) := by decide +kernel
theorem d20_11 : decode jdk_52_method_21_code 11 = .ok (.iload_n 1, 1) := by decide +kernel
theorem d20_12 : decode jdk_52_method_21_code 12 = .ok (.caload, 1) := by decide +kernel
theorem d20_13 : decode jdk_52_method_21_code 13 = .ok (.istore 6, 2) := by decide +kernel
theorem d20_15 : decode jdk_52_method_21_code 15 = .ok (.iload 6, 2) := by decide +kernel
theorem d20_17 : decode jdk_52_method_21_code 17 = .ok (.sipush 255, 3) := by decide +kernel
theorem d20_20 : decode jdk_52_method_21_code 20 = .ok (.if_icmp .le 6, 3) := by decide +kernel
theorem d20_23 : decode jdk_52_method_21_code 23 = .ok (.iload 5, 2) := by decide +kernel
theorem d20_25 : decode jdk_52_method_21_code 25 = .ok (.ireturn, 1) := by decide +kernel
theorem d20_26 : decode jdk_52_method_21_code 26 = .ok (.aload_n 2, 1) := by decide +kernel
theorem d20_27 : decode jdk_52_method_21_code 27 = .ok (.iload_n 3, 1) := by decide +kernel
theorem d20_28 : decode jdk_52_method_21_code 28 = .ok (.iload 6, 2) := by decide +kernel
theorem d20_30 : decode jdk_52_method_21_code 30 = .ok (.i2b, 1) := by decide +kernel
theorem d20_31 : decode jdk_52_method_21_code 31 = .ok (.bastore, 1) := by decide +kernel
theorem d20_32 : decode jdk_52_method_21_code 32 = .ok (.iinc 1 1, 3) := by decide +kernel
theorem d20_35 : decode jdk_52_method_21_code 35 = .ok (.iinc 3 1, 3) := by decide +kernel
theorem d20_38 : decode jdk_52_method_21_code 38 = .ok (.iinc 5 1, 3) := by decide +kernel
theorem d20_41 : decode jdk_52_method_21_code 41 = .ok (.goto (-38), 3) := by decide +kernel
theorem pd_17 : parseMethodDescriptor "(C)Ljava/lang/String;" = some ⟨[.char], some (.object "java/lang/String")⟩ := by decide +kernel
def Qcp5_2 (Z : State) (b : Addr) (x0 : Int32) (x1 : Int32) (h0 : Heap) (n0 : Nat) (v : Option Value) (h : Heap) (L : List Loc) : Prop := ∃ r : Int32, v = some (.int r) ∧ ((r = 0 ∧ (255 : Int32) < x0) ∨ (r = 1 ∧ (255 : Int32) < x1)) ∧ Fr n0 L ∧ Keep h0 h [b]
def roomcp5_2 : Room := { frames := 0, cells := 0, slots := 0, locals := 0 }
theorem rmcp5_2 (l : Launch) (Z : State) (a0 : Array Value) (hw : ∀ d ∈ tables_1, d.before a0 Z = true) (ws : List Jvm.Cond) (a : Addr) (ka : ClassId) (b : Addr) (kb : ClassId) (x0 : Int32) (x1 : Int32) (h0 : Heap) (n0 : Nat) (Z0 : n0 ≤ h0.size) (V_a : Arv Z h0 a ka .char (2 : Int32) [(.int x0), (.int x1)] (.int (0 : Int32))) (V_b : Arv Z h0 b kb .byte (2 : Int32) [(.int (0 : Int32)), (.int (0 : Int32))] (.int (0 : Int32))) (g_b : n0 ≤ b) (nab : a ≠ b) (hU : (255 : Int32) < x0 ∨ (255 : Int32) < x1) :
    OMet l (⟨"java/lang/StringUTF16", "compress", "([CI[BII)I"⟩ : MethodName) jdk_52_method_21_code 7 (some .int) ws roomcp5_2 #[(.ref a), (.int (0 : Int32)), (.ref b), (.int (0 : Int32)), (.int (2 : Int32))] Z h0 (Qcp5_2 Z b x0 x1 h0 n0) := by
  refine own_met (Q := (Qcp5_2 Z b x0 x1 h0 n0)) (L0 := #[.val (.ref a), .val (.int (0 : Int32)), .val (.ref b), .val (.int (0 : Int32)), .val (.int (2 : Int32)), .unset, .unset]) (plainFor_of_name pn_6) (fun m => by first | (simp [entryFrame, mkF, argsToLocals, Value.category]; done) | rfl) ?_
  intro p e s m below meth c T0 X0 hx hby hml hown hnm hret hlk hZ e0
  have N0 := Fr.nil n0
  have K0 := Keep.refl h0 [b]
  refine Go.st (pc' := 1) (S' := [(.int (0 : Int32))]) (fun t_ k_ => XS.iconst X0.here hx rfl (hb hby d20_0) k_) ?_
  refine Go.st (pc' := 3) (S' := []) (fun t_ k_ => XS.istore X0.here hx rfl (hb hby d20_1) rfl (l' := #[.val (.ref a), .val (.int (0 : Int32)), .val (.ref b), .val (.int (0 : Int32)), .val (.int (2 : Int32)), .val (.int (0 : Int32)), .unset]) rfl k_) ?_
  refine Go.st (pc' := 5) (S' := [(.int (0 : Int32))]) (fun t_ k_ => XS.iload X0.here hx rfl (hb hby d20_3) rfl k_) ?_
  refine Go.st (pc' := 7) (S' := [(.int (2 : Int32)), (.int (0 : Int32))]) (fun t_ k_ => XS.iload X0.here hx rfl (hb hby d20_5) rfl k_) ?_
  refine Go.st (pc' := 10) (S' := []) (fun t_ k_ => XS.icmpNo X0.here hx rfl (hb hby d20_7) rfl (tlt (by decide : ((0 : Int32) < (2 : Int32)))).2.1 k_) ?_
  refine Go.st (pc' := 11) (S' := [(.ref a)]) (fun t_ k_ => XS.aloadN X0.here hx rfl (hb hby d20_10) rfl rfl k_) ?_
  refine Go.st (pc' := 12) (S' := [(.int (0 : Int32)), (.ref a)]) (fun t_ k_ => XS.iloadN X0.here hx rfl (hb hby d20_11) rfl k_) ?_
  obtain ⟨cl1, Ar1, -, q1a, q1b, q1c, q1d⟩ := id V_a
  refine Go.st (pc' := 13) (S' := [(.int x0)]) (fun t_ k_ => X0.caload hx (j := (0 : Int32)) (v := (.int x0)) (by rw [e0]; exact Ar1.1) (State.isArrayOf_alike hZ.alike Ar1.2.1) Ar1.2.2 (inb_of q1a ⟨by decide, by decide⟩) (q1c.at (inb_of q1a ⟨by decide, by decide⟩) rfl) (g := (mkF m 12 #[.val (.ref a), .val (.int (0 : Int32)), .val (.ref b), .val (.int (0 : Int32)), .val (.int (2 : Int32)), .val (.int (0 : Int32)), .unset] [(.int (0 : Int32)), (.ref a)])) rfl rfl (hb hby d20_12) t_ k_) ?_
  refine Go.st (pc' := 15) (S' := []) (fun t_ k_ => XS.istore X0.here hx rfl (hb hby d20_13) rfl (l' := #[.val (.ref a), .val (.int (0 : Int32)), .val (.ref b), .val (.int (0 : Int32)), .val (.int (2 : Int32)), .val (.int (0 : Int32)), .val (.int x0)]) rfl k_) ?_
  refine Go.st (pc' := 17) (S' := [(.int x0)]) (fun t_ k_ => XS.iload X0.here hx rfl (hb hby d20_15) rfl k_) ?_
  refine Go.st (pc' := 20) (S' := [(.int (255 : Int32)), (.int x0)]) (fun t_ k_ => XS.sipush X0.here hx rfl (hb hby d20_17) k_) ?_
  by_cases hc20_2 : (255 : Int32) < x0
  · refine Go.st (pc' := 23) (S' := []) (fun t_ k_ => XS.icmpNo X0.here hx rfl (hb hby d20_20) rfl (tlt hc20_2).2.2.2 k_) ?_
    refine Go.st (pc' := 25) (S' := [(.int (0 : Int32))]) (fun t_ k_ => XS.iload X0.here hx rfl (hb hby d20_23) rfl k_) ?_
    exact Go.retO X0 hx hlk hret rfl (by simp [FieldType.isReference, Value.isRef]) (hb hby d20_25) (by decide) (by decide) (by rw [e0]; exact ⟨_, rfl, Or.inl ⟨rfl, hc20_2⟩, N0, K0⟩)
  · refine Go.st (pc' := 26) (S' := []) (fun t_ k_ => XS.icmpYes X0.here hx rfl (pc0 := 20) (pc' := 26) rfl (hb hby d20_20) rfl (flt hc20_2).2.2.2 (by decide) (by decide) k_) ?_
    refine Go.st (pc' := 27) (S' := [(.ref b)]) (fun t_ k_ => XS.aloadN X0.here hx rfl (hb hby d20_26) rfl rfl k_) ?_
    refine Go.st (pc' := 28) (S' := [(.int (0 : Int32)), (.ref b)]) (fun t_ k_ => XS.iloadN X0.here hx rfl (hb hby d20_27) rfl k_) ?_
    refine Go.st (pc' := 30) (S' := [(.int x0), (.int (0 : Int32)), (.ref b)]) (fun t_ k_ => XS.iload X0.here hx rfl (hb hby d20_28) rfl k_) ?_
    refine Go.st (pc' := 31) (S' := [(.int (x0.toInt8.toInt32)), (.int (0 : Int32)), (.ref b)]) (fun t_ k_ => XS.i2b X0.here hx rfl (hb hby d20_30) rfl k_) ?_
    obtain ⟨cl3, Ar3, q31, q32, q33, q34, q35⟩ := V_b
    obtain ⟨T3, h3, X3, e3, W3, st3⟩ := stB X0 hx hZ e0 Ar3 (j := (0 : Int32)) (inb_of q32 ⟨by decide, by decide⟩) (g := (mkF m 31 #[.val (.ref a), .val (.int (0 : Int32)), .val (.ref b), .val (.int (0 : Int32)), .val (.int (2 : Int32)), .val (.int (0 : Int32)), .val (.int x0)] [(.int (x0.toInt8.toInt32)), (.int (0 : Int32)), (.ref b)])) rfl rfl (hb hby d20_31)
    replace V_b := Arv.set Ar3 q31 q32 q33 q34 q35 (fits_nar_byte _) W3 0 rfl (Nat.le_of_ble_eq_true rfl)
    have V_b : Arv Z h3 b kb .byte (2 : Int32) [(.int (x0.toInt8.toInt32).toInt8.toInt32), (.int (0 : Int32))] (.int (0 : Int32)) := V_b
    replace Z0 := Nat.le_trans Z0 (Keep.of_wr W3).1
    replace K0 := K0.wr W3 (Or.inl (List.mem_of_getElem? (i := 0) rfl))
    replace V_a := V_a.other W3 nab
    have N3 := Fr.snoc X3 N0 g_b
    refine Go.st (pc' := 32) (S' := []) st3 ?_
    refine Go.st (pc' := 35) (S' := []) (fun t_ k_ => XS.iinc X3.here hx rfl (hb hby d20_32) rfl (l' := #[.val (.ref a), .val (.int ((0 : Int32) + (1 : Int32))), .val (.ref b), .val (.int (0 : Int32)), .val (.int (2 : Int32)), .val (.int (0 : Int32)), .val (.int x0)]) rfl k_) ?_
    rw [show ((0 : Int32) + (1 : Int32)) = (1 : Int32) from by decide]
    refine Go.st (pc' := 38) (S' := []) (fun t_ k_ => XS.iinc X3.here hx rfl (hb hby d20_35) rfl (l' := #[.val (.ref a), .val (.int (1 : Int32)), .val (.ref b), .val (.int ((0 : Int32) + (1 : Int32))), .val (.int (2 : Int32)), .val (.int (0 : Int32)), .val (.int x0)]) rfl k_) ?_
    rw [show ((0 : Int32) + (1 : Int32)) = (1 : Int32) from by decide]
    refine Go.st (pc' := 41) (S' := []) (fun t_ k_ => XS.iinc X3.here hx rfl (hb hby d20_38) rfl (l' := #[.val (.ref a), .val (.int (1 : Int32)), .val (.ref b), .val (.int (1 : Int32)), .val (.int (2 : Int32)), .val (.int ((0 : Int32) + (1 : Int32))), .val (.int x0)]) rfl k_) ?_
    rw [show ((0 : Int32) + (1 : Int32)) = (1 : Int32) from by decide]
    refine Go.st (pc' := 3) (S' := []) (fun t_ k_ => XS.goto X3.here hx rfl (pc0 := 41) (pc' := 3) rfl (hb hby d20_41) (by decide) (by decide) k_) ?_
    refine Go.st (pc' := 5) (S' := [(.int (1 : Int32))]) (fun t_ k_ => XS.iload X3.here hx rfl (hb hby d20_3) rfl k_) ?_
    refine Go.st (pc' := 7) (S' := [(.int (2 : Int32)), (.int (1 : Int32))]) (fun t_ k_ => XS.iload X3.here hx rfl (hb hby d20_5) rfl k_) ?_
    refine Go.st (pc' := 10) (S' := []) (fun t_ k_ => XS.icmpNo X3.here hx rfl (hb hby d20_7) rfl (tlt (by decide : ((1 : Int32) < (2 : Int32)))).2.1 k_) ?_
    refine Go.st (pc' := 11) (S' := [(.ref a)]) (fun t_ k_ => XS.aloadN X3.here hx rfl (hb hby d20_10) rfl rfl k_) ?_
    refine Go.st (pc' := 12) (S' := [(.int (1 : Int32)), (.ref a)]) (fun t_ k_ => XS.iloadN X3.here hx rfl (hb hby d20_11) rfl k_) ?_
    obtain ⟨cl4, Ar4, -, q4a, q4b, q4c, q4d⟩ := id V_a
    refine Go.st (pc' := 13) (S' := [(.int x1)]) (fun t_ k_ => X3.caload hx (j := (1 : Int32)) (v := (.int x1)) (by rw [e3]; exact Ar4.1) (State.isArrayOf_alike hZ.alike Ar4.2.1) Ar4.2.2 (inb_of q4a ⟨by decide, by decide⟩) (q4c.at (inb_of q4a ⟨by decide, by decide⟩) rfl) (g := (mkF m 12 #[.val (.ref a), .val (.int (1 : Int32)), .val (.ref b), .val (.int (1 : Int32)), .val (.int (2 : Int32)), .val (.int (1 : Int32)), .val (.int x0)] [(.int (1 : Int32)), (.ref a)])) rfl rfl (hb hby d20_12) t_ k_) ?_
    refine Go.st (pc' := 15) (S' := []) (fun t_ k_ => XS.istore X3.here hx rfl (hb hby d20_13) rfl (l' := #[.val (.ref a), .val (.int (1 : Int32)), .val (.ref b), .val (.int (1 : Int32)), .val (.int (2 : Int32)), .val (.int (1 : Int32)), .val (.int x1)]) rfl k_) ?_
    refine Go.st (pc' := 17) (S' := [(.int x1)]) (fun t_ k_ => XS.iload X3.here hx rfl (hb hby d20_15) rfl k_) ?_
    refine Go.st (pc' := 20) (S' := [(.int (255 : Int32)), (.int x1)]) (fun t_ k_ => XS.sipush X3.here hx rfl (hb hby d20_17) k_) ?_
    refine Go.st (pc' := 23) (S' := []) (fun t_ k_ => XS.icmpNo X3.here hx rfl (hb hby d20_20) rfl (tlt ((hU.resolve_left hc20_2) : ((255 : Int32) < x1))).2.2.2 k_) ?_
    refine Go.st (pc' := 25) (S' := [(.int (1 : Int32))]) (fun t_ k_ => XS.iload X3.here hx rfl (hb hby d20_23) rfl k_) ?_
    exact Go.retO X3 hx hlk hret rfl (by simp [FieldType.isReference, Value.isRef]) (hb hby d20_25) (by decide) (by decide) (by rw [e3]; exact ⟨_, rfl, Or.inr (⟨rfl, (hU.resolve_left hc20_2)⟩), N3, K0⟩)
theorem d24_0 : decode jdk_52_method_3_code 0 = .ok (.iload_n 0, 1) := by decide +kernel
theorem d24_1 : decode jdk_52_method_3_code 1 = .ok (.ifCond .ge 11, 3) := by decide +kernel
theorem d24_12 : decode jdk_52_method_3_code 12 = .ok (.iload_n 0, 1) := by decide +kernel
theorem d24_13 : decode jdk_52_method_3_code 13 = .ok (.ldc 20, 2) := by decide +kernel
theorem d24_15 : decode jdk_52_method_3_code 15 = .ok (.if_icmp .lt 40, 3) := by decide +kernel
theorem d24_55 : decode jdk_52_method_3_code 55 = .ok (.iload_n 0, 1) := by decide +kernel
theorem d24_56 : decode jdk_52_method_3_code 56 = .ok (.iconst 1, 1) := by decide +kernel
theorem d24_57 : decode jdk_52_method_3_code 57 = .ok (.ishl, 1) := by decide +kernel
theorem d24_58 : decode jdk_52_method_3_code 58 = .ok (.ireturn, 1) := by decide +kernel
theorem pd_18 : parseMethodDescriptor "([CI[BII)I" = some ⟨[(.array .char), .int, (.array .byte), .int, .int], some .int⟩ := by decide +kernel
def Qnbl2 (Z : State)  (h0 : Heap) (n0 : Nat) (v : Option Value) (h : Heap) (L : List Loc) : Prop := v = some (.int 4) ∧ Fr n0 L ∧ h = h0
def roomnbl2 : Room := { frames := 0, cells := 0, slots := 0, locals := 0 }
theorem rmnbl2 (l : Launch) (Z : State) (a0 : Array Value) (hw : ∀ d ∈ tables_1, d.before a0 Z = true) (ws : List Jvm.Cond)  (h0 : Heap) (n0 : Nat) (Z0 : n0 ≤ h0.size)  :
    OMet l (⟨"java/lang/StringUTF16", "newBytesLength", "(I)I"⟩ : MethodName) jdk_52_method_3_code 1 (some .int) ws roomnbl2 #[(.int (2 : Int32))] Z h0 (Qnbl2 Z  h0 n0) := by
  refine own_met (Q := (Qnbl2 Z  h0 n0)) (L0 := #[.val (.int (2 : Int32))]) (plainFor_of_name pn_6) (fun m => by first | (simp [entryFrame, mkF, argsToLocals, Value.category]; done) | rfl) ?_
  intro p e s m below meth c T0 X0 hx hby hml hown hnm hret hlk hZ e0
  have N0 := Fr.nil n0
  refine Go.st (pc' := 1) (S' := [(.int (2 : Int32))]) (fun t_ k_ => XS.iloadN X0.here hx rfl (hb hby d24_0) rfl k_) ?_
  refine Go.st (pc' := 12) (S' := []) (fun t_ k_ => XS.ifYes X0.here hx rfl (pc0 := 1) (pc' := 12) rfl (hb hby d24_1) rfl ((if0 _ _).trans (flt (by decide : ¬ ((2 : Int32) < (0 : Int32)))).2.1) (by decide) (by decide) k_) ?_
  refine Go.st (pc' := 13) (S' := [(.int (2 : Int32))]) (fun t_ k_ => XS.iloadN X0.here hx rfl (hb hby d24_12) rfl k_) ?_
  refine Go.st (pc' := 15) (S' := [(.int (1073741823 : Int32)), (.int (2 : Int32))]) (fun t_ k_ => X0.ldcInt hx hown (mvT hZ (wd hw 104 rfl)) (g := (mkF m 13 #[.val (.int (2 : Int32))] [(.int (2 : Int32))])) rfl (hb hby d24_13) t_ k_) ?_
  refine Go.st (pc' := 55) (S' := []) (fun t_ k_ => XS.icmpYes X0.here hx rfl (pc0 := 15) (pc' := 55) rfl (hb hby d24_15) rfl (tlt (by decide : ((2 : Int32) < (1073741823 : Int32)))).1 (by decide) (by decide) k_) ?_
  refine Go.st (pc' := 56) (S' := [(.int (2 : Int32))]) (fun t_ k_ => XS.iloadN X0.here hx rfl (hb hby d24_55) rfl k_) ?_
  refine Go.st (pc' := 57) (S' := [(.int (1 : Int32)), (.int (2 : Int32))]) (fun t_ k_ => XS.iconst X0.here hx rfl (hb hby d24_56) k_) ?_
  refine Go.st (pc' := 58) (S' := [(.int ((2 : Int32) <<< ((1 : Int32) &&& 31)))]) (fun t_ k_ => XS.ishl X0.here hx rfl (hb hby d24_57) rfl k_) ?_
  rw [show ((2 : Int32) <<< ((1 : Int32) &&& 31)) = (4 : Int32) from by decide]
  exact Go.retO X0 hx hlk hret rfl (by simp [FieldType.isReference, Value.isRef]) (hb hby d24_58) (by decide) (by decide) (by rw [e0]; exact ⟨rfl, N0, rfl⟩)
theorem d23_0 : decode jdk_52_method_2_code 0 = .ok (.iload_n 0, 1) := by decide +kernel
theorem d23_1 : decode jdk_52_method_2_code 1 = .ok (.invokestatic 11, 3) := by decide +kernel
theorem d23_4 : decode jdk_52_method_2_code 4 = .ok (.newarray .byte, 2) := by decide +kernel
theorem d23_6 : decode jdk_52_method_2_code 6 = .ok (.areturn, 1) := by decide +kernel
theorem pd_19 : parseMethodDescriptor "(I)I" = some ⟨[.int], some .int⟩ := by decide +kernel
def Qnbf2 (Z : State)  (h0 : Heap) (n0 : Nat) (v : Option Value) (h : Heap) (L : List Loc) : Prop := ∃ (b : Addr) (kb : ClassId), v = some (.ref b) ∧ Fr n0 L ∧ Keep h0 h [] ∧ n0 ≤ b ∧ h0.size ≤ b ∧ Arv Z h b kb .byte (4 : Int32) [(.int (0 : Int32)), (.int (0 : Int32)), (.int (0 : Int32)), (.int (0 : Int32))] (.int (0 : Int32))
def roomnbf2 : Room := { frames := 1, cells := 1, slots := 4, locals := 12 }
theorem rmnbf2 (l : Launch) (Z : State) (a0 : Array Value) (hw : ∀ d ∈ tables_1, d.before a0 Z = true) (ws : List Jvm.Cond)  (h0 : Heap) (n0 : Nat) (Z0 : n0 ≤ h0.size)  :
    OMet l (⟨"java/lang/StringUTF16", "newBytesFor", "(I)[B"⟩ : MethodName) jdk_52_method_2_code 1 (some (.array .byte)) ws roomnbf2 #[(.int (2 : Int32))] Z h0 (Qnbf2 Z  h0 n0) := by
  refine own_met (Q := (Qnbf2 Z  h0 n0)) (L0 := #[.val (.int (2 : Int32))]) (plainFor_of_name pn_6) (fun m => by first | (simp [entryFrame, mkF, argsToLocals, Value.category]; done) | rfl) ?_
  intro p e s m below meth c T0 X0 hx hby hml hown hnm hret hlk hZ e0
  have N0 := Fr.nil n0
  have K0 := Keep.refl h0 []
  refine Go.st (pc' := 1) (S' := [(.int (2 : Int32))]) (fun t_ k_ => XS.iloadN X0.here hx rfl (hb hby d23_0) rfl k_) ?_
  obtain ⟨_, _, ⟨T1, L1, k1, n1⟩, -, X1, ⟨Lc1, hQ1, l1, y1, z1⟩, st1⟩ := Jvm.LawKit.callS X0 hx (y := (⟨"java/lang/StringUTF16", "newBytesLength", "(I)I"⟩ : MethodName)) hown (mvT hZ (wd hw 101 rfl)) (mvT hZ (wd hw 102 rfl)) (mvT hZ (wd hw 86 rfl)) (mvT hZ (wd hw 103 rfl)) (by decide) (backOf (W := 0) (rmnbl2 l Z a0 hw [] h0 n0 Z0) hZ (wd hw 103 rfl) (wd hw 86 rfl) (by decide) (by decide)) (g := (mkF m 1 #[.val (.int (2 : Int32))] [(.int (2 : Int32))])) rfl (by rw [hml]; rfl) (argsL := [(.int (2 : Int32))]) (rest := []) (lenOf pd_19 rfl) rfl (by show 2 * 0 + _ ≤ _; exact Nat.le_of_eq rfl) (hb hby d23_1) (fun _ _ => ⟨rfl, e0, (by decide : 0 + 0 ≤ _), (by decide : 0 + 0 ≤ _)⟩)
  dsimp only [Pt.U, Pt.locs, Pt.cells, Pt.slots] at X1 l1 y1 z1 st1 hQ1
  subst l1 y1 z1
  obtain ⟨rfl, N1q, e1⟩ := hQ1
  have N1 := Fr.app N0 N1q
  refine Go.st (pc' := 4) (S' := [(.int (4 : Int32))]) st1 ?_
  obtain ⟨T2, h2, k2, X2, e2, E2, A2, st2⟩ := newP X1 hx hZ (wd hw 19 rfl) e1 (g := (mkF m 4 #[.val (.int (2 : Int32))] [(.int (4 : Int32))])) rfl (hb hby d23_4) rfl (by decide) (cap := 4) (by decide) (by decide) (by decide) (by decide)
  obtain ⟨b2, g2⟩ : ∃ z, z = h0.size := ⟨_, rfl⟩
  rw [← g2] at A2 st2
  have g_b2 : n0 ≤ b2 := Nat.le_trans Z0 (Nat.le_of_eq g2.symm)
  have sz_b2 : h0.size ≤ b2 := Nat.le_trans K0.1 (Nat.le_of_eq g2.symm)
  replace Z0 := Nat.le_trans Z0 E2.1
  replace K0 := K0.ext E2
  have V_b2 : Arv Z h2 b2 k2 .byte (4 : Int32) [(.int (0 : Int32)), (.int (0 : Int32)), (.int (0 : Int32)), (.int (0 : Int32))] (.int (0 : Int32)) := (Arv.new A2 (by decide)).pad (pad_rep [] (.int (0 : Int32)) 4)
  refine Go.st (pc' := 6) (S' := [(.ref b2)]) st2 ?_
  exact Go.retO X2 hx hlk hret rfl (by simp [FieldType.isReference, Value.isRef]) (hb hby d23_6) (by decide) (by decide) (by rw [e2]; exact ⟨b2, _, rfl, N1, K0, g_b2, sz_b2, V_b2⟩)
theorem pd_20 : parseMethodDescriptor "(I)[B" = some ⟨[.int], some (.array .byte)⟩ := by decide +kernel
def Qput2_0 (Z : State) (b : Addr) (kb : ClassId) (x0 : Int32) (y0 : Int32) (y1 : Int32) (y2 : Int32) (y3 : Int32) (h0 : Heap) (n0 : Nat) (v : Option Value) (h : Heap) (L : List Loc) : Prop := v = none ∧ Fr n0 L ∧ Keep h0 h [b] ∧ Arv Z h b kb .byte (4 : Int32) [(.int (own_lo x0)), (.int (own_hi x0)), (.int y2), (.int y3)] (.int (0 : Int32))
def roomput2_0 : Room := { frames := 0, cells := 0, slots := 0, locals := 0 }
theorem rmput2_0 (l : Launch) (Z : State) (a0 : Array Value) (hw : ∀ d ∈ tables_1, d.before a0 Z = true) (ws : List Jvm.Cond) (b : Addr) (kb : ClassId) (x0 : Int32) (y0 : Int32) (y1 : Int32) (y2 : Int32) (y3 : Int32) (h0 : Heap) (n0 : Nat) (Z0 : n0 ≤ h0.size) (SD : Sta Z Z.heap "java/lang/StringUTF16" "$assertionsDisabled" "Z" (.int (1 : Int32))) (SH : Sta Z Z.heap "java/lang/StringUTF16" "HI_BYTE_SHIFT" "I" (.int (0 : Int32))) (SL : Sta Z Z.heap "java/lang/StringUTF16" "LO_BYTE_SHIFT" "I" (.int (8 : Int32))) (O0 : Old Z n0 h0) (V_b : Arv Z h0 b kb .byte (4 : Int32) [(.int y0), (.int y1), (.int y2), (.int y3)] (.int (0 : Int32))) (g_b : n0 ≤ b) :
    OMet l (⟨"java/lang/StringUTF16", "putChar", "([BII)V"⟩ : MethodName) jdk_52_method_4_code 3 none ws roomput2_0 #[(.ref b), (.int (0 : Int32)), (.int x0)] Z h0 (Qput2_0 Z b kb x0 y0 y1 y2 y3 h0 n0) := by
  refine own_met (Q := (Qput2_0 Z b kb x0 y0 y1 y2 y3 h0 n0)) (L0 := #[.val (.ref b), .val (.int (0 : Int32)), .val (.int x0)]) (plainFor_of_name pn_6) (fun m => by first | (simp [entryFrame, mkF, argsToLocals, Value.category]; done) | rfl) ?_
  intro p e s m below meth c T0 X0 hx hby hml hown hnm hret hlk hZ e0
  have N0 := Fr.nil n0
  have K0 := Keep.refl h0 [b]
  obtain ⟨T1, X1, e1, st1⟩ := getS2 X0 hx hZ hown (host := "") (Or.inl (wd hw 108 rfl)) Via.refl e0 (SD.ext O0.2) (g := (mkF m 0 #[.val (.ref b), .val (.int (0 : Int32)), .val (.int x0)] [])) rfl (hb hby d25_0)
  refine Go.st (pc' := 3) (S' := [(.int (1 : Int32))]) st1 ?_
  refine Go.st (pc' := 28) (S' := []) (fun t_ k_ => XS.ifYes X1.here hx rfl (pc0 := 3) (pc' := 28) rfl (hb hby d25_3) rfl ((if0 _ _).trans (feq (by decide : ¬ ((1 : Int32) = (0 : Int32)))).2) (by decide) (by decide) k_) ?_
  refine Go.st (pc' := 29) (S' := [(.int (0 : Int32))]) (fun t_ k_ => XS.iloadN X1.here hx rfl (hb hby d25_28) rfl k_) ?_
  refine Go.st (pc' := 30) (S' := [(.int (1 : Int32)), (.int (0 : Int32))]) (fun t_ k_ => XS.iconst X1.here hx rfl (hb hby d25_29) k_) ?_
  refine Go.st (pc' := 31) (S' := [(.int ((0 : Int32) <<< ((1 : Int32) &&& 31)))]) (fun t_ k_ => XS.ishl X1.here hx rfl (hb hby d25_30) rfl k_) ?_
  rw [show ((0 : Int32) <<< ((1 : Int32) &&& 31)) = (0 : Int32) from by decide]
  refine Go.st (pc' := 32) (S' := []) (fun t_ k_ => XS.istoreN X1.here hx rfl (hb hby d25_31) rfl (l' := #[.val (.ref b), .val (.int (0 : Int32)), .val (.int x0)]) rfl k_) ?_
  refine Go.st (pc' := 33) (S' := [(.ref b)]) (fun t_ k_ => XS.aloadN X1.here hx rfl (hb hby d25_32) rfl rfl k_) ?_
  refine Go.st (pc' := 34) (S' := [(.int (0 : Int32)), (.ref b)]) (fun t_ k_ => XS.iloadN X1.here hx rfl (hb hby d25_33) rfl k_) ?_
  refine Go.st (pc' := 37) (S' := [(.int (0 : Int32)), (.ref b)]) (fun t_ k_ => XS.iinc X1.here hx rfl (hb hby d25_34) rfl (l' := #[.val (.ref b), .val (.int ((0 : Int32) + (1 : Int32))), .val (.int x0)]) rfl k_) ?_
  rw [show ((0 : Int32) + (1 : Int32)) = (1 : Int32) from by decide]
  refine Go.st (pc' := 38) (S' := [(.int x0), (.int (0 : Int32)), (.ref b)]) (fun t_ k_ => XS.iloadN X1.here hx rfl (hb hby d25_37) rfl k_) ?_
  obtain ⟨T2, X2, e2, st2⟩ := getS2 X1 hx hZ hown (host := "") (Or.inl (wd hw 109 rfl)) Via.refl e1 (SH.ext O0.2) (g := (mkF m 38 #[.val (.ref b), .val (.int (1 : Int32)), .val (.int x0)] [(.int x0), (.int (0 : Int32)), (.ref b)])) rfl (hb hby d25_38)
  refine Go.st (pc' := 41) (S' := [(.int (0 : Int32)), (.int x0), (.int (0 : Int32)), (.ref b)]) st2 ?_
  refine Go.st (pc' := 42) (S' := [(.int (x0 >>> ((0 : Int32) &&& 31))), (.int (0 : Int32)), (.ref b)]) (fun t_ k_ => XS.ishr X2.here hx rfl (hb hby d25_41) rfl k_) ?_
  refine Go.st (pc' := 43) (S' := [(.int ((x0 >>> ((0 : Int32) &&& 31)).toInt8.toInt32)), (.int (0 : Int32)), (.ref b)]) (fun t_ k_ => XS.i2b X2.here hx rfl (hb hby d25_42) rfl k_) ?_
  obtain ⟨cl3, Ar3, q31, q32, q33, q34, q35⟩ := V_b
  obtain ⟨T3, h3, X3, e3, W3, st3⟩ := stB X2 hx hZ e2 Ar3 (j := (0 : Int32)) (inb_of q32 ⟨by decide, by decide⟩) (g := (mkF m 43 #[.val (.ref b), .val (.int (1 : Int32)), .val (.int x0)] [(.int ((x0 >>> ((0 : Int32) &&& 31)).toInt8.toInt32)), (.int (0 : Int32)), (.ref b)])) rfl rfl (hb hby d25_43)
  replace V_b := Arv.set Ar3 q31 q32 q33 q34 q35 (fits_nar_byte _) W3 0 rfl (Nat.le_of_ble_eq_true rfl)
  have V_b : Arv Z h3 b kb .byte (4 : Int32) [(.int ((x0 >>> ((0 : Int32) &&& 31)).toInt8.toInt32).toInt8.toInt32), (.int y1), (.int y2), (.int y3)] (.int (0 : Int32)) := V_b
  replace Z0 := Nat.le_trans Z0 (Keep.of_wr W3).1
  replace K0 := K0.wr W3 (Or.inl (List.mem_of_getElem? (i := 0) rfl))
  replace O0 := O0.wr W3 g_b
  have N3 := Fr.snoc X3 N0 g_b
  refine Go.st (pc' := 44) (S' := []) st3 ?_
  refine Go.st (pc' := 45) (S' := [(.ref b)]) (fun t_ k_ => XS.aloadN X3.here hx rfl (hb hby d25_44) rfl rfl k_) ?_
  refine Go.st (pc' := 46) (S' := [(.int (1 : Int32)), (.ref b)]) (fun t_ k_ => XS.iloadN X3.here hx rfl (hb hby d25_45) rfl k_) ?_
  refine Go.st (pc' := 47) (S' := [(.int x0), (.int (1 : Int32)), (.ref b)]) (fun t_ k_ => XS.iloadN X3.here hx rfl (hb hby d25_46) rfl k_) ?_
  obtain ⟨T4, X4, e4, st4⟩ := getS2 X3 hx hZ hown (host := "") (Or.inl (wd hw 110 rfl)) Via.refl e3 (SL.ext O0.2) (g := (mkF m 47 #[.val (.ref b), .val (.int (1 : Int32)), .val (.int x0)] [(.int x0), (.int (1 : Int32)), (.ref b)])) rfl (hb hby d25_47)
  refine Go.st (pc' := 50) (S' := [(.int (8 : Int32)), (.int x0), (.int (1 : Int32)), (.ref b)]) st4 ?_
  refine Go.st (pc' := 51) (S' := [(.int (x0 >>> ((8 : Int32) &&& 31))), (.int (1 : Int32)), (.ref b)]) (fun t_ k_ => XS.ishr X4.here hx rfl (hb hby d25_50) rfl k_) ?_
  refine Go.st (pc' := 52) (S' := [(.int ((x0 >>> ((8 : Int32) &&& 31)).toInt8.toInt32)), (.int (1 : Int32)), (.ref b)]) (fun t_ k_ => XS.i2b X4.here hx rfl (hb hby d25_51) rfl k_) ?_
  obtain ⟨cl5, Ar5, q51, q52, q53, q54, q55⟩ := V_b
  obtain ⟨T5, h5, X5, e5, W5, st5⟩ := stB X4 hx hZ e4 Ar5 (j := (1 : Int32)) (inb_of q52 ⟨by decide, by decide⟩) (g := (mkF m 52 #[.val (.ref b), .val (.int (1 : Int32)), .val (.int x0)] [(.int ((x0 >>> ((8 : Int32) &&& 31)).toInt8.toInt32)), (.int (1 : Int32)), (.ref b)])) rfl rfl (hb hby d25_52)
  replace V_b := Arv.set Ar5 q51 q52 q53 q54 q55 (fits_nar_byte _) W5 1 rfl (Nat.le_of_ble_eq_true rfl)
  have V_b : Arv Z h5 b kb .byte (4 : Int32) [(.int ((x0 >>> ((0 : Int32) &&& 31)).toInt8.toInt32).toInt8.toInt32), (.int ((x0 >>> ((8 : Int32) &&& 31)).toInt8.toInt32).toInt8.toInt32), (.int y2), (.int y3)] (.int (0 : Int32)) := V_b
  replace Z0 := Nat.le_trans Z0 (Keep.of_wr W5).1
  replace K0 := K0.wr W5 (Or.inl (List.mem_of_getElem? (i := 0) rfl))
  replace O0 := O0.wr W5 g_b
  have N5 := Fr.snoc X5 N3 g_b
  refine Go.st (pc' := 53) (S' := []) st5 ?_
  exact Go.retV X5 hx hlk hret (hb hby d25_53) (by decide) (by decide) (by rw [e5]; exact ⟨rfl, N5, K0, V_b⟩)

def Qput2_1 (Z : State) (b : Addr) (kb : ClassId) (x0 : Int32) (y0 : Int32) (y1 : Int32) (y2 : Int32) (y3 : Int32) (h0 : Heap) (n0 : Nat) (v : Option Value) (h : Heap) (L : List Loc) : Prop := v = none ∧ Fr n0 L ∧ Keep h0 h [b] ∧ Arv Z h b kb .byte (4 : Int32) [(.int y0), (.int y1), (.int (own_lo x0)), (.int (own_hi x0))] (.int (0 : Int32))
def roomput2_1 : Room := { frames := 0, cells := 0, slots := 0, locals := 0 }
theorem rmput2_1 (l : Launch) (Z : State) (a0 : Array Value) (hw : ∀ d ∈ tables_1, d.before a0 Z = true) (ws : List Jvm.Cond) (b : Addr) (kb : ClassId) (x0 : Int32) (y0 : Int32) (y1 : Int32) (y2 : Int32) (y3 : Int32) (h0 : Heap) (n0 : Nat) (Z0 : n0 ≤ h0.size) (SD : Sta Z Z.heap "java/lang/StringUTF16" "$assertionsDisabled" "Z" (.int (1 : Int32))) (SH : Sta Z Z.heap "java/lang/StringUTF16" "HI_BYTE_SHIFT" "I" (.int (0 : Int32))) (SL : Sta Z Z.heap "java/lang/StringUTF16" "LO_BYTE_SHIFT" "I" (.int (8 : Int32))) (O0 : Old Z n0 h0) (V_b : Arv Z h0 b kb .byte (4 : Int32) [(.int y0), (.int y1), (.int y2), (.int y3)] (.int (0 : Int32))) (g_b : n0 ≤ b) :
    OMet l (⟨"java/lang/StringUTF16", "putChar", "([BII)V"⟩ : MethodName) jdk_52_method_4_code 3 none ws roomput2_1 #[(.ref b), (.int (1 : Int32)), (.int x0)] Z h0 (Qput2_1 Z b kb x0 y0 y1 y2 y3 h0 n0) := by
  refine own_met (Q := (Qput2_1 Z b kb x0 y0 y1 y2 y3 h0 n0)) (L0 := #[.val (.ref b), .val (.int (1 : Int32)), .val (.int x0)]) (plainFor_of_name pn_6) (fun m => by first | (simp [entryFrame, mkF, argsToLocals, Value.category]; done) | rfl) ?_
  intro p e s m below meth c T0 X0 hx hby hml hown hnm hret hlk hZ e0
  have N0 := Fr.nil n0
  have K0 := Keep.refl h0 [b]
  obtain ⟨T1, X1, e1, st1⟩ := getS2 X0 hx hZ hown (host := "") (Or.inl (wd hw 108 rfl)) Via.refl e0 (SD.ext O0.2) (g := (mkF m 0 #[.val (.ref b), .val (.int (1 : Int32)), .val (.int x0)] [])) rfl (hb hby d25_0)
  refine Go.st (pc' := 3) (S' := [(.int (1 : Int32))]) st1 ?_
  refine Go.st (pc' := 28) (S' := []) (fun t_ k_ => XS.ifYes X1.here hx rfl (pc0 := 3) (pc' := 28) rfl (hb hby d25_3) rfl ((if0 _ _).trans (feq (by decide : ¬ ((1 : Int32) = (0 : Int32)))).2) (by decide) (by decide) k_) ?_
  refine Go.st (pc' := 29) (S' := [(.int (1 : Int32))]) (fun t_ k_ => XS.iloadN X1.here hx rfl (hb hby d25_28) rfl k_) ?_
  refine Go.st (pc' := 30) (S' := [(.int (1 : Int32)), (.int (1 : Int32))]) (fun t_ k_ => XS.iconst X1.here hx rfl (hb hby d25_29) k_) ?_
  refine Go.st (pc' := 31) (S' := [(.int ((1 : Int32) <<< ((1 : Int32) &&& 31)))]) (fun t_ k_ => XS.ishl X1.here hx rfl (hb hby d25_30) rfl k_) ?_
  rw [show ((1 : Int32) <<< ((1 : Int32) &&& 31)) = (2 : Int32) from by decide]
  refine Go.st (pc' := 32) (S' := []) (fun t_ k_ => XS.istoreN X1.here hx rfl (hb hby d25_31) rfl (l' := #[.val (.ref b), .val (.int (2 : Int32)), .val (.int x0)]) rfl k_) ?_
  refine Go.st (pc' := 33) (S' := [(.ref b)]) (fun t_ k_ => XS.aloadN X1.here hx rfl (hb hby d25_32) rfl rfl k_) ?_
  refine Go.st (pc' := 34) (S' := [(.int (2 : Int32)), (.ref b)]) (fun t_ k_ => XS.iloadN X1.here hx rfl (hb hby d25_33) rfl k_) ?_
  refine Go.st (pc' := 37) (S' := [(.int (2 : Int32)), (.ref b)]) (fun t_ k_ => XS.iinc X1.here hx rfl (hb hby d25_34) rfl (l' := #[.val (.ref b), .val (.int ((2 : Int32) + (1 : Int32))), .val (.int x0)]) rfl k_) ?_
  rw [show ((2 : Int32) + (1 : Int32)) = (3 : Int32) from by decide]
  refine Go.st (pc' := 38) (S' := [(.int x0), (.int (2 : Int32)), (.ref b)]) (fun t_ k_ => XS.iloadN X1.here hx rfl (hb hby d25_37) rfl k_) ?_
  obtain ⟨T2, X2, e2, st2⟩ := getS2 X1 hx hZ hown (host := "") (Or.inl (wd hw 109 rfl)) Via.refl e1 (SH.ext O0.2) (g := (mkF m 38 #[.val (.ref b), .val (.int (3 : Int32)), .val (.int x0)] [(.int x0), (.int (2 : Int32)), (.ref b)])) rfl (hb hby d25_38)
  refine Go.st (pc' := 41) (S' := [(.int (0 : Int32)), (.int x0), (.int (2 : Int32)), (.ref b)]) st2 ?_
  refine Go.st (pc' := 42) (S' := [(.int (x0 >>> ((0 : Int32) &&& 31))), (.int (2 : Int32)), (.ref b)]) (fun t_ k_ => XS.ishr X2.here hx rfl (hb hby d25_41) rfl k_) ?_
  refine Go.st (pc' := 43) (S' := [(.int ((x0 >>> ((0 : Int32) &&& 31)).toInt8.toInt32)), (.int (2 : Int32)), (.ref b)]) (fun t_ k_ => XS.i2b X2.here hx rfl (hb hby d25_42) rfl k_) ?_
  obtain ⟨cl3, Ar3, q31, q32, q33, q34, q35⟩ := V_b
  obtain ⟨T3, h3, X3, e3, W3, st3⟩ := stB X2 hx hZ e2 Ar3 (j := (2 : Int32)) (inb_of q32 ⟨by decide, by decide⟩) (g := (mkF m 43 #[.val (.ref b), .val (.int (3 : Int32)), .val (.int x0)] [(.int ((x0 >>> ((0 : Int32) &&& 31)).toInt8.toInt32)), (.int (2 : Int32)), (.ref b)])) rfl rfl (hb hby d25_43)
  replace V_b := Arv.set Ar3 q31 q32 q33 q34 q35 (fits_nar_byte _) W3 2 rfl (Nat.le_of_ble_eq_true rfl)
  have V_b : Arv Z h3 b kb .byte (4 : Int32) [(.int y0), (.int y1), (.int ((x0 >>> ((0 : Int32) &&& 31)).toInt8.toInt32).toInt8.toInt32), (.int y3)] (.int (0 : Int32)) := V_b
  replace Z0 := Nat.le_trans Z0 (Keep.of_wr W3).1
  replace K0 := K0.wr W3 (Or.inl (List.mem_of_getElem? (i := 0) rfl))
  replace O0 := O0.wr W3 g_b
  have N3 := Fr.snoc X3 N0 g_b
  refine Go.st (pc' := 44) (S' := []) st3 ?_
  refine Go.st (pc' := 45) (S' := [(.ref b)]) (fun t_ k_ => XS.aloadN X3.here hx rfl (hb hby d25_44) rfl rfl k_) ?_
  refine Go.st (pc' := 46) (S' := [(.int (3 : Int32)), (.ref b)]) (fun t_ k_ => XS.iloadN X3.here hx rfl (hb hby d25_45) rfl k_) ?_
  refine Go.st (pc' := 47) (S' := [(.int x0), (.int (3 : Int32)), (.ref b)]) (fun t_ k_ => XS.iloadN X3.here hx rfl (hb hby d25_46) rfl k_) ?_
  obtain ⟨T4, X4, e4, st4⟩ := getS2 X3 hx hZ hown (host := "") (Or.inl (wd hw 110 rfl)) Via.refl e3 (SL.ext O0.2) (g := (mkF m 47 #[.val (.ref b), .val (.int (3 : Int32)), .val (.int x0)] [(.int x0), (.int (3 : Int32)), (.ref b)])) rfl (hb hby d25_47)
  refine Go.st (pc' := 50) (S' := [(.int (8 : Int32)), (.int x0), (.int (3 : Int32)), (.ref b)]) st4 ?_
  refine Go.st (pc' := 51) (S' := [(.int (x0 >>> ((8 : Int32) &&& 31))), (.int (3 : Int32)), (.ref b)]) (fun t_ k_ => XS.ishr X4.here hx rfl (hb hby d25_50) rfl k_) ?_
  refine Go.st (pc' := 52) (S' := [(.int ((x0 >>> ((8 : Int32) &&& 31)).toInt8.toInt32)), (.int (3 : Int32)), (.ref b)]) (fun t_ k_ => XS.i2b X4.here hx rfl (hb hby d25_51) rfl k_) ?_
  obtain ⟨cl5, Ar5, q51, q52, q53, q54, q55⟩ := V_b
  obtain ⟨T5, h5, X5, e5, W5, st5⟩ := stB X4 hx hZ e4 Ar5 (j := (3 : Int32)) (inb_of q52 ⟨by decide, by decide⟩) (g := (mkF m 52 #[.val (.ref b), .val (.int (3 : Int32)), .val (.int x0)] [(.int ((x0 >>> ((8 : Int32) &&& 31)).toInt8.toInt32)), (.int (3 : Int32)), (.ref b)])) rfl rfl (hb hby d25_52)
  replace V_b := Arv.set Ar5 q51 q52 q53 q54 q55 (fits_nar_byte _) W5 3 rfl (Nat.le_of_ble_eq_true rfl)
  have V_b : Arv Z h5 b kb .byte (4 : Int32) [(.int y0), (.int y1), (.int ((x0 >>> ((0 : Int32) &&& 31)).toInt8.toInt32).toInt8.toInt32), (.int ((x0 >>> ((8 : Int32) &&& 31)).toInt8.toInt32).toInt8.toInt32)] (.int (0 : Int32)) := V_b
  replace Z0 := Nat.le_trans Z0 (Keep.of_wr W5).1
  replace K0 := K0.wr W5 (Or.inl (List.mem_of_getElem? (i := 0) rfl))
  replace O0 := O0.wr W5 g_b
  have N5 := Fr.snoc X5 N3 g_b
  refine Go.st (pc' := 53) (S' := []) st5 ?_
  exact Go.retV X5 hx hlk hret (hb hby d25_53) (by decide) (by decide) (by rw [e5]; exact ⟨rfl, N5, K0, V_b⟩)
theorem d22_0 : decode jdk_52_method_14_code 0 = .ok (.iload_n 2, 1) := by decide +kernel
theorem d22_1 : decode jdk_52_method_14_code 1 = .ok (.invokestatic 107, 3) := by decide +kernel
theorem d22_4 : decode jdk_52_method_14_code 4 = .ok (.astore_n 3, 1) := by decide +kernel
theorem d22_5 : decode jdk_52_method_14_code 5 = .ok (.iconst 0, 1) := by decide +kernel
theorem d22_6 : decode jdk_52_method_14_code 6 = .ok (.istore 4, 2) := by decide +kernel
theorem d22_8 : decode jdk_52_method_14_code 8 = .ok (.iload 4, 2) := by decide +kernel
theorem d22_10 : decode jdk_52_method_14_code 10 = .ok (.iload_n 2, 1) := by decide +kernel
theorem d22_11 : decode jdk_52_method_14_code 11 = .ok (.if_icmp .ge 21, 3) := by decide +kernel
theorem d22_14 : decode jdk_52_method_14_code 14 = .ok (.aload_n 3, 1) := by decide +kernel
theorem d22_15 : decode jdk_52_method_14_code 15 = .ok (.iload 4, 2) := by decide +kernel
theorem d22_17 : decode jdk_52_method_14_code 17 = .ok (.aload_n 0, 1) := by decide +kernel
theorem d22_18 : decode jdk_52_method_14_code 18 = .ok (.iload_n 1, 1) := by decide +kernel
theorem d22_19 : decode jdk_52_method_14_code 19 = .ok (.caload, 1) := by decide +kernel
theorem d22_20 : decode jdk_52_method_14_code 20 = .ok (.invokestatic 111, 3) := by decide +kernel
theorem d22_23 : decode jdk_52_method_14_code 23 = .ok (.iinc 1 1, 3) := by decide +kernel
theorem d22_26 : decode jdk_52_method_14_code 26 = .ok (.iinc 4 1, 3) := by decide +kernel
theorem d22_29 : decode jdk_52_method_14_code 29 = .ok (.goto (-21), 3) := by decide +kernel
theorem d22_32 : decode jdk_52_method_14_code 32 = .ok (.aload_n 3, 1) := by decide +kernel
theorem d22_33 : decode jdk_52_method_14_code 33 = .ok (.areturn, 1) := by decide +kernel
def QtoB2 (Z : State) (x0 : Int32) (x1 : Int32) (h0 : Heap) (n0 : Nat) (v : Option Value) (h : Heap) (L : List Loc) : Prop := ∃ (b : Addr) (kb : ClassId), v = some (.ref b) ∧ Fr n0 L ∧ Keep h0 h [] ∧ n0 ≤ b ∧ h0.size ≤ b ∧ Arv Z h b kb .byte (4 : Int32) [(.int (own_lo x0)), (.int (own_hi x0)), (.int (own_lo x1)), (.int (own_hi x1))] (.int (0 : Int32))
def roomtoB2 : Room := { frames := 2, cells := 1, slots := 4, locals := 24 }
theorem rmtoB2 (l : Launch) (Z : State) (a0 : Array Value) (hw : ∀ d ∈ tables_1, d.before a0 Z = true) (ws : List Jvm.Cond) (a : Addr) (ka : ClassId) (x0 : Int32) (x1 : Int32) (h0 : Heap) (n0 : Nat) (Z0 : n0 ≤ h0.size) (SD : Sta Z Z.heap "java/lang/StringUTF16" "$assertionsDisabled" "Z" (.int (1 : Int32))) (SH : Sta Z Z.heap "java/lang/StringUTF16" "HI_BYTE_SHIFT" "I" (.int (0 : Int32))) (SL : Sta Z Z.heap "java/lang/StringUTF16" "LO_BYTE_SHIFT" "I" (.int (8 : Int32))) (O0 : Old Z n0 h0) (V_a : Arv Z h0 a ka .char (2 : Int32) [(.int x0), (.int x1)] (.int (0 : Int32))) :
    OMet l (⟨"java/lang/StringUTF16", "toBytes", "([CII)[B"⟩ : MethodName) jdk_52_method_14_code 5 (some (.array .byte)) ws roomtoB2 #[(.ref a), (.int (0 : Int32)), (.int (2 : Int32))] Z h0 (QtoB2 Z x0 x1 h0 n0) := by
  refine own_met (Q := (QtoB2 Z x0 x1 h0 n0)) (L0 := #[.val (.ref a), .val (.int (0 : Int32)), .val (.int (2 : Int32)), .unset, .unset]) (plainFor_of_name pn_6) (fun m => by first | (simp [entryFrame, mkF, argsToLocals, Value.category]; done) | rfl) ?_
  intro p e s m below meth c T0 X0 hx hby hml hown hnm hret hlk hZ e0
  have N0 := Fr.nil n0
  have K0 := Keep.refl h0 []
  refine Go.st (pc' := 1) (S' := [(.int (2 : Int32))]) (fun t_ k_ => XS.iloadN X0.here hx rfl (hb hby d22_0) rfl k_) ?_
  obtain ⟨_, _, ⟨T1, L1, k1, n1⟩, -, X1, ⟨Lc1, hQ1, l1, y1, z1⟩, st1⟩ := Jvm.LawKit.callS X0 hx (y := (⟨"java/lang/StringUTF16", "newBytesFor", "(I)[B"⟩ : MethodName)) hown (mvT hZ (wd hw 98 rfl)) (mvT hZ (wd hw 99 rfl)) (mvT hZ (wd hw 86 rfl)) (mvT hZ (wd hw 100 rfl)) (by decide) (backOf (W := 0) (rmnbf2 l Z a0 hw [] h0 n0 Z0) hZ (wd hw 100 rfl) (wd hw 86 rfl) (by decide) (by decide)) (g := (mkF m 1 #[.val (.ref a), .val (.int (0 : Int32)), .val (.int (2 : Int32)), .unset, .unset] [(.int (2 : Int32))])) rfl (by rw [hml]; rfl) (argsL := [(.int (2 : Int32))]) (rest := []) (lenOf pd_20 rfl) rfl (by show 2 * 0 + _ ≤ _; exact Nat.le_of_eq rfl) (hb hby d22_1) (fun _ _ => ⟨rfl, e0, (by decide : 0 + 1 ≤ _), (by decide : 0 + 4 ≤ _)⟩)
  dsimp only [Pt.U, Pt.locs, Pt.cells, Pt.slots] at X1 l1 y1 z1 st1 hQ1
  subst l1 y1 z1
  obtain ⟨bu1, kb1, rfl, N1q, K1, g_bu1, lt1, Vb1⟩ := hQ1
  have N1 := Fr.app N0 N1q
  have ne_a_bu1 : a ≠ bu1 := Nat.ne_of_lt (Nat.lt_of_lt_of_le V_a.lt lt1)
  have sz_bu1 : h0.size ≤ bu1 := Nat.le_trans K0.1 lt1
  obtain ⟨h1, e1⟩ : ∃ z, T1.heap = z := ⟨_, rfl⟩
  rw [e1] at K1 Vb1
  replace Z0 := Nat.le_trans Z0 K1.1
  replace K0 := K0.trans K1 all0
  replace O0 := O0.keep K1 all0
  replace V_a := V_a.keep K1 nin0
  refine Go.st (pc' := 4) (S' := [(.ref bu1)]) st1 ?_
  refine Go.st (pc' := 5) (S' := []) (fun t_ k_ => XS.astoreN X1.here hx rfl (hb hby d22_4) rfl rfl (l' := #[.val (.ref a), .val (.int (0 : Int32)), .val (.int (2 : Int32)), .val (.ref bu1), .unset]) rfl k_) ?_
  refine Go.st (pc' := 6) (S' := [(.int (0 : Int32))]) (fun t_ k_ => XS.iconst X1.here hx rfl (hb hby d22_5) k_) ?_
  refine Go.st (pc' := 8) (S' := []) (fun t_ k_ => XS.istore X1.here hx rfl (hb hby d22_6) rfl (l' := #[.val (.ref a), .val (.int (0 : Int32)), .val (.int (2 : Int32)), .val (.ref bu1), .val (.int (0 : Int32))]) rfl k_) ?_
  refine Go.st (pc' := 10) (S' := [(.int (0 : Int32))]) (fun t_ k_ => XS.iload X1.here hx rfl (hb hby d22_8) rfl k_) ?_
  refine Go.st (pc' := 11) (S' := [(.int (2 : Int32)), (.int (0 : Int32))]) (fun t_ k_ => XS.iloadN X1.here hx rfl (hb hby d22_10) rfl k_) ?_
  refine Go.st (pc' := 14) (S' := []) (fun t_ k_ => XS.icmpNo X1.here hx rfl (hb hby d22_11) rfl (tlt (by decide : ((0 : Int32) < (2 : Int32)))).2.1 k_) ?_
  refine Go.st (pc' := 15) (S' := [(.ref bu1)]) (fun t_ k_ => XS.aloadN X1.here hx rfl (hb hby d22_14) rfl rfl k_) ?_
  refine Go.st (pc' := 17) (S' := [(.int (0 : Int32)), (.ref bu1)]) (fun t_ k_ => XS.iload X1.here hx rfl (hb hby d22_15) rfl k_) ?_
  refine Go.st (pc' := 18) (S' := [(.ref a), (.int (0 : Int32)), (.ref bu1)]) (fun t_ k_ => XS.aloadN X1.here hx rfl (hb hby d22_17) rfl rfl k_) ?_
  refine Go.st (pc' := 19) (S' := [(.int (0 : Int32)), (.ref a), (.int (0 : Int32)), (.ref bu1)]) (fun t_ k_ => XS.iloadN X1.here hx rfl (hb hby d22_18) rfl k_) ?_
  obtain ⟨cl2, Ar2, -, q2a, q2b, q2c, q2d⟩ := id V_a
  refine Go.st (pc' := 20) (S' := [(.int x0), (.int (0 : Int32)), (.ref bu1)]) (fun t_ k_ => X1.caload hx (j := (0 : Int32)) (v := (.int x0)) (by rw [e1]; exact Ar2.1) (State.isArrayOf_alike hZ.alike Ar2.2.1) Ar2.2.2 (inb_of q2a ⟨by decide, by decide⟩) (q2c.at (inb_of q2a ⟨by decide, by decide⟩) rfl) (g := (mkF m 19 #[.val (.ref a), .val (.int (0 : Int32)), .val (.int (2 : Int32)), .val (.ref bu1), .val (.int (0 : Int32))] [(.int (0 : Int32)), (.ref a), (.int (0 : Int32)), (.ref bu1)])) rfl rfl (hb hby d22_19) t_ k_) ?_
  obtain ⟨_, _, ⟨T3, L3, k3, n3⟩, -, X3, ⟨Lc3, hQ3, l3, y3, z3⟩, st3⟩ := Jvm.LawKit.callS X1 hx (y := (⟨"java/lang/StringUTF16", "putChar", "([BII)V"⟩ : MethodName)) hown (mvT hZ (wd hw 105 rfl)) (mvT hZ (wd hw 106 rfl)) (mvT hZ (wd hw 86 rfl)) (mvT hZ (wd hw 107 rfl)) (by decide) (backOf (W := 0) (rmput2_0 l Z a0 hw [] bu1 _ (x0) ((0 : Int32)) ((0 : Int32)) ((0 : Int32)) ((0 : Int32)) h1 n0 Z0 SD SH SL O0 Vb1 g_bu1) hZ (wd hw 107 rfl) (wd hw 86 rfl) (by decide) (by decide)) (g := (mkF m 20 #[.val (.ref a), .val (.int (0 : Int32)), .val (.int (2 : Int32)), .val (.ref bu1), .val (.int (0 : Int32))] [(.int x0), (.int (0 : Int32)), (.ref bu1)])) rfl (by rw [hml]; rfl) (argsL := [(.ref bu1), (.int (0 : Int32)), (.int x0)]) (rest := []) (lenOf pd_16 rfl) rfl (by show 2 * 0 + _ ≤ _; exact Nat.le_of_eq rfl) (hb hby d22_20) (fun _ _ => ⟨rfl, e1, (by decide : 1 + 0 ≤ _), (by decide : 4 + 0 ≤ _)⟩)
  dsimp only [Pt.U, Pt.locs, Pt.cells, Pt.slots] at X3 l3 y3 z3 st3 hQ3
  subst l3 y3 z3
  obtain ⟨rfl, N3q, K3, Vb3⟩ := hQ3
  have N3 := Fr.app N1 N3q
  obtain ⟨h3, e3⟩ : ∃ z, T3.heap = z := ⟨_, rfl⟩
  rw [e3] at K3 Vb3
  replace Z0 := Nat.le_trans Z0 K3.1
  replace K0 := K0.trans K3 (allS (Or.inr sz_bu1) all0)
  replace O0 := O0.keep K3 (allS g_bu1 all0)
  replace V_a := V_a.keep K3 (ninS ne_a_bu1 nin0)
  refine Go.st (pc' := 23) (S' := []) st3 ?_
  refine Go.st (pc' := 26) (S' := []) (fun t_ k_ => XS.iinc X3.here hx rfl (hb hby d22_23) rfl (l' := #[.val (.ref a), .val (.int ((0 : Int32) + (1 : Int32))), .val (.int (2 : Int32)), .val (.ref bu1), .val (.int (0 : Int32))]) rfl k_) ?_
  rw [show ((0 : Int32) + (1 : Int32)) = (1 : Int32) from by decide]
  refine Go.st (pc' := 29) (S' := []) (fun t_ k_ => XS.iinc X3.here hx rfl (hb hby d22_26) rfl (l' := #[.val (.ref a), .val (.int (1 : Int32)), .val (.int (2 : Int32)), .val (.ref bu1), .val (.int ((0 : Int32) + (1 : Int32)))]) rfl k_) ?_
  rw [show ((0 : Int32) + (1 : Int32)) = (1 : Int32) from by decide]
  refine Go.st (pc' := 8) (S' := []) (fun t_ k_ => XS.goto X3.here hx rfl (pc0 := 29) (pc' := 8) rfl (hb hby d22_29) (by decide) (by decide) k_) ?_
  refine Go.st (pc' := 10) (S' := [(.int (1 : Int32))]) (fun t_ k_ => XS.iload X3.here hx rfl (hb hby d22_8) rfl k_) ?_
  refine Go.st (pc' := 11) (S' := [(.int (2 : Int32)), (.int (1 : Int32))]) (fun t_ k_ => XS.iloadN X3.here hx rfl (hb hby d22_10) rfl k_) ?_
  refine Go.st (pc' := 14) (S' := []) (fun t_ k_ => XS.icmpNo X3.here hx rfl (hb hby d22_11) rfl (tlt (by decide : ((1 : Int32) < (2 : Int32)))).2.1 k_) ?_
  refine Go.st (pc' := 15) (S' := [(.ref bu1)]) (fun t_ k_ => XS.aloadN X3.here hx rfl (hb hby d22_14) rfl rfl k_) ?_
  refine Go.st (pc' := 17) (S' := [(.int (1 : Int32)), (.ref bu1)]) (fun t_ k_ => XS.iload X3.here hx rfl (hb hby d22_15) rfl k_) ?_
  refine Go.st (pc' := 18) (S' := [(.ref a), (.int (1 : Int32)), (.ref bu1)]) (fun t_ k_ => XS.aloadN X3.here hx rfl (hb hby d22_17) rfl rfl k_) ?_
  refine Go.st (pc' := 19) (S' := [(.int (1 : Int32)), (.ref a), (.int (1 : Int32)), (.ref bu1)]) (fun t_ k_ => XS.iloadN X3.here hx rfl (hb hby d22_18) rfl k_) ?_
  obtain ⟨cl4, Ar4, -, q4a, q4b, q4c, q4d⟩ := id V_a
  refine Go.st (pc' := 20) (S' := [(.int x1), (.int (1 : Int32)), (.ref bu1)]) (fun t_ k_ => X3.caload hx (j := (1 : Int32)) (v := (.int x1)) (by rw [e3]; exact Ar4.1) (State.isArrayOf_alike hZ.alike Ar4.2.1) Ar4.2.2 (inb_of q4a ⟨by decide, by decide⟩) (q4c.at (inb_of q4a ⟨by decide, by decide⟩) rfl) (g := (mkF m 19 #[.val (.ref a), .val (.int (1 : Int32)), .val (.int (2 : Int32)), .val (.ref bu1), .val (.int (1 : Int32))] [(.int (1 : Int32)), (.ref a), (.int (1 : Int32)), (.ref bu1)])) rfl rfl (hb hby d22_19) t_ k_) ?_
  obtain ⟨_, _, ⟨T5, L5, k5, n5⟩, -, X5, ⟨Lc5, hQ5, l5, y5, z5⟩, st5⟩ := Jvm.LawKit.callS X3 hx (y := (⟨"java/lang/StringUTF16", "putChar", "([BII)V"⟩ : MethodName)) hown (mvT hZ (wd hw 105 rfl)) (mvT hZ (wd hw 106 rfl)) (mvT hZ (wd hw 86 rfl)) (mvT hZ (wd hw 107 rfl)) (by decide) (backOf (W := 0) (rmput2_1 l Z a0 hw [] bu1 _ (x1) ((own_lo x0)) ((own_hi x0)) ((0 : Int32)) ((0 : Int32)) h3 n0 Z0 SD SH SL O0 Vb3 g_bu1) hZ (wd hw 107 rfl) (wd hw 86 rfl) (by decide) (by decide)) (g := (mkF m 20 #[.val (.ref a), .val (.int (1 : Int32)), .val (.int (2 : Int32)), .val (.ref bu1), .val (.int (1 : Int32))] [(.int x1), (.int (1 : Int32)), (.ref bu1)])) rfl (by rw [hml]; rfl) (argsL := [(.ref bu1), (.int (1 : Int32)), (.int x1)]) (rest := []) (lenOf pd_16 rfl) rfl (by show 2 * 0 + _ ≤ _; exact Nat.le_of_eq rfl) (hb hby d22_20) (fun _ _ => ⟨rfl, e3, (by decide : 1 + 0 ≤ _), (by decide : 4 + 0 ≤ _)⟩)
  dsimp only [Pt.U, Pt.locs, Pt.cells, Pt.slots] at X5 l5 y5 z5 st5 hQ5
  subst l5 y5 z5
  obtain ⟨rfl, N5q, K5, Vb5⟩ := hQ5
  have N5 := Fr.app N3 N5q
  obtain ⟨h5, e5⟩ : ∃ z, T5.heap = z := ⟨_, rfl⟩
  rw [e5] at K5 Vb5
  replace Z0 := Nat.le_trans Z0 K5.1
  replace K0 := K0.trans K5 (allS (Or.inr sz_bu1) all0)
  replace O0 := O0.keep K5 (allS g_bu1 all0)
  replace V_a := V_a.keep K5 (ninS ne_a_bu1 nin0)
  refine Go.st (pc' := 23) (S' := []) st5 ?_
  refine Go.st (pc' := 26) (S' := []) (fun t_ k_ => XS.iinc X5.here hx rfl (hb hby d22_23) rfl (l' := #[.val (.ref a), .val (.int ((1 : Int32) + (1 : Int32))), .val (.int (2 : Int32)), .val (.ref bu1), .val (.int (1 : Int32))]) rfl k_) ?_
  rw [show ((1 : Int32) + (1 : Int32)) = (2 : Int32) from by decide]
  refine Go.st (pc' := 29) (S' := []) (fun t_ k_ => XS.iinc X5.here hx rfl (hb hby d22_26) rfl (l' := #[.val (.ref a), .val (.int (2 : Int32)), .val (.int (2 : Int32)), .val (.ref bu1), .val (.int ((1 : Int32) + (1 : Int32)))]) rfl k_) ?_
  rw [show ((1 : Int32) + (1 : Int32)) = (2 : Int32) from by decide]
  refine Go.st (pc' := 8) (S' := []) (fun t_ k_ => XS.goto X5.here hx rfl (pc0 := 29) (pc' := 8) rfl (hb hby d22_29) (by decide) (by decide) k_) ?_
  refine Go.st (pc' := 10) (S' := [(.int (2 : Int32))]) (fun t_ k_ => XS.iload X5.here hx rfl (hb hby d22_8) rfl k_) ?_
  refine Go.st (pc' := 11) (S' := [(.int (2 : Int32)), (.int (2 : Int32))]) (fun t_ k_ => XS.iloadN X5.here hx rfl (hb hby d22_10) rfl k_) ?_
  refine Go.st (pc' := 32) (S' := []) (fun t_ k_ => XS.icmpYes X5.here hx rfl (pc0 := 11) (pc' := 32) rfl (hb hby d22_11) rfl (flt (by decide : ¬ ((2 : Int32) < (2 : Int32)))).2.1 (by decide) (by decide) k_) ?_
  refine Go.st (pc' := 33) (S' := [(.ref bu1)]) (fun t_ k_ => XS.aloadN X5.here hx rfl (hb hby d22_32) rfl rfl k_) ?_
  exact Go.retO X5 hx hlk hret rfl (by simp [FieldType.isReference, Value.isRef]) (hb hby d22_33) (by decide) (by decide) (by rw [e5]; exact ⟨bu1, _, rfl, N5, K0, g_bu1, sz_bu1, Vb5⟩)
theorem d19_0 : decode jdk_52_method_16_code 0 = .ok (.iload_n 2, 1) := by decide +kernel
theorem d19_1 : decode jdk_52_method_16_code 1 = .ok (.newarray .byte, 2) := by decide +kernel
theorem d19_3 : decode jdk_52_method_16_code 3 = .ok (.astore_n 3, 1) := by decide +kernel
theorem d19_4 : decode jdk_52_method_16_code 4 = .ok (.aload_n 0, 1) := by decide +kernel
theorem d19_5 : decode jdk_52_method_16_code 5 = .ok (.iload_n 1, 1) := by decide +kernel
theorem d19_6 : decode jdk_52_method_16_code 6 = .ok (.aload_n 3, 1) := by decide +kernel
theorem d19_7 : decode jdk_52_method_16_code 7 = .ok (.iconst 0, 1) := by decide +kernel
theorem d19_8 : decode jdk_52_method_16_code 8 = .ok (.iload_n 2, 1) := by decide +kernel
theorem d19_9 : decode jdk_52_method_16_code 9 = .ok (.invokestatic 115, 3) := by decide +kernel
theorem d19_12 : decode jdk_52_method_16_code 12 = .ok (.istore 4, 2) := by decide +kernel
theorem d19_14 : decode jdk_52_method_16_code 14 = .ok (.iload 4, 2) := by decide +kernel
theorem d19_16 : decode jdk_52_method_16_code 16 = .ok (.iload_n 2, 1) := by decide +kernel
theorem d19_17 : decode jdk_52_method_16_code 17 = .ok (.if_icmp .eq 40, 3) := by decide +kernel
theorem d19_20 : decode jdk_52_method_16_code 20 = .ok (.aload_n 0, 1) := by decide +kernel
theorem d19_21 : decode jdk_52_method_16_code 21 = .ok (.iload_n 1, 1) := by decide +kernel
theorem d19_22 : decode jdk_52_method_16_code 22 = .ok (.iload_n 2, 1) := by decide +kernel
theorem d19_23 : decode jdk_52_method_16_code 23 = .ok (.invokestatic 119, 3) := by decide +kernel
theorem d19_26 : decode jdk_52_method_16_code 26 = .ok (.astore 5, 2) := by decide +kernel
theorem d19_28 : decode jdk_52_method_16_code 28 = .ok (.aload 5, 2) := by decide +kernel
theorem d19_30 : decode jdk_52_method_16_code 30 = .ok (.iload 4, 2) := by decide +kernel
theorem d19_32 : decode jdk_52_method_16_code 32 = .ok (.invokestatic 71, 3) := by decide +kernel
theorem d19_35 : decode jdk_52_method_16_code 35 = .ok (.sipush 255, 3) := by decide +kernel
theorem d19_38 : decode jdk_52_method_16_code 38 = .ok (.if_icmp .gt 16, 3) := by decide +kernel
theorem d19_54 : decode jdk_52_method_16_code 54 = .ok (.aload 5, 2) := by decide +kernel
theorem d19_56 : decode jdk_52_method_16_code 56 = .ok (.areturn, 1) := by decide +kernel
theorem pd_21 : parseMethodDescriptor "([CII)[B" = some ⟨[(.array .char), .int, .int], some (.array .byte)⟩ := by decide +kernel
def Qcp3_2 (Z : State) (x0 : Int32) (x1 : Int32) (h0 : Heap) (n0 : Nat) (v : Option Value) (h : Heap) (L : List Loc) : Prop := ∃ (b : Addr) (kb : ClassId), v = some (.ref b) ∧ Fr n0 L ∧ Keep h0 h [] ∧ n0 ≤ b ∧ h0.size ≤ b ∧ Arv Z h b kb .byte (4 : Int32) [(.int (own_lo x0)), (.int (own_hi x0)), (.int (own_lo x1)), (.int (own_hi x1))] (.int (0 : Int32))
def roomcp3_2 : Room := { frames := 3, cells := 2, slots := 6, locals := 40 }
theorem rmcp3_2 (l : Launch) (Z : State) (a0 : Array Value) (hw : ∀ d ∈ tables_1, d.before a0 Z = true) (ws : List Jvm.Cond) (a : Addr) (ka : ClassId) (x0 : Int32) (x1 : Int32) (h0 : Heap) (n0 : Nat) (Z0 : n0 ≤ h0.size) (SD : Sta Z Z.heap "java/lang/StringUTF16" "$assertionsDisabled" "Z" (.int (1 : Int32))) (SH : Sta Z Z.heap "java/lang/StringUTF16" "HI_BYTE_SHIFT" "I" (.int (0 : Int32))) (SL : Sta Z Z.heap "java/lang/StringUTF16" "LO_BYTE_SHIFT" "I" (.int (8 : Int32))) (O0 : Old Z n0 h0) (V_a : Arv Z h0 a ka .char (2 : Int32) [(.int x0), (.int x1)] (.int (0 : Int32))) (bd0 : ¬ x0 < 0 ∧ ¬ (65535 : Int32) < x0) (bd1 : ¬ x1 < 0 ∧ ¬ (65535 : Int32) < x1) (hU : (255 : Int32) < x0 ∨ (255 : Int32) < x1) :
    OMet l (⟨"java/lang/StringUTF16", "compress", "([CII)[B"⟩ : MethodName) jdk_52_method_16_code 6 (some (.array .byte)) ws roomcp3_2 #[(.ref a), (.int (0 : Int32)), (.int (2 : Int32))] Z h0 (Qcp3_2 Z x0 x1 h0 n0) := by
  refine own_met (Q := (Qcp3_2 Z x0 x1 h0 n0)) (L0 := #[.val (.ref a), .val (.int (0 : Int32)), .val (.int (2 : Int32)), .unset, .unset, .unset]) (plainFor_of_name pn_6) (fun m => by first | (simp [entryFrame, mkF, argsToLocals, Value.category]; done) | rfl) ?_
  intro p e s m below meth c T0 X0 hx hby hml hown hnm hret hlk hZ e0
  have N0 := Fr.nil n0
  have K0 := Keep.refl h0 []
  refine Go.st (pc' := 1) (S' := [(.int (2 : Int32))]) (fun t_ k_ => XS.iloadN X0.here hx rfl (hb hby d19_0) rfl k_) ?_
  obtain ⟨T1, h1, k1, X1, e1, E1, A1, st1⟩ := newP X0 hx hZ (wd hw 19 rfl) e0 (g := (mkF m 1 #[.val (.ref a), .val (.int (0 : Int32)), .val (.int (2 : Int32)), .unset, .unset, .unset] [(.int (2 : Int32))])) rfl (hb hby d19_1) rfl (by decide) (cap := 2) (by decide) (by decide) (by decide) (by decide)
  obtain ⟨b1, g1⟩ : ∃ z, z = h0.size := ⟨_, rfl⟩
  rw [← g1] at A1 st1
  have ne_a_b1 : a ≠ b1 := Nat.ne_of_lt (Nat.lt_of_lt_of_le V_a.lt (Nat.le_of_eq g1.symm))
  have g_b1 : n0 ≤ b1 := Nat.le_trans Z0 (Nat.le_of_eq g1.symm)
  have sz_b1 : h0.size ≤ b1 := Nat.le_trans K0.1 (Nat.le_of_eq g1.symm)
  replace Z0 := Nat.le_trans Z0 E1.1
  replace K0 := K0.ext E1
  replace O0 := O0.ext E1
  replace V_a := V_a.ext E1
  have V_b1 : Arv Z h1 b1 k1 .byte (2 : Int32) [(.int (0 : Int32)), (.int (0 : Int32))] (.int (0 : Int32)) := (Arv.new A1 (by decide)).pad (pad_rep [] (.int (0 : Int32)) 2)
  refine Go.st (pc' := 3) (S' := [(.ref b1)]) st1 ?_
  refine Go.st (pc' := 4) (S' := []) (fun t_ k_ => XS.astoreN X1.here hx rfl (hb hby d19_3) rfl rfl (l' := #[.val (.ref a), .val (.int (0 : Int32)), .val (.int (2 : Int32)), .val (.ref b1), .unset, .unset]) rfl k_) ?_
  refine Go.st (pc' := 5) (S' := [(.ref a)]) (fun t_ k_ => XS.aloadN X1.here hx rfl (hb hby d19_4) rfl rfl k_) ?_
  refine Go.st (pc' := 6) (S' := [(.int (0 : Int32)), (.ref a)]) (fun t_ k_ => XS.iloadN X1.here hx rfl (hb hby d19_5) rfl k_) ?_
  refine Go.st (pc' := 7) (S' := [(.ref b1), (.int (0 : Int32)), (.ref a)]) (fun t_ k_ => XS.aloadN X1.here hx rfl (hb hby d19_6) rfl rfl k_) ?_
  refine Go.st (pc' := 8) (S' := [(.int (0 : Int32)), (.ref b1), (.int (0 : Int32)), (.ref a)]) (fun t_ k_ => XS.iconst X1.here hx rfl (hb hby d19_7) k_) ?_
  refine Go.st (pc' := 9) (S' := [(.int (2 : Int32)), (.int (0 : Int32)), (.ref b1), (.int (0 : Int32)), (.ref a)]) (fun t_ k_ => XS.iloadN X1.here hx rfl (hb hby d19_8) rfl k_) ?_
  obtain ⟨_, _, ⟨T2, L2, k2, n2⟩, -, X2, ⟨Lc2, hQ2, l2, y2, z2⟩, st2⟩ := Jvm.LawKit.callS X1 hx (y := (⟨"java/lang/StringUTF16", "compress", "([CI[BII)I"⟩ : MethodName)) hown (mvT hZ (wd hw 88 rfl)) (mvT hZ (wd hw 89 rfl)) (mvT hZ (wd hw 86 rfl)) (mvT hZ (wd hw 90 rfl)) (by decide) (backOf (W := 0) (rmcp5_2 l Z a0 hw [] a _ b1 _ (x0) (x1) h1 n0 Z0 V_a V_b1 g_b1 ne_a_b1 hU) hZ (wd hw 90 rfl) (wd hw 86 rfl) (by decide) (by decide)) (g := (mkF m 9 #[.val (.ref a), .val (.int (0 : Int32)), .val (.int (2 : Int32)), .val (.ref b1), .unset, .unset] [(.int (2 : Int32)), (.int (0 : Int32)), (.ref b1), (.int (0 : Int32)), (.ref a)])) rfl (by rw [hml]; rfl) (argsL := [(.ref a), (.int (0 : Int32)), (.ref b1), (.int (0 : Int32)), (.int (2 : Int32))]) (rest := []) (lenOf pd_18 rfl) rfl (by show 2 * 0 + _ ≤ _; exact Nat.le_of_eq rfl) (hb hby d19_9) (fun _ _ => ⟨rfl, e1, (by decide : 1 + 0 ≤ _), (by decide : 2 + 0 ≤ _)⟩)
  dsimp only [Pt.U, Pt.locs, Pt.cells, Pt.slots] at X2 l2 y2 z2 st2 hQ2
  subst l2 y2 z2
  obtain ⟨rc, rfl, hr, N2q, K2⟩ := hQ2
  have N2 := Fr.app N0 N2q
  obtain ⟨h2, e2⟩ : ∃ z, T2.heap = z := ⟨_, rfl⟩
  rw [e2] at K2
  replace Z0 := Nat.le_trans Z0 K2.1
  replace K0 := K0.trans K2 (allS (Or.inr sz_b1) all0)
  replace O0 := O0.keep K2 (allS g_b1 all0)
  replace V_a := V_a.keep K2 (ninS ne_a_b1 nin0)
  refine Go.st (pc' := 12) (S' := [(.int rc)]) st2 ?_
  refine Go.st (pc' := 14) (S' := []) (fun t_ k_ => XS.istore X2.here hx rfl (hb hby d19_12) rfl (l' := #[.val (.ref a), .val (.int (0 : Int32)), .val (.int (2 : Int32)), .val (.ref b1), .val (.int rc), .unset]) rfl k_) ?_
  refine Go.st (pc' := 16) (S' := [(.int rc)]) (fun t_ k_ => XS.iload X2.here hx rfl (hb hby d19_14) rfl k_) ?_
  refine Go.st (pc' := 17) (S' := [(.int (2 : Int32)), (.int rc)]) (fun t_ k_ => XS.iloadN X2.here hx rfl (hb hby d19_16) rfl k_) ?_
  refine Go.st (pc' := 20) (S' := []) (fun t_ k_ => XS.icmpNo X2.here hx rfl (hb hby d19_17) rfl (feq (by rcases hr with ⟨zr, gx⟩ | ⟨zr, gx⟩ <;> rw [zr] <;> decide : ¬ (rc = (2 : Int32)))).1 k_) ?_
  refine Go.st (pc' := 21) (S' := [(.ref a)]) (fun t_ k_ => XS.aloadN X2.here hx rfl (hb hby d19_20) rfl rfl k_) ?_
  refine Go.st (pc' := 22) (S' := [(.int (0 : Int32)), (.ref a)]) (fun t_ k_ => XS.iloadN X2.here hx rfl (hb hby d19_21) rfl k_) ?_
  refine Go.st (pc' := 23) (S' := [(.int (2 : Int32)), (.int (0 : Int32)), (.ref a)]) (fun t_ k_ => XS.iloadN X2.here hx rfl (hb hby d19_22) rfl k_) ?_
  obtain ⟨_, _, ⟨T3, L3, k3, n3⟩, -, X3, ⟨Lc3, hQ3, l3, y3, z3⟩, st3⟩ := Jvm.LawKit.callS X2 hx (y := (⟨"java/lang/StringUTF16", "toBytes", "([CII)[B"⟩ : MethodName)) hown (mvT hZ (wd hw 95 rfl)) (mvT hZ (wd hw 96 rfl)) (mvT hZ (wd hw 86 rfl)) (mvT hZ (wd hw 97 rfl)) (by decide) (backOf (W := 0) (rmtoB2 l Z a0 hw [] a _ (x0) (x1) h2 n0 Z0 SD SH SL O0 V_a) hZ (wd hw 97 rfl) (wd hw 86 rfl) (by decide) (by decide)) (g := (mkF m 23 #[.val (.ref a), .val (.int (0 : Int32)), .val (.int (2 : Int32)), .val (.ref b1), .val (.int rc), .unset] [(.int (2 : Int32)), (.int (0 : Int32)), (.ref a)])) rfl (by rw [hml]; rfl) (argsL := [(.ref a), (.int (0 : Int32)), (.int (2 : Int32))]) (rest := []) (lenOf pd_21 rfl) rfl (by show 2 * 0 + _ ≤ _; exact Nat.le_of_eq rfl) (hb hby d19_23) (fun _ _ => ⟨rfl, e2, (by decide : 1 + 1 ≤ _), (by decide : 2 + 4 ≤ _)⟩)
  dsimp only [Pt.U, Pt.locs, Pt.cells, Pt.slots] at X3 l3 y3 z3 st3 hQ3
  subst l3 y3 z3
  obtain ⟨bu3, kb3, rfl, N3q, K3, g_bu3, lt3, Vb3⟩ := hQ3
  have N3 := Fr.app N2 N3q
  have ne_a_bu3 : a ≠ bu3 := Nat.ne_of_lt (Nat.lt_of_lt_of_le V_a.lt lt3)
  have sz_bu3 : h0.size ≤ bu3 := Nat.le_trans K0.1 lt3
  obtain ⟨h3, e3⟩ : ∃ z, T3.heap = z := ⟨_, rfl⟩
  rw [e3] at K3 Vb3
  replace Z0 := Nat.le_trans Z0 K3.1
  replace K0 := K0.trans K3 all0
  replace O0 := O0.keep K3 all0
  replace V_a := V_a.keep K3 nin0
  refine Go.st (pc' := 26) (S' := [(.ref bu3)]) st3 ?_
  refine Go.st (pc' := 28) (S' := []) (fun t_ k_ => XS.astore X3.here hx rfl (hb hby d19_26) rfl rfl (l' := #[.val (.ref a), .val (.int (0 : Int32)), .val (.int (2 : Int32)), .val (.ref b1), .val (.int rc), .val (.ref bu3)]) rfl k_) ?_
  refine Go.st (pc' := 30) (S' := [(.ref bu3)]) (fun t_ k_ => XS.aload X3.here hx rfl (hb hby d19_28) rfl rfl k_) ?_
  refine Go.st (pc' := 32) (S' := [(.int rc), (.ref bu3)]) (fun t_ k_ => XS.iload X3.here hx rfl (hb hby d19_30) rfl k_) ?_
  rcases hr with ⟨zr, gx⟩ | ⟨zr, gx⟩
  · subst zr
    obtain ⟨_, _, ⟨T4, L4, k4, n4⟩, -, X4, ⟨Lc4, hQ4, l4, y4, z4⟩, st4⟩ := Jvm.LawKit.callS X3 hx (y := (⟨"java/lang/StringUTF16", "getChar", "([BI)C"⟩ : MethodName)) hown (mvT hZ (wd hw 111 rfl)) (mvT hZ (wd hw 112 rfl)) (mvT hZ (wd hw 86 rfl)) (mvT hZ (wd hw 113 rfl)) (by decide) (backOf (W := 0) (rmgetc2_0 l Z a0 hw [] bu3 _ ((own_lo x0)) ((own_hi x0)) ((own_lo x1)) ((own_hi x1)) h3 n0 Z0 SD SH SL O0 Vb3) hZ (wd hw 113 rfl) (wd hw 86 rfl) (by decide) (by decide)) (g := (mkF m 32 #[.val (.ref a), .val (.int (0 : Int32)), .val (.int (2 : Int32)), .val (.ref b1), .val (.int (0 : Int32)), .val (.ref bu3)] [(.int (0 : Int32)), (.ref bu3)])) rfl (by rw [hml]; rfl) (argsL := [(.ref bu3), (.int (0 : Int32))]) (rest := []) (lenOf pd_10 rfl) rfl (by show 2 * 0 + _ ≤ _; exact Nat.le_of_eq rfl) (hb hby d19_32) (fun _ _ => ⟨rfl, e3, (by decide : 2 + 0 ≤ _), (by decide : 6 + 0 ≤ _)⟩)
    dsimp only [Pt.U, Pt.locs, Pt.cells, Pt.slots] at X4 l4 y4 z4 st4 hQ4
    subst l4 y4 z4
    obtain ⟨rc4, rfl, hr4, N4q, e4⟩ := hQ4
    have N4 := Fr.app N3 N4q
    replace hr4 : rc4 = x0 := hr4.trans (by rw [own_gc _ bd0.1 bd0.2, own_nch0 _ bd0.1 bd0.2])
    subst rc4
    refine Go.st (pc' := 35) (S' := [(.int x0)]) st4 ?_
    refine Go.st (pc' := 38) (S' := [(.int (255 : Int32)), (.int x0)]) (fun t_ k_ => XS.sipush X4.here hx rfl (hb hby d19_35) k_) ?_
    refine Go.st (pc' := 54) (S' := []) (fun t_ k_ => XS.icmpYes X4.here hx rfl (pc0 := 38) (pc' := 54) rfl (hb hby d19_38) rfl (tlt (gx : ((255 : Int32) < x0))).2.2.1 (by decide) (by decide) k_) ?_
    refine Go.st (pc' := 56) (S' := [(.ref bu3)]) (fun t_ k_ => XS.aload X4.here hx rfl (hb hby d19_54) rfl rfl k_) ?_
    exact Go.retO X4 hx hlk hret rfl (by simp [FieldType.isReference, Value.isRef]) (hb hby d19_56) (by decide) (by decide) (by rw [e4]; exact ⟨bu3, _, rfl, N4, K0, g_bu3, sz_bu3, Vb3⟩)
  · subst zr
    obtain ⟨_, _, ⟨T5, L5, k5, n5⟩, -, X5, ⟨Lc5, hQ5, l5, y5, z5⟩, st5⟩ := Jvm.LawKit.callS X3 hx (y := (⟨"java/lang/StringUTF16", "getChar", "([BI)C"⟩ : MethodName)) hown (mvT hZ (wd hw 111 rfl)) (mvT hZ (wd hw 112 rfl)) (mvT hZ (wd hw 86 rfl)) (mvT hZ (wd hw 113 rfl)) (by decide) (backOf (W := 0) (rmgetc2_1 l Z a0 hw [] bu3 _ ((own_lo x0)) ((own_hi x0)) ((own_lo x1)) ((own_hi x1)) h3 n0 Z0 SD SH SL O0 Vb3) hZ (wd hw 113 rfl) (wd hw 86 rfl) (by decide) (by decide)) (g := (mkF m 32 #[.val (.ref a), .val (.int (0 : Int32)), .val (.int (2 : Int32)), .val (.ref b1), .val (.int (1 : Int32)), .val (.ref bu3)] [(.int (1 : Int32)), (.ref bu3)])) rfl (by rw [hml]; rfl) (argsL := [(.ref bu3), (.int (1 : Int32))]) (rest := []) (lenOf pd_10 rfl) rfl (by show 2 * 0 + _ ≤ _; exact Nat.le_of_eq rfl) (hb hby d19_32) (fun _ _ => ⟨rfl, e3, (by decide : 2 + 0 ≤ _), (by decide : 6 + 0 ≤ _)⟩)
    dsimp only [Pt.U, Pt.locs, Pt.cells, Pt.slots] at X5 l5 y5 z5 st5 hQ5
    subst l5 y5 z5
    obtain ⟨rc5, rfl, hr5, N5q, e5⟩ := hQ5
    have N5 := Fr.app N3 N5q
    replace hr5 : rc5 = x1 := hr5.trans (by rw [own_gc _ bd1.1 bd1.2, own_nch0 _ bd1.1 bd1.2])
    subst rc5
    refine Go.st (pc' := 35) (S' := [(.int x1)]) st5 ?_
    refine Go.st (pc' := 38) (S' := [(.int (255 : Int32)), (.int x1)]) (fun t_ k_ => XS.sipush X5.here hx rfl (hb hby d19_35) k_) ?_
    refine Go.st (pc' := 54) (S' := []) (fun t_ k_ => XS.icmpYes X5.here hx rfl (pc0 := 38) (pc' := 54) rfl (hb hby d19_38) rfl (tlt (gx : ((255 : Int32) < x1))).2.2.1 (by decide) (by decide) k_) ?_
    refine Go.st (pc' := 56) (S' := [(.ref bu3)]) (fun t_ k_ => XS.aload X5.here hx rfl (hb hby d19_54) rfl rfl k_) ?_
    exact Go.retO X5 hx hlk hret rfl (by simp [FieldType.isReference, Value.isRef]) (hb hby d19_56) (by decide) (by decide) (by rw [e5]; exact ⟨bu3, _, rfl, N5, K0, g_bu3, sz_bu3, Vb3⟩)
theorem d21_0 : decode jdk_52_method_15_code 0 = .ok (.iload_n 1, 1) := by decide +kernel
theorem d21_1 : decode jdk_52_method_15_code 1 = .ok (.aload_n 0, 1) := by decide +kernel
theorem d21_2 : decode jdk_52_method_15_code 2 = .ok (.arraylength, 1) := by decide +kernel
theorem d21_3 : decode jdk_52_method_15_code 3 = .ok (.isub, 1) := by decide +kernel
theorem d21_4 : decode jdk_52_method_15_code 4 = .ok (.bipush 31, 2) := by decide +kernel
theorem d21_6 : decode jdk_52_method_15_code 6 = .ok (.iushr, 1) := by decide +kernel
theorem d21_7 : decode jdk_52_method_15_code 7 = .ok (.i2b, 1) := by decide +kernel
theorem d21_8 : decode jdk_52_method_15_code 8 = .ok (.ireturn, 1) := by decide +kernel
def Qcfal2 (Z : State) (b : Addr) (kb : ClassId) (y0 : Int32) (y1 : Int32) (y2 : Int32) (y3 : Int32) (h0 : Heap) (n0 : Nat) (v : Option Value) (h : Heap) (L : List Loc) : Prop := v = some (.int 1) ∧ Fr n0 L ∧ h = h0
def roomcfal2 : Room := { frames := 0, cells := 0, slots := 0, locals := 0 }
theorem rmcfal2 (l : Launch) (Z : State) (a0 : Array Value) (hw : ∀ d ∈ tables_1, d.before a0 Z = true) (ws : List Jvm.Cond) (b : Addr) (kb : ClassId) (y0 : Int32) (y1 : Int32) (y2 : Int32) (y3 : Int32) (h0 : Heap) (n0 : Nat) (Z0 : n0 ≤ h0.size) (V_b : Arv Z h0 b kb .byte (4 : Int32) [(.int y0), (.int y1), (.int y2), (.int y3)] (.int (0 : Int32))) :
    OMet l (⟨"java/lang/StringUTF16", "coderFromArrayLen", "([BI)B"⟩ : MethodName) jdk_52_method_15_code 2 (some .byte) ws roomcfal2 #[(.ref b), (.int (2 : Int32))] Z h0 (Qcfal2 Z b kb y0 y1 y2 y3 h0 n0) := by
  refine own_met (Q := (Qcfal2 Z b kb y0 y1 y2 y3 h0 n0)) (L0 := #[.val (.ref b), .val (.int (2 : Int32))]) (plainFor_of_name pn_6) (fun m => by first | (simp [entryFrame, mkF, argsToLocals, Value.category]; done) | rfl) ?_
  intro p e s m below meth c T0 X0 hx hby hml hown hnm hret hlk hZ e0
  have N0 := Fr.nil n0
  refine Go.st (pc' := 1) (S' := [(.int (2 : Int32))]) (fun t_ k_ => XS.iloadN X0.here hx rfl (hb hby d21_0) rfl k_) ?_
  refine Go.st (pc' := 2) (S' := [(.ref b), (.int (2 : Int32))]) (fun t_ k_ => XS.aloadN X0.here hx rfl (hb hby d21_1) rfl rfl k_) ?_
  obtain ⟨cl1, Ar1, -, q1a, q1b, -, -⟩ := id V_b
  refine Go.st (pc' := 3) (S' := [(.int (4 : Int32)), (.int (2 : Int32))]) (fun t_ k_ => own_len X0 hx hZ e0 Ar1 q1a q1b (g := (mkF m 2 #[.val (.ref b), .val (.int (2 : Int32))] [(.ref b), (.int (2 : Int32))])) rfl rfl (hb hby d21_2) t_ k_) ?_
  refine Go.st (pc' := 4) (S' := [(.int ((2 : Int32) - (4 : Int32)))]) (fun t_ k_ => XS.isub X0.here hx rfl (hb hby d21_3) rfl k_) ?_
  rw [show ((2 : Int32) - (4 : Int32)) = (-2 : Int32) from by decide]
  refine Go.st (pc' := 6) (S' := [(.int (31 : Int32)), (.int (-2 : Int32))]) (fun t_ k_ => XS.bipush X0.here hx rfl (hb hby d21_4) k_) ?_
  refine Go.st (pc' := 7) (S' := [(.int (((-2 : Int32).toUInt32 >>> ((31 : Int32) &&& 31).toUInt32).toInt32))]) (fun t_ k_ => XS.iushr X0.here hx rfl (hb hby d21_6) rfl k_) ?_
  rw [show (((-2 : Int32).toUInt32 >>> ((31 : Int32) &&& 31).toUInt32).toInt32) = (1 : Int32) from by decide]
  refine Go.st (pc' := 8) (S' := [(.int ((1 : Int32).toInt8.toInt32))]) (fun t_ k_ => XS.i2b X0.here hx rfl (hb hby d21_7) rfl k_) ?_
  rw [show ((1 : Int32).toInt8.toInt32) = (1 : Int32) from by decide]
  exact Go.retN X0 hx hlk hret (by simp) (hb hby d21_8) (by decide) (by decide) (by rw [e0]; exact ⟨rfl, N0, rfl⟩)
theorem d18_27 : decode jdk_42_method_149_code 27 = .ok (.getstatic 38, 3) := by decide +kernel
theorem d18_30 : decode jdk_42_method_149_code 30 = .ok (.ifCond .eq 28, 3) := by decide +kernel
theorem d18_33 : decode jdk_42_method_149_code 33 = .ok (.aload_n 1, 1) := by decide +kernel
theorem d18_34 : decode jdk_42_method_149_code 34 = .ok (.iload_n 2, 1) := by decide +kernel
theorem d18_35 : decode jdk_42_method_149_code 35 = .ok (.iload_n 3, 1) := by decide +kernel
theorem d18_36 : decode jdk_42_method_149_code 36 = .ok (.invokestatic 177, 3) := by decide +kernel
theorem d18_39 : decode jdk_42_method_149_code 39 = .ok (.astore 5, 2) := by decide +kernel
theorem d18_41 : decode jdk_42_method_149_code 41 = .ok (.aload_n 0, 1) := by decide +kernel
theorem d18_42 : decode jdk_42_method_149_code 42 = .ok (.aload 5, 2) := by decide +kernel
theorem d18_44 : decode jdk_42_method_149_code 44 = .ok (.iload_n 3, 1) := by decide +kernel
theorem d18_45 : decode jdk_42_method_149_code 45 = .ok (.invokestatic 47, 3) := by decide +kernel
theorem d18_48 : decode jdk_42_method_149_code 48 = .ok (.putfield 15, 3) := by decide +kernel
theorem d18_51 : decode jdk_42_method_149_code 51 = .ok (.aload_n 0, 1) := by decide +kernel
theorem d18_52 : decode jdk_42_method_149_code 52 = .ok (.aload 5, 2) := by decide +kernel
theorem d18_54 : decode jdk_42_method_149_code 54 = .ok (.putfield 9, 3) := by decide +kernel
theorem d18_57 : decode jdk_42_method_149_code 57 = .ok (.return_, 1) := by decide +kernel
theorem pd_22 : parseMethodDescriptor "([BI)B" = some ⟨[(.array .byte), .int], some .byte⟩ := by decide +kernel
def Qiu149_2 (Z : State) (a1 : Addr) (x0 : Int32) (x1 : Int32) (h0 : Heap) (n0 : Nat) (v : Option Value) (h : Heap) (L : List Loc) : Prop := ∃ (t : Addr) (kt : ClassId), v = none ∧ Fr n0 L ∧ Keep h0 h [a1] ∧ h0.size ≤ t ∧ Fld Z h a1 "java/lang/String" "coder" "B" (.int (1 : Int32)) ∧ Fld Z h a1 "java/lang/String" "value" "[B" (.ref t) ∧ Arv Z h t kt .byte (4 : Int32) [(.int (own_lo x0)), (.int (own_hi x0)), (.int (own_lo x1)), (.int (own_hi x1))] (.int (0 : Int32))
def roomiu149_2 : Room := { frames := 4, cells := 2, slots := 6, locals := 57 }
theorem rmiu149_2 (l : Launch) (Z : State) (a0 : Array Value) (hw : ∀ d ∈ tables_1, d.before a0 Z = true) (ws : List Jvm.Cond) (a1 : Addr) (a : Addr) (ka : ClassId) (gC : Int32) (x0 : Int32) (x1 : Int32) (h0 : Heap) (n0 : Nat) (Z0 : n0 ≤ h0.size) (SC : Sta Z Z.heap "java/lang/String" "COMPACT_STRINGS" "Z" (.int gC)) (PC : ¬ (gC = (0 : Int32))) (SD : Sta Z Z.heap "java/lang/StringUTF16" "$assertionsDisabled" "Z" (.int (1 : Int32))) (SH : Sta Z Z.heap "java/lang/StringUTF16" "HI_BYTE_SHIFT" "I" (.int (0 : Int32))) (SL : Sta Z Z.heap "java/lang/StringUTF16" "LO_BYTE_SHIFT" "I" (.int (8 : Int32))) (O0 : Old Z n0 h0) (E_a1 : Exa Z h0 a1 "java/lang/String") (g_a1 : n0 ≤ a1) (F_value : Fld Z h0 a1 "java/lang/String" "value" "[B" .null) (F_coder : Fld Z h0 a1 "java/lang/String" "coder" "B" (.int (0 : Int32))) (n1 : a1 ≠ a) (V_a : Arv Z h0 a ka .char (2 : Int32) [(.int x0), (.int x1)] (.int (0 : Int32))) (bd0 : ¬ x0 < 0 ∧ ¬ (65535 : Int32) < x0) (bd1 : ¬ x1 < 0 ∧ ¬ (65535 : Int32) < x1) (hU : (255 : Int32) < x0 ∨ (255 : Int32) < x1) :
    OMet l (⟨"java/lang/String", "<init>", "([CIILjava/lang/Void;)V"⟩ : MethodName) jdk_42_method_149_code 6 none ws roomiu149_2 #[(.ref a1), (.ref a), (.int (0 : Int32)), (.int (2 : Int32)), .null] Z h0 (Qiu149_2 Z a1 x0 x1 h0 n0) := by
  refine own_met (Q := (Qiu149_2 Z a1 x0 x1 h0 n0)) (L0 := #[.val (.ref a1), .val (.ref a), .val (.int (0 : Int32)), .val (.int (2 : Int32)), .val .null, .unset]) (plainFor_of_name pn_0) (fun m => by first | (simp [entryFrame, mkF, argsToLocals, Value.category]; done) | rfl) ?_
  intro p e s m below meth c T0 X0 hx hby hml hown hnm hret hlk hZ e0
  have N0 := Fr.nil n0
  have K0 := Keep.refl h0 [a1]
  refine Go.st (pc' := 1) (S' := [(.ref a1)]) (fun t_ k_ => XS.aloadN X0.here hx rfl (hb hby d18_0) rfl rfl k_) ?_
  obtain ⟨T1, X1, e1, st1⟩ := initO X0 hx hZ hown (wd hw 24 rfl) (wd hw 25 rfl) (wd hw 26 rfl) e0 (g := (mkF m 1 #[.val (.ref a1), .val (.ref a), .val (.int (0 : Int32)), .val (.int (2 : Int32)), .val .null, .unset] [(.ref a1)])) rfl (by rw [hml]; rfl) rfl (hb hby d18_1) (by decide) (W := 0) (by show 2 * 0 + _ ≤ _; exact Nat.le_of_eq rfl) (by decide)
  refine Go.st (pc' := 4) (S' := []) st1 ?_
  refine Go.st (pc' := 5) (S' := [(.int (2 : Int32))]) (fun t_ k_ => XS.iloadN X1.here hx rfl (hb hby d18_4) rfl k_) ?_
  refine Go.st (pc' := 27) (S' := []) (fun t_ k_ => XS.ifYes X1.here hx rfl (pc0 := 5) (pc' := 27) rfl (hb hby d18_5) rfl ((if0 _ _).trans (feq (by decide : ¬ ((2 : Int32) = (0 : Int32)))).2) (by decide) (by decide) k_) ?_
  obtain ⟨T2, X2, e2, st2⟩ := getS2 X1 hx hZ hown (host := "") (Or.inl (wd hw 9 rfl)) Via.refl e1 (SC.ext O0.2) (g := (mkF m 27 #[.val (.ref a1), .val (.ref a), .val (.int (0 : Int32)), .val (.int (2 : Int32)), .val .null, .unset] [])) rfl (hb hby d18_27)
  refine Go.st (pc' := 30) (S' := [(.int gC)]) st2 ?_
  refine Go.st (pc' := 33) (S' := []) (fun t_ k_ => XS.ifNo X2.here hx rfl (hb hby d18_30) rfl ((if0 _ _).trans (feq (PC : ¬ (gC = (0 : Int32)))).1) k_) ?_
  refine Go.st (pc' := 34) (S' := [(.ref a)]) (fun t_ k_ => XS.aloadN X2.here hx rfl (hb hby d18_33) rfl rfl k_) ?_
  refine Go.st (pc' := 35) (S' := [(.int (0 : Int32)), (.ref a)]) (fun t_ k_ => XS.iloadN X2.here hx rfl (hb hby d18_34) rfl k_) ?_
  refine Go.st (pc' := 36) (S' := [(.int (2 : Int32)), (.int (0 : Int32)), (.ref a)]) (fun t_ k_ => XS.iloadN X2.here hx rfl (hb hby d18_35) rfl k_) ?_
  obtain ⟨_, _, ⟨T3, L3, k3, n3⟩, -, X3, ⟨Lc3, hQ3, l3, y3, z3⟩, st3⟩ := Jvm.LawKit.callS X2 hx (y := (⟨"java/lang/StringUTF16", "compress", "([CII)[B"⟩ : MethodName)) hown (mvT hZ (wd hw 84 rfl)) (mvT hZ (wd hw 85 rfl)) (mvT hZ (wd hw 86 rfl)) (mvT hZ (wd hw 87 rfl)) (by decide) (backOf (W := 0) (rmcp3_2 l Z a0 hw [] a _ (x0) (x1) h0 n0 Z0 SD SH SL O0 V_a bd0 bd1 hU) hZ (wd hw 87 rfl) (wd hw 86 rfl) (by decide) (by decide)) (g := (mkF m 36 #[.val (.ref a1), .val (.ref a), .val (.int (0 : Int32)), .val (.int (2 : Int32)), .val .null, .unset] [(.int (2 : Int32)), (.int (0 : Int32)), (.ref a)])) rfl (by rw [hml]; rfl) (argsL := [(.ref a), (.int (0 : Int32)), (.int (2 : Int32))]) (rest := []) (lenOf pd_21 rfl) rfl (by show 2 * 0 + _ ≤ _; exact Nat.le_of_eq rfl) (hb hby d18_36) (fun _ _ => ⟨rfl, e2, (by decide : 0 + 2 ≤ _), (by decide : 0 + 6 ≤ _)⟩)
  dsimp only [Pt.U, Pt.locs, Pt.cells, Pt.slots] at X3 l3 y3 z3 st3 hQ3
  subst l3 y3 z3
  obtain ⟨bu3, kb3, rfl, N3q, K3, g_bu3, lt3, Vb3⟩ := hQ3
  have N3 := Fr.app N0 N3q
  have ne_a1_bu3 : a1 ≠ bu3 := Nat.ne_of_lt (Nat.lt_of_lt_of_le E_a1.lt lt3)
  have ne_a_bu3 : a ≠ bu3 := Nat.ne_of_lt (Nat.lt_of_lt_of_le V_a.lt lt3)
  have sz_bu3 : h0.size ≤ bu3 := Nat.le_trans K0.1 lt3
  obtain ⟨h3, e3⟩ : ∃ z, T3.heap = z := ⟨_, rfl⟩
  rw [e3] at K3 Vb3
  replace Z0 := Nat.le_trans Z0 K3.1
  replace K0 := K0.trans K3 all0
  replace O0 := O0.keep K3 all0
  replace E_a1 := E_a1.keep K3
  replace F_value := F_value.keep K3 nin0
  replace F_coder := F_coder.keep K3 nin0
  replace V_a := V_a.keep K3 nin0
  refine Go.st (pc' := 39) (S' := [(.ref bu3)]) st3 ?_
  refine Go.st (pc' := 41) (S' := []) (fun t_ k_ => XS.astore X3.here hx rfl (hb hby d18_39) rfl rfl (l' := #[.val (.ref a1), .val (.ref a), .val (.int (0 : Int32)), .val (.int (2 : Int32)), .val .null, .val (.ref bu3)]) rfl k_) ?_
  refine Go.st (pc' := 42) (S' := [(.ref a1)]) (fun t_ k_ => XS.aloadN X3.here hx rfl (hb hby d18_41) rfl rfl k_) ?_
  refine Go.st (pc' := 44) (S' := [(.ref bu3), (.ref a1)]) (fun t_ k_ => XS.aload X3.here hx rfl (hb hby d18_42) rfl rfl k_) ?_
  refine Go.st (pc' := 45) (S' := [(.int (2 : Int32)), (.ref bu3), (.ref a1)]) (fun t_ k_ => XS.iloadN X3.here hx rfl (hb hby d18_44) rfl k_) ?_
  obtain ⟨_, _, ⟨T4, L4, k4, n4⟩, -, X4, ⟨Lc4, hQ4, l4, y4, z4⟩, st4⟩ := Jvm.LawKit.callS X3 hx (y := (⟨"java/lang/StringUTF16", "coderFromArrayLen", "([BI)B"⟩ : MethodName)) hown (mvT hZ (wd hw 91 rfl)) (mvT hZ (wd hw 92 rfl)) (mvT hZ (wd hw 86 rfl)) (mvT hZ (wd hw 93 rfl)) (by decide) (backOf (W := 1) (rmcfal2 l Z a0 hw [] bu3 _ ((own_lo x0)) ((own_hi x0)) ((own_lo x1)) ((own_hi x1)) h3 n0 Z0 Vb3) hZ (wd hw 93 rfl) (wd hw 86 rfl) (by decide) (by decide)) (g := (mkF m 45 #[.val (.ref a1), .val (.ref a), .val (.int (0 : Int32)), .val (.int (2 : Int32)), .val .null, .val (.ref bu3)] [(.int (2 : Int32)), (.ref bu3), (.ref a1)])) rfl (by rw [hml]; rfl) (argsL := [(.ref bu3), (.int (2 : Int32))]) (rest := [(.ref a1)]) (lenOf pd_22 rfl) rfl (by show 2 * 0 + _ ≤ _; exact Nat.le_of_eq rfl) (hb hby d18_45) (fun _ _ => ⟨rfl, e3, (by decide : 2 + 0 ≤ _), (by decide : 6 + 0 ≤ _)⟩)
  dsimp only [Pt.U, Pt.locs, Pt.cells, Pt.slots] at X4 l4 y4 z4 st4 hQ4
  subst l4 y4 z4
  obtain ⟨rfl, N4q, e4⟩ := hQ4
  have N4 := Fr.app N3 N4q
  refine Go.st (pc' := 48) (S' := [(.int (1 : Int32)), (.ref a1)]) st4 ?_
  obtain ⟨T5, h5, X5, e5, W5, st5⟩ := putFN X4 hx hZ hown (wd hw 29 rfl) Via.refl e4 F_coder E_a1 (Or.inr ⟨(wd hw 30 rfl), rfl, hnm⟩) (wd hw 15 rfl) (ty := .byte) (v' := (.int (1 : Int32))) (by decide) rfl rfl (g := (mkF m 48 #[.val (.ref a1), .val (.ref a), .val (.int (0 : Int32)), .val (.int (2 : Int32)), .val .null, .val (.ref bu3)] [(.int (1 : Int32)), (.ref a1)])) rfl rfl (hb hby d18_48)
  replace Z0 := Nat.le_trans Z0 (Keep.of_wr W5).1
  replace K0 := K0.wr W5 (Or.inl (List.mem_of_getElem? (i := 0) rfl))
  replace O0 := O0.wr W5 g_a1
  replace E_a1 := E_a1.wr W5
  replace F_value := F_value.other W5 (Or.inr (slot_ne (Or.inr (wd hw 28 rfl)) (Or.inr (wd hw 30 rfl)) (by decide) (t := (.array .byte)) (t' := .byte) (by decide) (by decide)))
  replace V_a := V_a.other W5 (Ne.symm n1)
  replace Vb3 := Vb3.other W5 (Ne.symm ne_a1_bu3)
  replace F_coder := F_coder.same W5
  have N5 := Fr.snoc X5 N4 g_a1
  refine Go.st (pc' := 51) (S' := []) st5 ?_
  refine Go.st (pc' := 52) (S' := [(.ref a1)]) (fun t_ k_ => XS.aloadN X5.here hx rfl (hb hby d18_51) rfl rfl k_) ?_
  refine Go.st (pc' := 54) (S' := [(.ref bu3), (.ref a1)]) (fun t_ k_ => XS.aload X5.here hx rfl (hb hby d18_52) rfl rfl k_) ?_
  obtain ⟨T6, h6, X6, e6, W6, st6⟩ := putF X5 hx hZ hown (host := "") (Or.inl (wd hw 27 rfl)) Via.refl e5 F_value E_a1 (Or.inr ⟨(wd hw 28 rfl), rfl, hnm⟩) (wd hw 15 rfl) (ty := (.array .byte)) (by decide) rfl rfl (g := (mkF m 54 #[.val (.ref a1), .val (.ref a), .val (.int (0 : Int32)), .val (.int (2 : Int32)), .val .null, .val (.ref bu3)] [(.ref bu3), (.ref a1)])) rfl rfl (hb hby d18_54)
  replace Z0 := Nat.le_trans Z0 (Keep.of_wr W6).1
  replace K0 := K0.wr W6 (Or.inl (List.mem_of_getElem? (i := 0) rfl))
  replace O0 := O0.wr W6 g_a1
  replace E_a1 := E_a1.wr W6
  replace F_coder := F_coder.other W6 (Or.inr (slot_ne (Or.inr (wd hw 30 rfl)) (Or.inr (wd hw 28 rfl)) (by decide) (t := .byte) (t' := (.array .byte)) (by decide) (by decide)))
  replace V_a := V_a.other W6 (Ne.symm n1)
  replace Vb3 := Vb3.other W6 (Ne.symm ne_a1_bu3)
  replace F_value := F_value.same W6
  have N6 := Fr.snoc X6 N5 g_a1
  refine Go.st (pc' := 57) (S' := []) st6 ?_
  exact Go.retV X6 hx hlk hret (hb hby d18_57) (by decide) (by decide) (by rw [e6]; exact ⟨bu3, _, rfl, N6, K0, sz_bu3, F_coder, F_value, Vb3⟩)

def Qiu3_2 (Z : State) (a1 : Addr) (x0 : Int32) (x1 : Int32) (h0 : Heap) (n0 : Nat) (v : Option Value) (h : Heap) (L : List Loc) : Prop := ∃ (t : Addr) (kt : ClassId), v = none ∧ Fr n0 L ∧ Keep h0 h [a1] ∧ h0.size ≤ t ∧ Fld Z h a1 "java/lang/String" "coder" "B" (.int (1 : Int32)) ∧ Fld Z h a1 "java/lang/String" "value" "[B" (.ref t) ∧ Arv Z h t kt .byte (4 : Int32) [(.int (own_lo x0)), (.int (own_hi x0)), (.int (own_lo x1)), (.int (own_hi x1))] (.int (0 : Int32))
def roomiu3_2 : Room := { frames := 5, cells := 2, slots := 6, locals := 74 }
theorem rmiu3_2 (l : Launch) (Z : State) (a0 : Array Value) (hw : ∀ d ∈ tables_1, d.before a0 Z = true) (ws : List Jvm.Cond) (a1 : Addr) (a : Addr) (ka : ClassId) (gC : Int32) (x0 : Int32) (x1 : Int32) (h0 : Heap) (n0 : Nat) (Z0 : n0 ≤ h0.size) (SC : Sta Z Z.heap "java/lang/String" "COMPACT_STRINGS" "Z" (.int gC)) (PC : ¬ (gC = (0 : Int32))) (SD : Sta Z Z.heap "java/lang/StringUTF16" "$assertionsDisabled" "Z" (.int (1 : Int32))) (SH : Sta Z Z.heap "java/lang/StringUTF16" "HI_BYTE_SHIFT" "I" (.int (0 : Int32))) (SL : Sta Z Z.heap "java/lang/StringUTF16" "LO_BYTE_SHIFT" "I" (.int (8 : Int32))) (O0 : Old Z n0 h0) (E_a1 : Exa Z h0 a1 "java/lang/String") (g_a1 : n0 ≤ a1) (F_value : Fld Z h0 a1 "java/lang/String" "value" "[B" .null) (F_coder : Fld Z h0 a1 "java/lang/String" "coder" "B" (.int (0 : Int32))) (n1 : a1 ≠ a) (V_a : Arv Z h0 a ka .char (2 : Int32) [(.int x0), (.int x1)] (.int (0 : Int32))) (bd0 : ¬ x0 < 0 ∧ ¬ (65535 : Int32) < x0) (bd1 : ¬ x1 < 0 ∧ ¬ (65535 : Int32) < x1) (hU : (255 : Int32) < x0 ∨ (255 : Int32) < x1) :
    OMet l (⟨"java/lang/String", "<init>", "([C)V"⟩ : MethodName) jdk_42_method_3_code 2 none ws roomiu3_2 #[(.ref a1), (.ref a)] Z h0 (Qiu3_2 Z a1 x0 x1 h0 n0) := by
  refine own_met (Q := (Qiu3_2 Z a1 x0 x1 h0 n0)) (L0 := #[.val (.ref a1), .val (.ref a)]) (plainFor_of_name pn_0) (fun m => by first | (simp [entryFrame, mkF, argsToLocals, Value.category]; done) | rfl) ?_
  intro p e s m below meth c T0 X0 hx hby hml hown hnm hret hlk hZ e0
  have N0 := Fr.nil n0
  have K0 := Keep.refl h0 [a1]
  refine Go.st (pc' := 1) (S' := [(.ref a1)]) (fun t_ k_ => XS.aloadN X0.here hx rfl (hb hby d17_0) rfl rfl k_) ?_
  refine Go.st (pc' := 2) (S' := [(.ref a), (.ref a1)]) (fun t_ k_ => XS.aloadN X0.here hx rfl (hb hby d17_1) rfl rfl k_) ?_
  refine Go.st (pc' := 3) (S' := [(.int (0 : Int32)), (.ref a), (.ref a1)]) (fun t_ k_ => XS.iconst X0.here hx rfl (hb hby d17_2) k_) ?_
  refine Go.st (pc' := 4) (S' := [(.ref a), (.int (0 : Int32)), (.ref a), (.ref a1)]) (fun t_ k_ => XS.aloadN X0.here hx rfl (hb hby d17_3) rfl rfl k_) ?_
  obtain ⟨cl1, Ar1, -, q1a, q1b, -, -⟩ := id V_a
  refine Go.st (pc' := 5) (S' := [(.int (2 : Int32)), (.int (0 : Int32)), (.ref a), (.ref a1)]) (fun t_ k_ => own_len X0 hx hZ e0 Ar1 q1a q1b (g := (mkF m 4 #[.val (.ref a1), .val (.ref a)] [(.ref a), (.int (0 : Int32)), (.ref a), (.ref a1)])) rfl rfl (hb hby d17_4) t_ k_) ?_
  refine Go.st (pc' := 6) (S' := [.null, (.int (2 : Int32)), (.int (0 : Int32)), (.ref a), (.ref a1)]) (fun t_ k_ => XS.aconstNull X0.here hx rfl (hb hby d17_5) k_) ?_
  obtain ⟨_, _, ⟨T2, L2, k2, n2⟩, -, X2, ⟨Lc2, hQ2, l2, y2, z2⟩, st2⟩ := X0.specialBack hx (y := (⟨"java/lang/String", "<init>", "([CIILjava/lang/Void;)V"⟩ : MethodName)) rfl hown (mvT hZ (wd hw 81 rfl)) (mvT hZ (wd hw 82 rfl)) (mvT hZ (wd hw 83 rfl)) (by decide) (backOf (W := 0) (rmiu149_2 l Z a0 hw [] a1 a _ gC (x0) (x1) h0 n0 Z0 SC PC SD SH SL O0 E_a1 g_a1 F_value F_coder n1 V_a bd0 bd1 hU) hZ (wd hw 83 rfl) (wd hw 7 rfl) (by decide) (by decide)) (g := (mkF m 6 #[.val (.ref a1), .val (.ref a)] [.null, (.int (2 : Int32)), (.int (0 : Int32)), (.ref a), (.ref a1)])) rfl (by rw [hml]; rfl) (Steps.refl _) (a := a1) (argsL := [(.ref a), (.int (0 : Int32)), (.int (2 : Int32)), .null]) (rest := []) (lenOf pd_0 rfl) rfl (by show 2 * 0 + _ ≤ _; exact Nat.le_of_eq rfl) (hb hby d17_6) (fun _ _ => ⟨rfl, e0, (by decide : 0 + 2 ≤ _), (by decide : 0 + 6 ≤ _)⟩)
  dsimp only [Pt.U, Pt.locs, Pt.cells, Pt.slots] at X2 l2 y2 z2 st2 hQ2
  subst l2 y2 z2
  obtain ⟨tu2, kt2, rfl, N2q, K2, lt2, Co2, Va2, Vt2⟩ := hQ2
  have N2 := Fr.app N0 N2q
  have ne_a1_tu2 : a1 ≠ tu2 := Nat.ne_of_lt (Nat.lt_of_lt_of_le E_a1.lt lt2)
  have ne_a_tu2 : a ≠ tu2 := Nat.ne_of_lt (Nat.lt_of_lt_of_le V_a.lt lt2)
  have sz_tu2 : h0.size ≤ tu2 := Nat.le_trans K0.1 lt2
  obtain ⟨h2, e2⟩ : ∃ z, T2.heap = z := ⟨_, rfl⟩
  rw [e2] at K2 Co2 Va2 Vt2
  replace Z0 := Nat.le_trans Z0 K2.1
  replace K0 := K0.trans K2 (allS (Or.inl (List.mem_of_getElem? (i := 0) rfl)) all0)
  replace O0 := O0.keep K2 (allS g_a1 all0)
  replace E_a1 := E_a1.keep K2
  replace V_a := V_a.keep K2 (ninS (Ne.symm n1) nin0)
  refine Go.tr (pc' := 9) (S' := []) st2 ?_
  exact Go.retV X2 hx hlk hret (hb hby d17_9) (by decide) (by decide) (by rw [e2]; exact ⟨tu2, _, rfl, N2, K0, sz_tu2, Co2, Va2, Vt2⟩)

def Qcp5_3 (Z : State) (b : Addr) (x0 : Int32) (x1 : Int32) (x2 : Int32) (h0 : Heap) (n0 : Nat) (v : Option Value) (h : Heap) (L : List Loc) : Prop := ∃ r : Int32, v = some (.int r) ∧ ((r = 0 ∧ (255 : Int32) < x0) ∨ (r = 1 ∧ (255 : Int32) < x1) ∨ (r = 2 ∧ (255 : Int32) < x2)) ∧ Fr n0 L ∧ Keep h0 h [b]
def roomcp5_3 : Room := { frames := 0, cells := 0, slots := 0, locals := 0 }
theorem rmcp5_3 (l : Launch) (Z : State) (a0 : Array Value) (hw : ∀ d ∈ tables_1, d.before a0 Z = true) (ws : List Jvm.Cond) (a : Addr) (ka : ClassId) (b : Addr) (kb : ClassId) (x0 : Int32) (x1 : Int32) (x2 : Int32) (h0 : Heap) (n0 : Nat) (Z0 : n0 ≤ h0.size) (V_a : Arv Z h0 a ka .char (3 : Int32) [(.int x0), (.int x1), (.int x2)] (.int (0 : Int32))) (V_b : Arv Z h0 b kb .byte (3 : Int32) [(.int (0 : Int32)), (.int (0 : Int32)), (.int (0 : Int32))] (.int (0 : Int32))) (g_b : n0 ≤ b) (nab : a ≠ b) (hU : (255 : Int32) < x0 ∨ (255 : Int32) < x1 ∨ (255 : Int32) < x2) :
    OMet l (⟨"java/lang/StringUTF16", "compress", "([CI[BII)I"⟩ : MethodName) jdk_52_method_21_code 7 (some .int) ws roomcp5_3 #[(.ref a), (.int (0 : Int32)), (.ref b), (.int (0 : Int32)), (.int (3 : Int32))] Z h0 (Qcp5_3 Z b x0 x1 x2 h0 n0) := by
  refine own_met (Q := (Qcp5_3 Z b x0 x1 x2 h0 n0)) (L0 := #[.val (.ref a), .val (.int (0 : Int32)), .val (.ref b), .val (.int (0 : Int32)), .val (.int (3 : Int32)), .unset, .unset]) (plainFor_of_name pn_6) (fun m => by first | (simp [entryFrame, mkF, argsToLocals, Value.category]; done) | rfl) ?_
  intro p e s m below meth c T0 X0 hx hby hml hown hnm hret hlk hZ e0
  have N0 := Fr.nil n0
  have K0 := Keep.refl h0 [b]
  refine Go.st (pc' := 1) (S' := [(.int (0 : Int32))]) (fun t_ k_ => XS.iconst X0.here hx rfl (hb hby d20_0) k_) ?_
  refine Go.st (pc' := 3) (S' := []) (fun t_ k_ => XS.istore X0.here hx rfl (hb hby d20_1) rfl (l' := #[.val (.ref a), .val (.int (0 : Int32)), .val (.ref b), .val (.int (0 : Int32)), .val (.int (3 : Int32)), .val (.int (0 : Int32)), .unset]) rfl k_) ?_
  refine Go.st (pc' := 5) (S' := [(.int (0 : Int32))]) (fun t_ k_ => XS.iload X0.here hx rfl (hb hby d20_3) rfl k_) ?_
  refine Go.st (pc' := 7) (S' := [(.int (3 : Int32)), (.int (0 : Int32))]) (fun t_ k_ => XS.iload X0.here hx rfl (hb hby d20_5) rfl k_) ?_
  refine Go.st (pc' := 10) (S' := []) (fun t_ k_ => XS.icmpNo X0.here hx rfl (hb hby d20_7) rfl (tlt (by decide : ((0 : Int32) < (3 : Int32)))).2.1 k_) ?_
  refine Go.st (pc' := 11) (S' := [(.ref a)]) (fun t_ k_ => XS.aloadN X0.here hx rfl (hb hby d20_10) rfl rfl k_) ?_
  refine Go.st (pc' := 12) (S' := [(.int (0 : Int32)), (.ref a)]) (fun t_ k_ => XS.iloadN X0.here hx rfl (hb hby d20_11) rfl k_) ?_
  obtain ⟨cl1, Ar1, -, q1a, q1b, q1c, q1d⟩ := id V_a
  refine Go.st (pc' := 13) (S' := [(.int x0)]) (fun t_ k_ => X0.caload hx (j := (0 : Int32)) (v := (.int x0)) (by rw [e0]; exact Ar1.1) (State.isArrayOf_alike hZ.alike Ar1.2.1) Ar1.2.2 (inb_of q1a ⟨by decide, by decide⟩) (q1c.at (inb_of q1a ⟨by decide, by decide⟩) rfl) (g := (mkF m 12 #[.val (.ref a), .val (.int (0 : Int32)), .val (.ref b), .val (.int (0 : Int32)), .val (.int (3 : Int32)), .val (.int (0 : Int32)), .unset] [(.int (0 : Int32)), (.ref a)])) rfl rfl (hb hby d20_12) t_ k_) ?_
  refine Go.st (pc' := 15) (S' := []) (fun t_ k_ => XS.istore X0.here hx rfl (hb hby d20_13) rfl (l' := #[.val (.ref a), .val (.int (0 : Int32)), .val (.ref b), .val (.int (0 : Int32)), .val (.int (3 : Int32)), .val (.int (0 : Int32)), .val (.int x0)]) rfl k_) ?_
  refine Go.st (pc' := 17) (S' := [(.int x0)]) (fun t_ k_ => XS.iload X0.here hx rfl (hb hby d20_15) rfl k_) ?_
  refine Go.st (pc' := 20) (S' := [(.int (255 : Int32)), (.int x0)]) (fun t_ k_ => XS.sipush X0.here hx rfl (hb hby d20_17) k_) ?_
  by_cases hc20_2 : (255 : Int32) < x0
  · refine Go.st (pc' := 23) (S' := []) (fun t_ k_ => XS.icmpNo X0.here hx rfl (hb hby d20_20) rfl (tlt hc20_2).2.2.2 k_) ?_
    refine Go.st (pc' := 25) (S' := [(.int (0 : Int32))]) (fun t_ k_ => XS.iload X0.here hx rfl (hb hby d20_23) rfl k_) ?_
    exact Go.retO X0 hx hlk hret rfl (by simp [FieldType.isReference, Value.isRef]) (hb hby d20_25) (by decide) (by decide) (by rw [e0]; exact ⟨_, rfl, Or.inl ⟨rfl, hc20_2⟩, N0, K0⟩)
  · refine Go.st (pc' := 26) (S' := []) (fun t_ k_ => XS.icmpYes X0.here hx rfl (pc0 := 20) (pc' := 26) rfl (hb hby d20_20) rfl (flt hc20_2).2.2.2 (by decide) (by decide) k_) ?_
    refine Go.st (pc' := 27) (S' := [(.ref b)]) (fun t_ k_ => XS.aloadN X0.here hx rfl (hb hby d20_26) rfl rfl k_) ?_
    refine Go.st (pc' := 28) (S' := [(.int (0 : Int32)), (.ref b)]) (fun t_ k_ => XS.iloadN X0.here hx rfl (hb hby d20_27) rfl k_) ?_
    refine Go.st (pc' := 30) (S' := [(.int x0), (.int (0 : Int32)), (.ref b)]) (fun t_ k_ => XS.iload X0.here hx rfl (hb hby d20_28) rfl k_) ?_
    refine Go.st (pc' := 31) (S' := [(.int (x0.toInt8.toInt32)), (.int (0 : Int32)), (.ref b)]) (fun t_ k_ => XS.i2b X0.here hx rfl (hb hby d20_30) rfl k_) ?_
    obtain ⟨cl3, Ar3, q31, q32, q33, q34, q35⟩ := V_b
    obtain ⟨T3, h3, X3, e3, W3, st3⟩ := stB X0 hx hZ e0 Ar3 (j := (0 : Int32)) (inb_of q32 ⟨by decide, by decide⟩) (g := (mkF m 31 #[.val (.ref a), .val (.int (0 : Int32)), .val (.ref b), .val (.int (0 : Int32)), .val (.int (3 : Int32)), .val (.int (0 : Int32)), .val (.int x0)] [(.int (x0.toInt8.toInt32)), (.int (0 : Int32)), (.ref b)])) rfl rfl (hb hby d20_31)
    replace V_b := Arv.set Ar3 q31 q32 q33 q34 q35 (fits_nar_byte _) W3 0 rfl (Nat.le_of_ble_eq_true rfl)
    have V_b : Arv Z h3 b kb .byte (3 : Int32) [(.int (x0.toInt8.toInt32).toInt8.toInt32), (.int (0 : Int32)), (.int (0 : Int32))] (.int (0 : Int32)) := V_b
    replace Z0 := Nat.le_trans Z0 (Keep.of_wr W3).1
    replace K0 := K0.wr W3 (Or.inl (List.mem_of_getElem? (i := 0) rfl))
    replace V_a := V_a.other W3 nab
    have N3 := Fr.snoc X3 N0 g_b
    refine Go.st (pc' := 32) (S' := []) st3 ?_
    refine Go.st (pc' := 35) (S' := []) (fun t_ k_ => XS.iinc X3.here hx rfl (hb hby d20_32) rfl (l' := #[.val (.ref a), .val (.int ((0 : Int32) + (1 : Int32))), .val (.ref b), .val (.int (0 : Int32)), .val (.int (3 : Int32)), .val (.int (0 : Int32)), .val (.int x0)]) rfl k_) ?_
    rw [show ((0 : Int32) + (1 : Int32)) = (1 : Int32) from by decide]
    refine Go.st (pc' := 38) (S' := []) (fun t_ k_ => XS.iinc X3.here hx rfl (hb hby d20_35) rfl (l' := #[.val (.ref a), .val (.int (1 : Int32)), .val (.ref b), .val (.int ((0 : Int32) + (1 : Int32))), .val (.int (3 : Int32)), .val (.int (0 : Int32)), .val (.int x0)]) rfl k_) ?_
    rw [show ((0 : Int32) + (1 : Int32)) = (1 : Int32) from by decide]
    refine Go.st (pc' := 41) (S' := []) (fun t_ k_ => XS.iinc X3.here hx rfl (hb hby d20_38) rfl (l' := #[.val (.ref a), .val (.int (1 : Int32)), .val (.ref b), .val (.int (1 : Int32)), .val (.int (3 : Int32)), .val (.int ((0 : Int32) + (1 : Int32))), .val (.int x0)]) rfl k_) ?_
    rw [show ((0 : Int32) + (1 : Int32)) = (1 : Int32) from by decide]
    refine Go.st (pc' := 3) (S' := []) (fun t_ k_ => XS.goto X3.here hx rfl (pc0 := 41) (pc' := 3) rfl (hb hby d20_41) (by decide) (by decide) k_) ?_
    refine Go.st (pc' := 5) (S' := [(.int (1 : Int32))]) (fun t_ k_ => XS.iload X3.here hx rfl (hb hby d20_3) rfl k_) ?_
    refine Go.st (pc' := 7) (S' := [(.int (3 : Int32)), (.int (1 : Int32))]) (fun t_ k_ => XS.iload X3.here hx rfl (hb hby d20_5) rfl k_) ?_
    refine Go.st (pc' := 10) (S' := []) (fun t_ k_ => XS.icmpNo X3.here hx rfl (hb hby d20_7) rfl (tlt (by decide : ((1 : Int32) < (3 : Int32)))).2.1 k_) ?_
    refine Go.st (pc' := 11) (S' := [(.ref a)]) (fun t_ k_ => XS.aloadN X3.here hx rfl (hb hby d20_10) rfl rfl k_) ?_
    refine Go.st (pc' := 12) (S' := [(.int (1 : Int32)), (.ref a)]) (fun t_ k_ => XS.iloadN X3.here hx rfl (hb hby d20_11) rfl k_) ?_
    obtain ⟨cl4, Ar4, -, q4a, q4b, q4c, q4d⟩ := id V_a
    refine Go.st (pc' := 13) (S' := [(.int x1)]) (fun t_ k_ => X3.caload hx (j := (1 : Int32)) (v := (.int x1)) (by rw [e3]; exact Ar4.1) (State.isArrayOf_alike hZ.alike Ar4.2.1) Ar4.2.2 (inb_of q4a ⟨by decide, by decide⟩) (q4c.at (inb_of q4a ⟨by decide, by decide⟩) rfl) (g := (mkF m 12 #[.val (.ref a), .val (.int (1 : Int32)), .val (.ref b), .val (.int (1 : Int32)), .val (.int (3 : Int32)), .val (.int (1 : Int32)), .val (.int x0)] [(.int (1 : Int32)), (.ref a)])) rfl rfl (hb hby d20_12) t_ k_) ?_
    refine Go.st (pc' := 15) (S' := []) (fun t_ k_ => XS.istore X3.here hx rfl (hb hby d20_13) rfl (l' := #[.val (.ref a), .val (.int (1 : Int32)), .val (.ref b), .val (.int (1 : Int32)), .val (.int (3 : Int32)), .val (.int (1 : Int32)), .val (.int x1)]) rfl k_) ?_
    refine Go.st (pc' := 17) (S' := [(.int x1)]) (fun t_ k_ => XS.iload X3.here hx rfl (hb hby d20_15) rfl k_) ?_
    refine Go.st (pc' := 20) (S' := [(.int (255 : Int32)), (.int x1)]) (fun t_ k_ => XS.sipush X3.here hx rfl (hb hby d20_17) k_) ?_
    by_cases hc20_5 : (255 : Int32) < x1
    · refine Go.st (pc' := 23) (S' := []) (fun t_ k_ => XS.icmpNo X3.here hx rfl (hb hby d20_20) rfl (tlt hc20_5).2.2.2 k_) ?_
      refine Go.st (pc' := 25) (S' := [(.int (1 : Int32))]) (fun t_ k_ => XS.iload X3.here hx rfl (hb hby d20_23) rfl k_) ?_
      exact Go.retO X3 hx hlk hret rfl (by simp [FieldType.isReference, Value.isRef]) (hb hby d20_25) (by decide) (by decide) (by rw [e3]; exact ⟨_, rfl, Or.inr (Or.inl ⟨rfl, hc20_5⟩), N3, K0⟩)
    · refine Go.st (pc' := 26) (S' := []) (fun t_ k_ => XS.icmpYes X3.here hx rfl (pc0 := 20) (pc' := 26) rfl (hb hby d20_20) rfl (flt hc20_5).2.2.2 (by decide) (by decide) k_) ?_
      refine Go.st (pc' := 27) (S' := [(.ref b)]) (fun t_ k_ => XS.aloadN X3.here hx rfl (hb hby d20_26) rfl rfl k_) ?_
      refine Go.st (pc' := 28) (S' := [(.int (1 : Int32)), (.ref b)]) (fun t_ k_ => XS.iloadN X3.here hx rfl (hb hby d20_27) rfl k_) ?_
      refine Go.st (pc' := 30) (S' := [(.int x1), (.int (1 : Int32)), (.ref b)]) (fun t_ k_ => XS.iload X3.here hx rfl (hb hby d20_28) rfl k_) ?_
      refine Go.st (pc' := 31) (S' := [(.int (x1.toInt8.toInt32)), (.int (1 : Int32)), (.ref b)]) (fun t_ k_ => XS.i2b X3.here hx rfl (hb hby d20_30) rfl k_) ?_
      obtain ⟨cl6, Ar6, q61, q62, q63, q64, q65⟩ := V_b
      obtain ⟨T6, h6, X6, e6, W6, st6⟩ := stB X3 hx hZ e3 Ar6 (j := (1 : Int32)) (inb_of q62 ⟨by decide, by decide⟩) (g := (mkF m 31 #[.val (.ref a), .val (.int (1 : Int32)), .val (.ref b), .val (.int (1 : Int32)), .val (.int (3 : Int32)), .val (.int (1 : Int32)), .val (.int x1)] [(.int (x1.toInt8.toInt32)), (.int (1 : Int32)), (.ref b)])) rfl rfl (hb hby d20_31)
      replace V_b := Arv.set Ar6 q61 q62 q63 q64 q65 (fits_nar_byte _) W6 1 rfl (Nat.le_of_ble_eq_true rfl)
      have V_b : Arv Z h6 b kb .byte (3 : Int32) [(.int (x0.toInt8.toInt32).toInt8.toInt32), (.int (x1.toInt8.toInt32).toInt8.toInt32), (.int (0 : Int32))] (.int (0 : Int32)) := V_b
      replace Z0 := Nat.le_trans Z0 (Keep.of_wr W6).1
      replace K0 := K0.wr W6 (Or.inl (List.mem_of_getElem? (i := 0) rfl))
      replace V_a := V_a.other W6 nab
      have N6 := Fr.snoc X6 N3 g_b
      refine Go.st (pc' := 32) (S' := []) st6 ?_
      refine Go.st (pc' := 35) (S' := []) (fun t_ k_ => XS.iinc X6.here hx rfl (hb hby d20_32) rfl (l' := #[.val (.ref a), .val (.int ((1 : Int32) + (1 : Int32))), .val (.ref b), .val (.int (1 : Int32)), .val (.int (3 : Int32)), .val (.int (1 : Int32)), .val (.int x1)]) rfl k_) ?_
      rw [show ((1 : Int32) + (1 : Int32)) = (2 : Int32) from by decide]
      refine Go.st (pc' := 38) (S' := []) (fun t_ k_ => XS.iinc X6.here hx rfl (hb hby d20_35) rfl (l' := #[.val (.ref a), .val (.int (2 : Int32)), .val (.ref b), .val (.int ((1 : Int32) + (1 : Int32))), .val (.int (3 : Int32)), .val (.int (1 : Int32)), .val (.int x1)]) rfl k_) ?_
      rw [show ((1 : Int32) + (1 : Int32)) = (2 : Int32) from by decide]
      refine Go.st (pc' := 41) (S' := []) (fun t_ k_ => XS.iinc X6.here hx rfl (hb hby d20_38) rfl (l' := #[.val (.ref a), .val (.int (2 : Int32)), .val (.ref b), .val (.int (2 : Int32)), .val (.int (3 : Int32)), .val (.int ((1 : Int32) + (1 : Int32))), .val (.int x1)]) rfl k_) ?_
      rw [show ((1 : Int32) + (1 : Int32)) = (2 : Int32) from by decide]
      refine Go.st (pc' := 3) (S' := []) (fun t_ k_ => XS.goto X6.here hx rfl (pc0 := 41) (pc' := 3) rfl (hb hby d20_41) (by decide) (by decide) k_) ?_
      refine Go.st (pc' := 5) (S' := [(.int (2 : Int32))]) (fun t_ k_ => XS.iload X6.here hx rfl (hb hby d20_3) rfl k_) ?_
      refine Go.st (pc' := 7) (S' := [(.int (3 : Int32)), (.int (2 : Int32))]) (fun t_ k_ => XS.iload X6.here hx rfl (hb hby d20_5) rfl k_) ?_
      refine Go.st (pc' := 10) (S' := []) (fun t_ k_ => XS.icmpNo X6.here hx rfl (hb hby d20_7) rfl (tlt (by decide : ((2 : Int32) < (3 : Int32)))).2.1 k_) ?_
      refine Go.st (pc' := 11) (S' := [(.ref a)]) (fun t_ k_ => XS.aloadN X6.here hx rfl (hb hby d20_10) rfl rfl k_) ?_
      refine Go.st (pc' := 12) (S' := [(.int (2 : Int32)), (.ref a)]) (fun t_ k_ => XS.iloadN X6.here hx rfl (hb hby d20_11) rfl k_) ?_
      obtain ⟨cl7, Ar7, -, q7a, q7b, q7c, q7d⟩ := id V_a
      refine Go.st (pc' := 13) (S' := [(.int x2)]) (fun t_ k_ => X6.caload hx (j := (2 : Int32)) (v := (.int x2)) (by rw [e6]; exact Ar7.1) (State.isArrayOf_alike hZ.alike Ar7.2.1) Ar7.2.2 (inb_of q7a ⟨by decide, by decide⟩) (q7c.at (inb_of q7a ⟨by decide, by decide⟩) rfl) (g := (mkF m 12 #[.val (.ref a), .val (.int (2 : Int32)), .val (.ref b), .val (.int (2 : Int32)), .val (.int (3 : Int32)), .val (.int (2 : Int32)), .val (.int x1)] [(.int (2 : Int32)), (.ref a)])) rfl rfl (hb hby d20_12) t_ k_) ?_
      refine Go.st (pc' := 15) (S' := []) (fun t_ k_ => XS.istore X6.here hx rfl (hb hby d20_13) rfl (l' := #[.val (.ref a), .val (.int (2 : Int32)), .val (.ref b), .val (.int (2 : Int32)), .val (.int (3 : Int32)), .val (.int (2 : Int32)), .val (.int x2)]) rfl k_) ?_
      refine Go.st (pc' := 17) (S' := [(.int x2)]) (fun t_ k_ => XS.iload X6.here hx rfl (hb hby d20_15) rfl k_) ?_
      refine Go.st (pc' := 20) (S' := [(.int (255 : Int32)), (.int x2)]) (fun t_ k_ => XS.sipush X6.here hx rfl (hb hby d20_17) k_) ?_
      refine Go.st (pc' := 23) (S' := []) (fun t_ k_ => XS.icmpNo X6.here hx rfl (hb hby d20_20) rfl (tlt (((hU.resolve_left hc20_2).resolve_left hc20_5) : ((255 : Int32) < x2))).2.2.2 k_) ?_
      refine Go.st (pc' := 25) (S' := [(.int (2 : Int32))]) (fun t_ k_ => XS.iload X6.here hx rfl (hb hby d20_23) rfl k_) ?_
      exact Go.retO X6 hx hlk hret rfl (by simp [FieldType.isReference, Value.isRef]) (hb hby d20_25) (by decide) (by decide) (by rw [e6]; exact ⟨_, rfl, Or.inr (Or.inr (⟨rfl, ((hU.resolve_left hc20_2).resolve_left hc20_5)⟩)), N6, K0⟩)

def Qnbl3 (Z : State)  (h0 : Heap) (n0 : Nat) (v : Option Value) (h : Heap) (L : List Loc) : Prop := v = some (.int 6) ∧ Fr n0 L ∧ h = h0
def roomnbl3 : Room := { frames := 0, cells := 0, slots := 0, locals := 0 }
theorem rmnbl3 (l : Launch) (Z : State) (a0 : Array Value) (hw : ∀ d ∈ tables_1, d.before a0 Z = true) (ws : List Jvm.Cond)  (h0 : Heap) (n0 : Nat) (Z0 : n0 ≤ h0.size)  :
    OMet l (⟨"java/lang/StringUTF16", "newBytesLength", "(I)I"⟩ : MethodName) jdk_52_method_3_code 1 (some .int) ws roomnbl3 #[(.int (3 : Int32))] Z h0 (Qnbl3 Z  h0 n0) := by
  refine own_met (Q := (Qnbl3 Z  h0 n0)) (L0 := #[.val (.int (3 : Int32))]) (plainFor_of_name pn_6) (fun m => by first | (simp [entryFrame, mkF, argsToLocals, Value.category]; done) | rfl) ?_
  intro p e s m below meth c T0 X0 hx hby hml hown hnm hret hlk hZ e0
  have N0 := Fr.nil n0
  refine Go.st (pc' := 1) (S' := [(.int (3 : Int32))]) (fun t_ k_ => XS.iloadN X0.here hx rfl (hb hby d24_0) rfl k_) ?_
  refine Go.st (pc' := 12) (S' := []) (fun t_ k_ => XS.ifYes X0.here hx rfl (pc0 := 1) (pc' := 12) rfl (hb hby d24_1) rfl ((if0 _ _).trans (flt (by decide : ¬ ((3 : Int32) < (0 : Int32)))).2.1) (by decide) (by decide) k_) ?_
  refine Go.st (pc' := 13) (S' := [(.int (3 : Int32))]) (fun t_ k_ => XS.iloadN X0.here hx rfl (hb hby d24_12) rfl k_) ?_
  refine Go.st (pc' := 15) (S' := [(.int (1073741823 : Int32)), (.int (3 : Int32))]) (fun t_ k_ => X0.ldcInt hx hown (mvT hZ (wd hw 104 rfl)) (g := (mkF m 13 #[.val (.int (3 : Int32))] [(.int (3 : Int32))])) rfl (hb hby d24_13) t_ k_) ?_
  refine Go.st (pc' := 55) (S' := []) (fun t_ k_ => XS.icmpYes X0.here hx rfl (pc0 := 15) (pc' := 55) rfl (hb hby d24_15) rfl (tlt (by decide : ((3 : Int32) < (1073741823 : Int32)))).1 (by decide) (by decide) k_) ?_
  refine Go.st (pc' := 56) (S' := [(.int (3 : Int32))]) (fun t_ k_ => XS.iloadN X0.here hx rfl (hb hby d24_55) rfl k_) ?_
  refine Go.st (pc' := 57) (S' := [(.int (1 : Int32)), (.int (3 : Int32))]) (fun t_ k_ => XS.iconst X0.here hx rfl (hb hby d24_56) k_) ?_
  refine Go.st (pc' := 58) (S' := [(.int ((3 : Int32) <<< ((1 : Int32) &&& 31)))]) (fun t_ k_ => XS.ishl X0.here hx rfl (hb hby d24_57) rfl k_) ?_
  rw [show ((3 : Int32) <<< ((1 : Int32) &&& 31)) = (6 : Int32) from by decide]
  exact Go.retO X0 hx hlk hret rfl (by simp [FieldType.isReference, Value.isRef]) (hb hby d24_58) (by decide) (by decide) (by rw [e0]; exact ⟨rfl, N0, rfl⟩)

def Qnbf3 (Z : State)  (h0 : Heap) (n0 : Nat) (v : Option Value) (h : Heap) (L : List Loc) : Prop := ∃ (b : Addr) (kb : ClassId), v = some (.ref b) ∧ Fr n0 L ∧ Keep h0 h [] ∧ n0 ≤ b ∧ h0.size ≤ b ∧ Arv Z h b kb .byte (6 : Int32) [(.int (0 : Int32)), (.int (0 : Int32)), (.int (0 : Int32)), (.int (0 : Int32)), (.int (0 : Int32)), (.int (0 : Int32))] (.int (0 : Int32))
def roomnbf3 : Room := { frames := 1, cells := 1, slots := 6, locals := 12 }
theorem rmnbf3 (l : Launch) (Z : State) (a0 : Array Value) (hw : ∀ d ∈ tables_1, d.before a0 Z = true) (ws : List Jvm.Cond)  (h0 : Heap) (n0 : Nat) (Z0 : n0 ≤ h0.size)  :
    OMet l (⟨"java/lang/StringUTF16", "newBytesFor", "(I)[B"⟩ : MethodName) jdk_52_method_2_code 1 (some (.array .byte)) ws roomnbf3 #[(.int (3 : Int32))] Z h0 (Qnbf3 Z  h0 n0) := by
  refine own_met (Q := (Qnbf3 Z  h0 n0)) (L0 := #[.val (.int (3 : Int32))]) (plainFor_of_name pn_6) (fun m => by first | (simp [entryFrame, mkF, argsToLocals, Value.category]; done) | rfl) ?_
  intro p e s m below meth c T0 X0 hx hby hml hown hnm hret hlk hZ e0
  have N0 := Fr.nil n0
  have K0 := Keep.refl h0 []
  refine Go.st (pc' := 1) (S' := [(.int (3 : Int32))]) (fun t_ k_ => XS.iloadN X0.here hx rfl (hb hby d23_0) rfl k_) ?_
  obtain ⟨_, _, ⟨T1, L1, k1, n1⟩, -, X1, ⟨Lc1, hQ1, l1, y1, z1⟩, st1⟩ := Jvm.LawKit.callS X0 hx (y := (⟨"java/lang/StringUTF16", "newBytesLength", "(I)I"⟩ : MethodName)) hown (mvT hZ (wd hw 101 rfl)) (mvT hZ (wd hw 102 rfl)) (mvT hZ (wd hw 86 rfl)) (mvT hZ (wd hw 103 rfl)) (by decide) (backOf (W := 0) (rmnbl3 l Z a0 hw [] h0 n0 Z0) hZ (wd hw 103 rfl) (wd hw 86 rfl) (by decide) (by decide)) (g := (mkF m 1 #[.val (.int (3 : Int32))] [(.int (3 : Int32))])) rfl (by rw [hml]; rfl) (argsL := [(.int (3 : Int32))]) (rest := []) (lenOf pd_19 rfl) rfl (by show 2 * 0 + _ ≤ _; exact Nat.le_of_eq rfl) (hb hby d23_1) (fun _ _ => ⟨rfl, e0, (by decide : 0 + 0 ≤ _), (by decide : 0 + 0 ≤ _)⟩)
  dsimp only [Pt.U, Pt.locs, Pt.cells, Pt.slots] at X1 l1 y1 z1 st1 hQ1
  subst l1 y1 z1
  obtain ⟨rfl, N1q, e1⟩ := hQ1
  have N1 := Fr.app N0 N1q
  refine Go.st (pc' := 4) (S' := [(.int (6 : Int32))]) st1 ?_
  obtain ⟨T2, h2, k2, X2, e2, E2, A2, st2⟩ := newP X1 hx hZ (wd hw 19 rfl) e1 (g := (mkF m 4 #[.val (.int (3 : Int32))] [(.int (6 : Int32))])) rfl (hb hby d23_4) rfl (by decide) (cap := 6) (by decide) (by decide) (by decide) (by decide)
  obtain ⟨b2, g2⟩ : ∃ z, z = h0.size := ⟨_, rfl⟩
  rw [← g2] at A2 st2
  have g_b2 : n0 ≤ b2 := Nat.le_trans Z0 (Nat.le_of_eq g2.symm)
  have sz_b2 : h0.size ≤ b2 := Nat.le_trans K0.1 (Nat.le_of_eq g2.symm)
  replace Z0 := Nat.le_trans Z0 E2.1
  replace K0 := K0.ext E2
  have V_b2 : Arv Z h2 b2 k2 .byte (6 : Int32) [(.int (0 : Int32)), (.int (0 : Int32)), (.int (0 : Int32)), (.int (0 : Int32)), (.int (0 : Int32)), (.int (0 : Int32))] (.int (0 : Int32)) := (Arv.new A2 (by decide)).pad (pad_rep [] (.int (0 : Int32)) 6)
  refine Go.st (pc' := 6) (S' := [(.ref b2)]) st2 ?_
  exact Go.retO X2 hx hlk hret rfl (by simp [FieldType.isReference, Value.isRef]) (hb hby d23_6) (by decide) (by decide) (by rw [e2]; exact ⟨b2, _, rfl, N1, K0, g_b2, sz_b2, V_b2⟩)

def Qput3_0 (Z : State) (b : Addr) (kb : ClassId) (x0 : Int32) (y0 : Int32) (y1 : Int32) (y2 : Int32) (y3 : Int32) (y4 : Int32) (y5 : Int32) (h0 : Heap) (n0 : Nat) (v : Option Value) (h : Heap) (L : List Loc) : Prop := v = none ∧ Fr n0 L ∧ Keep h0 h [b] ∧ Arv Z h b kb .byte (6 : Int32) [(.int (own_lo x0)), (.int (own_hi x0)), (.int y2), (.int y3), (.int y4), (.int y5)] (.int (0 : Int32))
def roomput3_0 : Room := { frames := 0, cells := 0, slots := 0, locals := 0 }
theorem rmput3_0 (l : Launch) (Z : State) (a0 : Array Value) (hw : ∀ d ∈ tables_1, d.before a0 Z = true) (ws : List Jvm.Cond) (b : Addr) (kb : ClassId) (x0 : Int32) (y0 : Int32) (y1 : Int32) (y2 : Int32) (y3 : Int32) (y4 : Int32) (y5 : Int32) (h0 : Heap) (n0 : Nat) (Z0 : n0 ≤ h0.size) (SD : Sta Z Z.heap "java/lang/StringUTF16" "$assertionsDisabled" "Z" (.int (1 : Int32))) (SH : Sta Z Z.heap "java/lang/StringUTF16" "HI_BYTE_SHIFT" "I" (.int (0 : Int32))) (SL : Sta Z Z.heap "java/lang/StringUTF16" "LO_BYTE_SHIFT" "I" (.int (8 : Int32))) (O0 : Old Z n0 h0) (V_b : Arv Z h0 b kb .byte (6 : Int32) [(.int y0), (.int y1), (.int y2), (.int y3), (.int y4), (.int y5)] (.int (0 : Int32))) (g_b : n0 ≤ b) :
    OMet l (⟨"java/lang/StringUTF16", "putChar", "([BII)V"⟩ : MethodName) jdk_52_method_4_code 3 none ws roomput3_0 #[(.ref b), (.int (0 : Int32)), (.int x0)] Z h0 (Qput3_0 Z b kb x0 y0 y1 y2 y3 y4 y5 h0 n0) := by
  refine own_met (Q := (Qput3_0 Z b kb x0 y0 y1 y2 y3 y4 y5 h0 n0)) (L0 := #[.val (.ref b), .val (.int (0 : Int32)), .val (.int x0)]) (plainFor_of_name pn_6) (fun m => by first | (simp [entryFrame, mkF, argsToLocals, Value.category]; done) | rfl) ?_
  intro p e s m below meth c T0 X0 hx hby hml hown hnm hret hlk hZ e0
  have N0 := Fr.nil n0
  have K0 := Keep.refl h0 [b]
  obtain ⟨T1, X1, e1, st1⟩ := getS2 X0 hx hZ hown (host := "") (Or.inl (wd hw 108 rfl)) Via.refl e0 (SD.ext O0.2) (g := (mkF m 0 #[.val (.ref b), .val (.int (0 : Int32)), .val (.int x0)] [])) rfl (hb hby d25_0)
  refine Go.st (pc' := 3) (S' := [(.int (1 : Int32))]) st1 ?_
  refine Go.st (pc' := 28) (S' := []) (fun t_ k_ => XS.ifYes X1.here hx rfl (pc0 := 3) (pc' := 28) rfl (hb hby d25_3) rfl ((if0 _ _).trans (feq (by decide : ¬ ((1 : Int32) = (0 : Int32)))).2) (by decide) (by decide) k_) ?_
  refine Go.st (pc' := 29) (S' := [(.int (0 : Int32))]) (fun t_ k_ => XS.iloadN X1.here hx rfl (hb hby d25_28) rfl k_) ?_
  refine Go.st (pc' := 30) (S' := [(.int (1 : Int32)), (.int (0 : Int32))]) (fun t_ k_ => XS.iconst X1.here hx rfl (hb hby d25_29) k_) ?_
  refine Go.st (pc' := 31) (S' := [(.int ((0 : Int32) <<< ((1 : Int32) &&& 31)))]) (fun t_ k_ => XS.ishl X1.here hx rfl (hb hby d25_30) rfl k_) ?_
  rw [show ((0 : Int32) <<< ((1 : Int32) &&& 31)) = (0 : Int32) from by decide]
  refine Go.st (pc' := 32) (S' := []) (fun t_ k_ => XS.istoreN X1.here hx rfl (hb hby d25_31) rfl (l' := #[.val (.ref b), .val (.int (0 : Int32)), .val (.int x0)]) rfl k_) ?_
  refine Go.st (pc' := 33) (S' := [(.ref b)]) (fun t_ k_ => XS.aloadN X1.here hx rfl (hb hby d25_32) rfl rfl k_) ?_
  refine Go.st (pc' := 34) (S' := [(.int (0 : Int32)), (.ref b)]) (fun t_ k_ => XS.iloadN X1.here hx rfl (hb hby d25_33) rfl k_) ?_
  refine Go.st (pc' := 37) (S' := [(.int (0 : Int32)), (.ref b)]) (fun t_ k_ => XS.iinc X1.here hx rfl (hb hby d25_34) rfl (l' := #[.val (.ref b), .val (.int ((0 : Int32) + (1 : Int32))), .val (.int x0)]) rfl k_) ?_
  rw [show ((0 : Int32) + (1 : Int32)) = (1 : Int32) from by decide]
  refine Go.st (pc' := 38) (S' := [(.int x0), (.int (0 : Int32)), (.ref b)]) (fun t_ k_ => XS.iloadN X1.here hx rfl (hb hby d25_37) rfl k_) ?_
  obtain ⟨T2, X2, e2, st2⟩ := getS2 X1 hx hZ hown (host := "") (Or.inl (wd hw 109 rfl)) Via.refl e1 (SH.ext O0.2) (g := (mkF m 38 #[.val (.ref b), .val (.int (1 : Int32)), .val (.int x0)] [(.int x0), (.int (0 : Int32)), (.ref b)])) rfl (hb hby d25_38)
  refine Go.st (pc' := 41) (S' := [(.int (0 : Int32)), (.int x0), (.int (0 : Int32)), (.ref b)]) st2 ?_
  refine Go.st (pc' := 42) (S' := [(.int (x0 >>> ((0 : Int32) &&& 31))), (.int (0 : Int32)), (.ref b)]) (fun t_ k_ => XS.ishr X2.here hx rfl (hb hby d25_41) rfl k_) ?_
  refine Go.st (pc' := 43) (S' := [(.int ((x0 >>> ((0 : Int32) &&& 31)).toInt8.toInt32)), (.int (0 : Int32)), (.ref b)]) (fun t_ k_ => XS.i2b X2.here hx rfl (hb hby d25_42) rfl k_) ?_
  obtain ⟨cl3, Ar3, q31, q32, q33, q34, q35⟩ := V_b
  obtain ⟨T3, h3, X3, e3, W3, st3⟩ := stB X2 hx hZ e2 Ar3 (j := (0 : Int32)) (inb_of q32 ⟨by decide, by decide⟩) (g := (mkF m 43 #[.val (.ref b), .val (.int (1 : Int32)), .val (.int x0)] [(.int ((x0 >>> ((0 : Int32) &&& 31)).toInt8.toInt32)), (.int (0 : Int32)), (.ref b)])) rfl rfl (hb hby d25_43)
  replace V_b := Arv.set Ar3 q31 q32 q33 q34 q35 (fits_nar_byte _) W3 0 rfl (Nat.le_of_ble_eq_true rfl)
  have V_b : Arv Z h3 b kb .byte (6 : Int32) [(.int ((x0 >>> ((0 : Int32) &&& 31)).toInt8.toInt32).toInt8.toInt32), (.int y1), (.int y2), (.int y3), (.int y4), (.int y5)] (.int (0 : Int32)) := V_b
  replace Z0 := Nat.le_trans Z0 (Keep.of_wr W3).1
  replace K0 := K0.wr W3 (Or.inl (List.mem_of_getElem? (i := 0) rfl))
  replace O0 := O0.wr W3 g_b
  have N3 := Fr.snoc X3 N0 g_b
  refine Go.st (pc' := 44) (S' := []) st3 ?_
  refine Go.st (pc' := 45) (S' := [(.ref b)]) (fun t_ k_ => XS.aloadN X3.here hx rfl (hb hby d25_44) rfl rfl k_) ?_
  refine Go.st (pc' := 46) (S' := [(.int (1 : Int32)), (.ref b)]) (fun t_ k_ => XS.iloadN X3.here hx rfl (hb hby d25_45) rfl k_) ?_
  refine Go.st (pc' := 47) (S' := [(.int x0), (.int (1 : Int32)), (.ref b)]) (fun t_ k_ => XS.iloadN X3.here hx rfl (hb hby d25_46) rfl k_) ?_
  obtain ⟨T4, X4, e4, st4⟩ := getS2 X3 hx hZ hown (host := "") (Or.inl (wd hw 110 rfl)) Via.refl e3 (SL.ext O0.2) (g := (mkF m 47 #[.val (.ref b), .val (.int (1 : Int32)), .val (.int x0)] [(.int x0), (.int (1 : Int32)), (.ref b)])) rfl (hb hby d25_47)
  refine Go.st (pc' := 50) (S' := [(.int (8 : Int32)), (.int x0), (.int (1 : Int32)), (.ref b)]) st4 ?_
  refine Go.st (pc' := 51) (S' := [(.int (x0 >>> ((8 : Int32) &&& 31))), (.int (1 : Int32)), (.ref b)]) (fun t_ k_ => XS.ishr X4.here hx rfl (hb hby d25_50) rfl k_) ?_
  refine Go.st (pc' := 52) (S' := [(.int ((x0 >>> ((8 : Int32) &&& 31)).toInt8.toInt32)), (.int (1 : Int32)), (.ref b)]) (fun t_ k_ => XS.i2b X4.here hx rfl (hb hby d25_51) rfl k_) ?_
  obtain ⟨cl5, Ar5, q51, q52, q53, q54, q55⟩ := V_b
  obtain ⟨T5, h5, X5, e5, W5, st5⟩ := stB X4 hx hZ e4 Ar5 (j := (1 : Int32)) (inb_of q52 ⟨by decide, by decide⟩) (g := (mkF m 52 #[.val (.ref b), .val (.int (1 : Int32)), .val (.int x0)] [(.int ((x0 >>> ((8 : Int32) &&& 31)).toInt8.toInt32)), (.int (1 : Int32)), (.ref b)])) rfl rfl (hb hby d25_52)
  replace V_b := Arv.set Ar5 q51 q52 q53 q54 q55 (fits_nar_byte _) W5 1 rfl (Nat.le_of_ble_eq_true rfl)
  have V_b : Arv Z h5 b kb .byte (6 : Int32) [(.int ((x0 >>> ((0 : Int32) &&& 31)).toInt8.toInt32).toInt8.toInt32), (.int ((x0 >>> ((8 : Int32) &&& 31)).toInt8.toInt32).toInt8.toInt32), (.int y2), (.int y3), (.int y4), (.int y5)] (.int (0 : Int32)) := V_b
  replace Z0 := Nat.le_trans Z0 (Keep.of_wr W5).1
  replace K0 := K0.wr W5 (Or.inl (List.mem_of_getElem? (i := 0) rfl))
  replace O0 := O0.wr W5 g_b
  have N5 := Fr.snoc X5 N3 g_b
  refine Go.st (pc' := 53) (S' := []) st5 ?_
  exact Go.retV X5 hx hlk hret (hb hby d25_53) (by decide) (by decide) (by rw [e5]; exact ⟨rfl, N5, K0, V_b⟩)

def Qput3_1 (Z : State) (b : Addr) (kb : ClassId) (x0 : Int32) (y0 : Int32) (y1 : Int32) (y2 : Int32) (y3 : Int32) (y4 : Int32) (y5 : Int32) (h0 : Heap) (n0 : Nat) (v : Option Value) (h : Heap) (L : List Loc) : Prop := v = none ∧ Fr n0 L ∧ Keep h0 h [b] ∧ Arv Z h b kb .byte (6 : Int32) [(.int y0), (.int y1), (.int (own_lo x0)), (.int (own_hi x0)), (.int y4), (.int y5)] (.int (0 : Int32))
def roomput3_1 : Room := { frames := 0, cells := 0, slots := 0, locals := 0 }
theorem rmput3_1 (l : Launch) (Z : State) (a0 : Array Value) (hw : ∀ d ∈ tables_1, d.before a0 Z = true) (ws : List Jvm.Cond) (b : Addr) (kb : ClassId) (x0 : Int32) (y0 : Int32) (y1 : Int32) (y2 : Int32) (y3 : Int32) (y4 : Int32) (y5 : Int32) (h0 : Heap) (n0 : Nat) (Z0 : n0 ≤ h0.size) (SD : Sta Z Z.heap "java/lang/StringUTF16" "$assertionsDisabled" "Z" (.int (1 : Int32))) (SH : Sta Z Z.heap "java/lang/StringUTF16" "HI_BYTE_SHIFT" "I" (.int (0 : Int32))) (SL : Sta Z Z.heap "java/lang/StringUTF16" "LO_BYTE_SHIFT" "I" (.int (8 : Int32))) (O0 : Old Z n0 h0) (V_b : Arv Z h0 b kb .byte (6 : Int32) [(.int y0), (.int y1), (.int y2), (.int y3), (.int y4), (.int y5)] (.int (0 : Int32))) (g_b : n0 ≤ b) :
    OMet l (⟨"java/lang/StringUTF16", "putChar", "([BII)V"⟩ : MethodName) jdk_52_method_4_code 3 none ws roomput3_1 #[(.ref b), (.int (1 : Int32)), (.int x0)] Z h0 (Qput3_1 Z b kb x0 y0 y1 y2 y3 y4 y5 h0 n0) := by
  refine own_met (Q := (Qput3_1 Z b kb x0 y0 y1 y2 y3 y4 y5 h0 n0)) (L0 := #[.val (.ref b), .val (.int (1 : Int32)), .val (.int x0)]) (plainFor_of_name pn_6) (fun m => by first | (simp [entryFrame, mkF, argsToLocals, Value.category]; done) | rfl) ?_
  intro p e s m below meth c T0 X0 hx hby hml hown hnm hret hlk hZ e0
  have N0 := Fr.nil n0
  have K0 := Keep.refl h0 [b]
  obtain ⟨T1, X1, e1, st1⟩ := getS2 X0 hx hZ hown (host := "") (Or.inl (wd hw 108 rfl)) Via.refl e0 (SD.ext O0.2) (g := (mkF m 0 #[.val (.ref b), .val (.int (1 : Int32)), .val (.int x0)] [])) rfl (hb hby d25_0)
  refine Go.st (pc' := 3) (S' := [(.int (1 : Int32))]) st1 ?_
  refine Go.st (pc' := 28) (S' := []) (fun t_ k_ => XS.ifYes X1.here hx rfl (pc0 := 3) (pc' := 28) rfl (hb hby d25_3) rfl ((if0 _ _).trans (feq (by decide : ¬ ((1 : Int32) = (0 : Int32)))).2) (by decide) (by decide) k_) ?_
  refine Go.st (pc' := 29) (S' := [(.int (1 : Int32))]) (fun t_ k_ => XS.iloadN X1.here hx rfl (hb hby d25_28) rfl k_) ?_
  refine Go.st (pc' := 30) (S' := [(.int (1 : Int32)), (.int (1 : Int32))]) (fun t_ k_ => XS.iconst X1.here hx rfl (hb hby d25_29) k_) ?_
  refine Go.st (pc' := 31) (S' := [(.int ((1 : Int32) <<< ((1 : Int32) &&& 31)))]) (fun t_ k_ => XS.ishl X1.here hx rfl (hb hby d25_30) rfl k_) ?_
  rw [show ((1 : Int32) <<< ((1 : Int32) &&& 31)) = (2 : Int32) from by decide]
  refine Go.st (pc' := 32) (S' := []) (fun t_ k_ => XS.istoreN X1.here hx rfl (hb hby d25_31) rfl (l' := #[.val (.ref b), .val (.int (2 : Int32)), .val (.int x0)]) rfl k_) ?_
  refine Go.st (pc' := 33) (S' := [(.ref b)]) (fun t_ k_ => XS.aloadN X1.here hx rfl (hb hby d25_32) rfl rfl k_) ?_
  refine Go.st (pc' := 34) (S' := [(.int (2 : Int32)), (.ref b)]) (fun t_ k_ => XS.iloadN X1.here hx rfl (hb hby d25_33) rfl k_) ?_
  refine Go.st (pc' := 37) (S' := [(.int (2 : Int32)), (.ref b)]) (fun t_ k_ => XS.iinc X1.here hx rfl (hb hby d25_34) rfl (l' := #[.val (.ref b), .val (.int ((2 : Int32) + (1 : Int32))), .val (.int x0)]) rfl k_) ?_
  rw [show ((2 : Int32) + (1 : Int32)) = (3 : Int32) from by decide]
  refine Go.st (pc' := 38) (S' := [(.int x0), (.int (2 : Int32)), (.ref b)]) (fun t_ k_ => XS.iloadN X1.here hx rfl (hb hby d25_37) rfl k_) ?_
  obtain ⟨T2, X2, e2, st2⟩ := getS2 X1 hx hZ hown (host := "") (Or.inl (wd hw 109 rfl)) Via.refl e1 (SH.ext O0.2) (g := (mkF m 38 #[.val (.ref b), .val (.int (3 : Int32)), .val (.int x0)] [(.int x0), (.int (2 : Int32)), (.ref b)])) rfl (hb hby d25_38)
  refine Go.st (pc' := 41) (S' := [(.int (0 : Int32)), (.int x0), (.int (2 : Int32)), (.ref b)]) st2 ?_
  refine Go.st (pc' := 42) (S' := [(.int (x0 >>> ((0 : Int32) &&& 31))), (.int (2 : Int32)), (.ref b)]) (fun t_ k_ => XS.ishr X2.here hx rfl (hb hby d25_41) rfl k_) ?_
  refine Go.st (pc' := 43) (S' := [(.int ((x0 >>> ((0 : Int32) &&& 31)).toInt8.toInt32)), (.int (2 : Int32)), (.ref b)]) (fun t_ k_ => XS.i2b X2.here hx rfl (hb hby d25_42) rfl k_) ?_
  obtain ⟨cl3, Ar3, q31, q32, q33, q34, q35⟩ := V_b
  obtain ⟨T3, h3, X3, e3, W3, st3⟩ := stB X2 hx hZ e2 Ar3 (j := (2 : Int32)) (inb_of q32 ⟨by decide, by decide⟩) (g := (mkF m 43 #[.val (.ref b), .val (.int (3 : Int32)), .val (.int x0)] [(.int ((x0 >>> ((0 : Int32) &&& 31)).toInt8.toInt32)), (.int (2 : Int32)), (.ref b)])) rfl rfl (hb hby d25_43)
  replace V_b := Arv.set Ar3 q31 q32 q33 q34 q35 (fits_nar_byte _) W3 2 rfl (Nat.le_of_ble_eq_true rfl)
  have V_b : Arv Z h3 b kb .byte (6 : Int32) [(.int y0), (.int y1), (.int ((x0 >>> ((0 : Int32) &&& 31)).toInt8.toInt32).toInt8.toInt32), (.int y3), (.int y4), (.int y5)] (.int (0 : Int32)) := V_b
  replace Z0 := Nat.le_trans Z0 (Keep.of_wr W3).1
  replace K0 := K0.wr W3 (Or.inl (List.mem_of_getElem? (i := 0) rfl))
  replace O0 := O0.wr W3 g_b
  have N3 := Fr.snoc X3 N0 g_b
  refine Go.st (pc' := 44) (S' := []) st3 ?_
  refine Go.st (pc' := 45) (S' := [(.ref b)]) (fun t_ k_ => XS.aloadN X3.here hx rfl (hb hby d25_44) rfl rfl k_) ?_
  refine Go.st (pc' := 46) (S' := [(.int (3 : Int32)), (.ref b)]) (fun t_ k_ => XS.iloadN X3.here hx rfl (hb hby d25_45) rfl k_) ?_
  refine Go.st (pc' := 47) (S' := [(.int x0), (.int (3 : Int32)), (.ref b)]) (fun t_ k_ => XS.iloadN X3.here hx rfl (hb hby d25_46) rfl k_) ?_
  obtain ⟨T4, X4, e4, st4⟩ := getS2 X3 hx hZ hown (host := "") (Or.inl (wd hw 110 rfl)) Via.refl e3 (SL.ext O0.2) (g := (mkF m 47 #[.val (.ref b), .val (.int (3 : Int32)), .val (.int x0)] [(.int x0), (.int (3 : Int32)), (.ref b)])) rfl (hb hby d25_47)
  refine Go.st (pc' := 50) (S' := [(.int (8 : Int32)), (.int x0), (.int (3 : Int32)), (.ref b)]) st4 ?_
  refine Go.st (pc' := 51) (S' := [(.int (x0 >>> ((8 : Int32) &&& 31))), (.int (3 : Int32)), (.ref b)]) (fun t_ k_ => XS.ishr X4.here hx rfl (hb hby d25_50) rfl k_) ?_
  refine Go.st (pc' := 52) (S' := [(.int ((x0 >>> ((8 : Int32) &&& 31)).toInt8.toInt32)), (.int (3 : Int32)), (.ref b)]) (fun t_ k_ => XS.i2b X4.here hx rfl (hb hby d25_51) rfl k_) ?_
  obtain ⟨cl5, Ar5, q51, q52, q53, q54, q55⟩ := V_b
  obtain ⟨T5, h5, X5, e5, W5, st5⟩ := stB X4 hx hZ e4 Ar5 (j := (3 : Int32)) (inb_of q52 ⟨by decide, by decide⟩) (g := (mkF m 52 #[.val (.ref b), .val (.int (3 : Int32)), .val (.int x0)] [(.int ((x0 >>> ((8 : Int32) &&& 31)).toInt8.toInt32)), (.int (3 : Int32)), (.ref b)])) rfl rfl (hb hby d25_52)
  replace V_b := Arv.set Ar5 q51 q52 q53 q54 q55 (fits_nar_byte _) W5 3 rfl (Nat.le_of_ble_eq_true rfl)
  have V_b : Arv Z h5 b kb .byte (6 : Int32) [(.int y0), (.int y1), (.int ((x0 >>> ((0 : Int32) &&& 31)).toInt8.toInt32).toInt8.toInt32), (.int ((x0 >>> ((8 : Int32) &&& 31)).toInt8.toInt32).toInt8.toInt32), (.int y4), (.int y5)] (.int (0 : Int32)) := V_b
  replace Z0 := Nat.le_trans Z0 (Keep.of_wr W5).1
  replace K0 := K0.wr W5 (Or.inl (List.mem_of_getElem? (i := 0) rfl))
  replace O0 := O0.wr W5 g_b
  have N5 := Fr.snoc X5 N3 g_b
  refine Go.st (pc' := 53) (S' := []) st5 ?_
  exact Go.retV X5 hx hlk hret (hb hby d25_53) (by decide) (by decide) (by rw [e5]; exact ⟨rfl, N5, K0, V_b⟩)

def Qput3_2 (Z : State) (b : Addr) (kb : ClassId) (x0 : Int32) (y0 : Int32) (y1 : Int32) (y2 : Int32) (y3 : Int32) (y4 : Int32) (y5 : Int32) (h0 : Heap) (n0 : Nat) (v : Option Value) (h : Heap) (L : List Loc) : Prop := v = none ∧ Fr n0 L ∧ Keep h0 h [b] ∧ Arv Z h b kb .byte (6 : Int32) [(.int y0), (.int y1), (.int y2), (.int y3), (.int (own_lo x0)), (.int (own_hi x0))] (.int (0 : Int32))
def roomput3_2 : Room := { frames := 0, cells := 0, slots := 0, locals := 0 }
theorem rmput3_2 (l : Launch) (Z : State) (a0 : Array Value) (hw : ∀ d ∈ tables_1, d.before a0 Z = true) (ws : List Jvm.Cond) (b : Addr) (kb : ClassId) (x0 : Int32) (y0 : Int32) (y1 : Int32) (y2 : Int32) (y3 : Int32) (y4 : Int32) (y5 : Int32) (h0 : Heap) (n0 : Nat) (Z0 : n0 ≤ h0.size) (SD : Sta Z Z.heap "java/lang/StringUTF16" "$assertionsDisabled" "Z" (.int (1 : Int32))) (SH : Sta Z Z.heap "java/lang/StringUTF16" "HI_BYTE_SHIFT" "I" (.int (0 : Int32))) (SL : Sta Z Z.heap "java/lang/StringUTF16" "LO_BYTE_SHIFT" "I" (.int (8 : Int32))) (O0 : Old Z n0 h0) (V_b : Arv Z h0 b kb .byte (6 : Int32) [(.int y0), (.int y1), (.int y2), (.int y3), (.int y4), (.int y5)] (.int (0 : Int32))) (g_b : n0 ≤ b) :
    OMet l (⟨"java/lang/StringUTF16", "putChar", "([BII)V"⟩ : MethodName) jdk_52_method_4_code 3 none ws roomput3_2 #[(.ref b), (.int (2 : Int32)), (.int x0)] Z h0 (Qput3_2 Z b kb x0 y0 y1 y2 y3 y4 y5 h0 n0) := by
  refine own_met (Q := (Qput3_2 Z b kb x0 y0 y1 y2 y3 y4 y5 h0 n0)) (L0 := #[.val (.ref b), .val (.int (2 : Int32)), .val (.int x0)]) (plainFor_of_name pn_6) (fun m => by first | (simp [entryFrame, mkF, argsToLocals, Value.category]; done) | rfl) ?_
  intro p e s m below meth c T0 X0 hx hby hml hown hnm hret hlk hZ e0
  have N0 := Fr.nil n0
  have K0 := Keep.refl h0 [b]
  obtain ⟨T1, X1, e1, st1⟩ := getS2 X0 hx hZ hown (host := "") (Or.inl (wd hw 108 rfl)) Via.refl e0 (SD.ext O0.2) (g := (mkF m 0 #[.val (.ref b), .val (.int (2 : Int32)), .val (.int x0)] [])) rfl (hb hby d25_0)
  refine Go.st (pc' := 3) (S' := [(.int (1 : Int32))]) st1 ?_
  refine Go.st (pc' := 28) (S' := []) (fun t_ k_ => XS.ifYes X1.here hx rfl (pc0 := 3) (pc' := 28) rfl (hb hby d25_3) rfl ((if0 _ _).trans (feq (by decide : ¬ ((1 : Int32) = (0 : Int32)))).2) (by decide) (by decide) k_) ?_
  refine Go.st (pc' := 29) (S' := [(.int (2 : Int32))]) (fun t_ k_ => XS.iloadN X1.here hx rfl (hb hby d25_28) rfl k_) ?_
  refine Go.st (pc' := 30) (S' := [(.int (1 : Int32)), (.int (2 : Int32))]) (fun t_ k_ => XS.iconst X1.here hx rfl (hb hby d25_29) k_) ?_
  refine Go.st (pc' := 31) (S' := [(.int ((2 : Int32) <<< ((1 : Int32) &&& 31)))]) (fun t_ k_ => XS.ishl X1.here hx rfl (hb hby d25_30) rfl k_) ?_
  rw [show ((2 : Int32) <<< ((1 : Int32) &&& 31)) = (4 : Int32) from by decide]
  refine Go.st (pc' := 32) (S' := []) (fun t_ k_ => XS.istoreN X1.here hx rfl (hb hby d25_31) rfl (l' := #[.val (.ref b), .val (.int (4 : Int32)), .val (.int x0)]) rfl k_) ?_
  refine Go.st (pc' := 33) (S' := [(.ref b)]) (fun t_ k_ => XS.aloadN X1.here hx rfl (hb hby d25_32) rfl rfl k_) ?_
  refine Go.st (pc' := 34) (S' := [(.int (4 : Int32)), (.ref b)]) (fun t_ k_ => XS.iloadN X1.here hx rfl (hb hby d25_33) rfl k_) ?_
  refine Go.st (pc' := 37) (S' := [(.int (4 : Int32)), (.ref b)]) (fun t_ k_ => XS.iinc X1.here hx rfl (hb hby d25_34) rfl (l' := #[.val (.ref b), .val (.int ((4 : Int32) + (1 : Int32))), .val (.int x0)]) rfl k_) ?_
  rw [show ((4 : Int32) + (1 : Int32)) = (5 : Int32) from by decide]
  refine Go.st (pc' := 38) (S' := [(.int x0), (.int (4 : Int32)), (.ref b)]) (fun t_ k_ => XS.iloadN X1.here hx rfl (hb hby d25_37) rfl k_) ?_
  obtain ⟨T2, X2, e2, st2⟩ := getS2 X1 hx hZ hown (host := "") (Or.inl (wd hw 109 rfl)) Via.refl e1 (SH.ext O0.2) (g := (mkF m 38 #[.val (.ref b), .val (.int (5 : Int32)), .val (.int x0)] [(.int x0), (.int (4 : Int32)), (.ref b)])) rfl (hb hby d25_38)
  refine Go.st (pc' := 41) (S' := [(.int (0 : Int32)), (.int x0), (.int (4 : Int32)), (.ref b)]) st2 ?_
  refine Go.st (pc' := 42) (S' := [(.int (x0 >>> ((0 : Int32) &&& 31))), (.int (4 : Int32)), (.ref b)]) (fun t_ k_ => XS.ishr X2.here hx rfl (hb hby d25_41) rfl k_) ?_
  refine Go.st (pc' := 43) (S' := [(.int ((x0 >>> ((0 : Int32) &&& 31)).toInt8.toInt32)), (.int (4 : Int32)), (.ref b)]) (fun t_ k_ => XS.i2b X2.here hx rfl (hb hby d25_42) rfl k_) ?_
  obtain ⟨cl3, Ar3, q31, q32, q33, q34, q35⟩ := V_b
  obtain ⟨T3, h3, X3, e3, W3, st3⟩ := stB X2 hx hZ e2 Ar3 (j := (4 : Int32)) (inb_of q32 ⟨by decide, by decide⟩) (g := (mkF m 43 #[.val (.ref b), .val (.int (5 : Int32)), .val (.int x0)] [(.int ((x0 >>> ((0 : Int32) &&& 31)).toInt8.toInt32)), (.int (4 : Int32)), (.ref b)])) rfl rfl (hb hby d25_43)
  replace V_b := Arv.set Ar3 q31 q32 q33 q34 q35 (fits_nar_byte _) W3 4 rfl (Nat.le_of_ble_eq_true rfl)
  have V_b : Arv Z h3 b kb .byte (6 : Int32) [(.int y0), (.int y1), (.int y2), (.int y3), (.int ((x0 >>> ((0 : Int32) &&& 31)).toInt8.toInt32).toInt8.toInt32), (.int y5)] (.int (0 : Int32)) := V_b
  replace Z0 := Nat.le_trans Z0 (Keep.of_wr W3).1
  replace K0 := K0.wr W3 (Or.inl (List.mem_of_getElem? (i := 0) rfl))
  replace O0 := O0.wr W3 g_b
  have N3 := Fr.snoc X3 N0 g_b
  refine Go.st (pc' := 44) (S' := []) st3 ?_
  refine Go.st (pc' := 45) (S' := [(.ref b)]) (fun t_ k_ => XS.aloadN X3.here hx rfl (hb hby d25_44) rfl rfl k_) ?_
  refine Go.st (pc' := 46) (S' := [(.int (5 : Int32)), (.ref b)]) (fun t_ k_ => XS.iloadN X3.here hx rfl (hb hby d25_45) rfl k_) ?_
  refine Go.st (pc' := 47) (S' := [(.int x0), (.int (5 : Int32)), (.ref b)]) (fun t_ k_ => XS.iloadN X3.here hx rfl (hb hby d25_46) rfl k_) ?_
  obtain ⟨T4, X4, e4, st4⟩ := getS2 X3 hx hZ hown (host := "") (Or.inl (wd hw 110 rfl)) Via.refl e3 (SL.ext O0.2) (g := (mkF m 47 #[.val (.ref b), .val (.int (5 : Int32)), .val (.int x0)] [(.int x0), (.int (5 : Int32)), (.ref b)])) rfl (hb hby d25_47)
  refine Go.st (pc' := 50) (S' := [(.int (8 : Int32)), (.int x0), (.int (5 : Int32)), (.ref b)]) st4 ?_
  refine Go.st (pc' := 51) (S' := [(.int (x0 >>> ((8 : Int32) &&& 31))), (.int (5 : Int32)), (.ref b)]) (fun t_ k_ => XS.ishr X4.here hx rfl (hb hby d25_50) rfl k_) ?_
  refine Go.st (pc' := 52) (S' := [(.int ((x0 >>> ((8 : Int32) &&& 31)).toInt8.toInt32)), (.int (5 : Int32)), (.ref b)]) (fun t_ k_ => XS.i2b X4.here hx rfl (hb hby d25_51) rfl k_) ?_
  obtain ⟨cl5, Ar5, q51, q52, q53, q54, q55⟩ := V_b
  obtain ⟨T5, h5, X5, e5, W5, st5⟩ := stB X4 hx hZ e4 Ar5 (j := (5 : Int32)) (inb_of q52 ⟨by decide, by decide⟩) (g := (mkF m 52 #[.val (.ref b), .val (.int (5 : Int32)), .val (.int x0)] [(.int ((x0 >>> ((8 : Int32) &&& 31)).toInt8.toInt32)), (.int (5 : Int32)), (.ref b)])) rfl rfl (hb hby d25_52)
  replace V_b := Arv.set Ar5 q51 q52 q53 q54 q55 (fits_nar_byte _) W5 5 rfl (Nat.le_of_ble_eq_true rfl)
  have V_b : Arv Z h5 b kb .byte (6 : Int32) [(.int y0), (.int y1), (.int y2), (.int y3), (.int ((x0 >>> ((0 : Int32) &&& 31)).toInt8.toInt32).toInt8.toInt32), (.int ((x0 >>> ((8 : Int32) &&& 31)).toInt8.toInt32).toInt8.toInt32)] (.int (0 : Int32)) := V_b
  replace Z0 := Nat.le_trans Z0 (Keep.of_wr W5).1
  replace K0 := K0.wr W5 (Or.inl (List.mem_of_getElem? (i := 0) rfl))
  replace O0 := O0.wr W5 g_b
  have N5 := Fr.snoc X5 N3 g_b
  refine Go.st (pc' := 53) (S' := []) st5 ?_
  exact Go.retV X5 hx hlk hret (hb hby d25_53) (by decide) (by decide) (by rw [e5]; exact ⟨rfl, N5, K0, V_b⟩)

def QtoB3 (Z : State) (x0 : Int32) (x1 : Int32) (x2 : Int32) (h0 : Heap) (n0 : Nat) (v : Option Value) (h : Heap) (L : List Loc) : Prop := ∃ (b : Addr) (kb : ClassId), v = some (.ref b) ∧ Fr n0 L ∧ Keep h0 h [] ∧ n0 ≤ b ∧ h0.size ≤ b ∧ Arv Z h b kb .byte (6 : Int32) [(.int (own_lo x0)), (.int (own_hi x0)), (.int (own_lo x1)), (.int (own_hi x1)), (.int (own_lo x2)), (.int (own_hi x2))] (.int (0 : Int32))
def roomtoB3 : Room := { frames := 2, cells := 1, slots := 6, locals := 24 }
theorem rmtoB3 (l : Launch) (Z : State) (a0 : Array Value) (hw : ∀ d ∈ tables_1, d.before a0 Z = true) (ws : List Jvm.Cond) (a : Addr) (ka : ClassId) (x0 : Int32) (x1 : Int32) (x2 : Int32) (h0 : Heap) (n0 : Nat) (Z0 : n0 ≤ h0.size) (SD : Sta Z Z.heap "java/lang/StringUTF16" "$assertionsDisabled" "Z" (.int (1 : Int32))) (SH : Sta Z Z.heap "java/lang/StringUTF16" "HI_BYTE_SHIFT" "I" (.int (0 : Int32))) (SL : Sta Z Z.heap "java/lang/StringUTF16" "LO_BYTE_SHIFT" "I" (.int (8 : Int32))) (O0 : Old Z n0 h0) (V_a : Arv Z h0 a ka .char (3 : Int32) [(.int x0), (.int x1), (.int x2)] (.int (0 : Int32))) :
    OMet l (⟨"java/lang/StringUTF16", "toBytes", "([CII)[B"⟩ : MethodName) jdk_52_method_14_code 5 (some (.array .byte)) ws roomtoB3 #[(.ref a), (.int (0 : Int32)), (.int (3 : Int32))] Z h0 (QtoB3 Z x0 x1 x2 h0 n0) := by
  refine own_met (Q := (QtoB3 Z x0 x1 x2 h0 n0)) (L0 := #[.val (.ref a), .val (.int (0 : Int32)), .val (.int (3 : Int32)), .unset, .unset]) (plainFor_of_name pn_6) (fun m => by first | (simp [entryFrame, mkF, argsToLocals, Value.category]; done) | rfl) ?_
  intro p e s m below meth c T0 X0 hx hby hml hown hnm hret hlk hZ e0
  have N0 := Fr.nil n0
  have K0 := Keep.refl h0 []
  refine Go.st (pc' := 1) (S' := [(.int (3 : Int32))]) (fun t_ k_ => XS.iloadN X0.here hx rfl (hb hby d22_0) rfl k_) ?_
  obtain ⟨_, _, ⟨T1, L1, k1, n1⟩, -, X1, ⟨Lc1, hQ1, l1, y1, z1⟩, st1⟩ := Jvm.LawKit.callS X0 hx (y := (⟨"java/lang/StringUTF16", "newBytesFor", "(I)[B"⟩ : MethodName)) hown (mvT hZ (wd hw 98 rfl)) (mvT hZ (wd hw 99 rfl)) (mvT hZ (wd hw 86 rfl)) (mvT hZ (wd hw 100 rfl)) (by decide) (backOf (W := 0) (rmnbf3 l Z a0 hw [] h0 n0 Z0) hZ (wd hw 100 rfl) (wd hw 86 rfl) (by decide) (by decide)) (g := (mkF m 1 #[.val (.ref a), .val (.int (0 : Int32)), .val (.int (3 : Int32)), .unset, .unset] [(.int (3 : Int32))])) rfl (by rw [hml]; rfl) (argsL := [(.int (3 : Int32))]) (rest := []) (lenOf pd_20 rfl) rfl (by show 2 * 0 + _ ≤ _; exact Nat.le_of_eq rfl) (hb hby d22_1) (fun _ _ => ⟨rfl, e0, (by decide : 0 + 1 ≤ _), (by decide : 0 + 6 ≤ _)⟩)
  dsimp only [Pt.U, Pt.locs, Pt.cells, Pt.slots] at X1 l1 y1 z1 st1 hQ1
  subst l1 y1 z1
  obtain ⟨bu1, kb1, rfl, N1q, K1, g_bu1, lt1, Vb1⟩ := hQ1
  have N1 := Fr.app N0 N1q
  have ne_a_bu1 : a ≠ bu1 := Nat.ne_of_lt (Nat.lt_of_lt_of_le V_a.lt lt1)
  have sz_bu1 : h0.size ≤ bu1 := Nat.le_trans K0.1 lt1
  obtain ⟨h1, e1⟩ : ∃ z, T1.heap = z := ⟨_, rfl⟩
  rw [e1] at K1 Vb1
  replace Z0 := Nat.le_trans Z0 K1.1
  replace K0 := K0.trans K1 all0
  replace O0 := O0.keep K1 all0
  replace V_a := V_a.keep K1 nin0
  refine Go.st (pc' := 4) (S' := [(.ref bu1)]) st1 ?_
  refine Go.st (pc' := 5) (S' := []) (fun t_ k_ => XS.astoreN X1.here hx rfl (hb hby d22_4) rfl rfl (l' := #[.val (.ref a), .val (.int (0 : Int32)), .val (.int (3 : Int32)), .val (.ref bu1), .unset]) rfl k_) ?_
  refine Go.st (pc' := 6) (S' := [(.int (0 : Int32))]) (fun t_ k_ => XS.iconst X1.here hx rfl (hb hby d22_5) k_) ?_
  refine Go.st (pc' := 8) (S' := []) (fun t_ k_ => XS.istore X1.here hx rfl (hb hby d22_6) rfl (l' := #[.val (.ref a), .val (.int (0 : Int32)), .val (.int (3 : Int32)), .val (.ref bu1), .val (.int (0 : Int32))]) rfl k_) ?_
  refine Go.st (pc' := 10) (S' := [(.int (0 : Int32))]) (fun t_ k_ => XS.iload X1.here hx rfl (hb hby d22_8) rfl k_) ?_
  refine Go.st (pc' := 11) (S' := [(.int (3 : Int32)), (.int (0 : Int32))]) (fun t_ k_ => XS.iloadN X1.here hx rfl (hb hby d22_10) rfl k_) ?_
  refine Go.st (pc' := 14) (S' := []) (fun t_ k_ => XS.icmpNo X1.here hx rfl (hb hby d22_11) rfl (tlt (by decide : ((0 : Int32) < (3 : Int32)))).2.1 k_) ?_
  refine Go.st (pc' := 15) (S' := [(.ref bu1)]) (fun t_ k_ => XS.aloadN X1.here hx rfl (hb hby d22_14) rfl rfl k_) ?_
  refine Go.st (pc' := 17) (S' := [(.int (0 : Int32)), (.ref bu1)]) (fun t_ k_ => XS.iload X1.here hx rfl (hb hby d22_15) rfl k_) ?_
  refine Go.st (pc' := 18) (S' := [(.ref a), (.int (0 : Int32)), (.ref bu1)]) (fun t_ k_ => XS.aloadN X1.here hx rfl (hb hby d22_17) rfl rfl k_) ?_
  refine Go.st (pc' := 19) (S' := [(.int (0 : Int32)), (.ref a), (.int (0 : Int32)), (.ref bu1)]) (fun t_ k_ => XS.iloadN X1.here hx rfl (hb hby d22_18) rfl k_) ?_
  obtain ⟨cl2, Ar2, -, q2a, q2b, q2c, q2d⟩ := id V_a
  refine Go.st (pc' := 20) (S' := [(.int x0), (.int (0 : Int32)), (.ref bu1)]) (fun t_ k_ => X1.caload hx (j := (0 : Int32)) (v := (.int x0)) (by rw [e1]; exact Ar2.1) (State.isArrayOf_alike hZ.alike Ar2.2.1) Ar2.2.2 (inb_of q2a ⟨by decide, by decide⟩) (q2c.at (inb_of q2a ⟨by decide, by decide⟩) rfl) (g := (mkF m 19 #[.val (.ref a), .val (.int (0 : Int32)), .val (.int (3 : Int32)), .val (.ref bu1), .val (.int (0 : Int32))] [(.int (0 : Int32)), (.ref a), (.int (0 : Int32)), (.ref bu1)])) rfl rfl (hb hby d22_19) t_ k_) ?_
  obtain ⟨_, _, ⟨T3, L3, k3, n3⟩, -, X3, ⟨Lc3, hQ3, l3, y3, z3⟩, st3⟩ := Jvm.LawKit.callS X1 hx (y := (⟨"java/lang/StringUTF16", "putChar", "([BII)V"⟩ : MethodName)) hown (mvT hZ (wd hw 105 rfl)) (mvT hZ (wd hw 106 rfl)) (mvT hZ (wd hw 86 rfl)) (mvT hZ (wd hw 107 rfl)) (by decide) (backOf (W := 0) (rmput3_0 l Z a0 hw [] bu1 _ (x0) ((0 : Int32)) ((0 : Int32)) ((0 : Int32)) ((0 : Int32)) ((0 : Int32)) ((0 : Int32)) h1 n0 Z0 SD SH SL O0 Vb1 g_bu1) hZ (wd hw 107 rfl) (wd hw 86 rfl) (by decide) (by decide)) (g := (mkF m 20 #[.val (.ref a), .val (.int (0 : Int32)), .val (.int (3 : Int32)), .val (.ref bu1), .val (.int (0 : Int32))] [(.int x0), (.int (0 : Int32)), (.ref bu1)])) rfl (by rw [hml]; rfl) (argsL := [(.ref bu1), (.int (0 : Int32)), (.int x0)]) (rest := []) (lenOf pd_16 rfl) rfl (by show 2 * 0 + _ ≤ _; exact Nat.le_of_eq rfl) (hb hby d22_20) (fun _ _ => ⟨rfl, e1, (by decide : 1 + 0 ≤ _), (by decide : 6 + 0 ≤ _)⟩)
  dsimp only [Pt.U, Pt.locs, Pt.cells, Pt.slots] at X3 l3 y3 z3 st3 hQ3
  subst l3 y3 z3
  obtain ⟨rfl, N3q, K3, Vb3⟩ := hQ3
  have N3 := Fr.app N1 N3q
  obtain ⟨h3, e3⟩ : ∃ z, T3.heap = z := ⟨_, rfl⟩
  rw [e3] at K3 Vb3
  replace Z0 := Nat.le_trans Z0 K3.1
  replace K0 := K0.trans K3 (allS (Or.inr sz_bu1) all0)
  replace O0 := O0.keep K3 (allS g_bu1 all0)
  replace V_a := V_a.keep K3 (ninS ne_a_bu1 nin0)
  refine Go.st (pc' := 23) (S' := []) st3 ?_
  refine Go.st (pc' := 26) (S' := []) (fun t_ k_ => XS.iinc X3.here hx rfl (hb hby d22_23) rfl (l' := #[.val (.ref a), .val (.int ((0 : Int32) + (1 : Int32))), .val (.int (3 : Int32)), .val (.ref bu1), .val (.int (0 : Int32))]) rfl k_) ?_
  rw [show ((0 : Int32) + (1 : Int32)) = (1 : Int32) from by decide]
  refine Go.st (pc' := 29) (S' := []) (fun t_ k_ => XS.iinc X3.here hx rfl (hb hby d22_26) rfl (l' := #[.val (.ref a), .val (.int (1 : Int32)), .val (.int (3 : Int32)), .val (.ref bu1), .val (.int ((0 : Int32) + (1 : Int32)))]) rfl k_) ?_
  rw [show ((0 : Int32) + (1 : Int32)) = (1 : Int32) from by decide]
  refine Go.st (pc' := 8) (S' := []) (fun t_ k_ => XS.goto X3.here hx rfl (pc0 := 29) (pc' := 8) rfl (hb hby d22_29) (by decide) (by decide) k_) ?_
  refine Go.st (pc' := 10) (S' := [(.int (1 : Int32))]) (fun t_ k_ => XS.iload X3.here hx rfl (hb hby d22_8) rfl k_) ?_
  refine Go.st (pc' := 11) (S' := [(.int (3 : Int32)), (.int (1 : Int32))]) (fun t_ k_ => XS.iloadN X3.here hx rfl (hb hby d22_10) rfl k_) ?_
  refine Go.st (pc' := 14) (S' := []) (fun t_ k_ => XS.icmpNo X3.here hx rfl (hb hby d22_11) rfl (tlt (by decide : ((1 : Int32) < (3 : Int32)))).2.1 k_) ?_
  refine Go.st (pc' := 15) (S' := [(.ref bu1)]) (fun t_ k_ => XS.aloadN X3.here hx rfl (hb hby d22_14) rfl rfl k_) ?_
  refine Go.st (pc' := 17) (S' := [(.int (1 : Int32)), (.ref bu1)]) (fun t_ k_ => XS.iload X3.here hx rfl (hb hby d22_15) rfl k_) ?_
  refine Go.st (pc' := 18) (S' := [(.ref a), (.int (1 : Int32)), (.ref bu1)]) (fun t_ k_ => XS.aloadN X3.here hx rfl (hb hby d22_17) rfl rfl k_) ?_
  refine Go.st (pc' := 19) (S' := [(.int (1 : Int32)), (.ref a), (.int (1 : Int32)), (.ref bu1)]) (fun t_ k_ => XS.iloadN X3.here hx rfl (hb hby d22_18) rfl k_) ?_
  obtain ⟨cl4, Ar4, -, q4a, q4b, q4c, q4d⟩ := id V_a
  refine Go.st (pc' := 20) (S' := [(.int x1), (.int (1 : Int32)), (.ref bu1)]) (fun t_ k_ => X3.caload hx (j := (1 : Int32)) (v := (.int x1)) (by rw [e3]; exact Ar4.1) (State.isArrayOf_alike hZ.alike Ar4.2.1) Ar4.2.2 (inb_of q4a ⟨by decide, by decide⟩) (q4c.at (inb_of q4a ⟨by decide, by decide⟩) rfl) (g := (mkF m 19 #[.val (.ref a), .val (.int (1 : Int32)), .val (.int (3 : Int32)), .val (.ref bu1), .val (.int (1 : Int32))] [(.int (1 : Int32)), (.ref a), (.int (1 : Int32)), (.ref bu1)])) rfl rfl (hb hby d22_19) t_ k_) ?_
  obtain ⟨_, _, ⟨T5, L5, k5, n5⟩, -, X5, ⟨Lc5, hQ5, l5, y5, z5⟩, st5⟩ := Jvm.LawKit.callS X3 hx (y := (⟨"java/lang/StringUTF16", "putChar", "([BII)V"⟩ : MethodName)) hown (mvT hZ (wd hw 105 rfl)) (mvT hZ (wd hw 106 rfl)) (mvT hZ (wd hw 86 rfl)) (mvT hZ (wd hw 107 rfl)) (by decide) (backOf (W := 0) (rmput3_1 l Z a0 hw [] bu1 _ (x1) ((own_lo x0)) ((own_hi x0)) ((0 : Int32)) ((0 : Int32)) ((0 : Int32)) ((0 : Int32)) h3 n0 Z0 SD SH SL O0 Vb3 g_bu1) hZ (wd hw 107 rfl) (wd hw 86 rfl) (by decide) (by decide)) (g := (mkF m 20 #[.val (.ref a), .val (.int (1 : Int32)), .val (.int (3 : Int32)), .val (.ref bu1), .val (.int (1 : Int32))] [(.int x1), (.int (1 : Int32)), (.ref bu1)])) rfl (by rw [hml]; rfl) (argsL := [(.ref bu1), (.int (1 : Int32)), (.int x1)]) (rest := []) (lenOf pd_16 rfl) rfl (by show 2 * 0 + _ ≤ _; exact Nat.le_of_eq rfl) (hb hby d22_20) (fun _ _ => ⟨rfl, e3, (by decide : 1 + 0 ≤ _), (by decide : 6 + 0 ≤ _)⟩)
  dsimp only [Pt.U, Pt.locs, Pt.cells, Pt.slots] at X5 l5 y5 z5 st5 hQ5
  subst l5 y5 z5
  obtain ⟨rfl, N5q, K5, Vb5⟩ := hQ5
  have N5 := Fr.app N3 N5q
  obtain ⟨h5, e5⟩ : ∃ z, T5.heap = z := ⟨_, rfl⟩
  rw [e5] at K5 Vb5
  replace Z0 := Nat.le_trans Z0 K5.1
  replace K0 := K0.trans K5 (allS (Or.inr sz_bu1) all0)
  replace O0 := O0.keep K5 (allS g_bu1 all0)
  replace V_a := V_a.keep K5 (ninS ne_a_bu1 nin0)
  refine Go.st (pc' := 23) (S' := []) st5 ?_
  refine Go.st (pc' := 26) (S' := []) (fun t_ k_ => XS.iinc X5.here hx rfl (hb hby d22_23) rfl (l' := #[.val (.ref a), .val (.int ((1 : Int32) + (1 : Int32))), .val (.int (3 : Int32)), .val (.ref bu1), .val (.int (1 : Int32))]) rfl k_) ?_
  rw [show ((1 : Int32) + (1 : Int32)) = (2 : Int32) from by decide]
  refine Go.st (pc' := 29) (S' := []) (fun t_ k_ => XS.iinc X5.here hx rfl (hb hby d22_26) rfl (l' := #[.val (.ref a), .val (.int (2 : Int32)), .val (.int (3 : Int32)), .val (.ref bu1), .val (.int ((1 : Int32) + (1 : Int32)))]) rfl k_) ?_
  rw [show ((1 : Int32) + (1 : Int32)) = (2 : Int32) from by decide]
  refine Go.st (pc' := 8) (S' := []) (fun t_ k_ => XS.goto X5.here hx rfl (pc0 := 29) (pc' := 8) rfl (hb hby d22_29) (by decide) (by decide) k_) ?_
  refine Go.st (pc' := 10) (S' := [(.int (2 : Int32))]) (fun t_ k_ => XS.iload X5.here hx rfl (hb hby d22_8) rfl k_) ?_
  refine Go.st (pc' := 11) (S' := [(.int (3 : Int32)), (.int (2 : Int32))]) (fun t_ k_ => XS.iloadN X5.here hx rfl (hb hby d22_10) rfl k_) ?_
  refine Go.st (pc' := 14) (S' := []) (fun t_ k_ => XS.icmpNo X5.here hx rfl (hb hby d22_11) rfl (tlt (by decide : ((2 : Int32) < (3 : Int32)))).2.1 k_) ?_
  refine Go.st (pc' := 15) (S' := [(.ref bu1)]) (fun t_ k_ => XS.aloadN X5.here hx rfl (hb hby d22_14) rfl rfl k_) ?_
  refine Go.st (pc' := 17) (S' := [(.int (2 : Int32)), (.ref bu1)]) (fun t_ k_ => XS.iload X5.here hx rfl (hb hby d22_15) rfl k_) ?_
  refine Go.st (pc' := 18) (S' := [(.ref a), (.int (2 : Int32)), (.ref bu1)]) (fun t_ k_ => XS.aloadN X5.here hx rfl (hb hby d22_17) rfl rfl k_) ?_
  refine Go.st (pc' := 19) (S' := [(.int (2 : Int32)), (.ref a), (.int (2 : Int32)), (.ref bu1)]) (fun t_ k_ => XS.iloadN X5.here hx rfl (hb hby d22_18) rfl k_) ?_
  obtain ⟨cl6, Ar6, -, q6a, q6b, q6c, q6d⟩ := id V_a
  refine Go.st (pc' := 20) (S' := [(.int x2), (.int (2 : Int32)), (.ref bu1)]) (fun t_ k_ => X5.caload hx (j := (2 : Int32)) (v := (.int x2)) (by rw [e5]; exact Ar6.1) (State.isArrayOf_alike hZ.alike Ar6.2.1) Ar6.2.2 (inb_of q6a ⟨by decide, by decide⟩) (q6c.at (inb_of q6a ⟨by decide, by decide⟩) rfl) (g := (mkF m 19 #[.val (.ref a), .val (.int (2 : Int32)), .val (.int (3 : Int32)), .val (.ref bu1), .val (.int (2 : Int32))] [(.int (2 : Int32)), (.ref a), (.int (2 : Int32)), (.ref bu1)])) rfl rfl (hb hby d22_19) t_ k_) ?_
  obtain ⟨_, _, ⟨T7, L7, k7, n7⟩, -, X7, ⟨Lc7, hQ7, l7, y7, z7⟩, st7⟩ := Jvm.LawKit.callS X5 hx (y := (⟨"java/lang/StringUTF16", "putChar", "([BII)V"⟩ : MethodName)) hown (mvT hZ (wd hw 105 rfl)) (mvT hZ (wd hw 106 rfl)) (mvT hZ (wd hw 86 rfl)) (mvT hZ (wd hw 107 rfl)) (by decide) (backOf (W := 0) (rmput3_2 l Z a0 hw [] bu1 _ (x2) ((own_lo x0)) ((own_hi x0)) ((own_lo x1)) ((own_hi x1)) ((0 : Int32)) ((0 : Int32)) h5 n0 Z0 SD SH SL O0 Vb5 g_bu1) hZ (wd hw 107 rfl) (wd hw 86 rfl) (by decide) (by decide)) (g := (mkF m 20 #[.val (.ref a), .val (.int (2 : Int32)), .val (.int (3 : Int32)), .val (.ref bu1), .val (.int (2 : Int32))] [(.int x2), (.int (2 : Int32)), (.ref bu1)])) rfl (by rw [hml]; rfl) (argsL := [(.ref bu1), (.int (2 : Int32)), (.int x2)]) (rest := []) (lenOf pd_16 rfl) rfl (by show 2 * 0 + _ ≤ _; exact Nat.le_of_eq rfl) (hb hby d22_20) (fun _ _ => ⟨rfl, e5, (by decide : 1 + 0 ≤ _), (by decide : 6 + 0 ≤ _)⟩)
  dsimp only [Pt.U, Pt.locs, Pt.cells, Pt.slots] at X7 l7 y7 z7 st7 hQ7
  subst l7 y7 z7
  obtain ⟨rfl, N7q, K7, Vb7⟩ := hQ7
  have N7 := Fr.app N5 N7q
  obtain ⟨h7, e7⟩ : ∃ z, T7.heap = z := ⟨_, rfl⟩
  rw [e7] at K7 Vb7
  replace Z0 := Nat.le_trans Z0 K7.1
  replace K0 := K0.trans K7 (allS (Or.inr sz_bu1) all0)
  replace O0 := O0.keep K7 (allS g_bu1 all0)
  replace V_a := V_a.keep K7 (ninS ne_a_bu1 nin0)
  refine Go.st (pc' := 23) (S' := []) st7 ?_
  refine Go.st (pc' := 26) (S' := []) (fun t_ k_ => XS.iinc X7.here hx rfl (hb hby d22_23) rfl (l' := #[.val (.ref a), .val (.int ((2 : Int32) + (1 : Int32))), .val (.int (3 : Int32)), .val (.ref bu1), .val (.int (2 : Int32))]) rfl k_) ?_
  rw [show ((2 : Int32) + (1 : Int32)) = (3 : Int32) from by decide]
  refine Go.st (pc' := 29) (S' := []) (fun t_ k_ => XS.iinc X7.here hx rfl (hb hby d22_26) rfl (l' := #[.val (.ref a), .val (.int (3 : Int32)), .val (.int (3 : Int32)), .val (.ref bu1), .val (.int ((2 : Int32) + (1 : Int32)))]) rfl k_) ?_
  rw [show ((2 : Int32) + (1 : Int32)) = (3 : Int32) from by decide]
  refine Go.st (pc' := 8) (S' := []) (fun t_ k_ => XS.goto X7.here hx rfl (pc0 := 29) (pc' := 8) rfl (hb hby d22_29) (by decide) (by decide) k_) ?_
  refine Go.st (pc' := 10) (S' := [(.int (3 : Int32))]) (fun t_ k_ => XS.iload X7.here hx rfl (hb hby d22_8) rfl k_) ?_
  refine Go.st (pc' := 11) (S' := [(.int (3 : Int32)), (.int (3 : Int32))]) (fun t_ k_ => XS.iloadN X7.here hx rfl (hb hby d22_10) rfl k_) ?_
  refine Go.st (pc' := 32) (S' := []) (fun t_ k_ => XS.icmpYes X7.here hx rfl (pc0 := 11) (pc' := 32) rfl (hb hby d22_11) rfl (flt (by decide : ¬ ((3 : Int32) < (3 : Int32)))).2.1 (by decide) (by decide) k_) ?_
  refine Go.st (pc' := 33) (S' := [(.ref bu1)]) (fun t_ k_ => XS.aloadN X7.here hx rfl (hb hby d22_32) rfl rfl k_) ?_
  exact Go.retO X7 hx hlk hret rfl (by simp [FieldType.isReference, Value.isRef]) (hb hby d22_33) (by decide) (by decide) (by rw [e7]; exact ⟨bu1, _, rfl, N7, K0, g_bu1, sz_bu1, Vb7⟩)

def Qcp3_3 (Z : State) (x0 : Int32) (x1 : Int32) (x2 : Int32) (h0 : Heap) (n0 : Nat) (v : Option Value) (h : Heap) (L : List Loc) : Prop := ∃ (b : Addr) (kb : ClassId), v = some (.ref b) ∧ Fr n0 L ∧ Keep h0 h [] ∧ n0 ≤ b ∧ h0.size ≤ b ∧ Arv Z h b kb .byte (6 : Int32) [(.int (own_lo x0)), (.int (own_hi x0)), (.int (own_lo x1)), (.int (own_hi x1)), (.int (own_lo x2)), (.int (own_hi x2))] (.int (0 : Int32))
def roomcp3_3 : Room := { frames := 3, cells := 2, slots := 9, locals := 40 }
theorem rmcp3_3 (l : Launch) (Z : State) (a0 : Array Value) (hw : ∀ d ∈ tables_1, d.before a0 Z = true) (ws : List Jvm.Cond) (a : Addr) (ka : ClassId) (x0 : Int32) (x1 : Int32) (x2 : Int32) (h0 : Heap) (n0 : Nat) (Z0 : n0 ≤ h0.size) (SD : Sta Z Z.heap "java/lang/StringUTF16" "$assertionsDisabled" "Z" (.int (1 : Int32))) (SH : Sta Z Z.heap "java/lang/StringUTF16" "HI_BYTE_SHIFT" "I" (.int (0 : Int32))) (SL : Sta Z Z.heap "java/lang/StringUTF16" "LO_BYTE_SHIFT" "I" (.int (8 : Int32))) (O0 : Old Z n0 h0) (V_a : Arv Z h0 a ka .char (3 : Int32) [(.int x0), (.int x1), (.int x2)] (.int (0 : Int32))) (bd0 : ¬ x0 < 0 ∧ ¬ (65535 : Int32) < x0) (bd1 : ¬ x1 < 0 ∧ ¬ (65535 : Int32) < x1) (bd2 : ¬ x2 < 0 ∧ ¬ (65535 : Int32) < x2) (hU : (255 : Int32) < x0 ∨ (255 : Int32) < x1 ∨ (255 : Int32) < x2) :
    OMet l (⟨"java/lang/StringUTF16", "compress", "([CII)[B"⟩ : MethodName) jdk_52_method_16_code 6 (some (.array .byte)) ws roomcp3_3 #[(.ref a), (.int (0 : Int32)), (.int (3 : Int32))] Z h0 (Qcp3_3 Z x0 x1 x2 h0 n0) := by
  refine own_met (Q := (Qcp3_3 Z x0 x1 x2 h0 n0)) (L0 := #[.val (.ref a), .val (.int (0 : Int32)), .val (.int (3 : Int32)), .unset, .unset, .unset]) (plainFor_of_name pn_6) (fun m => by first | (simp [entryFrame, mkF, argsToLocals, Value.category]; done) | rfl) ?_
  intro p e s m below meth c T0 X0 hx hby hml hown hnm hret hlk hZ e0
  have N0 := Fr.nil n0
  have K0 := Keep.refl h0 []
  refine Go.st (pc' := 1) (S' := [(.int (3 : Int32))]) (fun t_ k_ => XS.iloadN X0.here hx rfl (hb hby d19_0) rfl k_) ?_
  obtain ⟨T1, h1, k1, X1, e1, E1, A1, st1⟩ := newP X0 hx hZ (wd hw 19 rfl) e0 (g := (mkF m 1 #[.val (.ref a), .val (.int (0 : Int32)), .val (.int (3 : Int32)), .unset, .unset, .unset] [(.int (3 : Int32))])) rfl (hb hby d19_1) rfl (by decide) (cap := 3) (by decide) (by decide) (by decide) (by decide)
  obtain ⟨b1, g1⟩ : ∃ z, z = h0.size := ⟨_, rfl⟩
  rw [← g1] at A1 st1
  have ne_a_b1 : a ≠ b1 := Nat.ne_of_lt (Nat.lt_of_lt_of_le V_a.lt (Nat.le_of_eq g1.symm))
  have g_b1 : n0 ≤ b1 := Nat.le_trans Z0 (Nat.le_of_eq g1.symm)
  have sz_b1 : h0.size ≤ b1 := Nat.le_trans K0.1 (Nat.le_of_eq g1.symm)
  replace Z0 := Nat.le_trans Z0 E1.1
  replace K0 := K0.ext E1
  replace O0 := O0.ext E1
  replace V_a := V_a.ext E1
  have V_b1 : Arv Z h1 b1 k1 .byte (3 : Int32) [(.int (0 : Int32)), (.int (0 : Int32)), (.int (0 : Int32))] (.int (0 : Int32)) := (Arv.new A1 (by decide)).pad (pad_rep [] (.int (0 : Int32)) 3)
  refine Go.st (pc' := 3) (S' := [(.ref b1)]) st1 ?_
  refine Go.st (pc' := 4) (S' := []) (fun t_ k_ => XS.astoreN X1.here hx rfl (hb hby d19_3) rfl rfl (l' := #[.val (.ref a), .val (.int (0 : Int32)), .val (.int (3 : Int32)), .val (.ref b1), .unset, .unset]) rfl k_) ?_
  refine Go.st (pc' := 5) (S' := [(.ref a)]) (fun t_ k_ => XS.aloadN X1.here hx rfl (hb hby d19_4) rfl rfl k_) ?_
  refine Go.st (pc' := 6) (S' := [(.int (0 : Int32)), (.ref a)]) (fun t_ k_ => XS.iloadN X1.here hx rfl (hb hby d19_5) rfl k_) ?_
  refine Go.st (pc' := 7) (S' := [(.ref b1), (.int (0 : Int32)), (.ref a)]) (fun t_ k_ => XS.aloadN X1.here hx rfl (hb hby d19_6) rfl rfl k_) ?_
  refine Go.st (pc' := 8) (S' := [(.int (0 : Int32)), (.ref b1), (.int (0 : Int32)), (.ref a)]) (fun t_ k_ => XS.iconst X1.here hx rfl (hb hby d19_7) k_) ?_
  refine Go.st (pc' := 9) (S' := [(.int (3 : Int32)), (.int (0 : Int32)), (.ref b1), (.int (0 : Int32)), (.ref a)]) (fun t_ k_ => XS.iloadN X1.here hx rfl (hb hby d19_8) rfl k_) ?_
  obtain ⟨_, _, ⟨T2, L2, k2, n2⟩, -, X2, ⟨Lc2, hQ2, l2, y2, z2⟩, st2⟩ := Jvm.LawKit.callS X1 hx (y := (⟨"java/lang/StringUTF16", "compress", "([CI[BII)I"⟩ : MethodName)) hown (mvT hZ (wd hw 88 rfl)) (mvT hZ (wd hw 89 rfl)) (mvT hZ (wd hw 86 rfl)) (mvT hZ (wd hw 90 rfl)) (by decide) (backOf (W := 0) (rmcp5_3 l Z a0 hw [] a _ b1 _ (x0) (x1) (x2) h1 n0 Z0 V_a V_b1 g_b1 ne_a_b1 hU) hZ (wd hw 90 rfl) (wd hw 86 rfl) (by decide) (by decide)) (g := (mkF m 9 #[.val (.ref a), .val (.int (0 : Int32)), .val (.int (3 : Int32)), .val (.ref b1), .unset, .unset] [(.int (3 : Int32)), (.int (0 : Int32)), (.ref b1), (.int (0 : Int32)), (.ref a)])) rfl (by rw [hml]; rfl) (argsL := [(.ref a), (.int (0 : Int32)), (.ref b1), (.int (0 : Int32)), (.int (3 : Int32))]) (rest := []) (lenOf pd_18 rfl) rfl (by show 2 * 0 + _ ≤ _; exact Nat.le_of_eq rfl) (hb hby d19_9) (fun _ _ => ⟨rfl, e1, (by decide : 1 + 0 ≤ _), (by decide : 3 + 0 ≤ _)⟩)
  dsimp only [Pt.U, Pt.locs, Pt.cells, Pt.slots] at X2 l2 y2 z2 st2 hQ2
  subst l2 y2 z2
  obtain ⟨rc, rfl, hr, N2q, K2⟩ := hQ2
  have N2 := Fr.app N0 N2q
  obtain ⟨h2, e2⟩ : ∃ z, T2.heap = z := ⟨_, rfl⟩
  rw [e2] at K2
  replace Z0 := Nat.le_trans Z0 K2.1
  replace K0 := K0.trans K2 (allS (Or.inr sz_b1) all0)
  replace O0 := O0.keep K2 (allS g_b1 all0)
  replace V_a := V_a.keep K2 (ninS ne_a_b1 nin0)
  refine Go.st (pc' := 12) (S' := [(.int rc)]) st2 ?_
  refine Go.st (pc' := 14) (S' := []) (fun t_ k_ => XS.istore X2.here hx rfl (hb hby d19_12) rfl (l' := #[.val (.ref a), .val (.int (0 : Int32)), .val (.int (3 : Int32)), .val (.ref b1), .val (.int rc), .unset]) rfl k_) ?_
  refine Go.st (pc' := 16) (S' := [(.int rc)]) (fun t_ k_ => XS.iload X2.here hx rfl (hb hby d19_14) rfl k_) ?_
  refine Go.st (pc' := 17) (S' := [(.int (3 : Int32)), (.int rc)]) (fun t_ k_ => XS.iloadN X2.here hx rfl (hb hby d19_16) rfl k_) ?_
  refine Go.st (pc' := 20) (S' := []) (fun t_ k_ => XS.icmpNo X2.here hx rfl (hb hby d19_17) rfl (feq (by rcases hr with ⟨zr, gx⟩ | ⟨zr, gx⟩ | ⟨zr, gx⟩ <;> rw [zr] <;> decide : ¬ (rc = (3 : Int32)))).1 k_) ?_
  refine Go.st (pc' := 21) (S' := [(.ref a)]) (fun t_ k_ => XS.aloadN X2.here hx rfl (hb hby d19_20) rfl rfl k_) ?_
  refine Go.st (pc' := 22) (S' := [(.int (0 : Int32)), (.ref a)]) (fun t_ k_ => XS.iloadN X2.here hx rfl (hb hby d19_21) rfl k_) ?_
  refine Go.st (pc' := 23) (S' := [(.int (3 : Int32)), (.int (0 : Int32)), (.ref a)]) (fun t_ k_ => XS.iloadN X2.here hx rfl (hb hby d19_22) rfl k_) ?_
  obtain ⟨_, _, ⟨T3, L3, k3, n3⟩, -, X3, ⟨Lc3, hQ3, l3, y3, z3⟩, st3⟩ := Jvm.LawKit.callS X2 hx (y := (⟨"java/lang/StringUTF16", "toBytes", "([CII)[B"⟩ : MethodName)) hown (mvT hZ (wd hw 95 rfl)) (mvT hZ (wd hw 96 rfl)) (mvT hZ (wd hw 86 rfl)) (mvT hZ (wd hw 97 rfl)) (by decide) (backOf (W := 0) (rmtoB3 l Z a0 hw [] a _ (x0) (x1) (x2) h2 n0 Z0 SD SH SL O0 V_a) hZ (wd hw 97 rfl) (wd hw 86 rfl) (by decide) (by decide)) (g := (mkF m 23 #[.val (.ref a), .val (.int (0 : Int32)), .val (.int (3 : Int32)), .val (.ref b1), .val (.int rc), .unset] [(.int (3 : Int32)), (.int (0 : Int32)), (.ref a)])) rfl (by rw [hml]; rfl) (argsL := [(.ref a), (.int (0 : Int32)), (.int (3 : Int32))]) (rest := []) (lenOf pd_21 rfl) rfl (by show 2 * 0 + _ ≤ _; exact Nat.le_of_eq rfl) (hb hby d19_23) (fun _ _ => ⟨rfl, e2, (by decide : 1 + 1 ≤ _), (by decide : 3 + 6 ≤ _)⟩)
  dsimp only [Pt.U, Pt.locs, Pt.cells, Pt.slots] at X3 l3 y3 z3 st3 hQ3
  subst l3 y3 z3
  obtain ⟨bu3, kb3, rfl, N3q, K3, g_bu3, lt3, Vb3⟩ := hQ3
  have N3 := Fr.app N2 N3q
  have ne_a_bu3 : a ≠ bu3 := Nat.ne_of_lt (Nat.lt_of_lt_of_le V_a.lt lt3)
  have sz_bu3 : h0.size ≤ bu3 := Nat.le_trans K0.1 lt3
  obtain ⟨h3, e3⟩ : ∃ z, T3.heap = z := ⟨_, rfl⟩
  rw [e3] at K3 Vb3
  replace Z0 := Nat.le_trans Z0 K3.1
  replace K0 := K0.trans K3 all0
  replace O0 := O0.keep K3 all0
  replace V_a := V_a.keep K3 nin0
  refine Go.st (pc' := 26) (S' := [(.ref bu3)]) st3 ?_
  refine Go.st (pc' := 28) (S' := []) (fun t_ k_ => XS.astore X3.here hx rfl (hb hby d19_26) rfl rfl (l' := #[.val (.ref a), .val (.int (0 : Int32)), .val (.int (3 : Int32)), .val (.ref b1), .val (.int rc), .val (.ref bu3)]) rfl k_) ?_
  refine Go.st (pc' := 30) (S' := [(.ref bu3)]) (fun t_ k_ => XS.aload X3.here hx rfl (hb hby d19_28) rfl rfl k_) ?_
  refine Go.st (pc' := 32) (S' := [(.int rc), (.ref bu3)]) (fun t_ k_ => XS.iload X3.here hx rfl (hb hby d19_30) rfl k_) ?_
  rcases hr with ⟨zr, gx⟩ | ⟨zr, gx⟩ | ⟨zr, gx⟩
  · subst zr
    obtain ⟨_, _, ⟨T4, L4, k4, n4⟩, -, X4, ⟨Lc4, hQ4, l4, y4, z4⟩, st4⟩ := Jvm.LawKit.callS X3 hx (y := (⟨"java/lang/StringUTF16", "getChar", "([BI)C"⟩ : MethodName)) hown (mvT hZ (wd hw 111 rfl)) (mvT hZ (wd hw 112 rfl)) (mvT hZ (wd hw 86 rfl)) (mvT hZ (wd hw 113 rfl)) (by decide) (backOf (W := 0) (rmgetc3_0 l Z a0 hw [] bu3 _ ((own_lo x0)) ((own_hi x0)) ((own_lo x1)) ((own_hi x1)) ((own_lo x2)) ((own_hi x2)) h3 n0 Z0 SD SH SL O0 Vb3) hZ (wd hw 113 rfl) (wd hw 86 rfl) (by decide) (by decide)) (g := (mkF m 32 #[.val (.ref a), .val (.int (0 : Int32)), .val (.int (3 : Int32)), .val (.ref b1), .val (.int (0 : Int32)), .val (.ref bu3)] [(.int (0 : Int32)), (.ref bu3)])) rfl (by rw [hml]; rfl) (argsL := [(.ref bu3), (.int (0 : Int32))]) (rest := []) (lenOf pd_10 rfl) rfl (by show 2 * 0 + _ ≤ _; exact Nat.le_of_eq rfl) (hb hby d19_32) (fun _ _ => ⟨rfl, e3, (by decide : 2 + 0 ≤ _), (by decide : 9 + 0 ≤ _)⟩)
    dsimp only [Pt.U, Pt.locs, Pt.cells, Pt.slots] at X4 l4 y4 z4 st4 hQ4
    subst l4 y4 z4
    obtain ⟨rc4, rfl, hr4, N4q, e4⟩ := hQ4
    have N4 := Fr.app N3 N4q
    replace hr4 : rc4 = x0 := hr4.trans (by rw [own_gc _ bd0.1 bd0.2, own_nch0 _ bd0.1 bd0.2])
    subst rc4
    refine Go.st (pc' := 35) (S' := [(.int x0)]) st4 ?_
    refine Go.st (pc' := 38) (S' := [(.int (255 : Int32)), (.int x0)]) (fun t_ k_ => XS.sipush X4.here hx rfl (hb hby d19_35) k_) ?_
    refine Go.st (pc' := 54) (S' := []) (fun t_ k_ => XS.icmpYes X4.here hx rfl (pc0 := 38) (pc' := 54) rfl (hb hby d19_38) rfl (tlt (gx : ((255 : Int32) < x0))).2.2.1 (by decide) (by decide) k_) ?_
    refine Go.st (pc' := 56) (S' := [(.ref bu3)]) (fun t_ k_ => XS.aload X4.here hx rfl (hb hby d19_54) rfl rfl k_) ?_
    exact Go.retO X4 hx hlk hret rfl (by simp [FieldType.isReference, Value.isRef]) (hb hby d19_56) (by decide) (by decide) (by rw [e4]; exact ⟨bu3, _, rfl, N4, K0, g_bu3, sz_bu3, Vb3⟩)
  · subst zr
    obtain ⟨_, _, ⟨T5, L5, k5, n5⟩, -, X5, ⟨Lc5, hQ5, l5, y5, z5⟩, st5⟩ := Jvm.LawKit.callS X3 hx (y := (⟨"java/lang/StringUTF16", "getChar", "([BI)C"⟩ : MethodName)) hown (mvT hZ (wd hw 111 rfl)) (mvT hZ (wd hw 112 rfl)) (mvT hZ (wd hw 86 rfl)) (mvT hZ (wd hw 113 rfl)) (by decide) (backOf (W := 0) (rmgetc3_1 l Z a0 hw [] bu3 _ ((own_lo x0)) ((own_hi x0)) ((own_lo x1)) ((own_hi x1)) ((own_lo x2)) ((own_hi x2)) h3 n0 Z0 SD SH SL O0 Vb3) hZ (wd hw 113 rfl) (wd hw 86 rfl) (by decide) (by decide)) (g := (mkF m 32 #[.val (.ref a), .val (.int (0 : Int32)), .val (.int (3 : Int32)), .val (.ref b1), .val (.int (1 : Int32)), .val (.ref bu3)] [(.int (1 : Int32)), (.ref bu3)])) rfl (by rw [hml]; rfl) (argsL := [(.ref bu3), (.int (1 : Int32))]) (rest := []) (lenOf pd_10 rfl) rfl (by show 2 * 0 + _ ≤ _; exact Nat.le_of_eq rfl) (hb hby d19_32) (fun _ _ => ⟨rfl, e3, (by decide : 2 + 0 ≤ _), (by decide : 9 + 0 ≤ _)⟩)
    dsimp only [Pt.U, Pt.locs, Pt.cells, Pt.slots] at X5 l5 y5 z5 st5 hQ5
    subst l5 y5 z5
    obtain ⟨rc5, rfl, hr5, N5q, e5⟩ := hQ5
    have N5 := Fr.app N3 N5q
    replace hr5 : rc5 = x1 := hr5.trans (by rw [own_gc _ bd1.1 bd1.2, own_nch0 _ bd1.1 bd1.2])
    subst rc5
    refine Go.st (pc' := 35) (S' := [(.int x1)]) st5 ?_
    refine Go.st (pc' := 38) (S' := [(.int (255 : Int32)), (.int x1)]) (fun t_ k_ => XS.sipush X5.here hx rfl (hb hby d19_35) k_) ?_
    refine Go.st (pc' := 54) (S' := []) (fun t_ k_ => XS.icmpYes X5.here hx rfl (pc0 := 38) (pc' := 54) rfl (hb hby d19_38) rfl (tlt (gx : ((255 : Int32) < x1))).2.2.1 (by decide) (by decide) k_) ?_
    refine Go.st (pc' := 56) (S' := [(.ref bu3)]) (fun t_ k_ => XS.aload X5.here hx rfl (hb hby d19_54) rfl rfl k_) ?_
    exact Go.retO X5 hx hlk hret rfl (by simp [FieldType.isReference, Value.isRef]) (hb hby d19_56) (by decide) (by decide) (by rw [e5]; exact ⟨bu3, _, rfl, N5, K0, g_bu3, sz_bu3, Vb3⟩)
  · subst zr
    obtain ⟨_, _, ⟨T6, L6, k6, n6⟩, -, X6, ⟨Lc6, hQ6, l6, y6, z6⟩, st6⟩ := Jvm.LawKit.callS X3 hx (y := (⟨"java/lang/StringUTF16", "getChar", "([BI)C"⟩ : MethodName)) hown (mvT hZ (wd hw 111 rfl)) (mvT hZ (wd hw 112 rfl)) (mvT hZ (wd hw 86 rfl)) (mvT hZ (wd hw 113 rfl)) (by decide) (backOf (W := 0) (rmgetc3_2 l Z a0 hw [] bu3 _ ((own_lo x0)) ((own_hi x0)) ((own_lo x1)) ((own_hi x1)) ((own_lo x2)) ((own_hi x2)) h3 n0 Z0 SD SH SL O0 Vb3) hZ (wd hw 113 rfl) (wd hw 86 rfl) (by decide) (by decide)) (g := (mkF m 32 #[.val (.ref a), .val (.int (0 : Int32)), .val (.int (3 : Int32)), .val (.ref b1), .val (.int (2 : Int32)), .val (.ref bu3)] [(.int (2 : Int32)), (.ref bu3)])) rfl (by rw [hml]; rfl) (argsL := [(.ref bu3), (.int (2 : Int32))]) (rest := []) (lenOf pd_10 rfl) rfl (by show 2 * 0 + _ ≤ _; exact Nat.le_of_eq rfl) (hb hby d19_32) (fun _ _ => ⟨rfl, e3, (by decide : 2 + 0 ≤ _), (by decide : 9 + 0 ≤ _)⟩)
    dsimp only [Pt.U, Pt.locs, Pt.cells, Pt.slots] at X6 l6 y6 z6 st6 hQ6
    subst l6 y6 z6
    obtain ⟨rc6, rfl, hr6, N6q, e6⟩ := hQ6
    have N6 := Fr.app N3 N6q
    replace hr6 : rc6 = x2 := hr6.trans (by rw [own_gc _ bd2.1 bd2.2, own_nch0 _ bd2.1 bd2.2])
    subst rc6
    refine Go.st (pc' := 35) (S' := [(.int x2)]) st6 ?_
    refine Go.st (pc' := 38) (S' := [(.int (255 : Int32)), (.int x2)]) (fun t_ k_ => XS.sipush X6.here hx rfl (hb hby d19_35) k_) ?_
    refine Go.st (pc' := 54) (S' := []) (fun t_ k_ => XS.icmpYes X6.here hx rfl (pc0 := 38) (pc' := 54) rfl (hb hby d19_38) rfl (tlt (gx : ((255 : Int32) < x2))).2.2.1 (by decide) (by decide) k_) ?_
    refine Go.st (pc' := 56) (S' := [(.ref bu3)]) (fun t_ k_ => XS.aload X6.here hx rfl (hb hby d19_54) rfl rfl k_) ?_
    exact Go.retO X6 hx hlk hret rfl (by simp [FieldType.isReference, Value.isRef]) (hb hby d19_56) (by decide) (by decide) (by rw [e6]; exact ⟨bu3, _, rfl, N6, K0, g_bu3, sz_bu3, Vb3⟩)

def Qcfal3 (Z : State) (b : Addr) (kb : ClassId) (y0 : Int32) (y1 : Int32) (y2 : Int32) (y3 : Int32) (y4 : Int32) (y5 : Int32) (h0 : Heap) (n0 : Nat) (v : Option Value) (h : Heap) (L : List Loc) : Prop := v = some (.int 1) ∧ Fr n0 L ∧ h = h0
def roomcfal3 : Room := { frames := 0, cells := 0, slots := 0, locals := 0 }
theorem rmcfal3 (l : Launch) (Z : State) (a0 : Array Value) (hw : ∀ d ∈ tables_1, d.before a0 Z = true) (ws : List Jvm.Cond) (b : Addr) (kb : ClassId) (y0 : Int32) (y1 : Int32) (y2 : Int32) (y3 : Int32) (y4 : Int32) (y5 : Int32) (h0 : Heap) (n0 : Nat) (Z0 : n0 ≤ h0.size) (V_b : Arv Z h0 b kb .byte (6 : Int32) [(.int y0), (.int y1), (.int y2), (.int y3), (.int y4), (.int y5)] (.int (0 : Int32))) :
    OMet l (⟨"java/lang/StringUTF16", "coderFromArrayLen", "([BI)B"⟩ : MethodName) jdk_52_method_15_code 2 (some .byte) ws roomcfal3 #[(.ref b), (.int (3 : Int32))] Z h0 (Qcfal3 Z b kb y0 y1 y2 y3 y4 y5 h0 n0) := by
  refine own_met (Q := (Qcfal3 Z b kb y0 y1 y2 y3 y4 y5 h0 n0)) (L0 := #[.val (.ref b), .val (.int (3 : Int32))]) (plainFor_of_name pn_6) (fun m => by first | (simp [entryFrame, mkF, argsToLocals, Value.category]; done) | rfl) ?_
  intro p e s m below meth c T0 X0 hx hby hml hown hnm hret hlk hZ e0
  have N0 := Fr.nil n0
  refine Go.st (pc' := 1) (S' := [(.int (3 : Int32))]) (fun t_ k_ => XS.iloadN X0.here hx rfl (hb hby d21_0) rfl k_) ?_
  refine Go.st (pc' := 2) (S' := [(.ref b), (.int (3 : Int32))]) (fun t_ k_ => XS.aloadN X0.here hx rfl (hb hby d21_1) rfl rfl k_) ?_
  obtain ⟨cl1, Ar1, -, q1a, q1b, -, -⟩ := id V_b
  refine Go.st (pc' := 3) (S' := [(.int (6 : Int32)), (.int (3 : Int32))]) (fun t_ k_ => own_len X0 hx hZ e0 Ar1 q1a q1b (g := (mkF m 2 #[.val (.ref b), .val (.int (3 : Int32))] [(.ref b), (.int (3 : Int32))])) rfl rfl (hb hby d21_2) t_ k_) ?_
  refine Go.st (pc' := 4) (S' := [(.int ((3 : Int32) - (6 : Int32)))]) (fun t_ k_ => XS.isub X0.here hx rfl (hb hby d21_3) rfl k_) ?_
  rw [show ((3 : Int32) - (6 : Int32)) = (-3 : Int32) from by decide]
  refine Go.st (pc' := 6) (S' := [(.int (31 : Int32)), (.int (-3 : Int32))]) (fun t_ k_ => XS.bipush X0.here hx rfl (hb hby d21_4) k_) ?_
  refine Go.st (pc' := 7) (S' := [(.int (((-3 : Int32).toUInt32 >>> ((31 : Int32) &&& 31).toUInt32).toInt32))]) (fun t_ k_ => XS.iushr X0.here hx rfl (hb hby d21_6) rfl k_) ?_
  rw [show (((-3 : Int32).toUInt32 >>> ((31 : Int32) &&& 31).toUInt32).toInt32) = (1 : Int32) from by decide]
  refine Go.st (pc' := 8) (S' := [(.int ((1 : Int32).toInt8.toInt32))]) (fun t_ k_ => XS.i2b X0.here hx rfl (hb hby d21_7) rfl k_) ?_
  rw [show ((1 : Int32).toInt8.toInt32) = (1 : Int32) from by decide]
  exact Go.retN X0 hx hlk hret (by simp) (hb hby d21_8) (by decide) (by decide) (by rw [e0]; exact ⟨rfl, N0, rfl⟩)

def Qiu149_3 (Z : State) (a1 : Addr) (x0 : Int32) (x1 : Int32) (x2 : Int32) (h0 : Heap) (n0 : Nat) (v : Option Value) (h : Heap) (L : List Loc) : Prop := ∃ (t : Addr) (kt : ClassId), v = none ∧ Fr n0 L ∧ Keep h0 h [a1] ∧ h0.size ≤ t ∧ Fld Z h a1 "java/lang/String" "coder" "B" (.int (1 : Int32)) ∧ Fld Z h a1 "java/lang/String" "value" "[B" (.ref t) ∧ Arv Z h t kt .byte (6 : Int32) [(.int (own_lo x0)), (.int (own_hi x0)), (.int (own_lo x1)), (.int (own_hi x1)), (.int (own_lo x2)), (.int (own_hi x2))] (.int (0 : Int32))
def roomiu149_3 : Room := { frames := 4, cells := 2, slots := 9, locals := 57 }
theorem rmiu149_3 (l : Launch) (Z : State) (a0 : Array Value) (hw : ∀ d ∈ tables_1, d.before a0 Z = true) (ws : List Jvm.Cond) (a1 : Addr) (a : Addr) (ka : ClassId) (gC : Int32) (x0 : Int32) (x1 : Int32) (x2 : Int32) (h0 : Heap) (n0 : Nat) (Z0 : n0 ≤ h0.size) (SC : Sta Z Z.heap "java/lang/String" "COMPACT_STRINGS" "Z" (.int gC)) (PC : ¬ (gC = (0 : Int32))) (SD : Sta Z Z.heap "java/lang/StringUTF16" "$assertionsDisabled" "Z" (.int (1 : Int32))) (SH : Sta Z Z.heap "java/lang/StringUTF16" "HI_BYTE_SHIFT" "I" (.int (0 : Int32))) (SL : Sta Z Z.heap "java/lang/StringUTF16" "LO_BYTE_SHIFT" "I" (.int (8 : Int32))) (O0 : Old Z n0 h0) (E_a1 : Exa Z h0 a1 "java/lang/String") (g_a1 : n0 ≤ a1) (F_value : Fld Z h0 a1 "java/lang/String" "value" "[B" .null) (F_coder : Fld Z h0 a1 "java/lang/String" "coder" "B" (.int (0 : Int32))) (n1 : a1 ≠ a) (V_a : Arv Z h0 a ka .char (3 : Int32) [(.int x0), (.int x1), (.int x2)] (.int (0 : Int32))) (bd0 : ¬ x0 < 0 ∧ ¬ (65535 : Int32) < x0) (bd1 : ¬ x1 < 0 ∧ ¬ (65535 : Int32) < x1) (bd2 : ¬ x2 < 0 ∧ ¬ (65535 : Int32) < x2) (hU : (255 : Int32) < x0 ∨ (255 : Int32) < x1 ∨ (255 : Int32) < x2) :
    OMet l (⟨"java/lang/String", "<init>", "([CIILjava/lang/Void;)V"⟩ : MethodName) jdk_42_method_149_code 6 none ws roomiu149_3 #[(.ref a1), (.ref a), (.int (0 : Int32)), (.int (3 : Int32)), .null] Z h0 (Qiu149_3 Z a1 x0 x1 x2 h0 n0) := by
  refine own_met (Q := (Qiu149_3 Z a1 x0 x1 x2 h0 n0)) (L0 := #[.val (.ref a1), .val (.ref a), .val (.int (0 : Int32)), .val (.int (3 : Int32)), .val .null, .unset]) (plainFor_of_name pn_0) (fun m => by first | (simp [entryFrame, mkF, argsToLocals, Value.category]; done) | rfl) ?_
  intro p e s m below meth c T0 X0 hx hby hml hown hnm hret hlk hZ e0
  have N0 := Fr.nil n0
  have K0 := Keep.refl h0 [a1]
  refine Go.st (pc' := 1) (S' := [(.ref a1)]) (fun t_ k_ => XS.aloadN X0.here hx rfl (hb hby d18_0) rfl rfl k_) ?_
  obtain ⟨T1, X1, e1, st1⟩ := initO X0 hx hZ hown (wd hw 24 rfl) (wd hw 25 rfl) (wd hw 26 rfl) e0 (g := (mkF m 1 #[.val (.ref a1), .val (.ref a), .val (.int (0 : Int32)), .val (.int (3 : Int32)), .val .null, .unset] [(.ref a1)])) rfl (by rw [hml]; rfl) rfl (hb hby d18_1) (by decide) (W := 0) (by show 2 * 0 + _ ≤ _; exact Nat.le_of_eq rfl) (by decide)
  refine Go.st (pc' := 4) (S' := []) st1 ?_
  refine Go.st (pc' := 5) (S' := [(.int (3 : Int32))]) (fun t_ k_ => XS.iloadN X1.here hx rfl (hb hby d18_4) rfl k_) ?_
  refine Go.st (pc' := 27) (S' := []) (fun t_ k_ => XS.ifYes X1.here hx rfl (pc0 := 5) (pc' := 27) rfl (hb hby d18_5) rfl ((if0 _ _).trans (feq (by decide : ¬ ((3 : Int32) = (0 : Int32)))).2) (by decide) (by decide) k_) ?_
  obtain ⟨T2, X2, e2, st2⟩ := getS2 X1 hx hZ hown (host := "") (Or.inl (wd hw 9 rfl)) Via.refl e1 (SC.ext O0.2) (g := (mkF m 27 #[.val (.ref a1), .val (.ref a), .val (.int (0 : Int32)), .val (.int (3 : Int32)), .val .null, .unset] [])) rfl (hb hby d18_27)
  refine Go.st (pc' := 30) (S' := [(.int gC)]) st2 ?_
  refine Go.st (pc' := 33) (S' := []) (fun t_ k_ => XS.ifNo X2.here hx rfl (hb hby d18_30) rfl ((if0 _ _).trans (feq (PC : ¬ (gC = (0 : Int32)))).1) k_) ?_
  refine Go.st (pc' := 34) (S' := [(.ref a)]) (fun t_ k_ => XS.aloadN X2.here hx rfl (hb hby d18_33) rfl rfl k_) ?_
  refine Go.st (pc' := 35) (S' := [(.int (0 : Int32)), (.ref a)]) (fun t_ k_ => XS.iloadN X2.here hx rfl (hb hby d18_34) rfl k_) ?_
  refine Go.st (pc' := 36) (S' := [(.int (3 : Int32)), (.int (0 : Int32)), (.ref a)]) (fun t_ k_ => XS.iloadN X2.here hx rfl (hb hby d18_35) rfl k_) ?_
  obtain ⟨_, _, ⟨T3, L3, k3, n3⟩, -, X3, ⟨Lc3, hQ3, l3, y3, z3⟩, st3⟩ := Jvm.LawKit.callS X2 hx (y := (⟨"java/lang/StringUTF16", "compress", "([CII)[B"⟩ : MethodName)) hown (mvT hZ (wd hw 84 rfl)) (mvT hZ (wd hw 85 rfl)) (mvT hZ (wd hw 86 rfl)) (mvT hZ (wd hw 87 rfl)) (by decide) (backOf (W := 0) (rmcp3_3 l Z a0 hw [] a _ (x0) (x1) (x2) h0 n0 Z0 SD SH SL O0 V_a bd0 bd1 bd2 hU) hZ (wd hw 87 rfl) (wd hw 86 rfl) (by decide) (by decide)) (g := (mkF m 36 #[.val (.ref a1), .val (.ref a), .val (.int (0 : Int32)), .val (.int (3 : Int32)), .val .null, .unset] [(.int (3 : Int32)), (.int (0 : Int32)), (.ref a)])) rfl (by rw [hml]; rfl) (argsL := [(.ref a), (.int (0 : Int32)), (.int (3 : Int32))]) (rest := []) (lenOf pd_21 rfl) rfl (by show 2 * 0 + _ ≤ _; exact Nat.le_of_eq rfl) (hb hby d18_36) (fun _ _ => ⟨rfl, e2, (by decide : 0 + 2 ≤ _), (by decide : 0 + 9 ≤ _)⟩)
  dsimp only [Pt.U, Pt.locs, Pt.cells, Pt.slots] at X3 l3 y3 z3 st3 hQ3
  subst l3 y3 z3
  obtain ⟨bu3, kb3, rfl, N3q, K3, g_bu3, lt3, Vb3⟩ := hQ3
  have N3 := Fr.app N0 N3q
  have ne_a1_bu3 : a1 ≠ bu3 := Nat.ne_of_lt (Nat.lt_of_lt_of_le E_a1.lt lt3)
  have ne_a_bu3 : a ≠ bu3 := Nat.ne_of_lt (Nat.lt_of_lt_of_le V_a.lt lt3)
  have sz_bu3 : h0.size ≤ bu3 := Nat.le_trans K0.1 lt3
  obtain ⟨h3, e3⟩ : ∃ z, T3.heap = z := ⟨_, rfl⟩
  rw [e3] at K3 Vb3
  replace Z0 := Nat.le_trans Z0 K3.1
  replace K0 := K0.trans K3 all0
  replace O0 := O0.keep K3 all0
  replace E_a1 := E_a1.keep K3
  replace F_value := F_value.keep K3 nin0
  replace F_coder := F_coder.keep K3 nin0
  replace V_a := V_a.keep K3 nin0
  refine Go.st (pc' := 39) (S' := [(.ref bu3)]) st3 ?_
  refine Go.st (pc' := 41) (S' := []) (fun t_ k_ => XS.astore X3.here hx rfl (hb hby d18_39) rfl rfl (l' := #[.val (.ref a1), .val (.ref a), .val (.int (0 : Int32)), .val (.int (3 : Int32)), .val .null, .val (.ref bu3)]) rfl k_) ?_
  refine Go.st (pc' := 42) (S' := [(.ref a1)]) (fun t_ k_ => XS.aloadN X3.here hx rfl (hb hby d18_41) rfl rfl k_) ?_
  refine Go.st (pc' := 44) (S' := [(.ref bu3), (.ref a1)]) (fun t_ k_ => XS.aload X3.here hx rfl (hb hby d18_42) rfl rfl k_) ?_
  refine Go.st (pc' := 45) (S' := [(.int (3 : Int32)), (.ref bu3), (.ref a1)]) (fun t_ k_ => XS.iloadN X3.here hx rfl (hb hby d18_44) rfl k_) ?_
  obtain ⟨_, _, ⟨T4, L4, k4, n4⟩, -, X4, ⟨Lc4, hQ4, l4, y4, z4⟩, st4⟩ := Jvm.LawKit.callS X3 hx (y := (⟨"java/lang/StringUTF16", "coderFromArrayLen", "([BI)B"⟩ : MethodName)) hown (mvT hZ (wd hw 91 rfl)) (mvT hZ (wd hw 92 rfl)) (mvT hZ (wd hw 86 rfl)) (mvT hZ (wd hw 93 rfl)) (by decide) (backOf (W := 1) (rmcfal3 l Z a0 hw [] bu3 _ ((own_lo x0)) ((own_hi x0)) ((own_lo x1)) ((own_hi x1)) ((own_lo x2)) ((own_hi x2)) h3 n0 Z0 Vb3) hZ (wd hw 93 rfl) (wd hw 86 rfl) (by decide) (by decide)) (g := (mkF m 45 #[.val (.ref a1), .val (.ref a), .val (.int (0 : Int32)), .val (.int (3 : Int32)), .val .null, .val (.ref bu3)] [(.int (3 : Int32)), (.ref bu3), (.ref a1)])) rfl (by rw [hml]; rfl) (argsL := [(.ref bu3), (.int (3 : Int32))]) (rest := [(.ref a1)]) (lenOf pd_22 rfl) rfl (by show 2 * 0 + _ ≤ _; exact Nat.le_of_eq rfl) (hb hby d18_45) (fun _ _ => ⟨rfl, e3, (by decide : 2 + 0 ≤ _), (by decide : 9 + 0 ≤ _)⟩)
  dsimp only [Pt.U, Pt.locs, Pt.cells, Pt.slots] at X4 l4 y4 z4 st4 hQ4
  subst l4 y4 z4
  obtain ⟨rfl, N4q, e4⟩ := hQ4
  have N4 := Fr.app N3 N4q
  refine Go.st (pc' := 48) (S' := [(.int (1 : Int32)), (.ref a1)]) st4 ?_
  obtain ⟨T5, h5, X5, e5, W5, st5⟩ := putFN X4 hx hZ hown (wd hw 29 rfl) Via.refl e4 F_coder E_a1 (Or.inr ⟨(wd hw 30 rfl), rfl, hnm⟩) (wd hw 15 rfl) (ty := .byte) (v' := (.int (1 : Int32))) (by decide) rfl rfl (g := (mkF m 48 #[.val (.ref a1), .val (.ref a), .val (.int (0 : Int32)), .val (.int (3 : Int32)), .val .null, .val (.ref bu3)] [(.int (1 : Int32)), (.ref a1)])) rfl rfl (hb hby d18_48)
  replace Z0 := Nat.le_trans Z0 (Keep.of_wr W5).1
  replace K0 := K0.wr W5 (Or.inl (List.mem_of_getElem? (i := 0) rfl))
  replace O0 := O0.wr W5 g_a1
  replace E_a1 := E_a1.wr W5
  replace F_value := F_value.other W5 (Or.inr (slot_ne (Or.inr (wd hw 28 rfl)) (Or.inr (wd hw 30 rfl)) (by decide) (t := (.array .byte)) (t' := .byte) (by decide) (by decide)))
  replace V_a := V_a.other W5 (Ne.symm n1)
  replace Vb3 := Vb3.other W5 (Ne.symm ne_a1_bu3)
  replace F_coder := F_coder.same W5
  have N5 := Fr.snoc X5 N4 g_a1
  refine Go.st (pc' := 51) (S' := []) st5 ?_
  refine Go.st (pc' := 52) (S' := [(.ref a1)]) (fun t_ k_ => XS.aloadN X5.here hx rfl (hb hby d18_51) rfl rfl k_) ?_
  refine Go.st (pc' := 54) (S' := [(.ref bu3), (.ref a1)]) (fun t_ k_ => XS.aload X5.here hx rfl (hb hby d18_52) rfl rfl k_) ?_
  obtain ⟨T6, h6, X6, e6, W6, st6⟩ := putF X5 hx hZ hown (host := "") (Or.inl (wd hw 27 rfl)) Via.refl e5 F_value E_a1 (Or.inr ⟨(wd hw 28 rfl), rfl, hnm⟩) (wd hw 15 rfl) (ty := (.array .byte)) (by decide) rfl rfl (g := (mkF m 54 #[.val (.ref a1), .val (.ref a), .val (.int (0 : Int32)), .val (.int (3 : Int32)), .val .null, .val (.ref bu3)] [(.ref bu3), (.ref a1)])) rfl rfl (hb hby d18_54)
  replace Z0 := Nat.le_trans Z0 (Keep.of_wr W6).1
  replace K0 := K0.wr W6 (Or.inl (List.mem_of_getElem? (i := 0) rfl))
  replace O0 := O0.wr W6 g_a1
  replace E_a1 := E_a1.wr W6
  replace F_coder := F_coder.other W6 (Or.inr (slot_ne (Or.inr (wd hw 30 rfl)) (Or.inr (wd hw 28 rfl)) (by decide) (t := .byte) (t' := (.array .byte)) (by decide) (by decide)))
  replace V_a := V_a.other W6 (Ne.symm n1)
  replace Vb3 := Vb3.other W6 (Ne.symm ne_a1_bu3)
  replace F_value := F_value.same W6
  have N6 := Fr.snoc X6 N5 g_a1
  refine Go.st (pc' := 57) (S' := []) st6 ?_
  exact Go.retV X6 hx hlk hret (hb hby d18_57) (by decide) (by decide) (by rw [e6]; exact ⟨bu3, _, rfl, N6, K0, sz_bu3, F_coder, F_value, Vb3⟩)

def Qiu3_3 (Z : State) (a1 : Addr) (x0 : Int32) (x1 : Int32) (x2 : Int32) (h0 : Heap) (n0 : Nat) (v : Option Value) (h : Heap) (L : List Loc) : Prop := ∃ (t : Addr) (kt : ClassId), v = none ∧ Fr n0 L ∧ Keep h0 h [a1] ∧ h0.size ≤ t ∧ Fld Z h a1 "java/lang/String" "coder" "B" (.int (1 : Int32)) ∧ Fld Z h a1 "java/lang/String" "value" "[B" (.ref t) ∧ Arv Z h t kt .byte (6 : Int32) [(.int (own_lo x0)), (.int (own_hi x0)), (.int (own_lo x1)), (.int (own_hi x1)), (.int (own_lo x2)), (.int (own_hi x2))] (.int (0 : Int32))
def roomiu3_3 : Room := { frames := 5, cells := 2, slots := 9, locals := 74 }
theorem rmiu3_3 (l : Launch) (Z : State) (a0 : Array Value) (hw : ∀ d ∈ tables_1, d.before a0 Z = true) (ws : List Jvm.Cond) (a1 : Addr) (a : Addr) (ka : ClassId) (gC : Int32) (x0 : Int32) (x1 : Int32) (x2 : Int32) (h0 : Heap) (n0 : Nat) (Z0 : n0 ≤ h0.size) (SC : Sta Z Z.heap "java/lang/String" "COMPACT_STRINGS" "Z" (.int gC)) (PC : ¬ (gC = (0 : Int32))) (SD : Sta Z Z.heap "java/lang/StringUTF16" "$assertionsDisabled" "Z" (.int (1 : Int32))) (SH : Sta Z Z.heap "java/lang/StringUTF16" "HI_BYTE_SHIFT" "I" (.int (0 : Int32))) (SL : Sta Z Z.heap "java/lang/StringUTF16" "LO_BYTE_SHIFT" "I" (.int (8 : Int32))) (O0 : Old Z n0 h0) (E_a1 : Exa Z h0 a1 "java/lang/String") (g_a1 : n0 ≤ a1) (F_value : Fld Z h0 a1 "java/lang/String" "value" "[B" .null) (F_coder : Fld Z h0 a1 "java/lang/String" "coder" "B" (.int (0 : Int32))) (n1 : a1 ≠ a) (V_a : Arv Z h0 a ka .char (3 : Int32) [(.int x0), (.int x1), (.int x2)] (.int (0 : Int32))) (bd0 : ¬ x0 < 0 ∧ ¬ (65535 : Int32) < x0) (bd1 : ¬ x1 < 0 ∧ ¬ (65535 : Int32) < x1) (bd2 : ¬ x2 < 0 ∧ ¬ (65535 : Int32) < x2) (hU : (255 : Int32) < x0 ∨ (255 : Int32) < x1 ∨ (255 : Int32) < x2) :
    OMet l (⟨"java/lang/String", "<init>", "([C)V"⟩ : MethodName) jdk_42_method_3_code 2 none ws roomiu3_3 #[(.ref a1), (.ref a)] Z h0 (Qiu3_3 Z a1 x0 x1 x2 h0 n0) := by
  refine own_met (Q := (Qiu3_3 Z a1 x0 x1 x2 h0 n0)) (L0 := #[.val (.ref a1), .val (.ref a)]) (plainFor_of_name pn_0) (fun m => by first | (simp [entryFrame, mkF, argsToLocals, Value.category]; done) | rfl) ?_
  intro p e s m below meth c T0 X0 hx hby hml hown hnm hret hlk hZ e0
  have N0 := Fr.nil n0
  have K0 := Keep.refl h0 [a1]
  refine Go.st (pc' := 1) (S' := [(.ref a1)]) (fun t_ k_ => XS.aloadN X0.here hx rfl (hb hby d17_0) rfl rfl k_) ?_
  refine Go.st (pc' := 2) (S' := [(.ref a), (.ref a1)]) (fun t_ k_ => XS.aloadN X0.here hx rfl (hb hby d17_1) rfl rfl k_) ?_
  refine Go.st (pc' := 3) (S' := [(.int (0 : Int32)), (.ref a), (.ref a1)]) (fun t_ k_ => XS.iconst X0.here hx rfl (hb hby d17_2) k_) ?_
  refine Go.st (pc' := 4) (S' := [(.ref a), (.int (0 : Int32)), (.ref a), (.ref a1)]) (fun t_ k_ => XS.aloadN X0.here hx rfl (hb hby d17_3) rfl rfl k_) ?_
  obtain ⟨cl1, Ar1, -, q1a, q1b, -, -⟩ := id V_a
  refine Go.st (pc' := 5) (S' := [(.int (3 : Int32)), (.int (0 : Int32)), (.ref a), (.ref a1)]) (fun t_ k_ => own_len X0 hx hZ e0 Ar1 q1a q1b (g := (mkF m 4 #[.val (.ref a1), .val (.ref a)] [(.ref a), (.int (0 : Int32)), (.ref a), (.ref a1)])) rfl rfl (hb hby d17_4) t_ k_) ?_
  refine Go.st (pc' := 6) (S' := [.null, (.int (3 : Int32)), (.int (0 : Int32)), (.ref a), (.ref a1)]) (fun t_ k_ => XS.aconstNull X0.here hx rfl (hb hby d17_5) k_) ?_
  obtain ⟨_, _, ⟨T2, L2, k2, n2⟩, -, X2, ⟨Lc2, hQ2, l2, y2, z2⟩, st2⟩ := X0.specialBack hx (y := (⟨"java/lang/String", "<init>", "([CIILjava/lang/Void;)V"⟩ : MethodName)) rfl hown (mvT hZ (wd hw 81 rfl)) (mvT hZ (wd hw 82 rfl)) (mvT hZ (wd hw 83 rfl)) (by decide) (backOf (W := 0) (rmiu149_3 l Z a0 hw [] a1 a _ gC (x0) (x1) (x2) h0 n0 Z0 SC PC SD SH SL O0 E_a1 g_a1 F_value F_coder n1 V_a bd0 bd1 bd2 hU) hZ (wd hw 83 rfl) (wd hw 7 rfl) (by decide) (by decide)) (g := (mkF m 6 #[.val (.ref a1), .val (.ref a)] [.null, (.int (3 : Int32)), (.int (0 : Int32)), (.ref a), (.ref a1)])) rfl (by rw [hml]; rfl) (Steps.refl _) (a := a1) (argsL := [(.ref a), (.int (0 : Int32)), (.int (3 : Int32)), .null]) (rest := []) (lenOf pd_0 rfl) rfl (by show 2 * 0 + _ ≤ _; exact Nat.le_of_eq rfl) (hb hby d17_6) (fun _ _ => ⟨rfl, e0, (by decide : 0 + 2 ≤ _), (by decide : 0 + 9 ≤ _)⟩)
  dsimp only [Pt.U, Pt.locs, Pt.cells, Pt.slots] at X2 l2 y2 z2 st2 hQ2
  subst l2 y2 z2
  obtain ⟨tu2, kt2, rfl, N2q, K2, lt2, Co2, Va2, Vt2⟩ := hQ2
  have N2 := Fr.app N0 N2q
  have ne_a1_tu2 : a1 ≠ tu2 := Nat.ne_of_lt (Nat.lt_of_lt_of_le E_a1.lt lt2)
  have ne_a_tu2 : a ≠ tu2 := Nat.ne_of_lt (Nat.lt_of_lt_of_le V_a.lt lt2)
  have sz_tu2 : h0.size ≤ tu2 := Nat.le_trans K0.1 lt2
  obtain ⟨h2, e2⟩ : ∃ z, T2.heap = z := ⟨_, rfl⟩
  rw [e2] at K2 Co2 Va2 Vt2
  replace Z0 := Nat.le_trans Z0 K2.1
  replace K0 := K0.trans K2 (allS (Or.inl (List.mem_of_getElem? (i := 0) rfl)) all0)
  replace O0 := O0.keep K2 (allS g_a1 all0)
  replace E_a1 := E_a1.keep K2
  replace V_a := V_a.keep K2 (ninS (Ne.symm n1) nin0)
  refine Go.tr (pc' := 9) (S' := []) st2 ?_
  exact Go.retV X2 hx hlk hret (hb hby d17_9) (by decide) (by decide) (by rw [e2]; exact ⟨tu2, _, rfl, N2, K0, sz_tu2, Co2, Va2, Vt2⟩)

theorem rm0 (l : Launch) (Z : State) (a0 : Array Value) (hw : ∀ d ∈ tables_1, d.before a0 Z = true) (ws : List Jvm.Cond) (p1 : Int32) (p2 : Int32) (p3 : Int32) (p4 : Int32) (p5 : Int32) (p6 : Int32) (fm : Value) (gC : Int32) (h0 : Heap) (n0 : Nat) (Z0 : n0 ≤ h0.size) (ss : own_ST Z gC fm) (O0 : Old Z n0 h0) :
    OMetH l x code maxLocals ret ws room_1 #[(.int p1), (.int p2), (.int p3), (.int p4), (.int p5), (.int p6)] Z h0 (Q0 Z  h0 n0) := by
  refine own_metH (Q := (Q0 Z  h0 n0)) (L0 := #[.val (.int p1), .val (.int p2), .val (.int p3), .val (.int p4), .val (.int p5), .val (.int p6), .unset, .unset, .unset, .unset, .unset, .unset, .unset, .unset]) (plainFor_of_name pn_3) (fun m => by first | (simp [entryFrame, mkF, argsToLocals, Value.category, maxLocals]; done) | rfl) ?_
  intro p e s m below meth c T0 X0 hx hby hml hown hnm hret hlk hZ e0 hs0 CR hS hk
  have N0 := Fr.nil n0
  obtain ⟨SC, PC, hfm, SF, SD, SH, SL⟩ := id ss
  refine GoH.st (pc' := 1) (S' := [(.int p4)]) (fun t_ k_ => XS.iloadN X0.here hx rfl (hb hby at_0) rfl k_) ?_
  refine GoH.st (pc' := 2) (S' := [(.int (3 : Int32)), (.int p4)]) (fun t_ k_ => XS.iconst X0.here hx rfl (hb hby at_1) k_) ?_
  refine GoH.st (pc' := 3) (S' := [(.int (p4 &&& (3 : Int32)))]) (fun t_ k_ => XS.iand X0.here hx rfl (hb hby at_2) rfl k_) ?_
  refine GoH.st (pc' := 5) (S' := []) (fun t_ k_ => XS.istore X0.here hx rfl (hb hby at_3) rfl (l' := #[.val (.int p1), .val (.int p2), .val (.int p3), .val (.int p4), .val (.int p5), .val (.int p6), .val (.int (p4 &&& (3 : Int32))), .unset, .unset, .unset, .unset, .unset, .unset, .unset]) rfl k_) ?_
  refine GoH.st (pc' := 6) (S' := [(.int p1)]) (fun t_ k_ => XS.iloadN X0.here hx rfl (hb hby at_5) rfl k_) ?_
  obtain ⟨_, _, ⟨T1, L1, k1, n1⟩, -, X1, ⟨Lc1, hQ1, l1, y1, z1⟩, st1⟩ := Jvm.LawKit.callS X0 hx (y := (⟨"pechat/card/DigitsArePinLaw", "ch", "(I)C"⟩ : MethodName)) hown (mvT hZ (wd hw 0 rfl)) (mvT hZ (wd hw 1 rfl)) (mvT hZ (wd hw 2 rfl)) (mvT hZ (wd hw 3 rfl)) (by decide) (backOf (W := 0) (rm1 l Z a0 hw [] p1 h0 n0 Z0) hZ (wd hw 3 rfl) (wd hw 2 rfl) (by decide) (by decide)) (g := (mkF m 6 #[.val (.int p1), .val (.int p2), .val (.int p3), .val (.int p4), .val (.int p5), .val (.int p6), .val (.int (p4 &&& (3 : Int32))), .unset, .unset, .unset, .unset, .unset, .unset, .unset] [(.int p1)])) rfl (by rw [hml]; rfl) (argsL := [(.int p1)]) (rest := []) (lenOf pd_13 rfl) rfl (by show 2 * 0 + _ ≤ _; exact Nat.le_of_eq rfl) (hb hby at_6) (fun _ _ => ⟨rfl, e0, (by decide : 0 + 0 ≤ _), (by decide : 0 + 0 ≤ _)⟩)
  dsimp only [Pt.U, Pt.locs, Pt.cells, Pt.slots] at X1 l1 y1 z1 st1 hQ1
  subst l1 y1 z1
  obtain ⟨x0, rfl, bd0, N1q, e1⟩ := hQ1
  have N1 := Fr.app N0 N1q
  refine GoH.st (pc' := 9) (S' := [(.int x0)]) st1 ?_
  refine GoH.st (pc' := 11) (S' := []) (fun t_ k_ => XS.istore X1.here hx rfl (hb hby at_9) rfl (l' := #[.val (.int p1), .val (.int p2), .val (.int p3), .val (.int p4), .val (.int p5), .val (.int p6), .val (.int (p4 &&& (3 : Int32))), .val (.int x0), .unset, .unset, .unset, .unset, .unset, .unset]) rfl k_) ?_
  refine GoH.st (pc' := 12) (S' := [(.int p2)]) (fun t_ k_ => XS.iloadN X1.here hx rfl (hb hby at_11) rfl k_) ?_
  obtain ⟨_, _, ⟨T2, L2, k2, n2⟩, -, X2, ⟨Lc2, hQ2, l2, y2, z2⟩, st2⟩ := Jvm.LawKit.callS X1 hx (y := (⟨"pechat/card/DigitsArePinLaw", "ch", "(I)C"⟩ : MethodName)) hown (mvT hZ (wd hw 0 rfl)) (mvT hZ (wd hw 1 rfl)) (mvT hZ (wd hw 2 rfl)) (mvT hZ (wd hw 3 rfl)) (by decide) (backOf (W := 0) (rm1 l Z a0 hw [] p2 h0 n0 Z0) hZ (wd hw 3 rfl) (wd hw 2 rfl) (by decide) (by decide)) (g := (mkF m 12 #[.val (.int p1), .val (.int p2), .val (.int p3), .val (.int p4), .val (.int p5), .val (.int p6), .val (.int (p4 &&& (3 : Int32))), .val (.int x0), .unset, .unset, .unset, .unset, .unset, .unset] [(.int p2)])) rfl (by rw [hml]; rfl) (argsL := [(.int p2)]) (rest := []) (lenOf pd_13 rfl) rfl (by show 2 * 0 + _ ≤ _; exact Nat.le_of_eq rfl) (hb hby at_12) (fun _ _ => ⟨rfl, e1, (by decide : 0 + 0 ≤ _), (by decide : 0 + 0 ≤ _)⟩)
  dsimp only [Pt.U, Pt.locs, Pt.cells, Pt.slots] at X2 l2 y2 z2 st2 hQ2
  subst l2 y2 z2
  obtain ⟨x1, rfl, bd1, N2q, e2⟩ := hQ2
  have N2 := Fr.app N1 N2q
  refine GoH.st (pc' := 15) (S' := [(.int x1)]) st2 ?_
  refine GoH.st (pc' := 17) (S' := []) (fun t_ k_ => XS.istore X2.here hx rfl (hb hby at_15) rfl (l' := #[.val (.int p1), .val (.int p2), .val (.int p3), .val (.int p4), .val (.int p5), .val (.int p6), .val (.int (p4 &&& (3 : Int32))), .val (.int x0), .val (.int x1), .unset, .unset, .unset, .unset, .unset]) rfl k_) ?_
  refine GoH.st (pc' := 18) (S' := [(.int p3)]) (fun t_ k_ => XS.iloadN X2.here hx rfl (hb hby at_17) rfl k_) ?_
  obtain ⟨_, _, ⟨T3, L3, k3, n3⟩, -, X3, ⟨Lc3, hQ3, l3, y3, z3⟩, st3⟩ := Jvm.LawKit.callS X2 hx (y := (⟨"pechat/card/DigitsArePinLaw", "ch", "(I)C"⟩ : MethodName)) hown (mvT hZ (wd hw 0 rfl)) (mvT hZ (wd hw 1 rfl)) (mvT hZ (wd hw 2 rfl)) (mvT hZ (wd hw 3 rfl)) (by decide) (backOf (W := 0) (rm1 l Z a0 hw [] p3 h0 n0 Z0) hZ (wd hw 3 rfl) (wd hw 2 rfl) (by decide) (by decide)) (g := (mkF m 18 #[.val (.int p1), .val (.int p2), .val (.int p3), .val (.int p4), .val (.int p5), .val (.int p6), .val (.int (p4 &&& (3 : Int32))), .val (.int x0), .val (.int x1), .unset, .unset, .unset, .unset, .unset] [(.int p3)])) rfl (by rw [hml]; rfl) (argsL := [(.int p3)]) (rest := []) (lenOf pd_13 rfl) rfl (by show 2 * 0 + _ ≤ _; exact Nat.le_of_eq rfl) (hb hby at_18) (fun _ _ => ⟨rfl, e2, (by decide : 0 + 0 ≤ _), (by decide : 0 + 0 ≤ _)⟩)
  dsimp only [Pt.U, Pt.locs, Pt.cells, Pt.slots] at X3 l3 y3 z3 st3 hQ3
  subst l3 y3 z3
  obtain ⟨x2, rfl, bd2, N3q, e3⟩ := hQ3
  have N3 := Fr.app N2 N3q
  refine GoH.st (pc' := 21) (S' := [(.int x2)]) st3 ?_
  refine GoH.st (pc' := 23) (S' := []) (fun t_ k_ => XS.istore X3.here hx rfl (hb hby at_21) rfl (l' := #[.val (.int p1), .val (.int p2), .val (.int p3), .val (.int p4), .val (.int p5), .val (.int p6), .val (.int (p4 &&& (3 : Int32))), .val (.int x0), .val (.int x1), .val (.int x2), .unset, .unset, .unset, .unset]) rfl k_) ?_
  rcases own_m3 p4 with hk4 | hk4 | hk4 | hk4
  · rw [hk4]
    refine GoH.st (pc' := 25) (S' := [(.int (0 : Int32))]) (fun t_ k_ => XS.iload X3.here hx rfl (hb hby at_23) rfl k_) ?_
    refine GoH.st (pc' := 28) (S' := []) (fun t_ k_ => XS.ifNo X3.here hx rfl (hb hby at_25) rfl ((if0 _ _).trans (teq (by decide : ((0 : Int32) = (0 : Int32)))).2) k_) ?_
    obtain ⟨T4, h4, X4, e4, E4, A4, D4, U4, st4⟩ := newO X3 hx hZ hown (wd hw 76 rfl) (wd hw 15 rfl) (wd hw 7 rfl) e3 (g := (mkF m 28 #[.val (.int p1), .val (.int p2), .val (.int p3), .val (.int p4), .val (.int p5), .val (.int p6), .val (.int (0 : Int32)), .val (.int x0), .val (.int x1), .val (.int x2), .unset, .unset, .unset, .unset] [])) rfl (hb hby at_28) (by decide) (by decide)
    obtain ⟨b4, g4⟩ : ∃ z, z = h0.size := ⟨_, rfl⟩
    rw [← g4] at A4 D4 U4 st4
    have g_b4 : n0 ≤ b4 := Nat.le_trans Z0 (Nat.le_of_eq g4.symm)
    have S_b4 : Safe Z EL s.vm h4 b4 := Safe.ext E4 CR.1 (Safe.new (Nat.le_of_eq g4.symm))
    replace CR := CR.trans (CHr.ext E4 CR.1)
    replace hk := Nat.le_trans hk E4.1
    replace Z0 := Nat.le_trans Z0 E4.1
    replace O0 := O0.ext E4
    have E_b4 := A4
    have F_b4_value : Fld Z h4 b4 "java/lang/String" "value" "[B" .null := D4 (Or.inr (wd hw 28 rfl)) (ty := (.array .byte)) (by decide)
    have F_b4_coder : Fld Z h4 b4 "java/lang/String" "coder" "B" (.int (0 : Int32)) := D4 (Or.inr (wd hw 30 rfl)) (ty := .byte) (by decide)
    refine GoH.st (pc' := 31) (S' := [(.ref b4)]) st4 ?_
    refine GoH.st (pc' := 32) (S' := [(.ref b4), (.ref b4)]) (fun t_ k_ => XS.dup X4.here hx rfl (hb hby at_31) rfl rfl k_) ?_
    refine GoH.st (pc' := 33) (S' := [(.int (0 : Int32)), (.ref b4), (.ref b4)]) (fun t_ k_ => XS.iconst X4.here hx rfl (hb hby at_32) k_) ?_
    obtain ⟨T5, h5, k5, X5, e5, E5, A5, st5⟩ := newP X4 hx hZ (wd hw 77 rfl) e4 (g := (mkF m 33 #[.val (.int p1), .val (.int p2), .val (.int p3), .val (.int p4), .val (.int p5), .val (.int p6), .val (.int (0 : Int32)), .val (.int x0), .val (.int x1), .val (.int x2), .unset, .unset, .unset, .unset] [(.int (0 : Int32)), (.ref b4), (.ref b4)])) rfl (hb hby at_33) rfl (by decide) (cap := 0) (by decide) (by decide) (by decide) (by decide)
    obtain ⟨b5, g5⟩ : ∃ z, z = h4.size := ⟨_, rfl⟩
    rw [← g5] at A5 st5
    have ne_b4_b5 : b4 ≠ b5 := Nat.ne_of_lt (Nat.lt_of_lt_of_le E_b4.lt (Nat.le_of_eq g5.symm))
    have g_b5 : n0 ≤ b5 := Nat.le_trans Z0 (Nat.le_of_eq g5.symm)
    replace S_b4 := Safe.ext E5 CR.1 S_b4
    replace CR := CR.trans (CHr.ext E5 CR.1)
    replace hk := Nat.le_trans hk E5.1
    replace Z0 := Nat.le_trans Z0 E5.1
    replace O0 := O0.ext E5
    replace E_b4 := E_b4.ext E5
    replace F_b4_value := F_b4_value.ext E5
    replace F_b4_coder := F_b4_coder.ext E5
    have V_b5 : Arv Z h5 b5 k5 .char (0 : Int32) [] (.int (0 : Int32)) := (Arv.new A5 (by decide)).pad (pad_rep [] (.int (0 : Int32)) 0)
    refine GoH.st (pc' := 35) (S' := [(.ref b5), (.ref b4), (.ref b4)]) st5 ?_
    obtain ⟨_, _, ⟨T6, L6, k6, n6⟩, -, X6, hS6, hg6, ⟨Lc6, hQ6, l6, y6, z6, CR6⟩, st6⟩ := X5.specialBackS hx (y := (⟨"java/lang/String", "<init>", "([C)V"⟩ : MethodName)) rfl hown (mvT hZ (wd hw 78 rfl)) (mvT hZ (wd hw 79 rfl)) (mvT hZ (wd hw 80 rfl)) (by decide) (backOfSH (W := 1) (rmE3 l Z a0 hw [] b4 b5 _ h5 n0 Z0 E_b4 g_b4 F_b4_value F_b4_coder V_b5 ne_b4_b5) hZ (wd hw 80 rfl) (wd hw 7 rfl) (by decide) (by decide) (own_EW hw) CR.1) (g := (mkF m 35 #[.val (.int p1), .val (.int p2), .val (.int p3), .val (.int p4), .val (.int p5), .val (.int p6), .val (.int (0 : Int32)), .val (.int x0), .val (.int x1), .val (.int x2), .unset, .unset, .unset, .unset] [(.ref b5), (.ref b4), (.ref b4)])) rfl (by rw [hml]; rfl) (Steps.refl _) (a := b4) (argsL := [(.ref b5)]) (rest := [(.ref b4)]) (lenOf pd_15 rfl) rfl (by show 2 * 0 + _ ≤ _; exact Nat.le_of_eq rfl) (hb hby at_35) (fun _ _ => ⟨rfl, e5, (by decide : 2 + 4 ≤ _), (by decide : 4 + 8 ≤ _)⟩)
    dsimp only [Pt.U, Pt.locs, Pt.cells, Pt.slots] at X6 l6 y6 z6 st6 hQ6 hS6 hg6 CR6
    subst l6 y6 z6
    replace X6 : Stand p l e _ (s.setVm T6.vm) m _ below meth c T6 _ _ _ := X6
    replace hS := foldS hS (T := T5) (Nat.le_trans hk (Nat.le_of_eq (congrArg Array.size e5.symm))) hS6 hg6
    replace hk := Nat.le_refl T6.heap.size
    replace hZ : Z.Warmed39 (s.setVm T6.vm).vm := State.Warmed39.trans (t := s.setVm s.vm) hZ hS6.1
    replace hown : (s.setVm T6.vm).vm.findClass "pechat/card/DigitsArePinLaw" = some m.cls := by rw [show (s.setVm T6.vm).vm = T6.vm from rfl, hS6.1.alike.findClass]; exact hown
    obtain ⟨t6, kb6, rfl, N6q, K6, Co6, nt6, Va6, Ay6⟩ := hQ6
    have N6 := Fr.app N3 N6q
    obtain ⟨h6, e6⟩ : ∃ z, T6.heap = z := ⟨_, rfl⟩
    rw [e6] at K6 Co6 Va6 Ay6 CR6
    replace S_b4 := CR6.safe E_b4.lt S_b4
    replace CR := CR.trans CR6
    replace Z0 := Nat.le_trans Z0 K6.1
    replace O0 := O0.keep K6 (allS g_b4 all0)
    replace E_b4 := E_b4.keep K6
    replace V_b5 := V_b5.keep K6 (ninS (Ne.symm ne_b4_b5) nin0)
    replace hk : T6.heap.size ≤ h6.size := Nat.le_of_eq (congrArg Array.size e6)
    refine GoH.tr (pc' := 38) (S' := [(.ref b4)]) st6 ?_
    refine GoH.st (pc' := 40) (S' := []) (fun t_ k_ => XS.astore X6.here hx rfl (hb hby at_38) rfl rfl (l' := #[.val (.int p1), .val (.int p2), .val (.int p3), .val (.int p4), .val (.int p5), .val (.int p6), .val (.int (0 : Int32)), .val (.int x0), .val (.int x1), .val (.int x2), .val (.ref b4), .unset, .unset, .unset]) rfl k_) ?_
    refine GoH.st (pc' := 117) (S' := []) (fun t_ k_ => XS.goto X6.here hx rfl (pc0 := 40) (pc' := 117) rfl (hb hby at_40) (by decide) (by decide) k_) ?_
    exact sl117_0 p1 p2 p3 p4 p5 p6 x0 x1 x2 b4 fm gC ss O0 Z0 ⟨E_b4, t6, _, Co6, Va6, Ay6⟩ bd0 bd1 bd2 (Stand.up X6 (by decide) (by decide)) hx hZ hw hby hml hown hnm hret hlk e6 hs0 CR hS hk N6
  · rw [hk4]
    refine GoH.st (pc' := 25) (S' := [(.int (1 : Int32))]) (fun t_ k_ => XS.iload X3.here hx rfl (hb hby at_23) rfl k_) ?_
    refine GoH.st (pc' := 43) (S' := []) (fun t_ k_ => XS.ifYes X3.here hx rfl (pc0 := 25) (pc' := 43) rfl (hb hby at_25) rfl ((if0 _ _).trans (feq (by decide : ¬ ((1 : Int32) = (0 : Int32)))).2) (by decide) (by decide) k_) ?_
    refine GoH.st (pc' := 45) (S' := [(.int (1 : Int32))]) (fun t_ k_ => XS.iload X3.here hx rfl (hb hby at_43) rfl k_) ?_
    refine GoH.st (pc' := 46) (S' := [(.int (1 : Int32)), (.int (1 : Int32))]) (fun t_ k_ => XS.iconst X3.here hx rfl (hb hby at_45) k_) ?_
    refine GoH.st (pc' := 49) (S' := []) (fun t_ k_ => XS.icmpNo X3.here hx rfl (hb hby at_46) rfl (teq (by decide : ((1 : Int32) = (1 : Int32)))).2 k_) ?_
    refine GoH.st (pc' := 51) (S' := [(.int x0)]) (fun t_ k_ => XS.iload X3.here hx rfl (hb hby at_49) rfl k_) ?_
    by_cases hg : (255 : Int32) < x0
    · obtain ⟨_, _, ⟨T8, L8, k8, n8⟩, -, X8, ⟨Lc8, hQ8, l8, y8, z8⟩, st8⟩ := Jvm.LawKit.callS X3 hx (y := (⟨"java/lang/String", "valueOf", "(C)Ljava/lang/String;"⟩ : MethodName)) hown (mvT hZ (wd hw 5 rfl)) (mvT hZ (wd hw 6 rfl)) (mvT hZ (wd hw 7 rfl)) (mvT hZ (wd hw 8 rfl)) (by decide) (backOf (W := 0) (rmvalU l Z a0 hw [] x0 gC h0 n0 Z0 SC PC SD SH SL O0 hg) hZ (wd hw 8 rfl) (wd hw 7 rfl) (by decide) (by decide)) (g := (mkF m 51 #[.val (.int p1), .val (.int p2), .val (.int p3), .val (.int p4), .val (.int p5), .val (.int p6), .val (.int (1 : Int32)), .val (.int x0), .val (.int x1), .val (.int x2), .unset, .unset, .unset, .unset] [(.int x0)])) rfl (by rw [hml]; rfl) (argsL := [(.int x0)]) (rest := []) (lenOf pd_17 rfl) rfl (by show 2 * 0 + _ ≤ _; exact Nat.le_of_eq rfl) (hb hby at_51) (fun _ _ => ⟨rfl, e3, (by decide : 0 + 2 ≤ _), (by decide : 0 + 6 ≤ _)⟩)
      dsimp only [Pt.U, Pt.locs, Pt.cells, Pt.slots] at X8 l8 y8 z8 st8 hQ8
      subst l8 y8 z8
      obtain ⟨vb8, vt8, kb8, rfl, N8q, K8, g_vb8, lt8, E_vb8, Co8, Va8, V_vt8⟩ := hQ8
      have N8 := Fr.app N3 N8q
      obtain ⟨h8, e8⟩ : ∃ z, T8.heap = z := ⟨_, rfl⟩
      rw [e8] at K8 E_vb8 Co8 Va8 V_vt8
      have Sk9 : ∀ x ∈ [], Safe Z EL s.vm h0 x := all0
      replace CR := CR.trans (CHr.keep K8 Sk9 CR.1)
      replace hk := Nat.le_trans hk K8.1
      replace Z0 := Nat.le_trans Z0 K8.1
      replace O0 := O0.keep K8 all0
      refine GoH.st (pc' := 54) (S' := [(.ref vb8)]) st8 ?_
      refine GoH.st (pc' := 56) (S' := []) (fun t_ k_ => XS.astore X8.here hx rfl (hb hby at_54) rfl rfl (l' := #[.val (.int p1), .val (.int p2), .val (.int p3), .val (.int p4), .val (.int p5), .val (.int p6), .val (.int (1 : Int32)), .val (.int x0), .val (.int x1), .val (.int x2), .val (.ref vb8), .unset, .unset, .unset]) rfl k_) ?_
      refine GoH.st (pc' := 117) (S' := []) (fun t_ k_ => XS.goto X8.here hx rfl (pc0 := 56) (pc' := 117) rfl (hb hby at_56) (by decide) (by decide) k_) ?_
      exact sl117_1 p1 p2 p3 p4 p5 p6 x0 x1 x2 vb8 fm gC ss O0 Z0 ⟨E_vb8, vt8, _, Or.inr ⟨Co8, Va8, V_vt8⟩⟩ bd0 bd1 bd2 (Stand.up X8 (by decide) (by decide)) hx hZ hw hby hml hown hnm hret hlk e8 hs0 CR hS hk N8
    · have la0 := hg
      obtain ⟨_, _, ⟨T10, L10, k10, n10⟩, -, X10, ⟨Lc10, hQ10, l10, y10, z10⟩, st10⟩ := Jvm.LawKit.callS X3 hx (y := (⟨"java/lang/String", "valueOf", "(C)Ljava/lang/String;"⟩ : MethodName)) hown (mvT hZ (wd hw 5 rfl)) (mvT hZ (wd hw 6 rfl)) (mvT hZ (wd hw 7 rfl)) (mvT hZ (wd hw 8 rfl)) (by decide) (backOf (W := 0) (rm2 l Z a0 hw [] x0 gC h0 n0 Z0 SC PC O0 ⟨bd0.1, la0⟩) hZ (wd hw 8 rfl) (wd hw 7 rfl) (by decide) (by decide)) (g := (mkF m 51 #[.val (.int p1), .val (.int p2), .val (.int p3), .val (.int p4), .val (.int p5), .val (.int p6), .val (.int (1 : Int32)), .val (.int x0), .val (.int x1), .val (.int x2), .unset, .unset, .unset, .unset] [(.int x0)])) rfl (by rw [hml]; rfl) (argsL := [(.int x0)]) (rest := []) (lenOf pd_17 rfl) rfl (by show 2 * 0 + _ ≤ _; exact Nat.le_of_eq rfl) (hb hby at_51) (fun _ _ => ⟨rfl, e3, (by decide : 0 + 2 ≤ _), (by decide : 0 + 5 ≤ _)⟩)
      dsimp only [Pt.U, Pt.locs, Pt.cells, Pt.slots] at X10 l10 y10 z10 st10 hQ10
      subst l10 y10 z10
      obtain ⟨b10, t10, kb10, rfl, N10q, K10, g_b10, lt10, E_b10, Co10, Va10, V_t10⟩ := hQ10
      have N10 := Fr.app N3 N10q
      obtain ⟨h10, e10⟩ : ∃ z, T10.heap = z := ⟨_, rfl⟩
      rw [e10] at K10 E_b10 Co10 Va10 V_t10
      have Sk11 : ∀ x ∈ [], Safe Z EL s.vm h0 x := all0
      replace CR := CR.trans (CHr.keep K10 Sk11 CR.1)
      replace hk := Nat.le_trans hk K10.1
      replace Z0 := Nat.le_trans Z0 K10.1
      replace O0 := O0.keep K10 all0
      refine GoH.st (pc' := 54) (S' := [(.ref b10)]) st10 ?_
      rw [own_b2] at V_t10
      refine GoH.st (pc' := 56) (S' := []) (fun t_ k_ => XS.astore X10.here hx rfl (hb hby at_54) rfl rfl (l' := #[.val (.int p1), .val (.int p2), .val (.int p3), .val (.int p4), .val (.int p5), .val (.int p6), .val (.int (1 : Int32)), .val (.int x0), .val (.int x1), .val (.int x2), .val (.ref b10), .unset, .unset, .unset]) rfl k_) ?_
      refine GoH.st (pc' := 117) (S' := []) (fun t_ k_ => XS.goto X10.here hx rfl (pc0 := 56) (pc' := 117) rfl (hb hby at_56) (by decide) (by decide) k_) ?_
      exact sl117_1 p1 p2 p3 p4 p5 p6 x0 x1 x2 b10 fm gC ss O0 Z0 ⟨E_b10, t10, _, Or.inl ⟨Co10, Va10, V_t10, la0, trivial⟩⟩ bd0 bd1 bd2 (Stand.up X10 (by decide) (by decide)) hx hZ hw hby hml hown hnm hret hlk e10 hs0 CR hS hk N10
  · rw [hk4]
    refine GoH.st (pc' := 25) (S' := [(.int (2 : Int32))]) (fun t_ k_ => XS.iload X3.here hx rfl (hb hby at_23) rfl k_) ?_
    refine GoH.st (pc' := 43) (S' := []) (fun t_ k_ => XS.ifYes X3.here hx rfl (pc0 := 25) (pc' := 43) rfl (hb hby at_25) rfl ((if0 _ _).trans (feq (by decide : ¬ ((2 : Int32) = (0 : Int32)))).2) (by decide) (by decide) k_) ?_
    refine GoH.st (pc' := 45) (S' := [(.int (2 : Int32))]) (fun t_ k_ => XS.iload X3.here hx rfl (hb hby at_43) rfl k_) ?_
    refine GoH.st (pc' := 46) (S' := [(.int (1 : Int32)), (.int (2 : Int32))]) (fun t_ k_ => XS.iconst X3.here hx rfl (hb hby at_45) k_) ?_
    refine GoH.st (pc' := 59) (S' := []) (fun t_ k_ => XS.icmpYes X3.here hx rfl (pc0 := 46) (pc' := 59) rfl (hb hby at_46) rfl (feq (by decide : ¬ ((2 : Int32) = (1 : Int32)))).2 (by decide) (by decide) k_) ?_
    refine GoH.st (pc' := 61) (S' := [(.int (2 : Int32))]) (fun t_ k_ => XS.iload X3.here hx rfl (hb hby at_59) rfl k_) ?_
    refine GoH.st (pc' := 62) (S' := [(.int (2 : Int32)), (.int (2 : Int32))]) (fun t_ k_ => XS.iconst X3.here hx rfl (hb hby at_61) k_) ?_
    refine GoH.st (pc' := 65) (S' := []) (fun t_ k_ => XS.icmpNo X3.here hx rfl (hb hby at_62) rfl (teq (by decide : ((2 : Int32) = (2 : Int32)))).2 k_) ?_
    obtain ⟨T12, h12, X12, e12, E12, A12, D12, U12, st12⟩ := newO X3 hx hZ hown (wd hw 76 rfl) (wd hw 15 rfl) (wd hw 7 rfl) e3 (g := (mkF m 65 #[.val (.int p1), .val (.int p2), .val (.int p3), .val (.int p4), .val (.int p5), .val (.int p6), .val (.int (2 : Int32)), .val (.int x0), .val (.int x1), .val (.int x2), .unset, .unset, .unset, .unset] [])) rfl (hb hby at_65) (by decide) (by decide)
    obtain ⟨b12, g12⟩ : ∃ z, z = h0.size := ⟨_, rfl⟩
    rw [← g12] at A12 D12 U12 st12
    have g_b12 : n0 ≤ b12 := Nat.le_trans Z0 (Nat.le_of_eq g12.symm)
    have S_b12 : Safe Z EL s.vm h12 b12 := Safe.ext E12 CR.1 (Safe.new (Nat.le_of_eq g12.symm))
    replace CR := CR.trans (CHr.ext E12 CR.1)
    replace hk := Nat.le_trans hk E12.1
    replace Z0 := Nat.le_trans Z0 E12.1
    replace O0 := O0.ext E12
    have E_b12 := A12
    have F_b12_value : Fld Z h12 b12 "java/lang/String" "value" "[B" .null := D12 (Or.inr (wd hw 28 rfl)) (ty := (.array .byte)) (by decide)
    have F_b12_coder : Fld Z h12 b12 "java/lang/String" "coder" "B" (.int (0 : Int32)) := D12 (Or.inr (wd hw 30 rfl)) (ty := .byte) (by decide)
    refine GoH.st (pc' := 68) (S' := [(.ref b12)]) st12 ?_
    refine GoH.st (pc' := 69) (S' := [(.ref b12), (.ref b12)]) (fun t_ k_ => XS.dup X12.here hx rfl (hb hby at_68) rfl rfl k_) ?_
    refine GoH.st (pc' := 70) (S' := [(.int (2 : Int32)), (.ref b12), (.ref b12)]) (fun t_ k_ => XS.iconst X12.here hx rfl (hb hby at_69) k_) ?_
    obtain ⟨T13, h13, k13, X13, e13, E13, A13, st13⟩ := newP X12 hx hZ (wd hw 77 rfl) e12 (g := (mkF m 70 #[.val (.int p1), .val (.int p2), .val (.int p3), .val (.int p4), .val (.int p5), .val (.int p6), .val (.int (2 : Int32)), .val (.int x0), .val (.int x1), .val (.int x2), .unset, .unset, .unset, .unset] [(.int (2 : Int32)), (.ref b12), (.ref b12)])) rfl (hb hby at_70) rfl (by decide) (cap := 2) (by decide) (by decide) (by decide) (by decide)
    obtain ⟨b13, g13⟩ : ∃ z, z = h12.size := ⟨_, rfl⟩
    rw [← g13] at A13 st13
    have ne_b12_b13 : b12 ≠ b13 := Nat.ne_of_lt (Nat.lt_of_lt_of_le E_b12.lt (Nat.le_of_eq g13.symm))
    have g_b13 : n0 ≤ b13 := Nat.le_trans Z0 (Nat.le_of_eq g13.symm)
    replace S_b12 := Safe.ext E13 CR.1 S_b12
    replace CR := CR.trans (CHr.ext E13 CR.1)
    replace hk := Nat.le_trans hk E13.1
    replace Z0 := Nat.le_trans Z0 E13.1
    replace O0 := O0.ext E13
    replace E_b12 := E_b12.ext E13
    replace F_b12_value := F_b12_value.ext E13
    replace F_b12_coder := F_b12_coder.ext E13
    have V_b13 : Arv Z h13 b13 k13 .char (2 : Int32) [(.int (0 : Int32)), (.int (0 : Int32))] (.int (0 : Int32)) := (Arv.new A13 (by decide)).pad (pad_rep [] (.int (0 : Int32)) 2)
    refine GoH.st (pc' := 72) (S' := [(.ref b13), (.ref b12), (.ref b12)]) st13 ?_
    refine GoH.st (pc' := 73) (S' := [(.ref b13), (.ref b13), (.ref b12), (.ref b12)]) (fun t_ k_ => XS.dup X13.here hx rfl (hb hby at_72) rfl rfl k_) ?_
    refine GoH.st (pc' := 74) (S' := [(.int (0 : Int32)), (.ref b13), (.ref b13), (.ref b12), (.ref b12)]) (fun t_ k_ => XS.iconst X13.here hx rfl (hb hby at_73) k_) ?_
    refine GoH.st (pc' := 76) (S' := [(.int x0), (.int (0 : Int32)), (.ref b13), (.ref b13), (.ref b12), (.ref b12)]) (fun t_ k_ => XS.iload X13.here hx rfl (hb hby at_74) rfl k_) ?_
    have Sq14 : Safe Z EL s.vm h13 b13 := (own_safeV hZ.alike V_b13 (by decide))
    obtain ⟨cl14, Ar14, q141, q142, q143, q144, q145⟩ := V_b13
    obtain ⟨T14, h14, X14, e14, W14, st14⟩ := stC X13 hx hZ e13 Ar14 (j := (0 : Int32)) (inb_of q142 ⟨by decide, by decide⟩) (g := (mkF m 76 #[.val (.int p1), .val (.int p2), .val (.int p3), .val (.int p4), .val (.int p5), .val (.int p6), .val (.int (2 : Int32)), .val (.int x0), .val (.int x1), .val (.int x2), .unset, .unset, .unset, .unset] [(.int x0), (.int (0 : Int32)), (.ref b13), (.ref b13), (.ref b12), (.ref b12)])) rfl rfl (hb hby at_76)
    replace V_b13 := Arv.set Ar14 q141 q142 q143 q144 q145 (fits_nar_char _) W14 0 rfl (Nat.le_of_ble_eq_true rfl)
    have V_b13 : Arv Z h14 b13 k13 .char (2 : Int32) [(.int (nar .char x0)), (.int (0 : Int32))] (.int (0 : Int32)) := V_b13
    replace S_b12 := Safe.wr W14 Sq14 CR.1 S_b12
    replace CR := CR.trans (CHr.wr W14 Sq14 CR.1)
    replace hk := Nat.le_trans hk (Keep.of_wr W14).1
    replace Z0 := Nat.le_trans Z0 (Keep.of_wr W14).1
    replace O0 := O0.wr W14 g_b13
    replace E_b12 := E_b12.wr W14
    replace F_b12_value := F_b12_value.other W14 (Or.inl ne_b12_b13)
    replace F_b12_coder := F_b12_coder.other W14 (Or.inl ne_b12_b13)
    have N14 := Fr.snoc X14 N3 g_b13
    refine GoH.st (pc' := 77) (S' := [(.ref b13), (.ref b12), (.ref b12)]) st14 ?_
    refine GoH.st (pc' := 78) (S' := [(.ref b13), (.ref b13), (.ref b12), (.ref b12)]) (fun t_ k_ => XS.dup X14.here hx rfl (hb hby at_77) rfl rfl k_) ?_
    refine GoH.st (pc' := 79) (S' := [(.int (1 : Int32)), (.ref b13), (.ref b13), (.ref b12), (.ref b12)]) (fun t_ k_ => XS.iconst X14.here hx rfl (hb hby at_78) k_) ?_
    refine GoH.st (pc' := 81) (S' := [(.int x1), (.int (1 : Int32)), (.ref b13), (.ref b13), (.ref b12), (.ref b12)]) (fun t_ k_ => XS.iload X14.here hx rfl (hb hby at_79) rfl k_) ?_
    have Sq16 : Safe Z EL s.vm h14 b13 := (own_safeV hZ.alike V_b13 (by decide))
    obtain ⟨cl16, Ar16, q161, q162, q163, q164, q165⟩ := V_b13
    obtain ⟨T16, h16, X16, e16, W16, st16⟩ := stC X14 hx hZ e14 Ar16 (j := (1 : Int32)) (inb_of q162 ⟨by decide, by decide⟩) (g := (mkF m 81 #[.val (.int p1), .val (.int p2), .val (.int p3), .val (.int p4), .val (.int p5), .val (.int p6), .val (.int (2 : Int32)), .val (.int x0), .val (.int x1), .val (.int x2), .unset, .unset, .unset, .unset] [(.int x1), (.int (1 : Int32)), (.ref b13), (.ref b13), (.ref b12), (.ref b12)])) rfl rfl (hb hby at_81)
    replace V_b13 := Arv.set Ar16 q161 q162 q163 q164 q165 (fits_nar_char _) W16 1 rfl (Nat.le_of_ble_eq_true rfl)
    have V_b13 : Arv Z h16 b13 k13 .char (2 : Int32) [(.int (nar .char x0)), (.int (nar .char x1))] (.int (0 : Int32)) := V_b13
    replace S_b12 := Safe.wr W16 Sq16 CR.1 S_b12
    replace CR := CR.trans (CHr.wr W16 Sq16 CR.1)
    replace hk := Nat.le_trans hk (Keep.of_wr W16).1
    replace Z0 := Nat.le_trans Z0 (Keep.of_wr W16).1
    replace O0 := O0.wr W16 g_b13
    replace E_b12 := E_b12.wr W16
    replace F_b12_value := F_b12_value.other W16 (Or.inl ne_b12_b13)
    replace F_b12_coder := F_b12_coder.other W16 (Or.inl ne_b12_b13)
    have N16 := Fr.snoc X16 N14 g_b13
    refine GoH.st (pc' := 82) (S' := [(.ref b13), (.ref b12), (.ref b12)]) st16 ?_
    rw [own_nch0 _ bd0.1 bd0.2, own_nch0 _ bd1.1 bd1.2] at V_b13
    by_cases hU : (255 : Int32) < x0 ∨ (255 : Int32) < x1
    · obtain ⟨_, _, ⟨T18, L18, k18, n18⟩, -, X18, ⟨Lc18, hQ18, l18, y18, z18⟩, st18⟩ := X16.specialBack hx (y := (⟨"java/lang/String", "<init>", "([C)V"⟩ : MethodName)) rfl hown (mvT hZ (wd hw 78 rfl)) (mvT hZ (wd hw 79 rfl)) (mvT hZ (wd hw 80 rfl)) (by decide) (backOf (W := 1) (rmiu3_2 l Z a0 hw [] b12 b13 _ gC (x0) (x1) h16 n0 Z0 SC PC SD SH SL O0 E_b12 g_b12 F_b12_value F_b12_coder ne_b12_b13 V_b13 bd0 bd1 hU) hZ (wd hw 80 rfl) (wd hw 7 rfl) (by decide) (by decide)) (g := (mkF m 82 #[.val (.int p1), .val (.int p2), .val (.int p3), .val (.int p4), .val (.int p5), .val (.int p6), .val (.int (2 : Int32)), .val (.int x0), .val (.int x1), .val (.int x2), .unset, .unset, .unset, .unset] [(.ref b13), (.ref b12), (.ref b12)])) rfl (by rw [hml]; rfl) (Steps.refl _) (a := b12) (argsL := [(.ref b13)]) (rest := [(.ref b12)]) (lenOf pd_15 rfl) rfl (by show 2 * 0 + _ ≤ _; exact Nat.le_of_eq rfl) (hb hby at_82) (fun _ _ => ⟨rfl, e16, (by decide : 2 + 2 ≤ _), (by decide : 6 + 6 ≤ _)⟩)
      dsimp only [Pt.U, Pt.locs, Pt.cells, Pt.slots] at X18 l18 y18 z18 st18 hQ18
      subst l18 y18 z18
      obtain ⟨tu18, kt18, rfl, N18q, K18, lt18, Co18, Va18, Vt18⟩ := hQ18
      have N18 := Fr.app N16 N18q
      have ne_b12_tu18 : b12 ≠ tu18 := Nat.ne_of_lt (Nat.lt_of_lt_of_le E_b12.lt lt18)
      have ne_b13_tu18 : b13 ≠ tu18 := Nat.ne_of_lt (Nat.lt_of_lt_of_le V_b13.lt lt18)
      obtain ⟨h18, e18⟩ : ∃ z, T18.heap = z := ⟨_, rfl⟩
      rw [e18] at K18 Co18 Va18 Vt18
      have Sk19 : ∀ x ∈ [b12], Safe Z EL s.vm h16 x := (allS S_b12 all0)
      replace S_b12 := Safe.keep K18 Sk19 CR.1 S_b12
      replace CR := CR.trans (CHr.keep K18 Sk19 CR.1)
      replace hk := Nat.le_trans hk K18.1
      replace Z0 := Nat.le_trans Z0 K18.1
      replace O0 := O0.keep K18 (allS g_b12 all0)
      replace E_b12 := E_b12.keep K18
      replace V_b13 := V_b13.keep K18 (ninS (Ne.symm ne_b12_b13) nin0)
      refine GoH.tr (pc' := 85) (S' := [(.ref b12)]) st18 ?_
      refine GoH.st (pc' := 87) (S' := []) (fun t_ k_ => XS.astore X18.here hx rfl (hb hby at_85) rfl rfl (l' := #[.val (.int p1), .val (.int p2), .val (.int p3), .val (.int p4), .val (.int p5), .val (.int p6), .val (.int (2 : Int32)), .val (.int x0), .val (.int x1), .val (.int x2), .val (.ref b12), .unset, .unset, .unset]) rfl k_) ?_
      refine GoH.st (pc' := 117) (S' := []) (fun t_ k_ => XS.goto X18.here hx rfl (pc0 := 87) (pc' := 117) rfl (hb hby at_87) (by decide) (by decide) k_) ?_
      exact sl117_2 p1 p2 p3 p4 p5 p6 x0 x1 x2 b12 fm gC ss O0 Z0 ⟨E_b12, tu18, _, Or.inr ⟨Co18, Va18, Vt18⟩⟩ bd0 bd1 bd2 (Stand.up X18 (by decide) (by decide)) hx hZ hw hby hml hown hnm hret hlk e18 hs0 CR hS hk N18
    · have la0 : ¬ (255 : Int32) < x0 := fun z => hU (Or.inl z)
      have la1 : ¬ (255 : Int32) < x1 := fun z => hU (Or.inr (z))
      have hws20 : ∀ d ∈ StrChars.Road.words, d.before a0 Z = true := fun d hd => hw d ((by decide +kernel : ∀ d ∈ StrChars.Road.words, d ∈ tables_1) d hd)
      have hlat20 : ∀ c ∈ [x0, x1], ¬ c < 0 ∧ ¬ (255 : Int32) < c := by
        intro c hc
        simp only [List.mem_cons, List.not_mem_nil, or_false] at hc
        rcases hc with rfl | rfl
        · exact ⟨bd0.1, la0⟩
        · exact ⟨bd1.1, la1⟩
      obtain ⟨_, _, ⟨T20, L20, k20, n20⟩, -, X20, ⟨Lc20, hQ20, l20, y20, z20⟩, st20⟩ := X16.specialBack hx (y := (⟨"java/lang/String", "<init>", "([C)V"⟩ : MethodName)) rfl hown (mvT hZ (wd hw 78 rfl)) (mvT hZ (wd hw 79 rfl)) (mvT hZ (wd hw 80 rfl)) (by decide) (StrChars.Road.backV (W := 1) hZ hws20 (kI := 4) (wd hw 15 rfl) (cs := [x0, x1]) (bs := [(x0).toInt8.toInt32, (x1).toInt8.toInt32]) (n := 2) g_b12 Z0 E_b12 F_b12_value F_b12_coder V_b13 (SC.ext O0.2) PC rfl rfl (by decide) (by decide) hlat20 rfl (by decide) (by decide)) (g := (mkF m 82 #[.val (.int p1), .val (.int p2), .val (.int p3), .val (.int p4), .val (.int p5), .val (.int p6), .val (.int (2 : Int32)), .val (.int x0), .val (.int x1), .val (.int x2), .unset, .unset, .unset, .unset] [(.ref b13), (.ref b12), (.ref b12)])) rfl (by rw [hml]; rfl) (Steps.refl _) (a := b12) (argsL := [(.ref b13)]) (rest := [(.ref b12)]) (lenOf pd_15 rfl) rfl (by show 2 * 0 + _ ≤ _; exact Nat.le_of_eq rfl) (hb hby at_82) (fun _ _ => ⟨rfl, e16, (by decide : 2 + 1 ≤ _), (by decide : 6 + 2 ≤ _)⟩)
      dsimp only [Pt.U, Pt.locs, Pt.cells, Pt.slots] at X20 l20 y20 z20 st20 hQ20
      subst l20 y20 z20
      obtain ⟨rfl, N20q, K20, Ex20, Co20, t20, kb20, ta20, tb20, tc20, Va20, Ay20⟩ := hQ20
      have N20 := Fr.app N16 N20q
      have ne_b12_t20 : b12 ≠ t20 := Nat.ne_of_lt (Nat.lt_of_lt_of_le E_b12.lt tb20)
      have ne_b13_t20 : b13 ≠ t20 := Nat.ne_of_lt (Nat.lt_of_lt_of_le V_b13.lt tb20)
      obtain ⟨h20, e20⟩ : ∃ z, T20.heap = z := ⟨_, rfl⟩
      rw [e20] at K20 Ex20 Co20 Va20 Ay20
      have Sk21 : ∀ x ∈ [b12], Safe Z EL s.vm h16 x := (allS S_b12 all0)
      replace S_b12 := Safe.keep K20 Sk21 CR.1 S_b12
      replace CR := CR.trans (CHr.keep K20 Sk21 CR.1)
      replace hk := Nat.le_trans hk K20.1
      replace Z0 := Nat.le_trans Z0 K20.1
      replace O0 := O0.keep K20 (allS g_b12 all0)
      replace E_b12 := E_b12.keep K20
      replace V_b13 := V_b13.keep K20 (ninS (Ne.symm ne_b12_b13) nin0)
      have Ay20 : Arv Z h20 t20 kb20 .byte (2 : Int32) [(.int ((x0).toInt8.toInt32)), (.int ((x1).toInt8.toInt32))] (.int (0 : Int32)) := Ay20
      refine GoH.tr (pc' := 85) (S' := [(.ref b12)]) st20 ?_
      refine GoH.st (pc' := 87) (S' := []) (fun t_ k_ => XS.astore X20.here hx rfl (hb hby at_85) rfl rfl (l' := #[.val (.int p1), .val (.int p2), .val (.int p3), .val (.int p4), .val (.int p5), .val (.int p6), .val (.int (2 : Int32)), .val (.int x0), .val (.int x1), .val (.int x2), .val (.ref b12), .unset, .unset, .unset]) rfl k_) ?_
      refine GoH.st (pc' := 117) (S' := []) (fun t_ k_ => XS.goto X20.here hx rfl (pc0 := 87) (pc' := 117) rfl (hb hby at_87) (by decide) (by decide) k_) ?_
      exact sl117_2 p1 p2 p3 p4 p5 p6 x0 x1 x2 b12 fm gC ss O0 Z0 ⟨E_b12, t20, _, Or.inl ⟨Co20, Va20, Ay20, la0, la1, trivial⟩⟩ bd0 bd1 bd2 (Stand.up X20 (by decide) (by decide)) hx hZ hw hby hml hown hnm hret hlk e20 hs0 CR hS hk N20
  · rw [hk4]
    refine GoH.st (pc' := 25) (S' := [(.int (3 : Int32))]) (fun t_ k_ => XS.iload X3.here hx rfl (hb hby at_23) rfl k_) ?_
    refine GoH.st (pc' := 43) (S' := []) (fun t_ k_ => XS.ifYes X3.here hx rfl (pc0 := 25) (pc' := 43) rfl (hb hby at_25) rfl ((if0 _ _).trans (feq (by decide : ¬ ((3 : Int32) = (0 : Int32)))).2) (by decide) (by decide) k_) ?_
    refine GoH.st (pc' := 45) (S' := [(.int (3 : Int32))]) (fun t_ k_ => XS.iload X3.here hx rfl (hb hby at_43) rfl k_) ?_
    refine GoH.st (pc' := 46) (S' := [(.int (1 : Int32)), (.int (3 : Int32))]) (fun t_ k_ => XS.iconst X3.here hx rfl (hb hby at_45) k_) ?_
    refine GoH.st (pc' := 59) (S' := []) (fun t_ k_ => XS.icmpYes X3.here hx rfl (pc0 := 46) (pc' := 59) rfl (hb hby at_46) rfl (feq (by decide : ¬ ((3 : Int32) = (1 : Int32)))).2 (by decide) (by decide) k_) ?_
    refine GoH.st (pc' := 61) (S' := [(.int (3 : Int32))]) (fun t_ k_ => XS.iload X3.here hx rfl (hb hby at_59) rfl k_) ?_
    refine GoH.st (pc' := 62) (S' := [(.int (2 : Int32)), (.int (3 : Int32))]) (fun t_ k_ => XS.iconst X3.here hx rfl (hb hby at_61) k_) ?_
    refine GoH.st (pc' := 90) (S' := []) (fun t_ k_ => XS.icmpYes X3.here hx rfl (pc0 := 62) (pc' := 90) rfl (hb hby at_62) rfl (feq (by decide : ¬ ((3 : Int32) = (2 : Int32)))).2 (by decide) (by decide) k_) ?_
    obtain ⟨T22, h22, X22, e22, E22, A22, D22, U22, st22⟩ := newO X3 hx hZ hown (wd hw 76 rfl) (wd hw 15 rfl) (wd hw 7 rfl) e3 (g := (mkF m 90 #[.val (.int p1), .val (.int p2), .val (.int p3), .val (.int p4), .val (.int p5), .val (.int p6), .val (.int (3 : Int32)), .val (.int x0), .val (.int x1), .val (.int x2), .unset, .unset, .unset, .unset] [])) rfl (hb hby at_90) (by decide) (by decide)
    obtain ⟨b22, g22⟩ : ∃ z, z = h0.size := ⟨_, rfl⟩
    rw [← g22] at A22 D22 U22 st22
    have g_b22 : n0 ≤ b22 := Nat.le_trans Z0 (Nat.le_of_eq g22.symm)
    have S_b22 : Safe Z EL s.vm h22 b22 := Safe.ext E22 CR.1 (Safe.new (Nat.le_of_eq g22.symm))
    replace CR := CR.trans (CHr.ext E22 CR.1)
    replace hk := Nat.le_trans hk E22.1
    replace Z0 := Nat.le_trans Z0 E22.1
    replace O0 := O0.ext E22
    have E_b22 := A22
    have F_b22_value : Fld Z h22 b22 "java/lang/String" "value" "[B" .null := D22 (Or.inr (wd hw 28 rfl)) (ty := (.array .byte)) (by decide)
    have F_b22_coder : Fld Z h22 b22 "java/lang/String" "coder" "B" (.int (0 : Int32)) := D22 (Or.inr (wd hw 30 rfl)) (ty := .byte) (by decide)
    refine GoH.st (pc' := 93) (S' := [(.ref b22)]) st22 ?_
    refine GoH.st (pc' := 94) (S' := [(.ref b22), (.ref b22)]) (fun t_ k_ => XS.dup X22.here hx rfl (hb hby at_93) rfl rfl k_) ?_
    refine GoH.st (pc' := 95) (S' := [(.int (3 : Int32)), (.ref b22), (.ref b22)]) (fun t_ k_ => XS.iconst X22.here hx rfl (hb hby at_94) k_) ?_
    obtain ⟨T23, h23, k23, X23, e23, E23, A23, st23⟩ := newP X22 hx hZ (wd hw 77 rfl) e22 (g := (mkF m 95 #[.val (.int p1), .val (.int p2), .val (.int p3), .val (.int p4), .val (.int p5), .val (.int p6), .val (.int (3 : Int32)), .val (.int x0), .val (.int x1), .val (.int x2), .unset, .unset, .unset, .unset] [(.int (3 : Int32)), (.ref b22), (.ref b22)])) rfl (hb hby at_95) rfl (by decide) (cap := 3) (by decide) (by decide) (by decide) (by decide)
    obtain ⟨b23, g23⟩ : ∃ z, z = h22.size := ⟨_, rfl⟩
    rw [← g23] at A23 st23
    have ne_b22_b23 : b22 ≠ b23 := Nat.ne_of_lt (Nat.lt_of_lt_of_le E_b22.lt (Nat.le_of_eq g23.symm))
    have g_b23 : n0 ≤ b23 := Nat.le_trans Z0 (Nat.le_of_eq g23.symm)
    replace S_b22 := Safe.ext E23 CR.1 S_b22
    replace CR := CR.trans (CHr.ext E23 CR.1)
    replace hk := Nat.le_trans hk E23.1
    replace Z0 := Nat.le_trans Z0 E23.1
    replace O0 := O0.ext E23
    replace E_b22 := E_b22.ext E23
    replace F_b22_value := F_b22_value.ext E23
    replace F_b22_coder := F_b22_coder.ext E23
    have V_b23 : Arv Z h23 b23 k23 .char (3 : Int32) [(.int (0 : Int32)), (.int (0 : Int32)), (.int (0 : Int32))] (.int (0 : Int32)) := (Arv.new A23 (by decide)).pad (pad_rep [] (.int (0 : Int32)) 3)
    refine GoH.st (pc' := 97) (S' := [(.ref b23), (.ref b22), (.ref b22)]) st23 ?_
    refine GoH.st (pc' := 98) (S' := [(.ref b23), (.ref b23), (.ref b22), (.ref b22)]) (fun t_ k_ => XS.dup X23.here hx rfl (hb hby at_97) rfl rfl k_) ?_
    refine GoH.st (pc' := 99) (S' := [(.int (0 : Int32)), (.ref b23), (.ref b23), (.ref b22), (.ref b22)]) (fun t_ k_ => XS.iconst X23.here hx rfl (hb hby at_98) k_) ?_
    refine GoH.st (pc' := 101) (S' := [(.int x0), (.int (0 : Int32)), (.ref b23), (.ref b23), (.ref b22), (.ref b22)]) (fun t_ k_ => XS.iload X23.here hx rfl (hb hby at_99) rfl k_) ?_
    have Sq24 : Safe Z EL s.vm h23 b23 := (own_safeV hZ.alike V_b23 (by decide))
    obtain ⟨cl24, Ar24, q241, q242, q243, q244, q245⟩ := V_b23
    obtain ⟨T24, h24, X24, e24, W24, st24⟩ := stC X23 hx hZ e23 Ar24 (j := (0 : Int32)) (inb_of q242 ⟨by decide, by decide⟩) (g := (mkF m 101 #[.val (.int p1), .val (.int p2), .val (.int p3), .val (.int p4), .val (.int p5), .val (.int p6), .val (.int (3 : Int32)), .val (.int x0), .val (.int x1), .val (.int x2), .unset, .unset, .unset, .unset] [(.int x0), (.int (0 : Int32)), (.ref b23), (.ref b23), (.ref b22), (.ref b22)])) rfl rfl (hb hby at_101)
    replace V_b23 := Arv.set Ar24 q241 q242 q243 q244 q245 (fits_nar_char _) W24 0 rfl (Nat.le_of_ble_eq_true rfl)
    have V_b23 : Arv Z h24 b23 k23 .char (3 : Int32) [(.int (nar .char x0)), (.int (0 : Int32)), (.int (0 : Int32))] (.int (0 : Int32)) := V_b23
    replace S_b22 := Safe.wr W24 Sq24 CR.1 S_b22
    replace CR := CR.trans (CHr.wr W24 Sq24 CR.1)
    replace hk := Nat.le_trans hk (Keep.of_wr W24).1
    replace Z0 := Nat.le_trans Z0 (Keep.of_wr W24).1
    replace O0 := O0.wr W24 g_b23
    replace E_b22 := E_b22.wr W24
    replace F_b22_value := F_b22_value.other W24 (Or.inl ne_b22_b23)
    replace F_b22_coder := F_b22_coder.other W24 (Or.inl ne_b22_b23)
    have N24 := Fr.snoc X24 N3 g_b23
    refine GoH.st (pc' := 102) (S' := [(.ref b23), (.ref b22), (.ref b22)]) st24 ?_
    refine GoH.st (pc' := 103) (S' := [(.ref b23), (.ref b23), (.ref b22), (.ref b22)]) (fun t_ k_ => XS.dup X24.here hx rfl (hb hby at_102) rfl rfl k_) ?_
    refine GoH.st (pc' := 104) (S' := [(.int (1 : Int32)), (.ref b23), (.ref b23), (.ref b22), (.ref b22)]) (fun t_ k_ => XS.iconst X24.here hx rfl (hb hby at_103) k_) ?_
    refine GoH.st (pc' := 106) (S' := [(.int x1), (.int (1 : Int32)), (.ref b23), (.ref b23), (.ref b22), (.ref b22)]) (fun t_ k_ => XS.iload X24.here hx rfl (hb hby at_104) rfl k_) ?_
    have Sq26 : Safe Z EL s.vm h24 b23 := (own_safeV hZ.alike V_b23 (by decide))
    obtain ⟨cl26, Ar26, q261, q262, q263, q264, q265⟩ := V_b23
    obtain ⟨T26, h26, X26, e26, W26, st26⟩ := stC X24 hx hZ e24 Ar26 (j := (1 : Int32)) (inb_of q262 ⟨by decide, by decide⟩) (g := (mkF m 106 #[.val (.int p1), .val (.int p2), .val (.int p3), .val (.int p4), .val (.int p5), .val (.int p6), .val (.int (3 : Int32)), .val (.int x0), .val (.int x1), .val (.int x2), .unset, .unset, .unset, .unset] [(.int x1), (.int (1 : Int32)), (.ref b23), (.ref b23), (.ref b22), (.ref b22)])) rfl rfl (hb hby at_106)
    replace V_b23 := Arv.set Ar26 q261 q262 q263 q264 q265 (fits_nar_char _) W26 1 rfl (Nat.le_of_ble_eq_true rfl)
    have V_b23 : Arv Z h26 b23 k23 .char (3 : Int32) [(.int (nar .char x0)), (.int (nar .char x1)), (.int (0 : Int32))] (.int (0 : Int32)) := V_b23
    replace S_b22 := Safe.wr W26 Sq26 CR.1 S_b22
    replace CR := CR.trans (CHr.wr W26 Sq26 CR.1)
    replace hk := Nat.le_trans hk (Keep.of_wr W26).1
    replace Z0 := Nat.le_trans Z0 (Keep.of_wr W26).1
    replace O0 := O0.wr W26 g_b23
    replace E_b22 := E_b22.wr W26
    replace F_b22_value := F_b22_value.other W26 (Or.inl ne_b22_b23)
    replace F_b22_coder := F_b22_coder.other W26 (Or.inl ne_b22_b23)
    have N26 := Fr.snoc X26 N24 g_b23
    refine GoH.st (pc' := 107) (S' := [(.ref b23), (.ref b22), (.ref b22)]) st26 ?_
    refine GoH.st (pc' := 108) (S' := [(.ref b23), (.ref b23), (.ref b22), (.ref b22)]) (fun t_ k_ => XS.dup X26.here hx rfl (hb hby at_107) rfl rfl k_) ?_
    refine GoH.st (pc' := 109) (S' := [(.int (2 : Int32)), (.ref b23), (.ref b23), (.ref b22), (.ref b22)]) (fun t_ k_ => XS.iconst X26.here hx rfl (hb hby at_108) k_) ?_
    refine GoH.st (pc' := 111) (S' := [(.int x2), (.int (2 : Int32)), (.ref b23), (.ref b23), (.ref b22), (.ref b22)]) (fun t_ k_ => XS.iload X26.here hx rfl (hb hby at_109) rfl k_) ?_
    have Sq28 : Safe Z EL s.vm h26 b23 := (own_safeV hZ.alike V_b23 (by decide))
    obtain ⟨cl28, Ar28, q281, q282, q283, q284, q285⟩ := V_b23
    obtain ⟨T28, h28, X28, e28, W28, st28⟩ := stC X26 hx hZ e26 Ar28 (j := (2 : Int32)) (inb_of q282 ⟨by decide, by decide⟩) (g := (mkF m 111 #[.val (.int p1), .val (.int p2), .val (.int p3), .val (.int p4), .val (.int p5), .val (.int p6), .val (.int (3 : Int32)), .val (.int x0), .val (.int x1), .val (.int x2), .unset, .unset, .unset, .unset] [(.int x2), (.int (2 : Int32)), (.ref b23), (.ref b23), (.ref b22), (.ref b22)])) rfl rfl (hb hby at_111)
    replace V_b23 := Arv.set Ar28 q281 q282 q283 q284 q285 (fits_nar_char _) W28 2 rfl (Nat.le_of_ble_eq_true rfl)
    have V_b23 : Arv Z h28 b23 k23 .char (3 : Int32) [(.int (nar .char x0)), (.int (nar .char x1)), (.int (nar .char x2))] (.int (0 : Int32)) := V_b23
    replace S_b22 := Safe.wr W28 Sq28 CR.1 S_b22
    replace CR := CR.trans (CHr.wr W28 Sq28 CR.1)
    replace hk := Nat.le_trans hk (Keep.of_wr W28).1
    replace Z0 := Nat.le_trans Z0 (Keep.of_wr W28).1
    replace O0 := O0.wr W28 g_b23
    replace E_b22 := E_b22.wr W28
    replace F_b22_value := F_b22_value.other W28 (Or.inl ne_b22_b23)
    replace F_b22_coder := F_b22_coder.other W28 (Or.inl ne_b22_b23)
    have N28 := Fr.snoc X28 N26 g_b23
    refine GoH.st (pc' := 112) (S' := [(.ref b23), (.ref b22), (.ref b22)]) st28 ?_
    rw [own_nch0 _ bd0.1 bd0.2, own_nch0 _ bd1.1 bd1.2, own_nch0 _ bd2.1 bd2.2] at V_b23
    by_cases hU : (255 : Int32) < x0 ∨ (255 : Int32) < x1 ∨ (255 : Int32) < x2
    · obtain ⟨_, _, ⟨T30, L30, k30, n30⟩, -, X30, ⟨Lc30, hQ30, l30, y30, z30⟩, st30⟩ := X28.specialBack hx (y := (⟨"java/lang/String", "<init>", "([C)V"⟩ : MethodName)) rfl hown (mvT hZ (wd hw 78 rfl)) (mvT hZ (wd hw 79 rfl)) (mvT hZ (wd hw 80 rfl)) (by decide) (backOf (W := 1) (rmiu3_3 l Z a0 hw [] b22 b23 _ gC (x0) (x1) (x2) h28 n0 Z0 SC PC SD SH SL O0 E_b22 g_b22 F_b22_value F_b22_coder ne_b22_b23 V_b23 bd0 bd1 bd2 hU) hZ (wd hw 80 rfl) (wd hw 7 rfl) (by decide) (by decide)) (g := (mkF m 112 #[.val (.int p1), .val (.int p2), .val (.int p3), .val (.int p4), .val (.int p5), .val (.int p6), .val (.int (3 : Int32)), .val (.int x0), .val (.int x1), .val (.int x2), .unset, .unset, .unset, .unset] [(.ref b23), (.ref b22), (.ref b22)])) rfl (by rw [hml]; rfl) (Steps.refl _) (a := b22) (argsL := [(.ref b23)]) (rest := [(.ref b22)]) (lenOf pd_15 rfl) rfl (by show 2 * 0 + _ ≤ _; exact Nat.le_of_eq rfl) (hb hby at_112) (fun _ _ => ⟨rfl, e28, (by decide : 2 + 2 ≤ _), (by decide : 7 + 9 ≤ _)⟩)
      dsimp only [Pt.U, Pt.locs, Pt.cells, Pt.slots] at X30 l30 y30 z30 st30 hQ30
      subst l30 y30 z30
      obtain ⟨tu30, kt30, rfl, N30q, K30, lt30, Co30, Va30, Vt30⟩ := hQ30
      have N30 := Fr.app N28 N30q
      have ne_b22_tu30 : b22 ≠ tu30 := Nat.ne_of_lt (Nat.lt_of_lt_of_le E_b22.lt lt30)
      have ne_b23_tu30 : b23 ≠ tu30 := Nat.ne_of_lt (Nat.lt_of_lt_of_le V_b23.lt lt30)
      obtain ⟨h30, e30⟩ : ∃ z, T30.heap = z := ⟨_, rfl⟩
      rw [e30] at K30 Co30 Va30 Vt30
      have Sk31 : ∀ x ∈ [b22], Safe Z EL s.vm h28 x := (allS S_b22 all0)
      replace S_b22 := Safe.keep K30 Sk31 CR.1 S_b22
      replace CR := CR.trans (CHr.keep K30 Sk31 CR.1)
      replace hk := Nat.le_trans hk K30.1
      replace Z0 := Nat.le_trans Z0 K30.1
      replace O0 := O0.keep K30 (allS g_b22 all0)
      replace E_b22 := E_b22.keep K30
      replace V_b23 := V_b23.keep K30 (ninS (Ne.symm ne_b22_b23) nin0)
      refine GoH.tr (pc' := 115) (S' := [(.ref b22)]) st30 ?_
      refine GoH.st (pc' := 117) (S' := []) (fun t_ k_ => XS.astore X30.here hx rfl (hb hby at_115) rfl rfl (l' := #[.val (.int p1), .val (.int p2), .val (.int p3), .val (.int p4), .val (.int p5), .val (.int p6), .val (.int (3 : Int32)), .val (.int x0), .val (.int x1), .val (.int x2), .val (.ref b22), .unset, .unset, .unset]) rfl k_) ?_
      exact sl117_3 p1 p2 p3 p4 p5 p6 x0 x1 x2 b22 fm gC ss O0 Z0 ⟨E_b22, tu30, _, Or.inr ⟨Co30, Va30, Vt30⟩⟩ bd0 bd1 bd2 (Stand.up X30 (by decide) (by decide)) hx hZ hw hby hml hown hnm hret hlk e30 hs0 CR hS hk N30
    · have la0 : ¬ (255 : Int32) < x0 := fun z => hU (Or.inl z)
      have la1 : ¬ (255 : Int32) < x1 := fun z => hU (Or.inr (Or.inl z))
      have la2 : ¬ (255 : Int32) < x2 := fun z => hU (Or.inr (Or.inr (z)))
      have hws32 : ∀ d ∈ StrChars.Road.words, d.before a0 Z = true := fun d hd => hw d ((by decide +kernel : ∀ d ∈ StrChars.Road.words, d ∈ tables_1) d hd)
      have hlat32 : ∀ c ∈ [x0, x1, x2], ¬ c < 0 ∧ ¬ (255 : Int32) < c := by
        intro c hc
        simp only [List.mem_cons, List.not_mem_nil, or_false] at hc
        rcases hc with rfl | rfl | rfl
        · exact ⟨bd0.1, la0⟩
        · exact ⟨bd1.1, la1⟩
        · exact ⟨bd2.1, la2⟩
      obtain ⟨_, _, ⟨T32, L32, k32, n32⟩, -, X32, ⟨Lc32, hQ32, l32, y32, z32⟩, st32⟩ := X28.specialBack hx (y := (⟨"java/lang/String", "<init>", "([C)V"⟩ : MethodName)) rfl hown (mvT hZ (wd hw 78 rfl)) (mvT hZ (wd hw 79 rfl)) (mvT hZ (wd hw 80 rfl)) (by decide) (StrChars.Road.backV (W := 1) hZ hws32 (kI := 4) (wd hw 15 rfl) (cs := [x0, x1, x2]) (bs := [(x0).toInt8.toInt32, (x1).toInt8.toInt32, (x2).toInt8.toInt32]) (n := 3) g_b22 Z0 E_b22 F_b22_value F_b22_coder V_b23 (SC.ext O0.2) PC rfl rfl (by decide) (by decide) hlat32 rfl (by decide) (by decide)) (g := (mkF m 112 #[.val (.int p1), .val (.int p2), .val (.int p3), .val (.int p4), .val (.int p5), .val (.int p6), .val (.int (3 : Int32)), .val (.int x0), .val (.int x1), .val (.int x2), .unset, .unset, .unset, .unset] [(.ref b23), (.ref b22), (.ref b22)])) rfl (by rw [hml]; rfl) (Steps.refl _) (a := b22) (argsL := [(.ref b23)]) (rest := [(.ref b22)]) (lenOf pd_15 rfl) rfl (by show 2 * 0 + _ ≤ _; exact Nat.le_of_eq rfl) (hb hby at_112) (fun _ _ => ⟨rfl, e28, (by decide : 2 + 1 ≤ _), (by decide : 7 + 3 ≤ _)⟩)
      dsimp only [Pt.U, Pt.locs, Pt.cells, Pt.slots] at X32 l32 y32 z32 st32 hQ32
      subst l32 y32 z32
      obtain ⟨rfl, N32q, K32, Ex32, Co32, t32, kb32, ta32, tb32, tc32, Va32, Ay32⟩ := hQ32
      have N32 := Fr.app N28 N32q
      have ne_b22_t32 : b22 ≠ t32 := Nat.ne_of_lt (Nat.lt_of_lt_of_le E_b22.lt tb32)
      have ne_b23_t32 : b23 ≠ t32 := Nat.ne_of_lt (Nat.lt_of_lt_of_le V_b23.lt tb32)
      obtain ⟨h32, e32⟩ : ∃ z, T32.heap = z := ⟨_, rfl⟩
      rw [e32] at K32 Ex32 Co32 Va32 Ay32
      have Sk33 : ∀ x ∈ [b22], Safe Z EL s.vm h28 x := (allS S_b22 all0)
      replace S_b22 := Safe.keep K32 Sk33 CR.1 S_b22
      replace CR := CR.trans (CHr.keep K32 Sk33 CR.1)
      replace hk := Nat.le_trans hk K32.1
      replace Z0 := Nat.le_trans Z0 K32.1
      replace O0 := O0.keep K32 (allS g_b22 all0)
      replace E_b22 := E_b22.keep K32
      replace V_b23 := V_b23.keep K32 (ninS (Ne.symm ne_b22_b23) nin0)
      have Ay32 : Arv Z h32 t32 kb32 .byte (3 : Int32) [(.int ((x0).toInt8.toInt32)), (.int ((x1).toInt8.toInt32)), (.int ((x2).toInt8.toInt32))] (.int (0 : Int32)) := Ay32
      refine GoH.tr (pc' := 115) (S' := [(.ref b22)]) st32 ?_
      refine GoH.st (pc' := 117) (S' := []) (fun t_ k_ => XS.astore X32.here hx rfl (hb hby at_115) rfl rfl (l' := #[.val (.int p1), .val (.int p2), .val (.int p3), .val (.int p4), .val (.int p5), .val (.int p6), .val (.int (3 : Int32)), .val (.int x0), .val (.int x1), .val (.int x2), .val (.ref b22), .unset, .unset, .unset]) rfl k_) ?_
      exact sl117_3 p1 p2 p3 p4 p5 p6 x0 x1 x2 b22 fm gC ss O0 Z0 ⟨E_b22, t32, _, Or.inl ⟨Co32, Va32, Ay32, la0, la1, la2, trivial⟩⟩ bd0 bd1 bd2 (Stand.up X32 (by decide) (by decide)) hx hZ hw hby hml hown hnm hret hlk e32 hs0 CR hS hk N32
theorem own_steq {t : Term} {k : Int32} {args : Array Value} {first s : State} {o : Option Outcome} {idx : List Nat} (h : (Jvm.Cond.eq t (.int k)).value args first o s idx = some true) : t.eval args first o idx s = some (.int k) := by
  simp only [Cond.value, Term.eval] at h
  cases ht : t.eval args first o idx s with
  | none => simp [ht] at h
  | some x => cases x <;> simp [ht] at h ⊢ <;> exact h
theorem own_sub : ∀ q ∈ EL, q ∈ consts_1 := by decide
theorem comes_1 {Post : Tables → Env → Array Value → State → Outcome → State → Prop} (hpost : ∀ tb e args s v u, (limb_1_1.after args s (.returned v) u = true ∧ limb_1_2.after args s (.returned v) u = true ∧ True) → Jvm.D.FramedW s (.returned v) u (Jvm.fieldLocs frame_1_writes args s ++ Jvm.arrayLocs frame_1_arrays args s ++ Jvm.staticLocs frame_1_statics s) 24 2176 → Post tb e args s (.returned v) u) :
    ArmFor flags0 classFile x code maxLocals ret World_1 tables_1 room_1 Calls_1 rest_1 Pre_1 Post := by
  intro l hfl _ _ p e ha hc hk s m args below hf hA hF happ hP
  obtain ⟨hcalls, hrest, hpre⟩ := hP
  obtain ⟨-, -, -, hnamed, -, -, -, hat⟩ := (Spec.applies_iff hf).mp happ
  obtain ⟨hg, hn⟩ := and_e (Cond.before_iff.mp (show (Jvm.Cond.and given_1 narrow_1).before args s = true from hpre))
  obtain ⟨gc, gr0⟩ := and_e hg
  obtain ⟨ga0, gr1⟩ := and_e gr0
  obtain ⟨ga1, gr2⟩ := and_e gr1
  obtain ⟨ga2, gr3⟩ := and_e gr2
  obtain ⟨ga3, gr4⟩ := and_e gr3
  obtain ⟨ga4, gr5⟩ := and_e gr4
  have ga5 := gr5
  obtain ⟨w0, w1, w2, w3, w4, w5, rfl⟩ : ∃ w0 w1 w2 w3 w4 w5 : Value, args = #[w0, w1, w2, w3, w4, w5] := by
    have hs : args.size = 6 := by simpa [Cond.value, given_1] using gc
    obtain ⟨L⟩ := args
    match L, hs with
    | [w0, w1, w2, w3, w4, w5], _ => exact ⟨w0, w1, w2, w3, w4, w5, rfl⟩
  have hw := fun d (hd : d ∈ tables_1) => atoms_spec (ws := Jvm.Cond.code x code maxLocals ret :: tables_1) hat d (List.mem_cons_of_mem _ hd)
  have hfit : Fit s := fun {y c} hc i hi => by
    obtain ⟨ha, rfl⟩ := Array.getElem?_eq_some_iff.mp hc
    have q := List.all_eq_true.mp ((Array.all_eq_true_iff_forall_mem.mp hF) _ (Array.getElem_mem ha)) i (List.mem_range.mpr hi)
    simpa [Array.getElem?_eq_getElem hi] using q
  obtain ⟨hsets, hown0⟩ := atoms_of _ (rest_1_c_eq ▸ (show rest_1_c.before _ s = true from hrest))
  obtain ⟨i0, ei0⟩ := is_v ga0
  obtain rfl : w0 = (.int i0) := Option.some.inj ei0
  obtain ⟨i1, ei1⟩ := is_v ga1
  obtain rfl : w1 = (.int i1) := Option.some.inj ei1
  obtain ⟨i2, ei2⟩ := is_v ga2
  obtain rfl : w2 = (.int i2) := Option.some.inj ei2
  obtain ⟨i3, ei3⟩ := is_v ga3
  obtain rfl : w3 = (.int i3) := Option.some.inj ei3
  obtain ⟨i4, ei4⟩ := is_v ga4
  obtain rfl : w4 = (.int i4) := Option.some.inj ei4
  obtain ⟨i5, ei5⟩ := is_v ga5
  obtain rfl : w5 = (.int i5) := Option.some.inj ei5
  have nc0 := not_v (Cond.before_iff.mp (hsets _ (List.mem_of_getElem? (i := 2) rfl)))
  obtain ⟨gC, eC⟩ := is_v (Cond.before_iff.mp (hsets _ (List.mem_of_getElem? (i := 1) rfl)))
  have SC : Sta s s.heap "java/lang/String" "COMPACT_STRINGS" "Z" (.int gC) := Sta.start eC (Or.inl (hsets _ (List.mem_of_getElem? (i := 0) rfl)))
  have PC : ¬ (gC = (0 : Int32)) := gotF (Cond.eq_ints eC (Term.int_eval (0))) nc0
  have wX := Cond.before_iff.mp (hsets _ (List.mem_of_getElem? (i := 8) rfl))
  obtain ⟨fm, eE, hfm⟩ := isR_v wX
  have SF : Sta s s.heap "jdk/internal/util/Preconditions" "SIOOBE_FORMATTER" "Ljava/util/function/BiFunction;" fm := Sta.start eE (Or.inl (hsets _ (List.mem_of_getElem? (i := 7) rfl)))
  have SD : Sta s s.heap "java/lang/StringUTF16" "$assertionsDisabled" "Z" (.int (1 : Int32)) := Sta.start (own_steq (Cond.before_iff.mp (hsets _ (List.mem_of_getElem? (i := 12) rfl)))) (Or.inl (hsets _ (List.mem_of_getElem? (i := 11) rfl)))
  have SH : Sta s s.heap "java/lang/StringUTF16" "HI_BYTE_SHIFT" "I" (.int (0 : Int32)) := Sta.start (own_steq (Cond.before_iff.mp (hsets _ (List.mem_of_getElem? (i := 15) rfl)))) (Or.inl (hsets _ (List.mem_of_getElem? (i := 14) rfl)))
  have SL : Sta s s.heap "java/lang/StringUTF16" "LO_BYTE_SHIFT" "I" (.int (8 : Int32)) := Sta.start (own_steq (Cond.before_iff.mp (hsets _ (List.mem_of_getElem? (i := 18) rfl)))) (Or.inl (hsets _ (List.mem_of_getElem? (i := 17) rfl)))
  have hH0 : CHv s EL s.vm s.heap := CHv.start (own_EW hw) (fun q hq => hcalls.1 q (own_sub q hq)) (hsets _ (List.mem_of_getElem? (i := 2) rfl)) (own_wS hw _ (by simp [Bundle.stringAtoms])) (own_wS hw _ (by simp [Bundle.stringAtoms, Bundle.sN]))
  obtain ⟨n, o, h1, h2, h3, _, L, rfl, ⟨rfl, N⟩, -, hq⟩ := rm0 l s _ hw tables_1 i0 i1 i2 i3 i4 i5 fm gC s.heap s.heap.size (Nat.le_refl _) ⟨SC, PC, hfm, SF, SD, SH, SL⟩ (Old.start s) p e ha hc hk s m _ below hf ((Spec.applies_iff_loose hf).mp happ).1 ⟨rfl, State.Warmed39.refl s, rfl, hH0⟩ trivial
  refine ⟨n, _, h1, h2, h3, hpost _ _ _ _ _ _ ⟨Cond.after_iff.mpr rfl, Cond.after_iff.mpr (eq_i res_at (Term.int_eval (1)) rfl), trivial⟩ ⟨hq.1, hq.2.1, hq.2.2.1, (hq.2.2.2.sift fun y hy => Or.inr (N y hy)).mono (by decide) (by decide)⟩⟩
theorem main_1_1 : Claimed_1_1 := comes_1 fun _ _ _ _ _ _ h hF => ⟨h.1, hF⟩
theorem main_1_2 : Claimed_1_2 := comes_1 fun _ _ _ _ _ _ h hF => ⟨h.2.1, hF⟩
end Jvm.Pilot.@@N@@
namespace Jvm.Pilot.@@N@@
open Jvm Jvm.ClassFile Sem Op Lib Jvm.Free Jvm.Stand Jvm.Pilot.@@N@@.Jvm.D
/-! MADE BY PROGRAM (witnessworld.py) out of the Statement's table words and the real class files: 19 classes; the members and pool entries that the words name. The judged class is class 1, her method 3. -/
namespace start1
open Jvm.ClassFile
def u (s : String) : CpInfo := .utf8 (stringToUtf16 s)
/-- a pool by its gaps: so many unusable entries, then the entry; so many at the end -/
def gap : Nat → List CpInfo → List CpInfo
  | 0, r => r
  | n + 1, r => .unusable :: gap n r
def poolList (es : List (Nat × CpInfo)) (last : Nat) : List CpInfo := es.foldr (fun e r => gap e.1 (e.2 :: r)) (gap last [])
def pool (es : List (Nat × CpInfo)) (last : Nat) : Array CpInfo := ⟨poolList es last⟩
def fileOf (pool : Array CpInfo) (this : Nat) (attrs : Array Attribute := #[]) (ms : Array MethodInfo := #[]) (fl : Nat := 33) (sup : Nat := 0) (ifs : Array Nat := #[]) (fds : Array FieldInfo := #[]) : ClassFile where
  minorVersion := 0
  majorVersion := 65
  constantPool := pool
  accessFlags := fl
  thisClass := this
  superClass := sup
  interfaces := ifs
  fields := fds
  methods := ms
  attributes := attrs
def plain (name : String) (sup : Option ClassId) : Class where
  name := name
  kind := .ordinary
  loader := none
  accessFlags := 33
  super := sup
  interfaces := #[]
  cf := none
  fields := #[]
  methods := #[]
  instanceTypes := #[]
  staticTypes := #[]
  resolved := #[]
  callSites := []
  init := .initialized
  statics := none
  mirror := none

def pool0 : Array CpInfo := pool [(5, u "<init>"), (0, u "()V"), (1, .class_ 10), (1, u "java/lang/Object")] 113

def k0c0 : Code := { maxStack := 0, maxLocals := 1, code := object_method_1_code, exceptionTable := #[], attributes := #[] }
def k0m0 : Method := { name := "<init>", desc := "()V", sig := { parameters := [], returnType := none }, accessFlags := 1, code := some k0c0 }
/-- java/lang/Object -/
def k0 : Class := { plain "java/lang/Object" none with
  accessFlags := 33
  interfaces := #[]
  cf := some (fileOf pool0 8 #[] #[{ accessFlags := 1, nameIndex := 5, descriptorIndex := 6, attributes := #[] }] 33 0 #[] #[])
  fields := #[]
  methods := #[k0m0]
  instanceTypes := #[]
  staticTypes := #[]
  resolved := Array.replicate 124 none
  statics := none }

def pool1 : Array CpInfo := pool [(2, .class_ 4), (1, u "java/lang/Object"), (0, u "<init>"), (0, u "()V"), (0, .integer 65535), (0, .methodref 9 10), (0, .class_ 11), (0, .nameAndType 12 13), (0, u "pechat/card/DigitsArePinLaw"), (0, u "ch"), (0, u "(I)C"), (0, .class_ 15), (0, u "java/lang/String"), (0, .methodref 14 17), (0, .nameAndType 5 18), (0, u "([C)V"), (0, .methodref 14 20), (0, .nameAndType 21 22), (0, u "valueOf"), (0, u "(C)Ljava/lang/String;"), (0, .methodref 9 24), (0, .nameAndType 25 26), (0, u "isAsciiDigit"), (0, u "(C)Z"), (0, .methodref 28 29), (0, .class_ 30), (0, .nameAndType 31 32), (0, u "pechat/card/Digits"), (0, u "are"), (0, u "(Ljava/lang/String;II)Z"), (3, u "law"), (0, u "(IIIIII)Z")] 2

def k1m0 : Method := { name := "<init>", desc := "()V", sig := { parameters := [], returnType := none }, accessFlags := 2, code := none }
def k1c1 : Code := { maxStack := 3, maxLocals := 1, code := method_2_code, exceptionTable := #[], attributes := #[] }
def k1m1 : Method := { name := "ch", desc := "(I)C", sig := { parameters := [.int], returnType := some .char }, accessFlags := 10, code := some k1c1 }
def k1c2 : Code := { maxStack := 2, maxLocals := 2, code := method_3_code, exceptionTable := #[], attributes := #[] }
def k1m2 : Method := { name := "isAsciiDigit", desc := "(C)Z", sig := { parameters := [.char], returnType := some .boolean }, accessFlags := 10, code := some k1c2 }
def k1c3 : Code := { maxStack := 6, maxLocals := 14, code := code, exceptionTable := #[], attributes := #[] }
def k1m3 : Method := { name := "law", desc := "(IIIIII)Z", sig := { parameters := [.int, .int, .int, .int, .int, .int], returnType := some .boolean }, accessFlags := 9, code := some k1c3 }
/-- pechat/card/DigitsArePinLaw -/
def k1 : Class := { plain "pechat/card/DigitsArePinLaw" (some 0) with
  accessFlags := 49
  interfaces := #[]
  cf := some (fileOf pool1 9 #[] #[{ accessFlags := 2, nameIndex := 5, descriptorIndex := 6, attributes := #[] }, { accessFlags := 10, nameIndex := 12, descriptorIndex := 13, attributes := #[] }, { accessFlags := 10, nameIndex := 25, descriptorIndex := 26, attributes := #[] }, { accessFlags := 9, nameIndex := 36, descriptorIndex := 37, attributes := #[] }] 49 2 #[] #[])
  fields := #[]
  methods := #[k1m0, k1m1, k1m2, k1m3]
  instanceTypes := #[]
  staticTypes := #[]
  resolved := Array.replicate 40 none
  statics := none }

def pool2 : Array CpInfo := pool [(1, .class_ 2), (0, u "java/io/Serializable"), (0, .class_ 4), (0, u "java/lang/Object")] 2

/-- java/io/Serializable -/
def k2 : Class := { plain "java/io/Serializable" (some 0) with
  accessFlags := 1537
  interfaces := #[]
  cf := some (fileOf pool2 1 #[] #[] 1537 3 #[] #[])
  fields := #[]
  methods := #[]
  instanceTypes := #[]
  staticTypes := #[]
  resolved := Array.replicate 7 none
  statics := none }

def pool3 : Array CpInfo := pool [(1, .class_ 2), (0, u "java/lang/Comparable"), (0, .class_ 4), (0, u "java/lang/Object")] 7

/-- java/lang/Comparable -/
def k3 : Class := { plain "java/lang/Comparable" (some 0) with
  accessFlags := 1537
  interfaces := #[]
  cf := some (fileOf pool3 1 #[] #[] 1537 3 #[] #[])
  fields := #[]
  methods := #[]
  instanceTypes := #[]
  staticTypes := #[]
  resolved := Array.replicate 12 none
  statics := none }

def pool4 : Array CpInfo := pool [(2, .class_ 4), (1, u "java/lang/CharSequence"), (42, .class_ 48), (0, u "java/lang/CharSequence$1CodePointIterator"), (10, .class_ 60), (0, u "java/lang/CharSequence$1CharIterator"), (5, .class_ 67), (0, u "java/lang/Object")] 63

/-- java/lang/CharSequence -/
def k4 : Class := { plain "java/lang/CharSequence" (some 0) with
  accessFlags := 1537
  interfaces := #[]
  cf := some (fileOf pool4 2 #[.nestMembers #[47, 59]] #[] 1537 66 #[] #[])
  fields := #[]
  methods := #[]
  instanceTypes := #[]
  staticTypes := #[]
  resolved := Array.replicate 131 none
  statics := none }

def pool5 : Array CpInfo := pool [(1, .class_ 2), (0, u "java/lang/constant/Constable"), (0, .class_ 4), (0, u "java/lang/Object")] 6

/-- java/lang/constant/Constable -/
def k5 : Class := { plain "java/lang/constant/Constable" (some 0) with
  accessFlags := 1537
  interfaces := #[]
  cf := some (fileOf pool5 1 #[] #[] 1537 3 #[] #[])
  fields := #[]
  methods := #[]
  instanceTypes := #[]
  staticTypes := #[]
  resolved := Array.replicate 11 none
  statics := none }

def pool6 : Array CpInfo := pool [(1, .class_ 2), (0, u "java/lang/constant/ConstantDesc"), (0, .class_ 4), (0, u "java/lang/Object")] 32

/-- java/lang/constant/ConstantDesc -/
def k6 : Class := { plain "java/lang/constant/ConstantDesc" (some 0) with
  accessFlags := 1537
  interfaces := #[]
  cf := some (fileOf pool6 1 #[] #[] 1537 3 #[] #[])
  fields := #[]
  methods := #[]
  instanceTypes := #[]
  staticTypes := #[]
  resolved := Array.replicate 37 none
  statics := none }

def pool7 : Array CpInfo := pool [(1, .methodref 2 3), (0, .class_ 4), (0, .nameAndType 5 6), (0, u "java/lang/Object"), (0, u "<init>"), (0, u "()V"), (0, .string 8), (0, u ""), (0, .fieldref 10 11), (0, .class_ 12), (0, .nameAndType 13 14), (0, u "java/lang/String"), (0, u "value"), (0, u "[B"), (0, .fieldref 10 16), (0, .nameAndType 17 18), (0, u "coder"), (0, u "B"), (2, u "hash"), (0, u "I"), (2, u "hashIsZero"), (0, u "Z"), (0, .methodref 10 28), (0, .nameAndType 5 29), (0, u "([CIILjava/lang/Void;)V"), (8, .fieldref 10 39), (0, .nameAndType 40 26), (0, u "COMPACT_STRINGS"), (1, .class_ 44), (1, u "java/lang/StringUTF16"), (0, u "compress"), (1, .methodref 42 48), (0, .nameAndType 49 50), (0, u "coderFromArrayLen"), (0, u "([BI)B"), (2, u "toBytes"), (53, .class_ 109), (1, u "java/lang/StringLatin1"), (32, u "()Z"), (34, .methodref 42 178), (0, .nameAndType 45 179), (0, u "([CII)[B"), (29, .methodref 10 210), (0, .nameAndType 5 211), (0, u "([BB)V"), (122, u "()I"), (0, .methodref 10 336), (0, .nameAndType 17 337), (0, u "()B"), (25, u "([BI)C"), (5, u "(C)Z"), (21, u "(II)V"), (35, u "(I)C"), (64, .methodref 10 493), (0, .nameAndType 494 142), (0, u "isLatin1"), (0, .methodref 107 496), (0, .nameAndType 497 363), (0, u "charAt"), (0, .methodref 42 496), (2, u "checkIndex"), (5, u "length"), (67, .class_ 576), (0, u "java/lang/CharSequence"), (22, u "CASE_INSENSITIVE_ORDER"), (0, u "Ljava/util/Comparator;"), (181, u "valueOf"), (0, u "(C)Ljava/lang/String;"), (226, u "([C)V"), (4, .methodref 107 1016), (0, .nameAndType 1017 369), (0, u "canEncode"), (0, .methodref 107 1019), (0, .nameAndType 53 1020), (0, u "(C)[B"), (0, .methodref 42 1019), (31, .fieldref 1054 1055), (0, .class_ 1056), (0, .nameAndType 1057 1058), (0, u "jdk/internal/util/Preconditions"), (0, u "SIOOBE_FORMATTER"), (0, u "Ljava/util/function/BiFunction;"), (0, .methodref 1054 1060), (0, .nameAndType 501 1061), (0, u "(IILjava/util/function/BiFunction;)I"), (39, u "serialPersistentFields"), (0, u "[Ljava/io/ObjectStreamField;"), (0, .class_ 1104), (0, u "java/lang/String$CaseInsensitiveComparator"), (1, .class_ 1107), (0, u "java/io/Serializable"), (0, .class_ 1109), (0, u "java/lang/Comparable"), (0, .class_ 1111), (0, u "java/lang/constant/Constable"), (0, .class_ 1113), (0, u "java/lang/constant/ConstantDesc"), (2, u "serialVersionUID"), (0, u "J"), (3, u "REPL"), (0, u "C"), (2, u "LATIN1"), (1, u "UTF16")] 323

def k7m0 : Method := { name := "<init>", desc := "()V", sig := { parameters := [], returnType := none }, accessFlags := 1, code := none }
def k7c1 : Code := { maxStack := 5, maxLocals := 2, code := jdk_42_method_3_code, exceptionTable := #[], attributes := #[] }
def k7m1 : Method := { name := "<init>", desc := "([C)V", sig := { parameters := [(.array .char)], returnType := none }, accessFlags := 1, code := some k7c1 }
def k7c2 : Code := { maxStack := 2, maxLocals := 1, code := jdk_42_method_54_code, exceptionTable := #[], attributes := #[] }
def k7m2 : Method := { name := "length", desc := "()I", sig := { parameters := [], returnType := some .int }, accessFlags := 1, code := some k7c2 }
def k7c3 : Code := { maxStack := 2, maxLocals := 2, code := jdk_42_method_56_code, exceptionTable := #[], attributes := #[] }
def k7m3 : Method := { name := "charAt", desc := "(I)C", sig := { parameters := [.int], returnType := some .char }, accessFlags := 1, code := some k7c3 }
def k7c4 : Code := { maxStack := 4, maxLocals := 1, code := jdk_42_method_139_code, exceptionTable := #[], attributes := #[] }
def k7m4 : Method := { name := "valueOf", desc := "(C)Ljava/lang/String;", sig := { parameters := [.char], returnType := some (.object "java/lang/String") }, accessFlags := 9, code := some k7c4 }
def k7c5 : Code := { maxStack := 4, maxLocals := 6, code := jdk_42_method_149_code, exceptionTable := #[], attributes := #[] }
def k7m5 : Method := { name := "<init>", desc := "([CIILjava/lang/Void;)V", sig := { parameters := [(.array .char), .int, .int, (.object "java/lang/Void")], returnType := none }, accessFlags := 2, code := some k7c5 }
def k7c6 : Code := { maxStack := 2, maxLocals := 3, code := jdk_42_method_151_code, exceptionTable := #[], attributes := #[] }
def k7m6 : Method := { name := "<init>", desc := "([BB)V", sig := { parameters := [(.array .byte), .byte], returnType := none }, accessFlags := 0, code := some k7c6 }
def k7c7 : Code := { maxStack := 1, maxLocals := 1, code := jdk_42_method_152_code, exceptionTable := #[], attributes := #[] }
def k7m7 : Method := { name := "coder", desc := "()B", sig := { parameters := [], returnType := some .byte }, accessFlags := 0, code := some k7c7 }
def k7c8 : Code := { maxStack := 1, maxLocals := 1, code := jdk_42_method_154_code, exceptionTable := #[], attributes := #[] }
def k7m8 : Method := { name := "isLatin1", desc := "()Z", sig := { parameters := [], returnType := some .boolean }, accessFlags := 0, code := some k7c8 }
def k7c9 : Code := { maxStack := 3, maxLocals := 2, code := jdk_42_method_155_code, exceptionTable := #[], attributes := #[] }
def k7m9 : Method := { name := "checkIndex", desc := "(II)V", sig := { parameters := [.int, .int], returnType := none }, accessFlags := 8, code := some k7c9 }
/-- java/lang/String -/
def k7 : Class := { plain "java/lang/String" (some 0) with
  accessFlags := 49
  interfaces := #[2, 3, 4, 5, 6]
  cf := some (fileOf pool7 10 #[.nestMembers #[1103]] #[{ accessFlags := 1, nameIndex := 5, descriptorIndex := 6, attributes := #[] }, { accessFlags := 1, nameIndex := 5, descriptorIndex := 1010, attributes := #[] }, { accessFlags := 1, nameIndex := 507, descriptorIndex := 334, attributes := #[] }, { accessFlags := 1, nameIndex := 497, descriptorIndex := 427, attributes := #[] }, { accessFlags := 9, nameIndex := 782, descriptorIndex := 783, attributes := #[] }, { accessFlags := 2, nameIndex := 5, descriptorIndex := 29, attributes := #[] }, { accessFlags := 0, nameIndex := 5, descriptorIndex := 211, attributes := #[] }, { accessFlags := 0, nameIndex := 17, descriptorIndex := 337, attributes := #[] }, { accessFlags := 0, nameIndex := 494, descriptorIndex := 142, attributes := #[] }, { accessFlags := 8, nameIndex := 501, descriptorIndex := 391, attributes := #[] }] 49 2 #[1106, 1108, 575, 1110, 1112] #[{ accessFlags := 18, nameIndex := 13, descriptorIndex := 14, attributes := #[] }, { accessFlags := 18, nameIndex := 17, descriptorIndex := 18, attributes := #[] }, { accessFlags := 2, nameIndex := 21, descriptorIndex := 22, attributes := #[] }, { accessFlags := 2, nameIndex := 25, descriptorIndex := 26, attributes := #[] }, { accessFlags := 26, nameIndex := 1116, descriptorIndex := 1117, attributes := #[] }, { accessFlags := 24, nameIndex := 40, descriptorIndex := 26, attributes := #[] }, { accessFlags := 26, nameIndex := 1101, descriptorIndex := 1102, attributes := #[] }, { accessFlags := 26, nameIndex := 1121, descriptorIndex := 1122, attributes := #[] }, { accessFlags := 25, nameIndex := 599, descriptorIndex := 600, attributes := #[] }, { accessFlags := 24, nameIndex := 1125, descriptorIndex := 18, attributes := #[] }, { accessFlags := 24, nameIndex := 1127, descriptorIndex := 18, attributes := #[] }])
  fields := #[{ name := "value", type := (.array .byte), accessFlags := 18, slot := 0, constantValue := 0 }, { name := "coder", type := .byte, accessFlags := 18, slot := 1, constantValue := 0 }, { name := "hash", type := .int, accessFlags := 2, slot := 2, constantValue := 0 }, { name := "hashIsZero", type := .boolean, accessFlags := 2, slot := 3, constantValue := 0 }, { name := "serialVersionUID", type := .long, accessFlags := 26, slot := 0, constantValue := 0 }, { name := "COMPACT_STRINGS", type := .boolean, accessFlags := 24, slot := 1, constantValue := 0 }, { name := "serialPersistentFields", type := (.array (.object "java/io/ObjectStreamField")), accessFlags := 26, slot := 2, constantValue := 0 }, { name := "REPL", type := .char, accessFlags := 26, slot := 3, constantValue := 0 }, { name := "CASE_INSENSITIVE_ORDER", type := (.object "java/util/Comparator"), accessFlags := 25, slot := 4, constantValue := 0 }, { name := "LATIN1", type := .byte, accessFlags := 24, slot := 5, constantValue := 0 }, { name := "UTF16", type := .byte, accessFlags := 24, slot := 6, constantValue := 0 }]
  methods := #[k7m0, k7m1, k7m2, k7m3, k7m4, k7m5, k7m6, k7m7, k7m8, k7m9]
  instanceTypes := #[(.array .byte), .byte, .int, .boolean]
  staticTypes := #[.long, .boolean, (.array (.object "java/io/ObjectStreamField")), .char, (.object "java/util/Comparator"), .byte, .byte]
  resolved := Array.replicate 1451 none
  statics := some 0 }

def pool8 : Array CpInfo := pool [(1, .class_ 2), (0, u "java/lang/String"), (1, .class_ 6), (1, u "java/lang/Object"), (0, u "<init>"), (0, u "()V"), (0, .methodref 1 10), (0, .nameAndType 11 12), (0, u "checkIndex"), (0, u "(II)V"), (1, .class_ 16), (1, u "java/lang/StringLatin1"), (36, u "([BI)C"), (36, u "canEncode"), (14, u "(C)Z"), (15, u "$assertionsDisabled"), (0, u "Z"), (98, .class_ 223), (1, u "java/lang/StringLatin1$LinesSpliterator"), (28, u "charAt"), (127, u "toBytes"), (1, u "(C)[B"), (7, .class_ 391), (0, u "java/lang/StringLatin1$CharsSpliterator")] 3

def k8m0 : Method := { name := "<init>", desc := "()V", sig := { parameters := [], returnType := none }, accessFlags := 0, code := none }
def k8c1 : Code := { maxStack := 2, maxLocals := 2, code := jdk_43_method_2_code, exceptionTable := #[], attributes := #[] }
def k8m1 : Method := { name := "charAt", desc := "([BI)C", sig := { parameters := [(.array .byte), .int], returnType := some .char }, accessFlags := 9, code := some k8c1 }
def k8c2 : Code := { maxStack := 2, maxLocals := 1, code := jdk_43_method_3_code, exceptionTable := #[], attributes := #[] }
def k8m2 : Method := { name := "canEncode", desc := "(C)Z", sig := { parameters := [.char], returnType := some .boolean }, accessFlags := 9, code := some k8c2 }
def k8c3 : Code := { maxStack := 4, maxLocals := 1, code := jdk_43_method_46_code, exceptionTable := #[], attributes := #[] }
def k8m3 : Method := { name := "toBytes", desc := "(C)[B", sig := { parameters := [.char], returnType := some (.array .byte) }, accessFlags := 9, code := some k8c3 }
/-- java/lang/StringLatin1 -/
def k8 : Class := { plain "java/lang/StringLatin1" (some 0) with
  accessFlags := 48
  interfaces := #[]
  cf := some (fileOf pool8 14 #[.nestMembers #[390, 221]] #[{ accessFlags := 0, nameIndex := 7, descriptorIndex := 8, attributes := #[] }, { accessFlags := 9, nameIndex := 252, descriptorIndex := 53, attributes := #[] }, { accessFlags := 9, nameIndex := 90, descriptorIndex := 105, attributes := #[] }, { accessFlags := 9, nameIndex := 380, descriptorIndex := 382, attributes := #[] }] 48 4 #[] #[{ accessFlags := 4120, nameIndex := 121, descriptorIndex := 122, attributes := #[] }])
  fields := #[{ name := "$assertionsDisabled", type := .boolean, accessFlags := 4120, slot := 0, constantValue := 0 }]
  methods := #[k8m0, k8m1, k8m2, k8m3]
  instanceTypes := #[]
  staticTypes := #[.boolean]
  resolved := Array.replicate 395 none
  statics := none }

def pool9 : Array CpInfo := pool [(2, .class_ 4), (1, u "java/lang/Object"), (0, u "<init>"), (0, u "()V"), (0, .methodref 8 9), (0, .class_ 10), (0, .nameAndType 11 12), (0, u "java/util/Objects"), (0, u "requireNonNull"), (0, u "(Ljava/lang/Object;Ljava/lang/String;)Ljava/lang/Object;"), (0, .class_ 14), (0, u "java/lang/String"), (1, .class_ 18), (1, u "pechat/card/Digits"), (0, u "are"), (0, u "(Ljava/lang/String;II)Z"), (18, .string 40), (0, u "value"), (0, .methodref 13 42), (0, .nameAndType 43 44), (0, u "length"), (0, u "()I"), (0, .methodref 13 46), (0, .nameAndType 47 48), (0, u "charAt"), (0, u "(I)C")] 24

def k9m0 : Method := { name := "<init>", desc := "()V", sig := { parameters := [], returnType := none }, accessFlags := 2, code := none }
def k9c1 : Code := { maxStack := 3, maxLocals := 6, code := prog_5_method_3_code, exceptionTable := #[], attributes := #[] }
def k9m1 : Method := { name := "are", desc := "(Ljava/lang/String;II)Z", sig := { parameters := [(.object "java/lang/String"), .int, .int], returnType := some .boolean }, accessFlags := 9, code := some k9c1 }
/-- pechat/card/Digits -/
def k9 : Class := { plain "pechat/card/Digits" (some 0) with
  accessFlags := 49
  interfaces := #[]
  cf := some (fileOf pool9 16 #[] #[{ accessFlags := 2, nameIndex := 5, descriptorIndex := 6, attributes := #[] }, { accessFlags := 9, nameIndex := 19, descriptorIndex := 20, attributes := #[] }] 49 2 #[] #[])
  fields := #[]
  methods := #[k9m0, k9m1]
  instanceTypes := #[]
  staticTypes := #[]
  resolved := Array.replicate 73 none
  statics := none }

def pool10 : Array CpInfo := pool [(2, .class_ 4), (1, u "java/lang/Object"), (0, u "<init>"), (0, u "()V"), (35, .class_ 44), (1, u "java/util/Objects"), (0, u "requireNonNull"), (48, u "(Ljava/lang/Object;Ljava/lang/String;)Ljava/lang/Object;")] 89

def k10m0 : Method := { name := "<init>", desc := "()V", sig := { parameters := [], returnType := none }, accessFlags := 2, code := none }
def k10c1 : Code := { maxStack := 3, maxLocals := 2, code := jdk_31_method_11_code, exceptionTable := #[], attributes := #[] }
def k10m1 : Method := { name := "requireNonNull", desc := "(Ljava/lang/Object;Ljava/lang/String;)Ljava/lang/Object;", sig := { parameters := [(.object "java/lang/Object"), (.object "java/lang/String")], returnType := some (.object "java/lang/Object") }, accessFlags := 9, code := some k10c1 }
/-- java/util/Objects -/
def k10 : Class := { plain "java/util/Objects" (some 0) with
  accessFlags := 49
  interfaces := #[]
  cf := some (fileOf pool10 42 #[] #[{ accessFlags := 2, nameIndex := 5, descriptorIndex := 6, attributes := #[] }, { accessFlags := 9, nameIndex := 45, descriptorIndex := 94, attributes := #[] }] 49 2 #[] #[])
  fields := #[]
  methods := #[k10m0, k10m1]
  instanceTypes := #[]
  staticTypes := #[]
  resolved := Array.replicate 184 none
  statics := none }

def pool11 : Array CpInfo := pool [(2, .class_ 4), (1, u "java/lang/Object"), (0, u "<init>"), (0, u "()V"), (17, .class_ 26), (1, u "jdk/internal/util/Preconditions"), (6, u "checkIndex"), (21, .class_ 56), (0, u "jdk/internal/util/Preconditions$4"), (57, .class_ 115), (0, u "jdk/internal/util/Preconditions$1"), (7, u "SIOOBE_FORMATTER"), (0, u "Ljava/util/function/BiFunction;"), (0, .class_ 126), (0, u "jdk/internal/util/Preconditions$2"), (3, u "AIOOBE_FORMATTER"), (0, .class_ 132), (0, u "jdk/internal/util/Preconditions$3"), (3, u "IOOBE_FORMATTER"), (41, u "(IILjava/util/function/BiFunction;)I")] 15

def k11m0 : Method := { name := "<init>", desc := "()V", sig := { parameters := [], returnType := none }, accessFlags := 1, code := none }
def k11c1 : Code := { maxStack := 3, maxLocals := 3, code := jdk_41_method_11_code, exceptionTable := #[], attributes := #[] }
def k11m1 : Method := { name := "checkIndex", desc := "(IILjava/util/function/BiFunction;)I", sig := { parameters := [.int, .int, (.object "java/util/function/BiFunction")], returnType := some .int }, accessFlags := 9, code := some k11c1 }
/-- jdk/internal/util/Preconditions -/
def k11 : Class := { plain "jdk/internal/util/Preconditions" (some 0) with
  accessFlags := 33
  interfaces := #[]
  cf := some (fileOf pool11 24 #[.nestMembers #[55, 131, 125, 114]] #[{ accessFlags := 1, nameIndex := 5, descriptorIndex := 6, attributes := #[] }, { accessFlags := 9, nameIndex := 33, descriptorIndex := 178, attributes := #[] }] 33 2 #[] #[{ accessFlags := 25, nameIndex := 123, descriptorIndex := 124, attributes := #[] }, { accessFlags := 25, nameIndex := 130, descriptorIndex := 124, attributes := #[] }, { accessFlags := 25, nameIndex := 136, descriptorIndex := 124, attributes := #[] }])
  fields := #[{ name := "SIOOBE_FORMATTER", type := (.object "java/util/function/BiFunction"), accessFlags := 25, slot := 0, constantValue := 0 }, { name := "AIOOBE_FORMATTER", type := (.object "java/util/function/BiFunction"), accessFlags := 25, slot := 1, constantValue := 0 }, { name := "IOOBE_FORMATTER", type := (.object "java/util/function/BiFunction"), accessFlags := 25, slot := 2, constantValue := 0 }]
  methods := #[k11m0, k11m1]
  instanceTypes := #[]
  staticTypes := #[(.object "java/util/function/BiFunction"), (.object "java/util/function/BiFunction"), (.object "java/util/function/BiFunction")]
  resolved := Array.replicate 194 none
  statics := some 1 }

def pool12 : Array CpInfo := pool [(3, .class_ 4), (0, u "java/lang/String"), (1, .class_ 8), (1, u "java/lang/Object"), (0, u "<init>"), (0, u "()V"), (0, .methodref 12 13), (0, .class_ 14), (0, .nameAndType 15 16), (0, u "java/lang/StringUTF16"), (0, u "newBytesLength"), (0, u "(I)I"), (3, .integer 1073741823), (23, .fieldref 12 45), (0, .nameAndType 46 47), (0, u "$assertionsDisabled"), (0, u "Z"), (0, .methodref 12 49), (0, .nameAndType 50 51), (0, u "length"), (0, u "([B)I"), (7, .fieldref 12 60), (0, .nameAndType 61 62), (0, u "HI_BYTE_SHIFT"), (0, u "I"), (0, .fieldref 12 64), (0, .nameAndType 65 62), (0, u "LO_BYTE_SHIFT"), (1, .methodref 12 68), (0, .nameAndType 69 70), (0, u "checkIndex"), (0, u "(I[B)V"), (0, .methodref 12 72), (0, .nameAndType 73 74), (0, u "getChar"), (0, u "([BI)C"), (32, .methodref 12 108), (0, .nameAndType 109 110), (0, u "newBytesFor"), (0, u "(I)[B"), (0, .methodref 12 112), (0, .nameAndType 113 114), (0, u "putChar"), (0, u "([BII)V"), (0, .methodref 12 116), (0, .nameAndType 117 118), (0, u "compress"), (0, u "([CI[BII)I"), (0, .methodref 12 120), (0, .nameAndType 121 122), (0, u "toBytes"), (0, u "([CII)[B"), (138, u "coderFromArrayLen"), (0, u "([BI)B"), (106, .class_ 371), (1, u "java/lang/StringUTF16$LinesSpliterator"), (20, u "charAt"), (21, .methodref 3 415), (0, .nameAndType 69 416), (0, u "(II)V"), (13, u "MAX_LENGTH"), (44, u "(C)[B"), (151, .class_ 628), (0, u "java/lang/StringUTF16$CodePointsSpliterator"), (0, .class_ 630), (0, u "java/lang/StringUTF16$CharsSpliterator")] 4

def k12m0 : Method := { name := "<init>", desc := "()V", sig := { parameters := [], returnType := none }, accessFlags := 0, code := none }
def k12c1 : Code := { maxStack := 1, maxLocals := 1, code := jdk_52_method_2_code, exceptionTable := #[], attributes := #[] }
def k12m1 : Method := { name := "newBytesFor", desc := "(I)[B", sig := { parameters := [.int], returnType := some (.array .byte) }, accessFlags := 9, code := some k12c1 }
def k12c2 : Code := { maxStack := 4, maxLocals := 1, code := jdk_52_method_3_code, exceptionTable := #[], attributes := #[] }
def k12m2 : Method := { name := "newBytesLength", desc := "(I)I", sig := { parameters := [.int], returnType := some .int }, accessFlags := 9, code := some k12c2 }
def k12c3 : Code := { maxStack := 4, maxLocals := 3, code := jdk_52_method_4_code, exceptionTable := #[], attributes := #[] }
def k12m3 : Method := { name := "putChar", desc := "([BII)V", sig := { parameters := [(.array .byte), .int, .int], returnType := none }, accessFlags := 8, code := some k12c3 }
def k12c4 : Code := { maxStack := 3, maxLocals := 2, code := jdk_52_method_5_code, exceptionTable := #[], attributes := #[] }
def k12m4 : Method := { name := "getChar", desc := "([BI)C", sig := { parameters := [(.array .byte), .int], returnType := some .char }, accessFlags := 8, code := some k12c4 }
def k12c5 : Code := { maxStack := 2, maxLocals := 1, code := jdk_52_method_6_code, exceptionTable := #[], attributes := #[] }
def k12m5 : Method := { name := "length", desc := "([B)I", sig := { parameters := [(.array .byte)], returnType := some .int }, accessFlags := 9, code := some k12c5 }
def k12c6 : Code := { maxStack := 4, maxLocals := 5, code := jdk_52_method_14_code, exceptionTable := #[], attributes := #[] }
def k12m6 : Method := { name := "toBytes", desc := "([CII)[B", sig := { parameters := [(.array .char), .int, .int], returnType := some (.array .byte) }, accessFlags := 9, code := some k12c6 }
def k12c7 : Code := { maxStack := 2, maxLocals := 2, code := jdk_52_method_15_code, exceptionTable := #[], attributes := #[] }
def k12m7 : Method := { name := "coderFromArrayLen", desc := "([BI)B", sig := { parameters := [(.array .byte), .int], returnType := some .byte }, accessFlags := 8, code := some k12c7 }
def k12c8 : Code := { maxStack := 5, maxLocals := 6, code := jdk_52_method_16_code, exceptionTable := #[], attributes := #[] }
def k12m8 : Method := { name := "compress", desc := "([CII)[B", sig := { parameters := [(.array .char), .int, .int], returnType := some (.array .byte) }, accessFlags := 9, code := some k12c8 }
def k12c9 : Code := { maxStack := 3, maxLocals := 7, code := jdk_52_method_21_code, exceptionTable := #[], attributes := #[] }
def k12m9 : Method := { name := "compress", desc := "([CI[BII)I", sig := { parameters := [(.array .char), .int, (.array .byte), .int, .int], returnType := some .int }, accessFlags := 9, code := some k12c9 }
def k12c10 : Code := { maxStack := 3, maxLocals := 2, code := jdk_52_method_24_code, exceptionTable := #[], attributes := #[] }
def k12m10 : Method := { name := "toBytes", desc := "(C)[B", sig := { parameters := [.char], returnType := some (.array .byte) }, accessFlags := 9, code := some k12c10 }
def k12c11 : Code := { maxStack := 2, maxLocals := 2, code := jdk_52_method_83_code, exceptionTable := #[], attributes := #[] }
def k12m11 : Method := { name := "charAt", desc := "([BI)C", sig := { parameters := [(.array .byte), .int], returnType := some .char }, accessFlags := 9, code := some k12c11 }
def k12c12 : Code := { maxStack := 2, maxLocals := 2, code := jdk_52_method_91_code, exceptionTable := #[], attributes := #[] }
def k12m12 : Method := { name := "checkIndex", desc := "(I[B)V", sig := { parameters := [.int, (.array .byte)], returnType := none }, accessFlags := 9, code := some k12c12 }
/-- java/lang/StringUTF16 -/
def k12 : Class := { plain "java/lang/StringUTF16" (some 0) with
  accessFlags := 48
  interfaces := #[]
  cf := some (fileOf pool12 12 #[.nestMembers #[627, 629, 369]] #[{ accessFlags := 0, nameIndex := 9, descriptorIndex := 10, attributes := #[] }, { accessFlags := 9, nameIndex := 109, descriptorIndex := 110, attributes := #[] }, { accessFlags := 9, nameIndex := 15, descriptorIndex := 16, attributes := #[] }, { accessFlags := 8, nameIndex := 113, descriptorIndex := 114, attributes := #[] }, { accessFlags := 8, nameIndex := 73, descriptorIndex := 74, attributes := #[] }, { accessFlags := 9, nameIndex := 50, descriptorIndex := 51, attributes := #[] }, { accessFlags := 9, nameIndex := 121, descriptorIndex := 122, attributes := #[] }, { accessFlags := 8, nameIndex := 261, descriptorIndex := 262, attributes := #[] }, { accessFlags := 9, nameIndex := 117, descriptorIndex := 122, attributes := #[] }, { accessFlags := 9, nameIndex := 117, descriptorIndex := 118, attributes := #[] }, { accessFlags := 9, nameIndex := 121, descriptorIndex := 475, attributes := #[] }, { accessFlags := 9, nameIndex := 392, descriptorIndex := 74, attributes := #[] }, { accessFlags := 9, nameIndex := 69, descriptorIndex := 70, attributes := #[] }] 48 6 #[] #[{ accessFlags := 26, nameIndex := 61, descriptorIndex := 62, attributes := #[] }, { accessFlags := 26, nameIndex := 65, descriptorIndex := 62, attributes := #[] }, { accessFlags := 24, nameIndex := 430, descriptorIndex := 62, attributes := #[] }, { accessFlags := 4120, nameIndex := 46, descriptorIndex := 47, attributes := #[] }])
  fields := #[{ name := "HI_BYTE_SHIFT", type := .int, accessFlags := 26, slot := 0, constantValue := 0 }, { name := "LO_BYTE_SHIFT", type := .int, accessFlags := 26, slot := 1, constantValue := 0 }, { name := "MAX_LENGTH", type := .int, accessFlags := 24, slot := 2, constantValue := 0 }, { name := "$assertionsDisabled", type := .boolean, accessFlags := 4120, slot := 3, constantValue := 0 }]
  methods := #[k12m0, k12m1, k12m2, k12m3, k12m4, k12m5, k12m6, k12m7, k12m8, k12m9, k12m10, k12m11, k12m12]
  instanceTypes := #[]
  staticTypes := #[.int, .int, .int, .boolean]
  resolved := Array.replicate 635 none
  statics := some 2 }

def pool13 : Array CpInfo := pool [(9, u "<init>"), (6, .class_ 18), (1, u "java/lang/Object"), (0, u "()V"), (1, .class_ 23), (1, u "jdk/internal/util/ArraysSupport"), (0, u "LOG2_ARRAY_LONG_INDEX_SCALE"), (0, u "I"), (2, u "U"), (0, u "Ljdk/internal/misc/Unsafe;"), (8, u "BIG_ENDIAN"), (0, u "Z"), (8, u "LOG2_BYTE_BIT_SIZE"), (4, u "LOG2_ARRAY_INT_INDEX_SCALE"), (54, u "JLA"), (0, u "Ljdk/internal/access/JavaLangAccess;"), (11, u "LOG2_ARRAY_BOOLEAN_INDEX_SCALE"), (9, u "LOG2_ARRAY_BYTE_INDEX_SCALE"), (5, u "LOG2_ARRAY_CHAR_INDEX_SCALE"), (5, u "LOG2_ARRAY_SHORT_INDEX_SCALE"), (18, u "LOG2_ARRAY_FLOAT_INDEX_SCALE"), (24, u "LOG2_ARRAY_DOUBLE_INDEX_SCALE"), (89, u "T_BOOLEAN"), (2, u "T_CHAR"), (1, u "T_FLOAT"), (1, u "T_DOUBLE"), (1, u "T_BYTE"), (1, u "T_SHORT"), (1, u "T_INT"), (1, u "T_LONG"), (1, u "SOFT_MAX_ARRAY_LENGTH")] 83

def k13m0 : Method := { name := "<init>", desc := "()V", sig := { parameters := [], returnType := none }, accessFlags := 2, code := none }
/-- jdk/internal/util/ArraysSupport -/
def k13 : Class := { plain "jdk/internal/util/ArraysSupport" (some 0) with
  accessFlags := 33
  interfaces := #[]
  cf := some (fileOf pool13 21 #[] #[{ accessFlags := 2, nameIndex := 9, descriptorIndex := 19, attributes := #[] }] 33 16 #[] #[{ accessFlags := 24, nameIndex := 28, descriptorIndex := 29, attributes := #[] }, { accessFlags := 26, nameIndex := 38, descriptorIndex := 39, attributes := #[] }, { accessFlags := 25, nameIndex := 121, descriptorIndex := 25, attributes := #[] }, { accessFlags := 25, nameIndex := 131, descriptorIndex := 25, attributes := #[] }, { accessFlags := 25, nameIndex := 137, descriptorIndex := 25, attributes := #[] }, { accessFlags := 25, nameIndex := 143, descriptorIndex := 25, attributes := #[] }, { accessFlags := 25, nameIndex := 53, descriptorIndex := 25, attributes := #[] }, { accessFlags := 25, nameIndex := 24, descriptorIndex := 25, attributes := #[] }, { accessFlags := 25, nameIndex := 162, descriptorIndex := 25, attributes := #[] }, { accessFlags := 25, nameIndex := 187, descriptorIndex := 25, attributes := #[] }, { accessFlags := 26, nameIndex := 48, descriptorIndex := 25, attributes := #[] }, { accessFlags := 25, nameIndex := 277, descriptorIndex := 25, attributes := #[] }, { accessFlags := 25, nameIndex := 280, descriptorIndex := 25, attributes := #[] }, { accessFlags := 25, nameIndex := 282, descriptorIndex := 25, attributes := #[] }, { accessFlags := 25, nameIndex := 284, descriptorIndex := 25, attributes := #[] }, { accessFlags := 25, nameIndex := 286, descriptorIndex := 25, attributes := #[] }, { accessFlags := 25, nameIndex := 288, descriptorIndex := 25, attributes := #[] }, { accessFlags := 25, nameIndex := 290, descriptorIndex := 25, attributes := #[] }, { accessFlags := 25, nameIndex := 292, descriptorIndex := 25, attributes := #[] }, { accessFlags := 26, nameIndex := 108, descriptorIndex := 109, attributes := #[] }, { accessFlags := 25, nameIndex := 294, descriptorIndex := 25, attributes := #[] }])
  fields := #[{ name := "U", type := (.object "jdk/internal/misc/Unsafe"), accessFlags := 24, slot := 0, constantValue := 0 }, { name := "BIG_ENDIAN", type := .boolean, accessFlags := 26, slot := 1, constantValue := 0 }, { name := "LOG2_ARRAY_BOOLEAN_INDEX_SCALE", type := .int, accessFlags := 25, slot := 2, constantValue := 0 }, { name := "LOG2_ARRAY_BYTE_INDEX_SCALE", type := .int, accessFlags := 25, slot := 3, constantValue := 0 }, { name := "LOG2_ARRAY_CHAR_INDEX_SCALE", type := .int, accessFlags := 25, slot := 4, constantValue := 0 }, { name := "LOG2_ARRAY_SHORT_INDEX_SCALE", type := .int, accessFlags := 25, slot := 5, constantValue := 0 }, { name := "LOG2_ARRAY_INT_INDEX_SCALE", type := .int, accessFlags := 25, slot := 6, constantValue := 0 }, { name := "LOG2_ARRAY_LONG_INDEX_SCALE", type := .int, accessFlags := 25, slot := 7, constantValue := 0 }, { name := "LOG2_ARRAY_FLOAT_INDEX_SCALE", type := .int, accessFlags := 25, slot := 8, constantValue := 0 }, { name := "LOG2_ARRAY_DOUBLE_INDEX_SCALE", type := .int, accessFlags := 25, slot := 9, constantValue := 0 }, { name := "LOG2_BYTE_BIT_SIZE", type := .int, accessFlags := 26, slot := 10, constantValue := 0 }, { name := "T_BOOLEAN", type := .int, accessFlags := 25, slot := 11, constantValue := 0 }, { name := "T_CHAR", type := .int, accessFlags := 25, slot := 12, constantValue := 0 }, { name := "T_FLOAT", type := .int, accessFlags := 25, slot := 13, constantValue := 0 }, { name := "T_DOUBLE", type := .int, accessFlags := 25, slot := 14, constantValue := 0 }, { name := "T_BYTE", type := .int, accessFlags := 25, slot := 15, constantValue := 0 }, { name := "T_SHORT", type := .int, accessFlags := 25, slot := 16, constantValue := 0 }, { name := "T_INT", type := .int, accessFlags := 25, slot := 17, constantValue := 0 }, { name := "T_LONG", type := .int, accessFlags := 25, slot := 18, constantValue := 0 }, { name := "JLA", type := (.object "jdk/internal/access/JavaLangAccess"), accessFlags := 26, slot := 19, constantValue := 0 }, { name := "SOFT_MAX_ARRAY_LENGTH", type := .int, accessFlags := 25, slot := 20, constantValue := 0 }]
  methods := #[k13m0]
  instanceTypes := #[]
  staticTypes := #[(.object "jdk/internal/misc/Unsafe"), .boolean, .int, .int, .int, .int, .int, .int, .int, .int, .int, .int, .int, .int, .int, .int, .int, .int, .int, (.object "jdk/internal/access/JavaLangAccess"), .int]
  resolved := Array.replicate 378 none
  statics := none }

def pool14 : Array CpInfo := pool [(1, u "java/lang/Cloneable"), (0, .class_ 1), (0, u "java/lang/Object"), (0, .class_ 3)] 3

/-- java/lang/Cloneable -/
def k14 : Class := { plain "java/lang/Cloneable" (some 0) with
  accessFlags := 1537
  interfaces := #[]
  cf := some (fileOf pool14 2 #[] #[] 1537 4 #[] #[])
  fields := #[]
  methods := #[]
  instanceTypes := #[]
  staticTypes := #[]
  resolved := Array.replicate 8 none
  statics := none }

/-- the primitive byte -/
def k15 : Class := { plain "byte" none with kind := .primitive 'B', accessFlags := 0x411 }
/-- [B -/
def k16 : Class := { plain "[B" (some 0) with kind := .array 15 .byte, interfaces := #[14, 2], accessFlags := 1041 }

/-- the primitive char -/
def k17 : Class := { plain "char" none with kind := .primitive 'C', accessFlags := 0x411 }
/-- [C -/
def k18 : Class := { plain "[C" (some 0) with kind := .array 17 .char, interfaces := #[14, 2], accessFlags := 1041 }

def heap : Heap := #[{ cls := 7, slots := #[.long 0, .int 1, .null, .int 0, .null, .int 0, .int 0], vm := .statics 7 },
  { cls := 11, slots := #[.null, .null, .null], vm := .statics 11 },
  { cls := 12, slots := #[.int 0, .int 8, .int 0, .int 1], vm := .statics 12 }]
def classes : Array Class := #[k0, k1, k2, k3, k4, k5, k6, k7, k8, k9, k10, k11, k12, k13, k14, k15, k16, k17, k18]
def interned : List (Array UInt16 × Addr) := []
def slotsUsed : Nat := 14
def theMethod : MethodId := ⟨1, 3⟩
def args0 : Array Value := #[.int 3, .int 5, .int 7, .int 2, .int 0, .int 9]
def aboutOver (below : List Frame) : State where
  vm := { classes := classes, interned := interned.toArray }
  heap := heap
  slotsUsed := slotsUsed
  threads := #[{ frames := .invoking theMethod args0 :: below }]
def below0 : List Frame := [.native { method := ⟨0, 0⟩, args := #[] }]
def about1 : State := aboutOver below0
def p0 : Program := .bare "" "" ""
def e0 : Env := launch0.env 0 0 0
theorem w_frames : about1.frames = Frame.invoking theMethod args0 :: below0 := rfl
set_option maxRecDepth 65536 in
theorem w_args : argsFit about1.vm theMethod args0 = true := by decide +kernel
set_option maxRecDepth 65536 in
theorem w_heap : heapFits about1 = true := by decide +kernel
set_option maxRecDepth 65536 in
theorem w_runnable : about1.curStatus? = some .runnable := by decide +kernel
set_option maxRecDepth 65536 in
theorem w_alone : about1.alone = true := by decide +kernel
set_option maxRecDepth 65536 in
theorem w_named : about1.methodNamed? x = some theMethod := by decide +kernel
set_option maxRecDepth 65536 in
theorem w_hears : about1.hears theMethod below0 = true := by decide +kernel
set_option maxRecDepth 65536 in
theorem w_ripe : about1.ripe theMethod args0 below0 = true := by decide +kernel
theorem w_running : about1.status = .running := rfl
set_option maxRecDepth 65536 in
theorem w_room : about1.hasRoom e0.platform room_1 = true :=
  launch0.hasRoom_least _ room_1 (by decide +kernel) (by decide +kernel) (by decide +kernel) (by decide +kernel) (by decide +kernel) (by decide +kernel)
theorem allAtoms_all (ts : List Jvm.Cond) (a : Array Jvm.Value) (st : Jvm.State) : (allAtoms ts).before a st = ts.all (fun c => c.before a st) := by
  induction ts with
  | nil => rfl
  | cons c t ih =>
    show (Jvm.Cond.and c (allAtoms t)).before a st = _
    rw [Jvm.Cond.before_and, ih, List.all_cons]
def words1 : List Jvm.Cond := Jvm.Cond.code x code maxLocals ret :: tables_1
/-- a 'code' word, met by the world's own term for the bytes: nothing is compared byte by byte -/
theorem code_word {y : MethodName} {bytes : ByteArray} {mx : Nat} {rt : Option FieldType} {a : Array Value} {s : State} {m : MethodId} {meth : Method} {c : Code} (h1 : s.methodNamed? y = some m) (h2 : s.vm.method? m = some meth) (h3 : meth.code = some c) (h4 : c.code = bytes)
    (h5 : (c.maxLocals == mx && c.exceptionTable.isEmpty && decide (c.maxStack ≤ mostOperands) && decide (meth.sig.returnType = rt) && !meth.locks && decide (parseMethodDescriptor y.desc = some meth.sig)) = true) : (Jvm.Cond.code y bytes mx rt).before a s = true := by
  simp only [Bool.and_eq_true, beq_iff_eq, Bool.not_eq_true', decide_eq_true_eq] at h5
  obtain ⟨⟨⟨⟨⟨g1, g2⟩, g3⟩, g4⟩, g5⟩, g6⟩ := h5
  simp [Cond.before, Cond.holds, Cond.value, h1, h2, h3, h4, g1, g2, g3, g4, g5, g6]
def isCode : Jvm.Cond → Bool
  | .code _ _ _ _ => true
  | _ => false
theorem all_split {L : List Jvm.Cond} {P : Jvm.Cond → Bool} (h1 : L.all (fun c => isCode c || P c) = true) (h2 : ∀ c ∈ L.filter isCode, P c = true) : L.all P = true := by
  refine List.all_eq_true.mpr fun c hc => ?_
  have h := List.all_eq_true.mp h1 c hc
  rcases Bool.eq_false_or_eq_true (isCode c) with hi | hi
  · exact h2 c (List.mem_filter.mpr ⟨hc, hi⟩)
  · simpa [hi] using h
set_option maxRecDepth 65536 in
theorem w_c0 : (Jvm.Cond.code x code maxLocals ret).before args0 about1 = true := code_word (m := ⟨1, 3⟩) (meth := k1m3) (c := k1c3) (by decide +kernel) rfl rfl rfl (by decide +kernel)
set_option maxRecDepth 65536 in
theorem w_c1 : (Jvm.Cond.code ({ cls := "pechat/card/DigitsArePinLaw", name := "ch", desc := "(I)C" } : Jvm.MethodName) method_2_code (1 : Nat) (Option.some Jvm.ClassFile.FieldType.char)).before args0 about1 = true := code_word (m := ⟨1, 1⟩) (meth := k1m1) (c := k1c1) (by decide +kernel) rfl rfl rfl (by decide +kernel)
set_option maxRecDepth 65536 in
theorem w_c2 : (Jvm.Cond.code ({ cls := "java/lang/String", name := "valueOf", desc := "(C)Ljava/lang/String;" } : Jvm.MethodName) jdk_42_method_139_code (1 : Nat) (Option.some (Jvm.ClassFile.FieldType.object "java/lang/String"))).before args0 about1 = true := code_word (m := ⟨7, 4⟩) (meth := k7m4) (c := k7c4) (by decide +kernel) rfl rfl rfl (by decide +kernel)
set_option maxRecDepth 65536 in
theorem w_c3 : (Jvm.Cond.code ({ cls := "java/lang/StringLatin1", name := "canEncode", desc := "(C)Z" } : Jvm.MethodName) jdk_43_method_3_code (1 : Nat) (Option.some Jvm.ClassFile.FieldType.boolean)).before args0 about1 = true := code_word (m := ⟨8, 2⟩) (meth := k8m2) (c := k8c2) (by decide +kernel) rfl rfl rfl (by decide +kernel)
set_option maxRecDepth 65536 in
theorem w_c4 : (Jvm.Cond.code ({ cls := "java/lang/StringLatin1", name := "toBytes", desc := "(C)[B" } : Jvm.MethodName) jdk_43_method_46_code (1 : Nat) (Option.some (Jvm.ClassFile.FieldType.array Jvm.ClassFile.FieldType.byte))).before args0 about1 = true := code_word (m := ⟨8, 3⟩) (meth := k8m3) (c := k8c3) (by decide +kernel) rfl rfl rfl (by decide +kernel)
set_option maxRecDepth 65536 in
theorem w_c5 : (Jvm.Cond.code ({ cls := "java/lang/String", name := "<init>", desc := "([BB)V" } : Jvm.MethodName) jdk_42_method_151_code (3 : Nat) (Option.none : Option Jvm.ClassFile.FieldType)).before args0 about1 = true := code_word (m := ⟨7, 6⟩) (meth := k7m6) (c := k7c6) (by decide +kernel) rfl rfl rfl (by decide +kernel)
set_option maxRecDepth 65536 in
theorem w_c6 : (Jvm.Cond.code ({ cls := "java/lang/Object", name := "<init>", desc := "()V" } : Jvm.MethodName) object_method_1_code (1 : Nat) (Option.none : Option Jvm.ClassFile.FieldType)).before args0 about1 = true := code_word (m := ⟨0, 0⟩) (meth := k0m0) (c := k0c0) (by decide +kernel) rfl rfl rfl (by decide +kernel)
set_option maxRecDepth 65536 in
theorem w_c7 : (Jvm.Cond.code ({ cls := "pechat/card/DigitsArePinLaw", name := "isAsciiDigit", desc := "(C)Z" } : Jvm.MethodName) method_3_code (2 : Nat) (Option.some Jvm.ClassFile.FieldType.boolean)).before args0 about1 = true := code_word (m := ⟨1, 2⟩) (meth := k1m2) (c := k1c2) (by decide +kernel) rfl rfl rfl (by decide +kernel)
set_option maxRecDepth 65536 in
theorem w_c8 : (Jvm.Cond.code ({ cls := "pechat/card/Digits", name := "are", desc := "(Ljava/lang/String;II)Z" } : Jvm.MethodName) prog_5_method_3_code (6 : Nat) (Option.some Jvm.ClassFile.FieldType.boolean)).before args0 about1 = true := code_word (m := ⟨9, 1⟩) (meth := k9m1) (c := k9c1) (by decide +kernel) rfl rfl rfl (by decide +kernel)
set_option maxRecDepth 65536 in
theorem w_c9 : (Jvm.Cond.code ({ cls := "java/util/Objects", name := "requireNonNull", desc := "(Ljava/lang/Object;Ljava/lang/String;)Ljava/lang/Object;" } : Jvm.MethodName) jdk_31_method_11_code (2 : Nat) (Option.some (Jvm.ClassFile.FieldType.object "java/lang/Object"))).before args0 about1 = true := code_word (m := ⟨10, 1⟩) (meth := k10m1) (c := k10c1) (by decide +kernel) rfl rfl rfl (by decide +kernel)
set_option maxRecDepth 65536 in
theorem w_c10 : (Jvm.Cond.code ({ cls := "java/lang/String", name := "length", desc := "()I" } : Jvm.MethodName) jdk_42_method_54_code (1 : Nat) (Option.some Jvm.ClassFile.FieldType.int)).before args0 about1 = true := code_word (m := ⟨7, 2⟩) (meth := k7m2) (c := k7c2) (by decide +kernel) rfl rfl rfl (by decide +kernel)
set_option maxRecDepth 65536 in
theorem w_c11 : (Jvm.Cond.code ({ cls := "java/lang/String", name := "coder", desc := "()B" } : Jvm.MethodName) jdk_42_method_152_code (1 : Nat) (Option.some Jvm.ClassFile.FieldType.byte)).before args0 about1 = true := code_word (m := ⟨7, 7⟩) (meth := k7m7) (c := k7c7) (by decide +kernel) rfl rfl rfl (by decide +kernel)
set_option maxRecDepth 65536 in
theorem w_c12 : (Jvm.Cond.code ({ cls := "java/lang/String", name := "charAt", desc := "(I)C" } : Jvm.MethodName) jdk_42_method_56_code (2 : Nat) (Option.some Jvm.ClassFile.FieldType.char)).before args0 about1 = true := code_word (m := ⟨7, 3⟩) (meth := k7m3) (c := k7c3) (by decide +kernel) rfl rfl rfl (by decide +kernel)
set_option maxRecDepth 65536 in
theorem w_c13 : (Jvm.Cond.code ({ cls := "java/lang/String", name := "isLatin1", desc := "()Z" } : Jvm.MethodName) jdk_42_method_154_code (1 : Nat) (Option.some Jvm.ClassFile.FieldType.boolean)).before args0 about1 = true := code_word (m := ⟨7, 8⟩) (meth := k7m8) (c := k7c8) (by decide +kernel) rfl rfl rfl (by decide +kernel)
set_option maxRecDepth 65536 in
theorem w_c14 : (Jvm.Cond.code ({ cls := "java/lang/StringLatin1", name := "charAt", desc := "([BI)C" } : Jvm.MethodName) jdk_43_method_2_code (2 : Nat) (Option.some Jvm.ClassFile.FieldType.char)).before args0 about1 = true := code_word (m := ⟨8, 1⟩) (meth := k8m1) (c := k8c1) (by decide +kernel) rfl rfl rfl (by decide +kernel)
set_option maxRecDepth 65536 in
theorem w_c15 : (Jvm.Cond.code ({ cls := "java/lang/String", name := "checkIndex", desc := "(II)V" } : Jvm.MethodName) jdk_42_method_155_code (2 : Nat) (Option.none : Option Jvm.ClassFile.FieldType)).before args0 about1 = true := code_word (m := ⟨7, 9⟩) (meth := k7m9) (c := k7c9) (by decide +kernel) rfl rfl rfl (by decide +kernel)
set_option maxRecDepth 65536 in
theorem w_c16 : (Jvm.Cond.code ({ cls := "jdk/internal/util/Preconditions", name := "checkIndex", desc := "(IILjava/util/function/BiFunction;)I" } : Jvm.MethodName) jdk_41_method_11_code (3 : Nat) (Option.some Jvm.ClassFile.FieldType.int)).before args0 about1 = true := code_word (m := ⟨11, 1⟩) (meth := k11m1) (c := k11c1) (by decide +kernel) rfl rfl rfl (by decide +kernel)
set_option maxRecDepth 65536 in
theorem w_c17 : (Jvm.Cond.code ({ cls := "java/lang/String", name := "<init>", desc := "([C)V" } : Jvm.MethodName) jdk_42_method_3_code (2 : Nat) (Option.none : Option Jvm.ClassFile.FieldType)).before args0 about1 = true := code_word (m := ⟨7, 1⟩) (meth := k7m1) (c := k7c1) (by decide +kernel) rfl rfl rfl (by decide +kernel)
set_option maxRecDepth 65536 in
theorem w_c18 : (Jvm.Cond.code ({ cls := "java/lang/String", name := "<init>", desc := "([CIILjava/lang/Void;)V" } : Jvm.MethodName) jdk_42_method_149_code (6 : Nat) (Option.none : Option Jvm.ClassFile.FieldType)).before args0 about1 = true := code_word (m := ⟨7, 5⟩) (meth := k7m5) (c := k7c5) (by decide +kernel) rfl rfl rfl (by decide +kernel)
set_option maxRecDepth 65536 in
theorem w_c19 : (Jvm.Cond.code ({ cls := "java/lang/StringUTF16", name := "compress", desc := "([CII)[B" } : Jvm.MethodName) jdk_52_method_16_code (6 : Nat) (Option.some (Jvm.ClassFile.FieldType.array Jvm.ClassFile.FieldType.byte))).before args0 about1 = true := code_word (m := ⟨12, 8⟩) (meth := k12m8) (c := k12c8) (by decide +kernel) rfl rfl rfl (by decide +kernel)
set_option maxRecDepth 65536 in
theorem w_c20 : (Jvm.Cond.code ({ cls := "java/lang/StringUTF16", name := "compress", desc := "([CI[BII)I" } : Jvm.MethodName) jdk_52_method_21_code (7 : Nat) (Option.some Jvm.ClassFile.FieldType.int)).before args0 about1 = true := code_word (m := ⟨12, 9⟩) (meth := k12m9) (c := k12c9) (by decide +kernel) rfl rfl rfl (by decide +kernel)
set_option maxRecDepth 65536 in
theorem w_c21 : (Jvm.Cond.code ({ cls := "java/lang/StringUTF16", name := "coderFromArrayLen", desc := "([BI)B" } : Jvm.MethodName) jdk_52_method_15_code (2 : Nat) (Option.some Jvm.ClassFile.FieldType.byte)).before args0 about1 = true := code_word (m := ⟨12, 7⟩) (meth := k12m7) (c := k12c7) (by decide +kernel) rfl rfl rfl (by decide +kernel)
set_option maxRecDepth 65536 in
theorem w_c22 : (Jvm.Cond.code ({ cls := "java/lang/StringUTF16", name := "toBytes", desc := "([CII)[B" } : Jvm.MethodName) jdk_52_method_14_code (5 : Nat) (Option.some (Jvm.ClassFile.FieldType.array Jvm.ClassFile.FieldType.byte))).before args0 about1 = true := code_word (m := ⟨12, 6⟩) (meth := k12m6) (c := k12c6) (by decide +kernel) rfl rfl rfl (by decide +kernel)
set_option maxRecDepth 65536 in
theorem w_c23 : (Jvm.Cond.code ({ cls := "java/lang/StringUTF16", name := "newBytesFor", desc := "(I)[B" } : Jvm.MethodName) jdk_52_method_2_code (1 : Nat) (Option.some (Jvm.ClassFile.FieldType.array Jvm.ClassFile.FieldType.byte))).before args0 about1 = true := code_word (m := ⟨12, 1⟩) (meth := k12m1) (c := k12c1) (by decide +kernel) rfl rfl rfl (by decide +kernel)
set_option maxRecDepth 65536 in
theorem w_c24 : (Jvm.Cond.code ({ cls := "java/lang/StringUTF16", name := "newBytesLength", desc := "(I)I" } : Jvm.MethodName) jdk_52_method_3_code (1 : Nat) (Option.some Jvm.ClassFile.FieldType.int)).before args0 about1 = true := code_word (m := ⟨12, 2⟩) (meth := k12m2) (c := k12c2) (by decide +kernel) rfl rfl rfl (by decide +kernel)
set_option maxRecDepth 65536 in
theorem w_c25 : (Jvm.Cond.code ({ cls := "java/lang/StringUTF16", name := "putChar", desc := "([BII)V" } : Jvm.MethodName) jdk_52_method_4_code (3 : Nat) (Option.none : Option Jvm.ClassFile.FieldType)).before args0 about1 = true := code_word (m := ⟨12, 3⟩) (meth := k12m3) (c := k12c3) (by decide +kernel) rfl rfl rfl (by decide +kernel)
set_option maxRecDepth 65536 in
theorem w_c26 : (Jvm.Cond.code ({ cls := "java/lang/StringUTF16", name := "getChar", desc := "([BI)C" } : Jvm.MethodName) jdk_52_method_5_code (2 : Nat) (Option.some Jvm.ClassFile.FieldType.char)).before args0 about1 = true := code_word (m := ⟨12, 4⟩) (meth := k12m4) (c := k12c4) (by decide +kernel) rfl rfl rfl (by decide +kernel)
set_option maxRecDepth 65536 in
theorem w_c27 : (Jvm.Cond.code ({ cls := "java/lang/StringUTF16", name := "charAt", desc := "([BI)C" } : Jvm.MethodName) jdk_52_method_83_code (2 : Nat) (Option.some Jvm.ClassFile.FieldType.char)).before args0 about1 = true := code_word (m := ⟨12, 11⟩) (meth := k12m11) (c := k12c11) (by decide +kernel) rfl rfl rfl (by decide +kernel)
set_option maxRecDepth 65536 in
theorem w_c28 : (Jvm.Cond.code ({ cls := "java/lang/StringUTF16", name := "checkIndex", desc := "(I[B)V" } : Jvm.MethodName) jdk_52_method_91_code (2 : Nat) (Option.none : Option Jvm.ClassFile.FieldType)).before args0 about1 = true := code_word (m := ⟨12, 12⟩) (meth := k12m12) (c := k12c12) (by decide +kernel) rfl rfl rfl (by decide +kernel)
set_option maxRecDepth 65536 in
theorem w_c29 : (Jvm.Cond.code ({ cls := "java/lang/StringUTF16", name := "length", desc := "([B)I" } : Jvm.MethodName) jdk_52_method_6_code (1 : Nat) (Option.some Jvm.ClassFile.FieldType.int)).before args0 about1 = true := code_word (m := ⟨12, 5⟩) (meth := k12m5) (c := k12c5) (by decide +kernel) rfl rfl rfl (by decide +kernel)
set_option maxRecDepth 65536 in
theorem w_c30 : (Jvm.Cond.code ({ cls := "java/lang/StringUTF16", name := "toBytes", desc := "(C)[B" } : Jvm.MethodName) jdk_52_method_24_code (2 : Nat) (Option.some (Jvm.ClassFile.FieldType.array Jvm.ClassFile.FieldType.byte))).before args0 about1 = true := code_word (m := ⟨12, 10⟩) (meth := k12m10) (c := k12c10) (by decide +kernel) rfl rfl rfl (by decide +kernel)
def codes1 : List Jvm.Cond := [Jvm.Cond.code x code maxLocals ret, Jvm.Cond.code ({ cls := "pechat/card/DigitsArePinLaw", name := "ch", desc := "(I)C" } : Jvm.MethodName) method_2_code (1 : Nat) (Option.some Jvm.ClassFile.FieldType.char), Jvm.Cond.code ({ cls := "java/lang/String", name := "valueOf", desc := "(C)Ljava/lang/String;" } : Jvm.MethodName) jdk_42_method_139_code (1 : Nat) (Option.some (Jvm.ClassFile.FieldType.object "java/lang/String")), Jvm.Cond.code ({ cls := "java/lang/StringLatin1", name := "canEncode", desc := "(C)Z" } : Jvm.MethodName) jdk_43_method_3_code (1 : Nat) (Option.some Jvm.ClassFile.FieldType.boolean), Jvm.Cond.code ({ cls := "java/lang/StringLatin1", name := "toBytes", desc := "(C)[B" } : Jvm.MethodName) jdk_43_method_46_code (1 : Nat) (Option.some (Jvm.ClassFile.FieldType.array Jvm.ClassFile.FieldType.byte)), Jvm.Cond.code ({ cls := "java/lang/String", name := "<init>", desc := "([BB)V" } : Jvm.MethodName) jdk_42_method_151_code (3 : Nat) (Option.none : Option Jvm.ClassFile.FieldType), Jvm.Cond.code ({ cls := "java/lang/Object", name := "<init>", desc := "()V" } : Jvm.MethodName) object_method_1_code (1 : Nat) (Option.none : Option Jvm.ClassFile.FieldType), Jvm.Cond.code ({ cls := "pechat/card/DigitsArePinLaw", name := "isAsciiDigit", desc := "(C)Z" } : Jvm.MethodName) method_3_code (2 : Nat) (Option.some Jvm.ClassFile.FieldType.boolean), Jvm.Cond.code ({ cls := "pechat/card/Digits", name := "are", desc := "(Ljava/lang/String;II)Z" } : Jvm.MethodName) prog_5_method_3_code (6 : Nat) (Option.some Jvm.ClassFile.FieldType.boolean), Jvm.Cond.code ({ cls := "java/util/Objects", name := "requireNonNull", desc := "(Ljava/lang/Object;Ljava/lang/String;)Ljava/lang/Object;" } : Jvm.MethodName) jdk_31_method_11_code (2 : Nat) (Option.some (Jvm.ClassFile.FieldType.object "java/lang/Object")), Jvm.Cond.code ({ cls := "java/lang/String", name := "length", desc := "()I" } : Jvm.MethodName) jdk_42_method_54_code (1 : Nat) (Option.some Jvm.ClassFile.FieldType.int), Jvm.Cond.code ({ cls := "java/lang/String", name := "coder", desc := "()B" } : Jvm.MethodName) jdk_42_method_152_code (1 : Nat) (Option.some Jvm.ClassFile.FieldType.byte), Jvm.Cond.code ({ cls := "java/lang/String", name := "charAt", desc := "(I)C" } : Jvm.MethodName) jdk_42_method_56_code (2 : Nat) (Option.some Jvm.ClassFile.FieldType.char), Jvm.Cond.code ({ cls := "java/lang/String", name := "isLatin1", desc := "()Z" } : Jvm.MethodName) jdk_42_method_154_code (1 : Nat) (Option.some Jvm.ClassFile.FieldType.boolean), Jvm.Cond.code ({ cls := "java/lang/StringLatin1", name := "charAt", desc := "([BI)C" } : Jvm.MethodName) jdk_43_method_2_code (2 : Nat) (Option.some Jvm.ClassFile.FieldType.char), Jvm.Cond.code ({ cls := "java/lang/String", name := "checkIndex", desc := "(II)V" } : Jvm.MethodName) jdk_42_method_155_code (2 : Nat) (Option.none : Option Jvm.ClassFile.FieldType), Jvm.Cond.code ({ cls := "jdk/internal/util/Preconditions", name := "checkIndex", desc := "(IILjava/util/function/BiFunction;)I" } : Jvm.MethodName) jdk_41_method_11_code (3 : Nat) (Option.some Jvm.ClassFile.FieldType.int), Jvm.Cond.code ({ cls := "java/lang/String", name := "<init>", desc := "([C)V" } : Jvm.MethodName) jdk_42_method_3_code (2 : Nat) (Option.none : Option Jvm.ClassFile.FieldType), Jvm.Cond.code ({ cls := "java/lang/String", name := "<init>", desc := "([CIILjava/lang/Void;)V" } : Jvm.MethodName) jdk_42_method_149_code (6 : Nat) (Option.none : Option Jvm.ClassFile.FieldType), Jvm.Cond.code ({ cls := "java/lang/StringUTF16", name := "compress", desc := "([CII)[B" } : Jvm.MethodName) jdk_52_method_16_code (6 : Nat) (Option.some (Jvm.ClassFile.FieldType.array Jvm.ClassFile.FieldType.byte)), Jvm.Cond.code ({ cls := "java/lang/StringUTF16", name := "compress", desc := "([CI[BII)I" } : Jvm.MethodName) jdk_52_method_21_code (7 : Nat) (Option.some Jvm.ClassFile.FieldType.int), Jvm.Cond.code ({ cls := "java/lang/StringUTF16", name := "coderFromArrayLen", desc := "([BI)B" } : Jvm.MethodName) jdk_52_method_15_code (2 : Nat) (Option.some Jvm.ClassFile.FieldType.byte), Jvm.Cond.code ({ cls := "java/lang/StringUTF16", name := "toBytes", desc := "([CII)[B" } : Jvm.MethodName) jdk_52_method_14_code (5 : Nat) (Option.some (Jvm.ClassFile.FieldType.array Jvm.ClassFile.FieldType.byte)), Jvm.Cond.code ({ cls := "java/lang/StringUTF16", name := "newBytesFor", desc := "(I)[B" } : Jvm.MethodName) jdk_52_method_2_code (1 : Nat) (Option.some (Jvm.ClassFile.FieldType.array Jvm.ClassFile.FieldType.byte)), Jvm.Cond.code ({ cls := "java/lang/StringUTF16", name := "newBytesLength", desc := "(I)I" } : Jvm.MethodName) jdk_52_method_3_code (1 : Nat) (Option.some Jvm.ClassFile.FieldType.int), Jvm.Cond.code ({ cls := "java/lang/StringUTF16", name := "putChar", desc := "([BII)V" } : Jvm.MethodName) jdk_52_method_4_code (3 : Nat) (Option.none : Option Jvm.ClassFile.FieldType), Jvm.Cond.code ({ cls := "java/lang/StringUTF16", name := "getChar", desc := "([BI)C" } : Jvm.MethodName) jdk_52_method_5_code (2 : Nat) (Option.some Jvm.ClassFile.FieldType.char), Jvm.Cond.code ({ cls := "java/lang/StringUTF16", name := "charAt", desc := "([BI)C" } : Jvm.MethodName) jdk_52_method_83_code (2 : Nat) (Option.some Jvm.ClassFile.FieldType.char), Jvm.Cond.code ({ cls := "java/lang/StringUTF16", name := "checkIndex", desc := "(I[B)V" } : Jvm.MethodName) jdk_52_method_91_code (2 : Nat) (Option.none : Option Jvm.ClassFile.FieldType), Jvm.Cond.code ({ cls := "java/lang/StringUTF16", name := "length", desc := "([B)I" } : Jvm.MethodName) jdk_52_method_6_code (1 : Nat) (Option.some Jvm.ClassFile.FieldType.int), Jvm.Cond.code ({ cls := "java/lang/StringUTF16", name := "toBytes", desc := "(C)[B" } : Jvm.MethodName) jdk_52_method_24_code (2 : Nat) (Option.some (Jvm.ClassFile.FieldType.array Jvm.ClassFile.FieldType.byte))]
set_option maxRecDepth 65536 in
theorem codes_eq : words1.filter isCode = codes1 := rfl
theorem w_codes : ∀ c ∈ words1.filter isCode, c.before args0 about1 = true := by
  rw [codes_eq]
  intro c hc
  simp only [codes1, List.mem_cons, List.not_mem_nil, or_false] at hc
  rcases hc with rfl | rfl | rfl | rfl | rfl | rfl | rfl | rfl | rfl | rfl | rfl | rfl | rfl | rfl | rfl | rfl | rfl | rfl | rfl | rfl | rfl | rfl | rfl | rfl | rfl | rfl | rfl | rfl | rfl | rfl | rfl
  · exact w_c0
  · exact w_c1
  · exact w_c2
  · exact w_c3
  · exact w_c4
  · exact w_c5
  · exact w_c6
  · exact w_c7
  · exact w_c8
  · exact w_c9
  · exact w_c10
  · exact w_c11
  · exact w_c12
  · exact w_c13
  · exact w_c14
  · exact w_c15
  · exact w_c16
  · exact w_c17
  · exact w_c18
  · exact w_c19
  · exact w_c20
  · exact w_c21
  · exact w_c22
  · exact w_c23
  · exact w_c24
  · exact w_c25
  · exact w_c26
  · exact w_c27
  · exact w_c28
  · exact w_c29
  · exact w_c30
set_option maxRecDepth 65536 in
theorem w_t1 : (words1.take 24).all (fun c => isCode c || c.before args0 about1) = true := by decide +kernel
set_option maxRecDepth 65536 in
theorem w_t2 : ((words1.drop 24).take 24).all (fun c => isCode c || c.before args0 about1) = true := by decide +kernel
set_option maxRecDepth 65536 in
theorem w_t3 : (((words1.drop 24).drop 24).take 24).all (fun c => isCode c || c.before args0 about1) = true := by decide +kernel
set_option maxRecDepth 65536 in
theorem w_t4 : ((((words1.drop 24).drop 24).drop 24).take 24).all (fun c => isCode c || c.before args0 about1) = true := by decide +kernel
set_option maxRecDepth 65536 in
theorem w_t5 : (((((words1.drop 24).drop 24).drop 24).drop 24).take 24).all (fun c => isCode c || c.before args0 about1) = true := by decide +kernel
set_option maxRecDepth 65536 in
theorem w_t6 : (((((words1.drop 24).drop 24).drop 24).drop 24).drop 24).all (fun c => isCode c || c.before args0 about1) = true := by decide +kernel
theorem w_tables : (allAtoms (Jvm.Cond.code x code maxLocals ret :: tables_1)).before args0 about1 = true := by
  rw [allAtoms_all]
  show words1.all (fun c => c.before args0 about1) = true
  refine all_split ?_ w_codes
  rw [← List.take_append_drop 24 words1, List.all_append, w_t1, ← List.take_append_drop 24 (words1.drop 24), List.all_append, w_t2, ← List.take_append_drop 24 ((words1.drop 24).drop 24), List.all_append, w_t3, ← List.take_append_drop 24 (((words1.drop 24).drop 24).drop 24), List.all_append, w_t4, ← List.take_append_drop 24 ((((words1.drop 24).drop 24).drop 24).drop 24), List.all_append, w_t5, w_t6]
  rfl
set_option maxRecDepth 65536 in
theorem w_rest : rest_1_c.before args0 about1 = true := by decide +kernel
set_option maxRecDepth 65536 in
theorem w_case : (Jvm.Cond.and given_1 narrow_1).before args0 about1 = true := by decide +kernel
set_option maxRecDepth 65536 in
theorem w_consts : constsHeld consts_1 about1 := Jvm.Lit.constsHeldB_iff.mp (by decide +kernel)
theorem w_applies : (headSpec (Jvm.Cond.code x code maxLocals ret :: tables_1) room_1).applies x e0.platform about1 = true :=
  (Spec.applies_iff w_frames).mpr ⟨w_running, w_runnable, w_alone, w_named, w_hears, w_ripe, w_room, w_tables⟩
theorem atStart : AtStart classFile x code maxLocals ret World_1 tables_1 room_1 Calls_1 rest_1 Pre_1 launch0 p0 e0 about1 theMethod args0 below0 :=
  ⟨lists_1, trivial, launch0.admits_env _ _ _, launch0.least_env, fairChoices_fair.cas, fairChoices_fair.clock, w_frames, w_args, w_heap, w_applies, ⟨w_consts, trivial⟩, w_rest, w_case⟩
end start1
theorem witness_1 : WitnessClaimed_1 := ⟨start1.p0, start1.e0, start1.about1, start1.theMethod, start1.args0, start1.below0, start1.atStart⟩
end Jvm.Pilot.@@N@@
