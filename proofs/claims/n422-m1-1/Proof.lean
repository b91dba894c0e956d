import JvmDerived
import JvmDerived.Pilot.@@N@@Statement
import JvmDerived.Pilot.@@N@@Code
set_option linter.unusedVariables false
set_option maxRecDepth 65536
set_option maxHeartbeats 40000000
set_option linter.unusedSimpArgs false
/- laws to paste: Road.backV (cut by pick.py; bodies as the Statement names them) -/
namespace Jvm.Pilot.@@N@@
namespace StrChars
open Jvm Sem ClassFile Op Lib Jvm.Stand Jvm.Free.XT Jvm.Free.ALB Jvm.Free.JM Jvm.Free
open Jvm.Lib.Cold (StaticIs)
/-- a char array whose places are chars -/
def Ch (a : Addr) (A : Cell) (U : State) : Prop := Arr .char a A U ∧ Typed .char A
theorem Ch.mv {a : Addr} {A : Cell} {U U' : State} (h : Ch a A U) (hal : U.vm.Alike U'.vm) (hh : U'.heap = U.heap) : Ch a A U' := ⟨h.1.mv hal hh, h.2⟩
theorem Ch.keep {a : Addr} {A : Cell} {U U' : State} (h : Ch a A U) (hal : U.vm.Alike U'.vm) (hk : U'.heap[a]? = some A) : Ch a A U' := ⟨h.1.keep hal hk, h.2⟩
/-- what place i of a char[]'s cell holds -/
def cv (A : Cell) (i : Nat) : Int32 := match A.slots[i]? with | some (.int x) => x | _ => 0
theorem Ch.get {a : Addr} {A : Cell} {U : State} (h : Ch a A U) {i : Nat} (hi : i < A.slots.size) : A.slots[i]? = some (.int (cv A i)) := by
  have e := Array.getElem?_eq_getElem hi
  have f := h.2 i _ e
  unfold cv; rw [e]
  generalize A.slots[i] = v at f
  cases v <;> simp [fits] at f ⊢
/-- the byte that i2b leaves of a char -/
def lo8 (x : Int32) : Int32 := x.toInt8.toInt32
theorem fits_lo8 (y : Int32) : fits .byte (.int (lo8 y)) = true := by
  have h1 := y.toInt8.le_toInt
  have h2 := y.toInt8.toInt_lt
  simp only [lo8, fits, Bool.and_eq_true, decide_eq_true_eq, Int32.le_iff_toInt_le, Int8.toInt_toInt32, show (-128 : Int32).toInt = -128 from by decide, show (127 : Int32).toInt = 127 from by decide]
  omega
/-- A' is A but that each place j of lo .. hi - 1 holds f j -/
def Laid (A A' : Cell) (lo hi : Nat) (f : Nat → Value) : Prop := A'.cls = A.cls ∧ A'.vm = A.vm ∧ A'.slots.size = A.slots.size ∧ ∀ i, A'.slots[i]? = if lo ≤ i ∧ i < hi then some (f i) else A.slots[i]?
theorem Laid.zero (A : Cell) (lo : Nat) (f : Nat → Value) : Laid A A lo (lo + 0) f := ⟨rfl, rfl, rfl, fun i => by rw [if_neg (by omega)]⟩
theorem Laid.step {A Ak : Cell} {lo k : Nat} {f : Nat → Value} {v : Value} (h : Laid A Ak lo k f) (hlo : lo ≤ k) (hk : k < Ak.slots.size) (hv : v = f k) : Laid A (Ak.setSlot k v) lo (k + 1) f := by
  refine ⟨h.1, h.2.1, by simpa [Cell.setSlot] using h.2.2.1, fun i => ?_⟩
  by_cases e : k = i
  · subst e; rw [Cell.slots_setSlot_self v hk, if_pos (by omega), hv]
  · rw [Cell.slots_setSlot_ne v e, h.2.2.2 i]
    by_cases q : lo ≤ i ∧ i < k
    · rw [if_pos q, if_pos (by omega)]
    · rw [if_neg q, if_neg (by omega)]
def U16 : String := "java/lang/StringUTF16"
namespace Cmp5
def yN : MethodName := ⟨"java/lang/StringUTF16", "compress", "([CI[BII)I"⟩
abbrev yB : ByteArray := jdk_52_method_21_code
theorem d0 : decode yB 0 = .ok (.iconst 0, 1) := by decide +kernel
theorem d1 : decode yB 1 = .ok (.istore 5, 2) := by decide +kernel
theorem d3 : decode yB 3 = .ok (.iload 5, 2) := by decide +kernel
theorem d5 : decode yB 5 = .ok (.iload 4, 2) := by decide +kernel
theorem d7 : decode yB 7 = .ok (.if_icmp (.ge) 37, 3) := by decide +kernel
theorem d10 : decode yB 10 = .ok (.aload_n 0, 1) := by decide +kernel
theorem d11 : decode yB 11 = .ok (.iload_n 1, 1) := by decide +kernel
theorem d12 : decode yB 12 = .ok (.caload, 1) := by decide +kernel
theorem d13 : decode yB 13 = .ok (.istore 6, 2) := by decide +kernel
theorem d15 : decode yB 15 = .ok (.iload 6, 2) := by decide +kernel
theorem d17 : decode yB 17 = .ok (.sipush 255, 3) := by decide +kernel
theorem d20 : decode yB 20 = .ok (.if_icmp (.le) 6, 3) := by decide +kernel
theorem d26 : decode yB 26 = .ok (.aload_n 2, 1) := by decide +kernel
theorem d27 : decode yB 27 = .ok (.iload_n 3, 1) := by decide +kernel
theorem d28 : decode yB 28 = .ok (.iload 6, 2) := by decide +kernel
theorem d30 : decode yB 30 = .ok (.i2b, 1) := by decide +kernel
theorem d31 : decode yB 31 = .ok (.bastore, 1) := by decide +kernel
theorem d32 : decode yB 32 = .ok (.iinc 1 1, 3) := by decide +kernel
theorem d35 : decode yB 35 = .ok (.iinc 3 1, 3) := by decide +kernel
theorem d38 : decode yB 38 = .ok (.iinc 5 1, 3) := by decide +kernel
theorem d41 : decode yB 41 = .ok (.goto (-38), 3) := by decide +kernel
theorem d44 : decode yB 44 = .ok (.iload 4, 2) := by decide +kernel
theorem d46 : decode yB 46 = .ok (.ireturn, 1) := by decide +kernel
def site : List Cond := []
def tab : Cond := tabOf yN yB 7 (some .int) site
def P (b : Addr) (A : Cell) (d : Addr) (B : Cell) (o q len : Nat) (args : Array Value) (s : State) : Prop := args = #[.ref b, .int (Int32.ofNat o), .ref d, .int (Int32.ofNat q), .int (Int32.ofNat len)] ∧ Ch b A s ∧ Arr .byte d B s ∧ b ≠ d ∧ o + len ≤ A.slots.size ∧ q + len ≤ B.slots.size ∧ ∀ i, i < len → ¬ 255 < cv A (o + i)
def E (b : Addr) (A : Cell) (d : Addr) (B : Cell) (o q len : Nat) (r : Option Value) (s u : State) : Prop := r = some (.int (Int32.ofNat len)) ∧ ∃ B', Put d B' s u ∧ Laid B B' q (q + len) (fun j => Value.int (lo8 (cv A (o + (j - q)))))
/-- no char of the range above 255: len; the places written hold each char's low byte -/
theorem law (l : Launch) (b : Addr) (A : Cell) (d : Addr) (B : Cell) (o q len : Nat) : Law l yN 5 5 0 0 yB 7 (some .int) site (P b A d B o q len) (E b A d B o q len) (copyLocs d q len) 0 0 := by
  refine Law.of_walk (plainFor_of_name (by decide +kernel)) (by decide +kernel) (by decide +kernel) (by decide) (fun _ _ h => by rw [h.1]; rfl) (fun _ U U' hal hh h => ⟨h.1, h.2.1.mv hal hh, h.2.2.1.mv hal hh, h.2.2.2⟩) (fun r U U' V V' h1 hal h2 h => ⟨h.1, h.2.elim fun B' q => ⟨B', q.1.mv h1 h2, q.2⟩⟩) ?_
  intro p e s m args below meth c s₁ X0 hexec hbytes hml hret hlk hnm hown hh0 W hP
  obtain ⟨rfl, hA, hB, hne, l1, l2, hp⟩ := hP
  have c1 : Steps p.tables e below (s₁.setTop (entryFrame m #[.ref b, .int (Int32.ofNat o), .ref d, .int (Int32.ofNat q), .int (Int32.ofNat len)] 7)) (s₁.setTop (mkF m 0 #[.val (.ref b), .val (.int (Int32.ofNat o)), .val (.ref d), .val (.int (Int32.ofNat q)), .val (.int (Int32.ofNat len)), .unset, .unset] [])) := entry rfl
  have hA0 := hA.1.mv X0.warmed.alike hh0
  have hB0 := hB.mv X0.warmed.alike hh0
  have a31 := hA.1.2.2.2
  have c2 : Steps p.tables e below (s₁.setTop (entryFrame m #[.ref b, .int (Int32.ofNat o), .ref d, .int (Int32.ofNat q), .int (Int32.ofNat len)] 7)) (s₁.setTop (mkF m 3 #[.val (.ref b), .val (.int (Int32.ofNat o)), .val (.ref d), .val (.int (Int32.ofNat q)), .val (.int (Int32.ofNat len)), .val (.int 0), .unset] [])) := c1.trans (by
    refine iconstV X0.here hexec rfl 0 (hb hbytes d0) (by decide) ?_
    refine XS.istore X0.here hexec rfl (hb hbytes d1) rfl rfl ?_
    exact Steps.refl _)
  have loop : ∀ (r i : Nat), i + r = len → ∀ (z : Slot), (z = .unset ∨ ∃ w, z = .val w ∧ w.category = 1) → ∀ (Tl : State) (Bk : Cell), Stand p l e { frames := 0, locals := 0, cells := 0, slots := 0 } s m #[.ref b, .int (Int32.ofNat o), .ref d, .int (Int32.ofNat q), .int (Int32.ofNat len)] below meth c Tl ([] ++ copyLocs d q i) 0 0 → Put d Bk s₁ Tl → Laid B Bk q (q + i) (fun j => Value.int (lo8 (cv A (o + (j - q))))) →
      Steps p.tables e below (s₁.setTop (entryFrame m #[.ref b, .int (Int32.ofNat o), .ref d, .int (Int32.ofNat q), .int (Int32.ofNat len)] 7)) (Tl.setTop (mkF m 3 #[.val (.ref b), .val (.int (Int32.ofNat (o + i))), .val (.ref d), .val (.int (Int32.ofNat (q + i))), .val (.int (Int32.ofNat len)), .val (.int (Int32.ofNat i)), z] [])) → ∃ (T' : State) (B' : Cell) (z' : Slot), Stand p l e { frames := 0, locals := 0, cells := 0, slots := 0 } s m #[.ref b, .int (Int32.ofNat o), .ref d, .int (Int32.ofNat q), .int (Int32.ofNat len)] below meth c T' ([] ++ copyLocs d q len) 0 0 ∧ Put d B' s₁ T' ∧ Laid B B' q (q + len) (fun j => Value.int (lo8 (cv A (o + (j - q))))) ∧
      Steps p.tables e below (s₁.setTop (entryFrame m #[.ref b, .int (Int32.ofNat o), .ref d, .int (Int32.ofNat q), .int (Int32.ofNat len)] 7)) (T'.setTop (mkF m 3 #[.val (.ref b), .val (.int (Int32.ofNat (o + len))), .val (.ref d), .val (.int (Int32.ofNat (q + len))), .val (.int (Int32.ofNat len)), .val (.int (Int32.ofNat len)), z'] [])) := by
    intro r
    induction r with
    | zero =>
      intro i hi z hz Tl Bk Xl pl fl cl
      have hil : i = len := by omega
      rw [hil] at Xl fl cl
      exact ⟨Tl, Bk, z, Xl, pl, fl, cl⟩
    | succ r ih =>
      intro i hi z hz Tl Bk Xl pl fl cl
      have all := X0.warmed.alike.symm.trans Xl.warmed.alike
      have hAl := hA0.keep all (pl.other hne hA0.1)
      have hBk := hB0.like all pl.1 fl.1 fl.2.1 fl.2.2.1
      have hlt : q + i < Bk.slots.size := by rw [fl.2.2.1]; omega
      have c3 : Steps p.tables e below (s₁.setTop (entryFrame m #[.ref b, .int (Int32.ofNat o), .ref d, .int (Int32.ofNat q), .int (Int32.ofNat len)] 7)) (Tl.setTop (mkF m 12 #[.val (.ref b), .val (.int (Int32.ofNat (o + i))), .val (.ref d), .val (.int (Int32.ofNat (q + i))), .val (.int (Int32.ofNat len)), .val (.int (Int32.ofNat i)), z] [.int (Int32.ofNat (o + i)), .ref b])) := cl.trans (by
        refine XS.iload Xl.here hexec rfl (hb hbytes d3) rfl ?_
        refine XS.iload Xl.here hexec rfl (hb hbytes d5) rfl ?_
        refine XS.icmpNo Xl.here hexec rfl (hb hbytes d7) rfl (ii_ge_f (lt32 (by omega) (by omega))) ?_
        refine XS.aloadN Xl.here hexec rfl (hb hbytes d10) rfl rfl ?_
        refine XS.iloadN Xl.here hexec rfl (hb hbytes d11) rfl ?_
        exact Steps.refl _)
      have c4 : Steps p.tables e below (s₁.setTop (entryFrame m #[.ref b, .int (Int32.ofNat o), .ref d, .int (Int32.ofNat q), .int (Int32.ofNat len)] 7)) (Tl.setTop (mkF m 13 #[.val (.ref b), .val (.int (Int32.ofNat (o + i))), .val (.ref d), .val (.int (Int32.ofNat (q + i))), .val (.int (Int32.ofNat len)), .val (.int (Int32.ofNat i)), z] [.int (cv A (o + i))])) := c3.trans (by
        refine Xl.aget hexec hAl rfl (hA.get (i := o + i) (by omega)) rfl rfl (hb hbytes d12) ?_
        exact Steps.refl _)
      have c5 : Steps p.tables e below (s₁.setTop (entryFrame m #[.ref b, .int (Int32.ofNat o), .ref d, .int (Int32.ofNat q), .int (Int32.ofNat len)] 7)) (Tl.setTop (mkF m 15 #[.val (.ref b), .val (.int (Int32.ofNat (o + i))), .val (.ref d), .val (.int (Int32.ofNat (q + i))), .val (.int (Int32.ofNat len)), .val (.int (Int32.ofNat i)), .val (.int (cv A (o + i)))] [])) := c4.trans (by
        refine XS.istoreS Xl.here hexec rfl (hb hbytes d13) rfl rfl hz ?_
        exact Steps.refl _)
      have c6 : Steps p.tables e below (s₁.setTop (entryFrame m #[.ref b, .int (Int32.ofNat o), .ref d, .int (Int32.ofNat q), .int (Int32.ofNat len)] 7)) (Tl.setTop (mkF m 31 #[.val (.ref b), .val (.int (Int32.ofNat (o + i))), .val (.ref d), .val (.int (Int32.ofNat (q + i))), .val (.int (Int32.ofNat len)), .val (.int (Int32.ofNat i)), .val (.int (cv A (o + i)))] [.int (lo8 (cv A (o + i))), .int (Int32.ofNat (q + i)), .ref d])) := c5.trans (by
        refine XS.iload Xl.here hexec rfl (hb hbytes d15) rfl ?_
        refine sipushV Xl.here hexec rfl 255 (hb hbytes d17) (by decide) ?_
        refine XS.icmpYes Xl.here hexec rfl (pc0 := 20) rfl (hb hbytes d20) rfl (ii_le_t (hp i (by omega))) (by decide) rfl ?_
        refine XS.aloadN Xl.here hexec rfl (hb hbytes d26) rfl rfl ?_
        refine XS.iloadN Xl.here hexec rfl (hb hbytes d27) rfl ?_
        refine XS.iload Xl.here hexec rfl (hb hbytes d28) rfl ?_
        refine i2b Xl.here hexec rfl (hb hbytes d30) rfl ?_
        exact Steps.refl _)
      obtain ⟨T7, X7, p7, st7⟩ := Xl.aput hexec hBk rfl hlt rfl (fits_lo8 (cv A (o + i))) (g := (mkF m 31 #[.val (.ref b), .val (.int (Int32.ofNat (o + i))), .val (.ref d), .val (.int (Int32.ofNat (q + i))), .val (.int (Int32.ofNat len)), .val (.int (Int32.ofNat i)), .val (.int (cv A (o + i)))] [.int (lo8 (cv A (o + i))), .int (Int32.ofNat (q + i)), .ref d])) rfl (rest := []) rfl (hb hbytes d31)
      have c8 : Steps p.tables e below (s₁.setTop (entryFrame m #[.ref b, .int (Int32.ofNat o), .ref d, .int (Int32.ofNat q), .int (Int32.ofNat len)] 7)) (T7.setTop (mkF m 32 #[.val (.ref b), .val (.int (Int32.ofNat (o + i))), .val (.ref d), .val (.int (Int32.ofNat (q + i))), .val (.int (Int32.ofNat len)), .val (.int (Int32.ofNat i)), .val (.int (cv A (o + i)))] [])) := c6.trans (st7 _ (Steps.refl _))
      have c9 : Steps p.tables e below (s₁.setTop (entryFrame m #[.ref b, .int (Int32.ofNat o), .ref d, .int (Int32.ofNat q), .int (Int32.ofNat len)] 7)) (T7.setTop (mkF m 3 #[.val (.ref b), .val (.int (Int32.ofNat (o + i) + 1)), .val (.ref d), .val (.int (Int32.ofNat (q + i) + 1)), .val (.int (Int32.ofNat len)), .val (.int (Int32.ofNat i + 1)), .val (.int (cv A (o + i)))] [])) := c8.trans (by
        refine iincV X7.here hexec rfl 1 (hb hbytes d32) (by decide) rfl rfl ?_
        refine iincV X7.here hexec rfl 1 (hb hbytes d35) (by decide) rfl rfl ?_
        refine iincV X7.here hexec rfl 1 (hb hbytes d38) (by decide) rfl rfl ?_
        refine XS.goto X7.here hexec rfl (pc0 := 41) rfl (hb hbytes d41) (by decide) rfl ?_
        exact Steps.refl _)
      have c10 : Steps p.tables e below (s₁.setTop (entryFrame m #[.ref b, .int (Int32.ofNat o), .ref d, .int (Int32.ofNat q), .int (Int32.ofNat len)] 7)) (T7.setTop (mkF m 3 #[.val (.ref b), .val (.int (Int32.ofNat (o + (i + 1)))), .val (.ref d), .val (.int (Int32.ofNat (q + (i + 1)))), .val (.int (Int32.ofNat len)), .val (.int (Int32.ofNat (i + 1))), .val (.int (cv A (o + i)))] [])) := by
        have := c9
        rw [succ32, succ32, succ32] at this
        exact this
      exact ih (i + 1) (by omega) _ (Or.inr ⟨_, rfl, rfl⟩) T7 _ (by rw [copyLocs_step, ← List.append_assoc]; exact X7) (pl.trans p7) (fl.step (by omega) hlt (by simp)) c10
  obtain ⟨T9, B9, z9, X9, p9, f9, g9⟩ := loop len 0 (by omega) .unset (Or.inl rfl) s₁ B (by simpa [copyLocs] using X0) ⟨hB0.1, fun _ _ => rfl, rfl⟩ (Laid.zero _ _ _) c2
  have c11 : Steps p.tables e below (s₁.setTop (entryFrame m #[.ref b, .int (Int32.ofNat o), .ref d, .int (Int32.ofNat q), .int (Int32.ofNat len)] 7)) (T9.setTop (mkF m 46 #[.val (.ref b), .val (.int (Int32.ofNat (o + len))), .val (.ref d), .val (.int (Int32.ofNat (q + len))), .val (.int (Int32.ofNat len)), .val (.int (Int32.ofNat len)), z9] [.int (Int32.ofNat len)])) := g9.trans (by
    refine XS.iload X9.here hexec rfl (hb hbytes d3) rfl ?_
    refine XS.iload X9.here hexec rfl (hb hbytes d5) rfl ?_
    refine XS.icmpYes X9.here hexec rfl (pc0 := 7) rfl (hb hbytes d7) rfl (ii_ge_t (nlt32 (by omega) (Nat.le_refl _))) (by decide) rfl ?_
    refine XS.iload X9.here hexec rfl (hb hbytes d44) rfl ?_
    exact Steps.refl _)
  exact ⟨T9, some (.int (Int32.ofNat len)), _, _, _, X9, by simp, rfl, rfl, (fun h => by cases h), ⟨rfl, B9, p9.from hh0, f9⟩, fun fs hl => c11.trans (X9.ireturnOut hexec hret rfl (Or.inl rfl) (hb hbytes d46) hl)⟩
end Cmp5
namespace Cmp3
def yN : MethodName := ⟨"java/lang/StringUTF16", "compress", "([CII)[B"⟩
abbrev yB : ByteArray := jdk_52_method_16_code
theorem d0 : decode yB 0 = .ok (.iload_n 2, 1) := by decide +kernel
theorem d1 : decode yB 1 = .ok (.newarray .byte, 2) := by decide +kernel
theorem d3 : decode yB 3 = .ok (.astore_n 3, 1) := by decide +kernel
theorem d4 : decode yB 4 = .ok (.aload_n 0, 1) := by decide +kernel
theorem d5 : decode yB 5 = .ok (.iload_n 1, 1) := by decide +kernel
theorem d6 : decode yB 6 = .ok (.aload_n 3, 1) := by decide +kernel
theorem d7 : decode yB 7 = .ok (.iconst 0, 1) := by decide +kernel
theorem d8 : decode yB 8 = .ok (.iload_n 2, 1) := by decide +kernel
theorem d9 : decode yB 9 = .ok (.invokestatic 115, 3) := by decide +kernel
theorem d12 : decode yB 12 = .ok (.istore 4, 2) := by decide +kernel
theorem d14 : decode yB 14 = .ok (.iload 4, 2) := by decide +kernel
theorem d16 : decode yB 16 = .ok (.iload_n 2, 1) := by decide +kernel
theorem d17 : decode yB 17 = .ok (.if_icmp (.eq) 40, 3) := by decide +kernel
theorem d57 : decode yB 57 = .ok (.aload_n 3, 1) := by decide +kernel
theorem d58 : decode yB 58 = .ok (.areturn, 1) := by decide +kernel
def site : List Cond := [.arrayClass .byte, Cmp5.tab] ++ staticW U16 115 Cmp5.yN
def tab : Cond := tabOf yN yB 6 (some (.array .byte)) site
def P (b : Addr) (A : Cell) (o len : Nat) (args : Array Value) (s : State) : Prop := args = #[.ref b, .int (Int32.ofNat o), .int (Int32.ofNat len)] ∧ Ch b A s ∧ o + len ≤ A.slots.size ∧ len ≤ 536870912 ∧ ∀ i, i < len → ¬ 255 < cv A (o + i)
def E (b : Addr) (A : Cell) (o len : Nat) (r : Option Value) (s u : State) : Prop := NewArr .byte "[B" len (fun j => .int (lo8 (cv A (o + j)))) r s u ∧ u.heap.size = s.heap.size + 1
/-- no char of the range above 255: a new byte[] of their low bytes -/
theorem law (l : Launch) (b : Addr) (A : Cell) (o len : Nat) : Law l yN 3 3 1 18 yB 6 (some (.array .byte)) site (P b A o len) (E b A o len) [] 1 len := by
  refine Law.of_walk (plainFor_of_name (by decide +kernel)) (by decide +kernel) (by decide +kernel) (by decide) (fun _ _ h => by rw [h.1]; rfl) (fun _ U U' hal hh h => ⟨h.1, h.2.1.mv hal hh, h.2.2⟩) (fun r U U' V V' h1 hal h2 h => ⟨NewArr.mv r U U' V V' h1 hal h2 h.1, by rw [h1, h2]; exact h.2⟩) ?_
  intro p e s m args below meth c s₁ X0 hexec hbytes hml hret hlk hnm hown hh0 W hP
  obtain ⟨rfl, hA, l1, l2, hp⟩ := hP
  have a31 := hA.1.2.2.2
  have c1 : Steps p.tables e below (s₁.setTop (entryFrame m #[.ref b, .int (Int32.ofNat o), .int (Int32.ofNat len)] 6)) (s₁.setTop (mkF m 0 #[.val (.ref b), .val (.int (Int32.ofNat o)), .val (.int (Int32.ofNat len)), .unset, .unset, .unset] [])) := entry rfl
  have c2 : Steps p.tables e below (s₁.setTop (entryFrame m #[.ref b, .int (Int32.ofNat o), .int (Int32.ofNat len)] 6)) (s₁.setTop (mkF m 1 #[.val (.ref b), .val (.int (Int32.ofNat o)), .val (.int (Int32.ofNat len)), .unset, .unset, .unset] [.int (Int32.ofNat len)])) := c1.trans (by
    refine XS.iloadN X0.here hexec rfl (hb hbytes d0) rfl ?_
    exact Steps.refl _)
  obtain ⟨T3, B3, X3, ba3, bs3, bv3, bh3, bf3, st3⟩ := X0.anew hexec (atype := .byte) (wk W (.arrayClass .byte)) rfl (by show len * 1 ≤ _; omega) (by omega) (g := (mkF m 1 #[.val (.ref b), .val (.int (Int32.ofNat o)), .val (.int (Int32.ofNat len)), .unset, .unset, .unset] [.int (Int32.ofNat len)])) rfl (hb hbytes d1) (rest := []) rfl (Nat.le_refl _) (by show 0 + len ≤ len; omega)
  rw [hh0] at ba3 st3
  have kp3 : XT.Kept s T3 := (XT.Kept.of_eq hh0).push bh3
  have hA3 := hA.keep X3.warmed.alike (kp3 _ _ hA.1.1)
  have hne : b ≠ s.heap.size := hA.1.ne
  have c4 : Steps p.tables e below (s₁.setTop (entryFrame m #[.ref b, .int (Int32.ofNat o), .int (Int32.ofNat len)] 6)) (T3.setTop (mkF m 3 #[.val (.ref b), .val (.int (Int32.ofNat o)), .val (.int (Int32.ofNat len)), .unset, .unset, .unset] [.ref s.heap.size])) := c2.trans (st3 _ (Steps.refl _))
  have c5 : Steps p.tables e below (s₁.setTop (entryFrame m #[.ref b, .int (Int32.ofNat o), .int (Int32.ofNat len)] 6)) (T3.setTop (mkF m 9 #[.val (.ref b), .val (.int (Int32.ofNat o)), .val (.int (Int32.ofNat len)), .val (.ref s.heap.size), .unset, .unset] [.int (Int32.ofNat len), .int 0, .ref s.heap.size, .int (Int32.ofNat o), .ref b])) := c4.trans (by
    refine XS.astoreN X3.here hexec rfl (hb hbytes d3) rfl rfl rfl ?_
    refine XS.aloadN X3.here hexec rfl (hb hbytes d4) rfl rfl ?_
    refine XS.iloadN X3.here hexec rfl (hb hbytes d5) rfl ?_
    refine XS.aloadN X3.here hexec rfl (hb hbytes d6) rfl rfl ?_
    refine iconstV X3.here hexec rfl 0 (hb hbytes d7) (by decide) ?_
    refine XS.iloadN X3.here hexec rfl (hb hbytes d8) rfl ?_
    exact Steps.refl _)
  obtain ⟨v6, T6, X6, E6, g6⟩ := X3.callS hexec (Cmp5.law l b A s.heap.size B3 o 0 len) hown (wks W (staticW U16 115 Cmp5.yN)) (wk W Cmp5.tab) (W := 0) (Nat.le_of_ble_eq_true rfl) (Nat.le_of_ble_eq_true rfl) (Nat.le_refl _) (by show 0 + len + 0 ≤ len; omega) (g := (mkF m 9 #[.val (.ref b), .val (.int (Int32.ofNat o)), .val (.int (Int32.ofNat len)), .val (.ref s.heap.size), .unset, .unset] [.int (Int32.ofNat len), .int (Int32.ofNat 0), .ref s.heap.size, .int (Int32.ofNat o), .ref b])) rfl (by rw [hml]; rfl) c5 (argsL := [.ref b, .int (Int32.ofNat o), .ref s.heap.size, .int (Int32.ofNat 0), .int (Int32.ofNat len)]) (rest := []) rfl rfl (by show 2 * 0 + 0 ≤ _; decide) (hb hbytes d9) (⟨rfl, hA3, ba3, hne, l1, by rw [bs3]; simp, hp⟩)
  obtain ⟨rfl, B6, p6, f6⟩ := E6
  have c7 : Steps p.tables e below (s₁.setTop (entryFrame m #[.ref b, .int (Int32.ofNat o), .int (Int32.ofNat len)] 6)) (T6.setTop (mkF m 12 #[.val (.ref b), .val (.int (Int32.ofNat o)), .val (.int (Int32.ofNat len)), .val (.ref s.heap.size), .unset, .unset] [.int (Int32.ofNat len)])) := g6
  have c8 : Steps p.tables e below (s₁.setTop (entryFrame m #[.ref b, .int (Int32.ofNat o), .int (Int32.ofNat len)] 6)) (T6.setTop (mkF m 58 #[.val (.ref b), .val (.int (Int32.ofNat o)), .val (.int (Int32.ofNat len)), .val (.ref s.heap.size), .val (.int (Int32.ofNat len)), .unset] [.ref s.heap.size])) := c7.trans (by
    refine XS.istore X6.here hexec rfl (hb hbytes d12) rfl rfl ?_
    refine XS.iload X6.here hexec rfl (hb hbytes d14) rfl ?_
    refine XS.iloadN X6.here hexec rfl (hb hbytes d16) rfl ?_
    refine XS.icmpYes X6.here hexec rfl (pc0 := 17) rfl (hb hbytes d17) rfl (ii_eq_t rfl) (by decide) rfl ?_
    refine XS.aloadN X6.here hexec rfl (hb hbytes d57) rfl rfl ?_
    exact Steps.refl _)
  have X8 := X6.wide (L' := []) (cells' := 1) (slots' := len) (fun x hx hlt => by
    simp only [List.nil_append, copyLocs, List.mem_map, List.mem_range] at hx
    obtain ⟨i, -, rfl⟩ := hx
    exact absurd hlt (Nat.lt_irrefl _)) (Nat.le_refl _) (by omega)
  exact ⟨T6, some (.ref s.heap.size), _, _, _, X8, rfl, rfl, rfl, (fun h => by cases h), ⟨⟨rfl, B6, ba3.like (X3.warmed.alike.symm.trans X6.warmed.alike) p6.1 f6.1 f6.2.1 f6.2.2.1, f6.2.1.trans bv3, by rw [X6.warmed.alike.findClass, f6.1]; exact bf3, by rw [f6.2.2.1, bs3]; simp, fun j hj => by rw [f6.2.2.2 j, if_pos (by omega)]; rfl, kp3.put p6 (Nat.le_refl _)⟩, by rw [p6.2.2, bh3, hh0]; simp⟩, fun fs hl => c8.trans (X8.areturnOut hexec rfl hret rfl (hb hbytes d58) hl)⟩
end Cmp3
namespace CodL
def yN : MethodName := ⟨"java/lang/StringUTF16", "coderFromArrayLen", "([BI)B"⟩
abbrev yB : ByteArray := jdk_52_method_15_code
theorem d0 : decode yB 0 = .ok (.iload_n 1, 1) := by decide +kernel
theorem d1 : decode yB 1 = .ok (.aload_n 0, 1) := by decide +kernel
theorem d2 : decode yB 2 = .ok (.arraylength, 1) := by decide +kernel
theorem d3 : decode yB 3 = .ok (.isub, 1) := by decide +kernel
theorem d4 : decode yB 4 = .ok (.bipush 31, 2) := by decide +kernel
theorem d6 : decode yB 6 = .ok (.iushr, 1) := by decide +kernel
theorem d7 : decode yB 7 = .ok (.i2b, 1) := by decide +kernel
theorem d8 : decode yB 8 = .ok (.ireturn, 1) := by decide +kernel
def site : List Cond := []
def tab : Cond := tabOf yN yB 2 (some .byte) site
def P (d : Addr) (B : Cell) (args : Array Value) (s : State) : Prop := args = #[.ref d, .int (Int32.ofNat B.slots.size)] ∧ Arr .byte d B s
def E (r : Option Value) (s u : State) : Prop := XT.PureE (some (.int 0)) r s u
/-- an array as long as the number of chars: LATIN1 -/
theorem law (l : Launch) (d : Addr) (B : Cell) : Law l yN 2 2 0 0 yB 2 (some .byte) site (P d B) E [] 0 0 := by
  refine Law.of_walk (plainFor_of_name (by decide +kernel)) (by decide +kernel) (by decide +kernel) (by decide) (fun _ _ h => by rw [h.1]; rfl) (fun _ U U' hal hh h => ⟨h.1, h.2.mv hal hh⟩) (fun r U U' V V' h1 hal h2 h => XT.PureE.mv r U U' V V' h1 hal h2 h) ?_
  intro p e s m args below meth c s₁ X0 hexec hbytes hml hret hlk hnm hown hh0 W hP
  obtain ⟨rfl, hB⟩ := hP
  have hB0 := hB.mv X0.warmed.alike hh0
  have c1 : Steps p.tables e below (s₁.setTop (entryFrame m #[.ref d, .int (Int32.ofNat B.slots.size)] 2)) (s₁.setTop (mkF m 0 #[.val (.ref d), .val (.int (Int32.ofNat B.slots.size))] [])) := entry rfl
  have c2 : Steps p.tables e below (s₁.setTop (entryFrame m #[.ref d, .int (Int32.ofNat B.slots.size)] 2)) (s₁.setTop (mkF m 2 #[.val (.ref d), .val (.int (Int32.ofNat B.slots.size))] [.ref d, .int (Int32.ofNat B.slots.size)])) := c1.trans (by
    refine XS.iloadN X0.here hexec rfl (hb hbytes d0) rfl ?_
    refine XS.aloadN X0.here hexec rfl (hb hbytes d1) rfl rfl ?_
    exact Steps.refl _)
  have c3 : Steps p.tables e below (s₁.setTop (entryFrame m #[.ref d, .int (Int32.ofNat B.slots.size)] 2)) (s₁.setTop (mkF m 8 #[.val (.ref d), .val (.int (Int32.ofNat B.slots.size))] [.int (lo8 (ushr (Int32.ofNat B.slots.size - Int32.ofNat B.slots.size) 31))])) := c2.trans (by
    refine X0.alen hexec hB0 rfl rfl (hb hbytes d2) ?_
    refine XS.isub X0.here hexec rfl (hb hbytes d3) rfl ?_
    refine bipushV X0.here hexec rfl 31 (hb hbytes d4) (by decide) ?_
    refine iushr X0.here hexec rfl (hb hbytes d6) rfl ?_
    refine i2b X0.here hexec rfl (hb hbytes d7) rfl ?_
    exact Steps.refl _)
  have e0 : lo8 (ushr (Int32.ofNat B.slots.size - Int32.ofNat B.slots.size) 31) = 0 := by rw [Int32.sub_self]; decide
  rw [e0] at c3
  exact ⟨s₁, some (.int 0), _, _, _, X0, rfl, rfl, rfl, (fun h => by cases h), ⟨rfl, hh0⟩, fun fs hl => c3.trans (X0.ireturnOut hexec hret rfl (Or.inr (Or.inr (Or.inl rfl))) (hb hbytes d8) hl)⟩
end CodL
/-- the String at a is Latin-1 over a new byte[] (the heap's one new cell): the low bytes of the len chars of A from o on; every cell but a is kept -/
def Got (a : Addr) (D : Cell) (fV fC : Field) (A : Cell) (o len : Nat) (r : Option Value) (s u : State) : Prop := r = none ∧ ∃ D' V : Cell, Blank "java/lang/String" a D' u ∧ Same D D' [fV.slot, fC.slot] ∧ D'.slots[fV.slot]? = some (.ref s.heap.size) ∧ D'.slots[fC.slot]? = some (.int 0) ∧ Arr .byte s.heap.size V u ∧ V.vm = .none ∧ u.vm.findClass "[B" = some V.cls ∧ V.slots.size = len ∧ (∀ j, j < len → V.slots[j]? = some (.int (lo8 (cv A (o + j))))) ∧ (∀ (y : Addr) (c : Cell), y ≠ a → s.heap[y]? = some c → u.heap[y]? = some c) ∧ u.heap.size = s.heap.size + 1
theorem Got.mv {a : Addr} {D A : Cell} {fV fC : Field} {o len : Nat} : ∀ r (U U' V V' : State), U'.heap = U.heap → V.vm.Alike V'.vm → V'.heap = V.heap → Got a D fV fC A o len r U V → Got a D fV fC A o len r U' V' :=
  fun r U U' V V' h1 hal h2 ⟨e0, D', X, a1, a2, a3, a4, a5, a6, a7, a8, a9, a10, a11⟩ => ⟨e0, D', X, a1.mv hal h2, a2, by rw [h1]; exact a3, a4, by rw [h1]; exact a5.mv hal h2, a6, by rw [hal.findClass]; exact a7, a8, a9, by rw [h1, h2]; exact a10, by rw [h1, h2]; exact a11⟩
namespace New4
def yN : MethodName := ⟨"java/lang/String", "<init>", "([CIILjava/lang/Void;)V"⟩
abbrev yB : ByteArray := jdk_42_method_149_code
theorem d0 : decode yB 0 = .ok (.aload_n 0, 1) := by decide +kernel
theorem d1 : decode yB 1 = .ok (.invokespecial 1, 3) := by decide +kernel
theorem d4 : decode yB 4 = .ok (.iload_n 3, 1) := by decide +kernel
theorem d5 : decode yB 5 = .ok (.ifCond (.ne) 22, 3) := by decide +kernel
theorem d27 : decode yB 27 = .ok (.getstatic 38, 3) := by decide +kernel
theorem d30 : decode yB 30 = .ok (.ifCond (.eq) 28, 3) := by decide +kernel
theorem d33 : decode yB 33 = .ok (.aload_n 1, 1) := by decide +kernel
theorem d34 : decode yB 34 = .ok (.iload_n 2, 1) := by decide +kernel
theorem d35 : decode yB 35 = .ok (.iload_n 3, 1) := by decide +kernel
theorem d36 : decode yB 36 = .ok (.invokestatic 177, 3) := by decide +kernel
theorem d39 : decode yB 39 = .ok (.astore 5, 2) := by decide +kernel
theorem d41 : decode yB 41 = .ok (.aload_n 0, 1) := by decide +kernel
theorem d42 : decode yB 42 = .ok (.aload 5, 2) := by decide +kernel
theorem d44 : decode yB 44 = .ok (.iload_n 3, 1) := by decide +kernel
theorem d45 : decode yB 45 = .ok (.invokestatic 47, 3) := by decide +kernel
theorem d48 : decode yB 48 = .ok (.putfield 15, 3) := by decide +kernel
theorem d51 : decode yB 51 = .ok (.aload_n 0, 1) := by decide +kernel
theorem d52 : decode yB 52 = .ok (.aload 5, 2) := by decide +kernel
theorem d54 : decode yB 54 = .ok (.putfield 9, 3) := by decide +kernel
theorem d57 : decode yB 57 = .ok (.return_, 1) := by decide +kernel
def site : List Cond := [.fieldLink "java/lang/String" 38 "java/lang/String" "COMPACT_STRINGS" "Z", Cmp3.tab, CodL.tab, .laysFinal "java/lang/String" "java/lang/String" "value" "[B", .fieldLink "java/lang/String" 9 "java/lang/String" "value" "[B", .laysFinal "java/lang/String" "java/lang/String" "coder" "B", .fieldLink "java/lang/String" 15 "java/lang/String" "coder" "B"] ++ objW "java/lang/String" 1 ++ staticW "java/lang/String" 177 Cmp3.yN ++ staticW "java/lang/String" 47 CodL.yN
def tab : Cond := tabOf yN yB 6 none site
def P (a : Addr) (D : Cell) (fV fC : Field) (b : Addr) (A : Cell) (z : Int32) (o len : Nat) (args : Array Value) (s : State) : Prop := args = #[.ref a, .ref b, .int (Int32.ofNat o), .int (Int32.ofNat len), .null] ∧ Blank "java/lang/String" a D s ∧ Found "java/lang/String" "value" "[B" fV s ∧ Found "java/lang/String" "coder" "B" fC s ∧ Ch b A s ∧ StaticIs s "java/lang/String" "COMPACT_STRINGS" "Z" (.int z) ∧ ¬ z = 0 ∧ 0 < len ∧ o + len ≤ A.slots.size ∧ len ≤ 536870912 ∧ ∀ i, i < len → ¬ 255 < cv A (o + i)
def E (a : Addr) (D : Cell) (fV fC : Field) (A : Cell) (o len : Nat) (r : Option Value) (s u : State) : Prop := Got a D fV fC A o len r s u
/-- len > 0, no char of the range above 255: a Latin-1 String of their low bytes -/
theorem law (l : Launch) (a : Addr) (D : Cell) (fV fC : Field) (b : Addr) (A : Cell) (z : Int32) (o len : Nat) : Law l yN 5 4 2 35 yB 6 none site (P a D fV fC b A z o len) (E a D fV fC A o len) [⟨a, fC.slot⟩, ⟨a, fV.slot⟩] 1 len := by
  refine Law.of_walk (plainFor_of_name (by decide +kernel)) (by decide +kernel) (by decide +kernel) (by decide) (fun _ _ h => by rw [h.1]; rfl) (fun _ U U' hal hh h => ⟨h.1, h.2.1.mv hal hh, h.2.2.1.al hal, h.2.2.2.1.al hal, h.2.2.2.2.1.mv hal hh, h.2.2.2.2.2.1.there hal hh, h.2.2.2.2.2.2⟩) (fun r U U' V V' h1 hal h2 h => Got.mv r U U' V V' h1 hal h2 h) ?_
  intro p e s m args below meth c s₁ X0 hexec hbytes hml hret hlk hnm hown hh0 W hP
  obtain ⟨rfl, hB, f1, f2, hA, s1, hz, l0, l1, l2, hp⟩ := hP
  have a31 := hA.1.2.2.2
  have c1 : Steps p.tables e below (s₁.setTop (entryFrame m #[.ref a, .ref b, .int (Int32.ofNat o), .int (Int32.ofNat len), .null] 6)) (s₁.setTop (mkF m 0 #[.val (.ref a), .val (.ref b), .val (.int (Int32.ofNat o)), .val (.int (Int32.ofNat len)), .val .null, .unset] [])) := entry rfl
  have c2 : Steps p.tables e below (s₁.setTop (entryFrame m #[.ref a, .ref b, .int (Int32.ofNat o), .int (Int32.ofNat len), .null] 6)) (s₁.setTop (mkF m 1 #[.val (.ref a), .val (.ref b), .val (.int (Int32.ofNat o)), .val (.int (Int32.ofNat len)), .val .null, .unset] [.ref a])) := c1.trans (by
    refine XS.aloadN X0.here hexec rfl (hb hbytes d0) rfl rfl ?_
    exact Steps.refl _)
  obtain ⟨T3, X3, q3, st3⟩ := X0.oinit hexec hown (wks W (objW "java/lang/String" 1)) (g := (mkF m 1 #[.val (.ref a), .val (.ref b), .val (.int (Int32.ofNat o)), .val (.int (Int32.ofNat len)), .val .null, .unset] [.ref a])) rfl (by rw [hml]; rfl) (rest := []) rfl (hb hbytes d1) (W := 0) (by show 2 * 0 + 0 ≤ _; decide) (Nat.le_of_ble_eq_true rfl) (Nat.le_of_ble_eq_true rfl)
  have hh3 := q3.trans hh0
  have c4 : Steps p.tables e below (s₁.setTop (entryFrame m #[.ref a, .ref b, .int (Int32.ofNat o), .int (Int32.ofNat len), .null] 6)) (T3.setTop (mkF m 27 #[.val (.ref a), .val (.ref b), .val (.int (Int32.ofNat o)), .val (.int (Int32.ofNat len)), .val .null, .unset] [])) := (c2.trans (st3 _ (Steps.refl _))).trans (by
    refine XS.iloadN X3.here hexec rfl (hb hbytes d4) rfl ?_
    refine XS.ifYes X3.here hexec rfl (pc0 := 5) rfl (hb hbytes d5) rfl (i0_ne_t (nz32 (by omega) l0)) (by decide) rfl ?_
    exact Steps.refl _)
  obtain ⟨T5, X5, q5, st5⟩ := X3.sget hexec hown (wk W (.fieldLink "java/lang/String" 38 "java/lang/String" "COMPACT_STRINGS" "Z")) s1 (fun _ _ h => by rw [hh3]; exact h) (g := (mkF m 27 #[.val (.ref a), .val (.ref b), .val (.int (Int32.ofNat o)), .val (.int (Int32.ofNat len)), .val .null, .unset] [])) rfl (hb hbytes d27)
  have hh5 := q5.trans hh3
  have c6 : Steps p.tables e below (s₁.setTop (entryFrame m #[.ref a, .ref b, .int (Int32.ofNat o), .int (Int32.ofNat len), .null] 6)) (T5.setTop (mkF m 30 #[.val (.ref a), .val (.ref b), .val (.int (Int32.ofNat o)), .val (.int (Int32.ofNat len)), .val .null, .unset] [.int z])) := c4.trans (st5 _ (Steps.refl _))
  have c7 : Steps p.tables e below (s₁.setTop (entryFrame m #[.ref a, .ref b, .int (Int32.ofNat o), .int (Int32.ofNat len), .null] 6)) (T5.setTop (mkF m 36 #[.val (.ref a), .val (.ref b), .val (.int (Int32.ofNat o)), .val (.int (Int32.ofNat len)), .val .null, .unset] [.int (Int32.ofNat len), .int (Int32.ofNat o), .ref b])) := c6.trans (by
    refine XS.ifNo X5.here hexec rfl (hb hbytes d30) rfl (i0_eq_f hz) ?_
    refine XS.aloadN X5.here hexec rfl (hb hbytes d33) rfl rfl ?_
    refine XS.iloadN X5.here hexec rfl (hb hbytes d34) rfl ?_
    refine XS.iloadN X5.here hexec rfl (hb hbytes d35) rfl ?_
    exact Steps.refl _)
  obtain ⟨v8, T8, X8, E8, g8⟩ := X5.callS hexec (Cmp3.law l b A o len) hown (wks W (staticW "java/lang/String" 177 Cmp3.yN)) (wk W Cmp3.tab) (W := 0) (Nat.le_of_ble_eq_true rfl) (Nat.le_of_ble_eq_true rfl) (Nat.le_refl _) (by show 0 + len ≤ len; omega) (g := (mkF m 36 #[.val (.ref a), .val (.ref b), .val (.int (Int32.ofNat o)), .val (.int (Int32.ofNat len)), .val .null, .unset] [.int (Int32.ofNat len), .int (Int32.ofNat o), .ref b])) rfl (by rw [hml]; rfl) c7 (argsL := [.ref b, .int (Int32.ofNat o), .int (Int32.ofNat len)]) (rest := []) rfl rfl (by show 2 * 0 + 0 ≤ _; decide) (hb hbytes d36) (⟨rfl, hA.mv X5.warmed.alike hh5, l1, l2, hp⟩)
  obtain ⟨e8, z8⟩ := E8
  obtain ⟨rfl, N, n1, n2, n3, n4, n5, n6⟩ := NewArr.mv _ T5 s _ _ hh5.symm (Vm.Alike.refl _) rfl e8
  rw [hh5] at z8
  have hB1 := hB.keep X8.warmed.alike (n6 _ _ hB.1)
  have hne : s.heap.size ≠ a := (Nat.ne_of_lt (Array.getElem?_eq_some_iff.mp hB.1).1).symm
  have c9 : Steps p.tables e below (s₁.setTop (entryFrame m #[.ref a, .ref b, .int (Int32.ofNat o), .int (Int32.ofNat len), .null] 6)) (T8.setTop (mkF m 39 #[.val (.ref a), .val (.ref b), .val (.int (Int32.ofNat o)), .val (.int (Int32.ofNat len)), .val .null, .unset] [.ref s.heap.size])) := g8
  have c10 : Steps p.tables e below (s₁.setTop (entryFrame m #[.ref a, .ref b, .int (Int32.ofNat o), .int (Int32.ofNat len), .null] 6)) (T8.setTop (mkF m 45 #[.val (.ref a), .val (.ref b), .val (.int (Int32.ofNat o)), .val (.int (Int32.ofNat len)), .val .null, .val (.ref s.heap.size)] [.int (Int32.ofNat N.slots.size), .ref s.heap.size, .ref a])) := by
    have hc : Steps p.tables e below (s₁.setTop (entryFrame m #[.ref a, .ref b, .int (Int32.ofNat o), .int (Int32.ofNat len), .null] 6)) (T8.setTop (mkF m 45 #[.val (.ref a), .val (.ref b), .val (.int (Int32.ofNat o)), .val (.int (Int32.ofNat len)), .val .null, .val (.ref s.heap.size)] [.int (Int32.ofNat len), .ref s.heap.size, .ref a])) := c9.trans (by
      refine XS.astore X8.here hexec rfl (hb hbytes d39) rfl rfl rfl ?_
      refine XS.aloadN X8.here hexec rfl (hb hbytes d41) rfl rfl ?_
      refine XS.aload X8.here hexec rfl (hb hbytes d42) rfl rfl ?_
      refine XS.iloadN X8.here hexec rfl (hb hbytes d44) rfl ?_
      exact Steps.refl _)
    rw [n4]; exact hc
  obtain ⟨v11, T11, X11, E11, g11⟩ := X8.callS hexec (CodL.law l s.heap.size N) hown (wks W (staticW "java/lang/String" 47 CodL.yN)) (wk W CodL.tab) (W := 1) (Nat.le_of_ble_eq_true rfl) (Nat.le_of_ble_eq_true rfl) (Nat.le_refl _) (by show 0 + len + 0 ≤ len; omega) (g := (mkF m 45 #[.val (.ref a), .val (.ref b), .val (.int (Int32.ofNat o)), .val (.int (Int32.ofNat len)), .val .null, .val (.ref s.heap.size)] [.int (Int32.ofNat N.slots.size), .ref s.heap.size, .ref a])) rfl (by rw [hml]; rfl) c10 (argsL := [.ref s.heap.size, .int (Int32.ofNat N.slots.size)]) (rest := [.ref a]) rfl rfl (by show 2 * 0 + (1 + 0) ≤ _; decide) (hb hbytes d45) (⟨rfl, n1⟩)
  obtain ⟨rfl, q11⟩ := E11
  have hB11 := hB1.mv (X8.warmed.alike.symm.trans X11.warmed.alike) q11
  have c12 : Steps p.tables e below (s₁.setTop (entryFrame m #[.ref a, .ref b, .int (Int32.ofNat o), .int (Int32.ofNat len), .null] 6)) (T11.setTop (mkF m 48 #[.val (.ref a), .val (.ref b), .val (.int (Int32.ofNat o)), .val (.int (Int32.ofNat len)), .val .null, .val (.ref s.heap.size)] [.int 0, .ref a])) := g11
  obtain ⟨T13, X13, p13, bl13, sl13, st13⟩ := X11.finit hexec hown (wk W (.fieldLink "java/lang/String" 15 "java/lang/String" "coder" "B")) (Or.inr ⟨_, (wk W (.laysFinal "java/lang/String" "java/lang/String" "coder" "B"))⟩) (Or.inl ⟨rfl, hnm⟩) f2 (Or.inl rfl) hB11 (t := .byte) (by decide +kernel) rfl (g := (mkF m 48 #[.val (.ref a), .val (.ref b), .val (.int (Int32.ofNat o)), .val (.int (Int32.ofNat len)), .val .null, .val (.ref s.heap.size)] [.int 0, .ref a])) rfl (rest := []) rfl (hb hbytes d48)
  have c14 : Steps p.tables e below (s₁.setTop (entryFrame m #[.ref a, .ref b, .int (Int32.ofNat o), .int (Int32.ofNat len), .null] 6)) (T13.setTop (mkF m 54 #[.val (.ref a), .val (.ref b), .val (.int (Int32.ofNat o)), .val (.int (Int32.ofNat len)), .val .null, .val (.ref s.heap.size)] [.ref s.heap.size, .ref a])) := (c12.trans (st13 _ (Steps.refl _))).trans (by
    refine XS.aloadN X13.here hexec rfl (hb hbytes d51) rfl rfl ?_
    refine XS.aload X13.here hexec rfl (hb hbytes d52) rfl rfl ?_
    exact Steps.refl _)
  obtain ⟨T15, X15, p15, bl15, sl15, st15⟩ := X13.finit hexec hown (wk W (.fieldLink "java/lang/String" 9 "java/lang/String" "value" "[B")) (Or.inr ⟨_, (wk W (.laysFinal "java/lang/String" "java/lang/String" "value" "[B"))⟩) (Or.inl ⟨rfl, hnm⟩) f1 (Or.inl rfl) bl13 (t := (.array .byte)) (by decide +kernel) rfl (g := (mkF m 54 #[.val (.ref a), .val (.ref b), .val (.int (Int32.ofNat o)), .val (.int (Int32.ofNat len)), .val .null, .val (.ref s.heap.size)] [.ref s.heap.size, .ref a])) rfl (rest := []) rfl (hb hbytes d54)
  have c16 : Steps p.tables e below (s₁.setTop (entryFrame m #[.ref a, .ref b, .int (Int32.ofNat o), .int (Int32.ofNat len), .null] 6)) (T15.setTop (mkF m 57 #[.val (.ref a), .val (.ref b), .val (.int (Int32.ofNat o)), .val (.int (Int32.ofNat len)), .val .null, .val (.ref s.heap.size)] [])) := c14.trans (st15 _ (Steps.refl _))
  have ap := apart (Or.inr ⟨_, (wk W (.laysFinal "java/lang/String" "java/lang/String" "value" "[B"))⟩) (Or.inr ⟨_, (wk W (.laysFinal "java/lang/String" "java/lang/String" "coder" "B"))⟩) f1 f2 (t₁ := .array .byte) (t₂ := .byte) (by decide +kernel) (by decide +kernel) (by decide)
  have al := X8.warmed.alike.symm.trans X15.warmed.alike
  have n7 : T11.heap[s.heap.size]? = some N := by rw [q11]; exact n1.1
  exact ⟨T15, none, _, _, _, X15, by simp, rfl, by omega, (fun _ => rfl), ⟨rfl, _, N, bl15, ((Same.refl D _).set _ (by simp)).set _ (by simp), sl15, (Cell.slots_setSlot_ne _ ap).trans sl13, n1.keep al (p15.other hne (p13.other hne n7)), n2, by rw [al.findClass]; exact n3, n4, n5, fun y c h1 h2 => p15.other h1 (p13.other h1 (by rw [q11]; exact n6 y c h2)), by rw [p15.2.2, p13.2.2, q11]; exact z8⟩, fun fs hl => c16.trans (X15.returnOut hexec hret (hb hbytes d57) hl)⟩
end New4
namespace New1
def yN : MethodName := ⟨"java/lang/String", "<init>", "([C)V"⟩
abbrev yB : ByteArray := jdk_42_method_3_code
theorem d0 : decode yB 0 = .ok (.aload_n 0, 1) := by decide +kernel
theorem d1 : decode yB 1 = .ok (.aload_n 1, 1) := by decide +kernel
theorem d2 : decode yB 2 = .ok (.iconst 0, 1) := by decide +kernel
theorem d3 : decode yB 3 = .ok (.aload_n 1, 1) := by decide +kernel
theorem d4 : decode yB 4 = .ok (.arraylength, 1) := by decide +kernel
theorem d5 : decode yB 5 = .ok (.aconst_null, 1) := by decide +kernel
theorem d6 : decode yB 6 = .ok (.invokespecial 27, 3) := by decide +kernel
theorem d9 : decode yB 9 = .ok (.return_, 1) := by decide +kernel
def site : List Cond := [New4.tab] ++ initW "java/lang/String" 27 New4.yN
def tab : Cond := tabOf yN yB 2 none site
def P (a : Addr) (D : Cell) (fV fC : Field) (b : Addr) (A : Cell) (z : Int32) (args : Array Value) (s : State) : Prop := args = #[.ref a, .ref b] ∧ Blank "java/lang/String" a D s ∧ Found "java/lang/String" "value" "[B" fV s ∧ Found "java/lang/String" "coder" "B" fC s ∧ Ch b A s ∧ StaticIs s "java/lang/String" "COMPACT_STRINGS" "Z" (.int z) ∧ ¬ z = 0 ∧ 0 < A.slots.size ∧ A.slots.size ≤ 536870912 ∧ ∀ i, i < A.slots.size → ¬ 255 < cv A i
def E (a : Addr) (D : Cell) (fV fC : Field) (A : Cell) (r : Option Value) (s u : State) : Prop := Got a D fV fC A 0 A.slots.size r s u
/-- new String(chars), not empty, no char above 255: a Latin-1 String of their low bytes -/
theorem law (l : Launch) (a : Addr) (D : Cell) (fV fC : Field) (b : Addr) (A : Cell) (z : Int32) : Law l yN 2 1 3 52 yB 2 none site (P a D fV fC b A z) (E a D fV fC A) [⟨a, fC.slot⟩, ⟨a, fV.slot⟩] 1 A.slots.size := by
  refine Law.of_walk (plainFor_of_name (by decide +kernel)) (by decide +kernel) (by decide +kernel) (by decide) (fun _ _ h => by rw [h.1]; rfl) (fun _ U U' hal hh h => ⟨h.1, h.2.1.mv hal hh, h.2.2.1.al hal, h.2.2.2.1.al hal, h.2.2.2.2.1.mv hal hh, h.2.2.2.2.2.1.there hal hh, h.2.2.2.2.2.2⟩) (fun r U U' V V' h1 hal h2 h => Got.mv r U U' V V' h1 hal h2 h) ?_
  intro p e s m args below meth c s₁ X0 hexec hbytes hml hret hlk hnm hown hh0 W hP
  obtain ⟨rfl, hB, f1, f2, hA, s1, hz, l0, l2, hp⟩ := hP
  have c1 : Steps p.tables e below (s₁.setTop (entryFrame m #[.ref a, .ref b] 2)) (s₁.setTop (mkF m 0 #[.val (.ref a), .val (.ref b)] [])) := entry rfl
  have c2 : Steps p.tables e below (s₁.setTop (entryFrame m #[.ref a, .ref b] 2)) (s₁.setTop (mkF m 6 #[.val (.ref a), .val (.ref b)] [.null, .int (Int32.ofNat A.slots.size), .int 0, .ref b, .ref a])) := c1.trans (by
    refine XS.aloadN X0.here hexec rfl (hb hbytes d0) rfl rfl ?_
    refine XS.aloadN X0.here hexec rfl (hb hbytes d1) rfl rfl ?_
    refine iconstV X0.here hexec rfl 0 (hb hbytes d2) (by decide) ?_
    refine XS.aloadN X0.here hexec rfl (hb hbytes d3) rfl rfl ?_
    refine X0.alen hexec (hA.1.mv X0.warmed.alike hh0) rfl rfl (hb hbytes d4) ?_
    refine XS.aconstNull X0.here hexec rfl (hb hbytes d5) ?_
    exact Steps.refl _)
  obtain ⟨v3, T3, X3, E3, g3⟩ := X0.callN hexec (New4.law l a D fV fC b A z 0 A.slots.size) rfl hown (wks W (initW "java/lang/String" 27 New4.yN)) (W New4.tab (by simp only [site, List.mem_cons, List.mem_append, true_or, or_true])) (W := 0) (Nat.le_of_ble_eq_true rfl) (Nat.le_of_ble_eq_true rfl) (Nat.le_refl _) (by show 0 + A.slots.size ≤ A.slots.size; omega) (g := (mkF m 6 #[.val (.ref a), .val (.ref b)] [.null, .int (Int32.ofNat A.slots.size), .int (Int32.ofNat 0), .ref b, .ref a])) rfl (by rw [hml]; rfl) c2 (argsL := [.ref b, .int (Int32.ofNat 0), .int (Int32.ofNat A.slots.size), .null]) (rest := []) rfl rfl (by show 2 * 0 + 0 ≤ _; decide) (hb hbytes d6) (⟨rfl, hB.mv X0.warmed.alike hh0, f1.al X0.warmed.alike, f2.al X0.warmed.alike, hA.mv X0.warmed.alike hh0, s1.there X0.warmed.alike hh0, hz, l0, by omega, l2, fun i hi => by rw [Nat.zero_add]; exact hp i hi⟩)
  have e0 := Got.mv _ s₁ s _ _ hh0.symm (Vm.Alike.refl _) rfl E3
  obtain rfl := e0.1
  have c4 : Steps p.tables e below (s₁.setTop (entryFrame m #[.ref a, .ref b] 2)) (T3.setTop (mkF m 9 #[.val (.ref a), .val (.ref b)] [])) := g3
  exact ⟨T3, none, _, _, _, X3, by simp, rfl, by omega, (fun _ => rfl), e0, fun fs hl => c4.trans (X3.returnOut hexec hret (hb hbytes d9) hl)⟩
theorem pays {l : Launch} {R : Room} {p : Program} {e : Env} {below : List Frame} {s : State} {sargs : Array Value} {len W : Nat} (a : Addr) (D : Cell) (fV fC : Field) (b : Addr) (A : Cell) (z : Int32) (htab : tab.before sargs s = true) (hfr : 4 ≤ R.frames) (hlo : W + 65 ≤ R.locals) :
    Back l R p e below s sargs yN len W (fun A₁ a₁ => A₁.cells + 1 ≤ R.cells ∧ A₁.slots + A.slots.size ≤ R.slots ∧ P a D fV fC b A z a₁ A₁.U) (fun A₁ _ v₁ B₁ => E a D fV fC A v₁ A₁.U B₁.U ∧ B₁.locs = A₁.locs ++ [⟨a, fC.slot⟩, ⟨a, fV.slot⟩] ∧ B₁.cells = A₁.cells + 1 ∧ B₁.slots = A₁.slots + A.slots.size) :=
  (law l a D fV fC b A z).pays htab hfr (by omega)
end New1
end StrChars
namespace StrChars.Road
open Jvm Sem ClassFile Op Lib Jvm.Stand Jvm.Free Jvm.Free.XT
open Jvm.Lib.Cold (StaticIs)
abbrev ST : String := "java/lang/String"
/-- every table word that New1's law asks, flat -/
abbrev words : List Jvm.Cond := [.code New1.yN New1.yB 2 none, .initialized ST, .methodLink ST 27 New4.yN, .instanceMethod New4.yN,
  .code New4.yN New4.yB 6 none, .fieldLink ST 38 ST "COMPACT_STRINGS" "Z", .laysFinal ST ST "value" "[B", .fieldLink ST 9 ST "value" "[B", .laysFinal ST ST "coder" "B", .fieldLink ST 15 ST "coder" "B",
  .methodLink ST 1 Lib.objectInit, .instanceMethod Lib.objectInit, .code Lib.objectInit ⟨#[0xb1]⟩ 1 none, .methodLink ST 177 Cmp3.yN, .static Cmp3.yN, .methodLink ST 47 CodL.yN, .static CodL.yN,
  .code Cmp3.yN Cmp3.yB 6 (some (.array .byte)), .initialized U16, .arrayClass .byte, .methodLink U16 115 Cmp5.yN, .static Cmp5.yN, .code Cmp5.yN Cmp5.yB 7 (some .int), .code CodL.yN CodL.yB 2 (some .byte)]
theorem tab_of {a : Array Value} {s : State} (h : ∀ w ∈ words, w.before a s = true) : New1.tab.before a s = true := by
  have h5 : Cmp5.tab.before a s = true := unparts (wk h (.code Cmp5.yN Cmp5.yB 7 (some .int))) (wks h (.initialized Cmp5.yN.cls :: Cmp5.site))
  have hc : CodL.tab.before a s = true := unparts (wk h (.code CodL.yN CodL.yB 2 (some .byte))) (wks h (.initialized CodL.yN.cls :: CodL.site))
  have q5 : ∀ w ∈ Cmp5.tab :: words, w.before a s = true := fun w hw => (List.mem_cons.mp hw).elim (fun e => e ▸ h5) (h w)
  have h3 : Cmp3.tab.before a s = true := unparts (wk q5 (.code Cmp3.yN Cmp3.yB 6 (some (.array .byte)))) (wks q5 (.initialized Cmp3.yN.cls :: Cmp3.site))
  have q3 : ∀ w ∈ Cmp3.tab :: CodL.tab :: words, w.before a s = true := fun w hw => (List.mem_cons.mp hw).elim (fun e => e ▸ h3) fun hw => (List.mem_cons.mp hw).elim (fun e => e ▸ hc) (h w)
  have h4 : New4.tab.before a s = true := unparts (wk q3 (.code New4.yN New4.yB 6 none)) (wks q3 (.initialized New4.yN.cls :: New4.site))
  have q4 : ∀ w ∈ New4.tab :: words, w.before a s = true := fun w hw => (List.mem_cons.mp hw).elim (fun e => e ▸ h4) (h w)
  exact unparts (wk q4 (.code New1.yN New1.yB 2 none)) (wks q4 (.initialized New1.yN.cls :: New1.site))
/-- the words ride from the start Z to the walk's own state -/
theorem moved {Z s : State} {a0 args : Array Value} (hZ : Z.Warmed39 s.vm) (hw : ∀ d ∈ words, d.before a0 Z = true) : ∀ d ∈ words, d.before args s = true := fun d hd => by
  have q := hw d hd
  have t : ∀ d ∈ words, d = .arrayClass .byte ∨ (d.onTables && d.keepsFace) = true := by decide +kernel
  rcases t d hd with rfl | t
  · exact RoadKit.mvA hZ q
  · exact RoadKit.mv hZ q t
/-- WHAT COMES BACK, over the tables of the start Z: h the heap at the call, h' behind it -/
def Q (Z : State) (x : Addr) (A : Cell) (h : Heap) (v : Option Value) (h' : Heap) (L : List Loc) : Prop := v = none ∧ (∀ y ∈ L, y.base = x) ∧ RoadKit.Keep h h' [x] ∧ h'.size = h.size + 1 ∧ RoadKit.Exa Z h' x ST ∧ RoadKit.Fld Z h' x ST "value" "[B" (.ref h.size) ∧ RoadKit.Fld Z h' x ST "coder" "B" (.int 0) ∧
  (∃ V : Cell, RoadKit.Arr Z h' h.size V .byte ∧ V.vm = .none ∧ Z.vm.findClass "[B" = some V.cls ∧ V.slots.size = A.slots.size ∧ ∀ j, j < A.slots.size → V.slots[j]? = some (.int (lo8 (cv A j)))) ∧
  ∀ (O n d : String) (w : Value), RoadKit.Fld Z h x O n d w → RoadKit.slotOf Z O n d ≠ RoadKit.slotOf Z ST "value" "[B" → RoadKit.slotOf Z O n d ≠ RoadKit.slotOf Z ST "coder" "B" → RoadKit.Fld Z h' x O n d w
/-- **new String(chars) AT A CALL, IN THE ROAD'S FORM**: for specialBack behind newO: x the fresh String, b the char[] with the cell A -/
theorem back {p : Program} {l : Launch} {e : Env} {R : Room} {s : State} {args : Array Value} {below : List Frame} {len W : Nat} {Z : State} {a0 : Array Value} {h : Heap} (hZ : Z.Warmed39 s.vm) (hw : ∀ d ∈ words, d.before a0 Z = true) {kI : Nat} (wi : (Jvm.Cond.instantiable ST kI).before a0 Z = true)
    {x b : Addr} {A : Cell} {z : Int32} {v0 c0 : Value} (E : RoadKit.Exa Z h x ST) (V : RoadKit.Fld Z h x ST "value" "[B" v0) (C : RoadKit.Fld Z h x ST "coder" "B" c0) (K : RoadKit.Arr Z h b A .char) (hty : Typed .char A) (S : RoadKit.Sta Z h ST "COMPACT_STRINGS" "Z" (.int z)) (hz : ¬ z = 0)
    (l0 : 0 < A.slots.size) (l2 : A.slots.size ≤ 536870912) (hp : ∀ i, i < A.slots.size → ¬ 255 < cv A i) (hfr : 4 ≤ R.frames) (hlo : W + 65 ≤ R.locals) :
    Back l R p e below s args New1.yN len W (fun P a => a = #[.ref x, .ref b] ∧ P.U.heap = h ∧ P.cells + 1 ≤ R.cells ∧ P.slots + A.slots.size ≤ R.slots)
      (fun P _ v B => ∃ L, Q Z x A h v B.U.heap L ∧ B.locs = P.locs ++ L ∧ B.cells = P.cells + 1 ∧ B.slots = P.slots + A.slots.size) := by
  intro m meth c P g ig mk a X hg hsize hdg hW hn hp'
  obtain ⟨rfl, rfl, r1, r2⟩ := hp'
  have al : Z.vm.Alike P.U.vm := hZ.alike.trans X.warmed.alike
  obtain ⟨D, cfV, kV, iV, fV, hD, gV, stV, knV, obV, asV, slV⟩ := id V
  obtain ⟨D', cfC, kC, iC, fC, hD', gC, stC, -, -, asC, slC⟩ := id C
  cases hD.symm.trans hD'
  obtain ⟨D2, kD, e1, e2, e3, e4, e5⟩ := id E
  cases hD.symm.trans e1
  obtain ⟨c2, k2, i1, i2, i3, -⟩ := Cond.instantiable_spec wi
  cases e2.symm.trans i1
  cases e3.symm.trans i2
  obtain ⟨kU, u1, u2⟩ := al.2.2 _ _ e3
  have hB : Blank ST x D P.U := ⟨hD, ⟨knV, fun q hq => by rw [hq] at obV; cases obV⟩, by rw [al.findClass]; exact e2, kU, u1, by rw [u2]; exact i3, by rw [u2]; exact e5 i3⟩
  have F1 : Found ST "value" "[B" fV P.U := ⟨SBG.found_only al ⟨cfV, kV, iV, gV⟩, stV⟩
  have F2 : Found ST "coder" "B" fC P.U := ⟨SBG.found_only al ⟨cfC, kC, iC, gC⟩, stC⟩
  have hA : Ch b A P.U := ⟨⟨K.1, State.isArrayOf_alike al K.2.1, K.2.2, by omega⟩, hty⟩
  have hS : StaticIs P.U ST "COMPACT_STRINGS" "Z" (.int z) := by
    obtain ⟨cfS, iS, kS, fS, st, cS, t1, t2, t3, t4, t5, t6, t7⟩ := S
    exact StaticIs.there (s := { Z with heap := P.U.heap }) ⟨cfS, iS, kS, fS, st, cS, t1, t2, t3, t4, t5, (fun q => by rw [q] at t6; cases t6), t7⟩ al rfl
  obtain ⟨v, B, X', ⟨⟨hv, E', V', q1, q2, q3, q4, q5, q6, q7, q8, q9, q10, q11⟩, hl, hc, hs⟩, st⟩ := New1.pays x D fV fC b A z (tab_of (moved hZ hw)) hfr hlo m meth c P g ig mk _ X hg hsize hdg hW hn ⟨r1, r2, rfl, hB, F1, F2, hA, hS, hz, l0, l2, hp⟩
  have al' : Z.vm.Alike B.U.vm := hZ.alike.trans X'.warmed.alike
  have hsz : E'.slots.size = D.slots.size := by
    obtain ⟨-, -, -, kB, w1, w2, w3⟩ := q1
    obtain ⟨kB', y1, y2⟩ := al'.2.2 _ _ e3
    rw [q2.2.1] at w1
    cases w1.symm.trans y1
    rw [w3, e5 i3, y2]
  refine ⟨v, B, X', ⟨_, ⟨hv, ?_, ⟨by omega, fun y cy hy hn' => q10 y cy (by simpa using hn') hy, fun y cy hy => ?_⟩, q11, ⟨E', _, q1.1, by rw [q2.2.1]; exact e2, by rw [q2.2.1]; exact e3, by rw [q2.1]; exact obV, fun _ => by rw [hsz]; exact e5 i3⟩,
    ⟨E', cfV, kV, iV, fV, q1.1, gV, stV, by rw [q2.1]; exact knV, by rw [q2.1]; exact obV, by rw [q2.2.1]; exact asV, q3⟩, ⟨E', cfC, kC, iC, fC, q1.1, gC, stC, by rw [q2.1]; exact knV, by rw [q2.1]; exact obV, by rw [q2.2.1]; exact asC, q4⟩,
    ⟨V', ⟨q5.1, State.isArrayOf_alike al'.symm q5.2.1, q5.2.2.1⟩, q6, by rw [← al'.findClass]; exact q7, q8, fun j hj => by have := q9 j hj; rwa [Nat.zero_add] at this⟩, fun O n d w F n1 n2 => ?_⟩, hl, hc, hs⟩, st⟩
  · intro y hy
    simp only [List.mem_cons, List.not_mem_nil, or_false] at hy
    rcases hy with rfl | rfl <;> rfl
  · by_cases q : y = x
    · subst q
      cases hD.symm.trans hy
      exact ⟨E', q1.1, q2.2.1, q2.1, hsz⟩
    · exact ⟨cy, q10 y cy q hy, rfl, rfl, rfl⟩
  · obtain ⟨D3, cf, k, i, f, g1, g2, g3, g4, g5, g6, g7⟩ := F
    cases hD.symm.trans g1
    simp only [RoadKit.slotOf, g2, gV, gC, Option.map_some, Option.getD_some] at n1 n2
    exact ⟨E', cf, k, i, f, q1.1, g2, g3, by rw [q2.1]; exact g4, by rw [q2.1]; exact g5, by rw [q2.2.1]; exact g6, by rw [q2.2.2 f.slot (by simp [n1, n2])]; exact g7⟩
end StrChars.Road
namespace StrChars.Road
open Jvm Sem ClassFile Op Lib Jvm.Stand Jvm.Free Jvm.Free.XT
/-- WHAT COMES BACK, the byte[] as a list of values -/
def QA (Z : State) (x : Addr) (zn : Int32) (cs : List Int32) (h : Heap) (v : Option Value) (h' : Heap) (L : List Loc) : Prop := v = none ∧ (∀ y ∈ L, y.base = x) ∧ RoadKit.Keep h h' [x] ∧ h'.size = h.size + 1 ∧ RoadKit.Exa Z h' x ST ∧ RoadKit.Fld Z h' x ST "value" "[B" (.ref h.size) ∧ RoadKit.Fld Z h' x ST "coder" "B" (.int 0) ∧
  (∃ kb, Z.vm.findClass "[B" = some kb ∧ RoadKit.Arv Z h' h.size kb .byte zn (cs.map fun c => .int (lo8 c)) (.int 0)) ∧
  ∀ (O n d : String) (w : Value), RoadKit.Fld Z h x O n d w → RoadKit.slotOf Z O n d ≠ RoadKit.slotOf Z ST "value" "[B" → RoadKit.slotOf Z O n d ≠ RoadKit.slotOf Z ST "coder" "B" → RoadKit.Fld Z h' x O n d w
/-- **new String(chars) AT A CALL, THE ARRAYS AS LISTS**: the char[] at b holds cs, not empty, no char above 255 -/
theorem backArv {p : Program} {l : Launch} {e : Env} {R : Room} {s : State} {args : Array Value} {below : List Frame} {len W : Nat} {Z : State} {a0 : Array Value} {h : Heap} (hZ : Z.Warmed39 s.vm) (hw : ∀ d ∈ words, d.before a0 Z = true) {kI : Nat} (wi : (Jvm.Cond.instantiable ST kI).before a0 Z = true)
    {x b : Addr} {k : ClassId} {zn z : Int32} {cs : List Int32} {dv v0 c0 : Value} (E : RoadKit.Exa Z h x ST) (V : RoadKit.Fld Z h x ST "value" "[B" v0) (C : RoadKit.Fld Z h x ST "coder" "B" c0) (K : RoadKit.Arv Z h b k .char zn (cs.map Value.int) dv) (S : RoadKit.Sta Z h ST "COMPACT_STRINGS" "Z" (.int z)) (hz : ¬ z = 0)
    (hlen : zn.toNatClampNeg = cs.length) (h0 : 0 < cs.length) (hbig : cs.length ≤ 536870912) (hall : ∀ c ∈ cs, ¬ 255 < c) (hfr : 4 ≤ R.frames) (hlo : W + 65 ≤ R.locals) :
    Back l R p e below s args New1.yN len W (fun P a => a = #[.ref x, .ref b] ∧ P.U.heap = h ∧ P.cells + 1 ≤ R.cells ∧ P.slots + cs.length ≤ R.slots)
      (fun P _ v B => ∃ L, QA Z x zn cs h v B.U.heap L ∧ B.locs = P.locs ++ L ∧ B.cells = P.cells + 1 ∧ B.slots = P.slots + cs.length) := by
  obtain ⟨A, K1, K2, K3, K4, K5, K6⟩ := K
  have e : A.slots.size = cs.length := K3.trans hlen
  have hat : ∀ (i : Nat) (hi : i < cs.length), A.slots[i]? = some (.int cs[i]) := fun i hi => by rw [K5 i (by omega)]; simp [List.getD_eq_getElem?_getD, hi]
  have hcv : ∀ (i : Nat) (hi : i < cs.length), cv A i = cs[i] := fun i hi => by unfold cv; rw [hat i hi]
  have hty : Typed .char A := fun i v hv => by
    have hi : i < A.slots.size := (Array.getElem?_eq_some_iff.mp hv).1
    have q := K5 i hi
    rw [hv] at q
    rw [Option.some.inj q]
    exact K6 i hi
  refine Back.mono (back hZ hw wi E V C K1 hty S hz (by omega) (by omega) (fun i hi => by rw [hcv i (by omega)]; exact hall _ (List.getElem_mem _)) hfr hlo) (fun P a hp => ⟨hp.1, hp.2.1, hp.2.2.1, by rw [e]; exact hp.2.2.2⟩) (fun P a v B hp hq => ?_)
  obtain ⟨L, ⟨q1, q2, q3, q4, q5, q6, q7, ⟨V', v1, v2, v3, v4, v5⟩, q9⟩, hl, hc, hs⟩ := hq
  refine ⟨L, ⟨q1, q2, q3, q4, q5, q6, q7, ⟨V'.cls, v3, V', v1, rfl, by rw [v4, e, hlen], K4, fun i hi => ?_, fun i hi => ?_⟩, q9⟩, hl, hc, by rw [hs, e]⟩
  · have hi' : i < cs.length := by omega
    rw [v5 i (by omega), hcv i hi']; simp [List.getD_eq_getElem?_getD, hi']
  · have hi' : i < cs.length := by omega
    simp only [List.getD_eq_getElem?_getD, List.getElem?_map, List.getElem?_eq_getElem hi', Option.map_some, Option.getD_some]
    exact fits_lo8 _
end StrChars.Road
namespace StrChars.Road
open Jvm Sem ClassFile Op Lib Jvm.Stand Jvm.Free Jvm.Free.XT
/-- WHAT COMES BACK, in the writer's own shape -/
def QV (Z : State) (x : Addr) (N : Int32) (bs : List Int32) (h : Heap) (n0 : Nat) (v : Option Value) (h' : Heap) (L : List Loc) : Prop := v = none ∧ RoadKit.Fr n0 L ∧ RoadKit.Keep h h' [x] ∧ RoadKit.Exa Z h' x ST ∧ RoadKit.Fld Z h' x ST "coder" "B" (.int 0) ∧
  ∃ (t : Addr) (kb : ClassId), n0 ≤ t ∧ h.size ≤ t ∧ ¬ t = x ∧ RoadKit.Fld Z h' x ST "value" "[B" (.ref t) ∧ RoadKit.Arv Z h' t kb .byte N (bs.map Value.int) (.int 0)
/-- **new String(chars) AT A CALL, FOR THE WRITER**: a char[] of n known ints, each 0 to 255 -/
theorem backV {p : Program} {l : Launch} {e : Env} {R : Room} {s : State} {args : Array Value} {below : List Frame} {len W : Nat} {Z : State} {a0 : Array Value} {h : Heap} (hZ : Z.Warmed39 s.vm) (hw : ∀ d ∈ words, d.before a0 Z = true) {kI : Nat} (wi : (Jvm.Cond.instantiable ST kI).before a0 Z = true)
    {x b : Addr} {kC : ClassId} {cs bs : List Int32} {d v0 c0 : Value} {z N : Int32} {n n0 : Nat} (hx0 : n0 ≤ x) (hh0 : n0 ≤ h.size) (E : RoadKit.Exa Z h x ST) (V : RoadKit.Fld Z h x ST "value" "[B" v0) (C : RoadKit.Fld Z h x ST "coder" "B" c0) (K : RoadKit.Arv Z h b kC .char N (cs.map Value.int) d) (S : RoadKit.Sta Z h ST "COMPACT_STRINGS" "Z" (.int z)) (hz : ¬ z = 0)
    (hn : cs.length = n) (hN : N = Int32.ofNat n) (l0 : 0 < n) (l2 : n ≤ 4000) (hp : ∀ c ∈ cs, ¬ c < 0 ∧ ¬ (255 : Int32) < c) (hb : bs = cs.map (fun c => c.toInt8.toInt32)) (hfr : 4 ≤ R.frames) (hlo : W + 65 ≤ R.locals) :
    Back l R p e below s args (⟨"java/lang/String", "<init>", "([C)V"⟩ : MethodName) len W (fun P a => a = #[.ref x, .ref b] ∧ P.U.heap = h ∧ P.cells + 1 ≤ R.cells ∧ P.slots + n ≤ R.slots)
      (fun P _ v B => ∃ L, QV Z x N bs h n0 v B.U.heap L ∧ B.locs = P.locs ++ L ∧ B.cells = P.cells + 1 ∧ B.slots = P.slots + n) := by
  subst hn hN hb
  refine Back.mono (backArv hZ hw wi E V C K S hz (n32 (by omega)) l0 (by omega) (fun c hc => (hp c hc).2) hfr hlo) (fun P a hp => hp) (fun P a v B hp hq => ?_)
  obtain ⟨L, ⟨q1, q2, q3, q4, q5, q6, q7, ⟨kb, v1, v2⟩, q9⟩, hl, hc, hs⟩ := hq
  exact ⟨L, ⟨q1, fun y hy => by rw [q2 y hy]; exact hx0, q3, q5, q7, h.size, kb, hh0, Nat.le_refl _, Nat.ne_of_gt E.lt, q6, by rw [List.map_map]; exact v2⟩, hl, hc, hs⟩
end StrChars.Road
end Jvm.Pilot.@@N@@
namespace Jvm.Pilot.@@N@@
open Jvm Jvm.ClassFile Sem Op Lib Jvm.Free Jvm.Stand Jvm.LawKit Jvm.RoadKit Bundle Jvm.Pilot.@@N@@.Jvm.D
theorem wd {Z : State} {a0 : Array Value} (hw : ∀ d ∈ tables_1, d.before a0 Z = true) (i : Nat) {d : Jvm.Cond} (h : tables_1[i]? = some d) : d.before a0 Z = true := hw _ (List.mem_of_getElem? h)
section OwnGo
/-- from this frame the run ends, and leaves what Q says -/
def Go (p : Program) (e : Env) (below : List Frame) (s : State) (k n : Nat) (Q : Option Value → Heap → List Loc → Prop) (m : MethodId) (T : State) (pc : Nat) (L : Array Slot) (S : List Value) : Prop :=
  ∃ s₂ o, Steps p.tables e below (T.setTop (mkF m pc L S)) s₂ ∧ s₂.status = .running ∧ Ended s₂ below o ∧ ∃ v Ls, o = .returned v ∧ Q v s₂.heap Ls ∧ FrameEnd s o s₂ Ls k n
variable {p : Program} {l : Launch} {e : Env} {R : Room} {s : State} {m : MethodId} {args : Array Value} {below : List Frame} {meth : Method} {c : Code} {T T' : State} {locs : List Loc} {cells slots k n : Nat} {Z : State} {h : Heap} {Q : Option Value → Heap → List Loc → Prop} {pc pc' : Nat} {L L' : Array Slot} {S S' : List Value}
theorem Go.st (h : ∀ t, Steps p.tables e below (T'.setTop (mkF m pc' L' S')) t → Steps p.tables e below (T.setTop (mkF m pc L S)) t) (g : Go p e below s k n Q m T' pc' L' S') : Go p e below s k n Q m T pc L S := by
  obtain ⟨a, b, c, d⟩ := g; exact ⟨a, b, h _ c, d⟩
theorem Go.tr (h : Steps p.tables e below (T.setTop (mkF m pc L S)) (T'.setTop (mkF m pc' L' S'))) (g : Go p e below s k n Q m T' pc' L' S') : Go p e below s k n Q m T pc L S := Go.st (fun _ q => h.trans q) g
theorem Go.retV (X : Stand p l e R s m args below meth c T locs cells slots) (hx : p.tables.exec = Jvm.exec) (hlk : meth.locks = false) (hret : meth.sig.returnType = none) (hd : decode c.code pc = .ok (.return_, 1)) (hk : cells ≤ k) (hn : slots ≤ n) (hq : Q none T.heap locs) : Go p e below s k n Q m T pc L [] := by
  obtain ⟨fs, hr, hrun, hended, hW, hsame⟩ := X.leave (v := none) (fun _ => rfl) hlk
  exact ⟨_, _, X.returnOut hx hret hd hr, hrun, hended, _, _, rfl, hq, ⟨_, rfl⟩, hW, hsame.mono hk hn⟩
theorem Go.retN (X : Stand p l e R s m args below meth c T locs cells slots) (hx : p.tables.exec = Jvm.exec) (hlk : meth.locks = false) {t : FieldType} {z : Int32} {rest : List Value} (hret : meth.sig.returnType = some t) (ht : t = .boolean ∨ t = .byte ∨ t = .char ∨ t = .short) (hd : decode c.code pc = .ok (.ireturn, 1)) (hk : cells ≤ k) (hn : slots ≤ n) (hq : Q (some (.int (nar t z))) T.heap locs) : Go p e below s k n Q m T pc L (.int z :: rest) := by
  obtain ⟨fs, hr, hrun, hended, hW, hsame⟩ := X.leave (v := some (.int (nar t z))) (fun h => by rw [hret] at h; cases h) hlk
  exact ⟨_, _, Jvm.RoadKit.retN X hx hret ht hd hr, hrun, hended, _, _, rfl, hq, ⟨_, rfl⟩, hW, hsame.mono hk hn⟩
theorem Go.retO (X : Stand p l e R s m args below meth c T locs cells slots) (hx : p.tables.exec = Jvm.exec) (hlk : meth.locks = false) {t : FieldType} {w : Value} {i : Instr} {rest : List Value} (hret : meth.sig.returnType = some t) (hw : narrow t w = w) (hi : (i = .ireturn ∧ (t = .int ∨ t = .boolean ∨ t = .byte ∨ t = .char ∨ t = .short) ∧ ∃ z, w = .int z) ∨ (i = .lreturn ∧ t = .long ∧ ∃ z, w = .long z) ∨ (i = .dreturn ∧ t = .double ∧ ∃ z, w = .double z) ∨ (i = .freturn ∧ t = .float ∧ ∃ z, w = .float z) ∨ (i = .areturn ∧ t.isReference = true ∧ w.isRef = true)) (hd : decode c.code pc = .ok (i, 1)) (hk : cells ≤ k) (hn : slots ≤ n) (hq : Q (some w) T.heap locs) : Go p e below s k n Q m T pc L (w :: rest) := by
  obtain ⟨fs, hr, hrun, hended, hW, hsame⟩ := X.leave (v := some w) (fun h => by rw [hret] at h; cases h) hlk
  exact ⟨_, _, retOut X hx hret hw hi hd hr, hrun, hended, _, _, rfl, hq, ⟨_, rfl⟩, hW, hsame.mono hk hn⟩
theorem Stand.up (X : Stand p l e R s m args below meth c T locs cells slots) (hk : cells ≤ k) (hn : slots ≤ n) : Stand p l e R s m args below meth c T locs k n :=
  ⟨X.admits, X.cas, X.clock, X.frames, X.room, X.hears, X.method, X.code, X.here, X.tail, X.warmed, X.limits, X.bytes, X.same.mono hk hn⟩
theorem own_len (X : Stand p l e R s m args below meth c T locs cells slots) (hx : p.tables.exec = Jvm.exec) (hZ : Z.Warmed39 s.vm) (eT : T.heap = h) {a : Addr} {cl : Cell} {ty : FieldType} {z : Int32} (A : Arr Z h a cl ty) (S : cl.slots.size = z.toNatClampNeg) (q : ¬ z < 0) {g : JFrame} (hg : g.method = m) {rest : List Value} (hs : g.stack = .ref a :: rest) (hd : decode c.code g.pc = .ok (.arraylength, 1)) (t : State)
    (k : Steps p.tables e below (T.setTop { g with pc := g.pc + 1, stack := .int z :: rest }) t) : Steps p.tables e below (T.setTop g) t := by
  refine X.arraylength hx (by rw [eT]; exact A.1) (State.isArrayOf_alike hZ.alike A.2.1) (g := g) hg hs hd _ ?_
  rw [len_of S q]; exact k
theorem own_met {l : Launch} {y : MethodName} {bytes : ByteArray} {maxL : Nat} {ret : Option FieldType} {ws : List Jvm.Cond} {rm : Room} {A : Array Value} {Z : State} {h0 : Heap} {Q : Option Value → Heap → List Loc → Prop} {L0 : Array Slot} {K N : Nat} (hpl : plainFor y = true) (hef : ∀ m, entryFrame m A maxL = mkF m 0 L0 [])
    (body : ∀ (p : Program) (e : Env) (s : State) (m : MethodId) (below : List Frame) (meth : Method) (c : Code) (s₁ : State), Stand p l e rm s m A below meth c s₁ [] 0 0 → p.tables.exec = Jvm.exec → c.code = bytes → c.maxLocals = maxL → s.vm.findClass y.cls = some m.cls → meth.name = y.name → meth.sig.returnType = ret → meth.locks = false → Z.Warmed39 s.vm → s₁.heap = h0 → Go p e below s K N Q m s₁ 0 L0 []) :
    MetFree l y (head1 (Jvm.Cond.code y bytes maxL ret :: ws) rm) (fun a U => a = A ∧ Z.Warmed39 U.vm ∧ U.heap = h0) (fun _ _ _ _ _ => True) (fun _ U o U' => ∃ v L, o = .returned v ∧ Q v U'.heap L ∧ FrameEnd U o U' L K N) := by
  refine MetFree.of_bodySF hpl hisR ?_
  intro p e s m args below meth c s₁ Bd hml0 hP hK
  obtain ⟨rfl, hZ, hh⟩ := hP
  obtain ⟨s₂, o, h1, h2⟩ := body p e s m below meth c s₁ (Stand.of_body Bd) Bd.exec Bd.bytes hml0 (findClass_of_methodNamed Bd.named) (name_of_methodNamed Bd.named Bd.method).1 Bd.returns Bd.notSynchronized hZ (by rw [← hh, Bd.state]; rfl)
  exact ⟨s₂, o, castTop (hef m) h1, h2⟩
end OwnGo
theorem own_and255 (x : Int32) : ¬ nar .char ((x &&& (255 : Int32)).toUInt32.toUInt16.toUInt32.toInt32) < 0 ∧ ¬ (255 : Int32) < nar .char ((x &&& (255 : Int32)).toUInt32.toUInt16.toUInt32.toInt32) := by
  have e1 : nar .char ((x &&& (255 : Int32)).toUInt32.toUInt16.toUInt32.toInt32) = x &&& 255 := by simp only [nar, i2c_mask]
  rw [e1]
  have h := c_mask x 255 8 (by decide) (by decide)
  have e0 : (0 : Int32).toInt = 0 := rfl
  have e2 : (255 : Int32).toInt = 255 := rfl
  simp only [Int32.lt_iff_toInt_lt, h, e0, e2]
  omega
theorem own_c255 (x : Int32) : ¬ (x &&& (255 : Int32)).toUInt32.toUInt16.toUInt32.toInt32 < 0 ∧ ¬ (255 : Int32) < (x &&& (255 : Int32)).toUInt32.toUInt16.toUInt32.toInt32 := by
  rw [i2c_mask]
  have h := c_mask x 255 8 (by decide) (by decide)
  have e0 : (0 : Int32).toInt = 0 := rfl
  have e2 : (255 : Int32).toInt = 255 := rfl
  simp only [Int32.lt_iff_toInt_lt, h, e0, e2]
  omega
theorem own_neArv {Z : State} {h : Heap} {a b : Addr} {k k' : ClassId} {ty ty' : FieldType} {z z' : Int32} {vs vs' : List Value} {d d' : Value} (A : Arv Z h a k ty z vs d) (B : Arv Z h b k' ty' z' vs' d') (hz : z.toNatClampNeg ≠ z'.toNatClampNeg) : a ≠ b := fun e => by
  subst e
  obtain ⟨c, A1, -, A2, -⟩ := A
  obtain ⟨c', B1, -, B2, -⟩ := B
  cases A1.1.symm.trans B1.1
  exact hz (A2.symm.trans B2)
theorem own_oneF {Z : State} {h : Heap} {a : Addr} {C n d : String} {v w : Value} (F : Fld Z h a C n d v) (G : Fld Z h a C n d w) : v = w := by
  obtain ⟨c1, _, _, _, _, h1, h2, -, -, -, -, h7⟩ := F
  obtain ⟨c2, _, _, _, _, g1, g2, -, -, -, -, g7⟩ := G
  cases h1.symm.trans g1; cases h2.symm.trans g2; exact Option.some.inj (h7.symm.trans g7)
section OwnGoH
/-- as Go, where String constants may be loaded: the wide frame, and the invariant of the constants held -/
def GoH (Z : State) (EL : List (String × Nat)) (p : Program) (e : Env) (below : List Frame) (s : State) (k n : Nat) (Q : Option Value → Heap → List Loc → Prop) (m : MethodId) (T : State) (pc : Nat) (L : Array Slot) (S : List Value) : Prop :=
  ∃ s₂ o, Steps p.tables e below (T.setTop (mkF m pc L S)) s₂ ∧ s₂.status = .running ∧ Ended s₂ below o ∧ ∃ v Ls, o = .returned v ∧ Q v s₂.heap Ls ∧ CHr Z EL s.vm s.heap s₂.vm s₂.heap ∧ ReturnedEndW s o s₂ Ls k n
variable {p : Program} {l : Launch} {e : Env} {R : Room} {s : State} {m : MethodId} {args : Array Value} {below : List Frame} {meth : Method} {c : Code} {T T' : State} {locs : List Loc} {cells slots k n k0 : Nat} {Z : State} {a0 : Array Value} {h h0 : Heap} {vm0 : Vm} {EL : List (String × Nat)} {Q : Option Value → Heap → List Loc → Prop} {pc pc' : Nat} {L L' : Array Slot} {S S' : List Value}
theorem GoH.st (h : ∀ t, Steps p.tables e below (T'.setTop (mkF m pc' L' S')) t → Steps p.tables e below (T.setTop (mkF m pc L S)) t) (g : GoH Z EL p e below s k n Q m T' pc' L' S') : GoH Z EL p e below s k n Q m T pc L S := by
  obtain ⟨a, b, c, d⟩ := g; exact ⟨a, b, h _ c, d⟩
theorem GoH.tr (h : Steps p.tables e below (T.setTop (mkF m pc L S)) (T'.setTop (mkF m pc' L' S'))) (g : GoH Z EL p e below s k n Q m T' pc' L' S') : GoH Z EL p e below s k n Q m T pc L S := GoH.st (fun _ q => h.trans q) g
theorem own_upW {s t : State} {o : Outcome} {L : List Loc} {k n k' n' : Nat} (h : ReturnedEndW s o t L k n) (hk : k ≤ k') (hn : n ≤ n') : ReturnedEndW s o t L k' n' := ⟨h.1, h.2.1, h.2.2.1, h.2.2.2.mono hk hn⟩
theorem own_chr (X : Stand p l e R (s.setVm vm0) m args below meth c T locs cells slots) (eT : T.heap = h) (hs0 : s.heap = h0) (hZ : Z.Warmed39 vm0) (hEL : EW Z a0 EL) (CR : CHr Z EL s.vm h0 vm0 h) : CHr Z EL s.vm s.heap T.vm T.heap := by
  rw [eT, hs0]; exact CR.trans (CHv.at X hZ hEL CR.1)
theorem GoH.retV (X : Stand p l e R (s.setVm vm0) m args below meth c T locs cells slots) (hx : p.tables.exec = Jvm.exec) (hlk : meth.locks = false) (hret : meth.sig.returnType = none) (hd : decode c.code pc = .ok (.return_, 1)) (hk : cells ≤ k) (hn : slots ≤ n) (hS : s.Since vm0 k0) (hk0 : k0 ≤ h.size) (eT : T.heap = h) (hs0 : s.heap = h0) (hZ : Z.Warmed39 vm0) (hEL : EW Z a0 EL) (CR : CHr Z EL s.vm h0 vm0 h) (hq : Q none T.heap locs) : GoH Z EL p e below s k n Q m T pc L [] := by
  obtain ⟨fs, hr, hrun, hended, hW⟩ := X.leaveW hS (by rw [eT]; exact hk0) (v := none) (fun _ => rfl) hlk
  have hc := own_chr X eT hs0 hZ hEL CR
  exact ⟨_, _, X.returnOut hx hret hd hr, hrun, hended, _, _, rfl, hq, hc, own_upW hW hk hn⟩
theorem GoH.retN (X : Stand p l e R (s.setVm vm0) m args below meth c T locs cells slots) (hx : p.tables.exec = Jvm.exec) (hlk : meth.locks = false) {t : FieldType} {z : Int32} {rest : List Value} (hret : meth.sig.returnType = some t) (ht : t = .boolean ∨ t = .byte ∨ t = .char ∨ t = .short) (hd : decode c.code pc = .ok (.ireturn, 1)) (hk : cells ≤ k) (hn : slots ≤ n) (hS : s.Since vm0 k0) (hk0 : k0 ≤ h.size) (eT : T.heap = h) (hs0 : s.heap = h0) (hZ : Z.Warmed39 vm0) (hEL : EW Z a0 EL) (CR : CHr Z EL s.vm h0 vm0 h) (hq : Q (some (.int (nar t z))) T.heap locs) : GoH Z EL p e below s k n Q m T pc L (.int z :: rest) := by
  obtain ⟨fs, hr, hrun, hended, hW⟩ := X.leaveW hS (by rw [eT]; exact hk0) (v := some (.int (nar t z))) (fun h => by rw [hret] at h; cases h) hlk
  have hc := own_chr X eT hs0 hZ hEL CR
  exact ⟨_, _, Jvm.RoadKit.retN X hx hret ht hd hr, hrun, hended, _, _, rfl, hq, hc, own_upW hW hk hn⟩
theorem GoH.retO (X : Stand p l e R (s.setVm vm0) m args below meth c T locs cells slots) (hx : p.tables.exec = Jvm.exec) (hlk : meth.locks = false) {t : FieldType} {w : Value} {i : Instr} {rest : List Value} (hret : meth.sig.returnType = some t) (hw : narrow t w = w) (hi : (i = .ireturn ∧ (t = .int ∨ t = .boolean ∨ t = .byte ∨ t = .char ∨ t = .short) ∧ ∃ z, w = .int z) ∨ (i = .lreturn ∧ t = .long ∧ ∃ z, w = .long z) ∨ (i = .dreturn ∧ t = .double ∧ ∃ z, w = .double z) ∨ (i = .freturn ∧ t = .float ∧ ∃ z, w = .float z) ∨ (i = .areturn ∧ t.isReference = true ∧ w.isRef = true)) (hd : decode c.code pc = .ok (i, 1)) (hk : cells ≤ k) (hn : slots ≤ n) (hS : s.Since vm0 k0) (hk0 : k0 ≤ h.size) (eT : T.heap = h) (hs0 : s.heap = h0) (hZ : Z.Warmed39 vm0) (hEL : EW Z a0 EL) (CR : CHr Z EL s.vm h0 vm0 h) (hq : Q (some w) T.heap locs) : GoH Z EL p e below s k n Q m T pc L (w :: rest) := by
  obtain ⟨fs, hr, hrun, hended, hW⟩ := X.leaveW hS (by rw [eT]; exact hk0) (v := some w) (fun h => by rw [hret] at h; cases h) hlk
  have hc := own_chr X eT hs0 hZ hEL CR
  exact ⟨_, _, retOut X hx hret hw hi hd hr, hrun, hended, _, _, rfl, hq, hc, own_upW hW hk hn⟩
theorem own_metH {l : Launch} {y : MethodName} {bytes : ByteArray} {maxL : Nat} {ret : Option FieldType} {ws : List Jvm.Cond} {rm : Room} {A : Array Value} {Z : State} {EL : List (String × Nat)} {h0 : Heap} {Q : Option Value → Heap → List Loc → Prop} {L0 : Array Slot} {K N : Nat} (hpl : plainFor y = true) (hef : ∀ m, entryFrame m A maxL = mkF m 0 L0 [])
    (body : ∀ (p : Program) (e : Env) (s : State) (m : MethodId) (below : List Frame) (meth : Method) (c : Code) (s₁ : State), Stand p l e rm (s.setVm s.vm) m A below meth c s₁ [] 0 0 → p.tables.exec = Jvm.exec → c.code = bytes → c.maxLocals = maxL → (s.setVm s.vm).vm.findClass y.cls = some m.cls → meth.name = y.name → meth.sig.returnType = ret → meth.locks = false → Z.Warmed39 (s.setVm s.vm).vm → s₁.heap = h0 → s.heap = h0 → CHr Z EL s.vm h0 s.vm h0 → s.Since s.vm 0 → 0 ≤ h0.size → GoH Z EL p e below s K N Q m s₁ 0 L0 []) :
    MetFree l y (head1 (Jvm.Cond.code y bytes maxL ret :: ws) rm) (fun a U => a = A ∧ Z.Warmed39 U.vm ∧ U.heap = h0 ∧ CHv Z EL U.vm h0) (fun _ _ _ _ _ => True) (fun _ U o U' => ∃ v L, o = .returned v ∧ Q v U'.heap L ∧ CHr Z EL U.vm U.heap U'.vm U'.heap ∧ ReturnedEndW U o U' L K N) := by
  refine MetFree.of_bodySF hpl hisR ?_
  intro p e s m args below meth c s₁ Bd hml0 hP hK
  obtain ⟨rfl, hZ, hh, hC⟩ := hP
  obtain ⟨s₂, o, h1, h2⟩ := body p e s m below meth c s₁ (Stand.of_body Bd) Bd.exec Bd.bytes hml0 (findClass_of_methodNamed Bd.named) (name_of_methodNamed Bd.named Bd.method).1 Bd.returns Bd.notSynchronized hZ (by rw [← hh, Bd.state]; rfl) hh (CHr.refl hC) ((State.WarmedH.refl s).since 0) (Nat.zero_le _)
  exact ⟨s₂, o, castTop (hef m) h1, h2⟩
theorem own_safeV {x : Addr} {kk : ClassId} {ty : FieldType} {z : Int32} {vs : List Value} {dv : Value} (hal : Z.vm.Alike vm0) (V : Arv Z h x kk ty z vs dv) (ht : ty ≠ .byte) : Safe Z EL vm0 h x := by
  obtain ⟨cl, A, -⟩ := V; exact Safe.arr hal A ht
theorem own_safeS {x : Addr} (hal : Z.vm.Alike vm0) (E : Exa Z h x "java/lang/String") (F : Fld Z h x "java/lang/String" "value" "[B" .null) : Safe Z EL vm0 h x := fun B => by
  obtain ⟨cell, kE, e1, e2, e3, -, -⟩ := E
  obtain ⟨cell', cf, kF, iF, f, f1, f2, f3, f4, f5, f6, f7⟩ := F
  cases e1.symm.trans f1
  obtain ⟨p, -, u, a, -, q, -, G, rfl | rfl⟩ := B
  · cases (show h[q.sa]? = some q.sC from G.ha).symm.trans e1
    obtain ⟨cS, ⟨⟨-, -, -, ⟨c1, k1, i1, g1, -⟩, -, -, -, v1, -⟩, -⟩, -⟩ := G
    obtain ⟨k3, g3, -⟩ := State.fieldFound?_setVm (s := Z) (vm' := vm0) hal f2
    have g4 := (show (Wst Z vm0 h).fieldFound? "java/lang/String" "value" "[B" = _ from g3).symm.trans g1
    simp only [Option.some.injEq, Prod.mk.injEq] at g4
    rw [← g4.2.2.2, f7] at v1
    cases v1
  · cases (show h[q.sd]? = some q.SA from G.hd).symm.trans e1
    obtain ⟨cS, -, -, g1, -⟩ := G
    have g2 : vm0.findClass "[B" = some q.SA.cls := g1
    rw [hal.findClass] at g2
    obtain ⟨k1, q1, q2⟩ := Vm.findClass_spec g2
    obtain ⟨k2, q3, q4⟩ := Vm.findClass_spec e2
    cases q1.symm.trans q3
    exact absurd (q2.symm.trans q4) (by decide)
end OwnGoH
theorem own_wS {Z : State} {a0 : Array Value} (hw : ∀ d ∈ tables_1, d.before a0 Z = true) : ∀ a ∈ Bundle.stringAtoms, a.before a0 Z = true := fun d hd => hw d ((by decide +kernel : ∀ d ∈ Bundle.stringAtoms, d ∈ tables_1) d hd)

def EL : List (String × Nat) := [("com/example/vestry/vestry/io/PaymentFormNamedPinLaw", 7), ("com/example/vestry/vestry/io/PaymentFormNamedPinLaw", 9), ("com/example/vestry/vestry/io/PaymentFormNamedPinLaw", 11), ("java/lang/String", 7)]
theorem own_EW {Z : State} {a0 : Array Value} (hw : ∀ d ∈ tables_1, d.before a0 Z = true) : EW Z a0 EL := (EW.cons (wd hw 5 rfl) (by decide) (EW.cons (wd hw 45 rfl) (by decide) (EW.cons (wd hw 46 rfl) (by decide) (EW.cons (wd hw 28 rfl) (by decide) EW.nil))))
section OwnArr
theorem own_tn {i : Nat} (h : i < 2147483648) : i.toInt32.toNatClampNeg = i := by
  simp only [Int32.toNatClampNeg, len_toInt (n := i) h]; rfl
theorem own_inb {c : Cell} {z : Int32} {i N : Nat} (S : c.slots.size = z.toNatClampNeg) (hz : z.toNatClampNeg = N) (hi : i < N) (hN : N < 2147483648) : ¬ (i.toInt32 < 0 ∨ c.slots.size ≤ i.toInt32.toNatClampNeg) := by
  rw [S, hz]; exact idx_in hi hN
theorem own_getI (M : List Int32) (i : Nat) : (M.map Value.int).getD i (.int 0) = .int (M.getD i 0) := by
  simp only [List.getD_eq_getElem?_getD, List.getElem?_map]; cases M[i]? <;> rfl
theorem own_getD (M : List UInt64) (i : Nat) : (M.map Value.double).getD i (.double 0) = .double (M.getD i 0) := by
  simp only [List.getD_eq_getElem?_getD, List.getElem?_map]; cases M[i]? <;> rfl
theorem own_atI (M : List Int32) {i : Nat} (h : i < 2147483648) : (M.map Value.int).getD i.toInt32.toNatClampNeg (.int 0) = .int (M.getD i 0) := by rw [own_tn h, own_getI]
theorem own_atD (M : List UInt64) {i : Nat} (h : i < 2147483648) : (M.map Value.double).getD i.toInt32.toNatClampNeg (.double 0) = .double (M.getD i 0) := by rw [own_tn h, own_getD]
theorem own_setI (M : List Int32) (i : Nat) (v : Int32) : (M.map Value.int).set i (.int v) = (M.set i v).map Value.int := by rw [List.map_set]
theorem own_setD (M : List UInt64) (i : Nat) (v : UInt64) : (M.map Value.double).set i (.double v) = (M.set i v).map Value.double := by rw [List.map_set]
theorem own_next {n : Nat} (h : n < 2147483647) : n.toInt32 + 1 = (n + 1).toInt32 := by
  apply Int32.toInt_inj.mp
  have h1 := c_iadd n.toInt32 1
  rw [len_toInt (n := n) (by omega)] at h1
  rw [len_toInt (n := n + 1) (by omega)]
  have h2 := rng32 (n.toInt32 + 1)
  have e1 : (1 : Int32).toInt = 1 := rfl
  omega
theorem own_inj {m n : Nat} (hm : m < 2147483648) (hn : n < 2147483648) : m.toInt32 = n.toInt32 ↔ m = n := by
  rw [← Int32.toInt_inj, len_toInt (n := m) hm, len_toInt (n := n) hn]; omega
theorem own_ltI {m n : Nat} (hm : m < 2147483648) (hn : n < 2147483648) : m.toInt32 < n.toInt32 ↔ m < n := by
  rw [Int32.lt_iff_toInt_lt, len_toInt (n := m) hm, len_toInt (n := n) hn]; omega
end OwnArr

section OwnSB
theorem own_nf {s : State} {args : Array Value} {K : String} {y z u : MethodName} (h : (Cond.selects K u z).before args s = true) (hz : z.cls = y.cls) : NotFace s y := fun r0 h0 => by
  obtain ⟨c, r, m, h1, h2, h3, h4, k, h5, h6⟩ := Cond.selects_spec h
  have hc2 := findClass_of_methodNamed h3
  rw [hz] at hc2
  have e : m.cls = r0.cls := Option.some.inj (hc2.symm.trans (findClass_of_methodNamed h0))
  exact ⟨k, e ▸ h5, h6⟩
theorem own_same {s : State} {args : Array Value} {K : String} {y z u : MethodName} (hi : (Cond.instanceMethod y).before args s = true) (hne : y.cls ≠ "java/lang/invoke/MethodHandle" ∧ y.cls ≠ "java/lang/invoke/VarHandle") (h : (Cond.selects K u z).before args s = true) (hz : z.cls = y.cls) : (Cond.sameMethod y.cls y.cls y.name y.desc).before args s = true := by
  obtain ⟨c, r, m, h1, h2, h3, h4, k, h5, h6⟩ := Cond.selects_spec h
  obtain ⟨m', meth, g1, g2, g3, g4⟩ := Cond.instanceMethod_spec hi
  have hc := findClass_of_methodNamed g1
  have hc2 := findClass_of_methodNamed h3
  rw [hz] at hc2
  have e : m.cls = m'.cls := Option.some.inj (hc2.symm.trans hc)
  have hf := State.methodFound?_of_named g1 hne
  have g1' : s.methodNamed? ⟨y.cls, y.name, y.desc⟩ = some m' := g1
  rw [e] at h5
  show (Cond.sameMethod y.cls y.cls y.name y.desc).holds _ _ _ _ _ = true
  simp only [Cond.holds, Cond.value, hc, hf, g1', h5]
  simp [h6]
theorem own_selP {s : State} {args : Array Value} {K : String} {y : MethodName} (hp : s.PrivateAt y) (hi : (Cond.instanceMethod y).before args s = true) (hne : y.cls ≠ "java/lang/invoke/MethodHandle" ∧ y.cls ≠ "java/lang/invoke/VarHandle") (h : (Cond.selects K y y).before args s = true) : (Cond.selects y.cls y y).before args s = true := by
  obtain ⟨c, r, m, h1, h2, h3, h4, k, h5, h6⟩ := Cond.selects_spec h
  obtain ⟨m', meth, g1, g2, g3, g4⟩ := Cond.instanceMethod_spec hi
  cases h3.symm.trans g1
  have hc := findClass_of_methodNamed h3
  have hf := State.methodFound?_of_named h3 hne
  cases hf.symm.trans h2
  show (Cond.selects y.cls y y).holds _ _ _ _ _ = true
  simp only [Cond.holds, Cond.value, hc, h2, h3, selectMethod_private g2 (hp _ _ h3 g2), h5]
  simp [h6]
theorem own_shr0 (x : Int32) : x >>> ((0 : Int32) &&& 31) = x := by
  rw [show (0 : Int32) &&& 31 = 0 from by decide]; exact Int32.shiftRight_zero
theorem own_shl0 (x : Int32) : x <<< ((0 : Int32) &&& 31) = x := by
  rw [show (0 : Int32) &&& 31 = 0 from by decide]; exact Int32.shiftLeft_zero
theorem own_addN {m n : Nat} (h : m + n < 2147483648) : m.toInt32 + n.toInt32 = (m + n).toInt32 := by
  apply Int32.toInt_inj.mp
  have h1 := c_iadd m.toInt32 n.toInt32
  rw [len_toInt (n := m) (by omega), len_toInt (n := n) (by omega)] at h1
  rw [len_toInt (n := m + n) (by omega)]
  have h2 := rng32 (m.toInt32 + n.toInt32)
  omega
theorem own_nnN {i : Nat} (h : i < 2147483648) : ¬ i.toInt32 < 0 := by
  rw [Int32.lt_iff_toInt_lt, len_toInt (n := i) h]; have e0 : (0 : Int32).toInt = 0 := rfl; omega
theorem own_le16f : ∀ i : Fin 17, ¬ (0 : Int32) < Nat.toInt32 i.val - (16 : Int32) := by decide
theorem own_lt16f : ∀ i : Fin 16, ¬ (Nat.toInt32 i.val = (16 : Int32)) ∧ (Nat.toInt32 i.val < (16 : Int32)) ∧ ¬ (Nat.toInt32 i.val < (0 : Int32)) ∧ (Nat.toInt32 i.val - (0 : Int32) = Nat.toInt32 i.val) := by decide
theorem own_e0 : (0 : Int32).toNatClampNeg = 0 := rfl
theorem own_e16 : (16 : Int32).toNatClampNeg = 16 := rfl
theorem own_h4 {x : Nat} : (0 : Int32).toNatClampNeg + x ≤ x := by rw [own_e0]; omega
theorem own_h4' {N : Nat} (h : N ≤ 16) : (0 : Int32).toNatClampNeg + N.toInt32.toNatClampNeg ≤ (16 : Int32).toNatClampNeg := by rw [own_e0, own_e16, own_tn (by omega)]; omega
theorem own_h5 {c n : Nat} (h : c + n ≤ 16) : c.toInt32.toNatClampNeg + n.toInt32.toNatClampNeg ≤ (16 : Int32).toNatClampNeg := by rw [own_e16, own_tn (by omega), own_tn (by omega)]; omega
theorem own_hl {ys : List Int32} {c n : Nat} (hc : ys.length = c) (h : c + n ≤ 16) : c.toInt32.toNatClampNeg + n.toInt32.toNatClampNeg ≤ (ys.map Value.int ++ List.replicate n (Value.int 0)).length := by
  rw [own_tn (by omega), own_tn (by omega)]; simp only [List.length_append, List.length_map, List.length_replicate]; omega
theorem own_rng (bs : List Int32) : (List.range bs.length).map (fun i => (bs.map Value.int).getD (0 + i) (.int 0)) = bs.map Value.int := by
  apply List.ext_getElem
  · simp
  · intro i h1 h2
    simp only [List.length_map, List.length_range] at h1
    simp [h1]
theorem own_cat {ys bs : List Int32} {c n : Nat} (hc : ys.length = c) (hn : bs.length = n) (hcn : c + n ≤ 16) :
    (ys.map Value.int ++ List.replicate n (Value.int 0)).take c.toInt32.toNatClampNeg ++ (List.range n.toInt32.toNatClampNeg).map (fun i => (bs.map Value.int).getD ((0 : Int32).toNatClampNeg + i) (.int 0)) ++ (ys.map Value.int ++ List.replicate n (Value.int 0)).drop (c.toInt32.toNatClampNeg + n.toInt32.toNatClampNeg) = (ys ++ bs).map Value.int := by
  rw [own_tn (by omega), own_tn (by omega), own_e0]
  subst hc hn
  rw [own_rng, List.take_left' (by simp), List.drop_eq_nil_of_le (by simp), List.append_nil, List.map_append]
theorem own_inbS {c : Cell} {n i : Nat} (S : c.slots.size = n.toInt32.toNatClampNeg) (hi : i < n) (hn : n < 2147483648) : ¬ (i.toInt32 < 0 ∨ c.slots.size ≤ i.toInt32.toNatClampNeg) := own_inb S (own_tn hn) hi hn
theorem own_padN {Z : State} {h : Heap} {a : Addr} {k : ClassId} {z : Int32} {ys : List Int32} (n : Nat) (A : Arv Z h a k .byte z (ys.map Value.int) (.int (0 : Int32))) : Arv Z h a k .byte z (ys.map Value.int ++ List.replicate n (Value.int 0)) (.int (0 : Int32)) := A.pad (pad_rep _ _ n)
theorem own_null {ys : List Int32} {c : Nat} (hc : ys.length = c) : ((((ys ++ [0, 0, 0, 0]).set c ((110 : Int32).toInt8.toInt32)).set (c + 1) ((117 : Int32).toInt8.toInt32)).set (c + 1 + 1) ((108 : Int32).toInt8.toInt32)).set (c + 1 + 1 + 1) ((108 : Int32).toInt8.toInt32) = ys ++ [110, 117, 108, 108] := by
  subst hc
  apply List.ext_getElem?
  intro i
  simp only [List.getElem?_set, List.length_set, List.length_append, List.length_cons, List.length_nil]
  by_cases h0 : i < ys.length
  · rw [if_neg (by omega), if_neg (by omega), if_neg (by omega), if_neg (by omega), List.getElem?_append_left h0, List.getElem?_append_left h0]
  · rw [List.getElem?_append_right (by omega), List.getElem?_append_right (by omega)]
    rcases (by omega : i = ys.length ∨ i = ys.length + 1 ∨ i = ys.length + 2 ∨ i = ys.length + 3 ∨ ys.length + 4 ≤ i) with h | h | h | h | h
    · subst h; simp [show ¬ ys.length + 1 + 1 + 1 = ys.length from by omega, show ¬ ys.length + 1 + 1 = ys.length from by omega]
    · subst h; simp [show ¬ ys.length + 1 + 1 = ys.length from by omega]
    · subst h; simp
    · subst h; simp
    · rw [if_neg (by omega), if_neg (by omega), if_neg (by omega), if_neg (by omega), List.getElem?_eq_none (by simp; omega), List.getElem?_eq_none (by simp; omega)]
def own_ch (x : Int32) : Int32 := nar .char (nar .char ((x &&& (255 : Int32)).toUInt32.toUInt16.toUInt32.toInt32))
theorem own_la {xs ys : List Int32} {m n : Nat} (h : xs.length = m) (g : ys.length = n) : (xs ++ ys).length = m + n := by rw [List.length_append, h, g]
end OwnSB
theorem d4_0 : decode jdk_42_method_149_code 0 = .ok (.aload_n 0, 1) := by decide +kernel
theorem d4_1 : decode jdk_42_method_149_code 1 = .ok (.invokespecial 1, 3) := by decide +kernel
theorem d4_4 : decode jdk_42_method_149_code 4 = .ok (.iload_n 3, 1) := by decide +kernel
theorem d4_5 : decode jdk_42_method_149_code 5 = .ok (.ifCond .ne 22, 3) := by decide +kernel
theorem d4_8 : decode jdk_42_method_149_code 8 = .ok (.aload_n 0, 1) := by decide +kernel
theorem d4_9 : decode jdk_42_method_149_code 9 = .ok (.ldc 7, 2) := by decide +kernel
theorem d4_11 : decode jdk_42_method_149_code 11 = .ok (.getfield 9, 3) := by decide +kernel
theorem d4_14 : decode jdk_42_method_149_code 14 = .ok (.putfield 9, 3) := by decide +kernel
theorem d4_17 : decode jdk_42_method_149_code 17 = .ok (.aload_n 0, 1) := by decide +kernel
theorem d4_18 : decode jdk_42_method_149_code 18 = .ok (.ldc 7, 2) := by decide +kernel
theorem d4_20 : decode jdk_42_method_149_code 20 = .ok (.getfield 15, 3) := by decide +kernel
theorem d4_23 : decode jdk_42_method_149_code 23 = .ok (.putfield 15, 3) := by decide +kernel
theorem d4_26 : decode jdk_42_method_149_code 26 = .ok (.return_, 1) := by decide +kernel
theorem pn_0 : plainName "java/lang/String" = true := by first | (simp [plainName, overriddenIn]; done) | decide +kernel
def QE149 (Z : State) (a1 : Addr) (h0 : Heap) (n0 : Nat) (v : Option Value) (h : Heap) (L : List Loc) : Prop := ∃ (t : Addr) (kb : ClassId), v = none ∧ Fr n0 L ∧ Keep h0 h [a1] ∧ Fld Z h a1 "java/lang/String" "coder" "B" (.int 0) ∧ a1 ≠ t ∧ Fld Z h a1 "java/lang/String" "value" "[B" (.ref t) ∧ Arv Z h t kb .byte (0 : Int32) [] (.int (0 : Int32))
def roomE149 : Room := { frames := 1, cells := 4, slots := 8, locals := 12 }
theorem rmE149 (l : Launch) (Z : State) (a0 : Array Value) (hw : ∀ d ∈ tables_1, d.before a0 Z = true) (ws : List Jvm.Cond) (a1 : Addr) (a2 : Addr) (h0 : Heap) (n0 : Nat) (Z0 : n0 ≤ h0.size) (E_a1 : Exa Z h0 a1 "java/lang/String") (g_a1 : n0 ≤ a1) (F_value : Fld Z h0 a1 "java/lang/String" "value" "[B" .null) (F_coder : Fld Z h0 a1 "java/lang/String" "coder" "B" (.int (0 : Int32))) :
    MetFree l (⟨"java/lang/String", "<init>", "([CIILjava/lang/Void;)V"⟩ : MethodName) (head1 (Jvm.Cond.code (⟨"java/lang/String", "<init>", "([CIILjava/lang/Void;)V"⟩ : MethodName) jdk_42_method_149_code 6 none :: ws) roomE149) (fun aa_ U_ => aa_ = #[(.ref a1), (.ref a2), (.int (0 : Int32)), (.int (0 : Int32)), .null] ∧ Z.Warmed39 U_.vm ∧ U_.heap = h0 ∧ CHv Z EL U_.vm h0) (fun _ _ _ _ _ => True) (fun _ U_ o_ W_ => ∃ v_ L_, o_ = .returned v_ ∧ (QE149 Z a1 h0 n0) v_ W_.heap L_ ∧ CHr Z EL U_.vm U_.heap W_.vm W_.heap ∧ ReturnedEndW U_ o_ W_ L_ roomE149.cells roomE149.slots) := by
  refine own_metH (Q := (QE149 Z a1 h0 n0)) (L0 := #[.val (.ref a1), .val (.ref a2), .val (.int (0 : Int32)), .val (.int (0 : Int32)), .val .null, .unset]) (plainFor_of_name pn_0) (fun m => by first | (simp [entryFrame, mkF, argsToLocals, Value.category]; done) | rfl) ?_
  intro p e s m below meth c T0 X0 hx hby hml hown hnm hret hlk hZ e0 hs0 CR hS hk
  have N0 := Fr.nil n0
  have K0 := Keep.refl h0 [a1]
  have S_a1 : Safe Z EL s.vm h0 a1 := own_safeS hZ.alike E_a1 F_value
  refine GoH.st (pc' := 1) (S' := [(.ref a1)]) (fun t_ k_ => XS.aloadN X0.here hx rfl (hb hby d4_0) rfl rfl k_) ?_
  obtain ⟨T1, X1, e1, st1⟩ := initO X0 hx hZ hown (wd hw 25 rfl) (wd hw 26 rfl) (wd hw 27 rfl) e0 (g := (mkF m 1 #[.val (.ref a1), .val (.ref a2), .val (.int (0 : Int32)), .val (.int (0 : Int32)), .val .null, .unset] [(.ref a1)])) rfl (by rw [hml]; rfl) rfl (hb hby d4_1) (by decide) (W := 0) (by show 2 * 0 + _ ≤ _; exact Nat.le_of_eq rfl) (by decide)
  refine GoH.st (pc' := 4) (S' := []) st1 ?_
  refine GoH.st (pc' := 5) (S' := [(.int (0 : Int32))]) (fun t_ k_ => XS.iloadN X1.here hx rfl (hb hby d4_4) rfl k_) ?_
  refine GoH.st (pc' := 8) (S' := []) (fun t_ k_ => XS.ifNo X1.here hx rfl (hb hby d4_5) rfl ((if0 _ _).trans (teq (by decide : ((0 : Int32) = (0 : Int32)))).2) k_) ?_
  refine GoH.st (pc' := 9) (S' := [(.ref a1)]) (fun t_ k_ => XS.aloadN X1.here hx rfl (hb hby d4_8) rfl rfl k_) ?_
  obtain ⟨a2_, T2, h2, k2, b2_, c2, X2, e2, E2, hS2, hk2, hZ2, ho2, E_a2_, Fc_a2_, Fv_a2_, V_b2_, lta2, ltb2, CR2, -, Sf2, st2⟩ := ldcCH X1 hx hZ hown (wd hw 28 rfl) (own_wS hw) e1 hS hk (own_EW hw) (by decide : ("java/lang/String", 7) ∈ EL) CR.1 (vs := []) (z := (0 : Int32)) ⟨by decide, by decide⟩ (by decide) rfl (g := (mkF m 9 #[.val (.ref a1), .val (.ref a2), .val (.int (0 : Int32)), .val (.int (0 : Int32)), .val .null, .unset] [(.ref a1)])) rfl (hb hby d4_9) (n := 0) (by decide) (by decide) (by decide) (by decide)
  replace S_a1 := CR2.safe E_a1.lt S_a1
  replace CR := CR.trans CR2
  replace Z0 := Nat.le_trans Z0 E2.1
  replace K0 := K0.ext E2
  replace E_a1 := E_a1.ext E2
  replace F_value := F_value.ext E2
  replace F_coder := F_coder.ext E2
  replace hZ := hZ2
  replace hown := ho2
  replace hS := hS2
  replace hk := hk2
  have ne_a1_a2_ := (Sf2 _ S_a1).1
  have ne_a1_b2_ := (Sf2 _ S_a1).2
  refine GoH.st (pc' := 11) (S' := [(.ref a2_), (.ref a1)]) st2 ?_
  obtain ⟨T3, X3, e3, st3⟩ := getF X2 hx hZ hown (host := "") (Or.inl (wd hw 29 rfl)) Via.refl e2 Fv_a2_ (g := (mkF m 11 #[.val (.ref a1), .val (.ref a2), .val (.int (0 : Int32)), .val (.int (0 : Int32)), .val .null, .unset] [(.ref a2_), (.ref a1)])) rfl rfl (hb hby d4_11)
  refine GoH.st (pc' := 14) (S' := [(.ref b2_), (.ref a1)]) st3 ?_
  obtain ⟨T4, h4, X4, e4, W4, st4⟩ := putF X3 hx hZ hown (host := "") (Or.inl (wd hw 29 rfl)) Via.refl e3 F_value E_a1 (Or.inr ⟨(wd hw 9 rfl), rfl, hnm⟩) (wd hw 7 rfl) (ty := (.array .byte)) (by decide) rfl rfl (g := (mkF m 14 #[.val (.ref a1), .val (.ref a2), .val (.int (0 : Int32)), .val (.int (0 : Int32)), .val .null, .unset] [(.ref b2_), (.ref a1)])) rfl rfl (hb hby d4_14)
  have Sw5 : Safe Z EL T2.vm h2 a1 := S_a1
  replace S_a1 := Safe.wr W4 Sw5 CR.1 S_a1
  replace CR := CR.trans (CHr.wr W4 Sw5 CR.1)
  replace hk := Nat.le_trans hk (Keep.of_wr W4).1
  replace Z0 := Nat.le_trans Z0 (Keep.of_wr W4).1
  replace K0 := K0.wr W4 (Or.inl (List.mem_of_getElem? (i := 0) rfl))
  replace E_a1 := E_a1.wr W4
  replace F_coder := F_coder.other W4 (Or.inr (slot_ne (Or.inr (wd hw 10 rfl)) (Or.inr (wd hw 9 rfl)) (by decide) (t := .byte) (t' := (.array .byte)) (by decide) (by decide)))
  replace E_a2_ := E_a2_.wr W4
  replace Fc_a2_ := Fc_a2_.other W4 (Or.inl (Ne.symm ne_a1_a2_))
  replace Fv_a2_ := Fv_a2_.other W4 (Or.inl (Ne.symm ne_a1_a2_))
  replace V_b2_ := V_b2_.other W4 (Ne.symm ne_a1_b2_)
  replace F_value := F_value.same W4
  have N4 := Fr.snoc X4 N0 g_a1
  refine GoH.st (pc' := 17) (S' := []) st4 ?_
  refine GoH.st (pc' := 18) (S' := [(.ref a1)]) (fun t_ k_ => XS.aloadN X4.here hx rfl (hb hby d4_17) rfl rfl k_) ?_
  obtain ⟨a6_, T6, h6, k6, b6_, c6, X6, e6, E6, hS6, hk6, hZ6, ho6, E_a6_, Fc_a6_, Fv_a6_, V_b6_, lta6, ltb6, CR6, -, Sf6, st6⟩ := ldcCH X4 hx hZ hown (wd hw 28 rfl) (own_wS hw) e4 hS hk (own_EW hw) (by decide : ("java/lang/String", 7) ∈ EL) CR.1 (vs := []) (z := (0 : Int32)) ⟨by decide, by decide⟩ (by decide) rfl (g := (mkF m 18 #[.val (.ref a1), .val (.ref a2), .val (.int (0 : Int32)), .val (.int (0 : Int32)), .val .null, .unset] [(.ref a1)])) rfl (hb hby d4_18) (n := 0) (by decide) (by decide) (by decide) (by decide)
  replace S_a1 := CR6.safe E_a1.lt S_a1
  replace CR := CR.trans CR6
  replace Z0 := Nat.le_trans Z0 E6.1
  replace K0 := K0.ext E6
  replace E_a1 := E_a1.ext E6
  replace F_value := F_value.ext E6
  replace F_coder := F_coder.ext E6
  replace E_a2_ := E_a2_.ext E6
  replace Fc_a2_ := Fc_a2_.ext E6
  replace Fv_a2_ := Fv_a2_.ext E6
  replace V_b2_ := V_b2_.ext E6
  replace hZ := hZ6
  replace hown := ho6
  replace hS := hS6
  replace hk := hk6
  have ne_a1_a6_ := (Sf6 _ S_a1).1
  have ne_a1_b6_ := (Sf6 _ S_a1).2
  refine GoH.st (pc' := 20) (S' := [(.ref a6_), (.ref a1)]) st6 ?_
  obtain ⟨T7, X7, e7, st7⟩ := getF X6 hx hZ hown (host := "") (Or.inl (wd hw 30 rfl)) Via.refl e6 Fc_a6_ (g := (mkF m 20 #[.val (.ref a1), .val (.ref a2), .val (.int (0 : Int32)), .val (.int (0 : Int32)), .val .null, .unset] [(.ref a6_), (.ref a1)])) rfl rfl (hb hby d4_20)
  refine GoH.st (pc' := 23) (S' := [(.int (0 : Int32)), (.ref a1)]) st7 ?_
  obtain ⟨T8, h8, X8, e8, W8, st8⟩ := putFN X7 hx hZ hown (wd hw 30 rfl) Via.refl e7 F_coder E_a1 (Or.inr ⟨(wd hw 10 rfl), rfl, hnm⟩) (wd hw 7 rfl) (ty := .byte) (v' := (.int (0 : Int32))) (by decide) rfl rfl (g := (mkF m 23 #[.val (.ref a1), .val (.ref a2), .val (.int (0 : Int32)), .val (.int (0 : Int32)), .val .null, .unset] [(.int (0 : Int32)), (.ref a1)])) rfl rfl (hb hby d4_23)
  have Sw9 : Safe Z EL T6.vm h6 a1 := S_a1
  replace S_a1 := Safe.wr W8 Sw9 CR.1 S_a1
  replace CR := CR.trans (CHr.wr W8 Sw9 CR.1)
  replace hk := Nat.le_trans hk (Keep.of_wr W8).1
  replace Z0 := Nat.le_trans Z0 (Keep.of_wr W8).1
  replace K0 := K0.wr W8 (Or.inl (List.mem_of_getElem? (i := 0) rfl))
  replace E_a1 := E_a1.wr W8
  replace F_value := F_value.other W8 (Or.inr (slot_ne (Or.inr (wd hw 9 rfl)) (Or.inr (wd hw 10 rfl)) (by decide) (t := (.array .byte)) (t' := .byte) (by decide) (by decide)))
  replace E_a2_ := E_a2_.wr W8
  replace Fc_a2_ := Fc_a2_.other W8 (Or.inl (Ne.symm ne_a1_a2_))
  replace Fv_a2_ := Fv_a2_.other W8 (Or.inl (Ne.symm ne_a1_a2_))
  replace V_b2_ := V_b2_.other W8 (Ne.symm ne_a1_b2_)
  replace E_a6_ := E_a6_.wr W8
  replace Fc_a6_ := Fc_a6_.other W8 (Or.inl (Ne.symm ne_a1_a6_))
  replace Fv_a6_ := Fv_a6_.other W8 (Or.inl (Ne.symm ne_a1_a6_))
  replace V_b6_ := V_b6_.other W8 (Ne.symm ne_a1_b6_)
  replace F_coder := F_coder.same W8
  have N8 := Fr.snoc X8 N4 g_a1
  refine GoH.st (pc' := 26) (S' := []) st8 ?_
  exact GoH.retV X8 hx hlk hret (hb hby d4_26) (by decide) (by decide) hS hk e8 hs0 hZ (own_EW hw) CR (by rw [e8]; exact ⟨b2_, _, rfl, N8, K0, F_coder, ne_a1_b2_, F_value, V_b2_⟩)
theorem d3_0 : decode jdk_42_method_3_code 0 = .ok (.aload_n 0, 1) := by decide +kernel
theorem d3_1 : decode jdk_42_method_3_code 1 = .ok (.aload_n 1, 1) := by decide +kernel
theorem d3_2 : decode jdk_42_method_3_code 2 = .ok (.iconst 0, 1) := by decide +kernel
theorem d3_3 : decode jdk_42_method_3_code 3 = .ok (.aload_n 1, 1) := by decide +kernel
theorem d3_4 : decode jdk_42_method_3_code 4 = .ok (.arraylength, 1) := by decide +kernel
theorem d3_5 : decode jdk_42_method_3_code 5 = .ok (.aconst_null, 1) := by decide +kernel
theorem d3_6 : decode jdk_42_method_3_code 6 = .ok (.invokespecial 27, 3) := by decide +kernel
theorem d3_9 : decode jdk_42_method_3_code 9 = .ok (.return_, 1) := by decide +kernel
theorem pd_0 : parseMethodDescriptor "([CIILjava/lang/Void;)V" = some ⟨[(.array .char), .int, .int, (.object "java/lang/Void")], none⟩ := by decide +kernel
def QE3 (Z : State) (a1 : Addr) (h0 : Heap) (n0 : Nat) (v : Option Value) (h : Heap) (L : List Loc) : Prop := ∃ (t : Addr) (kb : ClassId), v = none ∧ Fr n0 L ∧ Keep h0 h [a1] ∧ Fld Z h a1 "java/lang/String" "coder" "B" (.int 0) ∧ a1 ≠ t ∧ Fld Z h a1 "java/lang/String" "value" "[B" (.ref t) ∧ Arv Z h t kb .byte (0 : Int32) [] (.int (0 : Int32))
def roomE3 : Room := { frames := 2, cells := 4, slots := 8, locals := 29 }
theorem rmE3 (l : Launch) (Z : State) (a0 : Array Value) (hw : ∀ d ∈ tables_1, d.before a0 Z = true) (ws : List Jvm.Cond) (a1 : Addr) (a2 : Addr) (ka : ClassId) (h0 : Heap) (n0 : Nat) (Z0 : n0 ≤ h0.size) (E_a1 : Exa Z h0 a1 "java/lang/String") (g_a1 : n0 ≤ a1) (F_value : Fld Z h0 a1 "java/lang/String" "value" "[B" .null) (F_coder : Fld Z h0 a1 "java/lang/String" "coder" "B" (.int (0 : Int32))) (V_a2 : Arv Z h0 a2 ka .char (0 : Int32) [] (.int (0 : Int32))) (ne12 : a1 ≠ a2) :
    MetFree l (⟨"java/lang/String", "<init>", "([C)V"⟩ : MethodName) (head1 (Jvm.Cond.code (⟨"java/lang/String", "<init>", "([C)V"⟩ : MethodName) jdk_42_method_3_code 2 none :: ws) roomE3) (fun aa_ U_ => aa_ = #[(.ref a1), (.ref a2)] ∧ Z.Warmed39 U_.vm ∧ U_.heap = h0 ∧ CHv Z EL U_.vm h0) (fun _ _ _ _ _ => True) (fun _ U_ o_ W_ => ∃ v_ L_, o_ = .returned v_ ∧ (QE3 Z a1 h0 n0) v_ W_.heap L_ ∧ CHr Z EL U_.vm U_.heap W_.vm W_.heap ∧ ReturnedEndW U_ o_ W_ L_ roomE3.cells roomE3.slots) := by
  refine own_metH (Q := (QE3 Z a1 h0 n0)) (L0 := #[.val (.ref a1), .val (.ref a2)]) (plainFor_of_name pn_0) (fun m => by first | (simp [entryFrame, mkF, argsToLocals, Value.category]; done) | rfl) ?_
  intro p e s m below meth c T0 X0 hx hby hml hown hnm hret hlk hZ e0 hs0 CR hS hk
  have N0 := Fr.nil n0
  have K0 := Keep.refl h0 [a1]
  have S_a1 : Safe Z EL s.vm h0 a1 := own_safeS hZ.alike E_a1 F_value
  refine GoH.st (pc' := 1) (S' := [(.ref a1)]) (fun t_ k_ => XS.aloadN X0.here hx rfl (hb hby d3_0) rfl rfl k_) ?_
  refine GoH.st (pc' := 2) (S' := [(.ref a2), (.ref a1)]) (fun t_ k_ => XS.aloadN X0.here hx rfl (hb hby d3_1) rfl rfl k_) ?_
  refine GoH.st (pc' := 3) (S' := [(.int (0 : Int32)), (.ref a2), (.ref a1)]) (fun t_ k_ => XS.iconst X0.here hx rfl (hb hby d3_2) k_) ?_
  refine GoH.st (pc' := 4) (S' := [(.ref a2), (.int (0 : Int32)), (.ref a2), (.ref a1)]) (fun t_ k_ => XS.aloadN X0.here hx rfl (hb hby d3_3) rfl rfl k_) ?_
  obtain ⟨cl1, Ar1, -, q1a, q1b, -, -⟩ := id V_a2
  refine GoH.st (pc' := 5) (S' := [(.int (0 : Int32)), (.int (0 : Int32)), (.ref a2), (.ref a1)]) (fun t_ k_ => own_len X0 hx hZ e0 Ar1 q1a q1b (g := (mkF m 4 #[.val (.ref a1), .val (.ref a2)] [(.ref a2), (.int (0 : Int32)), (.ref a2), (.ref a1)])) rfl rfl (hb hby d3_4) t_ k_) ?_
  refine GoH.st (pc' := 6) (S' := [.null, (.int (0 : Int32)), (.int (0 : Int32)), (.ref a2), (.ref a1)]) (fun t_ k_ => XS.aconstNull X0.here hx rfl (hb hby d3_5) k_) ?_
  obtain ⟨_, _, ⟨T2, L2, k2, n2⟩, -, X2, hS2, hg2, ⟨Lc2, hQ2, l2, y2, z2, CR2⟩, st2⟩ := X0.specialBackS hx (y := (⟨"java/lang/String", "<init>", "([CIILjava/lang/Void;)V"⟩ : MethodName)) rfl hown (mvT hZ (wd hw 21 rfl)) (mvT hZ (wd hw 22 rfl)) (mvT hZ (wd hw 24 rfl)) (by decide) (backOfSH (W := 0) (rmE149 l Z a0 hw [] a1 a2 h0 n0 Z0 E_a1 g_a1 F_value F_coder) hZ (wd hw 24 rfl) (wd hw 6 rfl) (by decide) (by decide) (own_EW hw) CR.1) (g := (mkF m 6 #[.val (.ref a1), .val (.ref a2)] [.null, (.int (0 : Int32)), (.int (0 : Int32)), (.ref a2), (.ref a1)])) rfl (by rw [hml]; rfl) (Steps.refl _) (a := a1) (argsL := [(.ref a2), (.int (0 : Int32)), (.int (0 : Int32)), .null]) (rest := []) (lenOf pd_0 rfl) rfl (by show 2 * 0 + _ ≤ _; exact Nat.le_of_eq rfl) (hb hby d3_6) (fun _ _ => ⟨rfl, e0, (by decide : 0 + 4 ≤ _), (by decide : 0 + 8 ≤ _)⟩)
  dsimp only [Pt.U, Pt.locs, Pt.cells, Pt.slots] at X2 l2 y2 z2 st2 hQ2 hS2 hg2 CR2
  subst l2 y2 z2
  replace X2 : Stand p l e _ (s.setVm T2.vm) m _ below meth c T2 _ _ _ := X2
  replace hS := foldS hS (T := T0) (Nat.le_trans hk (Nat.le_of_eq (congrArg Array.size e0.symm))) hS2 hg2
  replace hk := Nat.le_refl T2.heap.size
  replace hZ : Z.Warmed39 (s.setVm T2.vm).vm := State.Warmed39.trans (t := s.setVm s.vm) hZ hS2.1
  replace hown : (s.setVm T2.vm).vm.findClass "java/lang/String" = some m.cls := by rw [show (s.setVm T2.vm).vm = T2.vm from rfl, hS2.1.alike.findClass]; exact hown
  obtain ⟨t2, kb2, rfl, N2q, K2, Co2, nt2, Va2, Ay2⟩ := hQ2
  have N2 := Fr.app N0 N2q
  obtain ⟨h2, e2⟩ : ∃ z, T2.heap = z := ⟨_, rfl⟩
  rw [e2] at K2 Co2 Va2 Ay2 CR2
  replace S_a1 := CR2.safe E_a1.lt S_a1
  replace CR := CR.trans CR2
  replace Z0 := Nat.le_trans Z0 K2.1
  replace K0 := K0.trans K2 (allS (Or.inl (List.mem_of_getElem? (i := 0) rfl)) all0)
  replace E_a1 := E_a1.keep K2
  replace V_a2 := V_a2.keep K2 (ninS (Ne.symm ne12) nin0)
  replace hk : T2.heap.size ≤ h2.size := Nat.le_of_eq (congrArg Array.size e2)
  refine GoH.tr (pc' := 9) (S' := []) st2 ?_
  exact GoH.retV X2 hx hlk hret (hb hby d3_9) (by decide) (by decide) hS hk e2 hs0 hZ (own_EW hw) CR (by rw [e2]; exact ⟨t2, _, rfl, N2, K0, Co2, nt2, Va2, Ay2⟩)
section OwnPF
def own_lt (c : Int32) : Prop := ¬ c < 0 ∧ ¬ (255 : Int32) < c
theorem own_latn {c : Int32} (h : own_lt c) : own_lt (nar .char c) := by
  have e0 : (0 : Int32).toInt = 0 := rfl
  have e1 : (255 : Int32).toInt = 255 := rfl
  have e : nar .char c = c := by
    simp only [nar]
    apply Int32.toInt_inj.mp
    have q := c_i2c c
    obtain ⟨h0, h1⟩ := h
    rw [Int32.lt_iff_toInt_lt] at h0 h1
    omega
  rw [e]; exact h
theorem own_chl (x : Int32) : own_lt (own_ch x) := own_latn (own_and255 x)
theorem own_l255 (x : Int32) : own_lt (x &&& (255 : Int32)) := by
  have h := c_mask x 255 8 (by decide) (by decide)
  have e0 : (0 : Int32).toInt = 0 := rfl
  have e2 : (255 : Int32).toInt = 255 := rfl
  simp only [own_lt, Int32.lt_iff_toInt_lt, h, e0, e2]
  omega
def own_lat (L : List Int32) : Prop := L.length = 13 ∧ ∀ c ∈ L, own_lt c
theorem own_lat.set {L : List Int32} {c : Int32} (h : own_lat L) (hc : own_lt c) (i : Nat) : own_lat (L.set i c) := ⟨by rw [List.length_set]; exact h.1, fun x hx => (List.mem_or_eq_of_mem_set hx).elim (h.2 x) (fun z => z ▸ hc)⟩
theorem own_lat0 : own_lat (List.replicate 13 0) := ⟨by simp, fun c hc => by rw [List.eq_of_mem_replicate hc]; exact ⟨by decide, by decide⟩⟩
theorem own_arv0 {Z : State} {h : Heap} {a : Addr} {k : ClassId} {ty : FieldType} {vs vs' : List Value} {dv : Value} (V : Arv Z h a k ty ((0 : Nat).toInt32) vs dv) : Arv Z h a k ty (0 : Int32) vs' dv := by
  obtain ⟨c, A, q1, q2, q3, q4, q5⟩ := V
  have e : c.slots.size = 0 := by rw [q2]; rfl
  exact ⟨c, A, q1, q2, q3, fun i hi => absurd hi (by omega), fun i hi => absurd hi (by omega)⟩
theorem own_arvt {Z : State} {h : Heap} {a : Addr} {k : ClassId} {ty : FieldType} {n : Nat} {L : List Int32} {dv : Value} (hn : n < 2147483648) (V : Arv Z h a k ty (n.toInt32) (L.map Value.int) dv) (hl : n ≤ L.length) : Arv Z h a k ty (n.toInt32) ((L.take n).map Value.int) dv := by
  obtain ⟨c, A, q1, q2, q3, q4, q5⟩ := V
  have e : c.slots.size = n := by rw [q2, own_tn hn]
  have g : ∀ i, i < n → ((L.take n).map Value.int).getD i dv = (L.map Value.int).getD i dv := fun i hi => by
    simp only [List.getD_eq_getElem?_getD, List.getElem?_map, List.getElem?_take, if_pos hi]
  exact ⟨c, A, q1, q2, q3, fun i hi => by rw [g i (by omega)]; exact q4 i hi, fun i hi => by rw [g i (by omega)]; exact q5 i hi⟩
theorem own_r14 (x : Int32) : ∃ n : Nat, n ≤ 13 ∧ ((x.toUInt32 >>> ((2 : Int32) &&& 31).toUInt32).toInt32) % (14 : Int32) = n.toInt32 := by
  have h := c_iushr x 2 2 (by decide) (by decide)
  have hr := (c_irem ((x.toUInt32 >>> ((2 : Int32) &&& 31).toUInt32).toInt32) 14 14 rfl).1 (by omega)
  refine ⟨(((x.toUInt32 >>> ((2 : Int32) &&& 31).toUInt32).toInt32) % (14 : Int32)).toInt.toNat, by omega, ?_⟩
  apply Int32.toInt_inj.mp
  rw [len_toInt (n := _) (by omega)]; omega
theorem own_ix (x : Int32) {n : Nat} (h0 : 0 < n) (h1 : n ≤ 13) : ∃ j : Nat, j < n ∧ ((x.toUInt32 >>> ((1 : Int32) &&& 31).toUInt32).toInt32) % (n.toInt32) = j.toInt32 := by
  have h := c_iushr x 1 1 (by decide) (by decide)
  have en := len_toInt (n := n) (by omega)
  have hr := (c_irem ((x.toUInt32 >>> ((1 : Int32) &&& 31).toUInt32).toInt32) (n.toInt32) n en).1 (by omega)
  have hm := Int.emod_nonneg ((x.toUInt32 >>> ((1 : Int32) &&& 31).toUInt32).toInt32).toInt (b := (n : Int)) (by omega)
  have hm2 := Int.emod_lt_of_pos ((x.toUInt32 >>> ((1 : Int32) &&& 31).toUInt32).toInt32).toInt (b := (n : Int)) (by omega)
  refine ⟨(((x.toUInt32 >>> ((1 : Int32) &&& 31).toUInt32).toInt32) % (n.toInt32)).toInt.toNat, by omega, ?_⟩
  apply Int32.toInt_inj.mp
  rw [len_toInt (n := _) (by omega)]; omega
theorem own_nz {n : Nat} (h0 : 0 < n) (h1 : n ≤ 13) : ¬ n.toInt32 = 0 := fun z => by
  have := (own_inj (m := n) (n := 0) (by omega) (by omega)).mp z; omega
theorem own_subN {a b : Nat} (h : b ≤ a) (ha : a < 2147483648) : a.toInt32 - b.toInt32 = (a - b).toInt32 := by
  apply Int32.toInt_inj.mp
  have h1 := c_isub a.toInt32 b.toInt32
  rw [len_toInt (n := a) (by omega), len_toInt (n := b) (by omega)] at h1
  rw [len_toInt (n := a - b) (by omega)]
  have h2 := rng32 (a.toInt32 - b.toInt32)
  omega
/-- two Strings' bytes: as long, and the same -/
def own_eq (X : List Int32) (n : Nat) (Y : List Int32) (k : Nat) : Int32 := if n = k ∧ ∀ i, i < n → X.getD i 0 = Y.getD i 0 then 1 else 0
theorem own_eq01 (X : List Int32) (n : Nat) (Y : List Int32) (k : Nat) : own_eq X n Y k = 0 ∨ own_eq X n Y k = 1 := by unfold own_eq; split <;> simp
theorem own_eqs (X : List Int32) (n : Nat) (Y : List Int32) (k : Nat) : own_eq Y k X n = own_eq X n Y k := by
  unfold own_eq
  by_cases h : n = k ∧ ∀ i, i < n → X.getD i 0 = Y.getD i 0
  · rw [if_pos h, if_pos ⟨h.1.symm, fun i hi => (h.2 i (by omega)).symm⟩]
  · rw [if_neg h, if_neg (fun g => h ⟨g.1.symm, fun i hi => (g.2 i (by omega)).symm⟩)]
theorem own_hp {X Y : List Int32} {i : Nat} (hp : ∀ j, j < i → X.getD j 0 = Y.getD j 0) (h : X.getD i 0 = Y.getD i 0) : ∀ j, j < i + 1 → X.getD j 0 = Y.getD j 0 := fun j hj => (Nat.lt_succ_iff_lt_or_eq.mp hj).elim (hp j) (fun z => z ▸ h)
theorem own_fldu {Z : State} {h : Heap} {a : Addr} {C n d : String} {v w : Value} (F : Fld Z h a C n d v) (G : Fld Z h a C n d w) : v = w := by
  obtain ⟨c1, _, _, _, _, h1, h2, -, -, -, -, h7⟩ := F
  obtain ⟨c2, _, _, _, _, g1, g2, -, -, -, -, g7⟩ := G
  cases h1.symm.trans g1; cases h2.symm.trans g2; exact Option.some.inj (h7.symm.trans g7)
theorem own_eqA {Z : State} {h : Heap} {a : Addr} {k k' : ClassId} {n m : Nat} {X Y : List Int32} (hn : n < 2147483648) (hm : m < 2147483648) (A : Arv Z h a k .byte (n.toInt32) (X.map Value.int) (.int 0)) (D : Arv Z h a k' .byte (m.toInt32) (Y.map Value.int) (.int 0)) : own_eq X n Y m = 1 := by
  obtain ⟨c, A1, -, a2, -, a4, -⟩ := A
  obtain ⟨c', D1, -, d2, -, d4, -⟩ := D
  cases A1.1.symm.trans D1.1
  rw [own_tn hn] at a2
  rw [own_tn hm] at d2
  refine if_pos ⟨a2.symm.trans d2, fun i hi => ?_⟩
  have e := (a4 i (by omega)).symm.trans (d4 i (by omega))
  rw [own_getI, own_getI] at e
  simpa using e
end OwnPF
theorem d14_0 : decode jdk_42_method_152_code 0 = .ok (.getstatic 38, 3) := by decide +kernel
theorem d14_3 : decode jdk_42_method_152_code 3 = .ok (.ifCond .eq 10, 3) := by decide +kernel
theorem d14_6 : decode jdk_42_method_152_code 6 = .ok (.aload_n 0, 1) := by decide +kernel
theorem d14_7 : decode jdk_42_method_152_code 7 = .ok (.getfield 15, 3) := by decide +kernel
theorem d14_10 : decode jdk_42_method_152_code 10 = .ok (.goto 4, 3) := by decide +kernel
theorem d14_14 : decode jdk_42_method_152_code 14 = .ok (.ireturn, 1) := by decide +kernel
def Q14 (Z : State) (a1 : Addr) (gC : Int32) (h0 : Heap) (n0 : Nat) (v : Option Value) (h : Heap) (L : List Loc) : Prop := v = some (.int 0) ∧ Fr n0 L ∧ h = h0
def room14 : Room := { frames := 0, cells := 0, slots := 0, locals := 0 }
theorem rm14 (l : Launch) (Z : State) (a0 : Array Value) (hw : ∀ d ∈ tables_1, d.before a0 Z = true) (ws : List Jvm.Cond) (a1 : Addr) (gC : Int32) (h0 : Heap) (n0 : Nat) (Z0 : n0 ≤ h0.size) (SC : Sta Z Z.heap "java/lang/String" "COMPACT_STRINGS" "Z" (.int gC)) (PC : ¬ (gC = (0 : Int32))) (O0 : Old Z n0 h0) (Fc : Fld Z h0 a1 "java/lang/String" "coder" "B" (.int (0 : Int32))) :
    MetFree l (⟨"java/lang/String", "coder", "()B"⟩ : MethodName) (head1 (Jvm.Cond.code (⟨"java/lang/String", "coder", "()B"⟩ : MethodName) jdk_42_method_152_code 1 (some .byte) :: ws) room14) (fun aa_ U_ => aa_ = #[(.ref a1)] ∧ Z.Warmed39 U_.vm ∧ U_.heap = h0) (fun _ _ _ _ _ => True) (fun _ U_ o_ W_ => ∃ v_ L_, o_ = .returned v_ ∧ (Q14 Z a1 gC h0 n0) v_ W_.heap L_ ∧ FrameEnd U_ o_ W_ L_ room14.cells room14.slots) := by
  refine own_met (Q := (Q14 Z a1 gC h0 n0)) (L0 := #[.val (.ref a1)]) (plainFor_of_name pn_0) (fun m => by first | (simp [entryFrame, mkF, argsToLocals, Value.category]; done) | rfl) ?_
  intro p e s m below meth c T0 X0 hx hby hml hown hnm hret hlk hZ e0
  have N0 := Fr.nil n0
  obtain ⟨T1, X1, e1, st1⟩ := getS2 X0 hx hZ hown (host := "") (Or.inl (wd hw 40 rfl)) Via.refl e0 (SC.ext O0.2) (g := (mkF m 0 #[.val (.ref a1)] [])) rfl (hb hby d14_0)
  refine Go.st (pc' := 3) (S' := [(.int gC)]) st1 ?_
  refine Go.st (pc' := 6) (S' := []) (fun t_ k_ => XS.ifNo X1.here hx rfl (hb hby d14_3) rfl ((if0 _ _).trans (feq (PC : ¬ (gC = (0 : Int32)))).1) k_) ?_
  refine Go.st (pc' := 7) (S' := [(.ref a1)]) (fun t_ k_ => XS.aloadN X1.here hx rfl (hb hby d14_6) rfl rfl k_) ?_
  obtain ⟨T2, X2, e2, st2⟩ := getF X1 hx hZ hown (host := "") (Or.inl (wd hw 30 rfl)) Via.refl e1 Fc (g := (mkF m 7 #[.val (.ref a1)] [(.ref a1)])) rfl rfl (hb hby d14_7)
  refine Go.st (pc' := 10) (S' := [(.int (0 : Int32))]) st2 ?_
  refine Go.st (pc' := 14) (S' := [(.int (0 : Int32))]) (fun t_ k_ => XS.goto X2.here hx rfl (pc0 := 10) (pc' := 14) rfl (hb hby d14_10) (by decide) (by decide) k_) ?_
  exact Go.retN X2 hx hlk hret (by simp) (hb hby d14_14) (by decide) (by decide) (by rw [e2]; exact ⟨rfl, N0, rfl⟩)
theorem d17_0 : decode jdk_42_method_154_code 0 = .ok (.getstatic 38, 3) := by decide +kernel
theorem d17_3 : decode jdk_42_method_154_code 3 = .ok (.ifCond .eq 14, 3) := by decide +kernel
theorem d17_6 : decode jdk_42_method_154_code 6 = .ok (.aload_n 0, 1) := by decide +kernel
theorem d17_7 : decode jdk_42_method_154_code 7 = .ok (.getfield 15, 3) := by decide +kernel
theorem d17_10 : decode jdk_42_method_154_code 10 = .ok (.ifCond .ne 7, 3) := by decide +kernel
theorem d17_13 : decode jdk_42_method_154_code 13 = .ok (.iconst 1, 1) := by decide +kernel
theorem d17_14 : decode jdk_42_method_154_code 14 = .ok (.goto 4, 3) := by decide +kernel
theorem d17_18 : decode jdk_42_method_154_code 18 = .ok (.ireturn, 1) := by decide +kernel
def Q17 (Z : State) (a1 : Addr) (gC : Int32) (h0 : Heap) (n0 : Nat) (v : Option Value) (h : Heap) (L : List Loc) : Prop := v = some (.int 1) ∧ Fr n0 L ∧ h = h0
def room17 : Room := { frames := 0, cells := 0, slots := 0, locals := 0 }
theorem rm17 (l : Launch) (Z : State) (a0 : Array Value) (hw : ∀ d ∈ tables_1, d.before a0 Z = true) (ws : List Jvm.Cond) (a1 : Addr) (gC : Int32) (h0 : Heap) (n0 : Nat) (Z0 : n0 ≤ h0.size) (SC : Sta Z Z.heap "java/lang/String" "COMPACT_STRINGS" "Z" (.int gC)) (PC : ¬ (gC = (0 : Int32))) (O0 : Old Z n0 h0) (Fc : Fld Z h0 a1 "java/lang/String" "coder" "B" (.int (0 : Int32))) :
    MetFree l (⟨"java/lang/String", "isLatin1", "()Z"⟩ : MethodName) (head1 (Jvm.Cond.code (⟨"java/lang/String", "isLatin1", "()Z"⟩ : MethodName) jdk_42_method_154_code 1 (some .boolean) :: ws) room17) (fun aa_ U_ => aa_ = #[(.ref a1)] ∧ Z.Warmed39 U_.vm ∧ U_.heap = h0) (fun _ _ _ _ _ => True) (fun _ U_ o_ W_ => ∃ v_ L_, o_ = .returned v_ ∧ (Q17 Z a1 gC h0 n0) v_ W_.heap L_ ∧ FrameEnd U_ o_ W_ L_ room17.cells room17.slots) := by
  refine own_met (Q := (Q17 Z a1 gC h0 n0)) (L0 := #[.val (.ref a1)]) (plainFor_of_name pn_0) (fun m => by first | (simp [entryFrame, mkF, argsToLocals, Value.category]; done) | rfl) ?_
  intro p e s m below meth c T0 X0 hx hby hml hown hnm hret hlk hZ e0
  have N0 := Fr.nil n0
  obtain ⟨T1, X1, e1, st1⟩ := getS2 X0 hx hZ hown (host := "") (Or.inl (wd hw 40 rfl)) Via.refl e0 (SC.ext O0.2) (g := (mkF m 0 #[.val (.ref a1)] [])) rfl (hb hby d17_0)
  refine Go.st (pc' := 3) (S' := [(.int gC)]) st1 ?_
  refine Go.st (pc' := 6) (S' := []) (fun t_ k_ => XS.ifNo X1.here hx rfl (hb hby d17_3) rfl ((if0 _ _).trans (feq (PC : ¬ (gC = (0 : Int32)))).1) k_) ?_
  refine Go.st (pc' := 7) (S' := [(.ref a1)]) (fun t_ k_ => XS.aloadN X1.here hx rfl (hb hby d17_6) rfl rfl k_) ?_
  obtain ⟨T2, X2, e2, st2⟩ := getF X1 hx hZ hown (host := "") (Or.inl (wd hw 30 rfl)) Via.refl e1 Fc (g := (mkF m 7 #[.val (.ref a1)] [(.ref a1)])) rfl rfl (hb hby d17_7)
  refine Go.st (pc' := 10) (S' := [(.int (0 : Int32))]) st2 ?_
  refine Go.st (pc' := 13) (S' := []) (fun t_ k_ => XS.ifNo X2.here hx rfl (hb hby d17_10) rfl ((if0 _ _).trans (teq (by decide : ((0 : Int32) = (0 : Int32)))).2) k_) ?_
  refine Go.st (pc' := 14) (S' := [(.int (1 : Int32))]) (fun t_ k_ => XS.iconst X2.here hx rfl (hb hby d17_13) k_) ?_
  refine Go.st (pc' := 18) (S' := [(.int (1 : Int32))]) (fun t_ k_ => XS.goto X2.here hx rfl (pc0 := 14) (pc' := 18) rfl (hb hby d17_14) (by decide) (by decide) k_) ?_
  exact Go.retN X2 hx hlk hret (by simp) (hb hby d17_18) (by decide) (by decide) (by rw [e2]; exact ⟨rfl, N0, rfl⟩)
theorem d13_0 : decode jdk_42_method_54_code 0 = .ok (.aload_n 0, 1) := by decide +kernel
theorem d13_1 : decode jdk_42_method_54_code 1 = .ok (.getfield 9, 3) := by decide +kernel
theorem d13_4 : decode jdk_42_method_54_code 4 = .ok (.arraylength, 1) := by decide +kernel
theorem d13_5 : decode jdk_42_method_54_code 5 = .ok (.aload_n 0, 1) := by decide +kernel
theorem d13_6 : decode jdk_42_method_54_code 6 = .ok (.invokevirtual 335, 3) := by decide +kernel
theorem d13_9 : decode jdk_42_method_54_code 9 = .ok (.ishr, 1) := by decide +kernel
theorem d13_10 : decode jdk_42_method_54_code 10 = .ok (.ireturn, 1) := by decide +kernel
theorem pd_1 : parseMethodDescriptor "()B" = some ⟨[], some .byte⟩ := by decide +kernel
def Q13 (Z : State) (a1 : Addr) (t1 : Addr) (k1 : ClassId) (gC : Int32) (z1 : Int32) (bs : List Int32) (h0 : Heap) (n0 : Nat) (v : Option Value) (h : Heap) (L : List Loc) : Prop := v = some (.int z1) ∧ Fr n0 L ∧ h = h0
def room13 : Room := { frames := 1, cells := 0, slots := 0, locals := 13 }
theorem rm13 (l : Launch) (Z : State) (a0 : Array Value) (hw : ∀ d ∈ tables_1, d.before a0 Z = true) (ws : List Jvm.Cond) (a1 : Addr) (t1 : Addr) (k1 : ClassId) (gC : Int32) (z1 : Int32) (bs : List Int32) (h0 : Heap) (n0 : Nat) (Z0 : n0 ≤ h0.size) (SC : Sta Z Z.heap "java/lang/String" "COMPACT_STRINGS" "Z" (.int gC)) (PC : ¬ (gC = (0 : Int32))) (O0 : Old Z n0 h0) (E_a1 : Exa Z h0 a1 "java/lang/String") (Fc_a1 : Fld Z h0 a1 "java/lang/String" "coder" "B" (.int (0 : Int32))) (Fv_a1 : Fld Z h0 a1 "java/lang/String" "value" "[B" (.ref t1)) (V_t1 : Arv Z h0 t1 k1 .byte z1 (bs.map Value.int) (.int (0 : Int32))) :
    MetFree l (⟨"java/lang/String", "length", "()I"⟩ : MethodName) (head1 (Jvm.Cond.code (⟨"java/lang/String", "length", "()I"⟩ : MethodName) jdk_42_method_54_code 1 (some .int) :: ws) room13) (fun aa_ U_ => aa_ = #[(.ref a1)] ∧ Z.Warmed39 U_.vm ∧ U_.heap = h0) (fun _ _ _ _ _ => True) (fun _ U_ o_ W_ => ∃ v_ L_, o_ = .returned v_ ∧ (Q13 Z a1 t1 k1 gC z1 bs h0 n0) v_ W_.heap L_ ∧ FrameEnd U_ o_ W_ L_ room13.cells room13.slots) := by
  refine own_met (Q := (Q13 Z a1 t1 k1 gC z1 bs h0 n0)) (L0 := #[.val (.ref a1)]) (plainFor_of_name pn_0) (fun m => by first | (simp [entryFrame, mkF, argsToLocals, Value.category]; done) | rfl) ?_
  intro p e s m below meth c T0 X0 hx hby hml hown hnm hret hlk hZ e0
  have N0 := Fr.nil n0
  refine Go.st (pc' := 1) (S' := [(.ref a1)]) (fun t_ k_ => XS.aloadN X0.here hx rfl (hb hby d13_0) rfl rfl k_) ?_
  obtain ⟨T1, X1, e1, st1⟩ := getF X0 hx hZ hown (host := "") (Or.inl (wd hw 29 rfl)) Via.refl e0 Fv_a1 (g := (mkF m 1 #[.val (.ref a1)] [(.ref a1)])) rfl rfl (hb hby d13_1)
  refine Go.st (pc' := 4) (S' := [(.ref t1)]) st1 ?_
  obtain ⟨cl2, Ar2, -, q2a, q2b, -, -⟩ := id V_t1
  refine Go.st (pc' := 5) (S' := [(.int z1)]) (fun t_ k_ => own_len X1 hx hZ e1 Ar2 q2a q2b (g := (mkF m 4 #[.val (.ref a1)] [(.ref t1)])) rfl rfl (hb hby d13_4) t_ k_) ?_
  refine Go.st (pc' := 6) (S' := [(.ref a1), (.int z1)]) (fun t_ k_ => XS.aloadN X1.here hx rfl (hb hby d13_5) rfl rfl k_) ?_
  obtain ⟨cq3, kq3, q3a, q3b, q3c⟩ := isOf hZ e1 E_a1
  obtain ⟨_, _, ⟨T3, L3, k3, n3⟩, -, X3, ⟨Lc3, hQ3, l3, y3, z3⟩, st3⟩ := X1.virtualBack hx (y := (⟨"java/lang/String", "coder", "()B"⟩ : MethodName)) (z := (⟨"java/lang/String", "coder", "()B"⟩ : MethodName)) hown (mvT hZ (wd hw 89 rfl)) (mvT hZ (wd hw 90 rfl)) (notFace_of_selects (args := #[]) (mvT hZ (wd hw 92 rfl))) (mvT hZ (wd hw 92 rfl)) (mvT hZ (wd hw 91 rfl)) (by decide) (backOf (W := 1) (rm14 l Z a0 hw [] a1 gC h0 n0 Z0 SC PC O0 Fc_a1) hZ (wd hw 93 rfl) (wd hw 6 rfl) (by decide) (by decide)) q3a q3c (g := (mkF m 6 #[.val (.ref a1)] [(.ref a1), (.int z1)])) rfl (by rw [hml]; rfl) (Steps.refl _) (argsL := []) (rest := [(.int z1)]) (lenOf pd_1 rfl) rfl (by show 2 * 0 + _ ≤ _; exact Nat.le_of_eq rfl) (hb hby d13_6) (fun _ _ => ⟨rfl, e1, (by decide : 0 + 0 ≤ _), (by decide : 0 + 0 ≤ _)⟩)
  dsimp only [Pt.U, Pt.locs, Pt.cells, Pt.slots] at X3 l3 y3 z3 st3 hQ3
  subst l3 y3 z3
  obtain ⟨rfl, N3q, e3⟩ := hQ3
  have N3 := Fr.app N0 N3q
  refine Go.tr (pc' := 9) (S' := [(.int (0 : Int32)), (.int z1)]) st3 ?_
  refine Go.st (pc' := 10) (S' := [(.int (z1 >>> ((0 : Int32) &&& 31)))]) (fun t_ k_ => XS.ishr X3.here hx rfl (hb hby d13_9) rfl k_) ?_
  rw [own_shr0]
  exact Go.retO X3 hx hlk hret rfl (by simp [FieldType.isReference, Value.isRef]) (hb hby d13_10) (by decide) (by decide) (by rw [e3]; exact ⟨rfl, N3, rfl⟩)
theorem d20_0 : decode jdk_41_method_11_code 0 = .ok (.iload_n 0, 1) := by decide +kernel
theorem d20_1 : decode jdk_41_method_11_code 1 = .ok (.ifCond .lt 8, 3) := by decide +kernel
theorem d20_4 : decode jdk_41_method_11_code 4 = .ok (.iload_n 0, 1) := by decide +kernel
theorem d20_5 : decode jdk_41_method_11_code 5 = .ok (.iload_n 1, 1) := by decide +kernel
theorem d20_6 : decode jdk_41_method_11_code 6 = .ok (.if_icmp .lt 10, 3) := by decide +kernel
theorem d20_16 : decode jdk_41_method_11_code 16 = .ok (.iload_n 0, 1) := by decide +kernel
theorem d20_17 : decode jdk_41_method_11_code 17 = .ok (.ireturn, 1) := by decide +kernel
theorem pn_1 : plainName "jdk/internal/util/Preconditions" = true := by first | (simp [plainName, overriddenIn]; done) | decide +kernel
def QckR (Z : State) (i : Nat) (k : Nat) (fa : Addr) (h0 : Heap) (n0 : Nat) (v : Option Value) (h : Heap) (L : List Loc) : Prop := v = some (.int (i.toInt32)) ∧ Fr n0 L ∧ h = h0
def roomckR : Room := { frames := 0, cells := 0, slots := 0, locals := 0 }
theorem rmckR (l : Launch) (Z : State) (a0 : Array Value) (hw : ∀ d ∈ tables_1, d.before a0 Z = true) (ws : List Jvm.Cond) (i : Nat) (k : Nat) (fa : Addr) (h0 : Heap) (n0 : Nat) (Z0 : n0 ≤ h0.size) (hi : i < k) (hk : k < 2147483648) :
    MetFree l (⟨"jdk/internal/util/Preconditions", "checkIndex", "(IILjava/util/function/BiFunction;)I"⟩ : MethodName) (head1 (Jvm.Cond.code (⟨"jdk/internal/util/Preconditions", "checkIndex", "(IILjava/util/function/BiFunction;)I"⟩ : MethodName) jdk_41_method_11_code 3 (some .int) :: ws) roomckR) (fun aa_ U_ => aa_ = #[(.int (i.toInt32)), (.int (k.toInt32)), (.ref fa)] ∧ Z.Warmed39 U_.vm ∧ U_.heap = h0) (fun _ _ _ _ _ => True) (fun _ U_ o_ W_ => ∃ v_ L_, o_ = .returned v_ ∧ (QckR Z i k fa h0 n0) v_ W_.heap L_ ∧ FrameEnd U_ o_ W_ L_ roomckR.cells roomckR.slots) := by
  refine own_met (Q := (QckR Z i k fa h0 n0)) (L0 := #[.val (.int (i.toInt32)), .val (.int (k.toInt32)), .val (.ref fa)]) (plainFor_of_name pn_1) (fun m => by first | (simp [entryFrame, mkF, argsToLocals, Value.category]; done) | rfl) ?_
  intro p e s m below meth c T0 X0 hx hby hml hown hnm hret hlk hZ e0
  have N0 := Fr.nil n0
  refine Go.st (pc' := 1) (S' := [(.int (i.toInt32))]) (fun t_ k_ => XS.iloadN X0.here hx rfl (hb hby d20_0) rfl k_) ?_
  refine Go.st (pc' := 4) (S' := []) (fun t_ k_ => XS.ifNo X0.here hx rfl (hb hby d20_1) rfl ((if0 _ _).trans (flt (own_nnN (by omega) : ¬ ((i.toInt32) < (0 : Int32)))).1) k_) ?_
  refine Go.st (pc' := 5) (S' := [(.int (i.toInt32))]) (fun t_ k_ => XS.iloadN X0.here hx rfl (hb hby d20_4) rfl k_) ?_
  refine Go.st (pc' := 6) (S' := [(.int (k.toInt32)), (.int (i.toInt32))]) (fun t_ k_ => XS.iloadN X0.here hx rfl (hb hby d20_5) rfl k_) ?_
  refine Go.st (pc' := 16) (S' := []) (fun t_ k_ => XS.icmpYes X0.here hx rfl (pc0 := 6) (pc' := 16) rfl (hb hby d20_6) rfl (tlt ((own_ltI (by omega) (by omega)).mpr hi : ((i.toInt32) < (k.toInt32)))).1 (by decide) (by decide) k_) ?_
  refine Go.st (pc' := 17) (S' := [(.int (i.toInt32))]) (fun t_ k_ => XS.iloadN X0.here hx rfl (hb hby d20_16) rfl k_) ?_
  exact Go.retO X0 hx hlk hret rfl (by simp [FieldType.isReference, Value.isRef]) (hb hby d20_17) (by decide) (by decide) (by rw [e0]; exact ⟨rfl, N0, rfl⟩)

def QckN (Z : State) (i : Nat) (k : Nat) (h0 : Heap) (n0 : Nat) (v : Option Value) (h : Heap) (L : List Loc) : Prop := v = some (.int (i.toInt32)) ∧ Fr n0 L ∧ h = h0
def roomckN : Room := { frames := 0, cells := 0, slots := 0, locals := 0 }
theorem rmckN (l : Launch) (Z : State) (a0 : Array Value) (hw : ∀ d ∈ tables_1, d.before a0 Z = true) (ws : List Jvm.Cond) (i : Nat) (k : Nat) (h0 : Heap) (n0 : Nat) (Z0 : n0 ≤ h0.size) (hi : i < k) (hk : k < 2147483648) :
    MetFree l (⟨"jdk/internal/util/Preconditions", "checkIndex", "(IILjava/util/function/BiFunction;)I"⟩ : MethodName) (head1 (Jvm.Cond.code (⟨"jdk/internal/util/Preconditions", "checkIndex", "(IILjava/util/function/BiFunction;)I"⟩ : MethodName) jdk_41_method_11_code 3 (some .int) :: ws) roomckN) (fun aa_ U_ => aa_ = #[(.int (i.toInt32)), (.int (k.toInt32)), .null] ∧ Z.Warmed39 U_.vm ∧ U_.heap = h0) (fun _ _ _ _ _ => True) (fun _ U_ o_ W_ => ∃ v_ L_, o_ = .returned v_ ∧ (QckN Z i k h0 n0) v_ W_.heap L_ ∧ FrameEnd U_ o_ W_ L_ roomckN.cells roomckN.slots) := by
  refine own_met (Q := (QckN Z i k h0 n0)) (L0 := #[.val (.int (i.toInt32)), .val (.int (k.toInt32)), .val .null]) (plainFor_of_name pn_1) (fun m => by first | (simp [entryFrame, mkF, argsToLocals, Value.category]; done) | rfl) ?_
  intro p e s m below meth c T0 X0 hx hby hml hown hnm hret hlk hZ e0
  have N0 := Fr.nil n0
  refine Go.st (pc' := 1) (S' := [(.int (i.toInt32))]) (fun t_ k_ => XS.iloadN X0.here hx rfl (hb hby d20_0) rfl k_) ?_
  refine Go.st (pc' := 4) (S' := []) (fun t_ k_ => XS.ifNo X0.here hx rfl (hb hby d20_1) rfl ((if0 _ _).trans (flt (own_nnN (by omega) : ¬ ((i.toInt32) < (0 : Int32)))).1) k_) ?_
  refine Go.st (pc' := 5) (S' := [(.int (i.toInt32))]) (fun t_ k_ => XS.iloadN X0.here hx rfl (hb hby d20_4) rfl k_) ?_
  refine Go.st (pc' := 6) (S' := [(.int (k.toInt32)), (.int (i.toInt32))]) (fun t_ k_ => XS.iloadN X0.here hx rfl (hb hby d20_5) rfl k_) ?_
  refine Go.st (pc' := 16) (S' := []) (fun t_ k_ => XS.icmpYes X0.here hx rfl (pc0 := 6) (pc' := 16) rfl (hb hby d20_6) rfl (tlt ((own_ltI (by omega) (by omega)).mpr hi : ((i.toInt32) < (k.toInt32)))).1 (by decide) (by decide) k_) ?_
  refine Go.st (pc' := 17) (S' := [(.int (i.toInt32))]) (fun t_ k_ => XS.iloadN X0.here hx rfl (hb hby d20_16) rfl k_) ?_
  exact Go.retO X0 hx hlk hret rfl (by simp [FieldType.isReference, Value.isRef]) (hb hby d20_17) (by decide) (by decide) (by rw [e0]; exact ⟨rfl, N0, rfl⟩)
theorem rmck (l : Launch) (Z : State) (a0 : Array Value) (hw : ∀ d ∈ tables_1, d.before a0 Z = true) (ws : List Jvm.Cond) (i : Nat) (k : Nat) (fm : Value) (h0 : Heap) (n0 : Nat) (Z0 : n0 ≤ h0.size) (hfm : fm.isRef = true) (hi : i < k) (hk : k < 2147483648) :
    MetFree l (⟨"jdk/internal/util/Preconditions", "checkIndex", "(IILjava/util/function/BiFunction;)I"⟩ : MethodName) (head1 (Jvm.Cond.code (⟨"jdk/internal/util/Preconditions", "checkIndex", "(IILjava/util/function/BiFunction;)I"⟩ : MethodName) jdk_41_method_11_code 3 (some .int) :: ws) roomckN) (fun aa_ U_ => aa_ = #[(.int (i.toInt32)), (.int (k.toInt32)), fm] ∧ Z.Warmed39 U_.vm ∧ U_.heap = h0) (fun _ _ _ _ _ => True) (fun _ U_ o_ W_ => ∃ v_ L_, o_ = .returned v_ ∧ (QckN Z i k h0 n0) v_ W_.heap L_ ∧ FrameEnd U_ o_ W_ L_ roomckN.cells roomckN.slots) := by
  rcases ref_cases hfm with rfl | ⟨a, rfl⟩
  · exact rmckN l Z a0 hw ws i k h0 n0 Z0 hi hk
  · exact rmckR l Z a0 hw ws i k a h0 n0 Z0 hi hk
theorem d19_0 : decode jdk_42_method_155_code 0 = .ok (.iload_n 0, 1) := by decide +kernel
theorem d19_1 : decode jdk_42_method_155_code 1 = .ok (.iload_n 1, 1) := by decide +kernel
theorem d19_2 : decode jdk_42_method_155_code 2 = .ok (.getstatic 1053, 3) := by decide +kernel
theorem d19_5 : decode jdk_42_method_155_code 5 = .ok (.invokestatic 1059, 3) := by decide +kernel
theorem d19_8 : decode jdk_42_method_155_code 8 = .ok (.pop, 1) := by decide +kernel
theorem d19_9 : decode jdk_42_method_155_code 9 = .ok (.return_, 1) := by decide +kernel
theorem pd_2 : parseMethodDescriptor "(IILjava/util/function/BiFunction;)I" = some ⟨[.int, .int, (.object "java/util/function/BiFunction")], some .int⟩ := by decide +kernel
def Q19 (Z : State) (i : Nat) (k : Nat) (fm : Value) (h0 : Heap) (n0 : Nat) (v : Option Value) (h : Heap) (L : List Loc) : Prop := v = none ∧ Fr n0 L ∧ h = h0
def room19 : Room := { frames := 1, cells := 0, slots := 0, locals := 14 }
theorem rm19 (l : Launch) (Z : State) (a0 : Array Value) (hw : ∀ d ∈ tables_1, d.before a0 Z = true) (ws : List Jvm.Cond) (i : Nat) (k : Nat) (fm : Value) (h0 : Heap) (n0 : Nat) (Z0 : n0 ≤ h0.size) (hfm : fm.isRef = true) (SF : Sta Z Z.heap "jdk/internal/util/Preconditions" "SIOOBE_FORMATTER" "Ljava/util/function/BiFunction;" fm) (O0 : Old Z n0 h0) (hi : i < k) (hk : k < 2147483648) :
    MetFree l (⟨"java/lang/String", "checkIndex", "(II)V"⟩ : MethodName) (head1 (Jvm.Cond.code (⟨"java/lang/String", "checkIndex", "(II)V"⟩ : MethodName) jdk_42_method_155_code 2 none :: ws) room19) (fun aa_ U_ => aa_ = #[(.int (i.toInt32)), (.int (k.toInt32))] ∧ Z.Warmed39 U_.vm ∧ U_.heap = h0) (fun _ _ _ _ _ => True) (fun _ U_ o_ W_ => ∃ v_ L_, o_ = .returned v_ ∧ (Q19 Z i k fm h0 n0) v_ W_.heap L_ ∧ FrameEnd U_ o_ W_ L_ room19.cells room19.slots) := by
  refine own_met (Q := (Q19 Z i k fm h0 n0)) (L0 := #[.val (.int (i.toInt32)), .val (.int (k.toInt32))]) (plainFor_of_name pn_0) (fun m => by first | (simp [entryFrame, mkF, argsToLocals, Value.category]; done) | rfl) ?_
  intro p e s m below meth c T0 X0 hx hby hml hown hnm hret hlk hZ e0
  have N0 := Fr.nil n0
  refine Go.st (pc' := 1) (S' := [(.int (i.toInt32))]) (fun t_ k_ => XS.iloadN X0.here hx rfl (hb hby d19_0) rfl k_) ?_
  refine Go.st (pc' := 2) (S' := [(.int (k.toInt32)), (.int (i.toInt32))]) (fun t_ k_ => XS.iloadN X0.here hx rfl (hb hby d19_1) rfl k_) ?_
  obtain ⟨T1, X1, e1, st1⟩ := getS2 X0 hx hZ hown (host := "") (Or.inl (wd hw 113 rfl)) Via.refl e0 (SF.ext O0.2) (g := (mkF m 2 #[.val (.int (i.toInt32)), .val (.int (k.toInt32))] [(.int (k.toInt32)), (.int (i.toInt32))])) rfl (hb hby d19_2)
  refine Go.st (pc' := 5) (S' := [fm, (.int (k.toInt32)), (.int (i.toInt32))]) st1 ?_
  obtain ⟨_, _, ⟨T2, L2, k2, n2⟩, -, X2, ⟨Lc2, hQ2, l2, y2, z2⟩, st2⟩ := Jvm.LawKit.callS X1 hx (y := (⟨"jdk/internal/util/Preconditions", "checkIndex", "(IILjava/util/function/BiFunction;)I"⟩ : MethodName)) hown (mvT hZ (wd hw 115 rfl)) (mvT hZ (wd hw 116 rfl)) (mvT hZ (wd hw 114 rfl)) (mvT hZ (wd hw 117 rfl)) (by decide) (backOf (W := 0) (rmck l Z a0 hw [] i k fm h0 n0 Z0 hfm hi hk) hZ (wd hw 117 rfl) (wd hw 114 rfl) (by decide) (by decide)) (g := (mkF m 5 #[.val (.int (i.toInt32)), .val (.int (k.toInt32))] [fm, (.int (k.toInt32)), (.int (i.toInt32))])) rfl (by rw [hml]; rfl) (argsL := [(.int (i.toInt32)), (.int (k.toInt32)), fm]) (rest := []) (lenOf pd_2 rfl) rfl (by show 2 * 0 + _ ≤ _; exact Nat.le_of_eq rfl) (hb hby d19_5) (fun _ _ => ⟨rfl, e1, (by decide : 0 + 0 ≤ _), (by decide : 0 + 0 ≤ _)⟩)
  dsimp only [Pt.U, Pt.locs, Pt.cells, Pt.slots] at X2 l2 y2 z2 st2 hQ2
  subst l2 y2 z2
  obtain ⟨rfl, N2q, e2⟩ := hQ2
  have N2 := Fr.app N0 N2q
  refine Go.st (pc' := 8) (S' := [(.int (i.toInt32))]) st2 ?_
  refine Go.st (pc' := 9) (S' := []) (fun t_ k_ => XS.pop X2.here hx rfl (hb hby d19_8) rfl rfl k_) ?_
  exact Go.retV X2 hx hlk hret (hb hby d19_9) (by decide) (by decide) (by rw [e2]; exact ⟨rfl, N2, rfl⟩)
theorem d18_0 : decode jdk_43_method_2_code 0 = .ok (.iload_n 1, 1) := by decide +kernel
theorem d18_1 : decode jdk_43_method_2_code 1 = .ok (.aload_n 0, 1) := by decide +kernel
theorem d18_2 : decode jdk_43_method_2_code 2 = .ok (.arraylength, 1) := by decide +kernel
theorem d18_3 : decode jdk_43_method_2_code 3 = .ok (.invokestatic 9, 3) := by decide +kernel
theorem d18_6 : decode jdk_43_method_2_code 6 = .ok (.aload_n 0, 1) := by decide +kernel
theorem d18_7 : decode jdk_43_method_2_code 7 = .ok (.iload_n 1, 1) := by decide +kernel
theorem d18_8 : decode jdk_43_method_2_code 8 = .ok (.baload, 1) := by decide +kernel
theorem d18_9 : decode jdk_43_method_2_code 9 = .ok (.sipush 255, 3) := by decide +kernel
theorem d18_12 : decode jdk_43_method_2_code 12 = .ok (.iand, 1) := by decide +kernel
theorem d18_13 : decode jdk_43_method_2_code 13 = .ok (.i2c, 1) := by decide +kernel
theorem d18_14 : decode jdk_43_method_2_code 14 = .ok (.ireturn, 1) := by decide +kernel
theorem pd_3 : parseMethodDescriptor "(II)V" = some ⟨[.int, .int], none⟩ := by decide +kernel
theorem pn_2 : plainName "java/lang/StringLatin1" = true := by first | (simp [plainName, overriddenIn]; done) | decide +kernel
def Q18 (Z : State) (t1 : Addr) (k1 : ClassId) (bs : List Int32) (i : Nat) (k : Nat) (fm : Value) (h0 : Heap) (n0 : Nat) (v : Option Value) (h : Heap) (L : List Loc) : Prop := v = some (.int (nar .char ((bs.getD (i) 0 &&& (255 : Int32)).toUInt32.toUInt16.toUInt32.toInt32))) ∧ Fr n0 L ∧ h = h0
def room18 : Room := { frames := 2, cells := 0, slots := 0, locals := 27 }
theorem rm18 (l : Launch) (Z : State) (a0 : Array Value) (hw : ∀ d ∈ tables_1, d.before a0 Z = true) (ws : List Jvm.Cond) (t1 : Addr) (k1 : ClassId) (bs : List Int32) (i : Nat) (k : Nat) (fm : Value) (h0 : Heap) (n0 : Nat) (Z0 : n0 ≤ h0.size) (hfm : fm.isRef = true) (SF : Sta Z Z.heap "jdk/internal/util/Preconditions" "SIOOBE_FORMATTER" "Ljava/util/function/BiFunction;" fm) (O0 : Old Z n0 h0) (V_t : Arv Z h0 t1 k1 .byte (k.toInt32) (bs.map Value.int) (.int (0 : Int32))) (hi : i < k) (hk : k < 2147483648) :
    MetFree l (⟨"java/lang/StringLatin1", "charAt", "([BI)C"⟩ : MethodName) (head1 (Jvm.Cond.code (⟨"java/lang/StringLatin1", "charAt", "([BI)C"⟩ : MethodName) jdk_43_method_2_code 2 (some .char) :: ws) room18) (fun aa_ U_ => aa_ = #[(.ref t1), (.int (i.toInt32))] ∧ Z.Warmed39 U_.vm ∧ U_.heap = h0) (fun _ _ _ _ _ => True) (fun _ U_ o_ W_ => ∃ v_ L_, o_ = .returned v_ ∧ (Q18 Z t1 k1 bs i k fm h0 n0) v_ W_.heap L_ ∧ FrameEnd U_ o_ W_ L_ room18.cells room18.slots) := by
  refine own_met (Q := (Q18 Z t1 k1 bs i k fm h0 n0)) (L0 := #[.val (.ref t1), .val (.int (i.toInt32))]) (plainFor_of_name pn_2) (fun m => by first | (simp [entryFrame, mkF, argsToLocals, Value.category]; done) | rfl) ?_
  intro p e s m below meth c T0 X0 hx hby hml hown hnm hret hlk hZ e0
  have N0 := Fr.nil n0
  refine Go.st (pc' := 1) (S' := [(.int (i.toInt32))]) (fun t_ k_ => XS.iloadN X0.here hx rfl (hb hby d18_0) rfl k_) ?_
  refine Go.st (pc' := 2) (S' := [(.ref t1), (.int (i.toInt32))]) (fun t_ k_ => XS.aloadN X0.here hx rfl (hb hby d18_1) rfl rfl k_) ?_
  obtain ⟨cl1, Ar1, -, q1a, q1b, -, -⟩ := id V_t
  refine Go.st (pc' := 3) (S' := [(.int (k.toInt32)), (.int (i.toInt32))]) (fun t_ k_ => own_len X0 hx hZ e0 Ar1 q1a q1b (g := (mkF m 2 #[.val (.ref t1), .val (.int (i.toInt32))] [(.ref t1), (.int (i.toInt32))])) rfl rfl (hb hby d18_2) t_ k_) ?_
  obtain ⟨_, _, ⟨T2, L2, k2, n2⟩, -, X2, ⟨Lc2, hQ2, l2, y2, z2⟩, st2⟩ := Jvm.LawKit.callS X0 hx (y := (⟨"java/lang/String", "checkIndex", "(II)V"⟩ : MethodName)) hown (mvT hZ (wd hw 110 rfl)) (mvT hZ (wd hw 111 rfl)) (mvT hZ (wd hw 6 rfl)) (mvT hZ (wd hw 112 rfl)) (by decide) (backOf (W := 0) (rm19 l Z a0 hw [] i k fm h0 n0 Z0 hfm SF O0 hi hk) hZ (wd hw 112 rfl) (wd hw 6 rfl) (by decide) (by decide)) (g := (mkF m 3 #[.val (.ref t1), .val (.int (i.toInt32))] [(.int (k.toInt32)), (.int (i.toInt32))])) rfl (by rw [hml]; rfl) (argsL := [(.int (i.toInt32)), (.int (k.toInt32))]) (rest := []) (lenOf pd_3 rfl) rfl (by show 2 * 0 + _ ≤ _; exact Nat.le_of_eq rfl) (hb hby d18_3) (fun _ _ => ⟨rfl, e0, (by decide : 0 + 0 ≤ _), (by decide : 0 + 0 ≤ _)⟩)
  dsimp only [Pt.U, Pt.locs, Pt.cells, Pt.slots] at X2 l2 y2 z2 st2 hQ2
  subst l2 y2 z2
  obtain ⟨rfl, N2q, e2⟩ := hQ2
  have N2 := Fr.app N0 N2q
  refine Go.st (pc' := 6) (S' := []) st2 ?_
  refine Go.st (pc' := 7) (S' := [(.ref t1)]) (fun t_ k_ => XS.aloadN X2.here hx rfl (hb hby d18_6) rfl rfl k_) ?_
  refine Go.st (pc' := 8) (S' := [(.int (i.toInt32)), (.ref t1)]) (fun t_ k_ => XS.iloadN X2.here hx rfl (hb hby d18_7) rfl k_) ?_
  obtain ⟨cl3, Ar3, -, q3a, q3b, q3c, q3d⟩ := id V_t
  refine Go.st (pc' := 9) (S' := [(.int (bs.getD (i) 0))]) (fun t_ k_ => X2.baloadBytes hx (j := (i.toInt32)) (v := (.int (bs.getD (i) 0))) (by rw [e2]; exact Ar3.1) (State.isArrayOf_alike hZ.alike Ar3.2.1) Ar3.2.2 (own_inbS q3a hi hk) (q3c.at (own_inbS q3a hi hk) (own_atI _ (by omega))) (g := (mkF m 8 #[.val (.ref t1), .val (.int (i.toInt32))] [(.int (i.toInt32)), (.ref t1)])) rfl rfl (hb hby d18_8) t_ k_) ?_
  refine Go.st (pc' := 12) (S' := [(.int (255 : Int32)), (.int (bs.getD (i) 0))]) (fun t_ k_ => XS.sipush X2.here hx rfl (hb hby d18_9) k_) ?_
  refine Go.st (pc' := 13) (S' := [(.int ((bs.getD (i) 0) &&& (255 : Int32)))]) (fun t_ k_ => XS.iand X2.here hx rfl (hb hby d18_12) rfl k_) ?_
  refine Go.st (pc' := 14) (S' := [(.int (((bs.getD (i) 0) &&& (255 : Int32)).toUInt32.toUInt16.toUInt32.toInt32))]) (fun t_ k_ => XS.i2c X2.here hx rfl (hb hby d18_13) rfl k_) ?_
  exact Go.retN X2 hx hlk hret (by simp) (hb hby d18_14) (by decide) (by decide) (by rw [e2]; exact ⟨rfl, N2, rfl⟩)
theorem d16_0 : decode jdk_42_method_56_code 0 = .ok (.aload_n 0, 1) := by decide +kernel
theorem d16_1 : decode jdk_42_method_56_code 1 = .ok (.invokevirtual 492, 3) := by decide +kernel
theorem d16_4 : decode jdk_42_method_56_code 4 = .ok (.ifCond .eq 12, 3) := by decide +kernel
theorem d16_7 : decode jdk_42_method_56_code 7 = .ok (.aload_n 0, 1) := by decide +kernel
theorem d16_8 : decode jdk_42_method_56_code 8 = .ok (.getfield 9, 3) := by decide +kernel
theorem d16_11 : decode jdk_42_method_56_code 11 = .ok (.iload_n 1, 1) := by decide +kernel
theorem d16_12 : decode jdk_42_method_56_code 12 = .ok (.invokestatic 495, 3) := by decide +kernel
theorem d16_15 : decode jdk_42_method_56_code 15 = .ok (.ireturn, 1) := by decide +kernel
theorem pd_4 : parseMethodDescriptor "()Z" = some ⟨[], some .boolean⟩ := by decide +kernel
theorem pd_5 : parseMethodDescriptor "([BI)C" = some ⟨[(.array .byte), .int], some .char⟩ := by decide +kernel
def Q16 (Z : State) (a1 : Addr) (t1 : Addr) (k1 : ClassId) (bs : List Int32) (i : Nat) (k : Nat) (fm : Value) (gC : Int32) (h0 : Heap) (n0 : Nat) (v : Option Value) (h : Heap) (L : List Loc) : Prop := v = some (.int (own_ch (bs.getD (i) 0))) ∧ Fr n0 L ∧ h = h0
def room16 : Room := { frames := 3, cells := 0, slots := 0, locals := 40 }
theorem rm16 (l : Launch) (Z : State) (a0 : Array Value) (hw : ∀ d ∈ tables_1, d.before a0 Z = true) (ws : List Jvm.Cond) (a1 : Addr) (t1 : Addr) (k1 : ClassId) (bs : List Int32) (i : Nat) (k : Nat) (fm : Value) (gC : Int32) (h0 : Heap) (n0 : Nat) (Z0 : n0 ≤ h0.size) (SC : Sta Z Z.heap "java/lang/String" "COMPACT_STRINGS" "Z" (.int gC)) (PC : ¬ (gC = (0 : Int32))) (O0 : Old Z n0 h0) (hfm : fm.isRef = true) (SF : Sta Z Z.heap "jdk/internal/util/Preconditions" "SIOOBE_FORMATTER" "Ljava/util/function/BiFunction;" fm) (E_a1 : Exa Z h0 a1 "java/lang/String") (Fc_a1 : Fld Z h0 a1 "java/lang/String" "coder" "B" (.int (0 : Int32))) (Fv_a1 : Fld Z h0 a1 "java/lang/String" "value" "[B" (.ref t1)) (V_t1 : Arv Z h0 t1 k1 .byte (k.toInt32) (bs.map Value.int) (.int (0 : Int32))) (hi : i < k) (hk : k < 2147483648) :
    MetFree l (⟨"java/lang/String", "charAt", "(I)C"⟩ : MethodName) (head1 (Jvm.Cond.code (⟨"java/lang/String", "charAt", "(I)C"⟩ : MethodName) jdk_42_method_56_code 2 (some .char) :: ws) room16) (fun aa_ U_ => aa_ = #[(.ref a1), (.int (i.toInt32))] ∧ Z.Warmed39 U_.vm ∧ U_.heap = h0) (fun _ _ _ _ _ => True) (fun _ U_ o_ W_ => ∃ v_ L_, o_ = .returned v_ ∧ (Q16 Z a1 t1 k1 bs i k fm gC h0 n0) v_ W_.heap L_ ∧ FrameEnd U_ o_ W_ L_ room16.cells room16.slots) := by
  refine own_met (Q := (Q16 Z a1 t1 k1 bs i k fm gC h0 n0)) (L0 := #[.val (.ref a1), .val (.int (i.toInt32))]) (plainFor_of_name pn_0) (fun m => by first | (simp [entryFrame, mkF, argsToLocals, Value.category]; done) | rfl) ?_
  intro p e s m below meth c T0 X0 hx hby hml hown hnm hret hlk hZ e0
  have N0 := Fr.nil n0
  refine Go.st (pc' := 1) (S' := [(.ref a1)]) (fun t_ k_ => XS.aloadN X0.here hx rfl (hb hby d16_0) rfl rfl k_) ?_
  obtain ⟨cq1, kq1, q1a, q1b, q1c⟩ := isOf hZ e0 E_a1
  obtain ⟨_, _, ⟨T1, L1, k1, n1⟩, -, X1, ⟨Lc1, hQ1, l1, y1, z1⟩, st1⟩ := X0.virtualBack hx (y := (⟨"java/lang/String", "isLatin1", "()Z"⟩ : MethodName)) (z := (⟨"java/lang/String", "isLatin1", "()Z"⟩ : MethodName)) hown (mvT hZ (wd hw 102 rfl)) (mvT hZ (wd hw 103 rfl)) (notFace_of_selects (args := #[]) (mvT hZ (wd hw 105 rfl))) (mvT hZ (wd hw 105 rfl)) (mvT hZ (wd hw 104 rfl)) (by decide) (backOf (W := 0) (rm17 l Z a0 hw [] a1 gC h0 n0 Z0 SC PC O0 Fc_a1) hZ (wd hw 106 rfl) (wd hw 6 rfl) (by decide) (by decide)) q1a q1c (g := (mkF m 1 #[.val (.ref a1), .val (.int (i.toInt32))] [(.ref a1)])) rfl (by rw [hml]; rfl) (Steps.refl _) (argsL := []) (rest := []) (lenOf pd_4 rfl) rfl (by show 2 * 0 + _ ≤ _; exact Nat.le_of_eq rfl) (hb hby d16_1) (fun _ _ => ⟨rfl, e0, (by decide : 0 + 0 ≤ _), (by decide : 0 + 0 ≤ _)⟩)
  dsimp only [Pt.U, Pt.locs, Pt.cells, Pt.slots] at X1 l1 y1 z1 st1 hQ1
  subst l1 y1 z1
  obtain ⟨rfl, N1q, e1⟩ := hQ1
  have N1 := Fr.app N0 N1q
  refine Go.tr (pc' := 4) (S' := [(.int (1 : Int32))]) st1 ?_
  refine Go.st (pc' := 7) (S' := []) (fun t_ k_ => XS.ifNo X1.here hx rfl (hb hby d16_4) rfl ((if0 _ _).trans (feq (by decide : ¬ ((1 : Int32) = (0 : Int32)))).1) k_) ?_
  refine Go.st (pc' := 8) (S' := [(.ref a1)]) (fun t_ k_ => XS.aloadN X1.here hx rfl (hb hby d16_7) rfl rfl k_) ?_
  obtain ⟨T2, X2, e2, st2⟩ := getF X1 hx hZ hown (host := "") (Or.inl (wd hw 29 rfl)) Via.refl e1 Fv_a1 (g := (mkF m 8 #[.val (.ref a1), .val (.int (i.toInt32))] [(.ref a1)])) rfl rfl (hb hby d16_8)
  refine Go.st (pc' := 11) (S' := [(.ref t1)]) st2 ?_
  refine Go.st (pc' := 12) (S' := [(.int (i.toInt32)), (.ref t1)]) (fun t_ k_ => XS.iloadN X2.here hx rfl (hb hby d16_11) rfl k_) ?_
  obtain ⟨_, _, ⟨T3, L3, k3, n3⟩, -, X3, ⟨Lc3, hQ3, l3, y3, z3⟩, st3⟩ := Jvm.LawKit.callS X2 hx (y := (⟨"java/lang/StringLatin1", "charAt", "([BI)C"⟩ : MethodName)) hown (mvT hZ (wd hw 107 rfl)) (mvT hZ (wd hw 108 rfl)) (mvT hZ (wd hw 43 rfl)) (mvT hZ (wd hw 109 rfl)) (by decide) (backOf (W := 0) (rm18 l Z a0 hw [] t1 _ _ i k fm h0 n0 Z0 hfm SF O0 V_t1 hi hk) hZ (wd hw 109 rfl) (wd hw 43 rfl) (by decide) (by decide)) (g := (mkF m 12 #[.val (.ref a1), .val (.int (i.toInt32))] [(.int (i.toInt32)), (.ref t1)])) rfl (by rw [hml]; rfl) (argsL := [(.ref t1), (.int (i.toInt32))]) (rest := []) (lenOf pd_5 rfl) rfl (by show 2 * 0 + _ ≤ _; exact Nat.le_of_eq rfl) (hb hby d16_12) (fun _ _ => ⟨rfl, e2, (by decide : 0 + 0 ≤ _), (by decide : 0 + 0 ≤ _)⟩)
  dsimp only [Pt.U, Pt.locs, Pt.cells, Pt.slots] at X3 l3 y3 z3 st3 hQ3
  subst l3 y3 z3
  obtain ⟨rfl, N3q, e3⟩ := hQ3
  have N3 := Fr.app N1 N3q
  refine Go.st (pc' := 15) (S' := [(.int (nar .char ((bs.getD (i) 0 &&& (255 : Int32)).toUInt32.toUInt16.toUInt32.toInt32)))]) st3 ?_
  exact Go.retN X3 hx hlk hret (by simp) (hb hby d16_15) (by decide) (by decide) (by rw [e3]; exact ⟨rfl, N3, rfl⟩)
theorem d1_0 : decode method_2_code 0 = .ok (.iload_n 0, 1) := by decide +kernel
theorem d1_1 : decode method_2_code 1 = .ok (.ifCond .ne 6, 3) := by decide +kernel
theorem d1_4 : decode method_2_code 4 = .ok (.ldc 7, 2) := by decide +kernel
theorem d1_6 : decode method_2_code 6 = .ok (.areturn, 1) := by decide +kernel
theorem d1_7 : decode method_2_code 7 = .ok (.iload_n 0, 1) := by decide +kernel
theorem d1_8 : decode method_2_code 8 = .ok (.iconst 1, 1) := by decide +kernel
theorem d1_9 : decode method_2_code 9 = .ok (.if_icmp .ne 6, 3) := by decide +kernel
theorem d1_12 : decode method_2_code 12 = .ok (.ldc 9, 2) := by decide +kernel
theorem d1_14 : decode method_2_code 14 = .ok (.areturn, 1) := by decide +kernel
theorem d1_15 : decode method_2_code 15 = .ok (.ldc 11, 2) := by decide +kernel
theorem d1_17 : decode method_2_code 17 = .ok (.areturn, 1) := by decide +kernel
theorem pn_3 : plainName "com/example/vestry/vestry/io/PaymentFormNamedPinLaw" = true := by first | (simp [plainName, overriddenIn]; done) | decide +kernel
def Qbase (Z : State)  (h0 : Heap) (n0 : Nat) (v : Option Value) (h : Heap) (L : List Loc) : Prop := ∃ (r t : Addr) (kt : ClassId) (bs : List Int32) (n : Nat), v = some (.ref r) ∧ Fr n0 L ∧ Keep h0 h [] ∧ Exa Z h r "java/lang/String" ∧ Fld Z h r "java/lang/String" "coder" "B" (.int (0 : Int32)) ∧ Fld Z h r "java/lang/String" "value" "[B" (.ref t) ∧ Arv Z h t kt .byte (n.toInt32) (bs.map Value.int) (.int (0 : Int32)) ∧ (n = 8 ∨ n = 12)
def roombase : Room := { frames := 0, cells := 2, slots := 52, locals := 0 }
theorem rmbase (l : Launch) (Z : State) (a0 : Array Value) (hw : ∀ d ∈ tables_1, d.before a0 Z = true) (ws : List Jvm.Cond) (p1 : Int32) (h0 : Heap) (n0 : Nat) (Z0 : n0 ≤ h0.size)  :
    MetFree l (⟨"com/example/vestry/vestry/io/PaymentFormNamedPinLaw", "base", "(I)Ljava/lang/String;"⟩ : MethodName) (head1 (Jvm.Cond.code (⟨"com/example/vestry/vestry/io/PaymentFormNamedPinLaw", "base", "(I)Ljava/lang/String;"⟩ : MethodName) method_2_code 1 (some (.object "java/lang/String")) :: ws) roombase) (fun aa_ U_ => aa_ = #[(.int p1)] ∧ Z.Warmed39 U_.vm ∧ U_.heap = h0 ∧ CHv Z EL U_.vm h0) (fun _ _ _ _ _ => True) (fun _ U_ o_ W_ => ∃ v_ L_, o_ = .returned v_ ∧ (Qbase Z  h0 n0) v_ W_.heap L_ ∧ CHr Z EL U_.vm U_.heap W_.vm W_.heap ∧ ReturnedEndW U_ o_ W_ L_ roombase.cells roombase.slots) := by
  refine own_metH (Q := (Qbase Z  h0 n0)) (L0 := #[.val (.int p1)]) (plainFor_of_name pn_3) (fun m => by first | (simp [entryFrame, mkF, argsToLocals, Value.category]; done) | rfl) ?_
  intro p e s m below meth c T0 X0 hx hby hml hown hnm hret hlk hZ e0 hs0 CR hS hk
  have N0 := Fr.nil n0
  have K0 := Keep.refl h0 []
  refine GoH.st (pc' := 1) (S' := [(.int p1)]) (fun t_ k_ => XS.iloadN X0.here hx rfl (hb hby d1_0) rfl k_) ?_
  by_cases hc1_1 : p1 = (0 : Int32)
  · refine GoH.st (pc' := 4) (S' := []) (fun t_ k_ => XS.ifNo X0.here hx rfl (hb hby d1_1) rfl ((if0 _ _).trans (teq hc1_1).2) k_) ?_
    obtain ⟨a2_, T2, h2, k2, b2_, c2, X2, e2, E2, hS2, hk2, hZ2, ho2, E_a2_, Fc_a2_, Fv_a2_, V_b2_, lta2, ltb2, CR2, -, Sf2, st2⟩ := ldcCH X0 hx hZ hown (wd hw 5 rfl) (own_wS hw) e0 hS hk (own_EW hw) (by decide : ("com/example/vestry/vestry/io/PaymentFormNamedPinLaw", 7) ∈ EL) CR.1 (vs := [(.int (108 : Int32)), (.int (117 : Int32)), (.int (109 : Int32)), (.int (112 : Int32)), (.int (45 : Int32)), (.int (115 : Int32)), (.int (117 : Int32)), (.int (109 : Int32))]) (z := (8 : Int32)) ⟨by decide, by decide⟩ (by decide) rfl (g := (mkF m 4 #[.val (.int p1)] [])) rfl (hb hby d1_4) (n := 32) (by decide) (by decide) (by decide) (by decide)
    replace CR := CR.trans CR2
    replace Z0 := Nat.le_trans Z0 E2.1
    replace K0 := K0.ext E2
    replace hZ := hZ2
    replace hown := ho2
    replace hS := hS2
    replace hk := hk2
    refine GoH.st (pc' := 6) (S' := [(.ref a2_)]) st2 ?_
    exact GoH.retO X2 hx hlk hret rfl (by simp [FieldType.isReference, Value.isRef]) (hb hby d1_6) (by decide) (by decide) hS hk e2 hs0 hZ (own_EW hw) CR (by rw [e2]; exact ⟨a2_, b2_, _, ([(108 : Int32), (117 : Int32), (109 : Int32), (112 : Int32), (45 : Int32), (115 : Int32), (117 : Int32), (109 : Int32)] : List Int32), 8, rfl, N0, K0, E_a2_, Fc_a2_, Fv_a2_, V_b2_, by decide⟩)
  · refine GoH.st (pc' := 7) (S' := []) (fun t_ k_ => XS.ifYes X0.here hx rfl (pc0 := 1) (pc' := 7) rfl (hb hby d1_1) rfl ((if0 _ _).trans (feq hc1_1).2) (by decide) (by decide) k_) ?_
    refine GoH.st (pc' := 8) (S' := [(.int p1)]) (fun t_ k_ => XS.iloadN X0.here hx rfl (hb hby d1_7) rfl k_) ?_
    refine GoH.st (pc' := 9) (S' := [(.int (1 : Int32)), (.int p1)]) (fun t_ k_ => XS.iconst X0.here hx rfl (hb hby d1_8) k_) ?_
    by_cases hc9_3 : p1 = (1 : Int32)
    · refine GoH.st (pc' := 12) (S' := []) (fun t_ k_ => XS.icmpNo X0.here hx rfl (hb hby d1_9) rfl (teq hc9_3).2 k_) ?_
      obtain ⟨a4_, T4, h4, k4, b4_, c4, X4, e4, E4, hS4, hk4, hZ4, ho4, E_a4_, Fc_a4_, Fv_a4_, V_b4_, lta4, ltb4, CR4, -, Sf4, st4⟩ := ldcCH X0 hx hZ hown (wd hw 45 rfl) (own_wS hw) e0 hS hk (own_EW hw) (by decide : ("com/example/vestry/vestry/io/PaymentFormNamedPinLaw", 9) ∈ EL) CR.1 (vs := [(.int (105 : Int32)), (.int (110 : Int32)), (.int (115 : Int32)), (.int (116 : Int32)), (.int (97 : Int32)), (.int (108 : Int32)), (.int (108 : Int32)), (.int (109 : Int32)), (.int (101 : Int32)), (.int (110 : Int32)), (.int (116 : Int32)), (.int (115 : Int32))]) (z := (12 : Int32)) ⟨by decide, by decide⟩ (by decide) rfl (g := (mkF m 12 #[.val (.int p1)] [])) rfl (hb hby d1_12) (n := 48) (by decide) (by decide) (by decide) (by decide)
      replace CR := CR.trans CR4
      replace Z0 := Nat.le_trans Z0 E4.1
      replace K0 := K0.ext E4
      replace hZ := hZ4
      replace hown := ho4
      replace hS := hS4
      replace hk := hk4
      refine GoH.st (pc' := 14) (S' := [(.ref a4_)]) st4 ?_
      exact GoH.retO X4 hx hlk hret rfl (by simp [FieldType.isReference, Value.isRef]) (hb hby d1_14) (by decide) (by decide) hS hk e4 hs0 hZ (own_EW hw) CR (by rw [e4]; exact ⟨a4_, b4_, _, ([(105 : Int32), (110 : Int32), (115 : Int32), (116 : Int32), (97 : Int32), (108 : Int32), (108 : Int32), (109 : Int32), (101 : Int32), (110 : Int32), (116 : Int32), (115 : Int32)] : List Int32), 12, rfl, N0, K0, E_a4_, Fc_a4_, Fv_a4_, V_b4_, by decide⟩)
    · refine GoH.st (pc' := 15) (S' := []) (fun t_ k_ => XS.icmpYes X0.here hx rfl (pc0 := 9) (pc' := 15) rfl (hb hby d1_9) rfl (feq hc9_3).2 (by decide) (by decide) k_) ?_
      obtain ⟨a5_, T5, h5, k5, b5_, c5, X5, e5, E5, hS5, hk5, hZ5, ho5, E_a5_, Fc_a5_, Fv_a5_, V_b5_, lta5, ltb5, CR5, -, Sf5, st5⟩ := ldcCH X0 hx hZ hown (wd hw 46 rfl) (own_wS hw) e0 hS hk (own_EW hw) (by decide : ("com/example/vestry/vestry/io/PaymentFormNamedPinLaw", 11) ∈ EL) CR.1 (vs := [(.int (108 : Int32)), (.int (105 : Int32)), (.int (102 : Int32)), (.int (101 : Int32)), (.int (45 : Int32)), (.int (97 : Int32)), (.int (110 : Int32)), (.int (110 : Int32)), (.int (117 : Int32)), (.int (105 : Int32)), (.int (116 : Int32)), (.int (121 : Int32))]) (z := (12 : Int32)) ⟨by decide, by decide⟩ (by decide) rfl (g := (mkF m 15 #[.val (.int p1)] [])) rfl (hb hby d1_15) (n := 48) (by decide) (by decide) (by decide) (by decide)
      replace CR := CR.trans CR5
      replace Z0 := Nat.le_trans Z0 E5.1
      replace K0 := K0.ext E5
      replace hZ := hZ5
      replace hown := ho5
      replace hS := hS5
      replace hk := hk5
      refine GoH.st (pc' := 17) (S' := [(.ref a5_)]) st5 ?_
      exact GoH.retO X5 hx hlk hret rfl (by simp [FieldType.isReference, Value.isRef]) (hb hby d1_17) (by decide) (by decide) hS hk e5 hs0 hZ (own_EW hw) CR (by rw [e5]; exact ⟨a5_, b5_, _, ([(108 : Int32), (105 : Int32), (102 : Int32), (101 : Int32), (45 : Int32), (97 : Int32), (110 : Int32), (110 : Int32), (117 : Int32), (105 : Int32), (116 : Int32), (121 : Int32)] : List Int32), 12, rfl, N0, K0, E_a5_, Fc_a5_, Fv_a5_, V_b5_, by decide⟩)
theorem d15_0 : decode method_3_code 0 = .ok (.iload_n 1, 1) := by decide +kernel
theorem d15_1 : decode method_3_code 1 = .ok (.aload_n 0, 1) := by decide +kernel
theorem d15_2 : decode method_3_code 2 = .ok (.invokevirtual 13, 3) := by decide +kernel
theorem d15_5 : decode method_3_code 5 = .ok (.if_icmp .ge 9, 3) := by decide +kernel
theorem d15_8 : decode method_3_code 8 = .ok (.aload_n 0, 1) := by decide +kernel
theorem d15_9 : decode method_3_code 9 = .ok (.iload_n 1, 1) := by decide +kernel
theorem d15_10 : decode method_3_code 10 = .ok (.invokevirtual 19, 3) := by decide +kernel
theorem d15_13 : decode method_3_code 13 = .ok (.ireturn, 1) := by decide +kernel
theorem d15_14 : decode method_3_code 14 = .ok (.iload_n 2, 1) := by decide +kernel
theorem d15_15 : decode method_3_code 15 = .ok (.i2c, 1) := by decide +kernel
theorem d15_16 : decode method_3_code 16 = .ok (.ireturn, 1) := by decide +kernel
theorem pd_6 : parseMethodDescriptor "()I" = some ⟨[], some .int⟩ := by decide +kernel
theorem pd_7 : parseMethodDescriptor "(I)C" = some ⟨[.int], some .char⟩ := by decide +kernel
def Qat (Z : State)  (h0 : Heap) (n0 : Nat) (v : Option Value) (h : Heap) (L : List Loc) : Prop := ∃ c : Int32, v = some (.int c) ∧ own_lt c ∧ Fr n0 L ∧ h = h0
def roomat : Room := { frames := 4, cells := 0, slots := 0, locals := 53 }
theorem rmat (l : Launch) (Z : State) (a0 : Array Value) (hw : ∀ d ∈ tables_1, d.before a0 Z = true) (ws : List Jvm.Cond) (a1 : Addr) (t1 : Addr) (k1 : ClassId) (bs : List Int32) (i : Nat) (k : Nat) (ee : Int32) (fm : Value) (gC : Int32) (h0 : Heap) (n0 : Nat) (Z0 : n0 ≤ h0.size) (SC : Sta Z Z.heap "java/lang/String" "COMPACT_STRINGS" "Z" (.int gC)) (PC : ¬ (gC = (0 : Int32))) (O0 : Old Z n0 h0) (hfm : fm.isRef = true) (SF : Sta Z Z.heap "jdk/internal/util/Preconditions" "SIOOBE_FORMATTER" "Ljava/util/function/BiFunction;" fm) (E_a1 : Exa Z h0 a1 "java/lang/String") (Fc_a1 : Fld Z h0 a1 "java/lang/String" "coder" "B" (.int (0 : Int32))) (Fv_a1 : Fld Z h0 a1 "java/lang/String" "value" "[B" (.ref t1)) (V_t1 : Arv Z h0 t1 k1 .byte (k.toInt32) (bs.map Value.int) (.int (0 : Int32))) (hi13 : i < 13) (hk13 : k ≤ 13) (he : own_lt ee) :
    MetFree l (⟨"com/example/vestry/vestry/io/PaymentFormNamedPinLaw", "at", "(Ljava/lang/String;II)C"⟩ : MethodName) (head1 (Jvm.Cond.code (⟨"com/example/vestry/vestry/io/PaymentFormNamedPinLaw", "at", "(Ljava/lang/String;II)C"⟩ : MethodName) method_3_code 3 (some .char) :: ws) roomat) (fun aa_ U_ => aa_ = #[(.ref a1), (.int (i.toInt32)), (.int ee)] ∧ Z.Warmed39 U_.vm ∧ U_.heap = h0) (fun _ _ _ _ _ => True) (fun _ U_ o_ W_ => ∃ v_ L_, o_ = .returned v_ ∧ (Qat Z  h0 n0) v_ W_.heap L_ ∧ FrameEnd U_ o_ W_ L_ roomat.cells roomat.slots) := by
  refine own_met (Q := (Qat Z  h0 n0)) (L0 := #[.val (.ref a1), .val (.int (i.toInt32)), .val (.int ee)]) (plainFor_of_name pn_3) (fun m => by first | (simp [entryFrame, mkF, argsToLocals, Value.category]; done) | rfl) ?_
  intro p e s m below meth c T0 X0 hx hby hml hown hnm hret hlk hZ e0
  have N0 := Fr.nil n0
  refine Go.st (pc' := 1) (S' := [(.int (i.toInt32))]) (fun t_ k_ => XS.iloadN X0.here hx rfl (hb hby d15_0) rfl k_) ?_
  refine Go.st (pc' := 2) (S' := [(.ref a1), (.int (i.toInt32))]) (fun t_ k_ => XS.aloadN X0.here hx rfl (hb hby d15_1) rfl rfl k_) ?_
  obtain ⟨cq1, kq1, q1a, q1b, q1c⟩ := isOf hZ e0 E_a1
  obtain ⟨_, _, ⟨T1, L1, k1, n1⟩, -, X1, ⟨Lc1, hQ1, l1, y1, z1⟩, st1⟩ := X0.virtualBack hx (y := (⟨"java/lang/String", "length", "()I"⟩ : MethodName)) (z := (⟨"java/lang/String", "length", "()I"⟩ : MethodName)) hown (mvT hZ (wd hw 84 rfl)) (mvT hZ (wd hw 85 rfl)) (notFace_of_selects (args := #[]) (mvT hZ (wd hw 87 rfl))) (mvT hZ (wd hw 87 rfl)) (mvT hZ (wd hw 86 rfl)) (by decide) (backOf (W := 1) (rm13 l Z a0 hw [] a1 t1 _ gC (k.toInt32) (bs) h0 n0 Z0 SC PC O0 E_a1 Fc_a1 Fv_a1 V_t1) hZ (wd hw 88 rfl) (wd hw 6 rfl) (by decide) (by decide)) q1a q1c (g := (mkF m 2 #[.val (.ref a1), .val (.int (i.toInt32)), .val (.int ee)] [(.ref a1), (.int (i.toInt32))])) rfl (by rw [hml]; rfl) (Steps.refl _) (argsL := []) (rest := [(.int (i.toInt32))]) (lenOf pd_6 rfl) rfl (by show 2 * 0 + _ ≤ _; exact Nat.le_of_eq rfl) (hb hby d15_2) (fun _ _ => ⟨rfl, e0, (by decide : 0 + 0 ≤ _), (by decide : 0 + 0 ≤ _)⟩)
  dsimp only [Pt.U, Pt.locs, Pt.cells, Pt.slots] at X1 l1 y1 z1 st1 hQ1
  subst l1 y1 z1
  obtain ⟨rfl, N1q, e1⟩ := hQ1
  have N1 := Fr.app N0 N1q
  refine Go.tr (pc' := 5) (S' := [(.int (k.toInt32)), (.int (i.toInt32))]) st1 ?_
  by_cases hc5_2 : (i.toInt32) < (k.toInt32)
  · refine Go.st (pc' := 8) (S' := []) (fun t_ k_ => XS.icmpNo X1.here hx rfl (hb hby d15_5) rfl (tlt hc5_2).2.1 k_) ?_
    have hik : i < k := (own_ltI (by omega) (by omega)).mp hc5_2
    refine Go.st (pc' := 9) (S' := [(.ref a1)]) (fun t_ k_ => XS.aloadN X1.here hx rfl (hb hby d15_8) rfl rfl k_) ?_
    refine Go.st (pc' := 10) (S' := [(.int (i.toInt32)), (.ref a1)]) (fun t_ k_ => XS.iloadN X1.here hx rfl (hb hby d15_9) rfl k_) ?_
    obtain ⟨cq3, kq3, q3a, q3b, q3c⟩ := isOf hZ e1 E_a1
    obtain ⟨_, _, ⟨T3, L3, k3, n3⟩, -, X3, ⟨Lc3, hQ3, l3, y3, z3⟩, st3⟩ := X1.virtualBack hx (y := (⟨"java/lang/String", "charAt", "(I)C"⟩ : MethodName)) (z := (⟨"java/lang/String", "charAt", "(I)C"⟩ : MethodName)) hown (mvT hZ (wd hw 97 rfl)) (mvT hZ (wd hw 98 rfl)) (notFace_of_selects (args := #[]) (mvT hZ (wd hw 100 rfl))) (mvT hZ (wd hw 100 rfl)) (mvT hZ (wd hw 99 rfl)) (by decide) (backOf (W := 0) (rm16 l Z a0 hw [] a1 t1 _ (bs) (i) (k) fm gC h0 n0 Z0 SC PC O0 hfm SF E_a1 Fc_a1 Fv_a1 V_t1 hik (by omega)) hZ (wd hw 101 rfl) (wd hw 6 rfl) (by decide) (by decide)) q3a q3c (g := (mkF m 10 #[.val (.ref a1), .val (.int (i.toInt32)), .val (.int ee)] [(.int (i.toInt32)), (.ref a1)])) rfl (by rw [hml]; rfl) (Steps.refl _) (argsL := [(.int (i.toInt32))]) (rest := []) (lenOf pd_7 rfl) rfl (by show 2 * 0 + _ ≤ _; exact Nat.le_of_eq rfl) (hb hby d15_10) (fun _ _ => ⟨rfl, e1, (by decide : 0 + 0 ≤ _), (by decide : 0 + 0 ≤ _)⟩)
    dsimp only [Pt.U, Pt.locs, Pt.cells, Pt.slots] at X3 l3 y3 z3 st3 hQ3
    subst l3 y3 z3
    unfold Q16 at hQ3
    generalize hx3 : own_ch _ = xc3 at hQ3
    obtain ⟨rfl, N3q, e3⟩ := hQ3
    have N3 := Fr.app N1 N3q
    refine Go.tr (pc' := 13) (S' := [(.int xc3)]) st3 ?_
    exact Go.retN X3 hx hlk hret (by simp) (hb hby d15_13) (by decide) (by decide) (by rw [e3]; exact ⟨_, rfl, own_latn (by rw [← hx3]; exact own_chl _), N3, rfl⟩)
  · refine Go.st (pc' := 14) (S' := []) (fun t_ k_ => XS.icmpYes X1.here hx rfl (pc0 := 5) (pc' := 14) rfl (hb hby d15_5) rfl (flt hc5_2).2.1 (by decide) (by decide) k_) ?_
    refine Go.st (pc' := 15) (S' := [(.int ee)]) (fun t_ k_ => XS.iloadN X1.here hx rfl (hb hby d15_14) rfl k_) ?_
    refine Go.st (pc' := 16) (S' := [(.int (ee.toUInt32.toUInt16.toUInt32.toInt32))]) (fun t_ k_ => XS.i2c X1.here hx rfl (hb hby d15_15) rfl k_) ?_
    exact Go.retN X1 hx hlk hret (by simp) (hb hby d15_16) (by decide) (by decide) (by rw [e1]; exact ⟨_, rfl, own_latn (own_latn he), N1, rfl⟩)
def Qfill (Z : State) (n : Nat) (h0 : Heap) (n0 : Nat) (v : Option Value) (h : Heap) (L : List Loc) : Prop := ∃ (a : Addr) (ka : ClassId) (X : List Int32), v = some (.ref a) ∧ Fr n0 L ∧ Keep h0 h [] ∧ n0 ≤ a ∧ h0.size ≤ a ∧ Arv Z h a ka .char (n.toInt32) (X.map Value.int) (.int (0 : Int32)) ∧ own_lat X
theorem d2_206 : decode method_4_code 206 = .ok (.aload_n 3, 1) := by decide +kernel
theorem d2_207 : decode method_4_code 207 = .ok (.areturn, 1) := by decide +kernel
theorem d2_189 : decode method_4_code 189 = .ok (.iload_n 1, 1) := by decide +kernel
theorem d2_190 : decode method_4_code 190 = .ok (.bipush 12, 2) := by decide +kernel
theorem d2_192 : decode method_4_code 192 = .ok (.if_icmp .le 14, 3) := by decide +kernel
theorem d2_195 : decode method_4_code 195 = .ok (.aload_n 3, 1) := by decide +kernel
theorem d2_196 : decode method_4_code 196 = .ok (.bipush 12, 2) := by decide +kernel
theorem d2_198 : decode method_4_code 198 = .ok (.aload_n 0, 1) := by decide +kernel
theorem d2_199 : decode method_4_code 199 = .ok (.bipush 12, 2) := by decide +kernel
theorem d2_201 : decode method_4_code 201 = .ok (.iload_n 2, 1) := by decide +kernel
theorem d2_202 : decode method_4_code 202 = .ok (.invokestatic 23, 3) := by decide +kernel
theorem d2_205 : decode method_4_code 205 = .ok (.castore, 1) := by decide +kernel
theorem pd_8 : parseMethodDescriptor "(Ljava/lang/String;II)C" = some ⟨[(.object "java/lang/String"), .int, .int], some .char⟩ := by decide +kernel
theorem d2_172 : decode method_4_code 172 = .ok (.iload_n 1, 1) := by decide +kernel
theorem d2_173 : decode method_4_code 173 = .ok (.bipush 11, 2) := by decide +kernel
theorem d2_175 : decode method_4_code 175 = .ok (.if_icmp .le 14, 3) := by decide +kernel
theorem d2_178 : decode method_4_code 178 = .ok (.aload_n 3, 1) := by decide +kernel
theorem d2_179 : decode method_4_code 179 = .ok (.bipush 11, 2) := by decide +kernel
theorem d2_181 : decode method_4_code 181 = .ok (.aload_n 0, 1) := by decide +kernel
theorem d2_182 : decode method_4_code 182 = .ok (.bipush 11, 2) := by decide +kernel
theorem d2_184 : decode method_4_code 184 = .ok (.iload_n 2, 1) := by decide +kernel
theorem d2_185 : decode method_4_code 185 = .ok (.invokestatic 23, 3) := by decide +kernel
theorem d2_188 : decode method_4_code 188 = .ok (.castore, 1) := by decide +kernel
theorem d2_155 : decode method_4_code 155 = .ok (.iload_n 1, 1) := by decide +kernel
theorem d2_156 : decode method_4_code 156 = .ok (.bipush 10, 2) := by decide +kernel
theorem d2_158 : decode method_4_code 158 = .ok (.if_icmp .le 14, 3) := by decide +kernel
theorem d2_161 : decode method_4_code 161 = .ok (.aload_n 3, 1) := by decide +kernel
theorem d2_162 : decode method_4_code 162 = .ok (.bipush 10, 2) := by decide +kernel
theorem d2_164 : decode method_4_code 164 = .ok (.aload_n 0, 1) := by decide +kernel
theorem d2_165 : decode method_4_code 165 = .ok (.bipush 10, 2) := by decide +kernel
theorem d2_167 : decode method_4_code 167 = .ok (.iload_n 2, 1) := by decide +kernel
theorem d2_168 : decode method_4_code 168 = .ok (.invokestatic 23, 3) := by decide +kernel
theorem d2_171 : decode method_4_code 171 = .ok (.castore, 1) := by decide +kernel
theorem d2_138 : decode method_4_code 138 = .ok (.iload_n 1, 1) := by decide +kernel
theorem d2_139 : decode method_4_code 139 = .ok (.bipush 9, 2) := by decide +kernel
theorem d2_141 : decode method_4_code 141 = .ok (.if_icmp .le 14, 3) := by decide +kernel
theorem d2_144 : decode method_4_code 144 = .ok (.aload_n 3, 1) := by decide +kernel
theorem d2_145 : decode method_4_code 145 = .ok (.bipush 9, 2) := by decide +kernel
theorem d2_147 : decode method_4_code 147 = .ok (.aload_n 0, 1) := by decide +kernel
theorem d2_148 : decode method_4_code 148 = .ok (.bipush 9, 2) := by decide +kernel
theorem d2_150 : decode method_4_code 150 = .ok (.iload_n 2, 1) := by decide +kernel
theorem d2_151 : decode method_4_code 151 = .ok (.invokestatic 23, 3) := by decide +kernel
theorem d2_154 : decode method_4_code 154 = .ok (.castore, 1) := by decide +kernel
theorem d2_121 : decode method_4_code 121 = .ok (.iload_n 1, 1) := by decide +kernel
theorem d2_122 : decode method_4_code 122 = .ok (.bipush 8, 2) := by decide +kernel
theorem d2_124 : decode method_4_code 124 = .ok (.if_icmp .le 14, 3) := by decide +kernel
theorem d2_127 : decode method_4_code 127 = .ok (.aload_n 3, 1) := by decide +kernel
theorem d2_128 : decode method_4_code 128 = .ok (.bipush 8, 2) := by decide +kernel
theorem d2_130 : decode method_4_code 130 = .ok (.aload_n 0, 1) := by decide +kernel
theorem d2_131 : decode method_4_code 131 = .ok (.bipush 8, 2) := by decide +kernel
theorem d2_133 : decode method_4_code 133 = .ok (.iload_n 2, 1) := by decide +kernel
theorem d2_134 : decode method_4_code 134 = .ok (.invokestatic 23, 3) := by decide +kernel
theorem d2_137 : decode method_4_code 137 = .ok (.castore, 1) := by decide +kernel
theorem d2_104 : decode method_4_code 104 = .ok (.iload_n 1, 1) := by decide +kernel
theorem d2_105 : decode method_4_code 105 = .ok (.bipush 7, 2) := by decide +kernel
theorem d2_107 : decode method_4_code 107 = .ok (.if_icmp .le 14, 3) := by decide +kernel
theorem d2_110 : decode method_4_code 110 = .ok (.aload_n 3, 1) := by decide +kernel
theorem d2_111 : decode method_4_code 111 = .ok (.bipush 7, 2) := by decide +kernel
theorem d2_113 : decode method_4_code 113 = .ok (.aload_n 0, 1) := by decide +kernel
theorem d2_114 : decode method_4_code 114 = .ok (.bipush 7, 2) := by decide +kernel
theorem d2_116 : decode method_4_code 116 = .ok (.iload_n 2, 1) := by decide +kernel
theorem d2_117 : decode method_4_code 117 = .ok (.invokestatic 23, 3) := by decide +kernel
theorem d2_120 : decode method_4_code 120 = .ok (.castore, 1) := by decide +kernel
theorem d2_87 : decode method_4_code 87 = .ok (.iload_n 1, 1) := by decide +kernel
theorem d2_88 : decode method_4_code 88 = .ok (.bipush 6, 2) := by decide +kernel
theorem d2_90 : decode method_4_code 90 = .ok (.if_icmp .le 14, 3) := by decide +kernel
theorem d2_93 : decode method_4_code 93 = .ok (.aload_n 3, 1) := by decide +kernel
theorem d2_94 : decode method_4_code 94 = .ok (.bipush 6, 2) := by decide +kernel
theorem d2_96 : decode method_4_code 96 = .ok (.aload_n 0, 1) := by decide +kernel
theorem d2_97 : decode method_4_code 97 = .ok (.bipush 6, 2) := by decide +kernel
theorem d2_99 : decode method_4_code 99 = .ok (.iload_n 2, 1) := by decide +kernel
theorem d2_100 : decode method_4_code 100 = .ok (.invokestatic 23, 3) := by decide +kernel
theorem d2_103 : decode method_4_code 103 = .ok (.castore, 1) := by decide +kernel
theorem d2_73 : decode method_4_code 73 = .ok (.iload_n 1, 1) := by decide +kernel
theorem d2_74 : decode method_4_code 74 = .ok (.iconst 5, 1) := by decide +kernel
theorem d2_75 : decode method_4_code 75 = .ok (.if_icmp .le 12, 3) := by decide +kernel
theorem d2_78 : decode method_4_code 78 = .ok (.aload_n 3, 1) := by decide +kernel
theorem d2_79 : decode method_4_code 79 = .ok (.iconst 5, 1) := by decide +kernel
theorem d2_80 : decode method_4_code 80 = .ok (.aload_n 0, 1) := by decide +kernel
theorem d2_81 : decode method_4_code 81 = .ok (.iconst 5, 1) := by decide +kernel
theorem d2_82 : decode method_4_code 82 = .ok (.iload_n 2, 1) := by decide +kernel
theorem d2_83 : decode method_4_code 83 = .ok (.invokestatic 23, 3) := by decide +kernel
theorem d2_86 : decode method_4_code 86 = .ok (.castore, 1) := by decide +kernel
theorem d2_59 : decode method_4_code 59 = .ok (.iload_n 1, 1) := by decide +kernel
theorem d2_60 : decode method_4_code 60 = .ok (.iconst 4, 1) := by decide +kernel
theorem d2_61 : decode method_4_code 61 = .ok (.if_icmp .le 12, 3) := by decide +kernel
theorem d2_64 : decode method_4_code 64 = .ok (.aload_n 3, 1) := by decide +kernel
theorem d2_65 : decode method_4_code 65 = .ok (.iconst 4, 1) := by decide +kernel
theorem d2_66 : decode method_4_code 66 = .ok (.aload_n 0, 1) := by decide +kernel
theorem d2_67 : decode method_4_code 67 = .ok (.iconst 4, 1) := by decide +kernel
theorem d2_68 : decode method_4_code 68 = .ok (.iload_n 2, 1) := by decide +kernel
theorem d2_69 : decode method_4_code 69 = .ok (.invokestatic 23, 3) := by decide +kernel
theorem d2_72 : decode method_4_code 72 = .ok (.castore, 1) := by decide +kernel
theorem d2_45 : decode method_4_code 45 = .ok (.iload_n 1, 1) := by decide +kernel
theorem d2_46 : decode method_4_code 46 = .ok (.iconst 3, 1) := by decide +kernel
theorem d2_47 : decode method_4_code 47 = .ok (.if_icmp .le 12, 3) := by decide +kernel
theorem d2_50 : decode method_4_code 50 = .ok (.aload_n 3, 1) := by decide +kernel
theorem d2_51 : decode method_4_code 51 = .ok (.iconst 3, 1) := by decide +kernel
theorem d2_52 : decode method_4_code 52 = .ok (.aload_n 0, 1) := by decide +kernel
theorem d2_53 : decode method_4_code 53 = .ok (.iconst 3, 1) := by decide +kernel
theorem d2_54 : decode method_4_code 54 = .ok (.iload_n 2, 1) := by decide +kernel
theorem d2_55 : decode method_4_code 55 = .ok (.invokestatic 23, 3) := by decide +kernel
theorem d2_58 : decode method_4_code 58 = .ok (.castore, 1) := by decide +kernel
theorem d2_31 : decode method_4_code 31 = .ok (.iload_n 1, 1) := by decide +kernel
theorem d2_32 : decode method_4_code 32 = .ok (.iconst 2, 1) := by decide +kernel
theorem d2_33 : decode method_4_code 33 = .ok (.if_icmp .le 12, 3) := by decide +kernel
theorem d2_36 : decode method_4_code 36 = .ok (.aload_n 3, 1) := by decide +kernel
theorem d2_37 : decode method_4_code 37 = .ok (.iconst 2, 1) := by decide +kernel
theorem d2_38 : decode method_4_code 38 = .ok (.aload_n 0, 1) := by decide +kernel
theorem d2_39 : decode method_4_code 39 = .ok (.iconst 2, 1) := by decide +kernel
theorem d2_40 : decode method_4_code 40 = .ok (.iload_n 2, 1) := by decide +kernel
theorem d2_41 : decode method_4_code 41 = .ok (.invokestatic 23, 3) := by decide +kernel
theorem d2_44 : decode method_4_code 44 = .ok (.castore, 1) := by decide +kernel
theorem d2_17 : decode method_4_code 17 = .ok (.iload_n 1, 1) := by decide +kernel
theorem d2_18 : decode method_4_code 18 = .ok (.iconst 1, 1) := by decide +kernel
theorem d2_19 : decode method_4_code 19 = .ok (.if_icmp .le 12, 3) := by decide +kernel
theorem d2_22 : decode method_4_code 22 = .ok (.aload_n 3, 1) := by decide +kernel
theorem d2_23 : decode method_4_code 23 = .ok (.iconst 1, 1) := by decide +kernel
theorem d2_24 : decode method_4_code 24 = .ok (.aload_n 0, 1) := by decide +kernel
theorem d2_25 : decode method_4_code 25 = .ok (.iconst 1, 1) := by decide +kernel
theorem d2_26 : decode method_4_code 26 = .ok (.iload_n 2, 1) := by decide +kernel
theorem d2_27 : decode method_4_code 27 = .ok (.invokestatic 23, 3) := by decide +kernel
theorem d2_30 : decode method_4_code 30 = .ok (.castore, 1) := by decide +kernel
theorem d2_4 : decode method_4_code 4 = .ok (.iload_n 1, 1) := by decide +kernel
theorem d2_5 : decode method_4_code 5 = .ok (.ifCond .le 12, 3) := by decide +kernel
theorem d2_8 : decode method_4_code 8 = .ok (.aload_n 3, 1) := by decide +kernel
theorem d2_9 : decode method_4_code 9 = .ok (.iconst 0, 1) := by decide +kernel
theorem d2_10 : decode method_4_code 10 = .ok (.aload_n 0, 1) := by decide +kernel
theorem d2_11 : decode method_4_code 11 = .ok (.iconst 0, 1) := by decide +kernel
theorem d2_12 : decode method_4_code 12 = .ok (.iload_n 2, 1) := by decide +kernel
theorem d2_13 : decode method_4_code 13 = .ok (.invokestatic 23, 3) := by decide +kernel
theorem d2_16 : decode method_4_code 16 = .ok (.castore, 1) := by decide +kernel
theorem d2_0 : decode method_4_code 0 = .ok (.iload_n 1, 1) := by decide +kernel
theorem d2_1 : decode method_4_code 1 = .ok (.newarray .char, 2) := by decide +kernel
theorem d2_3 : decode method_4_code 3 = .ok (.astore_n 3, 1) := by decide +kernel
def roomfill : Room := { frames := 5, cells := 1, slots := 13, locals := 69 }
theorem sf13 {p : Program} {l : Launch} {e : Env} {s : State} {m : MethodId} {args : Array Value} {below : List Frame} {meth : Method} {c : Code} {T0 : State} {locs : List Loc} {Z : State} {a0 : Array Value} {n0 : Nat} {h0 hh : Heap} (a1 : Addr) (t1 : Addr) (k1 : ClassId) (bs : List Int32) (k : Nat) (n : Nat) (ee : Int32) (fm : Value) (gC : Int32) (ar : Addr) (ka : ClassId) (X : List Int32)
    (X0 : Stand p l e roomfill s m args below meth c T0 locs 1 13) (hx : p.tables.exec = Jvm.exec) (hZ : Z.Warmed39 s.vm) (hw : ∀ d ∈ tables_1, d.before a0 Z = true) (hby : c.code = method_4_code) (hml : c.maxLocals = 4) (hown : s.vm.findClass "com/example/vestry/vestry/io/PaymentFormNamedPinLaw" = some m.cls) (hnm : meth.name = "fill") (hret : meth.sig.returnType = (some (.array .char))) (hlk : meth.locks = false) (e0 : T0.heap = hh) (N0 : Fr n0 locs) (Z0 : n0 ≤ hh.size) (SC : Sta Z Z.heap "java/lang/String" "COMPACT_STRINGS" "Z" (.int gC)) (PC : ¬ (gC = (0 : Int32))) (O0 : Old Z n0 hh) (hfm : fm.isRef = true) (SF : Sta Z Z.heap "jdk/internal/util/Preconditions" "SIOOBE_FORMATTER" "Ljava/util/function/BiFunction;" fm) (E_a1 : Exa Z hh a1 "java/lang/String") (Fc_a1 : Fld Z hh a1 "java/lang/String" "coder" "B" (.int (0 : Int32))) (Fv_a1 : Fld Z hh a1 "java/lang/String" "value" "[B" (.ref t1)) (V_t1 : Arv Z hh t1 k1 .byte (k.toInt32) (bs.map Value.int) (.int (0 : Int32))) (hk13 : k ≤ 13) (hn13 : n ≤ 13) (he : own_lt ee) (K0 : Keep h0 hh []) (g_ar : n0 ≤ ar) (sz_ar : h0.size ≤ ar) (na1 : a1 ≠ ar) (na2 : t1 ≠ ar) (V_ar : Arv Z hh ar ka .char (n.toInt32) (X.map Value.int) (.int (0 : Int32))) (hL : own_lat X) :
    Go p e below s roomfill.cells roomfill.slots (Qfill Z n h0 n0) m T0 206 #[.val (.ref a1), .val (.int (n.toInt32)), .val (.int ee), .val (.ref ar)] [] := by
  refine Go.st (pc' := 207) (S' := [(.ref ar)]) (fun t_ k_ => XS.aloadN X0.here hx rfl (hb hby d2_206) rfl rfl k_) ?_
  exact Go.retO X0 hx hlk hret rfl (by simp [FieldType.isReference, Value.isRef]) (hb hby d2_207) (by decide) (by decide) (by rw [e0]; exact ⟨ar, _, X, rfl, N0, K0, g_ar, sz_ar, V_ar, hL⟩)
theorem sf12 {p : Program} {l : Launch} {e : Env} {s : State} {m : MethodId} {args : Array Value} {below : List Frame} {meth : Method} {c : Code} {T0 : State} {locs : List Loc} {Z : State} {a0 : Array Value} {n0 : Nat} {h0 hh : Heap} (a1 : Addr) (t1 : Addr) (k1 : ClassId) (bs : List Int32) (k : Nat) (n : Nat) (ee : Int32) (fm : Value) (gC : Int32) (ar : Addr) (ka : ClassId) (X : List Int32)
    (X0 : Stand p l e roomfill s m args below meth c T0 locs 1 13) (hx : p.tables.exec = Jvm.exec) (hZ : Z.Warmed39 s.vm) (hw : ∀ d ∈ tables_1, d.before a0 Z = true) (hby : c.code = method_4_code) (hml : c.maxLocals = 4) (hown : s.vm.findClass "com/example/vestry/vestry/io/PaymentFormNamedPinLaw" = some m.cls) (hnm : meth.name = "fill") (hret : meth.sig.returnType = (some (.array .char))) (hlk : meth.locks = false) (e0 : T0.heap = hh) (N0 : Fr n0 locs) (Z0 : n0 ≤ hh.size) (SC : Sta Z Z.heap "java/lang/String" "COMPACT_STRINGS" "Z" (.int gC)) (PC : ¬ (gC = (0 : Int32))) (O0 : Old Z n0 hh) (hfm : fm.isRef = true) (SF : Sta Z Z.heap "jdk/internal/util/Preconditions" "SIOOBE_FORMATTER" "Ljava/util/function/BiFunction;" fm) (E_a1 : Exa Z hh a1 "java/lang/String") (Fc_a1 : Fld Z hh a1 "java/lang/String" "coder" "B" (.int (0 : Int32))) (Fv_a1 : Fld Z hh a1 "java/lang/String" "value" "[B" (.ref t1)) (V_t1 : Arv Z hh t1 k1 .byte (k.toInt32) (bs.map Value.int) (.int (0 : Int32))) (hk13 : k ≤ 13) (hn13 : n ≤ 13) (he : own_lt ee) (K0 : Keep h0 hh []) (g_ar : n0 ≤ ar) (sz_ar : h0.size ≤ ar) (na1 : a1 ≠ ar) (na2 : t1 ≠ ar) (V_ar : Arv Z hh ar ka .char (n.toInt32) (X.map Value.int) (.int (0 : Int32))) (hL : own_lat X) :
    Go p e below s roomfill.cells roomfill.slots (Qfill Z n h0 n0) m T0 189 #[.val (.ref a1), .val (.int (n.toInt32)), .val (.int ee), .val (.ref ar)] [] := by
  refine Go.st (pc' := 190) (S' := [(.int (n.toInt32))]) (fun t_ k_ => XS.iloadN X0.here hx rfl (hb hby d2_189) rfl k_) ?_
  refine Go.st (pc' := 192) (S' := [(.int (12 : Int32)), (.int (n.toInt32))]) (fun t_ k_ => XS.bipush X0.here hx rfl (hb hby d2_190) k_) ?_
  by_cases hc192_1 : (12 : Int32) < (n.toInt32)
  · refine Go.st (pc' := 195) (S' := []) (fun t_ k_ => XS.icmpNo X0.here hx rfl (hb hby d2_192) rfl (tlt hc192_1).2.2.2 k_) ?_
    have hkn : 12 < n := (own_ltI (m := 12) (n := n) (by omega) (by omega)).mp hc192_1
    refine Go.st (pc' := 196) (S' := [(.ref ar)]) (fun t_ k_ => XS.aloadN X0.here hx rfl (hb hby d2_195) rfl rfl k_) ?_
    refine Go.st (pc' := 198) (S' := [(.int (12 : Int32)), (.ref ar)]) (fun t_ k_ => XS.bipush X0.here hx rfl (hb hby d2_196) k_) ?_
    refine Go.st (pc' := 199) (S' := [(.ref a1), (.int (12 : Int32)), (.ref ar)]) (fun t_ k_ => XS.aloadN X0.here hx rfl (hb hby d2_198) rfl rfl k_) ?_
    refine Go.st (pc' := 201) (S' := [(.int (12 : Int32)), (.ref a1), (.int (12 : Int32)), (.ref ar)]) (fun t_ k_ => XS.bipush X0.here hx rfl (hb hby d2_199) k_) ?_
    refine Go.st (pc' := 202) (S' := [(.int ee), (.int (12 : Int32)), (.ref a1), (.int (12 : Int32)), (.ref ar)]) (fun t_ k_ => XS.iloadN X0.here hx rfl (hb hby d2_201) rfl k_) ?_
    obtain ⟨_, _, ⟨T2, L2, k2, n2⟩, -, X2, ⟨Lc2, hQ2, l2, y2, z2⟩, st2⟩ := Jvm.LawKit.callS X0 hx (y := (⟨"com/example/vestry/vestry/io/PaymentFormNamedPinLaw", "at", "(Ljava/lang/String;II)C"⟩ : MethodName)) hown (mvT hZ (wd hw 94 rfl)) (mvT hZ (wd hw 95 rfl)) (mvT hZ (wd hw 3 rfl)) (mvT hZ (wd hw 96 rfl)) (by decide) (backOf (W := 2) (rmat l Z a0 hw [] a1 t1 _ (bs) 12 (k) ee fm gC hh n0 Z0 SC PC O0 hfm SF E_a1 Fc_a1 Fv_a1 V_t1 (by decide) hk13 he) hZ (wd hw 96 rfl) (wd hw 3 rfl) (by decide) (by decide)) (g := (mkF m 202 #[.val (.ref a1), .val (.int (n.toInt32)), .val (.int ee), .val (.ref ar)] [(.int ee), (.int (12 : Int32)), (.ref a1), (.int (12 : Int32)), (.ref ar)])) rfl (by rw [hml]; rfl) (argsL := [(.ref a1), (.int (12 : Int32)), (.int ee)]) (rest := [(.int (12 : Int32)), (.ref ar)]) (lenOf pd_8 rfl) rfl (by show 2 * 0 + _ ≤ _; exact Nat.le_of_eq rfl) (hb hby d2_202) (fun _ _ => ⟨rfl, e0, (by decide : 1 + 0 ≤ _), (by decide : 13 + 0 ≤ _)⟩)
    dsimp only [Pt.U, Pt.locs, Pt.cells, Pt.slots] at X2 l2 y2 z2 st2 hQ2
    subst l2 y2 z2
    obtain ⟨ca2, rfl, hl2, N2q, e2⟩ := hQ2
    have N2 := Fr.app N0 N2q
    refine Go.st (pc' := 205) (S' := [(.int ca2), (.int (12 : Int32)), (.ref ar)]) st2 ?_
    obtain ⟨cl3, Ar3, q31, q32, q33, q34, q35⟩ := V_ar
    obtain ⟨T3, h3, X3, e3, W3, st3⟩ := stC X2 hx hZ e2 Ar3 (j := (12 : Int32)) (own_inbS (i := 12) q32 hkn (by omega)) (g := (mkF m 205 #[.val (.ref a1), .val (.int (n.toInt32)), .val (.int ee), .val (.ref ar)] [(.int ca2), (.int (12 : Int32)), (.ref ar)])) rfl rfl (hb hby d2_205)
    replace V_ar := Arv.set Ar3 q31 q32 q33 q34 q35 (fits_nar_char _) W3 (12) (own_tn (i := 12) (by omega)) (by rw [List.length_map, hL.1]; omega)
    rw [own_setI] at V_ar
    replace hL := hL.set (own_latn hl2) (12)
    replace Z0 := Nat.le_trans Z0 (Keep.of_wr W3).1
    replace K0 := K0.wr W3 (Or.inr sz_ar)
    replace O0 := O0.wr W3 g_ar
    replace E_a1 := E_a1.wr W3
    replace Fc_a1 := Fc_a1.other W3 (Or.inl na1)
    replace Fv_a1 := Fv_a1.other W3 (Or.inl na1)
    replace V_t1 := V_t1.other W3 na2
    have N3 := Fr.snoc X3 N2 g_ar
    refine Go.st (pc' := 206) (S' := []) st3 ?_
    exact sf13 a1 t1 _ bs k n ee fm gC ar _ (X.set (12) (nar .char ca2)) (Stand.up X3 (by decide) (by decide)) hx hZ hw hby hml hown hnm hret hlk e3 N3 Z0 SC PC O0 hfm SF E_a1 Fc_a1 Fv_a1 V_t1 hk13 hn13 he K0 g_ar sz_ar na1 na2 V_ar  hL
  · refine Go.st (pc' := 206) (S' := []) (fun t_ k_ => XS.icmpYes X0.here hx rfl (pc0 := 192) (pc' := 206) rfl (hb hby d2_192) rfl (flt hc192_1).2.2.2 (by decide) (by decide) k_) ?_
    exact sf13 a1 t1 _ bs k n ee fm gC ar _ X (Stand.up X0 (by decide) (by decide)) hx hZ hw hby hml hown hnm hret hlk e0 N0 Z0 SC PC O0 hfm SF E_a1 Fc_a1 Fv_a1 V_t1 hk13 hn13 he K0 g_ar sz_ar na1 na2 V_ar  hL
theorem sf11 {p : Program} {l : Launch} {e : Env} {s : State} {m : MethodId} {args : Array Value} {below : List Frame} {meth : Method} {c : Code} {T0 : State} {locs : List Loc} {Z : State} {a0 : Array Value} {n0 : Nat} {h0 hh : Heap} (a1 : Addr) (t1 : Addr) (k1 : ClassId) (bs : List Int32) (k : Nat) (n : Nat) (ee : Int32) (fm : Value) (gC : Int32) (ar : Addr) (ka : ClassId) (X : List Int32)
    (X0 : Stand p l e roomfill s m args below meth c T0 locs 1 13) (hx : p.tables.exec = Jvm.exec) (hZ : Z.Warmed39 s.vm) (hw : ∀ d ∈ tables_1, d.before a0 Z = true) (hby : c.code = method_4_code) (hml : c.maxLocals = 4) (hown : s.vm.findClass "com/example/vestry/vestry/io/PaymentFormNamedPinLaw" = some m.cls) (hnm : meth.name = "fill") (hret : meth.sig.returnType = (some (.array .char))) (hlk : meth.locks = false) (e0 : T0.heap = hh) (N0 : Fr n0 locs) (Z0 : n0 ≤ hh.size) (SC : Sta Z Z.heap "java/lang/String" "COMPACT_STRINGS" "Z" (.int gC)) (PC : ¬ (gC = (0 : Int32))) (O0 : Old Z n0 hh) (hfm : fm.isRef = true) (SF : Sta Z Z.heap "jdk/internal/util/Preconditions" "SIOOBE_FORMATTER" "Ljava/util/function/BiFunction;" fm) (E_a1 : Exa Z hh a1 "java/lang/String") (Fc_a1 : Fld Z hh a1 "java/lang/String" "coder" "B" (.int (0 : Int32))) (Fv_a1 : Fld Z hh a1 "java/lang/String" "value" "[B" (.ref t1)) (V_t1 : Arv Z hh t1 k1 .byte (k.toInt32) (bs.map Value.int) (.int (0 : Int32))) (hk13 : k ≤ 13) (hn13 : n ≤ 13) (he : own_lt ee) (K0 : Keep h0 hh []) (g_ar : n0 ≤ ar) (sz_ar : h0.size ≤ ar) (na1 : a1 ≠ ar) (na2 : t1 ≠ ar) (V_ar : Arv Z hh ar ka .char (n.toInt32) (X.map Value.int) (.int (0 : Int32))) (hL : own_lat X) :
    Go p e below s roomfill.cells roomfill.slots (Qfill Z n h0 n0) m T0 172 #[.val (.ref a1), .val (.int (n.toInt32)), .val (.int ee), .val (.ref ar)] [] := by
  refine Go.st (pc' := 173) (S' := [(.int (n.toInt32))]) (fun t_ k_ => XS.iloadN X0.here hx rfl (hb hby d2_172) rfl k_) ?_
  refine Go.st (pc' := 175) (S' := [(.int (11 : Int32)), (.int (n.toInt32))]) (fun t_ k_ => XS.bipush X0.here hx rfl (hb hby d2_173) k_) ?_
  by_cases hc175_1 : (11 : Int32) < (n.toInt32)
  · refine Go.st (pc' := 178) (S' := []) (fun t_ k_ => XS.icmpNo X0.here hx rfl (hb hby d2_175) rfl (tlt hc175_1).2.2.2 k_) ?_
    have hkn : 11 < n := (own_ltI (m := 11) (n := n) (by omega) (by omega)).mp hc175_1
    refine Go.st (pc' := 179) (S' := [(.ref ar)]) (fun t_ k_ => XS.aloadN X0.here hx rfl (hb hby d2_178) rfl rfl k_) ?_
    refine Go.st (pc' := 181) (S' := [(.int (11 : Int32)), (.ref ar)]) (fun t_ k_ => XS.bipush X0.here hx rfl (hb hby d2_179) k_) ?_
    refine Go.st (pc' := 182) (S' := [(.ref a1), (.int (11 : Int32)), (.ref ar)]) (fun t_ k_ => XS.aloadN X0.here hx rfl (hb hby d2_181) rfl rfl k_) ?_
    refine Go.st (pc' := 184) (S' := [(.int (11 : Int32)), (.ref a1), (.int (11 : Int32)), (.ref ar)]) (fun t_ k_ => XS.bipush X0.here hx rfl (hb hby d2_182) k_) ?_
    refine Go.st (pc' := 185) (S' := [(.int ee), (.int (11 : Int32)), (.ref a1), (.int (11 : Int32)), (.ref ar)]) (fun t_ k_ => XS.iloadN X0.here hx rfl (hb hby d2_184) rfl k_) ?_
    obtain ⟨_, _, ⟨T2, L2, k2, n2⟩, -, X2, ⟨Lc2, hQ2, l2, y2, z2⟩, st2⟩ := Jvm.LawKit.callS X0 hx (y := (⟨"com/example/vestry/vestry/io/PaymentFormNamedPinLaw", "at", "(Ljava/lang/String;II)C"⟩ : MethodName)) hown (mvT hZ (wd hw 94 rfl)) (mvT hZ (wd hw 95 rfl)) (mvT hZ (wd hw 3 rfl)) (mvT hZ (wd hw 96 rfl)) (by decide) (backOf (W := 2) (rmat l Z a0 hw [] a1 t1 _ (bs) 11 (k) ee fm gC hh n0 Z0 SC PC O0 hfm SF E_a1 Fc_a1 Fv_a1 V_t1 (by decide) hk13 he) hZ (wd hw 96 rfl) (wd hw 3 rfl) (by decide) (by decide)) (g := (mkF m 185 #[.val (.ref a1), .val (.int (n.toInt32)), .val (.int ee), .val (.ref ar)] [(.int ee), (.int (11 : Int32)), (.ref a1), (.int (11 : Int32)), (.ref ar)])) rfl (by rw [hml]; rfl) (argsL := [(.ref a1), (.int (11 : Int32)), (.int ee)]) (rest := [(.int (11 : Int32)), (.ref ar)]) (lenOf pd_8 rfl) rfl (by show 2 * 0 + _ ≤ _; exact Nat.le_of_eq rfl) (hb hby d2_185) (fun _ _ => ⟨rfl, e0, (by decide : 1 + 0 ≤ _), (by decide : 13 + 0 ≤ _)⟩)
    dsimp only [Pt.U, Pt.locs, Pt.cells, Pt.slots] at X2 l2 y2 z2 st2 hQ2
    subst l2 y2 z2
    obtain ⟨ca2, rfl, hl2, N2q, e2⟩ := hQ2
    have N2 := Fr.app N0 N2q
    refine Go.st (pc' := 188) (S' := [(.int ca2), (.int (11 : Int32)), (.ref ar)]) st2 ?_
    obtain ⟨cl3, Ar3, q31, q32, q33, q34, q35⟩ := V_ar
    obtain ⟨T3, h3, X3, e3, W3, st3⟩ := stC X2 hx hZ e2 Ar3 (j := (11 : Int32)) (own_inbS (i := 11) q32 hkn (by omega)) (g := (mkF m 188 #[.val (.ref a1), .val (.int (n.toInt32)), .val (.int ee), .val (.ref ar)] [(.int ca2), (.int (11 : Int32)), (.ref ar)])) rfl rfl (hb hby d2_188)
    replace V_ar := Arv.set Ar3 q31 q32 q33 q34 q35 (fits_nar_char _) W3 (11) (own_tn (i := 11) (by omega)) (by rw [List.length_map, hL.1]; omega)
    rw [own_setI] at V_ar
    replace hL := hL.set (own_latn hl2) (11)
    replace Z0 := Nat.le_trans Z0 (Keep.of_wr W3).1
    replace K0 := K0.wr W3 (Or.inr sz_ar)
    replace O0 := O0.wr W3 g_ar
    replace E_a1 := E_a1.wr W3
    replace Fc_a1 := Fc_a1.other W3 (Or.inl na1)
    replace Fv_a1 := Fv_a1.other W3 (Or.inl na1)
    replace V_t1 := V_t1.other W3 na2
    have N3 := Fr.snoc X3 N2 g_ar
    refine Go.st (pc' := 189) (S' := []) st3 ?_
    exact sf12 a1 t1 _ bs k n ee fm gC ar _ (X.set (11) (nar .char ca2)) (Stand.up X3 (by decide) (by decide)) hx hZ hw hby hml hown hnm hret hlk e3 N3 Z0 SC PC O0 hfm SF E_a1 Fc_a1 Fv_a1 V_t1 hk13 hn13 he K0 g_ar sz_ar na1 na2 V_ar  hL
  · refine Go.st (pc' := 189) (S' := []) (fun t_ k_ => XS.icmpYes X0.here hx rfl (pc0 := 175) (pc' := 189) rfl (hb hby d2_175) rfl (flt hc175_1).2.2.2 (by decide) (by decide) k_) ?_
    exact sf12 a1 t1 _ bs k n ee fm gC ar _ X (Stand.up X0 (by decide) (by decide)) hx hZ hw hby hml hown hnm hret hlk e0 N0 Z0 SC PC O0 hfm SF E_a1 Fc_a1 Fv_a1 V_t1 hk13 hn13 he K0 g_ar sz_ar na1 na2 V_ar  hL
theorem sf10 {p : Program} {l : Launch} {e : Env} {s : State} {m : MethodId} {args : Array Value} {below : List Frame} {meth : Method} {c : Code} {T0 : State} {locs : List Loc} {Z : State} {a0 : Array Value} {n0 : Nat} {h0 hh : Heap} (a1 : Addr) (t1 : Addr) (k1 : ClassId) (bs : List Int32) (k : Nat) (n : Nat) (ee : Int32) (fm : Value) (gC : Int32) (ar : Addr) (ka : ClassId) (X : List Int32)
    (X0 : Stand p l e roomfill s m args below meth c T0 locs 1 13) (hx : p.tables.exec = Jvm.exec) (hZ : Z.Warmed39 s.vm) (hw : ∀ d ∈ tables_1, d.before a0 Z = true) (hby : c.code = method_4_code) (hml : c.maxLocals = 4) (hown : s.vm.findClass "com/example/vestry/vestry/io/PaymentFormNamedPinLaw" = some m.cls) (hnm : meth.name = "fill") (hret : meth.sig.returnType = (some (.array .char))) (hlk : meth.locks = false) (e0 : T0.heap = hh) (N0 : Fr n0 locs) (Z0 : n0 ≤ hh.size) (SC : Sta Z Z.heap "java/lang/String" "COMPACT_STRINGS" "Z" (.int gC)) (PC : ¬ (gC = (0 : Int32))) (O0 : Old Z n0 hh) (hfm : fm.isRef = true) (SF : Sta Z Z.heap "jdk/internal/util/Preconditions" "SIOOBE_FORMATTER" "Ljava/util/function/BiFunction;" fm) (E_a1 : Exa Z hh a1 "java/lang/String") (Fc_a1 : Fld Z hh a1 "java/lang/String" "coder" "B" (.int (0 : Int32))) (Fv_a1 : Fld Z hh a1 "java/lang/String" "value" "[B" (.ref t1)) (V_t1 : Arv Z hh t1 k1 .byte (k.toInt32) (bs.map Value.int) (.int (0 : Int32))) (hk13 : k ≤ 13) (hn13 : n ≤ 13) (he : own_lt ee) (K0 : Keep h0 hh []) (g_ar : n0 ≤ ar) (sz_ar : h0.size ≤ ar) (na1 : a1 ≠ ar) (na2 : t1 ≠ ar) (V_ar : Arv Z hh ar ka .char (n.toInt32) (X.map Value.int) (.int (0 : Int32))) (hL : own_lat X) :
    Go p e below s roomfill.cells roomfill.slots (Qfill Z n h0 n0) m T0 155 #[.val (.ref a1), .val (.int (n.toInt32)), .val (.int ee), .val (.ref ar)] [] := by
  refine Go.st (pc' := 156) (S' := [(.int (n.toInt32))]) (fun t_ k_ => XS.iloadN X0.here hx rfl (hb hby d2_155) rfl k_) ?_
  refine Go.st (pc' := 158) (S' := [(.int (10 : Int32)), (.int (n.toInt32))]) (fun t_ k_ => XS.bipush X0.here hx rfl (hb hby d2_156) k_) ?_
  by_cases hc158_1 : (10 : Int32) < (n.toInt32)
  · refine Go.st (pc' := 161) (S' := []) (fun t_ k_ => XS.icmpNo X0.here hx rfl (hb hby d2_158) rfl (tlt hc158_1).2.2.2 k_) ?_
    have hkn : 10 < n := (own_ltI (m := 10) (n := n) (by omega) (by omega)).mp hc158_1
    refine Go.st (pc' := 162) (S' := [(.ref ar)]) (fun t_ k_ => XS.aloadN X0.here hx rfl (hb hby d2_161) rfl rfl k_) ?_
    refine Go.st (pc' := 164) (S' := [(.int (10 : Int32)), (.ref ar)]) (fun t_ k_ => XS.bipush X0.here hx rfl (hb hby d2_162) k_) ?_
    refine Go.st (pc' := 165) (S' := [(.ref a1), (.int (10 : Int32)), (.ref ar)]) (fun t_ k_ => XS.aloadN X0.here hx rfl (hb hby d2_164) rfl rfl k_) ?_
    refine Go.st (pc' := 167) (S' := [(.int (10 : Int32)), (.ref a1), (.int (10 : Int32)), (.ref ar)]) (fun t_ k_ => XS.bipush X0.here hx rfl (hb hby d2_165) k_) ?_
    refine Go.st (pc' := 168) (S' := [(.int ee), (.int (10 : Int32)), (.ref a1), (.int (10 : Int32)), (.ref ar)]) (fun t_ k_ => XS.iloadN X0.here hx rfl (hb hby d2_167) rfl k_) ?_
    obtain ⟨_, _, ⟨T2, L2, k2, n2⟩, -, X2, ⟨Lc2, hQ2, l2, y2, z2⟩, st2⟩ := Jvm.LawKit.callS X0 hx (y := (⟨"com/example/vestry/vestry/io/PaymentFormNamedPinLaw", "at", "(Ljava/lang/String;II)C"⟩ : MethodName)) hown (mvT hZ (wd hw 94 rfl)) (mvT hZ (wd hw 95 rfl)) (mvT hZ (wd hw 3 rfl)) (mvT hZ (wd hw 96 rfl)) (by decide) (backOf (W := 2) (rmat l Z a0 hw [] a1 t1 _ (bs) 10 (k) ee fm gC hh n0 Z0 SC PC O0 hfm SF E_a1 Fc_a1 Fv_a1 V_t1 (by decide) hk13 he) hZ (wd hw 96 rfl) (wd hw 3 rfl) (by decide) (by decide)) (g := (mkF m 168 #[.val (.ref a1), .val (.int (n.toInt32)), .val (.int ee), .val (.ref ar)] [(.int ee), (.int (10 : Int32)), (.ref a1), (.int (10 : Int32)), (.ref ar)])) rfl (by rw [hml]; rfl) (argsL := [(.ref a1), (.int (10 : Int32)), (.int ee)]) (rest := [(.int (10 : Int32)), (.ref ar)]) (lenOf pd_8 rfl) rfl (by show 2 * 0 + _ ≤ _; exact Nat.le_of_eq rfl) (hb hby d2_168) (fun _ _ => ⟨rfl, e0, (by decide : 1 + 0 ≤ _), (by decide : 13 + 0 ≤ _)⟩)
    dsimp only [Pt.U, Pt.locs, Pt.cells, Pt.slots] at X2 l2 y2 z2 st2 hQ2
    subst l2 y2 z2
    obtain ⟨ca2, rfl, hl2, N2q, e2⟩ := hQ2
    have N2 := Fr.app N0 N2q
    refine Go.st (pc' := 171) (S' := [(.int ca2), (.int (10 : Int32)), (.ref ar)]) st2 ?_
    obtain ⟨cl3, Ar3, q31, q32, q33, q34, q35⟩ := V_ar
    obtain ⟨T3, h3, X3, e3, W3, st3⟩ := stC X2 hx hZ e2 Ar3 (j := (10 : Int32)) (own_inbS (i := 10) q32 hkn (by omega)) (g := (mkF m 171 #[.val (.ref a1), .val (.int (n.toInt32)), .val (.int ee), .val (.ref ar)] [(.int ca2), (.int (10 : Int32)), (.ref ar)])) rfl rfl (hb hby d2_171)
    replace V_ar := Arv.set Ar3 q31 q32 q33 q34 q35 (fits_nar_char _) W3 (10) (own_tn (i := 10) (by omega)) (by rw [List.length_map, hL.1]; omega)
    rw [own_setI] at V_ar
    replace hL := hL.set (own_latn hl2) (10)
    replace Z0 := Nat.le_trans Z0 (Keep.of_wr W3).1
    replace K0 := K0.wr W3 (Or.inr sz_ar)
    replace O0 := O0.wr W3 g_ar
    replace E_a1 := E_a1.wr W3
    replace Fc_a1 := Fc_a1.other W3 (Or.inl na1)
    replace Fv_a1 := Fv_a1.other W3 (Or.inl na1)
    replace V_t1 := V_t1.other W3 na2
    have N3 := Fr.snoc X3 N2 g_ar
    refine Go.st (pc' := 172) (S' := []) st3 ?_
    exact sf11 a1 t1 _ bs k n ee fm gC ar _ (X.set (10) (nar .char ca2)) (Stand.up X3 (by decide) (by decide)) hx hZ hw hby hml hown hnm hret hlk e3 N3 Z0 SC PC O0 hfm SF E_a1 Fc_a1 Fv_a1 V_t1 hk13 hn13 he K0 g_ar sz_ar na1 na2 V_ar  hL
  · refine Go.st (pc' := 172) (S' := []) (fun t_ k_ => XS.icmpYes X0.here hx rfl (pc0 := 158) (pc' := 172) rfl (hb hby d2_158) rfl (flt hc158_1).2.2.2 (by decide) (by decide) k_) ?_
    exact sf11 a1 t1 _ bs k n ee fm gC ar _ X (Stand.up X0 (by decide) (by decide)) hx hZ hw hby hml hown hnm hret hlk e0 N0 Z0 SC PC O0 hfm SF E_a1 Fc_a1 Fv_a1 V_t1 hk13 hn13 he K0 g_ar sz_ar na1 na2 V_ar  hL
theorem sf9 {p : Program} {l : Launch} {e : Env} {s : State} {m : MethodId} {args : Array Value} {below : List Frame} {meth : Method} {c : Code} {T0 : State} {locs : List Loc} {Z : State} {a0 : Array Value} {n0 : Nat} {h0 hh : Heap} (a1 : Addr) (t1 : Addr) (k1 : ClassId) (bs : List Int32) (k : Nat) (n : Nat) (ee : Int32) (fm : Value) (gC : Int32) (ar : Addr) (ka : ClassId) (X : List Int32)
    (X0 : Stand p l e roomfill s m args below meth c T0 locs 1 13) (hx : p.tables.exec = Jvm.exec) (hZ : Z.Warmed39 s.vm) (hw : ∀ d ∈ tables_1, d.before a0 Z = true) (hby : c.code = method_4_code) (hml : c.maxLocals = 4) (hown : s.vm.findClass "com/example/vestry/vestry/io/PaymentFormNamedPinLaw" = some m.cls) (hnm : meth.name = "fill") (hret : meth.sig.returnType = (some (.array .char))) (hlk : meth.locks = false) (e0 : T0.heap = hh) (N0 : Fr n0 locs) (Z0 : n0 ≤ hh.size) (SC : Sta Z Z.heap "java/lang/String" "COMPACT_STRINGS" "Z" (.int gC)) (PC : ¬ (gC = (0 : Int32))) (O0 : Old Z n0 hh) (hfm : fm.isRef = true) (SF : Sta Z Z.heap "jdk/internal/util/Preconditions" "SIOOBE_FORMATTER" "Ljava/util/function/BiFunction;" fm) (E_a1 : Exa Z hh a1 "java/lang/String") (Fc_a1 : Fld Z hh a1 "java/lang/String" "coder" "B" (.int (0 : Int32))) (Fv_a1 : Fld Z hh a1 "java/lang/String" "value" "[B" (.ref t1)) (V_t1 : Arv Z hh t1 k1 .byte (k.toInt32) (bs.map Value.int) (.int (0 : Int32))) (hk13 : k ≤ 13) (hn13 : n ≤ 13) (he : own_lt ee) (K0 : Keep h0 hh []) (g_ar : n0 ≤ ar) (sz_ar : h0.size ≤ ar) (na1 : a1 ≠ ar) (na2 : t1 ≠ ar) (V_ar : Arv Z hh ar ka .char (n.toInt32) (X.map Value.int) (.int (0 : Int32))) (hL : own_lat X) :
    Go p e below s roomfill.cells roomfill.slots (Qfill Z n h0 n0) m T0 138 #[.val (.ref a1), .val (.int (n.toInt32)), .val (.int ee), .val (.ref ar)] [] := by
  refine Go.st (pc' := 139) (S' := [(.int (n.toInt32))]) (fun t_ k_ => XS.iloadN X0.here hx rfl (hb hby d2_138) rfl k_) ?_
  refine Go.st (pc' := 141) (S' := [(.int (9 : Int32)), (.int (n.toInt32))]) (fun t_ k_ => XS.bipush X0.here hx rfl (hb hby d2_139) k_) ?_
  by_cases hc141_1 : (9 : Int32) < (n.toInt32)
  · refine Go.st (pc' := 144) (S' := []) (fun t_ k_ => XS.icmpNo X0.here hx rfl (hb hby d2_141) rfl (tlt hc141_1).2.2.2 k_) ?_
    have hkn : 9 < n := (own_ltI (m := 9) (n := n) (by omega) (by omega)).mp hc141_1
    refine Go.st (pc' := 145) (S' := [(.ref ar)]) (fun t_ k_ => XS.aloadN X0.here hx rfl (hb hby d2_144) rfl rfl k_) ?_
    refine Go.st (pc' := 147) (S' := [(.int (9 : Int32)), (.ref ar)]) (fun t_ k_ => XS.bipush X0.here hx rfl (hb hby d2_145) k_) ?_
    refine Go.st (pc' := 148) (S' := [(.ref a1), (.int (9 : Int32)), (.ref ar)]) (fun t_ k_ => XS.aloadN X0.here hx rfl (hb hby d2_147) rfl rfl k_) ?_
    refine Go.st (pc' := 150) (S' := [(.int (9 : Int32)), (.ref a1), (.int (9 : Int32)), (.ref ar)]) (fun t_ k_ => XS.bipush X0.here hx rfl (hb hby d2_148) k_) ?_
    refine Go.st (pc' := 151) (S' := [(.int ee), (.int (9 : Int32)), (.ref a1), (.int (9 : Int32)), (.ref ar)]) (fun t_ k_ => XS.iloadN X0.here hx rfl (hb hby d2_150) rfl k_) ?_
    obtain ⟨_, _, ⟨T2, L2, k2, n2⟩, -, X2, ⟨Lc2, hQ2, l2, y2, z2⟩, st2⟩ := Jvm.LawKit.callS X0 hx (y := (⟨"com/example/vestry/vestry/io/PaymentFormNamedPinLaw", "at", "(Ljava/lang/String;II)C"⟩ : MethodName)) hown (mvT hZ (wd hw 94 rfl)) (mvT hZ (wd hw 95 rfl)) (mvT hZ (wd hw 3 rfl)) (mvT hZ (wd hw 96 rfl)) (by decide) (backOf (W := 2) (rmat l Z a0 hw [] a1 t1 _ (bs) 9 (k) ee fm gC hh n0 Z0 SC PC O0 hfm SF E_a1 Fc_a1 Fv_a1 V_t1 (by decide) hk13 he) hZ (wd hw 96 rfl) (wd hw 3 rfl) (by decide) (by decide)) (g := (mkF m 151 #[.val (.ref a1), .val (.int (n.toInt32)), .val (.int ee), .val (.ref ar)] [(.int ee), (.int (9 : Int32)), (.ref a1), (.int (9 : Int32)), (.ref ar)])) rfl (by rw [hml]; rfl) (argsL := [(.ref a1), (.int (9 : Int32)), (.int ee)]) (rest := [(.int (9 : Int32)), (.ref ar)]) (lenOf pd_8 rfl) rfl (by show 2 * 0 + _ ≤ _; exact Nat.le_of_eq rfl) (hb hby d2_151) (fun _ _ => ⟨rfl, e0, (by decide : 1 + 0 ≤ _), (by decide : 13 + 0 ≤ _)⟩)
    dsimp only [Pt.U, Pt.locs, Pt.cells, Pt.slots] at X2 l2 y2 z2 st2 hQ2
    subst l2 y2 z2
    obtain ⟨ca2, rfl, hl2, N2q, e2⟩ := hQ2
    have N2 := Fr.app N0 N2q
    refine Go.st (pc' := 154) (S' := [(.int ca2), (.int (9 : Int32)), (.ref ar)]) st2 ?_
    obtain ⟨cl3, Ar3, q31, q32, q33, q34, q35⟩ := V_ar
    obtain ⟨T3, h3, X3, e3, W3, st3⟩ := stC X2 hx hZ e2 Ar3 (j := (9 : Int32)) (own_inbS (i := 9) q32 hkn (by omega)) (g := (mkF m 154 #[.val (.ref a1), .val (.int (n.toInt32)), .val (.int ee), .val (.ref ar)] [(.int ca2), (.int (9 : Int32)), (.ref ar)])) rfl rfl (hb hby d2_154)
    replace V_ar := Arv.set Ar3 q31 q32 q33 q34 q35 (fits_nar_char _) W3 (9) (own_tn (i := 9) (by omega)) (by rw [List.length_map, hL.1]; omega)
    rw [own_setI] at V_ar
    replace hL := hL.set (own_latn hl2) (9)
    replace Z0 := Nat.le_trans Z0 (Keep.of_wr W3).1
    replace K0 := K0.wr W3 (Or.inr sz_ar)
    replace O0 := O0.wr W3 g_ar
    replace E_a1 := E_a1.wr W3
    replace Fc_a1 := Fc_a1.other W3 (Or.inl na1)
    replace Fv_a1 := Fv_a1.other W3 (Or.inl na1)
    replace V_t1 := V_t1.other W3 na2
    have N3 := Fr.snoc X3 N2 g_ar
    refine Go.st (pc' := 155) (S' := []) st3 ?_
    exact sf10 a1 t1 _ bs k n ee fm gC ar _ (X.set (9) (nar .char ca2)) (Stand.up X3 (by decide) (by decide)) hx hZ hw hby hml hown hnm hret hlk e3 N3 Z0 SC PC O0 hfm SF E_a1 Fc_a1 Fv_a1 V_t1 hk13 hn13 he K0 g_ar sz_ar na1 na2 V_ar  hL
  · refine Go.st (pc' := 155) (S' := []) (fun t_ k_ => XS.icmpYes X0.here hx rfl (pc0 := 141) (pc' := 155) rfl (hb hby d2_141) rfl (flt hc141_1).2.2.2 (by decide) (by decide) k_) ?_
    exact sf10 a1 t1 _ bs k n ee fm gC ar _ X (Stand.up X0 (by decide) (by decide)) hx hZ hw hby hml hown hnm hret hlk e0 N0 Z0 SC PC O0 hfm SF E_a1 Fc_a1 Fv_a1 V_t1 hk13 hn13 he K0 g_ar sz_ar na1 na2 V_ar  hL
theorem sf8 {p : Program} {l : Launch} {e : Env} {s : State} {m : MethodId} {args : Array Value} {below : List Frame} {meth : Method} {c : Code} {T0 : State} {locs : List Loc} {Z : State} {a0 : Array Value} {n0 : Nat} {h0 hh : Heap} (a1 : Addr) (t1 : Addr) (k1 : ClassId) (bs : List Int32) (k : Nat) (n : Nat) (ee : Int32) (fm : Value) (gC : Int32) (ar : Addr) (ka : ClassId) (X : List Int32)
    (X0 : Stand p l e roomfill s m args below meth c T0 locs 1 13) (hx : p.tables.exec = Jvm.exec) (hZ : Z.Warmed39 s.vm) (hw : ∀ d ∈ tables_1, d.before a0 Z = true) (hby : c.code = method_4_code) (hml : c.maxLocals = 4) (hown : s.vm.findClass "com/example/vestry/vestry/io/PaymentFormNamedPinLaw" = some m.cls) (hnm : meth.name = "fill") (hret : meth.sig.returnType = (some (.array .char))) (hlk : meth.locks = false) (e0 : T0.heap = hh) (N0 : Fr n0 locs) (Z0 : n0 ≤ hh.size) (SC : Sta Z Z.heap "java/lang/String" "COMPACT_STRINGS" "Z" (.int gC)) (PC : ¬ (gC = (0 : Int32))) (O0 : Old Z n0 hh) (hfm : fm.isRef = true) (SF : Sta Z Z.heap "jdk/internal/util/Preconditions" "SIOOBE_FORMATTER" "Ljava/util/function/BiFunction;" fm) (E_a1 : Exa Z hh a1 "java/lang/String") (Fc_a1 : Fld Z hh a1 "java/lang/String" "coder" "B" (.int (0 : Int32))) (Fv_a1 : Fld Z hh a1 "java/lang/String" "value" "[B" (.ref t1)) (V_t1 : Arv Z hh t1 k1 .byte (k.toInt32) (bs.map Value.int) (.int (0 : Int32))) (hk13 : k ≤ 13) (hn13 : n ≤ 13) (he : own_lt ee) (K0 : Keep h0 hh []) (g_ar : n0 ≤ ar) (sz_ar : h0.size ≤ ar) (na1 : a1 ≠ ar) (na2 : t1 ≠ ar) (V_ar : Arv Z hh ar ka .char (n.toInt32) (X.map Value.int) (.int (0 : Int32))) (hL : own_lat X) :
    Go p e below s roomfill.cells roomfill.slots (Qfill Z n h0 n0) m T0 121 #[.val (.ref a1), .val (.int (n.toInt32)), .val (.int ee), .val (.ref ar)] [] := by
  refine Go.st (pc' := 122) (S' := [(.int (n.toInt32))]) (fun t_ k_ => XS.iloadN X0.here hx rfl (hb hby d2_121) rfl k_) ?_
  refine Go.st (pc' := 124) (S' := [(.int (8 : Int32)), (.int (n.toInt32))]) (fun t_ k_ => XS.bipush X0.here hx rfl (hb hby d2_122) k_) ?_
  by_cases hc124_1 : (8 : Int32) < (n.toInt32)
  · refine Go.st (pc' := 127) (S' := []) (fun t_ k_ => XS.icmpNo X0.here hx rfl (hb hby d2_124) rfl (tlt hc124_1).2.2.2 k_) ?_
    have hkn : 8 < n := (own_ltI (m := 8) (n := n) (by omega) (by omega)).mp hc124_1
    refine Go.st (pc' := 128) (S' := [(.ref ar)]) (fun t_ k_ => XS.aloadN X0.here hx rfl (hb hby d2_127) rfl rfl k_) ?_
    refine Go.st (pc' := 130) (S' := [(.int (8 : Int32)), (.ref ar)]) (fun t_ k_ => XS.bipush X0.here hx rfl (hb hby d2_128) k_) ?_
    refine Go.st (pc' := 131) (S' := [(.ref a1), (.int (8 : Int32)), (.ref ar)]) (fun t_ k_ => XS.aloadN X0.here hx rfl (hb hby d2_130) rfl rfl k_) ?_
    refine Go.st (pc' := 133) (S' := [(.int (8 : Int32)), (.ref a1), (.int (8 : Int32)), (.ref ar)]) (fun t_ k_ => XS.bipush X0.here hx rfl (hb hby d2_131) k_) ?_
    refine Go.st (pc' := 134) (S' := [(.int ee), (.int (8 : Int32)), (.ref a1), (.int (8 : Int32)), (.ref ar)]) (fun t_ k_ => XS.iloadN X0.here hx rfl (hb hby d2_133) rfl k_) ?_
    obtain ⟨_, _, ⟨T2, L2, k2, n2⟩, -, X2, ⟨Lc2, hQ2, l2, y2, z2⟩, st2⟩ := Jvm.LawKit.callS X0 hx (y := (⟨"com/example/vestry/vestry/io/PaymentFormNamedPinLaw", "at", "(Ljava/lang/String;II)C"⟩ : MethodName)) hown (mvT hZ (wd hw 94 rfl)) (mvT hZ (wd hw 95 rfl)) (mvT hZ (wd hw 3 rfl)) (mvT hZ (wd hw 96 rfl)) (by decide) (backOf (W := 2) (rmat l Z a0 hw [] a1 t1 _ (bs) 8 (k) ee fm gC hh n0 Z0 SC PC O0 hfm SF E_a1 Fc_a1 Fv_a1 V_t1 (by decide) hk13 he) hZ (wd hw 96 rfl) (wd hw 3 rfl) (by decide) (by decide)) (g := (mkF m 134 #[.val (.ref a1), .val (.int (n.toInt32)), .val (.int ee), .val (.ref ar)] [(.int ee), (.int (8 : Int32)), (.ref a1), (.int (8 : Int32)), (.ref ar)])) rfl (by rw [hml]; rfl) (argsL := [(.ref a1), (.int (8 : Int32)), (.int ee)]) (rest := [(.int (8 : Int32)), (.ref ar)]) (lenOf pd_8 rfl) rfl (by show 2 * 0 + _ ≤ _; exact Nat.le_of_eq rfl) (hb hby d2_134) (fun _ _ => ⟨rfl, e0, (by decide : 1 + 0 ≤ _), (by decide : 13 + 0 ≤ _)⟩)
    dsimp only [Pt.U, Pt.locs, Pt.cells, Pt.slots] at X2 l2 y2 z2 st2 hQ2
    subst l2 y2 z2
    obtain ⟨ca2, rfl, hl2, N2q, e2⟩ := hQ2
    have N2 := Fr.app N0 N2q
    refine Go.st (pc' := 137) (S' := [(.int ca2), (.int (8 : Int32)), (.ref ar)]) st2 ?_
    obtain ⟨cl3, Ar3, q31, q32, q33, q34, q35⟩ := V_ar
    obtain ⟨T3, h3, X3, e3, W3, st3⟩ := stC X2 hx hZ e2 Ar3 (j := (8 : Int32)) (own_inbS (i := 8) q32 hkn (by omega)) (g := (mkF m 137 #[.val (.ref a1), .val (.int (n.toInt32)), .val (.int ee), .val (.ref ar)] [(.int ca2), (.int (8 : Int32)), (.ref ar)])) rfl rfl (hb hby d2_137)
    replace V_ar := Arv.set Ar3 q31 q32 q33 q34 q35 (fits_nar_char _) W3 (8) (own_tn (i := 8) (by omega)) (by rw [List.length_map, hL.1]; omega)
    rw [own_setI] at V_ar
    replace hL := hL.set (own_latn hl2) (8)
    replace Z0 := Nat.le_trans Z0 (Keep.of_wr W3).1
    replace K0 := K0.wr W3 (Or.inr sz_ar)
    replace O0 := O0.wr W3 g_ar
    replace E_a1 := E_a1.wr W3
    replace Fc_a1 := Fc_a1.other W3 (Or.inl na1)
    replace Fv_a1 := Fv_a1.other W3 (Or.inl na1)
    replace V_t1 := V_t1.other W3 na2
    have N3 := Fr.snoc X3 N2 g_ar
    refine Go.st (pc' := 138) (S' := []) st3 ?_
    exact sf9 a1 t1 _ bs k n ee fm gC ar _ (X.set (8) (nar .char ca2)) (Stand.up X3 (by decide) (by decide)) hx hZ hw hby hml hown hnm hret hlk e3 N3 Z0 SC PC O0 hfm SF E_a1 Fc_a1 Fv_a1 V_t1 hk13 hn13 he K0 g_ar sz_ar na1 na2 V_ar  hL
  · refine Go.st (pc' := 138) (S' := []) (fun t_ k_ => XS.icmpYes X0.here hx rfl (pc0 := 124) (pc' := 138) rfl (hb hby d2_124) rfl (flt hc124_1).2.2.2 (by decide) (by decide) k_) ?_
    exact sf9 a1 t1 _ bs k n ee fm gC ar _ X (Stand.up X0 (by decide) (by decide)) hx hZ hw hby hml hown hnm hret hlk e0 N0 Z0 SC PC O0 hfm SF E_a1 Fc_a1 Fv_a1 V_t1 hk13 hn13 he K0 g_ar sz_ar na1 na2 V_ar  hL
theorem sf7 {p : Program} {l : Launch} {e : Env} {s : State} {m : MethodId} {args : Array Value} {below : List Frame} {meth : Method} {c : Code} {T0 : State} {locs : List Loc} {Z : State} {a0 : Array Value} {n0 : Nat} {h0 hh : Heap} (a1 : Addr) (t1 : Addr) (k1 : ClassId) (bs : List Int32) (k : Nat) (n : Nat) (ee : Int32) (fm : Value) (gC : Int32) (ar : Addr) (ka : ClassId) (X : List Int32)
    (X0 : Stand p l e roomfill s m args below meth c T0 locs 1 13) (hx : p.tables.exec = Jvm.exec) (hZ : Z.Warmed39 s.vm) (hw : ∀ d ∈ tables_1, d.before a0 Z = true) (hby : c.code = method_4_code) (hml : c.maxLocals = 4) (hown : s.vm.findClass "com/example/vestry/vestry/io/PaymentFormNamedPinLaw" = some m.cls) (hnm : meth.name = "fill") (hret : meth.sig.returnType = (some (.array .char))) (hlk : meth.locks = false) (e0 : T0.heap = hh) (N0 : Fr n0 locs) (Z0 : n0 ≤ hh.size) (SC : Sta Z Z.heap "java/lang/String" "COMPACT_STRINGS" "Z" (.int gC)) (PC : ¬ (gC = (0 : Int32))) (O0 : Old Z n0 hh) (hfm : fm.isRef = true) (SF : Sta Z Z.heap "jdk/internal/util/Preconditions" "SIOOBE_FORMATTER" "Ljava/util/function/BiFunction;" fm) (E_a1 : Exa Z hh a1 "java/lang/String") (Fc_a1 : Fld Z hh a1 "java/lang/String" "coder" "B" (.int (0 : Int32))) (Fv_a1 : Fld Z hh a1 "java/lang/String" "value" "[B" (.ref t1)) (V_t1 : Arv Z hh t1 k1 .byte (k.toInt32) (bs.map Value.int) (.int (0 : Int32))) (hk13 : k ≤ 13) (hn13 : n ≤ 13) (he : own_lt ee) (K0 : Keep h0 hh []) (g_ar : n0 ≤ ar) (sz_ar : h0.size ≤ ar) (na1 : a1 ≠ ar) (na2 : t1 ≠ ar) (V_ar : Arv Z hh ar ka .char (n.toInt32) (X.map Value.int) (.int (0 : Int32))) (hL : own_lat X) :
    Go p e below s roomfill.cells roomfill.slots (Qfill Z n h0 n0) m T0 104 #[.val (.ref a1), .val (.int (n.toInt32)), .val (.int ee), .val (.ref ar)] [] := by
  refine Go.st (pc' := 105) (S' := [(.int (n.toInt32))]) (fun t_ k_ => XS.iloadN X0.here hx rfl (hb hby d2_104) rfl k_) ?_
  refine Go.st (pc' := 107) (S' := [(.int (7 : Int32)), (.int (n.toInt32))]) (fun t_ k_ => XS.bipush X0.here hx rfl (hb hby d2_105) k_) ?_
  by_cases hc107_1 : (7 : Int32) < (n.toInt32)
  · refine Go.st (pc' := 110) (S' := []) (fun t_ k_ => XS.icmpNo X0.here hx rfl (hb hby d2_107) rfl (tlt hc107_1).2.2.2 k_) ?_
    have hkn : 7 < n := (own_ltI (m := 7) (n := n) (by omega) (by omega)).mp hc107_1
    refine Go.st (pc' := 111) (S' := [(.ref ar)]) (fun t_ k_ => XS.aloadN X0.here hx rfl (hb hby d2_110) rfl rfl k_) ?_
    refine Go.st (pc' := 113) (S' := [(.int (7 : Int32)), (.ref ar)]) (fun t_ k_ => XS.bipush X0.here hx rfl (hb hby d2_111) k_) ?_
    refine Go.st (pc' := 114) (S' := [(.ref a1), (.int (7 : Int32)), (.ref ar)]) (fun t_ k_ => XS.aloadN X0.here hx rfl (hb hby d2_113) rfl rfl k_) ?_
    refine Go.st (pc' := 116) (S' := [(.int (7 : Int32)), (.ref a1), (.int (7 : Int32)), (.ref ar)]) (fun t_ k_ => XS.bipush X0.here hx rfl (hb hby d2_114) k_) ?_
    refine Go.st (pc' := 117) (S' := [(.int ee), (.int (7 : Int32)), (.ref a1), (.int (7 : Int32)), (.ref ar)]) (fun t_ k_ => XS.iloadN X0.here hx rfl (hb hby d2_116) rfl k_) ?_
    obtain ⟨_, _, ⟨T2, L2, k2, n2⟩, -, X2, ⟨Lc2, hQ2, l2, y2, z2⟩, st2⟩ := Jvm.LawKit.callS X0 hx (y := (⟨"com/example/vestry/vestry/io/PaymentFormNamedPinLaw", "at", "(Ljava/lang/String;II)C"⟩ : MethodName)) hown (mvT hZ (wd hw 94 rfl)) (mvT hZ (wd hw 95 rfl)) (mvT hZ (wd hw 3 rfl)) (mvT hZ (wd hw 96 rfl)) (by decide) (backOf (W := 2) (rmat l Z a0 hw [] a1 t1 _ (bs) 7 (k) ee fm gC hh n0 Z0 SC PC O0 hfm SF E_a1 Fc_a1 Fv_a1 V_t1 (by decide) hk13 he) hZ (wd hw 96 rfl) (wd hw 3 rfl) (by decide) (by decide)) (g := (mkF m 117 #[.val (.ref a1), .val (.int (n.toInt32)), .val (.int ee), .val (.ref ar)] [(.int ee), (.int (7 : Int32)), (.ref a1), (.int (7 : Int32)), (.ref ar)])) rfl (by rw [hml]; rfl) (argsL := [(.ref a1), (.int (7 : Int32)), (.int ee)]) (rest := [(.int (7 : Int32)), (.ref ar)]) (lenOf pd_8 rfl) rfl (by show 2 * 0 + _ ≤ _; exact Nat.le_of_eq rfl) (hb hby d2_117) (fun _ _ => ⟨rfl, e0, (by decide : 1 + 0 ≤ _), (by decide : 13 + 0 ≤ _)⟩)
    dsimp only [Pt.U, Pt.locs, Pt.cells, Pt.slots] at X2 l2 y2 z2 st2 hQ2
    subst l2 y2 z2
    obtain ⟨ca2, rfl, hl2, N2q, e2⟩ := hQ2
    have N2 := Fr.app N0 N2q
    refine Go.st (pc' := 120) (S' := [(.int ca2), (.int (7 : Int32)), (.ref ar)]) st2 ?_
    obtain ⟨cl3, Ar3, q31, q32, q33, q34, q35⟩ := V_ar
    obtain ⟨T3, h3, X3, e3, W3, st3⟩ := stC X2 hx hZ e2 Ar3 (j := (7 : Int32)) (own_inbS (i := 7) q32 hkn (by omega)) (g := (mkF m 120 #[.val (.ref a1), .val (.int (n.toInt32)), .val (.int ee), .val (.ref ar)] [(.int ca2), (.int (7 : Int32)), (.ref ar)])) rfl rfl (hb hby d2_120)
    replace V_ar := Arv.set Ar3 q31 q32 q33 q34 q35 (fits_nar_char _) W3 (7) (own_tn (i := 7) (by omega)) (by rw [List.length_map, hL.1]; omega)
    rw [own_setI] at V_ar
    replace hL := hL.set (own_latn hl2) (7)
    replace Z0 := Nat.le_trans Z0 (Keep.of_wr W3).1
    replace K0 := K0.wr W3 (Or.inr sz_ar)
    replace O0 := O0.wr W3 g_ar
    replace E_a1 := E_a1.wr W3
    replace Fc_a1 := Fc_a1.other W3 (Or.inl na1)
    replace Fv_a1 := Fv_a1.other W3 (Or.inl na1)
    replace V_t1 := V_t1.other W3 na2
    have N3 := Fr.snoc X3 N2 g_ar
    refine Go.st (pc' := 121) (S' := []) st3 ?_
    exact sf8 a1 t1 _ bs k n ee fm gC ar _ (X.set (7) (nar .char ca2)) (Stand.up X3 (by decide) (by decide)) hx hZ hw hby hml hown hnm hret hlk e3 N3 Z0 SC PC O0 hfm SF E_a1 Fc_a1 Fv_a1 V_t1 hk13 hn13 he K0 g_ar sz_ar na1 na2 V_ar  hL
  · refine Go.st (pc' := 121) (S' := []) (fun t_ k_ => XS.icmpYes X0.here hx rfl (pc0 := 107) (pc' := 121) rfl (hb hby d2_107) rfl (flt hc107_1).2.2.2 (by decide) (by decide) k_) ?_
    exact sf8 a1 t1 _ bs k n ee fm gC ar _ X (Stand.up X0 (by decide) (by decide)) hx hZ hw hby hml hown hnm hret hlk e0 N0 Z0 SC PC O0 hfm SF E_a1 Fc_a1 Fv_a1 V_t1 hk13 hn13 he K0 g_ar sz_ar na1 na2 V_ar  hL
theorem sf6 {p : Program} {l : Launch} {e : Env} {s : State} {m : MethodId} {args : Array Value} {below : List Frame} {meth : Method} {c : Code} {T0 : State} {locs : List Loc} {Z : State} {a0 : Array Value} {n0 : Nat} {h0 hh : Heap} (a1 : Addr) (t1 : Addr) (k1 : ClassId) (bs : List Int32) (k : Nat) (n : Nat) (ee : Int32) (fm : Value) (gC : Int32) (ar : Addr) (ka : ClassId) (X : List Int32)
    (X0 : Stand p l e roomfill s m args below meth c T0 locs 1 13) (hx : p.tables.exec = Jvm.exec) (hZ : Z.Warmed39 s.vm) (hw : ∀ d ∈ tables_1, d.before a0 Z = true) (hby : c.code = method_4_code) (hml : c.maxLocals = 4) (hown : s.vm.findClass "com/example/vestry/vestry/io/PaymentFormNamedPinLaw" = some m.cls) (hnm : meth.name = "fill") (hret : meth.sig.returnType = (some (.array .char))) (hlk : meth.locks = false) (e0 : T0.heap = hh) (N0 : Fr n0 locs) (Z0 : n0 ≤ hh.size) (SC : Sta Z Z.heap "java/lang/String" "COMPACT_STRINGS" "Z" (.int gC)) (PC : ¬ (gC = (0 : Int32))) (O0 : Old Z n0 hh) (hfm : fm.isRef = true) (SF : Sta Z Z.heap "jdk/internal/util/Preconditions" "SIOOBE_FORMATTER" "Ljava/util/function/BiFunction;" fm) (E_a1 : Exa Z hh a1 "java/lang/String") (Fc_a1 : Fld Z hh a1 "java/lang/String" "coder" "B" (.int (0 : Int32))) (Fv_a1 : Fld Z hh a1 "java/lang/String" "value" "[B" (.ref t1)) (V_t1 : Arv Z hh t1 k1 .byte (k.toInt32) (bs.map Value.int) (.int (0 : Int32))) (hk13 : k ≤ 13) (hn13 : n ≤ 13) (he : own_lt ee) (K0 : Keep h0 hh []) (g_ar : n0 ≤ ar) (sz_ar : h0.size ≤ ar) (na1 : a1 ≠ ar) (na2 : t1 ≠ ar) (V_ar : Arv Z hh ar ka .char (n.toInt32) (X.map Value.int) (.int (0 : Int32))) (hL : own_lat X) :
    Go p e below s roomfill.cells roomfill.slots (Qfill Z n h0 n0) m T0 87 #[.val (.ref a1), .val (.int (n.toInt32)), .val (.int ee), .val (.ref ar)] [] := by
  refine Go.st (pc' := 88) (S' := [(.int (n.toInt32))]) (fun t_ k_ => XS.iloadN X0.here hx rfl (hb hby d2_87) rfl k_) ?_
  refine Go.st (pc' := 90) (S' := [(.int (6 : Int32)), (.int (n.toInt32))]) (fun t_ k_ => XS.bipush X0.here hx rfl (hb hby d2_88) k_) ?_
  by_cases hc90_1 : (6 : Int32) < (n.toInt32)
  · refine Go.st (pc' := 93) (S' := []) (fun t_ k_ => XS.icmpNo X0.here hx rfl (hb hby d2_90) rfl (tlt hc90_1).2.2.2 k_) ?_
    have hkn : 6 < n := (own_ltI (m := 6) (n := n) (by omega) (by omega)).mp hc90_1
    refine Go.st (pc' := 94) (S' := [(.ref ar)]) (fun t_ k_ => XS.aloadN X0.here hx rfl (hb hby d2_93) rfl rfl k_) ?_
    refine Go.st (pc' := 96) (S' := [(.int (6 : Int32)), (.ref ar)]) (fun t_ k_ => XS.bipush X0.here hx rfl (hb hby d2_94) k_) ?_
    refine Go.st (pc' := 97) (S' := [(.ref a1), (.int (6 : Int32)), (.ref ar)]) (fun t_ k_ => XS.aloadN X0.here hx rfl (hb hby d2_96) rfl rfl k_) ?_
    refine Go.st (pc' := 99) (S' := [(.int (6 : Int32)), (.ref a1), (.int (6 : Int32)), (.ref ar)]) (fun t_ k_ => XS.bipush X0.here hx rfl (hb hby d2_97) k_) ?_
    refine Go.st (pc' := 100) (S' := [(.int ee), (.int (6 : Int32)), (.ref a1), (.int (6 : Int32)), (.ref ar)]) (fun t_ k_ => XS.iloadN X0.here hx rfl (hb hby d2_99) rfl k_) ?_
    obtain ⟨_, _, ⟨T2, L2, k2, n2⟩, -, X2, ⟨Lc2, hQ2, l2, y2, z2⟩, st2⟩ := Jvm.LawKit.callS X0 hx (y := (⟨"com/example/vestry/vestry/io/PaymentFormNamedPinLaw", "at", "(Ljava/lang/String;II)C"⟩ : MethodName)) hown (mvT hZ (wd hw 94 rfl)) (mvT hZ (wd hw 95 rfl)) (mvT hZ (wd hw 3 rfl)) (mvT hZ (wd hw 96 rfl)) (by decide) (backOf (W := 2) (rmat l Z a0 hw [] a1 t1 _ (bs) 6 (k) ee fm gC hh n0 Z0 SC PC O0 hfm SF E_a1 Fc_a1 Fv_a1 V_t1 (by decide) hk13 he) hZ (wd hw 96 rfl) (wd hw 3 rfl) (by decide) (by decide)) (g := (mkF m 100 #[.val (.ref a1), .val (.int (n.toInt32)), .val (.int ee), .val (.ref ar)] [(.int ee), (.int (6 : Int32)), (.ref a1), (.int (6 : Int32)), (.ref ar)])) rfl (by rw [hml]; rfl) (argsL := [(.ref a1), (.int (6 : Int32)), (.int ee)]) (rest := [(.int (6 : Int32)), (.ref ar)]) (lenOf pd_8 rfl) rfl (by show 2 * 0 + _ ≤ _; exact Nat.le_of_eq rfl) (hb hby d2_100) (fun _ _ => ⟨rfl, e0, (by decide : 1 + 0 ≤ _), (by decide : 13 + 0 ≤ _)⟩)
    dsimp only [Pt.U, Pt.locs, Pt.cells, Pt.slots] at X2 l2 y2 z2 st2 hQ2
    subst l2 y2 z2
    obtain ⟨ca2, rfl, hl2, N2q, e2⟩ := hQ2
    have N2 := Fr.app N0 N2q
    refine Go.st (pc' := 103) (S' := [(.int ca2), (.int (6 : Int32)), (.ref ar)]) st2 ?_
    obtain ⟨cl3, Ar3, q31, q32, q33, q34, q35⟩ := V_ar
    obtain ⟨T3, h3, X3, e3, W3, st3⟩ := stC X2 hx hZ e2 Ar3 (j := (6 : Int32)) (own_inbS (i := 6) q32 hkn (by omega)) (g := (mkF m 103 #[.val (.ref a1), .val (.int (n.toInt32)), .val (.int ee), .val (.ref ar)] [(.int ca2), (.int (6 : Int32)), (.ref ar)])) rfl rfl (hb hby d2_103)
    replace V_ar := Arv.set Ar3 q31 q32 q33 q34 q35 (fits_nar_char _) W3 (6) (own_tn (i := 6) (by omega)) (by rw [List.length_map, hL.1]; omega)
    rw [own_setI] at V_ar
    replace hL := hL.set (own_latn hl2) (6)
    replace Z0 := Nat.le_trans Z0 (Keep.of_wr W3).1
    replace K0 := K0.wr W3 (Or.inr sz_ar)
    replace O0 := O0.wr W3 g_ar
    replace E_a1 := E_a1.wr W3
    replace Fc_a1 := Fc_a1.other W3 (Or.inl na1)
    replace Fv_a1 := Fv_a1.other W3 (Or.inl na1)
    replace V_t1 := V_t1.other W3 na2
    have N3 := Fr.snoc X3 N2 g_ar
    refine Go.st (pc' := 104) (S' := []) st3 ?_
    exact sf7 a1 t1 _ bs k n ee fm gC ar _ (X.set (6) (nar .char ca2)) (Stand.up X3 (by decide) (by decide)) hx hZ hw hby hml hown hnm hret hlk e3 N3 Z0 SC PC O0 hfm SF E_a1 Fc_a1 Fv_a1 V_t1 hk13 hn13 he K0 g_ar sz_ar na1 na2 V_ar  hL
  · refine Go.st (pc' := 104) (S' := []) (fun t_ k_ => XS.icmpYes X0.here hx rfl (pc0 := 90) (pc' := 104) rfl (hb hby d2_90) rfl (flt hc90_1).2.2.2 (by decide) (by decide) k_) ?_
    exact sf7 a1 t1 _ bs k n ee fm gC ar _ X (Stand.up X0 (by decide) (by decide)) hx hZ hw hby hml hown hnm hret hlk e0 N0 Z0 SC PC O0 hfm SF E_a1 Fc_a1 Fv_a1 V_t1 hk13 hn13 he K0 g_ar sz_ar na1 na2 V_ar  hL
theorem sf5 {p : Program} {l : Launch} {e : Env} {s : State} {m : MethodId} {args : Array Value} {below : List Frame} {meth : Method} {c : Code} {T0 : State} {locs : List Loc} {Z : State} {a0 : Array Value} {n0 : Nat} {h0 hh : Heap} (a1 : Addr) (t1 : Addr) (k1 : ClassId) (bs : List Int32) (k : Nat) (n : Nat) (ee : Int32) (fm : Value) (gC : Int32) (ar : Addr) (ka : ClassId) (X : List Int32)
    (X0 : Stand p l e roomfill s m args below meth c T0 locs 1 13) (hx : p.tables.exec = Jvm.exec) (hZ : Z.Warmed39 s.vm) (hw : ∀ d ∈ tables_1, d.before a0 Z = true) (hby : c.code = method_4_code) (hml : c.maxLocals = 4) (hown : s.vm.findClass "com/example/vestry/vestry/io/PaymentFormNamedPinLaw" = some m.cls) (hnm : meth.name = "fill") (hret : meth.sig.returnType = (some (.array .char))) (hlk : meth.locks = false) (e0 : T0.heap = hh) (N0 : Fr n0 locs) (Z0 : n0 ≤ hh.size) (SC : Sta Z Z.heap "java/lang/String" "COMPACT_STRINGS" "Z" (.int gC)) (PC : ¬ (gC = (0 : Int32))) (O0 : Old Z n0 hh) (hfm : fm.isRef = true) (SF : Sta Z Z.heap "jdk/internal/util/Preconditions" "SIOOBE_FORMATTER" "Ljava/util/function/BiFunction;" fm) (E_a1 : Exa Z hh a1 "java/lang/String") (Fc_a1 : Fld Z hh a1 "java/lang/String" "coder" "B" (.int (0 : Int32))) (Fv_a1 : Fld Z hh a1 "java/lang/String" "value" "[B" (.ref t1)) (V_t1 : Arv Z hh t1 k1 .byte (k.toInt32) (bs.map Value.int) (.int (0 : Int32))) (hk13 : k ≤ 13) (hn13 : n ≤ 13) (he : own_lt ee) (K0 : Keep h0 hh []) (g_ar : n0 ≤ ar) (sz_ar : h0.size ≤ ar) (na1 : a1 ≠ ar) (na2 : t1 ≠ ar) (V_ar : Arv Z hh ar ka .char (n.toInt32) (X.map Value.int) (.int (0 : Int32))) (hL : own_lat X) :
    Go p e below s roomfill.cells roomfill.slots (Qfill Z n h0 n0) m T0 73 #[.val (.ref a1), .val (.int (n.toInt32)), .val (.int ee), .val (.ref ar)] [] := by
  refine Go.st (pc' := 74) (S' := [(.int (n.toInt32))]) (fun t_ k_ => XS.iloadN X0.here hx rfl (hb hby d2_73) rfl k_) ?_
  refine Go.st (pc' := 75) (S' := [(.int (5 : Int32)), (.int (n.toInt32))]) (fun t_ k_ => XS.iconst X0.here hx rfl (hb hby d2_74) k_) ?_
  by_cases hc75_1 : (5 : Int32) < (n.toInt32)
  · refine Go.st (pc' := 78) (S' := []) (fun t_ k_ => XS.icmpNo X0.here hx rfl (hb hby d2_75) rfl (tlt hc75_1).2.2.2 k_) ?_
    have hkn : 5 < n := (own_ltI (m := 5) (n := n) (by omega) (by omega)).mp hc75_1
    refine Go.st (pc' := 79) (S' := [(.ref ar)]) (fun t_ k_ => XS.aloadN X0.here hx rfl (hb hby d2_78) rfl rfl k_) ?_
    refine Go.st (pc' := 80) (S' := [(.int (5 : Int32)), (.ref ar)]) (fun t_ k_ => XS.iconst X0.here hx rfl (hb hby d2_79) k_) ?_
    refine Go.st (pc' := 81) (S' := [(.ref a1), (.int (5 : Int32)), (.ref ar)]) (fun t_ k_ => XS.aloadN X0.here hx rfl (hb hby d2_80) rfl rfl k_) ?_
    refine Go.st (pc' := 82) (S' := [(.int (5 : Int32)), (.ref a1), (.int (5 : Int32)), (.ref ar)]) (fun t_ k_ => XS.iconst X0.here hx rfl (hb hby d2_81) k_) ?_
    refine Go.st (pc' := 83) (S' := [(.int ee), (.int (5 : Int32)), (.ref a1), (.int (5 : Int32)), (.ref ar)]) (fun t_ k_ => XS.iloadN X0.here hx rfl (hb hby d2_82) rfl k_) ?_
    obtain ⟨_, _, ⟨T2, L2, k2, n2⟩, -, X2, ⟨Lc2, hQ2, l2, y2, z2⟩, st2⟩ := Jvm.LawKit.callS X0 hx (y := (⟨"com/example/vestry/vestry/io/PaymentFormNamedPinLaw", "at", "(Ljava/lang/String;II)C"⟩ : MethodName)) hown (mvT hZ (wd hw 94 rfl)) (mvT hZ (wd hw 95 rfl)) (mvT hZ (wd hw 3 rfl)) (mvT hZ (wd hw 96 rfl)) (by decide) (backOf (W := 2) (rmat l Z a0 hw [] a1 t1 _ (bs) 5 (k) ee fm gC hh n0 Z0 SC PC O0 hfm SF E_a1 Fc_a1 Fv_a1 V_t1 (by decide) hk13 he) hZ (wd hw 96 rfl) (wd hw 3 rfl) (by decide) (by decide)) (g := (mkF m 83 #[.val (.ref a1), .val (.int (n.toInt32)), .val (.int ee), .val (.ref ar)] [(.int ee), (.int (5 : Int32)), (.ref a1), (.int (5 : Int32)), (.ref ar)])) rfl (by rw [hml]; rfl) (argsL := [(.ref a1), (.int (5 : Int32)), (.int ee)]) (rest := [(.int (5 : Int32)), (.ref ar)]) (lenOf pd_8 rfl) rfl (by show 2 * 0 + _ ≤ _; exact Nat.le_of_eq rfl) (hb hby d2_83) (fun _ _ => ⟨rfl, e0, (by decide : 1 + 0 ≤ _), (by decide : 13 + 0 ≤ _)⟩)
    dsimp only [Pt.U, Pt.locs, Pt.cells, Pt.slots] at X2 l2 y2 z2 st2 hQ2
    subst l2 y2 z2
    obtain ⟨ca2, rfl, hl2, N2q, e2⟩ := hQ2
    have N2 := Fr.app N0 N2q
    refine Go.st (pc' := 86) (S' := [(.int ca2), (.int (5 : Int32)), (.ref ar)]) st2 ?_
    obtain ⟨cl3, Ar3, q31, q32, q33, q34, q35⟩ := V_ar
    obtain ⟨T3, h3, X3, e3, W3, st3⟩ := stC X2 hx hZ e2 Ar3 (j := (5 : Int32)) (own_inbS (i := 5) q32 hkn (by omega)) (g := (mkF m 86 #[.val (.ref a1), .val (.int (n.toInt32)), .val (.int ee), .val (.ref ar)] [(.int ca2), (.int (5 : Int32)), (.ref ar)])) rfl rfl (hb hby d2_86)
    replace V_ar := Arv.set Ar3 q31 q32 q33 q34 q35 (fits_nar_char _) W3 (5) (own_tn (i := 5) (by omega)) (by rw [List.length_map, hL.1]; omega)
    rw [own_setI] at V_ar
    replace hL := hL.set (own_latn hl2) (5)
    replace Z0 := Nat.le_trans Z0 (Keep.of_wr W3).1
    replace K0 := K0.wr W3 (Or.inr sz_ar)
    replace O0 := O0.wr W3 g_ar
    replace E_a1 := E_a1.wr W3
    replace Fc_a1 := Fc_a1.other W3 (Or.inl na1)
    replace Fv_a1 := Fv_a1.other W3 (Or.inl na1)
    replace V_t1 := V_t1.other W3 na2
    have N3 := Fr.snoc X3 N2 g_ar
    refine Go.st (pc' := 87) (S' := []) st3 ?_
    exact sf6 a1 t1 _ bs k n ee fm gC ar _ (X.set (5) (nar .char ca2)) (Stand.up X3 (by decide) (by decide)) hx hZ hw hby hml hown hnm hret hlk e3 N3 Z0 SC PC O0 hfm SF E_a1 Fc_a1 Fv_a1 V_t1 hk13 hn13 he K0 g_ar sz_ar na1 na2 V_ar  hL
  · refine Go.st (pc' := 87) (S' := []) (fun t_ k_ => XS.icmpYes X0.here hx rfl (pc0 := 75) (pc' := 87) rfl (hb hby d2_75) rfl (flt hc75_1).2.2.2 (by decide) (by decide) k_) ?_
    exact sf6 a1 t1 _ bs k n ee fm gC ar _ X (Stand.up X0 (by decide) (by decide)) hx hZ hw hby hml hown hnm hret hlk e0 N0 Z0 SC PC O0 hfm SF E_a1 Fc_a1 Fv_a1 V_t1 hk13 hn13 he K0 g_ar sz_ar na1 na2 V_ar  hL
theorem sf4 {p : Program} {l : Launch} {e : Env} {s : State} {m : MethodId} {args : Array Value} {below : List Frame} {meth : Method} {c : Code} {T0 : State} {locs : List Loc} {Z : State} {a0 : Array Value} {n0 : Nat} {h0 hh : Heap} (a1 : Addr) (t1 : Addr) (k1 : ClassId) (bs : List Int32) (k : Nat) (n : Nat) (ee : Int32) (fm : Value) (gC : Int32) (ar : Addr) (ka : ClassId) (X : List Int32)
    (X0 : Stand p l e roomfill s m args below meth c T0 locs 1 13) (hx : p.tables.exec = Jvm.exec) (hZ : Z.Warmed39 s.vm) (hw : ∀ d ∈ tables_1, d.before a0 Z = true) (hby : c.code = method_4_code) (hml : c.maxLocals = 4) (hown : s.vm.findClass "com/example/vestry/vestry/io/PaymentFormNamedPinLaw" = some m.cls) (hnm : meth.name = "fill") (hret : meth.sig.returnType = (some (.array .char))) (hlk : meth.locks = false) (e0 : T0.heap = hh) (N0 : Fr n0 locs) (Z0 : n0 ≤ hh.size) (SC : Sta Z Z.heap "java/lang/String" "COMPACT_STRINGS" "Z" (.int gC)) (PC : ¬ (gC = (0 : Int32))) (O0 : Old Z n0 hh) (hfm : fm.isRef = true) (SF : Sta Z Z.heap "jdk/internal/util/Preconditions" "SIOOBE_FORMATTER" "Ljava/util/function/BiFunction;" fm) (E_a1 : Exa Z hh a1 "java/lang/String") (Fc_a1 : Fld Z hh a1 "java/lang/String" "coder" "B" (.int (0 : Int32))) (Fv_a1 : Fld Z hh a1 "java/lang/String" "value" "[B" (.ref t1)) (V_t1 : Arv Z hh t1 k1 .byte (k.toInt32) (bs.map Value.int) (.int (0 : Int32))) (hk13 : k ≤ 13) (hn13 : n ≤ 13) (he : own_lt ee) (K0 : Keep h0 hh []) (g_ar : n0 ≤ ar) (sz_ar : h0.size ≤ ar) (na1 : a1 ≠ ar) (na2 : t1 ≠ ar) (V_ar : Arv Z hh ar ka .char (n.toInt32) (X.map Value.int) (.int (0 : Int32))) (hL : own_lat X) :
    Go p e below s roomfill.cells roomfill.slots (Qfill Z n h0 n0) m T0 59 #[.val (.ref a1), .val (.int (n.toInt32)), .val (.int ee), .val (.ref ar)] [] := by
  refine Go.st (pc' := 60) (S' := [(.int (n.toInt32))]) (fun t_ k_ => XS.iloadN X0.here hx rfl (hb hby d2_59) rfl k_) ?_
  refine Go.st (pc' := 61) (S' := [(.int (4 : Int32)), (.int (n.toInt32))]) (fun t_ k_ => XS.iconst X0.here hx rfl (hb hby d2_60) k_) ?_
  by_cases hc61_1 : (4 : Int32) < (n.toInt32)
  · refine Go.st (pc' := 64) (S' := []) (fun t_ k_ => XS.icmpNo X0.here hx rfl (hb hby d2_61) rfl (tlt hc61_1).2.2.2 k_) ?_
    have hkn : 4 < n := (own_ltI (m := 4) (n := n) (by omega) (by omega)).mp hc61_1
    refine Go.st (pc' := 65) (S' := [(.ref ar)]) (fun t_ k_ => XS.aloadN X0.here hx rfl (hb hby d2_64) rfl rfl k_) ?_
    refine Go.st (pc' := 66) (S' := [(.int (4 : Int32)), (.ref ar)]) (fun t_ k_ => XS.iconst X0.here hx rfl (hb hby d2_65) k_) ?_
    refine Go.st (pc' := 67) (S' := [(.ref a1), (.int (4 : Int32)), (.ref ar)]) (fun t_ k_ => XS.aloadN X0.here hx rfl (hb hby d2_66) rfl rfl k_) ?_
    refine Go.st (pc' := 68) (S' := [(.int (4 : Int32)), (.ref a1), (.int (4 : Int32)), (.ref ar)]) (fun t_ k_ => XS.iconst X0.here hx rfl (hb hby d2_67) k_) ?_
    refine Go.st (pc' := 69) (S' := [(.int ee), (.int (4 : Int32)), (.ref a1), (.int (4 : Int32)), (.ref ar)]) (fun t_ k_ => XS.iloadN X0.here hx rfl (hb hby d2_68) rfl k_) ?_
    obtain ⟨_, _, ⟨T2, L2, k2, n2⟩, -, X2, ⟨Lc2, hQ2, l2, y2, z2⟩, st2⟩ := Jvm.LawKit.callS X0 hx (y := (⟨"com/example/vestry/vestry/io/PaymentFormNamedPinLaw", "at", "(Ljava/lang/String;II)C"⟩ : MethodName)) hown (mvT hZ (wd hw 94 rfl)) (mvT hZ (wd hw 95 rfl)) (mvT hZ (wd hw 3 rfl)) (mvT hZ (wd hw 96 rfl)) (by decide) (backOf (W := 2) (rmat l Z a0 hw [] a1 t1 _ (bs) 4 (k) ee fm gC hh n0 Z0 SC PC O0 hfm SF E_a1 Fc_a1 Fv_a1 V_t1 (by decide) hk13 he) hZ (wd hw 96 rfl) (wd hw 3 rfl) (by decide) (by decide)) (g := (mkF m 69 #[.val (.ref a1), .val (.int (n.toInt32)), .val (.int ee), .val (.ref ar)] [(.int ee), (.int (4 : Int32)), (.ref a1), (.int (4 : Int32)), (.ref ar)])) rfl (by rw [hml]; rfl) (argsL := [(.ref a1), (.int (4 : Int32)), (.int ee)]) (rest := [(.int (4 : Int32)), (.ref ar)]) (lenOf pd_8 rfl) rfl (by show 2 * 0 + _ ≤ _; exact Nat.le_of_eq rfl) (hb hby d2_69) (fun _ _ => ⟨rfl, e0, (by decide : 1 + 0 ≤ _), (by decide : 13 + 0 ≤ _)⟩)
    dsimp only [Pt.U, Pt.locs, Pt.cells, Pt.slots] at X2 l2 y2 z2 st2 hQ2
    subst l2 y2 z2
    obtain ⟨ca2, rfl, hl2, N2q, e2⟩ := hQ2
    have N2 := Fr.app N0 N2q
    refine Go.st (pc' := 72) (S' := [(.int ca2), (.int (4 : Int32)), (.ref ar)]) st2 ?_
    obtain ⟨cl3, Ar3, q31, q32, q33, q34, q35⟩ := V_ar
    obtain ⟨T3, h3, X3, e3, W3, st3⟩ := stC X2 hx hZ e2 Ar3 (j := (4 : Int32)) (own_inbS (i := 4) q32 hkn (by omega)) (g := (mkF m 72 #[.val (.ref a1), .val (.int (n.toInt32)), .val (.int ee), .val (.ref ar)] [(.int ca2), (.int (4 : Int32)), (.ref ar)])) rfl rfl (hb hby d2_72)
    replace V_ar := Arv.set Ar3 q31 q32 q33 q34 q35 (fits_nar_char _) W3 (4) (own_tn (i := 4) (by omega)) (by rw [List.length_map, hL.1]; omega)
    rw [own_setI] at V_ar
    replace hL := hL.set (own_latn hl2) (4)
    replace Z0 := Nat.le_trans Z0 (Keep.of_wr W3).1
    replace K0 := K0.wr W3 (Or.inr sz_ar)
    replace O0 := O0.wr W3 g_ar
    replace E_a1 := E_a1.wr W3
    replace Fc_a1 := Fc_a1.other W3 (Or.inl na1)
    replace Fv_a1 := Fv_a1.other W3 (Or.inl na1)
    replace V_t1 := V_t1.other W3 na2
    have N3 := Fr.snoc X3 N2 g_ar
    refine Go.st (pc' := 73) (S' := []) st3 ?_
    exact sf5 a1 t1 _ bs k n ee fm gC ar _ (X.set (4) (nar .char ca2)) (Stand.up X3 (by decide) (by decide)) hx hZ hw hby hml hown hnm hret hlk e3 N3 Z0 SC PC O0 hfm SF E_a1 Fc_a1 Fv_a1 V_t1 hk13 hn13 he K0 g_ar sz_ar na1 na2 V_ar  hL
  · refine Go.st (pc' := 73) (S' := []) (fun t_ k_ => XS.icmpYes X0.here hx rfl (pc0 := 61) (pc' := 73) rfl (hb hby d2_61) rfl (flt hc61_1).2.2.2 (by decide) (by decide) k_) ?_
    exact sf5 a1 t1 _ bs k n ee fm gC ar _ X (Stand.up X0 (by decide) (by decide)) hx hZ hw hby hml hown hnm hret hlk e0 N0 Z0 SC PC O0 hfm SF E_a1 Fc_a1 Fv_a1 V_t1 hk13 hn13 he K0 g_ar sz_ar na1 na2 V_ar  hL
theorem sf3 {p : Program} {l : Launch} {e : Env} {s : State} {m : MethodId} {args : Array Value} {below : List Frame} {meth : Method} {c : Code} {T0 : State} {locs : List Loc} {Z : State} {a0 : Array Value} {n0 : Nat} {h0 hh : Heap} (a1 : Addr) (t1 : Addr) (k1 : ClassId) (bs : List Int32) (k : Nat) (n : Nat) (ee : Int32) (fm : Value) (gC : Int32) (ar : Addr) (ka : ClassId) (X : List Int32)
    (X0 : Stand p l e roomfill s m args below meth c T0 locs 1 13) (hx : p.tables.exec = Jvm.exec) (hZ : Z.Warmed39 s.vm) (hw : ∀ d ∈ tables_1, d.before a0 Z = true) (hby : c.code = method_4_code) (hml : c.maxLocals = 4) (hown : s.vm.findClass "com/example/vestry/vestry/io/PaymentFormNamedPinLaw" = some m.cls) (hnm : meth.name = "fill") (hret : meth.sig.returnType = (some (.array .char))) (hlk : meth.locks = false) (e0 : T0.heap = hh) (N0 : Fr n0 locs) (Z0 : n0 ≤ hh.size) (SC : Sta Z Z.heap "java/lang/String" "COMPACT_STRINGS" "Z" (.int gC)) (PC : ¬ (gC = (0 : Int32))) (O0 : Old Z n0 hh) (hfm : fm.isRef = true) (SF : Sta Z Z.heap "jdk/internal/util/Preconditions" "SIOOBE_FORMATTER" "Ljava/util/function/BiFunction;" fm) (E_a1 : Exa Z hh a1 "java/lang/String") (Fc_a1 : Fld Z hh a1 "java/lang/String" "coder" "B" (.int (0 : Int32))) (Fv_a1 : Fld Z hh a1 "java/lang/String" "value" "[B" (.ref t1)) (V_t1 : Arv Z hh t1 k1 .byte (k.toInt32) (bs.map Value.int) (.int (0 : Int32))) (hk13 : k ≤ 13) (hn13 : n ≤ 13) (he : own_lt ee) (K0 : Keep h0 hh []) (g_ar : n0 ≤ ar) (sz_ar : h0.size ≤ ar) (na1 : a1 ≠ ar) (na2 : t1 ≠ ar) (V_ar : Arv Z hh ar ka .char (n.toInt32) (X.map Value.int) (.int (0 : Int32))) (hL : own_lat X) :
    Go p e below s roomfill.cells roomfill.slots (Qfill Z n h0 n0) m T0 45 #[.val (.ref a1), .val (.int (n.toInt32)), .val (.int ee), .val (.ref ar)] [] := by
  refine Go.st (pc' := 46) (S' := [(.int (n.toInt32))]) (fun t_ k_ => XS.iloadN X0.here hx rfl (hb hby d2_45) rfl k_) ?_
  refine Go.st (pc' := 47) (S' := [(.int (3 : Int32)), (.int (n.toInt32))]) (fun t_ k_ => XS.iconst X0.here hx rfl (hb hby d2_46) k_) ?_
  by_cases hc47_1 : (3 : Int32) < (n.toInt32)
  · refine Go.st (pc' := 50) (S' := []) (fun t_ k_ => XS.icmpNo X0.here hx rfl (hb hby d2_47) rfl (tlt hc47_1).2.2.2 k_) ?_
    have hkn : 3 < n := (own_ltI (m := 3) (n := n) (by omega) (by omega)).mp hc47_1
    refine Go.st (pc' := 51) (S' := [(.ref ar)]) (fun t_ k_ => XS.aloadN X0.here hx rfl (hb hby d2_50) rfl rfl k_) ?_
    refine Go.st (pc' := 52) (S' := [(.int (3 : Int32)), (.ref ar)]) (fun t_ k_ => XS.iconst X0.here hx rfl (hb hby d2_51) k_) ?_
    refine Go.st (pc' := 53) (S' := [(.ref a1), (.int (3 : Int32)), (.ref ar)]) (fun t_ k_ => XS.aloadN X0.here hx rfl (hb hby d2_52) rfl rfl k_) ?_
    refine Go.st (pc' := 54) (S' := [(.int (3 : Int32)), (.ref a1), (.int (3 : Int32)), (.ref ar)]) (fun t_ k_ => XS.iconst X0.here hx rfl (hb hby d2_53) k_) ?_
    refine Go.st (pc' := 55) (S' := [(.int ee), (.int (3 : Int32)), (.ref a1), (.int (3 : Int32)), (.ref ar)]) (fun t_ k_ => XS.iloadN X0.here hx rfl (hb hby d2_54) rfl k_) ?_
    obtain ⟨_, _, ⟨T2, L2, k2, n2⟩, -, X2, ⟨Lc2, hQ2, l2, y2, z2⟩, st2⟩ := Jvm.LawKit.callS X0 hx (y := (⟨"com/example/vestry/vestry/io/PaymentFormNamedPinLaw", "at", "(Ljava/lang/String;II)C"⟩ : MethodName)) hown (mvT hZ (wd hw 94 rfl)) (mvT hZ (wd hw 95 rfl)) (mvT hZ (wd hw 3 rfl)) (mvT hZ (wd hw 96 rfl)) (by decide) (backOf (W := 2) (rmat l Z a0 hw [] a1 t1 _ (bs) 3 (k) ee fm gC hh n0 Z0 SC PC O0 hfm SF E_a1 Fc_a1 Fv_a1 V_t1 (by decide) hk13 he) hZ (wd hw 96 rfl) (wd hw 3 rfl) (by decide) (by decide)) (g := (mkF m 55 #[.val (.ref a1), .val (.int (n.toInt32)), .val (.int ee), .val (.ref ar)] [(.int ee), (.int (3 : Int32)), (.ref a1), (.int (3 : Int32)), (.ref ar)])) rfl (by rw [hml]; rfl) (argsL := [(.ref a1), (.int (3 : Int32)), (.int ee)]) (rest := [(.int (3 : Int32)), (.ref ar)]) (lenOf pd_8 rfl) rfl (by show 2 * 0 + _ ≤ _; exact Nat.le_of_eq rfl) (hb hby d2_55) (fun _ _ => ⟨rfl, e0, (by decide : 1 + 0 ≤ _), (by decide : 13 + 0 ≤ _)⟩)
    dsimp only [Pt.U, Pt.locs, Pt.cells, Pt.slots] at X2 l2 y2 z2 st2 hQ2
    subst l2 y2 z2
    obtain ⟨ca2, rfl, hl2, N2q, e2⟩ := hQ2
    have N2 := Fr.app N0 N2q
    refine Go.st (pc' := 58) (S' := [(.int ca2), (.int (3 : Int32)), (.ref ar)]) st2 ?_
    obtain ⟨cl3, Ar3, q31, q32, q33, q34, q35⟩ := V_ar
    obtain ⟨T3, h3, X3, e3, W3, st3⟩ := stC X2 hx hZ e2 Ar3 (j := (3 : Int32)) (own_inbS (i := 3) q32 hkn (by omega)) (g := (mkF m 58 #[.val (.ref a1), .val (.int (n.toInt32)), .val (.int ee), .val (.ref ar)] [(.int ca2), (.int (3 : Int32)), (.ref ar)])) rfl rfl (hb hby d2_58)
    replace V_ar := Arv.set Ar3 q31 q32 q33 q34 q35 (fits_nar_char _) W3 (3) (own_tn (i := 3) (by omega)) (by rw [List.length_map, hL.1]; omega)
    rw [own_setI] at V_ar
    replace hL := hL.set (own_latn hl2) (3)
    replace Z0 := Nat.le_trans Z0 (Keep.of_wr W3).1
    replace K0 := K0.wr W3 (Or.inr sz_ar)
    replace O0 := O0.wr W3 g_ar
    replace E_a1 := E_a1.wr W3
    replace Fc_a1 := Fc_a1.other W3 (Or.inl na1)
    replace Fv_a1 := Fv_a1.other W3 (Or.inl na1)
    replace V_t1 := V_t1.other W3 na2
    have N3 := Fr.snoc X3 N2 g_ar
    refine Go.st (pc' := 59) (S' := []) st3 ?_
    exact sf4 a1 t1 _ bs k n ee fm gC ar _ (X.set (3) (nar .char ca2)) (Stand.up X3 (by decide) (by decide)) hx hZ hw hby hml hown hnm hret hlk e3 N3 Z0 SC PC O0 hfm SF E_a1 Fc_a1 Fv_a1 V_t1 hk13 hn13 he K0 g_ar sz_ar na1 na2 V_ar  hL
  · refine Go.st (pc' := 59) (S' := []) (fun t_ k_ => XS.icmpYes X0.here hx rfl (pc0 := 47) (pc' := 59) rfl (hb hby d2_47) rfl (flt hc47_1).2.2.2 (by decide) (by decide) k_) ?_
    exact sf4 a1 t1 _ bs k n ee fm gC ar _ X (Stand.up X0 (by decide) (by decide)) hx hZ hw hby hml hown hnm hret hlk e0 N0 Z0 SC PC O0 hfm SF E_a1 Fc_a1 Fv_a1 V_t1 hk13 hn13 he K0 g_ar sz_ar na1 na2 V_ar  hL
theorem sf2 {p : Program} {l : Launch} {e : Env} {s : State} {m : MethodId} {args : Array Value} {below : List Frame} {meth : Method} {c : Code} {T0 : State} {locs : List Loc} {Z : State} {a0 : Array Value} {n0 : Nat} {h0 hh : Heap} (a1 : Addr) (t1 : Addr) (k1 : ClassId) (bs : List Int32) (k : Nat) (n : Nat) (ee : Int32) (fm : Value) (gC : Int32) (ar : Addr) (ka : ClassId) (X : List Int32)
    (X0 : Stand p l e roomfill s m args below meth c T0 locs 1 13) (hx : p.tables.exec = Jvm.exec) (hZ : Z.Warmed39 s.vm) (hw : ∀ d ∈ tables_1, d.before a0 Z = true) (hby : c.code = method_4_code) (hml : c.maxLocals = 4) (hown : s.vm.findClass "com/example/vestry/vestry/io/PaymentFormNamedPinLaw" = some m.cls) (hnm : meth.name = "fill") (hret : meth.sig.returnType = (some (.array .char))) (hlk : meth.locks = false) (e0 : T0.heap = hh) (N0 : Fr n0 locs) (Z0 : n0 ≤ hh.size) (SC : Sta Z Z.heap "java/lang/String" "COMPACT_STRINGS" "Z" (.int gC)) (PC : ¬ (gC = (0 : Int32))) (O0 : Old Z n0 hh) (hfm : fm.isRef = true) (SF : Sta Z Z.heap "jdk/internal/util/Preconditions" "SIOOBE_FORMATTER" "Ljava/util/function/BiFunction;" fm) (E_a1 : Exa Z hh a1 "java/lang/String") (Fc_a1 : Fld Z hh a1 "java/lang/String" "coder" "B" (.int (0 : Int32))) (Fv_a1 : Fld Z hh a1 "java/lang/String" "value" "[B" (.ref t1)) (V_t1 : Arv Z hh t1 k1 .byte (k.toInt32) (bs.map Value.int) (.int (0 : Int32))) (hk13 : k ≤ 13) (hn13 : n ≤ 13) (he : own_lt ee) (K0 : Keep h0 hh []) (g_ar : n0 ≤ ar) (sz_ar : h0.size ≤ ar) (na1 : a1 ≠ ar) (na2 : t1 ≠ ar) (V_ar : Arv Z hh ar ka .char (n.toInt32) (X.map Value.int) (.int (0 : Int32))) (hL : own_lat X) :
    Go p e below s roomfill.cells roomfill.slots (Qfill Z n h0 n0) m T0 31 #[.val (.ref a1), .val (.int (n.toInt32)), .val (.int ee), .val (.ref ar)] [] := by
  refine Go.st (pc' := 32) (S' := [(.int (n.toInt32))]) (fun t_ k_ => XS.iloadN X0.here hx rfl (hb hby d2_31) rfl k_) ?_
  refine Go.st (pc' := 33) (S' := [(.int (2 : Int32)), (.int (n.toInt32))]) (fun t_ k_ => XS.iconst X0.here hx rfl (hb hby d2_32) k_) ?_
  by_cases hc33_1 : (2 : Int32) < (n.toInt32)
  · refine Go.st (pc' := 36) (S' := []) (fun t_ k_ => XS.icmpNo X0.here hx rfl (hb hby d2_33) rfl (tlt hc33_1).2.2.2 k_) ?_
    have hkn : 2 < n := (own_ltI (m := 2) (n := n) (by omega) (by omega)).mp hc33_1
    refine Go.st (pc' := 37) (S' := [(.ref ar)]) (fun t_ k_ => XS.aloadN X0.here hx rfl (hb hby d2_36) rfl rfl k_) ?_
    refine Go.st (pc' := 38) (S' := [(.int (2 : Int32)), (.ref ar)]) (fun t_ k_ => XS.iconst X0.here hx rfl (hb hby d2_37) k_) ?_
    refine Go.st (pc' := 39) (S' := [(.ref a1), (.int (2 : Int32)), (.ref ar)]) (fun t_ k_ => XS.aloadN X0.here hx rfl (hb hby d2_38) rfl rfl k_) ?_
    refine Go.st (pc' := 40) (S' := [(.int (2 : Int32)), (.ref a1), (.int (2 : Int32)), (.ref ar)]) (fun t_ k_ => XS.iconst X0.here hx rfl (hb hby d2_39) k_) ?_
    refine Go.st (pc' := 41) (S' := [(.int ee), (.int (2 : Int32)), (.ref a1), (.int (2 : Int32)), (.ref ar)]) (fun t_ k_ => XS.iloadN X0.here hx rfl (hb hby d2_40) rfl k_) ?_
    obtain ⟨_, _, ⟨T2, L2, k2, n2⟩, -, X2, ⟨Lc2, hQ2, l2, y2, z2⟩, st2⟩ := Jvm.LawKit.callS X0 hx (y := (⟨"com/example/vestry/vestry/io/PaymentFormNamedPinLaw", "at", "(Ljava/lang/String;II)C"⟩ : MethodName)) hown (mvT hZ (wd hw 94 rfl)) (mvT hZ (wd hw 95 rfl)) (mvT hZ (wd hw 3 rfl)) (mvT hZ (wd hw 96 rfl)) (by decide) (backOf (W := 2) (rmat l Z a0 hw [] a1 t1 _ (bs) 2 (k) ee fm gC hh n0 Z0 SC PC O0 hfm SF E_a1 Fc_a1 Fv_a1 V_t1 (by decide) hk13 he) hZ (wd hw 96 rfl) (wd hw 3 rfl) (by decide) (by decide)) (g := (mkF m 41 #[.val (.ref a1), .val (.int (n.toInt32)), .val (.int ee), .val (.ref ar)] [(.int ee), (.int (2 : Int32)), (.ref a1), (.int (2 : Int32)), (.ref ar)])) rfl (by rw [hml]; rfl) (argsL := [(.ref a1), (.int (2 : Int32)), (.int ee)]) (rest := [(.int (2 : Int32)), (.ref ar)]) (lenOf pd_8 rfl) rfl (by show 2 * 0 + _ ≤ _; exact Nat.le_of_eq rfl) (hb hby d2_41) (fun _ _ => ⟨rfl, e0, (by decide : 1 + 0 ≤ _), (by decide : 13 + 0 ≤ _)⟩)
    dsimp only [Pt.U, Pt.locs, Pt.cells, Pt.slots] at X2 l2 y2 z2 st2 hQ2
    subst l2 y2 z2
    obtain ⟨ca2, rfl, hl2, N2q, e2⟩ := hQ2
    have N2 := Fr.app N0 N2q
    refine Go.st (pc' := 44) (S' := [(.int ca2), (.int (2 : Int32)), (.ref ar)]) st2 ?_
    obtain ⟨cl3, Ar3, q31, q32, q33, q34, q35⟩ := V_ar
    obtain ⟨T3, h3, X3, e3, W3, st3⟩ := stC X2 hx hZ e2 Ar3 (j := (2 : Int32)) (own_inbS (i := 2) q32 hkn (by omega)) (g := (mkF m 44 #[.val (.ref a1), .val (.int (n.toInt32)), .val (.int ee), .val (.ref ar)] [(.int ca2), (.int (2 : Int32)), (.ref ar)])) rfl rfl (hb hby d2_44)
    replace V_ar := Arv.set Ar3 q31 q32 q33 q34 q35 (fits_nar_char _) W3 (2) (own_tn (i := 2) (by omega)) (by rw [List.length_map, hL.1]; omega)
    rw [own_setI] at V_ar
    replace hL := hL.set (own_latn hl2) (2)
    replace Z0 := Nat.le_trans Z0 (Keep.of_wr W3).1
    replace K0 := K0.wr W3 (Or.inr sz_ar)
    replace O0 := O0.wr W3 g_ar
    replace E_a1 := E_a1.wr W3
    replace Fc_a1 := Fc_a1.other W3 (Or.inl na1)
    replace Fv_a1 := Fv_a1.other W3 (Or.inl na1)
    replace V_t1 := V_t1.other W3 na2
    have N3 := Fr.snoc X3 N2 g_ar
    refine Go.st (pc' := 45) (S' := []) st3 ?_
    exact sf3 a1 t1 _ bs k n ee fm gC ar _ (X.set (2) (nar .char ca2)) (Stand.up X3 (by decide) (by decide)) hx hZ hw hby hml hown hnm hret hlk e3 N3 Z0 SC PC O0 hfm SF E_a1 Fc_a1 Fv_a1 V_t1 hk13 hn13 he K0 g_ar sz_ar na1 na2 V_ar  hL
  · refine Go.st (pc' := 45) (S' := []) (fun t_ k_ => XS.icmpYes X0.here hx rfl (pc0 := 33) (pc' := 45) rfl (hb hby d2_33) rfl (flt hc33_1).2.2.2 (by decide) (by decide) k_) ?_
    exact sf3 a1 t1 _ bs k n ee fm gC ar _ X (Stand.up X0 (by decide) (by decide)) hx hZ hw hby hml hown hnm hret hlk e0 N0 Z0 SC PC O0 hfm SF E_a1 Fc_a1 Fv_a1 V_t1 hk13 hn13 he K0 g_ar sz_ar na1 na2 V_ar  hL
theorem sf1 {p : Program} {l : Launch} {e : Env} {s : State} {m : MethodId} {args : Array Value} {below : List Frame} {meth : Method} {c : Code} {T0 : State} {locs : List Loc} {Z : State} {a0 : Array Value} {n0 : Nat} {h0 hh : Heap} (a1 : Addr) (t1 : Addr) (k1 : ClassId) (bs : List Int32) (k : Nat) (n : Nat) (ee : Int32) (fm : Value) (gC : Int32) (ar : Addr) (ka : ClassId) (X : List Int32)
    (X0 : Stand p l e roomfill s m args below meth c T0 locs 1 13) (hx : p.tables.exec = Jvm.exec) (hZ : Z.Warmed39 s.vm) (hw : ∀ d ∈ tables_1, d.before a0 Z = true) (hby : c.code = method_4_code) (hml : c.maxLocals = 4) (hown : s.vm.findClass "com/example/vestry/vestry/io/PaymentFormNamedPinLaw" = some m.cls) (hnm : meth.name = "fill") (hret : meth.sig.returnType = (some (.array .char))) (hlk : meth.locks = false) (e0 : T0.heap = hh) (N0 : Fr n0 locs) (Z0 : n0 ≤ hh.size) (SC : Sta Z Z.heap "java/lang/String" "COMPACT_STRINGS" "Z" (.int gC)) (PC : ¬ (gC = (0 : Int32))) (O0 : Old Z n0 hh) (hfm : fm.isRef = true) (SF : Sta Z Z.heap "jdk/internal/util/Preconditions" "SIOOBE_FORMATTER" "Ljava/util/function/BiFunction;" fm) (E_a1 : Exa Z hh a1 "java/lang/String") (Fc_a1 : Fld Z hh a1 "java/lang/String" "coder" "B" (.int (0 : Int32))) (Fv_a1 : Fld Z hh a1 "java/lang/String" "value" "[B" (.ref t1)) (V_t1 : Arv Z hh t1 k1 .byte (k.toInt32) (bs.map Value.int) (.int (0 : Int32))) (hk13 : k ≤ 13) (hn13 : n ≤ 13) (he : own_lt ee) (K0 : Keep h0 hh []) (g_ar : n0 ≤ ar) (sz_ar : h0.size ≤ ar) (na1 : a1 ≠ ar) (na2 : t1 ≠ ar) (V_ar : Arv Z hh ar ka .char (n.toInt32) (X.map Value.int) (.int (0 : Int32))) (hL : own_lat X) :
    Go p e below s roomfill.cells roomfill.slots (Qfill Z n h0 n0) m T0 17 #[.val (.ref a1), .val (.int (n.toInt32)), .val (.int ee), .val (.ref ar)] [] := by
  refine Go.st (pc' := 18) (S' := [(.int (n.toInt32))]) (fun t_ k_ => XS.iloadN X0.here hx rfl (hb hby d2_17) rfl k_) ?_
  refine Go.st (pc' := 19) (S' := [(.int (1 : Int32)), (.int (n.toInt32))]) (fun t_ k_ => XS.iconst X0.here hx rfl (hb hby d2_18) k_) ?_
  by_cases hc19_1 : (1 : Int32) < (n.toInt32)
  · refine Go.st (pc' := 22) (S' := []) (fun t_ k_ => XS.icmpNo X0.here hx rfl (hb hby d2_19) rfl (tlt hc19_1).2.2.2 k_) ?_
    have hkn : 1 < n := (own_ltI (m := 1) (n := n) (by omega) (by omega)).mp hc19_1
    refine Go.st (pc' := 23) (S' := [(.ref ar)]) (fun t_ k_ => XS.aloadN X0.here hx rfl (hb hby d2_22) rfl rfl k_) ?_
    refine Go.st (pc' := 24) (S' := [(.int (1 : Int32)), (.ref ar)]) (fun t_ k_ => XS.iconst X0.here hx rfl (hb hby d2_23) k_) ?_
    refine Go.st (pc' := 25) (S' := [(.ref a1), (.int (1 : Int32)), (.ref ar)]) (fun t_ k_ => XS.aloadN X0.here hx rfl (hb hby d2_24) rfl rfl k_) ?_
    refine Go.st (pc' := 26) (S' := [(.int (1 : Int32)), (.ref a1), (.int (1 : Int32)), (.ref ar)]) (fun t_ k_ => XS.iconst X0.here hx rfl (hb hby d2_25) k_) ?_
    refine Go.st (pc' := 27) (S' := [(.int ee), (.int (1 : Int32)), (.ref a1), (.int (1 : Int32)), (.ref ar)]) (fun t_ k_ => XS.iloadN X0.here hx rfl (hb hby d2_26) rfl k_) ?_
    obtain ⟨_, _, ⟨T2, L2, k2, n2⟩, -, X2, ⟨Lc2, hQ2, l2, y2, z2⟩, st2⟩ := Jvm.LawKit.callS X0 hx (y := (⟨"com/example/vestry/vestry/io/PaymentFormNamedPinLaw", "at", "(Ljava/lang/String;II)C"⟩ : MethodName)) hown (mvT hZ (wd hw 94 rfl)) (mvT hZ (wd hw 95 rfl)) (mvT hZ (wd hw 3 rfl)) (mvT hZ (wd hw 96 rfl)) (by decide) (backOf (W := 2) (rmat l Z a0 hw [] a1 t1 _ (bs) 1 (k) ee fm gC hh n0 Z0 SC PC O0 hfm SF E_a1 Fc_a1 Fv_a1 V_t1 (by decide) hk13 he) hZ (wd hw 96 rfl) (wd hw 3 rfl) (by decide) (by decide)) (g := (mkF m 27 #[.val (.ref a1), .val (.int (n.toInt32)), .val (.int ee), .val (.ref ar)] [(.int ee), (.int (1 : Int32)), (.ref a1), (.int (1 : Int32)), (.ref ar)])) rfl (by rw [hml]; rfl) (argsL := [(.ref a1), (.int (1 : Int32)), (.int ee)]) (rest := [(.int (1 : Int32)), (.ref ar)]) (lenOf pd_8 rfl) rfl (by show 2 * 0 + _ ≤ _; exact Nat.le_of_eq rfl) (hb hby d2_27) (fun _ _ => ⟨rfl, e0, (by decide : 1 + 0 ≤ _), (by decide : 13 + 0 ≤ _)⟩)
    dsimp only [Pt.U, Pt.locs, Pt.cells, Pt.slots] at X2 l2 y2 z2 st2 hQ2
    subst l2 y2 z2
    obtain ⟨ca2, rfl, hl2, N2q, e2⟩ := hQ2
    have N2 := Fr.app N0 N2q
    refine Go.st (pc' := 30) (S' := [(.int ca2), (.int (1 : Int32)), (.ref ar)]) st2 ?_
    obtain ⟨cl3, Ar3, q31, q32, q33, q34, q35⟩ := V_ar
    obtain ⟨T3, h3, X3, e3, W3, st3⟩ := stC X2 hx hZ e2 Ar3 (j := (1 : Int32)) (own_inbS (i := 1) q32 hkn (by omega)) (g := (mkF m 30 #[.val (.ref a1), .val (.int (n.toInt32)), .val (.int ee), .val (.ref ar)] [(.int ca2), (.int (1 : Int32)), (.ref ar)])) rfl rfl (hb hby d2_30)
    replace V_ar := Arv.set Ar3 q31 q32 q33 q34 q35 (fits_nar_char _) W3 (1) (own_tn (i := 1) (by omega)) (by rw [List.length_map, hL.1]; omega)
    rw [own_setI] at V_ar
    replace hL := hL.set (own_latn hl2) (1)
    replace Z0 := Nat.le_trans Z0 (Keep.of_wr W3).1
    replace K0 := K0.wr W3 (Or.inr sz_ar)
    replace O0 := O0.wr W3 g_ar
    replace E_a1 := E_a1.wr W3
    replace Fc_a1 := Fc_a1.other W3 (Or.inl na1)
    replace Fv_a1 := Fv_a1.other W3 (Or.inl na1)
    replace V_t1 := V_t1.other W3 na2
    have N3 := Fr.snoc X3 N2 g_ar
    refine Go.st (pc' := 31) (S' := []) st3 ?_
    exact sf2 a1 t1 _ bs k n ee fm gC ar _ (X.set (1) (nar .char ca2)) (Stand.up X3 (by decide) (by decide)) hx hZ hw hby hml hown hnm hret hlk e3 N3 Z0 SC PC O0 hfm SF E_a1 Fc_a1 Fv_a1 V_t1 hk13 hn13 he K0 g_ar sz_ar na1 na2 V_ar  hL
  · refine Go.st (pc' := 31) (S' := []) (fun t_ k_ => XS.icmpYes X0.here hx rfl (pc0 := 19) (pc' := 31) rfl (hb hby d2_19) rfl (flt hc19_1).2.2.2 (by decide) (by decide) k_) ?_
    exact sf2 a1 t1 _ bs k n ee fm gC ar _ X (Stand.up X0 (by decide) (by decide)) hx hZ hw hby hml hown hnm hret hlk e0 N0 Z0 SC PC O0 hfm SF E_a1 Fc_a1 Fv_a1 V_t1 hk13 hn13 he K0 g_ar sz_ar na1 na2 V_ar  hL
theorem sf0 {p : Program} {l : Launch} {e : Env} {s : State} {m : MethodId} {args : Array Value} {below : List Frame} {meth : Method} {c : Code} {T0 : State} {locs : List Loc} {Z : State} {a0 : Array Value} {n0 : Nat} {h0 hh : Heap} (a1 : Addr) (t1 : Addr) (k1 : ClassId) (bs : List Int32) (k : Nat) (n : Nat) (ee : Int32) (fm : Value) (gC : Int32) (ar : Addr) (ka : ClassId) (X : List Int32)
    (X0 : Stand p l e roomfill s m args below meth c T0 locs 1 13) (hx : p.tables.exec = Jvm.exec) (hZ : Z.Warmed39 s.vm) (hw : ∀ d ∈ tables_1, d.before a0 Z = true) (hby : c.code = method_4_code) (hml : c.maxLocals = 4) (hown : s.vm.findClass "com/example/vestry/vestry/io/PaymentFormNamedPinLaw" = some m.cls) (hnm : meth.name = "fill") (hret : meth.sig.returnType = (some (.array .char))) (hlk : meth.locks = false) (e0 : T0.heap = hh) (N0 : Fr n0 locs) (Z0 : n0 ≤ hh.size) (SC : Sta Z Z.heap "java/lang/String" "COMPACT_STRINGS" "Z" (.int gC)) (PC : ¬ (gC = (0 : Int32))) (O0 : Old Z n0 hh) (hfm : fm.isRef = true) (SF : Sta Z Z.heap "jdk/internal/util/Preconditions" "SIOOBE_FORMATTER" "Ljava/util/function/BiFunction;" fm) (E_a1 : Exa Z hh a1 "java/lang/String") (Fc_a1 : Fld Z hh a1 "java/lang/String" "coder" "B" (.int (0 : Int32))) (Fv_a1 : Fld Z hh a1 "java/lang/String" "value" "[B" (.ref t1)) (V_t1 : Arv Z hh t1 k1 .byte (k.toInt32) (bs.map Value.int) (.int (0 : Int32))) (hk13 : k ≤ 13) (hn13 : n ≤ 13) (he : own_lt ee) (K0 : Keep h0 hh []) (g_ar : n0 ≤ ar) (sz_ar : h0.size ≤ ar) (na1 : a1 ≠ ar) (na2 : t1 ≠ ar) (V_ar : Arv Z hh ar ka .char (n.toInt32) (X.map Value.int) (.int (0 : Int32))) (hL : own_lat X) :
    Go p e below s roomfill.cells roomfill.slots (Qfill Z n h0 n0) m T0 4 #[.val (.ref a1), .val (.int (n.toInt32)), .val (.int ee), .val (.ref ar)] [] := by
  refine Go.st (pc' := 5) (S' := [(.int (n.toInt32))]) (fun t_ k_ => XS.iloadN X0.here hx rfl (hb hby d2_4) rfl k_) ?_
  by_cases hc5_1 : (0 : Int32) < (n.toInt32)
  · refine Go.st (pc' := 8) (S' := []) (fun t_ k_ => XS.ifNo X0.here hx rfl (hb hby d2_5) rfl ((if0 _ _).trans (tlt hc5_1).2.2.2) k_) ?_
    have hkn : 0 < n := (own_ltI (m := 0) (n := n) (by omega) (by omega)).mp hc5_1
    refine Go.st (pc' := 9) (S' := [(.ref ar)]) (fun t_ k_ => XS.aloadN X0.here hx rfl (hb hby d2_8) rfl rfl k_) ?_
    refine Go.st (pc' := 10) (S' := [(.int (0 : Int32)), (.ref ar)]) (fun t_ k_ => XS.iconst X0.here hx rfl (hb hby d2_9) k_) ?_
    refine Go.st (pc' := 11) (S' := [(.ref a1), (.int (0 : Int32)), (.ref ar)]) (fun t_ k_ => XS.aloadN X0.here hx rfl (hb hby d2_10) rfl rfl k_) ?_
    refine Go.st (pc' := 12) (S' := [(.int (0 : Int32)), (.ref a1), (.int (0 : Int32)), (.ref ar)]) (fun t_ k_ => XS.iconst X0.here hx rfl (hb hby d2_11) k_) ?_
    refine Go.st (pc' := 13) (S' := [(.int ee), (.int (0 : Int32)), (.ref a1), (.int (0 : Int32)), (.ref ar)]) (fun t_ k_ => XS.iloadN X0.here hx rfl (hb hby d2_12) rfl k_) ?_
    obtain ⟨_, _, ⟨T2, L2, k2, n2⟩, -, X2, ⟨Lc2, hQ2, l2, y2, z2⟩, st2⟩ := Jvm.LawKit.callS X0 hx (y := (⟨"com/example/vestry/vestry/io/PaymentFormNamedPinLaw", "at", "(Ljava/lang/String;II)C"⟩ : MethodName)) hown (mvT hZ (wd hw 94 rfl)) (mvT hZ (wd hw 95 rfl)) (mvT hZ (wd hw 3 rfl)) (mvT hZ (wd hw 96 rfl)) (by decide) (backOf (W := 2) (rmat l Z a0 hw [] a1 t1 _ (bs) 0 (k) ee fm gC hh n0 Z0 SC PC O0 hfm SF E_a1 Fc_a1 Fv_a1 V_t1 (by decide) hk13 he) hZ (wd hw 96 rfl) (wd hw 3 rfl) (by decide) (by decide)) (g := (mkF m 13 #[.val (.ref a1), .val (.int (n.toInt32)), .val (.int ee), .val (.ref ar)] [(.int ee), (.int (0 : Int32)), (.ref a1), (.int (0 : Int32)), (.ref ar)])) rfl (by rw [hml]; rfl) (argsL := [(.ref a1), (.int (0 : Int32)), (.int ee)]) (rest := [(.int (0 : Int32)), (.ref ar)]) (lenOf pd_8 rfl) rfl (by show 2 * 0 + _ ≤ _; exact Nat.le_of_eq rfl) (hb hby d2_13) (fun _ _ => ⟨rfl, e0, (by decide : 1 + 0 ≤ _), (by decide : 13 + 0 ≤ _)⟩)
    dsimp only [Pt.U, Pt.locs, Pt.cells, Pt.slots] at X2 l2 y2 z2 st2 hQ2
    subst l2 y2 z2
    obtain ⟨ca2, rfl, hl2, N2q, e2⟩ := hQ2
    have N2 := Fr.app N0 N2q
    refine Go.st (pc' := 16) (S' := [(.int ca2), (.int (0 : Int32)), (.ref ar)]) st2 ?_
    obtain ⟨cl3, Ar3, q31, q32, q33, q34, q35⟩ := V_ar
    obtain ⟨T3, h3, X3, e3, W3, st3⟩ := stC X2 hx hZ e2 Ar3 (j := (0 : Int32)) (own_inbS (i := 0) q32 hkn (by omega)) (g := (mkF m 16 #[.val (.ref a1), .val (.int (n.toInt32)), .val (.int ee), .val (.ref ar)] [(.int ca2), (.int (0 : Int32)), (.ref ar)])) rfl rfl (hb hby d2_16)
    replace V_ar := Arv.set Ar3 q31 q32 q33 q34 q35 (fits_nar_char _) W3 (0) (own_tn (i := 0) (by omega)) (by rw [List.length_map, hL.1]; omega)
    rw [own_setI] at V_ar
    replace hL := hL.set (own_latn hl2) (0)
    replace Z0 := Nat.le_trans Z0 (Keep.of_wr W3).1
    replace K0 := K0.wr W3 (Or.inr sz_ar)
    replace O0 := O0.wr W3 g_ar
    replace E_a1 := E_a1.wr W3
    replace Fc_a1 := Fc_a1.other W3 (Or.inl na1)
    replace Fv_a1 := Fv_a1.other W3 (Or.inl na1)
    replace V_t1 := V_t1.other W3 na2
    have N3 := Fr.snoc X3 N2 g_ar
    refine Go.st (pc' := 17) (S' := []) st3 ?_
    exact sf1 a1 t1 _ bs k n ee fm gC ar _ (X.set (0) (nar .char ca2)) (Stand.up X3 (by decide) (by decide)) hx hZ hw hby hml hown hnm hret hlk e3 N3 Z0 SC PC O0 hfm SF E_a1 Fc_a1 Fv_a1 V_t1 hk13 hn13 he K0 g_ar sz_ar na1 na2 V_ar  hL
  · refine Go.st (pc' := 17) (S' := []) (fun t_ k_ => XS.ifYes X0.here hx rfl (pc0 := 5) (pc' := 17) rfl (hb hby d2_5) rfl ((if0 _ _).trans (flt hc5_1).2.2.2) (by decide) (by decide) k_) ?_
    exact sf1 a1 t1 _ bs k n ee fm gC ar _ X (Stand.up X0 (by decide) (by decide)) hx hZ hw hby hml hown hnm hret hlk e0 N0 Z0 SC PC O0 hfm SF E_a1 Fc_a1 Fv_a1 V_t1 hk13 hn13 he K0 g_ar sz_ar na1 na2 V_ar  hL
theorem rmfill (l : Launch) (Z : State) (a0 : Array Value) (hw : ∀ d ∈ tables_1, d.before a0 Z = true) (ws : List Jvm.Cond) (a1 : Addr) (t1 : Addr) (k1 : ClassId) (bs : List Int32) (k : Nat) (n : Nat) (ee : Int32) (fm : Value) (gC : Int32) (h0 : Heap) (n0 : Nat) (Z0 : n0 ≤ h0.size) (SC : Sta Z Z.heap "java/lang/String" "COMPACT_STRINGS" "Z" (.int gC)) (PC : ¬ (gC = (0 : Int32))) (O0 : Old Z n0 h0) (hfm : fm.isRef = true) (SF : Sta Z Z.heap "jdk/internal/util/Preconditions" "SIOOBE_FORMATTER" "Ljava/util/function/BiFunction;" fm) (E_a1 : Exa Z h0 a1 "java/lang/String") (Fc_a1 : Fld Z h0 a1 "java/lang/String" "coder" "B" (.int (0 : Int32))) (Fv_a1 : Fld Z h0 a1 "java/lang/String" "value" "[B" (.ref t1)) (V_t1 : Arv Z h0 t1 k1 .byte (k.toInt32) (bs.map Value.int) (.int (0 : Int32))) (hk13 : k ≤ 13) (hn13 : n ≤ 13) (he : own_lt ee) :
    MetFree l (⟨"com/example/vestry/vestry/io/PaymentFormNamedPinLaw", "fill", "(Ljava/lang/String;II)[C"⟩ : MethodName) (head1 (Jvm.Cond.code (⟨"com/example/vestry/vestry/io/PaymentFormNamedPinLaw", "fill", "(Ljava/lang/String;II)[C"⟩ : MethodName) method_4_code 4 (some (.array .char)) :: ws) roomfill) (fun aa_ U_ => aa_ = #[(.ref a1), (.int (n.toInt32)), (.int ee)] ∧ Z.Warmed39 U_.vm ∧ U_.heap = h0) (fun _ _ _ _ _ => True) (fun _ U_ o_ W_ => ∃ v_ L_, o_ = .returned v_ ∧ (Qfill Z n h0 n0) v_ W_.heap L_ ∧ FrameEnd U_ o_ W_ L_ roomfill.cells roomfill.slots) := by
  refine own_met (Q := (Qfill Z n h0 n0)) (L0 := #[.val (.ref a1), .val (.int (n.toInt32)), .val (.int ee), .unset]) (plainFor_of_name pn_3) (fun m => by first | (simp [entryFrame, mkF, argsToLocals, Value.category]; done) | rfl) ?_
  intro p e s m below meth c T0 X0 hx hby hml hown hnm hret hlk hZ e0
  have N0 := Fr.nil n0
  have K0 := Keep.refl h0 []
  refine Go.st (pc' := 1) (S' := [(.int (n.toInt32))]) (fun t_ k_ => XS.iloadN X0.here hx rfl (hb hby d2_0) rfl k_) ?_
  obtain ⟨T1, h1, k1, X1, e1, E1, A1, st1⟩ := newP X0 hx hZ (wd hw 16 rfl) e0 (g := (mkF m 1 #[.val (.ref a1), .val (.int (n.toInt32)), .val (.int ee), .unset] [(.int (n.toInt32))])) rfl (hb hby d2_1) rfl (own_nnN (by omega)) (cap := 13) (by rw [own_tn (by omega)]; omega) (by decide) (by decide) (by decide)
  obtain ⟨b1, g1⟩ : ∃ z, z = h0.size := ⟨_, rfl⟩
  rw [← g1] at A1 st1
  have ne_a1_b1 : a1 ≠ b1 := Nat.ne_of_lt (Nat.lt_of_lt_of_le E_a1.lt (Nat.le_of_eq g1.symm))
  have ne_t1_b1 : t1 ≠ b1 := Nat.ne_of_lt (Nat.lt_of_lt_of_le V_t1.lt (Nat.le_of_eq g1.symm))
  have g_b1 : n0 ≤ b1 := Nat.le_trans Z0 (Nat.le_of_eq g1.symm)
  have sz_b1 : h0.size ≤ b1 := Nat.le_trans K0.1 (Nat.le_of_eq g1.symm)
  replace Z0 := Nat.le_trans Z0 E1.1
  replace K0 := K0.ext E1
  replace O0 := O0.ext E1
  replace E_a1 := E_a1.ext E1
  replace Fc_a1 := Fc_a1.ext E1
  replace Fv_a1 := Fv_a1.ext E1
  replace V_t1 := V_t1.ext E1
  have V_b1 : Arv Z h1 b1 k1 .char (n.toInt32) [] (.int (0 : Int32)) := Arv.new A1 (own_nnN (by omega))
  refine Go.st (pc' := 3) (S' := [(.ref b1)]) st1 ?_
  refine Go.st (pc' := 4) (S' := []) (fun t_ k_ => XS.astoreN X1.here hx rfl (hb hby d2_3) rfl rfl (l' := #[.val (.ref a1), .val (.int (n.toInt32)), .val (.int ee), .val (.ref b1)]) rfl k_) ?_
  replace V_b1 := V_b1.pad (pad_rep [] (.int (0 : Int32)) 13)
  have hL := own_lat0
  have V_0 : Arv Z h1 b1 k1 .char (n.toInt32) ((List.replicate 13 (0 : Int32)).map Value.int) (.int (0 : Int32)) := by rw [List.map_replicate]; exact V_b1
  exact sf0 a1 t1 _ bs k n ee fm gC b1 _ (List.replicate 13 (0 : Int32)) (Stand.up X1 (by decide) (by decide)) hx hZ hw hby hml hown hnm hret hlk e1 N0 Z0 SC PC O0 hfm SF E_a1 Fc_a1 Fv_a1 V_t1 hk13 hn13 he K0 g_b1 sz_b1 ne_a1_b1 ne_t1_b1 V_0  hL
def Qleq (Z : State) (X Y : List Int32) (n k : Nat) (h0 : Heap) (n0 : Nat) (v : Option Value) (h : Heap) (L : List Loc) : Prop := v = some (.int (own_eq X n Y k)) ∧ Fr n0 L ∧ h = h0
theorem d8_9 : decode jdk_43_method_13_code 9 = .ok (.iload_n 2, 1) := by decide +kernel
theorem d8_10 : decode jdk_43_method_13_code 10 = .ok (.aload_n 0, 1) := by decide +kernel
theorem d8_11 : decode jdk_43_method_13_code 11 = .ok (.arraylength, 1) := by decide +kernel
theorem d8_12 : decode jdk_43_method_13_code 12 = .ok (.if_icmp .ge 20, 3) := by decide +kernel
theorem d8_32 : decode jdk_43_method_13_code 32 = .ok (.iconst 1, 1) := by decide +kernel
theorem d8_33 : decode jdk_43_method_13_code 33 = .ok (.ireturn, 1) := by decide +kernel
theorem d8_15 : decode jdk_43_method_13_code 15 = .ok (.aload_n 0, 1) := by decide +kernel
theorem d8_16 : decode jdk_43_method_13_code 16 = .ok (.iload_n 2, 1) := by decide +kernel
theorem d8_17 : decode jdk_43_method_13_code 17 = .ok (.baload, 1) := by decide +kernel
theorem d8_18 : decode jdk_43_method_13_code 18 = .ok (.aload_n 1, 1) := by decide +kernel
theorem d8_19 : decode jdk_43_method_13_code 19 = .ok (.iload_n 2, 1) := by decide +kernel
theorem d8_20 : decode jdk_43_method_13_code 20 = .ok (.baload, 1) := by decide +kernel
theorem d8_21 : decode jdk_43_method_13_code 21 = .ok (.if_icmp .eq 5, 3) := by decide +kernel
theorem d8_24 : decode jdk_43_method_13_code 24 = .ok (.iconst 0, 1) := by decide +kernel
theorem d8_25 : decode jdk_43_method_13_code 25 = .ok (.ireturn, 1) := by decide +kernel
theorem d8_26 : decode jdk_43_method_13_code 26 = .ok (.iinc 2 1, 3) := by decide +kernel
theorem d8_29 : decode jdk_43_method_13_code 29 = .ok (.goto (-20), 3) := by decide +kernel












theorem d8_0 : decode jdk_43_method_13_code 0 = .ok (.aload_n 0, 1) := by decide +kernel
theorem d8_1 : decode jdk_43_method_13_code 1 = .ok (.arraylength, 1) := by decide +kernel
theorem d8_2 : decode jdk_43_method_13_code 2 = .ok (.aload_n 1, 1) := by decide +kernel
theorem d8_3 : decode jdk_43_method_13_code 3 = .ok (.arraylength, 1) := by decide +kernel
theorem d8_4 : decode jdk_43_method_13_code 4 = .ok (.if_icmp .ne 30, 3) := by decide +kernel
theorem d8_7 : decode jdk_43_method_13_code 7 = .ok (.iconst 0, 1) := by decide +kernel
theorem d8_8 : decode jdk_43_method_13_code 8 = .ok (.istore_n 2, 1) := by decide +kernel
theorem d8_34 : decode jdk_43_method_13_code 34 = .ok (.iconst 0, 1) := by decide +kernel
theorem d8_35 : decode jdk_43_method_13_code 35 = .ok (.ireturn, 1) := by decide +kernel
def roomleq : Room := { frames := 0, cells := 0, slots := 0, locals := 0 }
theorem sq13 {p : Program} {l : Launch} {e : Env} {s : State} {m : MethodId} {args : Array Value} {below : List Frame} {meth : Method} {c : Code} {T0 : State} {locs : List Loc} {Z : State} {a0 : Array Value} {n0 : Nat} {h0 hh : Heap} (t1 t2 : Addr) (k1 k2 : ClassId) (X Y : List Int32) (n k : Nat)
    (X0 : Stand p l e roomleq s m args below meth c T0 locs 0 0) (hx : p.tables.exec = Jvm.exec) (hZ : Z.Warmed39 s.vm) (hw : ∀ d ∈ tables_1, d.before a0 Z = true) (hby : c.code = jdk_43_method_13_code) (hml : c.maxLocals = 3) (hown : s.vm.findClass "java/lang/StringLatin1" = some m.cls) (hnm : meth.name = "equals") (hret : meth.sig.returnType = (some .boolean)) (hlk : meth.locks = false) (e0 : T0.heap = hh) (N0 : Fr n0 locs) (Z0 : n0 ≤ hh.size) (V_t1 : Arv Z hh t1 k1 .byte (n.toInt32) (X.map Value.int) (.int (0 : Int32))) (V_t2 : Arv Z hh t2 k2 .byte (k.toInt32) (Y.map Value.int) (.int (0 : Int32))) (hn13 : n ≤ 13) (hk13 : k ≤ 13) (hnk : n = k) (hp : ∀ j, j < 13 → X.getD j 0 = Y.getD j 0) (heq : hh = h0) :
    Go p e below s roomleq.cells roomleq.slots (Qleq Z X Y n k h0 n0) m T0 9 #[.val (.ref t1), .val (.ref t2), .val (.int (13 : Int32))] [] := by
  have hi : ¬ 13 < n := by omega
  refine Go.st (pc' := 10) (S' := [(.int (13 : Int32))]) (fun t_ k_ => XS.iloadN X0.here hx rfl (hb hby d8_9) rfl k_) ?_
  refine Go.st (pc' := 11) (S' := [(.ref t1), (.int (13 : Int32))]) (fun t_ k_ => XS.aloadN X0.here hx rfl (hb hby d8_10) rfl rfl k_) ?_
  obtain ⟨cl1, Ar1, -, q1a, q1b, -, -⟩ := id V_t1
  refine Go.st (pc' := 12) (S' := [(.int (n.toInt32)), (.int (13 : Int32))]) (fun t_ k_ => own_len X0 hx hZ e0 Ar1 q1a q1b (g := (mkF m 11 #[.val (.ref t1), .val (.ref t2), .val (.int (13 : Int32))] [(.ref t1), (.int (13 : Int32))])) rfl rfl (hb hby d8_11) t_ k_) ?_
  refine Go.st (pc' := 32) (S' := []) (fun t_ k_ => XS.icmpYes X0.here hx rfl (pc0 := 12) (pc' := 32) rfl (hb hby d8_12) rfl (flt (fun z => absurd ((own_ltI (m := 13) (n := n) (by omega) (by omega)).mp z) (by omega) : ¬ ((13 : Int32) < (n.toInt32)))).2.1 (by decide) (by decide) k_) ?_
  refine Go.st (pc' := 33) (S' := [(.int (1 : Int32))]) (fun t_ k_ => XS.iconst X0.here hx rfl (hb hby d8_32) k_) ?_
  exact Go.retN X0 hx hlk hret (by simp) (hb hby d8_33) (by decide) (by decide) (by rw [e0]; exact ⟨by rw [own_eq, if_pos ⟨hnk, fun j hj => hp j (by omega)⟩]; rfl, N0, heq⟩)
theorem sq12 {p : Program} {l : Launch} {e : Env} {s : State} {m : MethodId} {args : Array Value} {below : List Frame} {meth : Method} {c : Code} {T0 : State} {locs : List Loc} {Z : State} {a0 : Array Value} {n0 : Nat} {h0 hh : Heap} (t1 t2 : Addr) (k1 k2 : ClassId) (X Y : List Int32) (n k : Nat)
    (X0 : Stand p l e roomleq s m args below meth c T0 locs 0 0) (hx : p.tables.exec = Jvm.exec) (hZ : Z.Warmed39 s.vm) (hw : ∀ d ∈ tables_1, d.before a0 Z = true) (hby : c.code = jdk_43_method_13_code) (hml : c.maxLocals = 3) (hown : s.vm.findClass "java/lang/StringLatin1" = some m.cls) (hnm : meth.name = "equals") (hret : meth.sig.returnType = (some .boolean)) (hlk : meth.locks = false) (e0 : T0.heap = hh) (N0 : Fr n0 locs) (Z0 : n0 ≤ hh.size) (V_t1 : Arv Z hh t1 k1 .byte (n.toInt32) (X.map Value.int) (.int (0 : Int32))) (V_t2 : Arv Z hh t2 k2 .byte (k.toInt32) (Y.map Value.int) (.int (0 : Int32))) (hn13 : n ≤ 13) (hk13 : k ≤ 13) (hnk : n = k) (hp : ∀ j, j < 12 → X.getD j 0 = Y.getD j 0) (heq : hh = h0) :
    Go p e below s roomleq.cells roomleq.slots (Qleq Z X Y n k h0 n0) m T0 9 #[.val (.ref t1), .val (.ref t2), .val (.int (12 : Int32))] [] := by
  refine Go.st (pc' := 10) (S' := [(.int (12 : Int32))]) (fun t_ k_ => XS.iloadN X0.here hx rfl (hb hby d8_9) rfl k_) ?_
  refine Go.st (pc' := 11) (S' := [(.ref t1), (.int (12 : Int32))]) (fun t_ k_ => XS.aloadN X0.here hx rfl (hb hby d8_10) rfl rfl k_) ?_
  obtain ⟨cl1, Ar1, -, q1a, q1b, -, -⟩ := id V_t1
  refine Go.st (pc' := 12) (S' := [(.int (n.toInt32)), (.int (12 : Int32))]) (fun t_ k_ => own_len X0 hx hZ e0 Ar1 q1a q1b (g := (mkF m 11 #[.val (.ref t1), .val (.ref t2), .val (.int (12 : Int32))] [(.ref t1), (.int (12 : Int32))])) rfl rfl (hb hby d8_11) t_ k_) ?_
  by_cases hc12_2 : (12 : Int32) < (n.toInt32)
  · refine Go.st (pc' := 15) (S' := []) (fun t_ k_ => XS.icmpNo X0.here hx rfl (hb hby d8_12) rfl (tlt hc12_2).2.1 k_) ?_
    have hi : 12 < n := (own_ltI (m := 12) (n := n) (by omega) (by omega)).mp hc12_2
    refine Go.st (pc' := 16) (S' := [(.ref t1)]) (fun t_ k_ => XS.aloadN X0.here hx rfl (hb hby d8_15) rfl rfl k_) ?_
    refine Go.st (pc' := 17) (S' := [(.int (12 : Int32)), (.ref t1)]) (fun t_ k_ => XS.iloadN X0.here hx rfl (hb hby d8_16) rfl k_) ?_
    obtain ⟨cl3, Ar3, -, q3a, q3b, q3c, q3d⟩ := id V_t1
    refine Go.st (pc' := 18) (S' := [(.int (X.getD 12 0))]) (fun t_ k_ => X0.baloadBytes hx (j := (12 : Int32)) (v := (.int (X.getD 12 0))) (by rw [e0]; exact Ar3.1) (State.isArrayOf_alike hZ.alike Ar3.2.1) Ar3.2.2 (own_inbS (i := 12) q3a hi (by omega)) (q3c.at (own_inbS (i := 12) q3a hi (by omega)) (own_atI (i := 12) _ (by omega))) (g := (mkF m 17 #[.val (.ref t1), .val (.ref t2), .val (.int (12 : Int32))] [(.int (12 : Int32)), (.ref t1)])) rfl rfl (hb hby d8_17) t_ k_) ?_
    refine Go.st (pc' := 19) (S' := [(.ref t2), (.int (X.getD 12 0))]) (fun t_ k_ => XS.aloadN X0.here hx rfl (hb hby d8_18) rfl rfl k_) ?_
    refine Go.st (pc' := 20) (S' := [(.int (12 : Int32)), (.ref t2), (.int (X.getD 12 0))]) (fun t_ k_ => XS.iloadN X0.here hx rfl (hb hby d8_19) rfl k_) ?_
    obtain ⟨cl4, Ar4, -, q4a, q4b, q4c, q4d⟩ := id V_t2
    refine Go.st (pc' := 21) (S' := [(.int (Y.getD 12 0)), (.int (X.getD 12 0))]) (fun t_ k_ => X0.baloadBytes hx (j := (12 : Int32)) (v := (.int (Y.getD 12 0))) (by rw [e0]; exact Ar4.1) (State.isArrayOf_alike hZ.alike Ar4.2.1) Ar4.2.2 (own_inbS (i := 12) q4a (by omega) (by omega)) (q4c.at (own_inbS (i := 12) q4a (by omega) (by omega)) (own_atI (i := 12) _ (by omega))) (g := (mkF m 20 #[.val (.ref t1), .val (.ref t2), .val (.int (12 : Int32))] [(.int (12 : Int32)), (.ref t2), (.int (X.getD 12 0))])) rfl rfl (hb hby d8_20) t_ k_) ?_
    by_cases hc21_5 : (X.getD 12 0) = (Y.getD 12 0)
    · refine Go.st (pc' := 26) (S' := []) (fun t_ k_ => XS.icmpYes X0.here hx rfl (pc0 := 21) (pc' := 26) rfl (hb hby d8_21) rfl (teq hc21_5).1 (by decide) (by decide) k_) ?_
      refine Go.st (pc' := 29) (S' := []) (fun t_ k_ => XS.iinc X0.here hx rfl (hb hby d8_26) rfl (l' := #[.val (.ref t1), .val (.ref t2), .val (.int ((12 : Int32) + (1 : Int32)))]) rfl k_) ?_
      rw [show ((12 : Int32) + (1 : Int32)) = (13 : Int32) from by decide]
      refine Go.st (pc' := 9) (S' := []) (fun t_ k_ => XS.goto X0.here hx rfl (pc0 := 29) (pc' := 9) rfl (hb hby d8_29) (by decide) (by decide) k_) ?_
      exact sq13 t1 t2 _ _ X Y n k (Stand.up X0 (by decide) (by decide)) hx hZ hw hby hml hown hnm hret hlk e0 N0 Z0 V_t1 V_t2 hn13 hk13 hnk (own_hp hp hc21_5) heq
    · refine Go.st (pc' := 24) (S' := []) (fun t_ k_ => XS.icmpNo X0.here hx rfl (hb hby d8_21) rfl (feq hc21_5).1 k_) ?_
      refine Go.st (pc' := 25) (S' := [(.int (0 : Int32))]) (fun t_ k_ => XS.iconst X0.here hx rfl (hb hby d8_24) k_) ?_
      exact Go.retN X0 hx hlk hret (by simp) (hb hby d8_25) (by decide) (by decide) (by rw [e0]; exact ⟨by rw [own_eq, if_neg (fun g => hc21_5 (g.2 12 hi))]; rfl, N0, heq⟩)
  · refine Go.st (pc' := 32) (S' := []) (fun t_ k_ => XS.icmpYes X0.here hx rfl (pc0 := 12) (pc' := 32) rfl (hb hby d8_12) rfl (flt hc12_2).2.1 (by decide) (by decide) k_) ?_
    have hi : ¬ 12 < n := fun z => hc12_2 ((own_ltI (m := 12) (n := n) (by omega) (by omega)).mpr z)
    refine Go.st (pc' := 33) (S' := [(.int (1 : Int32))]) (fun t_ k_ => XS.iconst X0.here hx rfl (hb hby d8_32) k_) ?_
    exact Go.retN X0 hx hlk hret (by simp) (hb hby d8_33) (by decide) (by decide) (by rw [e0]; exact ⟨by rw [own_eq, if_pos ⟨hnk, fun j hj => hp j (by omega)⟩]; rfl, N0, heq⟩)
theorem sq11 {p : Program} {l : Launch} {e : Env} {s : State} {m : MethodId} {args : Array Value} {below : List Frame} {meth : Method} {c : Code} {T0 : State} {locs : List Loc} {Z : State} {a0 : Array Value} {n0 : Nat} {h0 hh : Heap} (t1 t2 : Addr) (k1 k2 : ClassId) (X Y : List Int32) (n k : Nat)
    (X0 : Stand p l e roomleq s m args below meth c T0 locs 0 0) (hx : p.tables.exec = Jvm.exec) (hZ : Z.Warmed39 s.vm) (hw : ∀ d ∈ tables_1, d.before a0 Z = true) (hby : c.code = jdk_43_method_13_code) (hml : c.maxLocals = 3) (hown : s.vm.findClass "java/lang/StringLatin1" = some m.cls) (hnm : meth.name = "equals") (hret : meth.sig.returnType = (some .boolean)) (hlk : meth.locks = false) (e0 : T0.heap = hh) (N0 : Fr n0 locs) (Z0 : n0 ≤ hh.size) (V_t1 : Arv Z hh t1 k1 .byte (n.toInt32) (X.map Value.int) (.int (0 : Int32))) (V_t2 : Arv Z hh t2 k2 .byte (k.toInt32) (Y.map Value.int) (.int (0 : Int32))) (hn13 : n ≤ 13) (hk13 : k ≤ 13) (hnk : n = k) (hp : ∀ j, j < 11 → X.getD j 0 = Y.getD j 0) (heq : hh = h0) :
    Go p e below s roomleq.cells roomleq.slots (Qleq Z X Y n k h0 n0) m T0 9 #[.val (.ref t1), .val (.ref t2), .val (.int (11 : Int32))] [] := by
  refine Go.st (pc' := 10) (S' := [(.int (11 : Int32))]) (fun t_ k_ => XS.iloadN X0.here hx rfl (hb hby d8_9) rfl k_) ?_
  refine Go.st (pc' := 11) (S' := [(.ref t1), (.int (11 : Int32))]) (fun t_ k_ => XS.aloadN X0.here hx rfl (hb hby d8_10) rfl rfl k_) ?_
  obtain ⟨cl1, Ar1, -, q1a, q1b, -, -⟩ := id V_t1
  refine Go.st (pc' := 12) (S' := [(.int (n.toInt32)), (.int (11 : Int32))]) (fun t_ k_ => own_len X0 hx hZ e0 Ar1 q1a q1b (g := (mkF m 11 #[.val (.ref t1), .val (.ref t2), .val (.int (11 : Int32))] [(.ref t1), (.int (11 : Int32))])) rfl rfl (hb hby d8_11) t_ k_) ?_
  by_cases hc12_2 : (11 : Int32) < (n.toInt32)
  · refine Go.st (pc' := 15) (S' := []) (fun t_ k_ => XS.icmpNo X0.here hx rfl (hb hby d8_12) rfl (tlt hc12_2).2.1 k_) ?_
    have hi : 11 < n := (own_ltI (m := 11) (n := n) (by omega) (by omega)).mp hc12_2
    refine Go.st (pc' := 16) (S' := [(.ref t1)]) (fun t_ k_ => XS.aloadN X0.here hx rfl (hb hby d8_15) rfl rfl k_) ?_
    refine Go.st (pc' := 17) (S' := [(.int (11 : Int32)), (.ref t1)]) (fun t_ k_ => XS.iloadN X0.here hx rfl (hb hby d8_16) rfl k_) ?_
    obtain ⟨cl3, Ar3, -, q3a, q3b, q3c, q3d⟩ := id V_t1
    refine Go.st (pc' := 18) (S' := [(.int (X.getD 11 0))]) (fun t_ k_ => X0.baloadBytes hx (j := (11 : Int32)) (v := (.int (X.getD 11 0))) (by rw [e0]; exact Ar3.1) (State.isArrayOf_alike hZ.alike Ar3.2.1) Ar3.2.2 (own_inbS (i := 11) q3a hi (by omega)) (q3c.at (own_inbS (i := 11) q3a hi (by omega)) (own_atI (i := 11) _ (by omega))) (g := (mkF m 17 #[.val (.ref t1), .val (.ref t2), .val (.int (11 : Int32))] [(.int (11 : Int32)), (.ref t1)])) rfl rfl (hb hby d8_17) t_ k_) ?_
    refine Go.st (pc' := 19) (S' := [(.ref t2), (.int (X.getD 11 0))]) (fun t_ k_ => XS.aloadN X0.here hx rfl (hb hby d8_18) rfl rfl k_) ?_
    refine Go.st (pc' := 20) (S' := [(.int (11 : Int32)), (.ref t2), (.int (X.getD 11 0))]) (fun t_ k_ => XS.iloadN X0.here hx rfl (hb hby d8_19) rfl k_) ?_
    obtain ⟨cl4, Ar4, -, q4a, q4b, q4c, q4d⟩ := id V_t2
    refine Go.st (pc' := 21) (S' := [(.int (Y.getD 11 0)), (.int (X.getD 11 0))]) (fun t_ k_ => X0.baloadBytes hx (j := (11 : Int32)) (v := (.int (Y.getD 11 0))) (by rw [e0]; exact Ar4.1) (State.isArrayOf_alike hZ.alike Ar4.2.1) Ar4.2.2 (own_inbS (i := 11) q4a (by omega) (by omega)) (q4c.at (own_inbS (i := 11) q4a (by omega) (by omega)) (own_atI (i := 11) _ (by omega))) (g := (mkF m 20 #[.val (.ref t1), .val (.ref t2), .val (.int (11 : Int32))] [(.int (11 : Int32)), (.ref t2), (.int (X.getD 11 0))])) rfl rfl (hb hby d8_20) t_ k_) ?_
    by_cases hc21_5 : (X.getD 11 0) = (Y.getD 11 0)
    · refine Go.st (pc' := 26) (S' := []) (fun t_ k_ => XS.icmpYes X0.here hx rfl (pc0 := 21) (pc' := 26) rfl (hb hby d8_21) rfl (teq hc21_5).1 (by decide) (by decide) k_) ?_
      refine Go.st (pc' := 29) (S' := []) (fun t_ k_ => XS.iinc X0.here hx rfl (hb hby d8_26) rfl (l' := #[.val (.ref t1), .val (.ref t2), .val (.int ((11 : Int32) + (1 : Int32)))]) rfl k_) ?_
      rw [show ((11 : Int32) + (1 : Int32)) = (12 : Int32) from by decide]
      refine Go.st (pc' := 9) (S' := []) (fun t_ k_ => XS.goto X0.here hx rfl (pc0 := 29) (pc' := 9) rfl (hb hby d8_29) (by decide) (by decide) k_) ?_
      exact sq12 t1 t2 _ _ X Y n k (Stand.up X0 (by decide) (by decide)) hx hZ hw hby hml hown hnm hret hlk e0 N0 Z0 V_t1 V_t2 hn13 hk13 hnk (own_hp hp hc21_5) heq
    · refine Go.st (pc' := 24) (S' := []) (fun t_ k_ => XS.icmpNo X0.here hx rfl (hb hby d8_21) rfl (feq hc21_5).1 k_) ?_
      refine Go.st (pc' := 25) (S' := [(.int (0 : Int32))]) (fun t_ k_ => XS.iconst X0.here hx rfl (hb hby d8_24) k_) ?_
      exact Go.retN X0 hx hlk hret (by simp) (hb hby d8_25) (by decide) (by decide) (by rw [e0]; exact ⟨by rw [own_eq, if_neg (fun g => hc21_5 (g.2 11 hi))]; rfl, N0, heq⟩)
  · refine Go.st (pc' := 32) (S' := []) (fun t_ k_ => XS.icmpYes X0.here hx rfl (pc0 := 12) (pc' := 32) rfl (hb hby d8_12) rfl (flt hc12_2).2.1 (by decide) (by decide) k_) ?_
    have hi : ¬ 11 < n := fun z => hc12_2 ((own_ltI (m := 11) (n := n) (by omega) (by omega)).mpr z)
    refine Go.st (pc' := 33) (S' := [(.int (1 : Int32))]) (fun t_ k_ => XS.iconst X0.here hx rfl (hb hby d8_32) k_) ?_
    exact Go.retN X0 hx hlk hret (by simp) (hb hby d8_33) (by decide) (by decide) (by rw [e0]; exact ⟨by rw [own_eq, if_pos ⟨hnk, fun j hj => hp j (by omega)⟩]; rfl, N0, heq⟩)
theorem sq10 {p : Program} {l : Launch} {e : Env} {s : State} {m : MethodId} {args : Array Value} {below : List Frame} {meth : Method} {c : Code} {T0 : State} {locs : List Loc} {Z : State} {a0 : Array Value} {n0 : Nat} {h0 hh : Heap} (t1 t2 : Addr) (k1 k2 : ClassId) (X Y : List Int32) (n k : Nat)
    (X0 : Stand p l e roomleq s m args below meth c T0 locs 0 0) (hx : p.tables.exec = Jvm.exec) (hZ : Z.Warmed39 s.vm) (hw : ∀ d ∈ tables_1, d.before a0 Z = true) (hby : c.code = jdk_43_method_13_code) (hml : c.maxLocals = 3) (hown : s.vm.findClass "java/lang/StringLatin1" = some m.cls) (hnm : meth.name = "equals") (hret : meth.sig.returnType = (some .boolean)) (hlk : meth.locks = false) (e0 : T0.heap = hh) (N0 : Fr n0 locs) (Z0 : n0 ≤ hh.size) (V_t1 : Arv Z hh t1 k1 .byte (n.toInt32) (X.map Value.int) (.int (0 : Int32))) (V_t2 : Arv Z hh t2 k2 .byte (k.toInt32) (Y.map Value.int) (.int (0 : Int32))) (hn13 : n ≤ 13) (hk13 : k ≤ 13) (hnk : n = k) (hp : ∀ j, j < 10 → X.getD j 0 = Y.getD j 0) (heq : hh = h0) :
    Go p e below s roomleq.cells roomleq.slots (Qleq Z X Y n k h0 n0) m T0 9 #[.val (.ref t1), .val (.ref t2), .val (.int (10 : Int32))] [] := by
  refine Go.st (pc' := 10) (S' := [(.int (10 : Int32))]) (fun t_ k_ => XS.iloadN X0.here hx rfl (hb hby d8_9) rfl k_) ?_
  refine Go.st (pc' := 11) (S' := [(.ref t1), (.int (10 : Int32))]) (fun t_ k_ => XS.aloadN X0.here hx rfl (hb hby d8_10) rfl rfl k_) ?_
  obtain ⟨cl1, Ar1, -, q1a, q1b, -, -⟩ := id V_t1
  refine Go.st (pc' := 12) (S' := [(.int (n.toInt32)), (.int (10 : Int32))]) (fun t_ k_ => own_len X0 hx hZ e0 Ar1 q1a q1b (g := (mkF m 11 #[.val (.ref t1), .val (.ref t2), .val (.int (10 : Int32))] [(.ref t1), (.int (10 : Int32))])) rfl rfl (hb hby d8_11) t_ k_) ?_
  by_cases hc12_2 : (10 : Int32) < (n.toInt32)
  · refine Go.st (pc' := 15) (S' := []) (fun t_ k_ => XS.icmpNo X0.here hx rfl (hb hby d8_12) rfl (tlt hc12_2).2.1 k_) ?_
    have hi : 10 < n := (own_ltI (m := 10) (n := n) (by omega) (by omega)).mp hc12_2
    refine Go.st (pc' := 16) (S' := [(.ref t1)]) (fun t_ k_ => XS.aloadN X0.here hx rfl (hb hby d8_15) rfl rfl k_) ?_
    refine Go.st (pc' := 17) (S' := [(.int (10 : Int32)), (.ref t1)]) (fun t_ k_ => XS.iloadN X0.here hx rfl (hb hby d8_16) rfl k_) ?_
    obtain ⟨cl3, Ar3, -, q3a, q3b, q3c, q3d⟩ := id V_t1
    refine Go.st (pc' := 18) (S' := [(.int (X.getD 10 0))]) (fun t_ k_ => X0.baloadBytes hx (j := (10 : Int32)) (v := (.int (X.getD 10 0))) (by rw [e0]; exact Ar3.1) (State.isArrayOf_alike hZ.alike Ar3.2.1) Ar3.2.2 (own_inbS (i := 10) q3a hi (by omega)) (q3c.at (own_inbS (i := 10) q3a hi (by omega)) (own_atI (i := 10) _ (by omega))) (g := (mkF m 17 #[.val (.ref t1), .val (.ref t2), .val (.int (10 : Int32))] [(.int (10 : Int32)), (.ref t1)])) rfl rfl (hb hby d8_17) t_ k_) ?_
    refine Go.st (pc' := 19) (S' := [(.ref t2), (.int (X.getD 10 0))]) (fun t_ k_ => XS.aloadN X0.here hx rfl (hb hby d8_18) rfl rfl k_) ?_
    refine Go.st (pc' := 20) (S' := [(.int (10 : Int32)), (.ref t2), (.int (X.getD 10 0))]) (fun t_ k_ => XS.iloadN X0.here hx rfl (hb hby d8_19) rfl k_) ?_
    obtain ⟨cl4, Ar4, -, q4a, q4b, q4c, q4d⟩ := id V_t2
    refine Go.st (pc' := 21) (S' := [(.int (Y.getD 10 0)), (.int (X.getD 10 0))]) (fun t_ k_ => X0.baloadBytes hx (j := (10 : Int32)) (v := (.int (Y.getD 10 0))) (by rw [e0]; exact Ar4.1) (State.isArrayOf_alike hZ.alike Ar4.2.1) Ar4.2.2 (own_inbS (i := 10) q4a (by omega) (by omega)) (q4c.at (own_inbS (i := 10) q4a (by omega) (by omega)) (own_atI (i := 10) _ (by omega))) (g := (mkF m 20 #[.val (.ref t1), .val (.ref t2), .val (.int (10 : Int32))] [(.int (10 : Int32)), (.ref t2), (.int (X.getD 10 0))])) rfl rfl (hb hby d8_20) t_ k_) ?_
    by_cases hc21_5 : (X.getD 10 0) = (Y.getD 10 0)
    · refine Go.st (pc' := 26) (S' := []) (fun t_ k_ => XS.icmpYes X0.here hx rfl (pc0 := 21) (pc' := 26) rfl (hb hby d8_21) rfl (teq hc21_5).1 (by decide) (by decide) k_) ?_
      refine Go.st (pc' := 29) (S' := []) (fun t_ k_ => XS.iinc X0.here hx rfl (hb hby d8_26) rfl (l' := #[.val (.ref t1), .val (.ref t2), .val (.int ((10 : Int32) + (1 : Int32)))]) rfl k_) ?_
      rw [show ((10 : Int32) + (1 : Int32)) = (11 : Int32) from by decide]
      refine Go.st (pc' := 9) (S' := []) (fun t_ k_ => XS.goto X0.here hx rfl (pc0 := 29) (pc' := 9) rfl (hb hby d8_29) (by decide) (by decide) k_) ?_
      exact sq11 t1 t2 _ _ X Y n k (Stand.up X0 (by decide) (by decide)) hx hZ hw hby hml hown hnm hret hlk e0 N0 Z0 V_t1 V_t2 hn13 hk13 hnk (own_hp hp hc21_5) heq
    · refine Go.st (pc' := 24) (S' := []) (fun t_ k_ => XS.icmpNo X0.here hx rfl (hb hby d8_21) rfl (feq hc21_5).1 k_) ?_
      refine Go.st (pc' := 25) (S' := [(.int (0 : Int32))]) (fun t_ k_ => XS.iconst X0.here hx rfl (hb hby d8_24) k_) ?_
      exact Go.retN X0 hx hlk hret (by simp) (hb hby d8_25) (by decide) (by decide) (by rw [e0]; exact ⟨by rw [own_eq, if_neg (fun g => hc21_5 (g.2 10 hi))]; rfl, N0, heq⟩)
  · refine Go.st (pc' := 32) (S' := []) (fun t_ k_ => XS.icmpYes X0.here hx rfl (pc0 := 12) (pc' := 32) rfl (hb hby d8_12) rfl (flt hc12_2).2.1 (by decide) (by decide) k_) ?_
    have hi : ¬ 10 < n := fun z => hc12_2 ((own_ltI (m := 10) (n := n) (by omega) (by omega)).mpr z)
    refine Go.st (pc' := 33) (S' := [(.int (1 : Int32))]) (fun t_ k_ => XS.iconst X0.here hx rfl (hb hby d8_32) k_) ?_
    exact Go.retN X0 hx hlk hret (by simp) (hb hby d8_33) (by decide) (by decide) (by rw [e0]; exact ⟨by rw [own_eq, if_pos ⟨hnk, fun j hj => hp j (by omega)⟩]; rfl, N0, heq⟩)
theorem sq9 {p : Program} {l : Launch} {e : Env} {s : State} {m : MethodId} {args : Array Value} {below : List Frame} {meth : Method} {c : Code} {T0 : State} {locs : List Loc} {Z : State} {a0 : Array Value} {n0 : Nat} {h0 hh : Heap} (t1 t2 : Addr) (k1 k2 : ClassId) (X Y : List Int32) (n k : Nat)
    (X0 : Stand p l e roomleq s m args below meth c T0 locs 0 0) (hx : p.tables.exec = Jvm.exec) (hZ : Z.Warmed39 s.vm) (hw : ∀ d ∈ tables_1, d.before a0 Z = true) (hby : c.code = jdk_43_method_13_code) (hml : c.maxLocals = 3) (hown : s.vm.findClass "java/lang/StringLatin1" = some m.cls) (hnm : meth.name = "equals") (hret : meth.sig.returnType = (some .boolean)) (hlk : meth.locks = false) (e0 : T0.heap = hh) (N0 : Fr n0 locs) (Z0 : n0 ≤ hh.size) (V_t1 : Arv Z hh t1 k1 .byte (n.toInt32) (X.map Value.int) (.int (0 : Int32))) (V_t2 : Arv Z hh t2 k2 .byte (k.toInt32) (Y.map Value.int) (.int (0 : Int32))) (hn13 : n ≤ 13) (hk13 : k ≤ 13) (hnk : n = k) (hp : ∀ j, j < 9 → X.getD j 0 = Y.getD j 0) (heq : hh = h0) :
    Go p e below s roomleq.cells roomleq.slots (Qleq Z X Y n k h0 n0) m T0 9 #[.val (.ref t1), .val (.ref t2), .val (.int (9 : Int32))] [] := by
  refine Go.st (pc' := 10) (S' := [(.int (9 : Int32))]) (fun t_ k_ => XS.iloadN X0.here hx rfl (hb hby d8_9) rfl k_) ?_
  refine Go.st (pc' := 11) (S' := [(.ref t1), (.int (9 : Int32))]) (fun t_ k_ => XS.aloadN X0.here hx rfl (hb hby d8_10) rfl rfl k_) ?_
  obtain ⟨cl1, Ar1, -, q1a, q1b, -, -⟩ := id V_t1
  refine Go.st (pc' := 12) (S' := [(.int (n.toInt32)), (.int (9 : Int32))]) (fun t_ k_ => own_len X0 hx hZ e0 Ar1 q1a q1b (g := (mkF m 11 #[.val (.ref t1), .val (.ref t2), .val (.int (9 : Int32))] [(.ref t1), (.int (9 : Int32))])) rfl rfl (hb hby d8_11) t_ k_) ?_
  by_cases hc12_2 : (9 : Int32) < (n.toInt32)
  · refine Go.st (pc' := 15) (S' := []) (fun t_ k_ => XS.icmpNo X0.here hx rfl (hb hby d8_12) rfl (tlt hc12_2).2.1 k_) ?_
    have hi : 9 < n := (own_ltI (m := 9) (n := n) (by omega) (by omega)).mp hc12_2
    refine Go.st (pc' := 16) (S' := [(.ref t1)]) (fun t_ k_ => XS.aloadN X0.here hx rfl (hb hby d8_15) rfl rfl k_) ?_
    refine Go.st (pc' := 17) (S' := [(.int (9 : Int32)), (.ref t1)]) (fun t_ k_ => XS.iloadN X0.here hx rfl (hb hby d8_16) rfl k_) ?_
    obtain ⟨cl3, Ar3, -, q3a, q3b, q3c, q3d⟩ := id V_t1
    refine Go.st (pc' := 18) (S' := [(.int (X.getD 9 0))]) (fun t_ k_ => X0.baloadBytes hx (j := (9 : Int32)) (v := (.int (X.getD 9 0))) (by rw [e0]; exact Ar3.1) (State.isArrayOf_alike hZ.alike Ar3.2.1) Ar3.2.2 (own_inbS (i := 9) q3a hi (by omega)) (q3c.at (own_inbS (i := 9) q3a hi (by omega)) (own_atI (i := 9) _ (by omega))) (g := (mkF m 17 #[.val (.ref t1), .val (.ref t2), .val (.int (9 : Int32))] [(.int (9 : Int32)), (.ref t1)])) rfl rfl (hb hby d8_17) t_ k_) ?_
    refine Go.st (pc' := 19) (S' := [(.ref t2), (.int (X.getD 9 0))]) (fun t_ k_ => XS.aloadN X0.here hx rfl (hb hby d8_18) rfl rfl k_) ?_
    refine Go.st (pc' := 20) (S' := [(.int (9 : Int32)), (.ref t2), (.int (X.getD 9 0))]) (fun t_ k_ => XS.iloadN X0.here hx rfl (hb hby d8_19) rfl k_) ?_
    obtain ⟨cl4, Ar4, -, q4a, q4b, q4c, q4d⟩ := id V_t2
    refine Go.st (pc' := 21) (S' := [(.int (Y.getD 9 0)), (.int (X.getD 9 0))]) (fun t_ k_ => X0.baloadBytes hx (j := (9 : Int32)) (v := (.int (Y.getD 9 0))) (by rw [e0]; exact Ar4.1) (State.isArrayOf_alike hZ.alike Ar4.2.1) Ar4.2.2 (own_inbS (i := 9) q4a (by omega) (by omega)) (q4c.at (own_inbS (i := 9) q4a (by omega) (by omega)) (own_atI (i := 9) _ (by omega))) (g := (mkF m 20 #[.val (.ref t1), .val (.ref t2), .val (.int (9 : Int32))] [(.int (9 : Int32)), (.ref t2), (.int (X.getD 9 0))])) rfl rfl (hb hby d8_20) t_ k_) ?_
    by_cases hc21_5 : (X.getD 9 0) = (Y.getD 9 0)
    · refine Go.st (pc' := 26) (S' := []) (fun t_ k_ => XS.icmpYes X0.here hx rfl (pc0 := 21) (pc' := 26) rfl (hb hby d8_21) rfl (teq hc21_5).1 (by decide) (by decide) k_) ?_
      refine Go.st (pc' := 29) (S' := []) (fun t_ k_ => XS.iinc X0.here hx rfl (hb hby d8_26) rfl (l' := #[.val (.ref t1), .val (.ref t2), .val (.int ((9 : Int32) + (1 : Int32)))]) rfl k_) ?_
      rw [show ((9 : Int32) + (1 : Int32)) = (10 : Int32) from by decide]
      refine Go.st (pc' := 9) (S' := []) (fun t_ k_ => XS.goto X0.here hx rfl (pc0 := 29) (pc' := 9) rfl (hb hby d8_29) (by decide) (by decide) k_) ?_
      exact sq10 t1 t2 _ _ X Y n k (Stand.up X0 (by decide) (by decide)) hx hZ hw hby hml hown hnm hret hlk e0 N0 Z0 V_t1 V_t2 hn13 hk13 hnk (own_hp hp hc21_5) heq
    · refine Go.st (pc' := 24) (S' := []) (fun t_ k_ => XS.icmpNo X0.here hx rfl (hb hby d8_21) rfl (feq hc21_5).1 k_) ?_
      refine Go.st (pc' := 25) (S' := [(.int (0 : Int32))]) (fun t_ k_ => XS.iconst X0.here hx rfl (hb hby d8_24) k_) ?_
      exact Go.retN X0 hx hlk hret (by simp) (hb hby d8_25) (by decide) (by decide) (by rw [e0]; exact ⟨by rw [own_eq, if_neg (fun g => hc21_5 (g.2 9 hi))]; rfl, N0, heq⟩)
  · refine Go.st (pc' := 32) (S' := []) (fun t_ k_ => XS.icmpYes X0.here hx rfl (pc0 := 12) (pc' := 32) rfl (hb hby d8_12) rfl (flt hc12_2).2.1 (by decide) (by decide) k_) ?_
    have hi : ¬ 9 < n := fun z => hc12_2 ((own_ltI (m := 9) (n := n) (by omega) (by omega)).mpr z)
    refine Go.st (pc' := 33) (S' := [(.int (1 : Int32))]) (fun t_ k_ => XS.iconst X0.here hx rfl (hb hby d8_32) k_) ?_
    exact Go.retN X0 hx hlk hret (by simp) (hb hby d8_33) (by decide) (by decide) (by rw [e0]; exact ⟨by rw [own_eq, if_pos ⟨hnk, fun j hj => hp j (by omega)⟩]; rfl, N0, heq⟩)
theorem sq8 {p : Program} {l : Launch} {e : Env} {s : State} {m : MethodId} {args : Array Value} {below : List Frame} {meth : Method} {c : Code} {T0 : State} {locs : List Loc} {Z : State} {a0 : Array Value} {n0 : Nat} {h0 hh : Heap} (t1 t2 : Addr) (k1 k2 : ClassId) (X Y : List Int32) (n k : Nat)
    (X0 : Stand p l e roomleq s m args below meth c T0 locs 0 0) (hx : p.tables.exec = Jvm.exec) (hZ : Z.Warmed39 s.vm) (hw : ∀ d ∈ tables_1, d.before a0 Z = true) (hby : c.code = jdk_43_method_13_code) (hml : c.maxLocals = 3) (hown : s.vm.findClass "java/lang/StringLatin1" = some m.cls) (hnm : meth.name = "equals") (hret : meth.sig.returnType = (some .boolean)) (hlk : meth.locks = false) (e0 : T0.heap = hh) (N0 : Fr n0 locs) (Z0 : n0 ≤ hh.size) (V_t1 : Arv Z hh t1 k1 .byte (n.toInt32) (X.map Value.int) (.int (0 : Int32))) (V_t2 : Arv Z hh t2 k2 .byte (k.toInt32) (Y.map Value.int) (.int (0 : Int32))) (hn13 : n ≤ 13) (hk13 : k ≤ 13) (hnk : n = k) (hp : ∀ j, j < 8 → X.getD j 0 = Y.getD j 0) (heq : hh = h0) :
    Go p e below s roomleq.cells roomleq.slots (Qleq Z X Y n k h0 n0) m T0 9 #[.val (.ref t1), .val (.ref t2), .val (.int (8 : Int32))] [] := by
  refine Go.st (pc' := 10) (S' := [(.int (8 : Int32))]) (fun t_ k_ => XS.iloadN X0.here hx rfl (hb hby d8_9) rfl k_) ?_
  refine Go.st (pc' := 11) (S' := [(.ref t1), (.int (8 : Int32))]) (fun t_ k_ => XS.aloadN X0.here hx rfl (hb hby d8_10) rfl rfl k_) ?_
  obtain ⟨cl1, Ar1, -, q1a, q1b, -, -⟩ := id V_t1
  refine Go.st (pc' := 12) (S' := [(.int (n.toInt32)), (.int (8 : Int32))]) (fun t_ k_ => own_len X0 hx hZ e0 Ar1 q1a q1b (g := (mkF m 11 #[.val (.ref t1), .val (.ref t2), .val (.int (8 : Int32))] [(.ref t1), (.int (8 : Int32))])) rfl rfl (hb hby d8_11) t_ k_) ?_
  by_cases hc12_2 : (8 : Int32) < (n.toInt32)
  · refine Go.st (pc' := 15) (S' := []) (fun t_ k_ => XS.icmpNo X0.here hx rfl (hb hby d8_12) rfl (tlt hc12_2).2.1 k_) ?_
    have hi : 8 < n := (own_ltI (m := 8) (n := n) (by omega) (by omega)).mp hc12_2
    refine Go.st (pc' := 16) (S' := [(.ref t1)]) (fun t_ k_ => XS.aloadN X0.here hx rfl (hb hby d8_15) rfl rfl k_) ?_
    refine Go.st (pc' := 17) (S' := [(.int (8 : Int32)), (.ref t1)]) (fun t_ k_ => XS.iloadN X0.here hx rfl (hb hby d8_16) rfl k_) ?_
    obtain ⟨cl3, Ar3, -, q3a, q3b, q3c, q3d⟩ := id V_t1
    refine Go.st (pc' := 18) (S' := [(.int (X.getD 8 0))]) (fun t_ k_ => X0.baloadBytes hx (j := (8 : Int32)) (v := (.int (X.getD 8 0))) (by rw [e0]; exact Ar3.1) (State.isArrayOf_alike hZ.alike Ar3.2.1) Ar3.2.2 (own_inbS (i := 8) q3a hi (by omega)) (q3c.at (own_inbS (i := 8) q3a hi (by omega)) (own_atI (i := 8) _ (by omega))) (g := (mkF m 17 #[.val (.ref t1), .val (.ref t2), .val (.int (8 : Int32))] [(.int (8 : Int32)), (.ref t1)])) rfl rfl (hb hby d8_17) t_ k_) ?_
    refine Go.st (pc' := 19) (S' := [(.ref t2), (.int (X.getD 8 0))]) (fun t_ k_ => XS.aloadN X0.here hx rfl (hb hby d8_18) rfl rfl k_) ?_
    refine Go.st (pc' := 20) (S' := [(.int (8 : Int32)), (.ref t2), (.int (X.getD 8 0))]) (fun t_ k_ => XS.iloadN X0.here hx rfl (hb hby d8_19) rfl k_) ?_
    obtain ⟨cl4, Ar4, -, q4a, q4b, q4c, q4d⟩ := id V_t2
    refine Go.st (pc' := 21) (S' := [(.int (Y.getD 8 0)), (.int (X.getD 8 0))]) (fun t_ k_ => X0.baloadBytes hx (j := (8 : Int32)) (v := (.int (Y.getD 8 0))) (by rw [e0]; exact Ar4.1) (State.isArrayOf_alike hZ.alike Ar4.2.1) Ar4.2.2 (own_inbS (i := 8) q4a (by omega) (by omega)) (q4c.at (own_inbS (i := 8) q4a (by omega) (by omega)) (own_atI (i := 8) _ (by omega))) (g := (mkF m 20 #[.val (.ref t1), .val (.ref t2), .val (.int (8 : Int32))] [(.int (8 : Int32)), (.ref t2), (.int (X.getD 8 0))])) rfl rfl (hb hby d8_20) t_ k_) ?_
    by_cases hc21_5 : (X.getD 8 0) = (Y.getD 8 0)
    · refine Go.st (pc' := 26) (S' := []) (fun t_ k_ => XS.icmpYes X0.here hx rfl (pc0 := 21) (pc' := 26) rfl (hb hby d8_21) rfl (teq hc21_5).1 (by decide) (by decide) k_) ?_
      refine Go.st (pc' := 29) (S' := []) (fun t_ k_ => XS.iinc X0.here hx rfl (hb hby d8_26) rfl (l' := #[.val (.ref t1), .val (.ref t2), .val (.int ((8 : Int32) + (1 : Int32)))]) rfl k_) ?_
      rw [show ((8 : Int32) + (1 : Int32)) = (9 : Int32) from by decide]
      refine Go.st (pc' := 9) (S' := []) (fun t_ k_ => XS.goto X0.here hx rfl (pc0 := 29) (pc' := 9) rfl (hb hby d8_29) (by decide) (by decide) k_) ?_
      exact sq9 t1 t2 _ _ X Y n k (Stand.up X0 (by decide) (by decide)) hx hZ hw hby hml hown hnm hret hlk e0 N0 Z0 V_t1 V_t2 hn13 hk13 hnk (own_hp hp hc21_5) heq
    · refine Go.st (pc' := 24) (S' := []) (fun t_ k_ => XS.icmpNo X0.here hx rfl (hb hby d8_21) rfl (feq hc21_5).1 k_) ?_
      refine Go.st (pc' := 25) (S' := [(.int (0 : Int32))]) (fun t_ k_ => XS.iconst X0.here hx rfl (hb hby d8_24) k_) ?_
      exact Go.retN X0 hx hlk hret (by simp) (hb hby d8_25) (by decide) (by decide) (by rw [e0]; exact ⟨by rw [own_eq, if_neg (fun g => hc21_5 (g.2 8 hi))]; rfl, N0, heq⟩)
  · refine Go.st (pc' := 32) (S' := []) (fun t_ k_ => XS.icmpYes X0.here hx rfl (pc0 := 12) (pc' := 32) rfl (hb hby d8_12) rfl (flt hc12_2).2.1 (by decide) (by decide) k_) ?_
    have hi : ¬ 8 < n := fun z => hc12_2 ((own_ltI (m := 8) (n := n) (by omega) (by omega)).mpr z)
    refine Go.st (pc' := 33) (S' := [(.int (1 : Int32))]) (fun t_ k_ => XS.iconst X0.here hx rfl (hb hby d8_32) k_) ?_
    exact Go.retN X0 hx hlk hret (by simp) (hb hby d8_33) (by decide) (by decide) (by rw [e0]; exact ⟨by rw [own_eq, if_pos ⟨hnk, fun j hj => hp j (by omega)⟩]; rfl, N0, heq⟩)
theorem sq7 {p : Program} {l : Launch} {e : Env} {s : State} {m : MethodId} {args : Array Value} {below : List Frame} {meth : Method} {c : Code} {T0 : State} {locs : List Loc} {Z : State} {a0 : Array Value} {n0 : Nat} {h0 hh : Heap} (t1 t2 : Addr) (k1 k2 : ClassId) (X Y : List Int32) (n k : Nat)
    (X0 : Stand p l e roomleq s m args below meth c T0 locs 0 0) (hx : p.tables.exec = Jvm.exec) (hZ : Z.Warmed39 s.vm) (hw : ∀ d ∈ tables_1, d.before a0 Z = true) (hby : c.code = jdk_43_method_13_code) (hml : c.maxLocals = 3) (hown : s.vm.findClass "java/lang/StringLatin1" = some m.cls) (hnm : meth.name = "equals") (hret : meth.sig.returnType = (some .boolean)) (hlk : meth.locks = false) (e0 : T0.heap = hh) (N0 : Fr n0 locs) (Z0 : n0 ≤ hh.size) (V_t1 : Arv Z hh t1 k1 .byte (n.toInt32) (X.map Value.int) (.int (0 : Int32))) (V_t2 : Arv Z hh t2 k2 .byte (k.toInt32) (Y.map Value.int) (.int (0 : Int32))) (hn13 : n ≤ 13) (hk13 : k ≤ 13) (hnk : n = k) (hp : ∀ j, j < 7 → X.getD j 0 = Y.getD j 0) (heq : hh = h0) :
    Go p e below s roomleq.cells roomleq.slots (Qleq Z X Y n k h0 n0) m T0 9 #[.val (.ref t1), .val (.ref t2), .val (.int (7 : Int32))] [] := by
  refine Go.st (pc' := 10) (S' := [(.int (7 : Int32))]) (fun t_ k_ => XS.iloadN X0.here hx rfl (hb hby d8_9) rfl k_) ?_
  refine Go.st (pc' := 11) (S' := [(.ref t1), (.int (7 : Int32))]) (fun t_ k_ => XS.aloadN X0.here hx rfl (hb hby d8_10) rfl rfl k_) ?_
  obtain ⟨cl1, Ar1, -, q1a, q1b, -, -⟩ := id V_t1
  refine Go.st (pc' := 12) (S' := [(.int (n.toInt32)), (.int (7 : Int32))]) (fun t_ k_ => own_len X0 hx hZ e0 Ar1 q1a q1b (g := (mkF m 11 #[.val (.ref t1), .val (.ref t2), .val (.int (7 : Int32))] [(.ref t1), (.int (7 : Int32))])) rfl rfl (hb hby d8_11) t_ k_) ?_
  by_cases hc12_2 : (7 : Int32) < (n.toInt32)
  · refine Go.st (pc' := 15) (S' := []) (fun t_ k_ => XS.icmpNo X0.here hx rfl (hb hby d8_12) rfl (tlt hc12_2).2.1 k_) ?_
    have hi : 7 < n := (own_ltI (m := 7) (n := n) (by omega) (by omega)).mp hc12_2
    refine Go.st (pc' := 16) (S' := [(.ref t1)]) (fun t_ k_ => XS.aloadN X0.here hx rfl (hb hby d8_15) rfl rfl k_) ?_
    refine Go.st (pc' := 17) (S' := [(.int (7 : Int32)), (.ref t1)]) (fun t_ k_ => XS.iloadN X0.here hx rfl (hb hby d8_16) rfl k_) ?_
    obtain ⟨cl3, Ar3, -, q3a, q3b, q3c, q3d⟩ := id V_t1
    refine Go.st (pc' := 18) (S' := [(.int (X.getD 7 0))]) (fun t_ k_ => X0.baloadBytes hx (j := (7 : Int32)) (v := (.int (X.getD 7 0))) (by rw [e0]; exact Ar3.1) (State.isArrayOf_alike hZ.alike Ar3.2.1) Ar3.2.2 (own_inbS (i := 7) q3a hi (by omega)) (q3c.at (own_inbS (i := 7) q3a hi (by omega)) (own_atI (i := 7) _ (by omega))) (g := (mkF m 17 #[.val (.ref t1), .val (.ref t2), .val (.int (7 : Int32))] [(.int (7 : Int32)), (.ref t1)])) rfl rfl (hb hby d8_17) t_ k_) ?_
    refine Go.st (pc' := 19) (S' := [(.ref t2), (.int (X.getD 7 0))]) (fun t_ k_ => XS.aloadN X0.here hx rfl (hb hby d8_18) rfl rfl k_) ?_
    refine Go.st (pc' := 20) (S' := [(.int (7 : Int32)), (.ref t2), (.int (X.getD 7 0))]) (fun t_ k_ => XS.iloadN X0.here hx rfl (hb hby d8_19) rfl k_) ?_
    obtain ⟨cl4, Ar4, -, q4a, q4b, q4c, q4d⟩ := id V_t2
    refine Go.st (pc' := 21) (S' := [(.int (Y.getD 7 0)), (.int (X.getD 7 0))]) (fun t_ k_ => X0.baloadBytes hx (j := (7 : Int32)) (v := (.int (Y.getD 7 0))) (by rw [e0]; exact Ar4.1) (State.isArrayOf_alike hZ.alike Ar4.2.1) Ar4.2.2 (own_inbS (i := 7) q4a (by omega) (by omega)) (q4c.at (own_inbS (i := 7) q4a (by omega) (by omega)) (own_atI (i := 7) _ (by omega))) (g := (mkF m 20 #[.val (.ref t1), .val (.ref t2), .val (.int (7 : Int32))] [(.int (7 : Int32)), (.ref t2), (.int (X.getD 7 0))])) rfl rfl (hb hby d8_20) t_ k_) ?_
    by_cases hc21_5 : (X.getD 7 0) = (Y.getD 7 0)
    · refine Go.st (pc' := 26) (S' := []) (fun t_ k_ => XS.icmpYes X0.here hx rfl (pc0 := 21) (pc' := 26) rfl (hb hby d8_21) rfl (teq hc21_5).1 (by decide) (by decide) k_) ?_
      refine Go.st (pc' := 29) (S' := []) (fun t_ k_ => XS.iinc X0.here hx rfl (hb hby d8_26) rfl (l' := #[.val (.ref t1), .val (.ref t2), .val (.int ((7 : Int32) + (1 : Int32)))]) rfl k_) ?_
      rw [show ((7 : Int32) + (1 : Int32)) = (8 : Int32) from by decide]
      refine Go.st (pc' := 9) (S' := []) (fun t_ k_ => XS.goto X0.here hx rfl (pc0 := 29) (pc' := 9) rfl (hb hby d8_29) (by decide) (by decide) k_) ?_
      exact sq8 t1 t2 _ _ X Y n k (Stand.up X0 (by decide) (by decide)) hx hZ hw hby hml hown hnm hret hlk e0 N0 Z0 V_t1 V_t2 hn13 hk13 hnk (own_hp hp hc21_5) heq
    · refine Go.st (pc' := 24) (S' := []) (fun t_ k_ => XS.icmpNo X0.here hx rfl (hb hby d8_21) rfl (feq hc21_5).1 k_) ?_
      refine Go.st (pc' := 25) (S' := [(.int (0 : Int32))]) (fun t_ k_ => XS.iconst X0.here hx rfl (hb hby d8_24) k_) ?_
      exact Go.retN X0 hx hlk hret (by simp) (hb hby d8_25) (by decide) (by decide) (by rw [e0]; exact ⟨by rw [own_eq, if_neg (fun g => hc21_5 (g.2 7 hi))]; rfl, N0, heq⟩)
  · refine Go.st (pc' := 32) (S' := []) (fun t_ k_ => XS.icmpYes X0.here hx rfl (pc0 := 12) (pc' := 32) rfl (hb hby d8_12) rfl (flt hc12_2).2.1 (by decide) (by decide) k_) ?_
    have hi : ¬ 7 < n := fun z => hc12_2 ((own_ltI (m := 7) (n := n) (by omega) (by omega)).mpr z)
    refine Go.st (pc' := 33) (S' := [(.int (1 : Int32))]) (fun t_ k_ => XS.iconst X0.here hx rfl (hb hby d8_32) k_) ?_
    exact Go.retN X0 hx hlk hret (by simp) (hb hby d8_33) (by decide) (by decide) (by rw [e0]; exact ⟨by rw [own_eq, if_pos ⟨hnk, fun j hj => hp j (by omega)⟩]; rfl, N0, heq⟩)
theorem sq6 {p : Program} {l : Launch} {e : Env} {s : State} {m : MethodId} {args : Array Value} {below : List Frame} {meth : Method} {c : Code} {T0 : State} {locs : List Loc} {Z : State} {a0 : Array Value} {n0 : Nat} {h0 hh : Heap} (t1 t2 : Addr) (k1 k2 : ClassId) (X Y : List Int32) (n k : Nat)
    (X0 : Stand p l e roomleq s m args below meth c T0 locs 0 0) (hx : p.tables.exec = Jvm.exec) (hZ : Z.Warmed39 s.vm) (hw : ∀ d ∈ tables_1, d.before a0 Z = true) (hby : c.code = jdk_43_method_13_code) (hml : c.maxLocals = 3) (hown : s.vm.findClass "java/lang/StringLatin1" = some m.cls) (hnm : meth.name = "equals") (hret : meth.sig.returnType = (some .boolean)) (hlk : meth.locks = false) (e0 : T0.heap = hh) (N0 : Fr n0 locs) (Z0 : n0 ≤ hh.size) (V_t1 : Arv Z hh t1 k1 .byte (n.toInt32) (X.map Value.int) (.int (0 : Int32))) (V_t2 : Arv Z hh t2 k2 .byte (k.toInt32) (Y.map Value.int) (.int (0 : Int32))) (hn13 : n ≤ 13) (hk13 : k ≤ 13) (hnk : n = k) (hp : ∀ j, j < 6 → X.getD j 0 = Y.getD j 0) (heq : hh = h0) :
    Go p e below s roomleq.cells roomleq.slots (Qleq Z X Y n k h0 n0) m T0 9 #[.val (.ref t1), .val (.ref t2), .val (.int (6 : Int32))] [] := by
  refine Go.st (pc' := 10) (S' := [(.int (6 : Int32))]) (fun t_ k_ => XS.iloadN X0.here hx rfl (hb hby d8_9) rfl k_) ?_
  refine Go.st (pc' := 11) (S' := [(.ref t1), (.int (6 : Int32))]) (fun t_ k_ => XS.aloadN X0.here hx rfl (hb hby d8_10) rfl rfl k_) ?_
  obtain ⟨cl1, Ar1, -, q1a, q1b, -, -⟩ := id V_t1
  refine Go.st (pc' := 12) (S' := [(.int (n.toInt32)), (.int (6 : Int32))]) (fun t_ k_ => own_len X0 hx hZ e0 Ar1 q1a q1b (g := (mkF m 11 #[.val (.ref t1), .val (.ref t2), .val (.int (6 : Int32))] [(.ref t1), (.int (6 : Int32))])) rfl rfl (hb hby d8_11) t_ k_) ?_
  by_cases hc12_2 : (6 : Int32) < (n.toInt32)
  · refine Go.st (pc' := 15) (S' := []) (fun t_ k_ => XS.icmpNo X0.here hx rfl (hb hby d8_12) rfl (tlt hc12_2).2.1 k_) ?_
    have hi : 6 < n := (own_ltI (m := 6) (n := n) (by omega) (by omega)).mp hc12_2
    refine Go.st (pc' := 16) (S' := [(.ref t1)]) (fun t_ k_ => XS.aloadN X0.here hx rfl (hb hby d8_15) rfl rfl k_) ?_
    refine Go.st (pc' := 17) (S' := [(.int (6 : Int32)), (.ref t1)]) (fun t_ k_ => XS.iloadN X0.here hx rfl (hb hby d8_16) rfl k_) ?_
    obtain ⟨cl3, Ar3, -, q3a, q3b, q3c, q3d⟩ := id V_t1
    refine Go.st (pc' := 18) (S' := [(.int (X.getD 6 0))]) (fun t_ k_ => X0.baloadBytes hx (j := (6 : Int32)) (v := (.int (X.getD 6 0))) (by rw [e0]; exact Ar3.1) (State.isArrayOf_alike hZ.alike Ar3.2.1) Ar3.2.2 (own_inbS (i := 6) q3a hi (by omega)) (q3c.at (own_inbS (i := 6) q3a hi (by omega)) (own_atI (i := 6) _ (by omega))) (g := (mkF m 17 #[.val (.ref t1), .val (.ref t2), .val (.int (6 : Int32))] [(.int (6 : Int32)), (.ref t1)])) rfl rfl (hb hby d8_17) t_ k_) ?_
    refine Go.st (pc' := 19) (S' := [(.ref t2), (.int (X.getD 6 0))]) (fun t_ k_ => XS.aloadN X0.here hx rfl (hb hby d8_18) rfl rfl k_) ?_
    refine Go.st (pc' := 20) (S' := [(.int (6 : Int32)), (.ref t2), (.int (X.getD 6 0))]) (fun t_ k_ => XS.iloadN X0.here hx rfl (hb hby d8_19) rfl k_) ?_
    obtain ⟨cl4, Ar4, -, q4a, q4b, q4c, q4d⟩ := id V_t2
    refine Go.st (pc' := 21) (S' := [(.int (Y.getD 6 0)), (.int (X.getD 6 0))]) (fun t_ k_ => X0.baloadBytes hx (j := (6 : Int32)) (v := (.int (Y.getD 6 0))) (by rw [e0]; exact Ar4.1) (State.isArrayOf_alike hZ.alike Ar4.2.1) Ar4.2.2 (own_inbS (i := 6) q4a (by omega) (by omega)) (q4c.at (own_inbS (i := 6) q4a (by omega) (by omega)) (own_atI (i := 6) _ (by omega))) (g := (mkF m 20 #[.val (.ref t1), .val (.ref t2), .val (.int (6 : Int32))] [(.int (6 : Int32)), (.ref t2), (.int (X.getD 6 0))])) rfl rfl (hb hby d8_20) t_ k_) ?_
    by_cases hc21_5 : (X.getD 6 0) = (Y.getD 6 0)
    · refine Go.st (pc' := 26) (S' := []) (fun t_ k_ => XS.icmpYes X0.here hx rfl (pc0 := 21) (pc' := 26) rfl (hb hby d8_21) rfl (teq hc21_5).1 (by decide) (by decide) k_) ?_
      refine Go.st (pc' := 29) (S' := []) (fun t_ k_ => XS.iinc X0.here hx rfl (hb hby d8_26) rfl (l' := #[.val (.ref t1), .val (.ref t2), .val (.int ((6 : Int32) + (1 : Int32)))]) rfl k_) ?_
      rw [show ((6 : Int32) + (1 : Int32)) = (7 : Int32) from by decide]
      refine Go.st (pc' := 9) (S' := []) (fun t_ k_ => XS.goto X0.here hx rfl (pc0 := 29) (pc' := 9) rfl (hb hby d8_29) (by decide) (by decide) k_) ?_
      exact sq7 t1 t2 _ _ X Y n k (Stand.up X0 (by decide) (by decide)) hx hZ hw hby hml hown hnm hret hlk e0 N0 Z0 V_t1 V_t2 hn13 hk13 hnk (own_hp hp hc21_5) heq
    · refine Go.st (pc' := 24) (S' := []) (fun t_ k_ => XS.icmpNo X0.here hx rfl (hb hby d8_21) rfl (feq hc21_5).1 k_) ?_
      refine Go.st (pc' := 25) (S' := [(.int (0 : Int32))]) (fun t_ k_ => XS.iconst X0.here hx rfl (hb hby d8_24) k_) ?_
      exact Go.retN X0 hx hlk hret (by simp) (hb hby d8_25) (by decide) (by decide) (by rw [e0]; exact ⟨by rw [own_eq, if_neg (fun g => hc21_5 (g.2 6 hi))]; rfl, N0, heq⟩)
  · refine Go.st (pc' := 32) (S' := []) (fun t_ k_ => XS.icmpYes X0.here hx rfl (pc0 := 12) (pc' := 32) rfl (hb hby d8_12) rfl (flt hc12_2).2.1 (by decide) (by decide) k_) ?_
    have hi : ¬ 6 < n := fun z => hc12_2 ((own_ltI (m := 6) (n := n) (by omega) (by omega)).mpr z)
    refine Go.st (pc' := 33) (S' := [(.int (1 : Int32))]) (fun t_ k_ => XS.iconst X0.here hx rfl (hb hby d8_32) k_) ?_
    exact Go.retN X0 hx hlk hret (by simp) (hb hby d8_33) (by decide) (by decide) (by rw [e0]; exact ⟨by rw [own_eq, if_pos ⟨hnk, fun j hj => hp j (by omega)⟩]; rfl, N0, heq⟩)
theorem sq5 {p : Program} {l : Launch} {e : Env} {s : State} {m : MethodId} {args : Array Value} {below : List Frame} {meth : Method} {c : Code} {T0 : State} {locs : List Loc} {Z : State} {a0 : Array Value} {n0 : Nat} {h0 hh : Heap} (t1 t2 : Addr) (k1 k2 : ClassId) (X Y : List Int32) (n k : Nat)
    (X0 : Stand p l e roomleq s m args below meth c T0 locs 0 0) (hx : p.tables.exec = Jvm.exec) (hZ : Z.Warmed39 s.vm) (hw : ∀ d ∈ tables_1, d.before a0 Z = true) (hby : c.code = jdk_43_method_13_code) (hml : c.maxLocals = 3) (hown : s.vm.findClass "java/lang/StringLatin1" = some m.cls) (hnm : meth.name = "equals") (hret : meth.sig.returnType = (some .boolean)) (hlk : meth.locks = false) (e0 : T0.heap = hh) (N0 : Fr n0 locs) (Z0 : n0 ≤ hh.size) (V_t1 : Arv Z hh t1 k1 .byte (n.toInt32) (X.map Value.int) (.int (0 : Int32))) (V_t2 : Arv Z hh t2 k2 .byte (k.toInt32) (Y.map Value.int) (.int (0 : Int32))) (hn13 : n ≤ 13) (hk13 : k ≤ 13) (hnk : n = k) (hp : ∀ j, j < 5 → X.getD j 0 = Y.getD j 0) (heq : hh = h0) :
    Go p e below s roomleq.cells roomleq.slots (Qleq Z X Y n k h0 n0) m T0 9 #[.val (.ref t1), .val (.ref t2), .val (.int (5 : Int32))] [] := by
  refine Go.st (pc' := 10) (S' := [(.int (5 : Int32))]) (fun t_ k_ => XS.iloadN X0.here hx rfl (hb hby d8_9) rfl k_) ?_
  refine Go.st (pc' := 11) (S' := [(.ref t1), (.int (5 : Int32))]) (fun t_ k_ => XS.aloadN X0.here hx rfl (hb hby d8_10) rfl rfl k_) ?_
  obtain ⟨cl1, Ar1, -, q1a, q1b, -, -⟩ := id V_t1
  refine Go.st (pc' := 12) (S' := [(.int (n.toInt32)), (.int (5 : Int32))]) (fun t_ k_ => own_len X0 hx hZ e0 Ar1 q1a q1b (g := (mkF m 11 #[.val (.ref t1), .val (.ref t2), .val (.int (5 : Int32))] [(.ref t1), (.int (5 : Int32))])) rfl rfl (hb hby d8_11) t_ k_) ?_
  by_cases hc12_2 : (5 : Int32) < (n.toInt32)
  · refine Go.st (pc' := 15) (S' := []) (fun t_ k_ => XS.icmpNo X0.here hx rfl (hb hby d8_12) rfl (tlt hc12_2).2.1 k_) ?_
    have hi : 5 < n := (own_ltI (m := 5) (n := n) (by omega) (by omega)).mp hc12_2
    refine Go.st (pc' := 16) (S' := [(.ref t1)]) (fun t_ k_ => XS.aloadN X0.here hx rfl (hb hby d8_15) rfl rfl k_) ?_
    refine Go.st (pc' := 17) (S' := [(.int (5 : Int32)), (.ref t1)]) (fun t_ k_ => XS.iloadN X0.here hx rfl (hb hby d8_16) rfl k_) ?_
    obtain ⟨cl3, Ar3, -, q3a, q3b, q3c, q3d⟩ := id V_t1
    refine Go.st (pc' := 18) (S' := [(.int (X.getD 5 0))]) (fun t_ k_ => X0.baloadBytes hx (j := (5 : Int32)) (v := (.int (X.getD 5 0))) (by rw [e0]; exact Ar3.1) (State.isArrayOf_alike hZ.alike Ar3.2.1) Ar3.2.2 (own_inbS (i := 5) q3a hi (by omega)) (q3c.at (own_inbS (i := 5) q3a hi (by omega)) (own_atI (i := 5) _ (by omega))) (g := (mkF m 17 #[.val (.ref t1), .val (.ref t2), .val (.int (5 : Int32))] [(.int (5 : Int32)), (.ref t1)])) rfl rfl (hb hby d8_17) t_ k_) ?_
    refine Go.st (pc' := 19) (S' := [(.ref t2), (.int (X.getD 5 0))]) (fun t_ k_ => XS.aloadN X0.here hx rfl (hb hby d8_18) rfl rfl k_) ?_
    refine Go.st (pc' := 20) (S' := [(.int (5 : Int32)), (.ref t2), (.int (X.getD 5 0))]) (fun t_ k_ => XS.iloadN X0.here hx rfl (hb hby d8_19) rfl k_) ?_
    obtain ⟨cl4, Ar4, -, q4a, q4b, q4c, q4d⟩ := id V_t2
    refine Go.st (pc' := 21) (S' := [(.int (Y.getD 5 0)), (.int (X.getD 5 0))]) (fun t_ k_ => X0.baloadBytes hx (j := (5 : Int32)) (v := (.int (Y.getD 5 0))) (by rw [e0]; exact Ar4.1) (State.isArrayOf_alike hZ.alike Ar4.2.1) Ar4.2.2 (own_inbS (i := 5) q4a (by omega) (by omega)) (q4c.at (own_inbS (i := 5) q4a (by omega) (by omega)) (own_atI (i := 5) _ (by omega))) (g := (mkF m 20 #[.val (.ref t1), .val (.ref t2), .val (.int (5 : Int32))] [(.int (5 : Int32)), (.ref t2), (.int (X.getD 5 0))])) rfl rfl (hb hby d8_20) t_ k_) ?_
    by_cases hc21_5 : (X.getD 5 0) = (Y.getD 5 0)
    · refine Go.st (pc' := 26) (S' := []) (fun t_ k_ => XS.icmpYes X0.here hx rfl (pc0 := 21) (pc' := 26) rfl (hb hby d8_21) rfl (teq hc21_5).1 (by decide) (by decide) k_) ?_
      refine Go.st (pc' := 29) (S' := []) (fun t_ k_ => XS.iinc X0.here hx rfl (hb hby d8_26) rfl (l' := #[.val (.ref t1), .val (.ref t2), .val (.int ((5 : Int32) + (1 : Int32)))]) rfl k_) ?_
      rw [show ((5 : Int32) + (1 : Int32)) = (6 : Int32) from by decide]
      refine Go.st (pc' := 9) (S' := []) (fun t_ k_ => XS.goto X0.here hx rfl (pc0 := 29) (pc' := 9) rfl (hb hby d8_29) (by decide) (by decide) k_) ?_
      exact sq6 t1 t2 _ _ X Y n k (Stand.up X0 (by decide) (by decide)) hx hZ hw hby hml hown hnm hret hlk e0 N0 Z0 V_t1 V_t2 hn13 hk13 hnk (own_hp hp hc21_5) heq
    · refine Go.st (pc' := 24) (S' := []) (fun t_ k_ => XS.icmpNo X0.here hx rfl (hb hby d8_21) rfl (feq hc21_5).1 k_) ?_
      refine Go.st (pc' := 25) (S' := [(.int (0 : Int32))]) (fun t_ k_ => XS.iconst X0.here hx rfl (hb hby d8_24) k_) ?_
      exact Go.retN X0 hx hlk hret (by simp) (hb hby d8_25) (by decide) (by decide) (by rw [e0]; exact ⟨by rw [own_eq, if_neg (fun g => hc21_5 (g.2 5 hi))]; rfl, N0, heq⟩)
  · refine Go.st (pc' := 32) (S' := []) (fun t_ k_ => XS.icmpYes X0.here hx rfl (pc0 := 12) (pc' := 32) rfl (hb hby d8_12) rfl (flt hc12_2).2.1 (by decide) (by decide) k_) ?_
    have hi : ¬ 5 < n := fun z => hc12_2 ((own_ltI (m := 5) (n := n) (by omega) (by omega)).mpr z)
    refine Go.st (pc' := 33) (S' := [(.int (1 : Int32))]) (fun t_ k_ => XS.iconst X0.here hx rfl (hb hby d8_32) k_) ?_
    exact Go.retN X0 hx hlk hret (by simp) (hb hby d8_33) (by decide) (by decide) (by rw [e0]; exact ⟨by rw [own_eq, if_pos ⟨hnk, fun j hj => hp j (by omega)⟩]; rfl, N0, heq⟩)
theorem sq4 {p : Program} {l : Launch} {e : Env} {s : State} {m : MethodId} {args : Array Value} {below : List Frame} {meth : Method} {c : Code} {T0 : State} {locs : List Loc} {Z : State} {a0 : Array Value} {n0 : Nat} {h0 hh : Heap} (t1 t2 : Addr) (k1 k2 : ClassId) (X Y : List Int32) (n k : Nat)
    (X0 : Stand p l e roomleq s m args below meth c T0 locs 0 0) (hx : p.tables.exec = Jvm.exec) (hZ : Z.Warmed39 s.vm) (hw : ∀ d ∈ tables_1, d.before a0 Z = true) (hby : c.code = jdk_43_method_13_code) (hml : c.maxLocals = 3) (hown : s.vm.findClass "java/lang/StringLatin1" = some m.cls) (hnm : meth.name = "equals") (hret : meth.sig.returnType = (some .boolean)) (hlk : meth.locks = false) (e0 : T0.heap = hh) (N0 : Fr n0 locs) (Z0 : n0 ≤ hh.size) (V_t1 : Arv Z hh t1 k1 .byte (n.toInt32) (X.map Value.int) (.int (0 : Int32))) (V_t2 : Arv Z hh t2 k2 .byte (k.toInt32) (Y.map Value.int) (.int (0 : Int32))) (hn13 : n ≤ 13) (hk13 : k ≤ 13) (hnk : n = k) (hp : ∀ j, j < 4 → X.getD j 0 = Y.getD j 0) (heq : hh = h0) :
    Go p e below s roomleq.cells roomleq.slots (Qleq Z X Y n k h0 n0) m T0 9 #[.val (.ref t1), .val (.ref t2), .val (.int (4 : Int32))] [] := by
  refine Go.st (pc' := 10) (S' := [(.int (4 : Int32))]) (fun t_ k_ => XS.iloadN X0.here hx rfl (hb hby d8_9) rfl k_) ?_
  refine Go.st (pc' := 11) (S' := [(.ref t1), (.int (4 : Int32))]) (fun t_ k_ => XS.aloadN X0.here hx rfl (hb hby d8_10) rfl rfl k_) ?_
  obtain ⟨cl1, Ar1, -, q1a, q1b, -, -⟩ := id V_t1
  refine Go.st (pc' := 12) (S' := [(.int (n.toInt32)), (.int (4 : Int32))]) (fun t_ k_ => own_len X0 hx hZ e0 Ar1 q1a q1b (g := (mkF m 11 #[.val (.ref t1), .val (.ref t2), .val (.int (4 : Int32))] [(.ref t1), (.int (4 : Int32))])) rfl rfl (hb hby d8_11) t_ k_) ?_
  by_cases hc12_2 : (4 : Int32) < (n.toInt32)
  · refine Go.st (pc' := 15) (S' := []) (fun t_ k_ => XS.icmpNo X0.here hx rfl (hb hby d8_12) rfl (tlt hc12_2).2.1 k_) ?_
    have hi : 4 < n := (own_ltI (m := 4) (n := n) (by omega) (by omega)).mp hc12_2
    refine Go.st (pc' := 16) (S' := [(.ref t1)]) (fun t_ k_ => XS.aloadN X0.here hx rfl (hb hby d8_15) rfl rfl k_) ?_
    refine Go.st (pc' := 17) (S' := [(.int (4 : Int32)), (.ref t1)]) (fun t_ k_ => XS.iloadN X0.here hx rfl (hb hby d8_16) rfl k_) ?_
    obtain ⟨cl3, Ar3, -, q3a, q3b, q3c, q3d⟩ := id V_t1
    refine Go.st (pc' := 18) (S' := [(.int (X.getD 4 0))]) (fun t_ k_ => X0.baloadBytes hx (j := (4 : Int32)) (v := (.int (X.getD 4 0))) (by rw [e0]; exact Ar3.1) (State.isArrayOf_alike hZ.alike Ar3.2.1) Ar3.2.2 (own_inbS (i := 4) q3a hi (by omega)) (q3c.at (own_inbS (i := 4) q3a hi (by omega)) (own_atI (i := 4) _ (by omega))) (g := (mkF m 17 #[.val (.ref t1), .val (.ref t2), .val (.int (4 : Int32))] [(.int (4 : Int32)), (.ref t1)])) rfl rfl (hb hby d8_17) t_ k_) ?_
    refine Go.st (pc' := 19) (S' := [(.ref t2), (.int (X.getD 4 0))]) (fun t_ k_ => XS.aloadN X0.here hx rfl (hb hby d8_18) rfl rfl k_) ?_
    refine Go.st (pc' := 20) (S' := [(.int (4 : Int32)), (.ref t2), (.int (X.getD 4 0))]) (fun t_ k_ => XS.iloadN X0.here hx rfl (hb hby d8_19) rfl k_) ?_
    obtain ⟨cl4, Ar4, -, q4a, q4b, q4c, q4d⟩ := id V_t2
    refine Go.st (pc' := 21) (S' := [(.int (Y.getD 4 0)), (.int (X.getD 4 0))]) (fun t_ k_ => X0.baloadBytes hx (j := (4 : Int32)) (v := (.int (Y.getD 4 0))) (by rw [e0]; exact Ar4.1) (State.isArrayOf_alike hZ.alike Ar4.2.1) Ar4.2.2 (own_inbS (i := 4) q4a (by omega) (by omega)) (q4c.at (own_inbS (i := 4) q4a (by omega) (by omega)) (own_atI (i := 4) _ (by omega))) (g := (mkF m 20 #[.val (.ref t1), .val (.ref t2), .val (.int (4 : Int32))] [(.int (4 : Int32)), (.ref t2), (.int (X.getD 4 0))])) rfl rfl (hb hby d8_20) t_ k_) ?_
    by_cases hc21_5 : (X.getD 4 0) = (Y.getD 4 0)
    · refine Go.st (pc' := 26) (S' := []) (fun t_ k_ => XS.icmpYes X0.here hx rfl (pc0 := 21) (pc' := 26) rfl (hb hby d8_21) rfl (teq hc21_5).1 (by decide) (by decide) k_) ?_
      refine Go.st (pc' := 29) (S' := []) (fun t_ k_ => XS.iinc X0.here hx rfl (hb hby d8_26) rfl (l' := #[.val (.ref t1), .val (.ref t2), .val (.int ((4 : Int32) + (1 : Int32)))]) rfl k_) ?_
      rw [show ((4 : Int32) + (1 : Int32)) = (5 : Int32) from by decide]
      refine Go.st (pc' := 9) (S' := []) (fun t_ k_ => XS.goto X0.here hx rfl (pc0 := 29) (pc' := 9) rfl (hb hby d8_29) (by decide) (by decide) k_) ?_
      exact sq5 t1 t2 _ _ X Y n k (Stand.up X0 (by decide) (by decide)) hx hZ hw hby hml hown hnm hret hlk e0 N0 Z0 V_t1 V_t2 hn13 hk13 hnk (own_hp hp hc21_5) heq
    · refine Go.st (pc' := 24) (S' := []) (fun t_ k_ => XS.icmpNo X0.here hx rfl (hb hby d8_21) rfl (feq hc21_5).1 k_) ?_
      refine Go.st (pc' := 25) (S' := [(.int (0 : Int32))]) (fun t_ k_ => XS.iconst X0.here hx rfl (hb hby d8_24) k_) ?_
      exact Go.retN X0 hx hlk hret (by simp) (hb hby d8_25) (by decide) (by decide) (by rw [e0]; exact ⟨by rw [own_eq, if_neg (fun g => hc21_5 (g.2 4 hi))]; rfl, N0, heq⟩)
  · refine Go.st (pc' := 32) (S' := []) (fun t_ k_ => XS.icmpYes X0.here hx rfl (pc0 := 12) (pc' := 32) rfl (hb hby d8_12) rfl (flt hc12_2).2.1 (by decide) (by decide) k_) ?_
    have hi : ¬ 4 < n := fun z => hc12_2 ((own_ltI (m := 4) (n := n) (by omega) (by omega)).mpr z)
    refine Go.st (pc' := 33) (S' := [(.int (1 : Int32))]) (fun t_ k_ => XS.iconst X0.here hx rfl (hb hby d8_32) k_) ?_
    exact Go.retN X0 hx hlk hret (by simp) (hb hby d8_33) (by decide) (by decide) (by rw [e0]; exact ⟨by rw [own_eq, if_pos ⟨hnk, fun j hj => hp j (by omega)⟩]; rfl, N0, heq⟩)
theorem sq3 {p : Program} {l : Launch} {e : Env} {s : State} {m : MethodId} {args : Array Value} {below : List Frame} {meth : Method} {c : Code} {T0 : State} {locs : List Loc} {Z : State} {a0 : Array Value} {n0 : Nat} {h0 hh : Heap} (t1 t2 : Addr) (k1 k2 : ClassId) (X Y : List Int32) (n k : Nat)
    (X0 : Stand p l e roomleq s m args below meth c T0 locs 0 0) (hx : p.tables.exec = Jvm.exec) (hZ : Z.Warmed39 s.vm) (hw : ∀ d ∈ tables_1, d.before a0 Z = true) (hby : c.code = jdk_43_method_13_code) (hml : c.maxLocals = 3) (hown : s.vm.findClass "java/lang/StringLatin1" = some m.cls) (hnm : meth.name = "equals") (hret : meth.sig.returnType = (some .boolean)) (hlk : meth.locks = false) (e0 : T0.heap = hh) (N0 : Fr n0 locs) (Z0 : n0 ≤ hh.size) (V_t1 : Arv Z hh t1 k1 .byte (n.toInt32) (X.map Value.int) (.int (0 : Int32))) (V_t2 : Arv Z hh t2 k2 .byte (k.toInt32) (Y.map Value.int) (.int (0 : Int32))) (hn13 : n ≤ 13) (hk13 : k ≤ 13) (hnk : n = k) (hp : ∀ j, j < 3 → X.getD j 0 = Y.getD j 0) (heq : hh = h0) :
    Go p e below s roomleq.cells roomleq.slots (Qleq Z X Y n k h0 n0) m T0 9 #[.val (.ref t1), .val (.ref t2), .val (.int (3 : Int32))] [] := by
  refine Go.st (pc' := 10) (S' := [(.int (3 : Int32))]) (fun t_ k_ => XS.iloadN X0.here hx rfl (hb hby d8_9) rfl k_) ?_
  refine Go.st (pc' := 11) (S' := [(.ref t1), (.int (3 : Int32))]) (fun t_ k_ => XS.aloadN X0.here hx rfl (hb hby d8_10) rfl rfl k_) ?_
  obtain ⟨cl1, Ar1, -, q1a, q1b, -, -⟩ := id V_t1
  refine Go.st (pc' := 12) (S' := [(.int (n.toInt32)), (.int (3 : Int32))]) (fun t_ k_ => own_len X0 hx hZ e0 Ar1 q1a q1b (g := (mkF m 11 #[.val (.ref t1), .val (.ref t2), .val (.int (3 : Int32))] [(.ref t1), (.int (3 : Int32))])) rfl rfl (hb hby d8_11) t_ k_) ?_
  by_cases hc12_2 : (3 : Int32) < (n.toInt32)
  · refine Go.st (pc' := 15) (S' := []) (fun t_ k_ => XS.icmpNo X0.here hx rfl (hb hby d8_12) rfl (tlt hc12_2).2.1 k_) ?_
    have hi : 3 < n := (own_ltI (m := 3) (n := n) (by omega) (by omega)).mp hc12_2
    refine Go.st (pc' := 16) (S' := [(.ref t1)]) (fun t_ k_ => XS.aloadN X0.here hx rfl (hb hby d8_15) rfl rfl k_) ?_
    refine Go.st (pc' := 17) (S' := [(.int (3 : Int32)), (.ref t1)]) (fun t_ k_ => XS.iloadN X0.here hx rfl (hb hby d8_16) rfl k_) ?_
    obtain ⟨cl3, Ar3, -, q3a, q3b, q3c, q3d⟩ := id V_t1
    refine Go.st (pc' := 18) (S' := [(.int (X.getD 3 0))]) (fun t_ k_ => X0.baloadBytes hx (j := (3 : Int32)) (v := (.int (X.getD 3 0))) (by rw [e0]; exact Ar3.1) (State.isArrayOf_alike hZ.alike Ar3.2.1) Ar3.2.2 (own_inbS (i := 3) q3a hi (by omega)) (q3c.at (own_inbS (i := 3) q3a hi (by omega)) (own_atI (i := 3) _ (by omega))) (g := (mkF m 17 #[.val (.ref t1), .val (.ref t2), .val (.int (3 : Int32))] [(.int (3 : Int32)), (.ref t1)])) rfl rfl (hb hby d8_17) t_ k_) ?_
    refine Go.st (pc' := 19) (S' := [(.ref t2), (.int (X.getD 3 0))]) (fun t_ k_ => XS.aloadN X0.here hx rfl (hb hby d8_18) rfl rfl k_) ?_
    refine Go.st (pc' := 20) (S' := [(.int (3 : Int32)), (.ref t2), (.int (X.getD 3 0))]) (fun t_ k_ => XS.iloadN X0.here hx rfl (hb hby d8_19) rfl k_) ?_
    obtain ⟨cl4, Ar4, -, q4a, q4b, q4c, q4d⟩ := id V_t2
    refine Go.st (pc' := 21) (S' := [(.int (Y.getD 3 0)), (.int (X.getD 3 0))]) (fun t_ k_ => X0.baloadBytes hx (j := (3 : Int32)) (v := (.int (Y.getD 3 0))) (by rw [e0]; exact Ar4.1) (State.isArrayOf_alike hZ.alike Ar4.2.1) Ar4.2.2 (own_inbS (i := 3) q4a (by omega) (by omega)) (q4c.at (own_inbS (i := 3) q4a (by omega) (by omega)) (own_atI (i := 3) _ (by omega))) (g := (mkF m 20 #[.val (.ref t1), .val (.ref t2), .val (.int (3 : Int32))] [(.int (3 : Int32)), (.ref t2), (.int (X.getD 3 0))])) rfl rfl (hb hby d8_20) t_ k_) ?_
    by_cases hc21_5 : (X.getD 3 0) = (Y.getD 3 0)
    · refine Go.st (pc' := 26) (S' := []) (fun t_ k_ => XS.icmpYes X0.here hx rfl (pc0 := 21) (pc' := 26) rfl (hb hby d8_21) rfl (teq hc21_5).1 (by decide) (by decide) k_) ?_
      refine Go.st (pc' := 29) (S' := []) (fun t_ k_ => XS.iinc X0.here hx rfl (hb hby d8_26) rfl (l' := #[.val (.ref t1), .val (.ref t2), .val (.int ((3 : Int32) + (1 : Int32)))]) rfl k_) ?_
      rw [show ((3 : Int32) + (1 : Int32)) = (4 : Int32) from by decide]
      refine Go.st (pc' := 9) (S' := []) (fun t_ k_ => XS.goto X0.here hx rfl (pc0 := 29) (pc' := 9) rfl (hb hby d8_29) (by decide) (by decide) k_) ?_
      exact sq4 t1 t2 _ _ X Y n k (Stand.up X0 (by decide) (by decide)) hx hZ hw hby hml hown hnm hret hlk e0 N0 Z0 V_t1 V_t2 hn13 hk13 hnk (own_hp hp hc21_5) heq
    · refine Go.st (pc' := 24) (S' := []) (fun t_ k_ => XS.icmpNo X0.here hx rfl (hb hby d8_21) rfl (feq hc21_5).1 k_) ?_
      refine Go.st (pc' := 25) (S' := [(.int (0 : Int32))]) (fun t_ k_ => XS.iconst X0.here hx rfl (hb hby d8_24) k_) ?_
      exact Go.retN X0 hx hlk hret (by simp) (hb hby d8_25) (by decide) (by decide) (by rw [e0]; exact ⟨by rw [own_eq, if_neg (fun g => hc21_5 (g.2 3 hi))]; rfl, N0, heq⟩)
  · refine Go.st (pc' := 32) (S' := []) (fun t_ k_ => XS.icmpYes X0.here hx rfl (pc0 := 12) (pc' := 32) rfl (hb hby d8_12) rfl (flt hc12_2).2.1 (by decide) (by decide) k_) ?_
    have hi : ¬ 3 < n := fun z => hc12_2 ((own_ltI (m := 3) (n := n) (by omega) (by omega)).mpr z)
    refine Go.st (pc' := 33) (S' := [(.int (1 : Int32))]) (fun t_ k_ => XS.iconst X0.here hx rfl (hb hby d8_32) k_) ?_
    exact Go.retN X0 hx hlk hret (by simp) (hb hby d8_33) (by decide) (by decide) (by rw [e0]; exact ⟨by rw [own_eq, if_pos ⟨hnk, fun j hj => hp j (by omega)⟩]; rfl, N0, heq⟩)
theorem sq2 {p : Program} {l : Launch} {e : Env} {s : State} {m : MethodId} {args : Array Value} {below : List Frame} {meth : Method} {c : Code} {T0 : State} {locs : List Loc} {Z : State} {a0 : Array Value} {n0 : Nat} {h0 hh : Heap} (t1 t2 : Addr) (k1 k2 : ClassId) (X Y : List Int32) (n k : Nat)
    (X0 : Stand p l e roomleq s m args below meth c T0 locs 0 0) (hx : p.tables.exec = Jvm.exec) (hZ : Z.Warmed39 s.vm) (hw : ∀ d ∈ tables_1, d.before a0 Z = true) (hby : c.code = jdk_43_method_13_code) (hml : c.maxLocals = 3) (hown : s.vm.findClass "java/lang/StringLatin1" = some m.cls) (hnm : meth.name = "equals") (hret : meth.sig.returnType = (some .boolean)) (hlk : meth.locks = false) (e0 : T0.heap = hh) (N0 : Fr n0 locs) (Z0 : n0 ≤ hh.size) (V_t1 : Arv Z hh t1 k1 .byte (n.toInt32) (X.map Value.int) (.int (0 : Int32))) (V_t2 : Arv Z hh t2 k2 .byte (k.toInt32) (Y.map Value.int) (.int (0 : Int32))) (hn13 : n ≤ 13) (hk13 : k ≤ 13) (hnk : n = k) (hp : ∀ j, j < 2 → X.getD j 0 = Y.getD j 0) (heq : hh = h0) :
    Go p e below s roomleq.cells roomleq.slots (Qleq Z X Y n k h0 n0) m T0 9 #[.val (.ref t1), .val (.ref t2), .val (.int (2 : Int32))] [] := by
  refine Go.st (pc' := 10) (S' := [(.int (2 : Int32))]) (fun t_ k_ => XS.iloadN X0.here hx rfl (hb hby d8_9) rfl k_) ?_
  refine Go.st (pc' := 11) (S' := [(.ref t1), (.int (2 : Int32))]) (fun t_ k_ => XS.aloadN X0.here hx rfl (hb hby d8_10) rfl rfl k_) ?_
  obtain ⟨cl1, Ar1, -, q1a, q1b, -, -⟩ := id V_t1
  refine Go.st (pc' := 12) (S' := [(.int (n.toInt32)), (.int (2 : Int32))]) (fun t_ k_ => own_len X0 hx hZ e0 Ar1 q1a q1b (g := (mkF m 11 #[.val (.ref t1), .val (.ref t2), .val (.int (2 : Int32))] [(.ref t1), (.int (2 : Int32))])) rfl rfl (hb hby d8_11) t_ k_) ?_
  by_cases hc12_2 : (2 : Int32) < (n.toInt32)
  · refine Go.st (pc' := 15) (S' := []) (fun t_ k_ => XS.icmpNo X0.here hx rfl (hb hby d8_12) rfl (tlt hc12_2).2.1 k_) ?_
    have hi : 2 < n := (own_ltI (m := 2) (n := n) (by omega) (by omega)).mp hc12_2
    refine Go.st (pc' := 16) (S' := [(.ref t1)]) (fun t_ k_ => XS.aloadN X0.here hx rfl (hb hby d8_15) rfl rfl k_) ?_
    refine Go.st (pc' := 17) (S' := [(.int (2 : Int32)), (.ref t1)]) (fun t_ k_ => XS.iloadN X0.here hx rfl (hb hby d8_16) rfl k_) ?_
    obtain ⟨cl3, Ar3, -, q3a, q3b, q3c, q3d⟩ := id V_t1
    refine Go.st (pc' := 18) (S' := [(.int (X.getD 2 0))]) (fun t_ k_ => X0.baloadBytes hx (j := (2 : Int32)) (v := (.int (X.getD 2 0))) (by rw [e0]; exact Ar3.1) (State.isArrayOf_alike hZ.alike Ar3.2.1) Ar3.2.2 (own_inbS (i := 2) q3a hi (by omega)) (q3c.at (own_inbS (i := 2) q3a hi (by omega)) (own_atI (i := 2) _ (by omega))) (g := (mkF m 17 #[.val (.ref t1), .val (.ref t2), .val (.int (2 : Int32))] [(.int (2 : Int32)), (.ref t1)])) rfl rfl (hb hby d8_17) t_ k_) ?_
    refine Go.st (pc' := 19) (S' := [(.ref t2), (.int (X.getD 2 0))]) (fun t_ k_ => XS.aloadN X0.here hx rfl (hb hby d8_18) rfl rfl k_) ?_
    refine Go.st (pc' := 20) (S' := [(.int (2 : Int32)), (.ref t2), (.int (X.getD 2 0))]) (fun t_ k_ => XS.iloadN X0.here hx rfl (hb hby d8_19) rfl k_) ?_
    obtain ⟨cl4, Ar4, -, q4a, q4b, q4c, q4d⟩ := id V_t2
    refine Go.st (pc' := 21) (S' := [(.int (Y.getD 2 0)), (.int (X.getD 2 0))]) (fun t_ k_ => X0.baloadBytes hx (j := (2 : Int32)) (v := (.int (Y.getD 2 0))) (by rw [e0]; exact Ar4.1) (State.isArrayOf_alike hZ.alike Ar4.2.1) Ar4.2.2 (own_inbS (i := 2) q4a (by omega) (by omega)) (q4c.at (own_inbS (i := 2) q4a (by omega) (by omega)) (own_atI (i := 2) _ (by omega))) (g := (mkF m 20 #[.val (.ref t1), .val (.ref t2), .val (.int (2 : Int32))] [(.int (2 : Int32)), (.ref t2), (.int (X.getD 2 0))])) rfl rfl (hb hby d8_20) t_ k_) ?_
    by_cases hc21_5 : (X.getD 2 0) = (Y.getD 2 0)
    · refine Go.st (pc' := 26) (S' := []) (fun t_ k_ => XS.icmpYes X0.here hx rfl (pc0 := 21) (pc' := 26) rfl (hb hby d8_21) rfl (teq hc21_5).1 (by decide) (by decide) k_) ?_
      refine Go.st (pc' := 29) (S' := []) (fun t_ k_ => XS.iinc X0.here hx rfl (hb hby d8_26) rfl (l' := #[.val (.ref t1), .val (.ref t2), .val (.int ((2 : Int32) + (1 : Int32)))]) rfl k_) ?_
      rw [show ((2 : Int32) + (1 : Int32)) = (3 : Int32) from by decide]
      refine Go.st (pc' := 9) (S' := []) (fun t_ k_ => XS.goto X0.here hx rfl (pc0 := 29) (pc' := 9) rfl (hb hby d8_29) (by decide) (by decide) k_) ?_
      exact sq3 t1 t2 _ _ X Y n k (Stand.up X0 (by decide) (by decide)) hx hZ hw hby hml hown hnm hret hlk e0 N0 Z0 V_t1 V_t2 hn13 hk13 hnk (own_hp hp hc21_5) heq
    · refine Go.st (pc' := 24) (S' := []) (fun t_ k_ => XS.icmpNo X0.here hx rfl (hb hby d8_21) rfl (feq hc21_5).1 k_) ?_
      refine Go.st (pc' := 25) (S' := [(.int (0 : Int32))]) (fun t_ k_ => XS.iconst X0.here hx rfl (hb hby d8_24) k_) ?_
      exact Go.retN X0 hx hlk hret (by simp) (hb hby d8_25) (by decide) (by decide) (by rw [e0]; exact ⟨by rw [own_eq, if_neg (fun g => hc21_5 (g.2 2 hi))]; rfl, N0, heq⟩)
  · refine Go.st (pc' := 32) (S' := []) (fun t_ k_ => XS.icmpYes X0.here hx rfl (pc0 := 12) (pc' := 32) rfl (hb hby d8_12) rfl (flt hc12_2).2.1 (by decide) (by decide) k_) ?_
    have hi : ¬ 2 < n := fun z => hc12_2 ((own_ltI (m := 2) (n := n) (by omega) (by omega)).mpr z)
    refine Go.st (pc' := 33) (S' := [(.int (1 : Int32))]) (fun t_ k_ => XS.iconst X0.here hx rfl (hb hby d8_32) k_) ?_
    exact Go.retN X0 hx hlk hret (by simp) (hb hby d8_33) (by decide) (by decide) (by rw [e0]; exact ⟨by rw [own_eq, if_pos ⟨hnk, fun j hj => hp j (by omega)⟩]; rfl, N0, heq⟩)
theorem sq1 {p : Program} {l : Launch} {e : Env} {s : State} {m : MethodId} {args : Array Value} {below : List Frame} {meth : Method} {c : Code} {T0 : State} {locs : List Loc} {Z : State} {a0 : Array Value} {n0 : Nat} {h0 hh : Heap} (t1 t2 : Addr) (k1 k2 : ClassId) (X Y : List Int32) (n k : Nat)
    (X0 : Stand p l e roomleq s m args below meth c T0 locs 0 0) (hx : p.tables.exec = Jvm.exec) (hZ : Z.Warmed39 s.vm) (hw : ∀ d ∈ tables_1, d.before a0 Z = true) (hby : c.code = jdk_43_method_13_code) (hml : c.maxLocals = 3) (hown : s.vm.findClass "java/lang/StringLatin1" = some m.cls) (hnm : meth.name = "equals") (hret : meth.sig.returnType = (some .boolean)) (hlk : meth.locks = false) (e0 : T0.heap = hh) (N0 : Fr n0 locs) (Z0 : n0 ≤ hh.size) (V_t1 : Arv Z hh t1 k1 .byte (n.toInt32) (X.map Value.int) (.int (0 : Int32))) (V_t2 : Arv Z hh t2 k2 .byte (k.toInt32) (Y.map Value.int) (.int (0 : Int32))) (hn13 : n ≤ 13) (hk13 : k ≤ 13) (hnk : n = k) (hp : ∀ j, j < 1 → X.getD j 0 = Y.getD j 0) (heq : hh = h0) :
    Go p e below s roomleq.cells roomleq.slots (Qleq Z X Y n k h0 n0) m T0 9 #[.val (.ref t1), .val (.ref t2), .val (.int (1 : Int32))] [] := by
  refine Go.st (pc' := 10) (S' := [(.int (1 : Int32))]) (fun t_ k_ => XS.iloadN X0.here hx rfl (hb hby d8_9) rfl k_) ?_
  refine Go.st (pc' := 11) (S' := [(.ref t1), (.int (1 : Int32))]) (fun t_ k_ => XS.aloadN X0.here hx rfl (hb hby d8_10) rfl rfl k_) ?_
  obtain ⟨cl1, Ar1, -, q1a, q1b, -, -⟩ := id V_t1
  refine Go.st (pc' := 12) (S' := [(.int (n.toInt32)), (.int (1 : Int32))]) (fun t_ k_ => own_len X0 hx hZ e0 Ar1 q1a q1b (g := (mkF m 11 #[.val (.ref t1), .val (.ref t2), .val (.int (1 : Int32))] [(.ref t1), (.int (1 : Int32))])) rfl rfl (hb hby d8_11) t_ k_) ?_
  by_cases hc12_2 : (1 : Int32) < (n.toInt32)
  · refine Go.st (pc' := 15) (S' := []) (fun t_ k_ => XS.icmpNo X0.here hx rfl (hb hby d8_12) rfl (tlt hc12_2).2.1 k_) ?_
    have hi : 1 < n := (own_ltI (m := 1) (n := n) (by omega) (by omega)).mp hc12_2
    refine Go.st (pc' := 16) (S' := [(.ref t1)]) (fun t_ k_ => XS.aloadN X0.here hx rfl (hb hby d8_15) rfl rfl k_) ?_
    refine Go.st (pc' := 17) (S' := [(.int (1 : Int32)), (.ref t1)]) (fun t_ k_ => XS.iloadN X0.here hx rfl (hb hby d8_16) rfl k_) ?_
    obtain ⟨cl3, Ar3, -, q3a, q3b, q3c, q3d⟩ := id V_t1
    refine Go.st (pc' := 18) (S' := [(.int (X.getD 1 0))]) (fun t_ k_ => X0.baloadBytes hx (j := (1 : Int32)) (v := (.int (X.getD 1 0))) (by rw [e0]; exact Ar3.1) (State.isArrayOf_alike hZ.alike Ar3.2.1) Ar3.2.2 (own_inbS (i := 1) q3a hi (by omega)) (q3c.at (own_inbS (i := 1) q3a hi (by omega)) (own_atI (i := 1) _ (by omega))) (g := (mkF m 17 #[.val (.ref t1), .val (.ref t2), .val (.int (1 : Int32))] [(.int (1 : Int32)), (.ref t1)])) rfl rfl (hb hby d8_17) t_ k_) ?_
    refine Go.st (pc' := 19) (S' := [(.ref t2), (.int (X.getD 1 0))]) (fun t_ k_ => XS.aloadN X0.here hx rfl (hb hby d8_18) rfl rfl k_) ?_
    refine Go.st (pc' := 20) (S' := [(.int (1 : Int32)), (.ref t2), (.int (X.getD 1 0))]) (fun t_ k_ => XS.iloadN X0.here hx rfl (hb hby d8_19) rfl k_) ?_
    obtain ⟨cl4, Ar4, -, q4a, q4b, q4c, q4d⟩ := id V_t2
    refine Go.st (pc' := 21) (S' := [(.int (Y.getD 1 0)), (.int (X.getD 1 0))]) (fun t_ k_ => X0.baloadBytes hx (j := (1 : Int32)) (v := (.int (Y.getD 1 0))) (by rw [e0]; exact Ar4.1) (State.isArrayOf_alike hZ.alike Ar4.2.1) Ar4.2.2 (own_inbS (i := 1) q4a (by omega) (by omega)) (q4c.at (own_inbS (i := 1) q4a (by omega) (by omega)) (own_atI (i := 1) _ (by omega))) (g := (mkF m 20 #[.val (.ref t1), .val (.ref t2), .val (.int (1 : Int32))] [(.int (1 : Int32)), (.ref t2), (.int (X.getD 1 0))])) rfl rfl (hb hby d8_20) t_ k_) ?_
    by_cases hc21_5 : (X.getD 1 0) = (Y.getD 1 0)
    · refine Go.st (pc' := 26) (S' := []) (fun t_ k_ => XS.icmpYes X0.here hx rfl (pc0 := 21) (pc' := 26) rfl (hb hby d8_21) rfl (teq hc21_5).1 (by decide) (by decide) k_) ?_
      refine Go.st (pc' := 29) (S' := []) (fun t_ k_ => XS.iinc X0.here hx rfl (hb hby d8_26) rfl (l' := #[.val (.ref t1), .val (.ref t2), .val (.int ((1 : Int32) + (1 : Int32)))]) rfl k_) ?_
      rw [show ((1 : Int32) + (1 : Int32)) = (2 : Int32) from by decide]
      refine Go.st (pc' := 9) (S' := []) (fun t_ k_ => XS.goto X0.here hx rfl (pc0 := 29) (pc' := 9) rfl (hb hby d8_29) (by decide) (by decide) k_) ?_
      exact sq2 t1 t2 _ _ X Y n k (Stand.up X0 (by decide) (by decide)) hx hZ hw hby hml hown hnm hret hlk e0 N0 Z0 V_t1 V_t2 hn13 hk13 hnk (own_hp hp hc21_5) heq
    · refine Go.st (pc' := 24) (S' := []) (fun t_ k_ => XS.icmpNo X0.here hx rfl (hb hby d8_21) rfl (feq hc21_5).1 k_) ?_
      refine Go.st (pc' := 25) (S' := [(.int (0 : Int32))]) (fun t_ k_ => XS.iconst X0.here hx rfl (hb hby d8_24) k_) ?_
      exact Go.retN X0 hx hlk hret (by simp) (hb hby d8_25) (by decide) (by decide) (by rw [e0]; exact ⟨by rw [own_eq, if_neg (fun g => hc21_5 (g.2 1 hi))]; rfl, N0, heq⟩)
  · refine Go.st (pc' := 32) (S' := []) (fun t_ k_ => XS.icmpYes X0.here hx rfl (pc0 := 12) (pc' := 32) rfl (hb hby d8_12) rfl (flt hc12_2).2.1 (by decide) (by decide) k_) ?_
    have hi : ¬ 1 < n := fun z => hc12_2 ((own_ltI (m := 1) (n := n) (by omega) (by omega)).mpr z)
    refine Go.st (pc' := 33) (S' := [(.int (1 : Int32))]) (fun t_ k_ => XS.iconst X0.here hx rfl (hb hby d8_32) k_) ?_
    exact Go.retN X0 hx hlk hret (by simp) (hb hby d8_33) (by decide) (by decide) (by rw [e0]; exact ⟨by rw [own_eq, if_pos ⟨hnk, fun j hj => hp j (by omega)⟩]; rfl, N0, heq⟩)
theorem sq0 {p : Program} {l : Launch} {e : Env} {s : State} {m : MethodId} {args : Array Value} {below : List Frame} {meth : Method} {c : Code} {T0 : State} {locs : List Loc} {Z : State} {a0 : Array Value} {n0 : Nat} {h0 hh : Heap} (t1 t2 : Addr) (k1 k2 : ClassId) (X Y : List Int32) (n k : Nat)
    (X0 : Stand p l e roomleq s m args below meth c T0 locs 0 0) (hx : p.tables.exec = Jvm.exec) (hZ : Z.Warmed39 s.vm) (hw : ∀ d ∈ tables_1, d.before a0 Z = true) (hby : c.code = jdk_43_method_13_code) (hml : c.maxLocals = 3) (hown : s.vm.findClass "java/lang/StringLatin1" = some m.cls) (hnm : meth.name = "equals") (hret : meth.sig.returnType = (some .boolean)) (hlk : meth.locks = false) (e0 : T0.heap = hh) (N0 : Fr n0 locs) (Z0 : n0 ≤ hh.size) (V_t1 : Arv Z hh t1 k1 .byte (n.toInt32) (X.map Value.int) (.int (0 : Int32))) (V_t2 : Arv Z hh t2 k2 .byte (k.toInt32) (Y.map Value.int) (.int (0 : Int32))) (hn13 : n ≤ 13) (hk13 : k ≤ 13) (hnk : n = k) (hp : ∀ j, j < 0 → X.getD j 0 = Y.getD j 0) (heq : hh = h0) :
    Go p e below s roomleq.cells roomleq.slots (Qleq Z X Y n k h0 n0) m T0 9 #[.val (.ref t1), .val (.ref t2), .val (.int (0 : Int32))] [] := by
  refine Go.st (pc' := 10) (S' := [(.int (0 : Int32))]) (fun t_ k_ => XS.iloadN X0.here hx rfl (hb hby d8_9) rfl k_) ?_
  refine Go.st (pc' := 11) (S' := [(.ref t1), (.int (0 : Int32))]) (fun t_ k_ => XS.aloadN X0.here hx rfl (hb hby d8_10) rfl rfl k_) ?_
  obtain ⟨cl1, Ar1, -, q1a, q1b, -, -⟩ := id V_t1
  refine Go.st (pc' := 12) (S' := [(.int (n.toInt32)), (.int (0 : Int32))]) (fun t_ k_ => own_len X0 hx hZ e0 Ar1 q1a q1b (g := (mkF m 11 #[.val (.ref t1), .val (.ref t2), .val (.int (0 : Int32))] [(.ref t1), (.int (0 : Int32))])) rfl rfl (hb hby d8_11) t_ k_) ?_
  by_cases hc12_2 : (0 : Int32) < (n.toInt32)
  · refine Go.st (pc' := 15) (S' := []) (fun t_ k_ => XS.icmpNo X0.here hx rfl (hb hby d8_12) rfl (tlt hc12_2).2.1 k_) ?_
    have hi : 0 < n := (own_ltI (m := 0) (n := n) (by omega) (by omega)).mp hc12_2
    refine Go.st (pc' := 16) (S' := [(.ref t1)]) (fun t_ k_ => XS.aloadN X0.here hx rfl (hb hby d8_15) rfl rfl k_) ?_
    refine Go.st (pc' := 17) (S' := [(.int (0 : Int32)), (.ref t1)]) (fun t_ k_ => XS.iloadN X0.here hx rfl (hb hby d8_16) rfl k_) ?_
    obtain ⟨cl3, Ar3, -, q3a, q3b, q3c, q3d⟩ := id V_t1
    refine Go.st (pc' := 18) (S' := [(.int (X.getD 0 0))]) (fun t_ k_ => X0.baloadBytes hx (j := (0 : Int32)) (v := (.int (X.getD 0 0))) (by rw [e0]; exact Ar3.1) (State.isArrayOf_alike hZ.alike Ar3.2.1) Ar3.2.2 (own_inbS (i := 0) q3a hi (by omega)) (q3c.at (own_inbS (i := 0) q3a hi (by omega)) (own_atI (i := 0) _ (by omega))) (g := (mkF m 17 #[.val (.ref t1), .val (.ref t2), .val (.int (0 : Int32))] [(.int (0 : Int32)), (.ref t1)])) rfl rfl (hb hby d8_17) t_ k_) ?_
    refine Go.st (pc' := 19) (S' := [(.ref t2), (.int (X.getD 0 0))]) (fun t_ k_ => XS.aloadN X0.here hx rfl (hb hby d8_18) rfl rfl k_) ?_
    refine Go.st (pc' := 20) (S' := [(.int (0 : Int32)), (.ref t2), (.int (X.getD 0 0))]) (fun t_ k_ => XS.iloadN X0.here hx rfl (hb hby d8_19) rfl k_) ?_
    obtain ⟨cl4, Ar4, -, q4a, q4b, q4c, q4d⟩ := id V_t2
    refine Go.st (pc' := 21) (S' := [(.int (Y.getD 0 0)), (.int (X.getD 0 0))]) (fun t_ k_ => X0.baloadBytes hx (j := (0 : Int32)) (v := (.int (Y.getD 0 0))) (by rw [e0]; exact Ar4.1) (State.isArrayOf_alike hZ.alike Ar4.2.1) Ar4.2.2 (own_inbS (i := 0) q4a (by omega) (by omega)) (q4c.at (own_inbS (i := 0) q4a (by omega) (by omega)) (own_atI (i := 0) _ (by omega))) (g := (mkF m 20 #[.val (.ref t1), .val (.ref t2), .val (.int (0 : Int32))] [(.int (0 : Int32)), (.ref t2), (.int (X.getD 0 0))])) rfl rfl (hb hby d8_20) t_ k_) ?_
    by_cases hc21_5 : (X.getD 0 0) = (Y.getD 0 0)
    · refine Go.st (pc' := 26) (S' := []) (fun t_ k_ => XS.icmpYes X0.here hx rfl (pc0 := 21) (pc' := 26) rfl (hb hby d8_21) rfl (teq hc21_5).1 (by decide) (by decide) k_) ?_
      refine Go.st (pc' := 29) (S' := []) (fun t_ k_ => XS.iinc X0.here hx rfl (hb hby d8_26) rfl (l' := #[.val (.ref t1), .val (.ref t2), .val (.int ((0 : Int32) + (1 : Int32)))]) rfl k_) ?_
      rw [show ((0 : Int32) + (1 : Int32)) = (1 : Int32) from by decide]
      refine Go.st (pc' := 9) (S' := []) (fun t_ k_ => XS.goto X0.here hx rfl (pc0 := 29) (pc' := 9) rfl (hb hby d8_29) (by decide) (by decide) k_) ?_
      exact sq1 t1 t2 _ _ X Y n k (Stand.up X0 (by decide) (by decide)) hx hZ hw hby hml hown hnm hret hlk e0 N0 Z0 V_t1 V_t2 hn13 hk13 hnk (own_hp hp hc21_5) heq
    · refine Go.st (pc' := 24) (S' := []) (fun t_ k_ => XS.icmpNo X0.here hx rfl (hb hby d8_21) rfl (feq hc21_5).1 k_) ?_
      refine Go.st (pc' := 25) (S' := [(.int (0 : Int32))]) (fun t_ k_ => XS.iconst X0.here hx rfl (hb hby d8_24) k_) ?_
      exact Go.retN X0 hx hlk hret (by simp) (hb hby d8_25) (by decide) (by decide) (by rw [e0]; exact ⟨by rw [own_eq, if_neg (fun g => hc21_5 (g.2 0 hi))]; rfl, N0, heq⟩)
  · refine Go.st (pc' := 32) (S' := []) (fun t_ k_ => XS.icmpYes X0.here hx rfl (pc0 := 12) (pc' := 32) rfl (hb hby d8_12) rfl (flt hc12_2).2.1 (by decide) (by decide) k_) ?_
    have hi : ¬ 0 < n := fun z => hc12_2 ((own_ltI (m := 0) (n := n) (by omega) (by omega)).mpr z)
    refine Go.st (pc' := 33) (S' := [(.int (1 : Int32))]) (fun t_ k_ => XS.iconst X0.here hx rfl (hb hby d8_32) k_) ?_
    exact Go.retN X0 hx hlk hret (by simp) (hb hby d8_33) (by decide) (by decide) (by rw [e0]; exact ⟨by rw [own_eq, if_pos ⟨hnk, fun j hj => hp j (by omega)⟩]; rfl, N0, heq⟩)
theorem rmleq (l : Launch) (Z : State) (a0 : Array Value) (hw : ∀ d ∈ tables_1, d.before a0 Z = true) (ws : List Jvm.Cond) (t1 t2 : Addr) (k1 k2 : ClassId) (X Y : List Int32) (n k : Nat) (h0 : Heap) (n0 : Nat) (Z0 : n0 ≤ h0.size) (V_t1 : Arv Z h0 t1 k1 .byte (n.toInt32) (X.map Value.int) (.int (0 : Int32))) (V_t2 : Arv Z h0 t2 k2 .byte (k.toInt32) (Y.map Value.int) (.int (0 : Int32))) (hn13 : n ≤ 13) (hk13 : k ≤ 13) :
    MetFree l (⟨"java/lang/StringLatin1", "equals", "([B[B)Z"⟩ : MethodName) (head1 (Jvm.Cond.code (⟨"java/lang/StringLatin1", "equals", "([B[B)Z"⟩ : MethodName) jdk_43_method_13_code 3 (some .boolean) :: ws) roomleq) (fun aa_ U_ => aa_ = #[(.ref t1), (.ref t2)] ∧ Z.Warmed39 U_.vm ∧ U_.heap = h0) (fun _ _ _ _ _ => True) (fun _ U_ o_ W_ => ∃ v_ L_, o_ = .returned v_ ∧ (Qleq Z X Y n k h0 n0) v_ W_.heap L_ ∧ FrameEnd U_ o_ W_ L_ roomleq.cells roomleq.slots) := by
  refine own_met (Q := (Qleq Z X Y n k h0 n0)) (L0 := #[.val (.ref t1), .val (.ref t2), .unset]) (plainFor_of_name pn_2) (fun m => by first | (simp [entryFrame, mkF, argsToLocals, Value.category]; done) | rfl) ?_
  intro p e s m below meth c T0 X0 hx hby hml hown hnm hret hlk hZ e0
  have N0 := Fr.nil n0
  refine Go.st (pc' := 1) (S' := [(.ref t1)]) (fun t_ k_ => XS.aloadN X0.here hx rfl (hb hby d8_0) rfl rfl k_) ?_
  obtain ⟨cl1, Ar1, -, q1a, q1b, -, -⟩ := id V_t1
  refine Go.st (pc' := 2) (S' := [(.int (n.toInt32))]) (fun t_ k_ => own_len X0 hx hZ e0 Ar1 q1a q1b (g := (mkF m 1 #[.val (.ref t1), .val (.ref t2), .unset] [(.ref t1)])) rfl rfl (hb hby d8_1) t_ k_) ?_
  refine Go.st (pc' := 3) (S' := [(.ref t2), (.int (n.toInt32))]) (fun t_ k_ => XS.aloadN X0.here hx rfl (hb hby d8_2) rfl rfl k_) ?_
  obtain ⟨cl2, Ar2, -, q2a, q2b, -, -⟩ := id V_t2
  refine Go.st (pc' := 4) (S' := [(.int (k.toInt32)), (.int (n.toInt32))]) (fun t_ k_ => own_len X0 hx hZ e0 Ar2 q2a q2b (g := (mkF m 3 #[.val (.ref t1), .val (.ref t2), .unset] [(.ref t2), (.int (n.toInt32))])) rfl rfl (hb hby d8_3) t_ k_) ?_
  by_cases hc4_3 : (n.toInt32) = (k.toInt32)
  · refine Go.st (pc' := 7) (S' := []) (fun t_ k_ => XS.icmpNo X0.here hx rfl (hb hby d8_4) rfl (teq hc4_3).2 k_) ?_
    have hnk : n = k := (own_inj (m := n) (n := k) (by omega) (by omega)).mp hc4_3
    refine Go.st (pc' := 8) (S' := [(.int (0 : Int32))]) (fun t_ k_ => XS.iconst X0.here hx rfl (hb hby d8_7) k_) ?_
    refine Go.st (pc' := 9) (S' := []) (fun t_ k_ => XS.istoreN X0.here hx rfl (hb hby d8_8) rfl (l' := #[.val (.ref t1), .val (.ref t2), .val (.int (0 : Int32))]) rfl k_) ?_
    have heq : h0 = h0 := rfl
    exact sq0 t1 t2 _ _ X Y n k (Stand.up X0 (by decide) (by decide)) hx hZ hw hby hml hown hnm hret hlk e0 N0 Z0 V_t1 V_t2 hn13 hk13 hnk (fun j hj => absurd hj (Nat.not_lt_zero _)) heq
  · refine Go.st (pc' := 34) (S' := []) (fun t_ k_ => XS.icmpYes X0.here hx rfl (pc0 := 4) (pc' := 34) rfl (hb hby d8_4) rfl (feq hc4_3).2 (by decide) (by decide) k_) ?_
    have hnk : ¬ n = k := fun z => hc4_3 ((own_inj (m := n) (n := k) (by omega) (by omega)).mpr z)
    refine Go.st (pc' := 35) (S' := [(.int (0 : Int32))]) (fun t_ k_ => XS.iconst X0.here hx rfl (hb hby d8_34) k_) ?_
    exact Go.retN X0 hx hlk hret (by simp) (hb hby d8_35) (by decide) (by decide) (by rw [e0]; exact ⟨by rw [own_eq, if_neg (fun g => hnk g.1)]; rfl, N0, rfl⟩)
theorem own_seq {Z : State} {h : Heap} {a1 a2 t1 t2 : Addr} {k1 k2 : ClassId} {X Y : List Int32} {n k : Nat} (e : (Value.ref a1) = (Value.ref a2)) (F1 : Fld Z h a1 "java/lang/String" "value" "[B" (.ref t1)) (F2 : Fld Z h a2 "java/lang/String" "value" "[B" (.ref t2)) (V1 : Arv Z h t1 k1 .byte (n.toInt32) (X.map Value.int) (.int 0)) (V2 : Arv Z h t2 k2 .byte (k.toInt32) (Y.map Value.int) (.int 0)) (hn : n ≤ 13) (hk : k ≤ 13) : own_eq X n Y k = 1 := by
  cases e
  cases own_fldu F1 F2
  exact own_eqA (by omega) (by omega) V1 V2
theorem d7_0 : decode jdk_42_method_66_code 0 = .ok (.aload_n 0, 1) := by decide +kernel
theorem d7_1 : decode jdk_42_method_66_code 1 = .ok (.aload_n 1, 1) := by decide +kernel
theorem d7_2 : decode jdk_42_method_66_code 2 = .ok (.if_acmp .ne 5, 3) := by decide +kernel
theorem d7_5 : decode jdk_42_method_66_code 5 = .ok (.iconst 1, 1) := by decide +kernel
theorem d7_6 : decode jdk_42_method_66_code 6 = .ok (.ireturn, 1) := by decide +kernel
theorem d7_7 : decode jdk_42_method_66_code 7 = .ok (.aload_n 1, 1) := by decide +kernel
theorem d7_8 : decode jdk_42_method_66_code 8 = .ok (.instanceof 10, 3) := by decide +kernel
theorem d7_11 : decode jdk_42_method_66_code 11 = .ok (.ifCond .eq 43, 3) := by decide +kernel
theorem d7_14 : decode jdk_42_method_66_code 14 = .ok (.aload_n 1, 1) := by decide +kernel
theorem d7_15 : decode jdk_42_method_66_code 15 = .ok (.checkcast 10, 3) := by decide +kernel
theorem d7_18 : decode jdk_42_method_66_code 18 = .ok (.astore_n 2, 1) := by decide +kernel
theorem d7_19 : decode jdk_42_method_66_code 19 = .ok (.getstatic 38, 3) := by decide +kernel
theorem d7_22 : decode jdk_42_method_66_code 22 = .ok (.ifCond .eq 14, 3) := by decide +kernel
theorem d7_25 : decode jdk_42_method_66_code 25 = .ok (.aload_n 0, 1) := by decide +kernel
theorem d7_26 : decode jdk_42_method_66_code 26 = .ok (.getfield 15, 3) := by decide +kernel
theorem d7_29 : decode jdk_42_method_66_code 29 = .ok (.aload_n 2, 1) := by decide +kernel
theorem d7_30 : decode jdk_42_method_66_code 30 = .ok (.getfield 15, 3) := by decide +kernel
theorem d7_33 : decode jdk_42_method_66_code 33 = .ok (.if_icmp .ne 21, 3) := by decide +kernel
theorem d7_36 : decode jdk_42_method_66_code 36 = .ok (.aload_n 0, 1) := by decide +kernel
theorem d7_37 : decode jdk_42_method_66_code 37 = .ok (.getfield 9, 3) := by decide +kernel
theorem d7_40 : decode jdk_42_method_66_code 40 = .ok (.aload_n 2, 1) := by decide +kernel
theorem d7_41 : decode jdk_42_method_66_code 41 = .ok (.getfield 9, 3) := by decide +kernel
theorem d7_44 : decode jdk_42_method_66_code 44 = .ok (.invokestatic 541, 3) := by decide +kernel
theorem d7_47 : decode jdk_42_method_66_code 47 = .ok (.ifCond .eq 7, 3) := by decide +kernel
theorem d7_50 : decode jdk_42_method_66_code 50 = .ok (.iconst 1, 1) := by decide +kernel
theorem d7_51 : decode jdk_42_method_66_code 51 = .ok (.goto 4, 3) := by decide +kernel
theorem d7_54 : decode jdk_42_method_66_code 54 = .ok (.iconst 0, 1) := by decide +kernel
theorem d7_55 : decode jdk_42_method_66_code 55 = .ok (.ireturn, 1) := by decide +kernel
theorem pd_9 : parseMethodDescriptor "([B[B)Z" = some ⟨[(.array .byte), (.array .byte)], some .boolean⟩ := by decide +kernel
def Qseq (Z : State) (X Y : List Int32) (n k : Nat) (h0 : Heap) (n0 : Nat) (v : Option Value) (h : Heap) (L : List Loc) : Prop := v = some (.int (own_eq X n Y k)) ∧ Fr n0 L ∧ h = h0
def roomseq : Room := { frames := 1, cells := 0, slots := 0, locals := 14 }
theorem rmseq (l : Launch) (Z : State) (a0 : Array Value) (hw : ∀ d ∈ tables_1, d.before a0 Z = true) (ws : List Jvm.Cond) (a1 a2 t1 t2 : Addr) (k1 k2 : ClassId) (X Y : List Int32) (n k : Nat) (gC : Int32) (h0 : Heap) (n0 : Nat) (Z0 : n0 ≤ h0.size) (SC : Sta Z Z.heap "java/lang/String" "COMPACT_STRINGS" "Z" (.int gC)) (PC : ¬ (gC = (0 : Int32))) (O0 : Old Z n0 h0) (E_a1 : Exa Z h0 a1 "java/lang/String") (Fc_a1 : Fld Z h0 a1 "java/lang/String" "coder" "B" (.int (0 : Int32))) (Fv_a1 : Fld Z h0 a1 "java/lang/String" "value" "[B" (.ref t1)) (V_t1 : Arv Z h0 t1 k1 .byte (n.toInt32) (X.map Value.int) (.int (0 : Int32))) (E_a2 : Exa Z h0 a2 "java/lang/String") (Fc_a2 : Fld Z h0 a2 "java/lang/String" "coder" "B" (.int (0 : Int32))) (Fv_a2 : Fld Z h0 a2 "java/lang/String" "value" "[B" (.ref t2)) (V_t2 : Arv Z h0 t2 k2 .byte (k.toInt32) (Y.map Value.int) (.int (0 : Int32))) (hn13 : n ≤ 13) (hk13 : k ≤ 13) :
    MetFree l (⟨"java/lang/String", "equals", "(Ljava/lang/Object;)Z"⟩ : MethodName) (head1 (Jvm.Cond.code (⟨"java/lang/String", "equals", "(Ljava/lang/Object;)Z"⟩ : MethodName) jdk_42_method_66_code 3 (some .boolean) :: ws) roomseq) (fun aa_ U_ => aa_ = #[(.ref a1), (.ref a2)] ∧ Z.Warmed39 U_.vm ∧ U_.heap = h0) (fun _ _ _ _ _ => True) (fun _ U_ o_ W_ => ∃ v_ L_, o_ = .returned v_ ∧ (Qseq Z X Y n k h0 n0) v_ W_.heap L_ ∧ FrameEnd U_ o_ W_ L_ roomseq.cells roomseq.slots) := by
  refine own_met (Q := (Qseq Z X Y n k h0 n0)) (L0 := #[.val (.ref a1), .val (.ref a2), .unset]) (plainFor_of_name pn_0) (fun m => by first | (simp [entryFrame, mkF, argsToLocals, Value.category]; done) | rfl) ?_
  intro p e s m below meth c T0 X0 hx hby hml hown hnm hret hlk hZ e0
  have N0 := Fr.nil n0
  refine Go.st (pc' := 1) (S' := [(.ref a1)]) (fun t_ k_ => XS.aloadN X0.here hx rfl (hb hby d7_0) rfl rfl k_) ?_
  refine Go.st (pc' := 2) (S' := [(.ref a2), (.ref a1)]) (fun t_ k_ => XS.aloadN X0.here hx rfl (hb hby d7_1) rfl rfl k_) ?_
  by_cases hc2_1 : ((.ref a1) : Value) = (.ref a2)
  · refine Go.st (pc' := 5) (S' := []) (fun t_ k_ => Jvm.RoadKit.acmp (g := (mkF m 2 #[.val (.ref a1), .val (.ref a2), .unset] [(.ref a2), (.ref a1)])) X0 hx rfl rfl rfl (pc0 := 2) (pc' := 5) (same := true) rfl (hb hby d7_2) rfl (decide_eq_true hc2_1) (by decide) (by decide) k_) ?_
    refine Go.st (pc' := 6) (S' := [(.int (1 : Int32))]) (fun t_ k_ => XS.iconst X0.here hx rfl (hb hby d7_5) k_) ?_
    exact Go.retN X0 hx hlk hret (by simp) (hb hby d7_6) (by decide) (by decide) (by rw [e0]; exact ⟨by rw [own_seq hc2_1 Fv_a1 Fv_a2 V_t1 V_t2 hn13 hk13]; rfl, N0, rfl⟩)
  · refine Go.st (pc' := 7) (S' := []) (fun t_ k_ => Jvm.RoadKit.acmp (g := (mkF m 2 #[.val (.ref a1), .val (.ref a2), .unset] [(.ref a2), (.ref a1)])) X0 hx rfl rfl rfl (pc0 := 2) (pc' := 7) (same := false) rfl (hb hby d7_2) rfl (decide_eq_false hc2_1) (by decide) (by decide) k_) ?_
    refine Go.st (pc' := 8) (S' := [(.ref a2)]) (fun t_ k_ => XS.aloadN X0.here hx rfl (hb hby d7_7) rfl rfl k_) ?_
    obtain ⟨T2, X2, e2, st2⟩ := instY X0 hx hZ hown (wd hw 39 rfl) e0 (Ins.self E_a2) (g := (mkF m 8 #[.val (.ref a1), .val (.ref a2), .unset] [(.ref a2)])) rfl rfl (hb hby d7_8)
    refine Go.st (pc' := 11) (S' := [(.int (1 : Int32))]) st2 ?_
    refine Go.st (pc' := 14) (S' := []) (fun t_ k_ => XS.ifNo X2.here hx rfl (hb hby d7_11) rfl ((if0 _ _).trans (feq (by decide : ¬ ((1 : Int32) = (0 : Int32)))).1) k_) ?_
    refine Go.st (pc' := 15) (S' := [(.ref a2)]) (fun t_ k_ => XS.aloadN X2.here hx rfl (hb hby d7_14) rfl rfl k_) ?_
    obtain ⟨T3, X3, e3, st3⟩ := castY X2 hx hZ hown (wd hw 39 rfl) e2 (Ins.self E_a2) (g := (mkF m 15 #[.val (.ref a1), .val (.ref a2), .unset] [(.ref a2)])) rfl rfl (hb hby d7_15)
    refine Go.st (pc' := 18) (S' := [(.ref a2)]) st3 ?_
    refine Go.st (pc' := 19) (S' := []) (fun t_ k_ => XS.astoreN X3.here hx rfl (hb hby d7_18) rfl rfl (l' := #[.val (.ref a1), .val (.ref a2), .val (.ref a2)]) rfl k_) ?_
    obtain ⟨T4, X4, e4, st4⟩ := getS2 X3 hx hZ hown (host := "") (Or.inl (wd hw 40 rfl)) Via.refl e3 (SC.ext O0.2) (g := (mkF m 19 #[.val (.ref a1), .val (.ref a2), .val (.ref a2)] [])) rfl (hb hby d7_19)
    refine Go.st (pc' := 22) (S' := [(.int gC)]) st4 ?_
    refine Go.st (pc' := 25) (S' := []) (fun t_ k_ => XS.ifNo X4.here hx rfl (hb hby d7_22) rfl ((if0 _ _).trans (feq (PC : ¬ (gC = (0 : Int32)))).1) k_) ?_
    refine Go.st (pc' := 26) (S' := [(.ref a1)]) (fun t_ k_ => XS.aloadN X4.here hx rfl (hb hby d7_25) rfl rfl k_) ?_
    obtain ⟨T5, X5, e5, st5⟩ := getF X4 hx hZ hown (host := "") (Or.inl (wd hw 30 rfl)) Via.refl e4 Fc_a1 (g := (mkF m 26 #[.val (.ref a1), .val (.ref a2), .val (.ref a2)] [(.ref a1)])) rfl rfl (hb hby d7_26)
    refine Go.st (pc' := 29) (S' := [(.int (0 : Int32))]) st5 ?_
    refine Go.st (pc' := 30) (S' := [(.ref a2), (.int (0 : Int32))]) (fun t_ k_ => XS.aloadN X5.here hx rfl (hb hby d7_29) rfl rfl k_) ?_
    obtain ⟨T6, X6, e6, st6⟩ := getF X5 hx hZ hown (host := "") (Or.inl (wd hw 30 rfl)) Via.refl e5 Fc_a2 (g := (mkF m 30 #[.val (.ref a1), .val (.ref a2), .val (.ref a2)] [(.ref a2), (.int (0 : Int32))])) rfl rfl (hb hby d7_30)
    refine Go.st (pc' := 33) (S' := [(.int (0 : Int32)), (.int (0 : Int32))]) st6 ?_
    refine Go.st (pc' := 36) (S' := []) (fun t_ k_ => XS.icmpNo X6.here hx rfl (hb hby d7_33) rfl (teq (by decide : ((0 : Int32) = (0 : Int32)))).2 k_) ?_
    refine Go.st (pc' := 37) (S' := [(.ref a1)]) (fun t_ k_ => XS.aloadN X6.here hx rfl (hb hby d7_36) rfl rfl k_) ?_
    obtain ⟨T7, X7, e7, st7⟩ := getF X6 hx hZ hown (host := "") (Or.inl (wd hw 29 rfl)) Via.refl e6 Fv_a1 (g := (mkF m 37 #[.val (.ref a1), .val (.ref a2), .val (.ref a2)] [(.ref a1)])) rfl rfl (hb hby d7_37)
    refine Go.st (pc' := 40) (S' := [(.ref t1)]) st7 ?_
    refine Go.st (pc' := 41) (S' := [(.ref a2), (.ref t1)]) (fun t_ k_ => XS.aloadN X7.here hx rfl (hb hby d7_40) rfl rfl k_) ?_
    obtain ⟨T8, X8, e8, st8⟩ := getF X7 hx hZ hown (host := "") (Or.inl (wd hw 29 rfl)) Via.refl e7 Fv_a2 (g := (mkF m 41 #[.val (.ref a1), .val (.ref a2), .val (.ref a2)] [(.ref a2), (.ref t1)])) rfl rfl (hb hby d7_41)
    refine Go.st (pc' := 44) (S' := [(.ref t2), (.ref t1)]) st8 ?_
    obtain ⟨_, _, ⟨T9, L9, k9, n9⟩, -, X9, ⟨Lc9, hQ9, l9, y9, z9⟩, st9⟩ := Jvm.LawKit.callS X8 hx (y := (⟨"java/lang/StringLatin1", "equals", "([B[B)Z"⟩ : MethodName)) hown (mvT hZ (wd hw 41 rfl)) (mvT hZ (wd hw 42 rfl)) (mvT hZ (wd hw 43 rfl)) (mvT hZ (wd hw 44 rfl)) (by decide) (backOf (W := 0) (rmleq l Z a0 hw [] t1 t2 _ _ X Y n k h0 n0 Z0 V_t1 V_t2 hn13 hk13) hZ (wd hw 44 rfl) (wd hw 43 rfl) (by decide) (by decide)) (g := (mkF m 44 #[.val (.ref a1), .val (.ref a2), .val (.ref a2)] [(.ref t2), (.ref t1)])) rfl (by rw [hml]; rfl) (argsL := [(.ref t1), (.ref t2)]) (rest := []) (lenOf pd_9 rfl) rfl (by show 2 * 0 + _ ≤ _; exact Nat.le_of_eq rfl) (hb hby d7_44) (fun _ _ => ⟨rfl, e8, (by decide : 0 + 0 ≤ _), (by decide : 0 + 0 ≤ _)⟩)
    dsimp only [Pt.U, Pt.locs, Pt.cells, Pt.slots] at X9 l9 y9 z9 st9 hQ9
    subst l9 y9 z9
    obtain ⟨rfl, N9q, e9⟩ := hQ9
    have N9 := Fr.app N0 N9q
    refine Go.st (pc' := 47) (S' := [(.int (own_eq X n Y k))]) st9 ?_
    by_cases hc47_10 : (own_eq X n Y k) = (0 : Int32)
    · refine Go.st (pc' := 54) (S' := []) (fun t_ k_ => XS.ifYes X9.here hx rfl (pc0 := 47) (pc' := 54) rfl (hb hby d7_47) rfl ((if0 _ _).trans (teq hc47_10).1) (by decide) (by decide) k_) ?_
      refine Go.st (pc' := 55) (S' := [(.int (0 : Int32))]) (fun t_ k_ => XS.iconst X9.here hx rfl (hb hby d7_54) k_) ?_
      exact Go.retN X9 hx hlk hret (by simp) (hb hby d7_55) (by decide) (by decide) (by rw [e9]; exact ⟨by rw [hc47_10]; rfl, N9, rfl⟩)
    · refine Go.st (pc' := 50) (S' := []) (fun t_ k_ => XS.ifNo X9.here hx rfl (hb hby d7_47) rfl ((if0 _ _).trans (feq hc47_10).1) k_) ?_
      refine Go.st (pc' := 51) (S' := [(.int (1 : Int32))]) (fun t_ k_ => XS.iconst X9.here hx rfl (hb hby d7_50) k_) ?_
      refine Go.st (pc' := 55) (S' := [(.int (1 : Int32))]) (fun t_ k_ => XS.goto X9.here hx rfl (pc0 := 51) (pc' := 55) rfl (hb hby d7_51) (by decide) (by decide) k_) ?_
      exact Go.retN X9 hx hlk hret (by simp) (hb hby d7_55) (by decide) (by decide) (by rw [e9]; exact ⟨by rw [(own_eq01 X n Y k).resolve_left hc47_10]; rfl, N9, rfl⟩)
def own_PF (Z : State) (va f0 f1 f2 ty0 ty1 ty2 u0 u1 u2 : Addr) (kva kv0 kv1 kv2 : ClassId) : Prop := Exa Z Z.heap va "[Lcom/example/vestry/vestry/io/PaymentForm;" ∧ Arv Z Z.heap va kva (.object "com/example/vestry/vestry/io/PaymentForm") (3 : Int32) [.ref f0, .ref f1, .ref f2] .null ∧ Exa Z Z.heap f0 "com/example/vestry/vestry/io/PaymentForm" ∧ Fld Z Z.heap f0 "com/example/vestry/vestry/io/PaymentForm" "text" "Ljava/lang/String;" (.ref ty0) ∧ Exa Z Z.heap ty0 "java/lang/String" ∧ Fld Z Z.heap ty0 "java/lang/String" "coder" "B" (.int (0 : Int32)) ∧ Fld Z Z.heap ty0 "java/lang/String" "value" "[B" (.ref u0) ∧ Arv Z Z.heap u0 kv0 .byte (8 : Int32) (([108, 117, 109, 112, 45, 115, 117, 109] : List Int32).map Value.int) (.int (0 : Int32)) ∧ Exa Z Z.heap f1 "com/example/vestry/vestry/io/PaymentForm" ∧ Fld Z Z.heap f1 "com/example/vestry/vestry/io/PaymentForm" "text" "Ljava/lang/String;" (.ref ty1) ∧ Exa Z Z.heap ty1 "java/lang/String" ∧ Fld Z Z.heap ty1 "java/lang/String" "coder" "B" (.int (0 : Int32)) ∧ Fld Z Z.heap ty1 "java/lang/String" "value" "[B" (.ref u1) ∧ Arv Z Z.heap u1 kv1 .byte (12 : Int32) (([105, 110, 115, 116, 97, 108, 108, 109, 101, 110, 116, 115] : List Int32).map Value.int) (.int (0 : Int32)) ∧ Exa Z Z.heap f2 "com/example/vestry/vestry/io/PaymentForm" ∧ Fld Z Z.heap f2 "com/example/vestry/vestry/io/PaymentForm" "text" "Ljava/lang/String;" (.ref ty2) ∧ Exa Z Z.heap ty2 "java/lang/String" ∧ Fld Z Z.heap ty2 "java/lang/String" "coder" "B" (.int (0 : Int32)) ∧ Fld Z Z.heap ty2 "java/lang/String" "value" "[B" (.ref u2) ∧ Arv Z Z.heap u2 kv2 .byte (12 : Int32) (([108, 105, 102, 101, 45, 97, 110, 110, 117, 105, 116, 121] : List Int32).map Value.int) (.int (0 : Int32))
theorem d6_0 : decode method_5_code 0 = .ok (.aload_n 0, 1) := by decide +kernel
theorem d6_1 : decode method_5_code 1 = .ok (.ldc 7, 2) := by decide +kernel
theorem d6_3 : decode method_5_code 3 = .ok (.invokevirtual 29, 3) := by decide +kernel
theorem d6_6 : decode method_5_code 6 = .ok (.ifCond .eq 7, 3) := by decide +kernel
theorem d6_9 : decode method_5_code 9 = .ok (.getstatic 33, 3) := by decide +kernel
theorem d6_12 : decode method_5_code 12 = .ok (.areturn, 1) := by decide +kernel
theorem pd_10 : parseMethodDescriptor "(Ljava/lang/Object;)Z" = some ⟨[(.object "java/lang/Object")], some .boolean⟩ := by decide +kernel
def Qexp0 (Z : State) (f0 f1 f2 : Addr) (h0 : Heap) (n0 : Nat) (v : Option Value) (h : Heap) (L : List Loc) : Prop := v = some (.ref f0) ∧ Fr n0 L ∧ Keep h0 h []
def roomexp0 : Room := { frames := 2, cells := 2, slots := 36, locals := 28 }
theorem rmexp0 (l : Launch) (Z : State) (a0 : Array Value) (hw : ∀ d ∈ tables_1, d.before a0 Z = true) (ws : List Jvm.Cond) (a1 tx : Addr) (kx : ClassId) (X : List Int32) (n : Nat) (f0 f1 f2 va em : Addr) (gC : Int32) (h0 : Heap) (n0 : Nat) (Z0 : n0 ≤ h0.size) (SC : Sta Z Z.heap "java/lang/String" "COMPACT_STRINGS" "Z" (.int gC)) (PC : ¬ (gC = (0 : Int32))) (O0 : Old Z n0 h0) (S0 : Sta Z Z.heap "com/example/vestry/vestry/io/PaymentForm" "LUMP_SUM" "Lcom/example/vestry/vestry/io/PaymentForm;" (.ref f0)) (S1 : Sta Z Z.heap "com/example/vestry/vestry/io/PaymentForm" "INSTALLMENTS" "Lcom/example/vestry/vestry/io/PaymentForm;" (.ref f1)) (S2 : Sta Z Z.heap "com/example/vestry/vestry/io/PaymentForm" "LIFE_ANNUITY" "Lcom/example/vestry/vestry/io/PaymentForm;" (.ref f2)) (SV : Sta Z Z.heap "com/example/vestry/vestry/io/PaymentForm" "$VALUES" "[Lcom/example/vestry/vestry/io/PaymentForm;" (.ref va)) (SE : Sta Z Z.heap "java/util/Optional" "EMPTY" "Ljava/util/Optional;" (.ref em)) (E_a1 : Exa Z h0 a1 "java/lang/String") (Fc_a1 : Fld Z h0 a1 "java/lang/String" "coder" "B" (.int (0 : Int32))) (Fv_a1 : Fld Z h0 a1 "java/lang/String" "value" "[B" (.ref tx)) (V_tx : Arv Z h0 tx kx .byte (n.toInt32) (X.map Value.int) (.int (0 : Int32))) (hn13 : n ≤ 13) (hq0 : own_eq X n ([108, 117, 109, 112, 45, 115, 117, 109] : List Int32) 8 = 1) :
    MetFree l (⟨"com/example/vestry/vestry/io/PaymentFormNamedPinLaw", "expected", "(Ljava/lang/String;)Lcom/example/vestry/vestry/io/PaymentForm;"⟩ : MethodName) (head1 (Jvm.Cond.code (⟨"com/example/vestry/vestry/io/PaymentFormNamedPinLaw", "expected", "(Ljava/lang/String;)Lcom/example/vestry/vestry/io/PaymentForm;"⟩ : MethodName) method_5_code 1 (some (.object "com/example/vestry/vestry/io/PaymentForm")) :: ws) roomexp0) (fun aa_ U_ => aa_ = #[(.ref a1)] ∧ Z.Warmed39 U_.vm ∧ U_.heap = h0 ∧ CHv Z EL U_.vm h0) (fun _ _ _ _ _ => True) (fun _ U_ o_ W_ => ∃ v_ L_, o_ = .returned v_ ∧ (Qexp0 Z f0 f1 f2 h0 n0) v_ W_.heap L_ ∧ CHr Z EL U_.vm U_.heap W_.vm W_.heap ∧ ReturnedEndW U_ o_ W_ L_ roomexp0.cells roomexp0.slots) := by
  refine own_metH (Q := (Qexp0 Z f0 f1 f2 h0 n0)) (L0 := #[.val (.ref a1)]) (plainFor_of_name pn_3) (fun m => by first | (simp [entryFrame, mkF, argsToLocals, Value.category]; done) | rfl) ?_
  intro p e s m below meth c T0 X0 hx hby hml hown hnm hret hlk hZ e0 hs0 CR hS hk
  have N0 := Fr.nil n0
  have K0 := Keep.refl h0 []
  refine GoH.st (pc' := 1) (S' := [(.ref a1)]) (fun t_ k_ => XS.aloadN X0.here hx rfl (hb hby d6_0) rfl rfl k_) ?_
  obtain ⟨a1_, T1, h1, k1, b1_, c1, X1, e1, E1, hS1, hk1, hZ1, ho1, E_a1_, Fc_a1_, Fv_a1_, V_b1_, lta1, ltb1, CR1, -, Sf1, st1⟩ := ldcCH X0 hx hZ hown (wd hw 5 rfl) (own_wS hw) e0 hS hk (own_EW hw) (by decide : ("com/example/vestry/vestry/io/PaymentFormNamedPinLaw", 7) ∈ EL) CR.1 (vs := [(.int (108 : Int32)), (.int (117 : Int32)), (.int (109 : Int32)), (.int (112 : Int32)), (.int (45 : Int32)), (.int (115 : Int32)), (.int (117 : Int32)), (.int (109 : Int32))]) (z := (8 : Int32)) ⟨by decide, by decide⟩ (by decide) rfl (g := (mkF m 1 #[.val (.ref a1)] [(.ref a1)])) rfl (hb hby d6_1) (n := 32) (by decide) (by decide) (by decide) (by decide)
  replace CR := CR.trans CR1
  replace Z0 := Nat.le_trans Z0 E1.1
  replace K0 := K0.ext E1
  replace O0 := O0.ext E1
  replace E_a1 := E_a1.ext E1
  replace Fc_a1 := Fc_a1.ext E1
  replace Fv_a1 := Fv_a1.ext E1
  replace V_tx := V_tx.ext E1
  replace hZ := hZ1
  replace hown := ho1
  replace hS := hS1
  replace hk := hk1
  refine GoH.st (pc' := 3) (S' := [(.ref a1_), (.ref a1)]) st1 ?_
  obtain ⟨cq2, kq2, q2a, q2b, q2c⟩ := isOf hZ e1 E_a1
  obtain ⟨_, _, ⟨T2, L2, k2, n2⟩, -, X2, ⟨Lc2, hQ2, l2, y2, z2⟩, st2⟩ := X1.virtualBack hx (y := (⟨"java/lang/String", "equals", "(Ljava/lang/Object;)Z"⟩ : MethodName)) (z := (⟨"java/lang/String", "equals", "(Ljava/lang/Object;)Z"⟩ : MethodName)) hown (mvT hZ (wd hw 34 rfl)) (mvT hZ (wd hw 35 rfl)) (notFace_of_selects (args := #[]) (mvT hZ (wd hw 37 rfl))) (mvT hZ (wd hw 37 rfl)) (mvT hZ (wd hw 36 rfl)) (by decide) (backOf (W := 0) (rmseq l Z a0 hw [] a1 a1_ tx b1_ _ _ (X) (([(108 : Int32), (117 : Int32), (109 : Int32), (112 : Int32), (45 : Int32), (115 : Int32), (117 : Int32), (109 : Int32)] : List Int32)) (n) (8) gC h1 n0 Z0 SC PC O0 E_a1 Fc_a1 Fv_a1 V_tx E_a1_ Fc_a1_ Fv_a1_ V_b1_ hn13 (by decide)) hZ (wd hw 38 rfl) (wd hw 6 rfl) (by decide) (by decide)) q2a q2c (g := (mkF m 3 #[.val (.ref a1)] [(.ref a1_), (.ref a1)])) rfl (by rw [hml]; rfl) (Steps.refl _) (argsL := [(.ref a1_)]) (rest := []) (lenOf pd_10 rfl) rfl (by show 2 * 0 + _ ≤ _; exact Nat.le_of_eq rfl) (hb hby d6_3) (fun _ _ => ⟨rfl, e1, (by decide : 2 + 0 ≤ _), (by decide : 36 + 0 ≤ _)⟩)
  dsimp only [Pt.U, Pt.locs, Pt.cells, Pt.slots] at X2 l2 y2 z2 st2 hQ2
  subst l2 y2 z2
  obtain ⟨rfl, N2q, e2⟩ := hQ2
  have N2 := Fr.app N0 N2q
  refine GoH.tr (pc' := 6) (S' := [(.int (own_eq (X) (n) (([(108 : Int32), (117 : Int32), (109 : Int32), (112 : Int32), (45 : Int32), (115 : Int32), (117 : Int32), (109 : Int32)] : List Int32)) (8)))]) st2 ?_
  refine GoH.st (pc' := 9) (S' := []) (fun t_ k_ => XS.ifNo X2.here hx rfl (hb hby d6_6) rfl ((if0 _ _).trans (feq (by rw [hq0]; decide : ¬ ((own_eq (X) (n) (([(108 : Int32), (117 : Int32), (109 : Int32), (112 : Int32), (45 : Int32), (115 : Int32), (117 : Int32), (109 : Int32)] : List Int32)) (8)) = (0 : Int32)))).1) k_) ?_
  obtain ⟨T3, X3, e3, st3⟩ := getS2 X2 hx hZ hown (host := "") (Or.inl (wd hw 128 rfl)) Via.refl e2 (S0.ext O0.2) (g := (mkF m 9 #[.val (.ref a1)] [])) rfl (hb hby d6_9)
  refine GoH.st (pc' := 12) (S' := [(.ref f0)]) st3 ?_
  exact GoH.retO X3 hx hlk hret rfl (by simp [FieldType.isReference, Value.isRef]) (hb hby d6_12) (by decide) (by decide) hS hk e3 hs0 hZ (own_EW hw) CR (by rw [e3]; exact ⟨rfl, N2, K0⟩)
theorem d6_13 : decode method_5_code 13 = .ok (.aload_n 0, 1) := by decide +kernel
theorem d6_14 : decode method_5_code 14 = .ok (.ldc 9, 2) := by decide +kernel
theorem d6_16 : decode method_5_code 16 = .ok (.invokevirtual 29, 3) := by decide +kernel
theorem d6_19 : decode method_5_code 19 = .ok (.ifCond .eq 7, 3) := by decide +kernel
theorem d6_22 : decode method_5_code 22 = .ok (.getstatic 39, 3) := by decide +kernel
theorem d6_25 : decode method_5_code 25 = .ok (.areturn, 1) := by decide +kernel
def Qexp1 (Z : State) (f0 f1 f2 : Addr) (h0 : Heap) (n0 : Nat) (v : Option Value) (h : Heap) (L : List Loc) : Prop := v = some (.ref f1) ∧ Fr n0 L ∧ Keep h0 h []
def roomexp1 : Room := { frames := 2, cells := 4, slots := 88, locals := 28 }
theorem rmexp1 (l : Launch) (Z : State) (a0 : Array Value) (hw : ∀ d ∈ tables_1, d.before a0 Z = true) (ws : List Jvm.Cond) (a1 tx : Addr) (kx : ClassId) (X : List Int32) (n : Nat) (f0 f1 f2 va em : Addr) (gC : Int32) (h0 : Heap) (n0 : Nat) (Z0 : n0 ≤ h0.size) (SC : Sta Z Z.heap "java/lang/String" "COMPACT_STRINGS" "Z" (.int gC)) (PC : ¬ (gC = (0 : Int32))) (O0 : Old Z n0 h0) (S0 : Sta Z Z.heap "com/example/vestry/vestry/io/PaymentForm" "LUMP_SUM" "Lcom/example/vestry/vestry/io/PaymentForm;" (.ref f0)) (S1 : Sta Z Z.heap "com/example/vestry/vestry/io/PaymentForm" "INSTALLMENTS" "Lcom/example/vestry/vestry/io/PaymentForm;" (.ref f1)) (S2 : Sta Z Z.heap "com/example/vestry/vestry/io/PaymentForm" "LIFE_ANNUITY" "Lcom/example/vestry/vestry/io/PaymentForm;" (.ref f2)) (SV : Sta Z Z.heap "com/example/vestry/vestry/io/PaymentForm" "$VALUES" "[Lcom/example/vestry/vestry/io/PaymentForm;" (.ref va)) (SE : Sta Z Z.heap "java/util/Optional" "EMPTY" "Ljava/util/Optional;" (.ref em)) (E_a1 : Exa Z h0 a1 "java/lang/String") (Fc_a1 : Fld Z h0 a1 "java/lang/String" "coder" "B" (.int (0 : Int32))) (Fv_a1 : Fld Z h0 a1 "java/lang/String" "value" "[B" (.ref tx)) (V_tx : Arv Z h0 tx kx .byte (n.toInt32) (X.map Value.int) (.int (0 : Int32))) (hn13 : n ≤ 13) (hq0 : own_eq X n ([108, 117, 109, 112, 45, 115, 117, 109] : List Int32) 8 = 0) (hq1 : own_eq X n ([105, 110, 115, 116, 97, 108, 108, 109, 101, 110, 116, 115] : List Int32) 12 = 1) :
    MetFree l (⟨"com/example/vestry/vestry/io/PaymentFormNamedPinLaw", "expected", "(Ljava/lang/String;)Lcom/example/vestry/vestry/io/PaymentForm;"⟩ : MethodName) (head1 (Jvm.Cond.code (⟨"com/example/vestry/vestry/io/PaymentFormNamedPinLaw", "expected", "(Ljava/lang/String;)Lcom/example/vestry/vestry/io/PaymentForm;"⟩ : MethodName) method_5_code 1 (some (.object "com/example/vestry/vestry/io/PaymentForm")) :: ws) roomexp1) (fun aa_ U_ => aa_ = #[(.ref a1)] ∧ Z.Warmed39 U_.vm ∧ U_.heap = h0 ∧ CHv Z EL U_.vm h0) (fun _ _ _ _ _ => True) (fun _ U_ o_ W_ => ∃ v_ L_, o_ = .returned v_ ∧ (Qexp1 Z f0 f1 f2 h0 n0) v_ W_.heap L_ ∧ CHr Z EL U_.vm U_.heap W_.vm W_.heap ∧ ReturnedEndW U_ o_ W_ L_ roomexp1.cells roomexp1.slots) := by
  refine own_metH (Q := (Qexp1 Z f0 f1 f2 h0 n0)) (L0 := #[.val (.ref a1)]) (plainFor_of_name pn_3) (fun m => by first | (simp [entryFrame, mkF, argsToLocals, Value.category]; done) | rfl) ?_
  intro p e s m below meth c T0 X0 hx hby hml hown hnm hret hlk hZ e0 hs0 CR hS hk
  have N0 := Fr.nil n0
  have K0 := Keep.refl h0 []
  refine GoH.st (pc' := 1) (S' := [(.ref a1)]) (fun t_ k_ => XS.aloadN X0.here hx rfl (hb hby d6_0) rfl rfl k_) ?_
  obtain ⟨a1_, T1, h1, k1, b1_, c1, X1, e1, E1, hS1, hk1, hZ1, ho1, E_a1_, Fc_a1_, Fv_a1_, V_b1_, lta1, ltb1, CR1, -, Sf1, st1⟩ := ldcCH X0 hx hZ hown (wd hw 5 rfl) (own_wS hw) e0 hS hk (own_EW hw) (by decide : ("com/example/vestry/vestry/io/PaymentFormNamedPinLaw", 7) ∈ EL) CR.1 (vs := [(.int (108 : Int32)), (.int (117 : Int32)), (.int (109 : Int32)), (.int (112 : Int32)), (.int (45 : Int32)), (.int (115 : Int32)), (.int (117 : Int32)), (.int (109 : Int32))]) (z := (8 : Int32)) ⟨by decide, by decide⟩ (by decide) rfl (g := (mkF m 1 #[.val (.ref a1)] [(.ref a1)])) rfl (hb hby d6_1) (n := 32) (by decide) (by decide) (by decide) (by decide)
  replace CR := CR.trans CR1
  replace Z0 := Nat.le_trans Z0 E1.1
  replace K0 := K0.ext E1
  replace O0 := O0.ext E1
  replace E_a1 := E_a1.ext E1
  replace Fc_a1 := Fc_a1.ext E1
  replace Fv_a1 := Fv_a1.ext E1
  replace V_tx := V_tx.ext E1
  replace hZ := hZ1
  replace hown := ho1
  replace hS := hS1
  replace hk := hk1
  refine GoH.st (pc' := 3) (S' := [(.ref a1_), (.ref a1)]) st1 ?_
  obtain ⟨cq2, kq2, q2a, q2b, q2c⟩ := isOf hZ e1 E_a1
  obtain ⟨_, _, ⟨T2, L2, k2, n2⟩, -, X2, ⟨Lc2, hQ2, l2, y2, z2⟩, st2⟩ := X1.virtualBack hx (y := (⟨"java/lang/String", "equals", "(Ljava/lang/Object;)Z"⟩ : MethodName)) (z := (⟨"java/lang/String", "equals", "(Ljava/lang/Object;)Z"⟩ : MethodName)) hown (mvT hZ (wd hw 34 rfl)) (mvT hZ (wd hw 35 rfl)) (notFace_of_selects (args := #[]) (mvT hZ (wd hw 37 rfl))) (mvT hZ (wd hw 37 rfl)) (mvT hZ (wd hw 36 rfl)) (by decide) (backOf (W := 0) (rmseq l Z a0 hw [] a1 a1_ tx b1_ _ _ (X) (([(108 : Int32), (117 : Int32), (109 : Int32), (112 : Int32), (45 : Int32), (115 : Int32), (117 : Int32), (109 : Int32)] : List Int32)) (n) (8) gC h1 n0 Z0 SC PC O0 E_a1 Fc_a1 Fv_a1 V_tx E_a1_ Fc_a1_ Fv_a1_ V_b1_ hn13 (by decide)) hZ (wd hw 38 rfl) (wd hw 6 rfl) (by decide) (by decide)) q2a q2c (g := (mkF m 3 #[.val (.ref a1)] [(.ref a1_), (.ref a1)])) rfl (by rw [hml]; rfl) (Steps.refl _) (argsL := [(.ref a1_)]) (rest := []) (lenOf pd_10 rfl) rfl (by show 2 * 0 + _ ≤ _; exact Nat.le_of_eq rfl) (hb hby d6_3) (fun _ _ => ⟨rfl, e1, (by decide : 2 + 0 ≤ _), (by decide : 36 + 0 ≤ _)⟩)
  dsimp only [Pt.U, Pt.locs, Pt.cells, Pt.slots] at X2 l2 y2 z2 st2 hQ2
  subst l2 y2 z2
  obtain ⟨rfl, N2q, e2⟩ := hQ2
  have N2 := Fr.app N0 N2q
  refine GoH.tr (pc' := 6) (S' := [(.int (own_eq (X) (n) (([(108 : Int32), (117 : Int32), (109 : Int32), (112 : Int32), (45 : Int32), (115 : Int32), (117 : Int32), (109 : Int32)] : List Int32)) (8)))]) st2 ?_
  refine GoH.st (pc' := 13) (S' := []) (fun t_ k_ => XS.ifYes X2.here hx rfl (pc0 := 6) (pc' := 13) rfl (hb hby d6_6) rfl ((if0 _ _).trans (teq (hq0 : ((own_eq (X) (n) (([(108 : Int32), (117 : Int32), (109 : Int32), (112 : Int32), (45 : Int32), (115 : Int32), (117 : Int32), (109 : Int32)] : List Int32)) (8)) = (0 : Int32)))).1) (by decide) (by decide) k_) ?_
  refine GoH.st (pc' := 14) (S' := [(.ref a1)]) (fun t_ k_ => XS.aloadN X2.here hx rfl (hb hby d6_13) rfl rfl k_) ?_
  obtain ⟨a3_, T3, h3, k3, b3_, c3, X3, e3, E3, hS3, hk3, hZ3, ho3, E_a3_, Fc_a3_, Fv_a3_, V_b3_, lta3, ltb3, CR3, -, Sf3, st3⟩ := ldcCH X2 hx hZ hown (wd hw 45 rfl) (own_wS hw) e2 hS hk (own_EW hw) (by decide : ("com/example/vestry/vestry/io/PaymentFormNamedPinLaw", 9) ∈ EL) CR.1 (vs := [(.int (105 : Int32)), (.int (110 : Int32)), (.int (115 : Int32)), (.int (116 : Int32)), (.int (97 : Int32)), (.int (108 : Int32)), (.int (108 : Int32)), (.int (109 : Int32)), (.int (101 : Int32)), (.int (110 : Int32)), (.int (116 : Int32)), (.int (115 : Int32))]) (z := (12 : Int32)) ⟨by decide, by decide⟩ (by decide) rfl (g := (mkF m 14 #[.val (.ref a1)] [(.ref a1)])) rfl (hb hby d6_14) (n := 48) (by decide) (by decide) (by decide) (by decide)
  replace CR := CR.trans CR3
  replace Z0 := Nat.le_trans Z0 E3.1
  replace K0 := K0.ext E3
  replace O0 := O0.ext E3
  replace E_a1 := E_a1.ext E3
  replace Fc_a1 := Fc_a1.ext E3
  replace Fv_a1 := Fv_a1.ext E3
  replace V_tx := V_tx.ext E3
  replace E_a1_ := E_a1_.ext E3
  replace Fc_a1_ := Fc_a1_.ext E3
  replace Fv_a1_ := Fv_a1_.ext E3
  replace V_b1_ := V_b1_.ext E3
  replace hZ := hZ3
  replace hown := ho3
  replace hS := hS3
  replace hk := hk3
  refine GoH.st (pc' := 16) (S' := [(.ref a3_), (.ref a1)]) st3 ?_
  obtain ⟨cq4, kq4, q4a, q4b, q4c⟩ := isOf hZ e3 E_a1
  obtain ⟨_, _, ⟨T4, L4, k4, n4⟩, -, X4, ⟨Lc4, hQ4, l4, y4, z4⟩, st4⟩ := X3.virtualBack hx (y := (⟨"java/lang/String", "equals", "(Ljava/lang/Object;)Z"⟩ : MethodName)) (z := (⟨"java/lang/String", "equals", "(Ljava/lang/Object;)Z"⟩ : MethodName)) hown (mvT hZ (wd hw 34 rfl)) (mvT hZ (wd hw 35 rfl)) (notFace_of_selects (args := #[]) (mvT hZ (wd hw 37 rfl))) (mvT hZ (wd hw 37 rfl)) (mvT hZ (wd hw 36 rfl)) (by decide) (backOf (W := 0) (rmseq l Z a0 hw [] a1 a3_ tx b3_ _ _ (X) (([(105 : Int32), (110 : Int32), (115 : Int32), (116 : Int32), (97 : Int32), (108 : Int32), (108 : Int32), (109 : Int32), (101 : Int32), (110 : Int32), (116 : Int32), (115 : Int32)] : List Int32)) (n) (12) gC h3 n0 Z0 SC PC O0 E_a1 Fc_a1 Fv_a1 V_tx E_a3_ Fc_a3_ Fv_a3_ V_b3_ hn13 (by decide)) hZ (wd hw 38 rfl) (wd hw 6 rfl) (by decide) (by decide)) q4a q4c (g := (mkF m 16 #[.val (.ref a1)] [(.ref a3_), (.ref a1)])) rfl (by rw [hml]; rfl) (Steps.refl _) (argsL := [(.ref a3_)]) (rest := []) (lenOf pd_10 rfl) rfl (by show 2 * 0 + _ ≤ _; exact Nat.le_of_eq rfl) (hb hby d6_16) (fun _ _ => ⟨rfl, e3, (by decide : 4 + 0 ≤ _), (by decide : 88 + 0 ≤ _)⟩)
  dsimp only [Pt.U, Pt.locs, Pt.cells, Pt.slots] at X4 l4 y4 z4 st4 hQ4
  subst l4 y4 z4
  obtain ⟨rfl, N4q, e4⟩ := hQ4
  have N4 := Fr.app N2 N4q
  refine GoH.tr (pc' := 19) (S' := [(.int (own_eq (X) (n) (([(105 : Int32), (110 : Int32), (115 : Int32), (116 : Int32), (97 : Int32), (108 : Int32), (108 : Int32), (109 : Int32), (101 : Int32), (110 : Int32), (116 : Int32), (115 : Int32)] : List Int32)) (12)))]) st4 ?_
  refine GoH.st (pc' := 22) (S' := []) (fun t_ k_ => XS.ifNo X4.here hx rfl (hb hby d6_19) rfl ((if0 _ _).trans (feq (by rw [hq1]; decide : ¬ ((own_eq (X) (n) (([(105 : Int32), (110 : Int32), (115 : Int32), (116 : Int32), (97 : Int32), (108 : Int32), (108 : Int32), (109 : Int32), (101 : Int32), (110 : Int32), (116 : Int32), (115 : Int32)] : List Int32)) (12)) = (0 : Int32)))).1) k_) ?_
  obtain ⟨T5, X5, e5, st5⟩ := getS2 X4 hx hZ hown (host := "") (Or.inl (wd hw 153 rfl)) Via.refl e4 (S1.ext O0.2) (g := (mkF m 22 #[.val (.ref a1)] [])) rfl (hb hby d6_22)
  refine GoH.st (pc' := 25) (S' := [(.ref f1)]) st5 ?_
  exact GoH.retO X5 hx hlk hret rfl (by simp [FieldType.isReference, Value.isRef]) (hb hby d6_25) (by decide) (by decide) hS hk e5 hs0 hZ (own_EW hw) CR (by rw [e5]; exact ⟨rfl, N4, K0⟩)
theorem d6_26 : decode method_5_code 26 = .ok (.aload_n 0, 1) := by decide +kernel
theorem d6_27 : decode method_5_code 27 = .ok (.ldc 11, 2) := by decide +kernel
theorem d6_29 : decode method_5_code 29 = .ok (.invokevirtual 29, 3) := by decide +kernel
theorem d6_32 : decode method_5_code 32 = .ok (.ifCond .eq 7, 3) := by decide +kernel
theorem d6_35 : decode method_5_code 35 = .ok (.getstatic 42, 3) := by decide +kernel
theorem d6_38 : decode method_5_code 38 = .ok (.areturn, 1) := by decide +kernel
def Qexp2 (Z : State) (f0 f1 f2 : Addr) (h0 : Heap) (n0 : Nat) (v : Option Value) (h : Heap) (L : List Loc) : Prop := v = some (.ref f2) ∧ Fr n0 L ∧ Keep h0 h []
def roomexp2 : Room := { frames := 2, cells := 6, slots := 140, locals := 28 }
theorem rmexp2 (l : Launch) (Z : State) (a0 : Array Value) (hw : ∀ d ∈ tables_1, d.before a0 Z = true) (ws : List Jvm.Cond) (a1 tx : Addr) (kx : ClassId) (X : List Int32) (n : Nat) (f0 f1 f2 va em : Addr) (gC : Int32) (h0 : Heap) (n0 : Nat) (Z0 : n0 ≤ h0.size) (SC : Sta Z Z.heap "java/lang/String" "COMPACT_STRINGS" "Z" (.int gC)) (PC : ¬ (gC = (0 : Int32))) (O0 : Old Z n0 h0) (S0 : Sta Z Z.heap "com/example/vestry/vestry/io/PaymentForm" "LUMP_SUM" "Lcom/example/vestry/vestry/io/PaymentForm;" (.ref f0)) (S1 : Sta Z Z.heap "com/example/vestry/vestry/io/PaymentForm" "INSTALLMENTS" "Lcom/example/vestry/vestry/io/PaymentForm;" (.ref f1)) (S2 : Sta Z Z.heap "com/example/vestry/vestry/io/PaymentForm" "LIFE_ANNUITY" "Lcom/example/vestry/vestry/io/PaymentForm;" (.ref f2)) (SV : Sta Z Z.heap "com/example/vestry/vestry/io/PaymentForm" "$VALUES" "[Lcom/example/vestry/vestry/io/PaymentForm;" (.ref va)) (SE : Sta Z Z.heap "java/util/Optional" "EMPTY" "Ljava/util/Optional;" (.ref em)) (E_a1 : Exa Z h0 a1 "java/lang/String") (Fc_a1 : Fld Z h0 a1 "java/lang/String" "coder" "B" (.int (0 : Int32))) (Fv_a1 : Fld Z h0 a1 "java/lang/String" "value" "[B" (.ref tx)) (V_tx : Arv Z h0 tx kx .byte (n.toInt32) (X.map Value.int) (.int (0 : Int32))) (hn13 : n ≤ 13) (hq0 : own_eq X n ([108, 117, 109, 112, 45, 115, 117, 109] : List Int32) 8 = 0) (hq1 : own_eq X n ([105, 110, 115, 116, 97, 108, 108, 109, 101, 110, 116, 115] : List Int32) 12 = 0) (hq2 : own_eq X n ([108, 105, 102, 101, 45, 97, 110, 110, 117, 105, 116, 121] : List Int32) 12 = 1) :
    MetFree l (⟨"com/example/vestry/vestry/io/PaymentFormNamedPinLaw", "expected", "(Ljava/lang/String;)Lcom/example/vestry/vestry/io/PaymentForm;"⟩ : MethodName) (head1 (Jvm.Cond.code (⟨"com/example/vestry/vestry/io/PaymentFormNamedPinLaw", "expected", "(Ljava/lang/String;)Lcom/example/vestry/vestry/io/PaymentForm;"⟩ : MethodName) method_5_code 1 (some (.object "com/example/vestry/vestry/io/PaymentForm")) :: ws) roomexp2) (fun aa_ U_ => aa_ = #[(.ref a1)] ∧ Z.Warmed39 U_.vm ∧ U_.heap = h0 ∧ CHv Z EL U_.vm h0) (fun _ _ _ _ _ => True) (fun _ U_ o_ W_ => ∃ v_ L_, o_ = .returned v_ ∧ (Qexp2 Z f0 f1 f2 h0 n0) v_ W_.heap L_ ∧ CHr Z EL U_.vm U_.heap W_.vm W_.heap ∧ ReturnedEndW U_ o_ W_ L_ roomexp2.cells roomexp2.slots) := by
  refine own_metH (Q := (Qexp2 Z f0 f1 f2 h0 n0)) (L0 := #[.val (.ref a1)]) (plainFor_of_name pn_3) (fun m => by first | (simp [entryFrame, mkF, argsToLocals, Value.category]; done) | rfl) ?_
  intro p e s m below meth c T0 X0 hx hby hml hown hnm hret hlk hZ e0 hs0 CR hS hk
  have N0 := Fr.nil n0
  have K0 := Keep.refl h0 []
  refine GoH.st (pc' := 1) (S' := [(.ref a1)]) (fun t_ k_ => XS.aloadN X0.here hx rfl (hb hby d6_0) rfl rfl k_) ?_
  obtain ⟨a1_, T1, h1, k1, b1_, c1, X1, e1, E1, hS1, hk1, hZ1, ho1, E_a1_, Fc_a1_, Fv_a1_, V_b1_, lta1, ltb1, CR1, -, Sf1, st1⟩ := ldcCH X0 hx hZ hown (wd hw 5 rfl) (own_wS hw) e0 hS hk (own_EW hw) (by decide : ("com/example/vestry/vestry/io/PaymentFormNamedPinLaw", 7) ∈ EL) CR.1 (vs := [(.int (108 : Int32)), (.int (117 : Int32)), (.int (109 : Int32)), (.int (112 : Int32)), (.int (45 : Int32)), (.int (115 : Int32)), (.int (117 : Int32)), (.int (109 : Int32))]) (z := (8 : Int32)) ⟨by decide, by decide⟩ (by decide) rfl (g := (mkF m 1 #[.val (.ref a1)] [(.ref a1)])) rfl (hb hby d6_1) (n := 32) (by decide) (by decide) (by decide) (by decide)
  replace CR := CR.trans CR1
  replace Z0 := Nat.le_trans Z0 E1.1
  replace K0 := K0.ext E1
  replace O0 := O0.ext E1
  replace E_a1 := E_a1.ext E1
  replace Fc_a1 := Fc_a1.ext E1
  replace Fv_a1 := Fv_a1.ext E1
  replace V_tx := V_tx.ext E1
  replace hZ := hZ1
  replace hown := ho1
  replace hS := hS1
  replace hk := hk1
  refine GoH.st (pc' := 3) (S' := [(.ref a1_), (.ref a1)]) st1 ?_
  obtain ⟨cq2, kq2, q2a, q2b, q2c⟩ := isOf hZ e1 E_a1
  obtain ⟨_, _, ⟨T2, L2, k2, n2⟩, -, X2, ⟨Lc2, hQ2, l2, y2, z2⟩, st2⟩ := X1.virtualBack hx (y := (⟨"java/lang/String", "equals", "(Ljava/lang/Object;)Z"⟩ : MethodName)) (z := (⟨"java/lang/String", "equals", "(Ljava/lang/Object;)Z"⟩ : MethodName)) hown (mvT hZ (wd hw 34 rfl)) (mvT hZ (wd hw 35 rfl)) (notFace_of_selects (args := #[]) (mvT hZ (wd hw 37 rfl))) (mvT hZ (wd hw 37 rfl)) (mvT hZ (wd hw 36 rfl)) (by decide) (backOf (W := 0) (rmseq l Z a0 hw [] a1 a1_ tx b1_ _ _ (X) (([(108 : Int32), (117 : Int32), (109 : Int32), (112 : Int32), (45 : Int32), (115 : Int32), (117 : Int32), (109 : Int32)] : List Int32)) (n) (8) gC h1 n0 Z0 SC PC O0 E_a1 Fc_a1 Fv_a1 V_tx E_a1_ Fc_a1_ Fv_a1_ V_b1_ hn13 (by decide)) hZ (wd hw 38 rfl) (wd hw 6 rfl) (by decide) (by decide)) q2a q2c (g := (mkF m 3 #[.val (.ref a1)] [(.ref a1_), (.ref a1)])) rfl (by rw [hml]; rfl) (Steps.refl _) (argsL := [(.ref a1_)]) (rest := []) (lenOf pd_10 rfl) rfl (by show 2 * 0 + _ ≤ _; exact Nat.le_of_eq rfl) (hb hby d6_3) (fun _ _ => ⟨rfl, e1, (by decide : 2 + 0 ≤ _), (by decide : 36 + 0 ≤ _)⟩)
  dsimp only [Pt.U, Pt.locs, Pt.cells, Pt.slots] at X2 l2 y2 z2 st2 hQ2
  subst l2 y2 z2
  obtain ⟨rfl, N2q, e2⟩ := hQ2
  have N2 := Fr.app N0 N2q
  refine GoH.tr (pc' := 6) (S' := [(.int (own_eq (X) (n) (([(108 : Int32), (117 : Int32), (109 : Int32), (112 : Int32), (45 : Int32), (115 : Int32), (117 : Int32), (109 : Int32)] : List Int32)) (8)))]) st2 ?_
  refine GoH.st (pc' := 13) (S' := []) (fun t_ k_ => XS.ifYes X2.here hx rfl (pc0 := 6) (pc' := 13) rfl (hb hby d6_6) rfl ((if0 _ _).trans (teq (hq0 : ((own_eq (X) (n) (([(108 : Int32), (117 : Int32), (109 : Int32), (112 : Int32), (45 : Int32), (115 : Int32), (117 : Int32), (109 : Int32)] : List Int32)) (8)) = (0 : Int32)))).1) (by decide) (by decide) k_) ?_
  refine GoH.st (pc' := 14) (S' := [(.ref a1)]) (fun t_ k_ => XS.aloadN X2.here hx rfl (hb hby d6_13) rfl rfl k_) ?_
  obtain ⟨a3_, T3, h3, k3, b3_, c3, X3, e3, E3, hS3, hk3, hZ3, ho3, E_a3_, Fc_a3_, Fv_a3_, V_b3_, lta3, ltb3, CR3, -, Sf3, st3⟩ := ldcCH X2 hx hZ hown (wd hw 45 rfl) (own_wS hw) e2 hS hk (own_EW hw) (by decide : ("com/example/vestry/vestry/io/PaymentFormNamedPinLaw", 9) ∈ EL) CR.1 (vs := [(.int (105 : Int32)), (.int (110 : Int32)), (.int (115 : Int32)), (.int (116 : Int32)), (.int (97 : Int32)), (.int (108 : Int32)), (.int (108 : Int32)), (.int (109 : Int32)), (.int (101 : Int32)), (.int (110 : Int32)), (.int (116 : Int32)), (.int (115 : Int32))]) (z := (12 : Int32)) ⟨by decide, by decide⟩ (by decide) rfl (g := (mkF m 14 #[.val (.ref a1)] [(.ref a1)])) rfl (hb hby d6_14) (n := 48) (by decide) (by decide) (by decide) (by decide)
  replace CR := CR.trans CR3
  replace Z0 := Nat.le_trans Z0 E3.1
  replace K0 := K0.ext E3
  replace O0 := O0.ext E3
  replace E_a1 := E_a1.ext E3
  replace Fc_a1 := Fc_a1.ext E3
  replace Fv_a1 := Fv_a1.ext E3
  replace V_tx := V_tx.ext E3
  replace E_a1_ := E_a1_.ext E3
  replace Fc_a1_ := Fc_a1_.ext E3
  replace Fv_a1_ := Fv_a1_.ext E3
  replace V_b1_ := V_b1_.ext E3
  replace hZ := hZ3
  replace hown := ho3
  replace hS := hS3
  replace hk := hk3
  refine GoH.st (pc' := 16) (S' := [(.ref a3_), (.ref a1)]) st3 ?_
  obtain ⟨cq4, kq4, q4a, q4b, q4c⟩ := isOf hZ e3 E_a1
  obtain ⟨_, _, ⟨T4, L4, k4, n4⟩, -, X4, ⟨Lc4, hQ4, l4, y4, z4⟩, st4⟩ := X3.virtualBack hx (y := (⟨"java/lang/String", "equals", "(Ljava/lang/Object;)Z"⟩ : MethodName)) (z := (⟨"java/lang/String", "equals", "(Ljava/lang/Object;)Z"⟩ : MethodName)) hown (mvT hZ (wd hw 34 rfl)) (mvT hZ (wd hw 35 rfl)) (notFace_of_selects (args := #[]) (mvT hZ (wd hw 37 rfl))) (mvT hZ (wd hw 37 rfl)) (mvT hZ (wd hw 36 rfl)) (by decide) (backOf (W := 0) (rmseq l Z a0 hw [] a1 a3_ tx b3_ _ _ (X) (([(105 : Int32), (110 : Int32), (115 : Int32), (116 : Int32), (97 : Int32), (108 : Int32), (108 : Int32), (109 : Int32), (101 : Int32), (110 : Int32), (116 : Int32), (115 : Int32)] : List Int32)) (n) (12) gC h3 n0 Z0 SC PC O0 E_a1 Fc_a1 Fv_a1 V_tx E_a3_ Fc_a3_ Fv_a3_ V_b3_ hn13 (by decide)) hZ (wd hw 38 rfl) (wd hw 6 rfl) (by decide) (by decide)) q4a q4c (g := (mkF m 16 #[.val (.ref a1)] [(.ref a3_), (.ref a1)])) rfl (by rw [hml]; rfl) (Steps.refl _) (argsL := [(.ref a3_)]) (rest := []) (lenOf pd_10 rfl) rfl (by show 2 * 0 + _ ≤ _; exact Nat.le_of_eq rfl) (hb hby d6_16) (fun _ _ => ⟨rfl, e3, (by decide : 4 + 0 ≤ _), (by decide : 88 + 0 ≤ _)⟩)
  dsimp only [Pt.U, Pt.locs, Pt.cells, Pt.slots] at X4 l4 y4 z4 st4 hQ4
  subst l4 y4 z4
  obtain ⟨rfl, N4q, e4⟩ := hQ4
  have N4 := Fr.app N2 N4q
  refine GoH.tr (pc' := 19) (S' := [(.int (own_eq (X) (n) (([(105 : Int32), (110 : Int32), (115 : Int32), (116 : Int32), (97 : Int32), (108 : Int32), (108 : Int32), (109 : Int32), (101 : Int32), (110 : Int32), (116 : Int32), (115 : Int32)] : List Int32)) (12)))]) st4 ?_
  refine GoH.st (pc' := 26) (S' := []) (fun t_ k_ => XS.ifYes X4.here hx rfl (pc0 := 19) (pc' := 26) rfl (hb hby d6_19) rfl ((if0 _ _).trans (teq (hq1 : ((own_eq (X) (n) (([(105 : Int32), (110 : Int32), (115 : Int32), (116 : Int32), (97 : Int32), (108 : Int32), (108 : Int32), (109 : Int32), (101 : Int32), (110 : Int32), (116 : Int32), (115 : Int32)] : List Int32)) (12)) = (0 : Int32)))).1) (by decide) (by decide) k_) ?_
  refine GoH.st (pc' := 27) (S' := [(.ref a1)]) (fun t_ k_ => XS.aloadN X4.here hx rfl (hb hby d6_26) rfl rfl k_) ?_
  obtain ⟨a5_, T5, h5, k5, b5_, c5, X5, e5, E5, hS5, hk5, hZ5, ho5, E_a5_, Fc_a5_, Fv_a5_, V_b5_, lta5, ltb5, CR5, -, Sf5, st5⟩ := ldcCH X4 hx hZ hown (wd hw 46 rfl) (own_wS hw) e4 hS hk (own_EW hw) (by decide : ("com/example/vestry/vestry/io/PaymentFormNamedPinLaw", 11) ∈ EL) CR.1 (vs := [(.int (108 : Int32)), (.int (105 : Int32)), (.int (102 : Int32)), (.int (101 : Int32)), (.int (45 : Int32)), (.int (97 : Int32)), (.int (110 : Int32)), (.int (110 : Int32)), (.int (117 : Int32)), (.int (105 : Int32)), (.int (116 : Int32)), (.int (121 : Int32))]) (z := (12 : Int32)) ⟨by decide, by decide⟩ (by decide) rfl (g := (mkF m 27 #[.val (.ref a1)] [(.ref a1)])) rfl (hb hby d6_27) (n := 48) (by decide) (by decide) (by decide) (by decide)
  replace CR := CR.trans CR5
  replace Z0 := Nat.le_trans Z0 E5.1
  replace K0 := K0.ext E5
  replace O0 := O0.ext E5
  replace E_a1 := E_a1.ext E5
  replace Fc_a1 := Fc_a1.ext E5
  replace Fv_a1 := Fv_a1.ext E5
  replace V_tx := V_tx.ext E5
  replace E_a1_ := E_a1_.ext E5
  replace Fc_a1_ := Fc_a1_.ext E5
  replace Fv_a1_ := Fv_a1_.ext E5
  replace V_b1_ := V_b1_.ext E5
  replace E_a3_ := E_a3_.ext E5
  replace Fc_a3_ := Fc_a3_.ext E5
  replace Fv_a3_ := Fv_a3_.ext E5
  replace V_b3_ := V_b3_.ext E5
  replace hZ := hZ5
  replace hown := ho5
  replace hS := hS5
  replace hk := hk5
  refine GoH.st (pc' := 29) (S' := [(.ref a5_), (.ref a1)]) st5 ?_
  obtain ⟨cq6, kq6, q6a, q6b, q6c⟩ := isOf hZ e5 E_a1
  obtain ⟨_, _, ⟨T6, L6, k6, n6⟩, -, X6, ⟨Lc6, hQ6, l6, y6, z6⟩, st6⟩ := X5.virtualBack hx (y := (⟨"java/lang/String", "equals", "(Ljava/lang/Object;)Z"⟩ : MethodName)) (z := (⟨"java/lang/String", "equals", "(Ljava/lang/Object;)Z"⟩ : MethodName)) hown (mvT hZ (wd hw 34 rfl)) (mvT hZ (wd hw 35 rfl)) (notFace_of_selects (args := #[]) (mvT hZ (wd hw 37 rfl))) (mvT hZ (wd hw 37 rfl)) (mvT hZ (wd hw 36 rfl)) (by decide) (backOf (W := 0) (rmseq l Z a0 hw [] a1 a5_ tx b5_ _ _ (X) (([(108 : Int32), (105 : Int32), (102 : Int32), (101 : Int32), (45 : Int32), (97 : Int32), (110 : Int32), (110 : Int32), (117 : Int32), (105 : Int32), (116 : Int32), (121 : Int32)] : List Int32)) (n) (12) gC h5 n0 Z0 SC PC O0 E_a1 Fc_a1 Fv_a1 V_tx E_a5_ Fc_a5_ Fv_a5_ V_b5_ hn13 (by decide)) hZ (wd hw 38 rfl) (wd hw 6 rfl) (by decide) (by decide)) q6a q6c (g := (mkF m 29 #[.val (.ref a1)] [(.ref a5_), (.ref a1)])) rfl (by rw [hml]; rfl) (Steps.refl _) (argsL := [(.ref a5_)]) (rest := []) (lenOf pd_10 rfl) rfl (by show 2 * 0 + _ ≤ _; exact Nat.le_of_eq rfl) (hb hby d6_29) (fun _ _ => ⟨rfl, e5, (by decide : 6 + 0 ≤ _), (by decide : 140 + 0 ≤ _)⟩)
  dsimp only [Pt.U, Pt.locs, Pt.cells, Pt.slots] at X6 l6 y6 z6 st6 hQ6
  subst l6 y6 z6
  obtain ⟨rfl, N6q, e6⟩ := hQ6
  have N6 := Fr.app N4 N6q
  refine GoH.tr (pc' := 32) (S' := [(.int (own_eq (X) (n) (([(108 : Int32), (105 : Int32), (102 : Int32), (101 : Int32), (45 : Int32), (97 : Int32), (110 : Int32), (110 : Int32), (117 : Int32), (105 : Int32), (116 : Int32), (121 : Int32)] : List Int32)) (12)))]) st6 ?_
  refine GoH.st (pc' := 35) (S' := []) (fun t_ k_ => XS.ifNo X6.here hx rfl (hb hby d6_32) rfl ((if0 _ _).trans (feq (by rw [hq2]; decide : ¬ ((own_eq (X) (n) (([(108 : Int32), (105 : Int32), (102 : Int32), (101 : Int32), (45 : Int32), (97 : Int32), (110 : Int32), (110 : Int32), (117 : Int32), (105 : Int32), (116 : Int32), (121 : Int32)] : List Int32)) (12)) = (0 : Int32)))).1) k_) ?_
  obtain ⟨T7, X7, e7, st7⟩ := getS2 X6 hx hZ hown (host := "") (Or.inl (wd hw 154 rfl)) Via.refl e6 (S2.ext O0.2) (g := (mkF m 35 #[.val (.ref a1)] [])) rfl (hb hby d6_35)
  refine GoH.st (pc' := 38) (S' := [(.ref f2)]) st7 ?_
  exact GoH.retO X7 hx hlk hret rfl (by simp [FieldType.isReference, Value.isRef]) (hb hby d6_38) (by decide) (by decide) hS hk e7 hs0 hZ (own_EW hw) CR (by rw [e7]; exact ⟨rfl, N6, K0⟩)
theorem d6_39 : decode method_5_code 39 = .ok (.aconst_null, 1) := by decide +kernel
theorem d6_40 : decode method_5_code 40 = .ok (.areturn, 1) := by decide +kernel
def Qexp3 (Z : State) (f0 f1 f2 : Addr) (h0 : Heap) (n0 : Nat) (v : Option Value) (h : Heap) (L : List Loc) : Prop := v = some .null ∧ Fr n0 L ∧ Keep h0 h []
def roomexp3 : Room := { frames := 2, cells := 6, slots := 140, locals := 28 }
theorem rmexp3 (l : Launch) (Z : State) (a0 : Array Value) (hw : ∀ d ∈ tables_1, d.before a0 Z = true) (ws : List Jvm.Cond) (a1 tx : Addr) (kx : ClassId) (X : List Int32) (n : Nat) (f0 f1 f2 va em : Addr) (gC : Int32) (h0 : Heap) (n0 : Nat) (Z0 : n0 ≤ h0.size) (SC : Sta Z Z.heap "java/lang/String" "COMPACT_STRINGS" "Z" (.int gC)) (PC : ¬ (gC = (0 : Int32))) (O0 : Old Z n0 h0) (S0 : Sta Z Z.heap "com/example/vestry/vestry/io/PaymentForm" "LUMP_SUM" "Lcom/example/vestry/vestry/io/PaymentForm;" (.ref f0)) (S1 : Sta Z Z.heap "com/example/vestry/vestry/io/PaymentForm" "INSTALLMENTS" "Lcom/example/vestry/vestry/io/PaymentForm;" (.ref f1)) (S2 : Sta Z Z.heap "com/example/vestry/vestry/io/PaymentForm" "LIFE_ANNUITY" "Lcom/example/vestry/vestry/io/PaymentForm;" (.ref f2)) (SV : Sta Z Z.heap "com/example/vestry/vestry/io/PaymentForm" "$VALUES" "[Lcom/example/vestry/vestry/io/PaymentForm;" (.ref va)) (SE : Sta Z Z.heap "java/util/Optional" "EMPTY" "Ljava/util/Optional;" (.ref em)) (E_a1 : Exa Z h0 a1 "java/lang/String") (Fc_a1 : Fld Z h0 a1 "java/lang/String" "coder" "B" (.int (0 : Int32))) (Fv_a1 : Fld Z h0 a1 "java/lang/String" "value" "[B" (.ref tx)) (V_tx : Arv Z h0 tx kx .byte (n.toInt32) (X.map Value.int) (.int (0 : Int32))) (hn13 : n ≤ 13) (hq0 : own_eq X n ([108, 117, 109, 112, 45, 115, 117, 109] : List Int32) 8 = 0) (hq1 : own_eq X n ([105, 110, 115, 116, 97, 108, 108, 109, 101, 110, 116, 115] : List Int32) 12 = 0) (hq2 : own_eq X n ([108, 105, 102, 101, 45, 97, 110, 110, 117, 105, 116, 121] : List Int32) 12 = 0) :
    MetFree l (⟨"com/example/vestry/vestry/io/PaymentFormNamedPinLaw", "expected", "(Ljava/lang/String;)Lcom/example/vestry/vestry/io/PaymentForm;"⟩ : MethodName) (head1 (Jvm.Cond.code (⟨"com/example/vestry/vestry/io/PaymentFormNamedPinLaw", "expected", "(Ljava/lang/String;)Lcom/example/vestry/vestry/io/PaymentForm;"⟩ : MethodName) method_5_code 1 (some (.object "com/example/vestry/vestry/io/PaymentForm")) :: ws) roomexp3) (fun aa_ U_ => aa_ = #[(.ref a1)] ∧ Z.Warmed39 U_.vm ∧ U_.heap = h0 ∧ CHv Z EL U_.vm h0) (fun _ _ _ _ _ => True) (fun _ U_ o_ W_ => ∃ v_ L_, o_ = .returned v_ ∧ (Qexp3 Z f0 f1 f2 h0 n0) v_ W_.heap L_ ∧ CHr Z EL U_.vm U_.heap W_.vm W_.heap ∧ ReturnedEndW U_ o_ W_ L_ roomexp3.cells roomexp3.slots) := by
  refine own_metH (Q := (Qexp3 Z f0 f1 f2 h0 n0)) (L0 := #[.val (.ref a1)]) (plainFor_of_name pn_3) (fun m => by first | (simp [entryFrame, mkF, argsToLocals, Value.category]; done) | rfl) ?_
  intro p e s m below meth c T0 X0 hx hby hml hown hnm hret hlk hZ e0 hs0 CR hS hk
  have N0 := Fr.nil n0
  have K0 := Keep.refl h0 []
  refine GoH.st (pc' := 1) (S' := [(.ref a1)]) (fun t_ k_ => XS.aloadN X0.here hx rfl (hb hby d6_0) rfl rfl k_) ?_
  obtain ⟨a1_, T1, h1, k1, b1_, c1, X1, e1, E1, hS1, hk1, hZ1, ho1, E_a1_, Fc_a1_, Fv_a1_, V_b1_, lta1, ltb1, CR1, -, Sf1, st1⟩ := ldcCH X0 hx hZ hown (wd hw 5 rfl) (own_wS hw) e0 hS hk (own_EW hw) (by decide : ("com/example/vestry/vestry/io/PaymentFormNamedPinLaw", 7) ∈ EL) CR.1 (vs := [(.int (108 : Int32)), (.int (117 : Int32)), (.int (109 : Int32)), (.int (112 : Int32)), (.int (45 : Int32)), (.int (115 : Int32)), (.int (117 : Int32)), (.int (109 : Int32))]) (z := (8 : Int32)) ⟨by decide, by decide⟩ (by decide) rfl (g := (mkF m 1 #[.val (.ref a1)] [(.ref a1)])) rfl (hb hby d6_1) (n := 32) (by decide) (by decide) (by decide) (by decide)
  replace CR := CR.trans CR1
  replace Z0 := Nat.le_trans Z0 E1.1
  replace K0 := K0.ext E1
  replace O0 := O0.ext E1
  replace E_a1 := E_a1.ext E1
  replace Fc_a1 := Fc_a1.ext E1
  replace Fv_a1 := Fv_a1.ext E1
  replace V_tx := V_tx.ext E1
  replace hZ := hZ1
  replace hown := ho1
  replace hS := hS1
  replace hk := hk1
  refine GoH.st (pc' := 3) (S' := [(.ref a1_), (.ref a1)]) st1 ?_
  obtain ⟨cq2, kq2, q2a, q2b, q2c⟩ := isOf hZ e1 E_a1
  obtain ⟨_, _, ⟨T2, L2, k2, n2⟩, -, X2, ⟨Lc2, hQ2, l2, y2, z2⟩, st2⟩ := X1.virtualBack hx (y := (⟨"java/lang/String", "equals", "(Ljava/lang/Object;)Z"⟩ : MethodName)) (z := (⟨"java/lang/String", "equals", "(Ljava/lang/Object;)Z"⟩ : MethodName)) hown (mvT hZ (wd hw 34 rfl)) (mvT hZ (wd hw 35 rfl)) (notFace_of_selects (args := #[]) (mvT hZ (wd hw 37 rfl))) (mvT hZ (wd hw 37 rfl)) (mvT hZ (wd hw 36 rfl)) (by decide) (backOf (W := 0) (rmseq l Z a0 hw [] a1 a1_ tx b1_ _ _ (X) (([(108 : Int32), (117 : Int32), (109 : Int32), (112 : Int32), (45 : Int32), (115 : Int32), (117 : Int32), (109 : Int32)] : List Int32)) (n) (8) gC h1 n0 Z0 SC PC O0 E_a1 Fc_a1 Fv_a1 V_tx E_a1_ Fc_a1_ Fv_a1_ V_b1_ hn13 (by decide)) hZ (wd hw 38 rfl) (wd hw 6 rfl) (by decide) (by decide)) q2a q2c (g := (mkF m 3 #[.val (.ref a1)] [(.ref a1_), (.ref a1)])) rfl (by rw [hml]; rfl) (Steps.refl _) (argsL := [(.ref a1_)]) (rest := []) (lenOf pd_10 rfl) rfl (by show 2 * 0 + _ ≤ _; exact Nat.le_of_eq rfl) (hb hby d6_3) (fun _ _ => ⟨rfl, e1, (by decide : 2 + 0 ≤ _), (by decide : 36 + 0 ≤ _)⟩)
  dsimp only [Pt.U, Pt.locs, Pt.cells, Pt.slots] at X2 l2 y2 z2 st2 hQ2
  subst l2 y2 z2
  obtain ⟨rfl, N2q, e2⟩ := hQ2
  have N2 := Fr.app N0 N2q
  refine GoH.tr (pc' := 6) (S' := [(.int (own_eq (X) (n) (([(108 : Int32), (117 : Int32), (109 : Int32), (112 : Int32), (45 : Int32), (115 : Int32), (117 : Int32), (109 : Int32)] : List Int32)) (8)))]) st2 ?_
  refine GoH.st (pc' := 13) (S' := []) (fun t_ k_ => XS.ifYes X2.here hx rfl (pc0 := 6) (pc' := 13) rfl (hb hby d6_6) rfl ((if0 _ _).trans (teq (hq0 : ((own_eq (X) (n) (([(108 : Int32), (117 : Int32), (109 : Int32), (112 : Int32), (45 : Int32), (115 : Int32), (117 : Int32), (109 : Int32)] : List Int32)) (8)) = (0 : Int32)))).1) (by decide) (by decide) k_) ?_
  refine GoH.st (pc' := 14) (S' := [(.ref a1)]) (fun t_ k_ => XS.aloadN X2.here hx rfl (hb hby d6_13) rfl rfl k_) ?_
  obtain ⟨a3_, T3, h3, k3, b3_, c3, X3, e3, E3, hS3, hk3, hZ3, ho3, E_a3_, Fc_a3_, Fv_a3_, V_b3_, lta3, ltb3, CR3, -, Sf3, st3⟩ := ldcCH X2 hx hZ hown (wd hw 45 rfl) (own_wS hw) e2 hS hk (own_EW hw) (by decide : ("com/example/vestry/vestry/io/PaymentFormNamedPinLaw", 9) ∈ EL) CR.1 (vs := [(.int (105 : Int32)), (.int (110 : Int32)), (.int (115 : Int32)), (.int (116 : Int32)), (.int (97 : Int32)), (.int (108 : Int32)), (.int (108 : Int32)), (.int (109 : Int32)), (.int (101 : Int32)), (.int (110 : Int32)), (.int (116 : Int32)), (.int (115 : Int32))]) (z := (12 : Int32)) ⟨by decide, by decide⟩ (by decide) rfl (g := (mkF m 14 #[.val (.ref a1)] [(.ref a1)])) rfl (hb hby d6_14) (n := 48) (by decide) (by decide) (by decide) (by decide)
  replace CR := CR.trans CR3
  replace Z0 := Nat.le_trans Z0 E3.1
  replace K0 := K0.ext E3
  replace O0 := O0.ext E3
  replace E_a1 := E_a1.ext E3
  replace Fc_a1 := Fc_a1.ext E3
  replace Fv_a1 := Fv_a1.ext E3
  replace V_tx := V_tx.ext E3
  replace E_a1_ := E_a1_.ext E3
  replace Fc_a1_ := Fc_a1_.ext E3
  replace Fv_a1_ := Fv_a1_.ext E3
  replace V_b1_ := V_b1_.ext E3
  replace hZ := hZ3
  replace hown := ho3
  replace hS := hS3
  replace hk := hk3
  refine GoH.st (pc' := 16) (S' := [(.ref a3_), (.ref a1)]) st3 ?_
  obtain ⟨cq4, kq4, q4a, q4b, q4c⟩ := isOf hZ e3 E_a1
  obtain ⟨_, _, ⟨T4, L4, k4, n4⟩, -, X4, ⟨Lc4, hQ4, l4, y4, z4⟩, st4⟩ := X3.virtualBack hx (y := (⟨"java/lang/String", "equals", "(Ljava/lang/Object;)Z"⟩ : MethodName)) (z := (⟨"java/lang/String", "equals", "(Ljava/lang/Object;)Z"⟩ : MethodName)) hown (mvT hZ (wd hw 34 rfl)) (mvT hZ (wd hw 35 rfl)) (notFace_of_selects (args := #[]) (mvT hZ (wd hw 37 rfl))) (mvT hZ (wd hw 37 rfl)) (mvT hZ (wd hw 36 rfl)) (by decide) (backOf (W := 0) (rmseq l Z a0 hw [] a1 a3_ tx b3_ _ _ (X) (([(105 : Int32), (110 : Int32), (115 : Int32), (116 : Int32), (97 : Int32), (108 : Int32), (108 : Int32), (109 : Int32), (101 : Int32), (110 : Int32), (116 : Int32), (115 : Int32)] : List Int32)) (n) (12) gC h3 n0 Z0 SC PC O0 E_a1 Fc_a1 Fv_a1 V_tx E_a3_ Fc_a3_ Fv_a3_ V_b3_ hn13 (by decide)) hZ (wd hw 38 rfl) (wd hw 6 rfl) (by decide) (by decide)) q4a q4c (g := (mkF m 16 #[.val (.ref a1)] [(.ref a3_), (.ref a1)])) rfl (by rw [hml]; rfl) (Steps.refl _) (argsL := [(.ref a3_)]) (rest := []) (lenOf pd_10 rfl) rfl (by show 2 * 0 + _ ≤ _; exact Nat.le_of_eq rfl) (hb hby d6_16) (fun _ _ => ⟨rfl, e3, (by decide : 4 + 0 ≤ _), (by decide : 88 + 0 ≤ _)⟩)
  dsimp only [Pt.U, Pt.locs, Pt.cells, Pt.slots] at X4 l4 y4 z4 st4 hQ4
  subst l4 y4 z4
  obtain ⟨rfl, N4q, e4⟩ := hQ4
  have N4 := Fr.app N2 N4q
  refine GoH.tr (pc' := 19) (S' := [(.int (own_eq (X) (n) (([(105 : Int32), (110 : Int32), (115 : Int32), (116 : Int32), (97 : Int32), (108 : Int32), (108 : Int32), (109 : Int32), (101 : Int32), (110 : Int32), (116 : Int32), (115 : Int32)] : List Int32)) (12)))]) st4 ?_
  refine GoH.st (pc' := 26) (S' := []) (fun t_ k_ => XS.ifYes X4.here hx rfl (pc0 := 19) (pc' := 26) rfl (hb hby d6_19) rfl ((if0 _ _).trans (teq (hq1 : ((own_eq (X) (n) (([(105 : Int32), (110 : Int32), (115 : Int32), (116 : Int32), (97 : Int32), (108 : Int32), (108 : Int32), (109 : Int32), (101 : Int32), (110 : Int32), (116 : Int32), (115 : Int32)] : List Int32)) (12)) = (0 : Int32)))).1) (by decide) (by decide) k_) ?_
  refine GoH.st (pc' := 27) (S' := [(.ref a1)]) (fun t_ k_ => XS.aloadN X4.here hx rfl (hb hby d6_26) rfl rfl k_) ?_
  obtain ⟨a5_, T5, h5, k5, b5_, c5, X5, e5, E5, hS5, hk5, hZ5, ho5, E_a5_, Fc_a5_, Fv_a5_, V_b5_, lta5, ltb5, CR5, -, Sf5, st5⟩ := ldcCH X4 hx hZ hown (wd hw 46 rfl) (own_wS hw) e4 hS hk (own_EW hw) (by decide : ("com/example/vestry/vestry/io/PaymentFormNamedPinLaw", 11) ∈ EL) CR.1 (vs := [(.int (108 : Int32)), (.int (105 : Int32)), (.int (102 : Int32)), (.int (101 : Int32)), (.int (45 : Int32)), (.int (97 : Int32)), (.int (110 : Int32)), (.int (110 : Int32)), (.int (117 : Int32)), (.int (105 : Int32)), (.int (116 : Int32)), (.int (121 : Int32))]) (z := (12 : Int32)) ⟨by decide, by decide⟩ (by decide) rfl (g := (mkF m 27 #[.val (.ref a1)] [(.ref a1)])) rfl (hb hby d6_27) (n := 48) (by decide) (by decide) (by decide) (by decide)
  replace CR := CR.trans CR5
  replace Z0 := Nat.le_trans Z0 E5.1
  replace K0 := K0.ext E5
  replace O0 := O0.ext E5
  replace E_a1 := E_a1.ext E5
  replace Fc_a1 := Fc_a1.ext E5
  replace Fv_a1 := Fv_a1.ext E5
  replace V_tx := V_tx.ext E5
  replace E_a1_ := E_a1_.ext E5
  replace Fc_a1_ := Fc_a1_.ext E5
  replace Fv_a1_ := Fv_a1_.ext E5
  replace V_b1_ := V_b1_.ext E5
  replace E_a3_ := E_a3_.ext E5
  replace Fc_a3_ := Fc_a3_.ext E5
  replace Fv_a3_ := Fv_a3_.ext E5
  replace V_b3_ := V_b3_.ext E5
  replace hZ := hZ5
  replace hown := ho5
  replace hS := hS5
  replace hk := hk5
  refine GoH.st (pc' := 29) (S' := [(.ref a5_), (.ref a1)]) st5 ?_
  obtain ⟨cq6, kq6, q6a, q6b, q6c⟩ := isOf hZ e5 E_a1
  obtain ⟨_, _, ⟨T6, L6, k6, n6⟩, -, X6, ⟨Lc6, hQ6, l6, y6, z6⟩, st6⟩ := X5.virtualBack hx (y := (⟨"java/lang/String", "equals", "(Ljava/lang/Object;)Z"⟩ : MethodName)) (z := (⟨"java/lang/String", "equals", "(Ljava/lang/Object;)Z"⟩ : MethodName)) hown (mvT hZ (wd hw 34 rfl)) (mvT hZ (wd hw 35 rfl)) (notFace_of_selects (args := #[]) (mvT hZ (wd hw 37 rfl))) (mvT hZ (wd hw 37 rfl)) (mvT hZ (wd hw 36 rfl)) (by decide) (backOf (W := 0) (rmseq l Z a0 hw [] a1 a5_ tx b5_ _ _ (X) (([(108 : Int32), (105 : Int32), (102 : Int32), (101 : Int32), (45 : Int32), (97 : Int32), (110 : Int32), (110 : Int32), (117 : Int32), (105 : Int32), (116 : Int32), (121 : Int32)] : List Int32)) (n) (12) gC h5 n0 Z0 SC PC O0 E_a1 Fc_a1 Fv_a1 V_tx E_a5_ Fc_a5_ Fv_a5_ V_b5_ hn13 (by decide)) hZ (wd hw 38 rfl) (wd hw 6 rfl) (by decide) (by decide)) q6a q6c (g := (mkF m 29 #[.val (.ref a1)] [(.ref a5_), (.ref a1)])) rfl (by rw [hml]; rfl) (Steps.refl _) (argsL := [(.ref a5_)]) (rest := []) (lenOf pd_10 rfl) rfl (by show 2 * 0 + _ ≤ _; exact Nat.le_of_eq rfl) (hb hby d6_29) (fun _ _ => ⟨rfl, e5, (by decide : 6 + 0 ≤ _), (by decide : 140 + 0 ≤ _)⟩)
  dsimp only [Pt.U, Pt.locs, Pt.cells, Pt.slots] at X6 l6 y6 z6 st6 hQ6
  subst l6 y6 z6
  obtain ⟨rfl, N6q, e6⟩ := hQ6
  have N6 := Fr.app N4 N6q
  refine GoH.tr (pc' := 32) (S' := [(.int (own_eq (X) (n) (([(108 : Int32), (105 : Int32), (102 : Int32), (101 : Int32), (45 : Int32), (97 : Int32), (110 : Int32), (110 : Int32), (117 : Int32), (105 : Int32), (116 : Int32), (121 : Int32)] : List Int32)) (12)))]) st6 ?_
  refine GoH.st (pc' := 39) (S' := []) (fun t_ k_ => XS.ifYes X6.here hx rfl (pc0 := 32) (pc' := 39) rfl (hb hby d6_32) rfl ((if0 _ _).trans (teq (hq2 : ((own_eq (X) (n) (([(108 : Int32), (105 : Int32), (102 : Int32), (101 : Int32), (45 : Int32), (97 : Int32), (110 : Int32), (110 : Int32), (117 : Int32), (105 : Int32), (116 : Int32), (121 : Int32)] : List Int32)) (12)) = (0 : Int32)))).1) (by decide) (by decide) k_) ?_
  refine GoH.st (pc' := 40) (S' := [.null]) (fun t_ k_ => XS.aconstNull X6.here hx rfl (hb hby d6_39) k_) ?_
  exact GoH.retO X6 hx hlk hret rfl (by simp [FieldType.isReference, Value.isRef]) (hb hby d6_40) (by decide) (by decide) hS hk e6 hs0 hZ (own_EW hw) CR (by rw [e6]; exact ⟨rfl, N6, K0⟩)
theorem d10_0 : decode prog_47_method_1_code 0 = .ok (.getstatic 13, 3) := by decide +kernel
theorem d10_3 : decode prog_47_method_1_code 3 = .ok (.invokevirtual 17, 3) := by decide +kernel
theorem d10_6 : decode prog_47_method_1_code 6 = .ok (.checkcast 18, 3) := by decide +kernel
theorem d10_9 : decode prog_47_method_1_code 9 = .ok (.areturn, 1) := by decide +kernel
theorem pn_4 : plainName "com/example/vestry/vestry/io/PaymentForm" = true := by first | (simp [plainName, overriddenIn]; done) | decide +kernel
def Qvals (Z : State) (f0 f1 f2 : Addr) (h0 : Heap) (n0 : Nat) (v : Option Value) (h : Heap) (L : List Loc) : Prop := ∃ (b : Addr) (kb : ClassId), v = some (.ref b) ∧ Fr n0 L ∧ Keep h0 h [] ∧ n0 ≤ b ∧ h0.size ≤ b ∧ Arv Z h b kb (.object "com/example/vestry/vestry/io/PaymentForm") (3 : Int32) [.ref f0, .ref f1, .ref f2] .null
def roomvals : Room := { frames := 1, cells := 1, slots := 3, locals := 14 }
theorem rmvals (l : Launch) (Z : State) (a0 : Array Value) (hw : ∀ d ∈ tables_1, d.before a0 Z = true) (ws : List Jvm.Cond) (va f0 f1 f2 ty0 ty1 ty2 u0 u1 u2 : Addr) (kva kv0 kv1 kv2 : ClassId) (em : Addr) (h0 : Heap) (n0 : Nat) (Z0 : n0 ≤ h0.size) (O0 : Old Z n0 h0) (S0 : Sta Z Z.heap "com/example/vestry/vestry/io/PaymentForm" "LUMP_SUM" "Lcom/example/vestry/vestry/io/PaymentForm;" (.ref f0)) (S1 : Sta Z Z.heap "com/example/vestry/vestry/io/PaymentForm" "INSTALLMENTS" "Lcom/example/vestry/vestry/io/PaymentForm;" (.ref f1)) (S2 : Sta Z Z.heap "com/example/vestry/vestry/io/PaymentForm" "LIFE_ANNUITY" "Lcom/example/vestry/vestry/io/PaymentForm;" (.ref f2)) (SV : Sta Z Z.heap "com/example/vestry/vestry/io/PaymentForm" "$VALUES" "[Lcom/example/vestry/vestry/io/PaymentForm;" (.ref va)) (SE : Sta Z Z.heap "java/util/Optional" "EMPTY" "Ljava/util/Optional;" (.ref em)) (pf : own_PF Z va f0 f1 f2 ty0 ty1 ty2 u0 u1 u2 kva kv0 kv1 kv2) :
    MetFree l (⟨"com/example/vestry/vestry/io/PaymentForm", "values", "()[Lcom/example/vestry/vestry/io/PaymentForm;"⟩ : MethodName) (head1 (Jvm.Cond.code (⟨"com/example/vestry/vestry/io/PaymentForm", "values", "()[Lcom/example/vestry/vestry/io/PaymentForm;"⟩ : MethodName) prog_47_method_1_code 0 (some (.array (.object "com/example/vestry/vestry/io/PaymentForm"))) :: ws) roomvals) (fun aa_ U_ => aa_ = #[] ∧ Z.Warmed39 U_.vm ∧ U_.heap = h0) (fun _ _ _ _ _ => True) (fun _ U_ o_ W_ => ∃ v_ L_, o_ = .returned v_ ∧ (Qvals Z f0 f1 f2 h0 n0) v_ W_.heap L_ ∧ FrameEnd U_ o_ W_ L_ roomvals.cells roomvals.slots) := by
  refine own_met (Q := (Qvals Z f0 f1 f2 h0 n0)) (L0 := #[]) (plainFor_of_name pn_4) (fun m => by first | (simp [entryFrame, mkF, argsToLocals, Value.category]; done) | rfl) ?_
  intro p e s m below meth c T0 X0 hx hby hml hown hnm hret hlk hZ e0
  have N0 := Fr.nil n0
  obtain ⟨E_va, V_va, E_f0, F_f0, E_ty0, Fc_ty0, Fv_ty0, V_u0, E_f1, F_f1, E_ty1, Fc_ty1, Fv_ty1, V_u1, E_f2, F_f2, E_ty2, Fc_ty2, Fv_ty2, V_u2⟩ := id pf
  have K0 := Keep.refl h0 []
  obtain ⟨T1, X1, e1, st1⟩ := getS2 X0 hx hZ hown (host := "") (Or.inl (wd hw 54 rfl)) Via.refl e0 (SV.ext O0.2) (g := (mkF m 0 #[] [])) rfl (hb hby d10_0)
  refine Go.st (pc' := 3) (S' := [(.ref va)]) st1 ?_
  obtain ⟨cl2, Ar2, q21, q22, q23, q24, q25⟩ := Arv.ext V_va O0.2
  obtain ⟨T2, h2, X2, e2, E2, A2, D2, st2⟩ := cloneA X1 hx hZ hown (wd hw 56 rfl) (wd hw 57 rfl) (wd hw 61 rfl) (wd hw 59 rfl) (wd hw 60 rfl) (wd hw 62 rfl) e1 Ar2 (Exa.ext O0.2 E_va) (fitC_of Ar2 fun i hi v hv => by rw [q24 i hi] at hv; cases hv; exact q25 i hi) (g := (mkF m 3 #[] [(.ref va)])) rfl (by rw [hml]; rfl) rfl (hb hby d10_3) (by decide) (W := 0) (by show 2 * 0 + _ ≤ _; exact Nat.le_of_eq rfl) (by decide) (cap := 3) (by rw [q22]; decide) (by decide) (by decide)
  obtain ⟨b2, g2⟩ : ∃ z, z = h0.size := ⟨_, rfl⟩
  rw [← g2] at A2 D2 st2
  have g_b2 : n0 ≤ b2 := Nat.le_trans Z0 (Nat.le_of_eq g2.symm)
  have sz_b2 : h0.size ≤ b2 := Nat.le_trans K0.1 (Nat.le_of_eq g2.symm)
  replace Z0 := Nat.le_trans Z0 E2.1
  replace K0 := K0.ext E2
  replace O0 := O0.ext E2
  have V_b2 : Arv Z h2 b2 _ (.object "com/example/vestry/vestry/io/PaymentForm") (3 : Int32) [.ref f0, .ref f1, .ref f2] .null := ⟨_, A2, q21, q22, q23, q24, q25⟩
  have E_b2 := D2
  refine Go.st (pc' := 6) (S' := [(.ref b2)]) st2 ?_
  obtain ⟨T3, X3, e3, st3⟩ := castY X2 hx hZ hown (wd hw 67 rfl) e2 (Ins.self E_b2) (g := (mkF m 6 #[] [(.ref b2)])) rfl rfl (hb hby d10_6)
  refine Go.st (pc' := 9) (S' := [(.ref b2)]) st3 ?_
  exact Go.retO X3 hx hlk hret rfl (by simp [FieldType.isReference, Value.isRef]) (hb hby d10_9) (by decide) (by decide) (by rw [e3]; exact ⟨b2, _, rfl, N0, K0, g_b2, sz_b2, V_b2⟩)
theorem d25_0 : decode jdk_31_method_10_code 0 = .ok (.aload_n 0, 1) := by decide +kernel
theorem d25_1 : decode jdk_31_method_10_code 1 = .ok (.ifnonnull 11, 3) := by decide +kernel
theorem d25_12 : decode jdk_31_method_10_code 12 = .ok (.aload_n 0, 1) := by decide +kernel
theorem d25_13 : decode jdk_31_method_10_code 13 = .ok (.areturn, 1) := by decide +kernel
theorem pn_5 : plainName "java/util/Objects" = true := by first | (simp [plainName, overriddenIn]; done) | decide +kernel
def Q25 (Z : State) (x1 : Addr) (h0 : Heap) (n0 : Nat) (v : Option Value) (h : Heap) (L : List Loc) : Prop := v = some (.ref x1) ∧ Fr n0 L ∧ h = h0
def room25 : Room := { frames := 0, cells := 0, slots := 0, locals := 0 }
theorem rm25 (l : Launch) (Z : State) (a0 : Array Value) (hw : ∀ d ∈ tables_1, d.before a0 Z = true) (ws : List Jvm.Cond) (x1 : Addr) (h0 : Heap) (n0 : Nat) (Z0 : n0 ≤ h0.size)  :
    MetFree l (⟨"java/util/Objects", "requireNonNull", "(Ljava/lang/Object;)Ljava/lang/Object;"⟩ : MethodName) (head1 (Jvm.Cond.code (⟨"java/util/Objects", "requireNonNull", "(Ljava/lang/Object;)Ljava/lang/Object;"⟩ : MethodName) jdk_31_method_10_code 1 (some (.object "java/lang/Object")) :: ws) room25) (fun aa_ U_ => aa_ = #[(.ref x1)] ∧ Z.Warmed39 U_.vm ∧ U_.heap = h0) (fun _ _ _ _ _ => True) (fun _ U_ o_ W_ => ∃ v_ L_, o_ = .returned v_ ∧ (Q25 Z x1 h0 n0) v_ W_.heap L_ ∧ FrameEnd U_ o_ W_ L_ room25.cells room25.slots) := by
  refine own_met (Q := (Q25 Z x1 h0 n0)) (L0 := #[.val (.ref x1)]) (plainFor_of_name pn_5) (fun m => by first | (simp [entryFrame, mkF, argsToLocals, Value.category]; done) | rfl) ?_
  intro p e s m below meth c T0 X0 hx hby hml hown hnm hret hlk hZ e0
  have N0 := Fr.nil n0
  refine Go.st (pc' := 1) (S' := [(.ref x1)]) (fun t_ k_ => XS.aloadN X0.here hx rfl (hb hby d25_0) rfl rfl k_) ?_
  refine Go.st (pc' := 12) (S' := []) (fun t_ k_ => XS.ifnonnullYes X0.here hx rfl (pc0 := 1) (pc' := 12) rfl (hb hby d25_1) rfl (by decide) (by decide) k_) ?_
  refine Go.st (pc' := 13) (S' := [(.ref x1)]) (fun t_ k_ => XS.aloadN X0.here hx rfl (hb hby d25_12) rfl rfl k_) ?_
  exact Go.retO X0 hx hlk hret rfl (by simp [FieldType.isReference, Value.isRef]) (hb hby d25_13) (by decide) (by decide) (by rw [e0]; exact ⟨rfl, N0, rfl⟩)
theorem d26_0 : decode jdk_32_method_2_code 0 = .ok (.aload_n 0, 1) := by decide +kernel
theorem d26_1 : decode jdk_32_method_2_code 1 = .ok (.invokespecial 7, 3) := by decide +kernel
theorem d26_4 : decode jdk_32_method_2_code 4 = .ok (.aload_n 0, 1) := by decide +kernel
theorem d26_5 : decode jdk_32_method_2_code 5 = .ok (.aload_n 1, 1) := by decide +kernel
theorem d26_6 : decode jdk_32_method_2_code 6 = .ok (.putfield 13, 3) := by decide +kernel
theorem d26_9 : decode jdk_32_method_2_code 9 = .ok (.return_, 1) := by decide +kernel
theorem pn_6 : plainName "java/util/Optional" = true := by first | (simp [plainName, overriddenIn]; done) | decide +kernel
def Q26 (Z : State) (a1 : Addr) (x1 : Addr) (h0 : Heap) (n0 : Nat) (v : Option Value) (h : Heap) (L : List Loc) : Prop := v = none ∧ Fr n0 L ∧ Keep h0 h [a1] ∧ Fld Z h a1 "java/util/Optional" "value" "Ljava/lang/Object;" (.ref x1)
def room26 : Room := { frames := 1, cells := 0, slots := 0, locals := 12 }
theorem rm26 (l : Launch) (Z : State) (a0 : Array Value) (hw : ∀ d ∈ tables_1, d.before a0 Z = true) (ws : List Jvm.Cond) (a1 : Addr) (x1 : Addr) (h0 : Heap) (n0 : Nat) (Z0 : n0 ≤ h0.size) (E_a1 : Exa Z h0 a1 "java/util/Optional") (g_a1 : n0 ≤ a1) (F_value : Fld Z h0 a1 "java/util/Optional" "value" "Ljava/lang/Object;" .null) :
    MetFree l (⟨"java/util/Optional", "<init>", "(Ljava/lang/Object;)V"⟩ : MethodName) (head1 (Jvm.Cond.code (⟨"java/util/Optional", "<init>", "(Ljava/lang/Object;)V"⟩ : MethodName) jdk_32_method_2_code 2 none :: ws) room26) (fun aa_ U_ => aa_ = #[(.ref a1), (.ref x1)] ∧ Z.Warmed39 U_.vm ∧ U_.heap = h0) (fun _ _ _ _ _ => True) (fun _ U_ o_ W_ => ∃ v_ L_, o_ = .returned v_ ∧ (Q26 Z a1 x1 h0 n0) v_ W_.heap L_ ∧ FrameEnd U_ o_ W_ L_ room26.cells room26.slots) := by
  refine own_met (Q := (Q26 Z a1 x1 h0 n0)) (L0 := #[.val (.ref a1), .val (.ref x1)]) (plainFor_of_name pn_6) (fun m => by first | (simp [entryFrame, mkF, argsToLocals, Value.category]; done) | rfl) ?_
  intro p e s m below meth c T0 X0 hx hby hml hown hnm hret hlk hZ e0
  have N0 := Fr.nil n0
  have K0 := Keep.refl h0 [a1]
  refine Go.st (pc' := 1) (S' := [(.ref a1)]) (fun t_ k_ => XS.aloadN X0.here hx rfl (hb hby d26_0) rfl rfl k_) ?_
  obtain ⟨T1, X1, e1, st1⟩ := initO X0 hx hZ hown (wd hw 142 rfl) (wd hw 26 rfl) (wd hw 27 rfl) e0 (g := (mkF m 1 #[.val (.ref a1), .val (.ref x1)] [(.ref a1)])) rfl (by rw [hml]; rfl) rfl (hb hby d26_1) (by decide) (W := 0) (by show 2 * 0 + _ ≤ _; exact Nat.le_of_eq rfl) (by decide)
  refine Go.st (pc' := 4) (S' := []) st1 ?_
  refine Go.st (pc' := 5) (S' := [(.ref a1)]) (fun t_ k_ => XS.aloadN X1.here hx rfl (hb hby d26_4) rfl rfl k_) ?_
  refine Go.st (pc' := 6) (S' := [(.ref x1), (.ref a1)]) (fun t_ k_ => XS.aloadN X1.here hx rfl (hb hby d26_5) rfl rfl k_) ?_
  obtain ⟨T2, h2, X2, e2, W2, st2⟩ := putF X1 hx hZ hown (host := "") (Or.inl (wd hw 82 rfl)) Via.refl e1 F_value E_a1 (Or.inr ⟨(wd hw 83 rfl), rfl, hnm⟩) (wd hw 133 rfl) (ty := (.object "java/lang/Object")) (by decide) rfl rfl (g := (mkF m 6 #[.val (.ref a1), .val (.ref x1)] [(.ref x1), (.ref a1)])) rfl rfl (hb hby d26_6)
  replace Z0 := Nat.le_trans Z0 (Keep.of_wr W2).1
  replace K0 := K0.wr W2 (Or.inl (List.mem_of_getElem? (i := 0) rfl))
  replace E_a1 := E_a1.wr W2
  replace F_value := F_value.same W2
  have N2 := Fr.snoc X2 N0 g_a1
  refine Go.st (pc' := 9) (S' := []) st2 ?_
  exact Go.retV X2 hx hlk hret (hb hby d26_9) (by decide) (by decide) (by rw [e2]; exact ⟨rfl, N2, K0, F_value⟩)
theorem d24_0 : decode jdk_32_method_3_code 0 = .ok (.new 2, 3) := by decide +kernel
theorem d24_3 : decode jdk_32_method_3_code 3 = .ok (.dup, 1) := by decide +kernel
theorem d24_4 : decode jdk_32_method_3_code 4 = .ok (.aload_n 0, 1) := by decide +kernel
theorem d24_5 : decode jdk_32_method_3_code 5 = .ok (.invokestatic 17, 3) := by decide +kernel
theorem d24_8 : decode jdk_32_method_3_code 8 = .ok (.invokespecial 23, 3) := by decide +kernel
theorem d24_11 : decode jdk_32_method_3_code 11 = .ok (.areturn, 1) := by decide +kernel
theorem pd_11 : parseMethodDescriptor "(Ljava/lang/Object;)Ljava/lang/Object;" = some ⟨[(.object "java/lang/Object")], some (.object "java/lang/Object")⟩ := by decide +kernel
theorem pd_12 : parseMethodDescriptor "(Ljava/lang/Object;)V" = some ⟨[(.object "java/lang/Object")], none⟩ := by decide +kernel
def Qoof (Z : State) (x1 : Addr) (h0 : Heap) (n0 : Nat) (v : Option Value) (h : Heap) (L : List Loc) : Prop := ∃ b : Addr, v = some (.ref b) ∧ Fr n0 L ∧ Keep h0 h [] ∧ n0 ≤ b ∧ Exa Z h b "java/util/Optional" ∧ Fld Z h b "java/util/Optional" "value" "Ljava/lang/Object;" (.ref x1)
def roomoof : Room := { frames := 2, cells := 1, slots := 1, locals := 26 }
theorem rmoof (l : Launch) (Z : State) (a0 : Array Value) (hw : ∀ d ∈ tables_1, d.before a0 Z = true) (ws : List Jvm.Cond) (x1 : Addr) (h0 : Heap) (n0 : Nat) (Z0 : n0 ≤ h0.size)  :
    MetFree l (⟨"java/util/Optional", "of", "(Ljava/lang/Object;)Ljava/util/Optional;"⟩ : MethodName) (head1 (Jvm.Cond.code (⟨"java/util/Optional", "of", "(Ljava/lang/Object;)Ljava/util/Optional;"⟩ : MethodName) jdk_32_method_3_code 1 (some (.object "java/util/Optional")) :: ws) roomoof) (fun aa_ U_ => aa_ = #[(.ref x1)] ∧ Z.Warmed39 U_.vm ∧ U_.heap = h0) (fun _ _ _ _ _ => True) (fun _ U_ o_ W_ => ∃ v_ L_, o_ = .returned v_ ∧ (Qoof Z x1 h0 n0) v_ W_.heap L_ ∧ FrameEnd U_ o_ W_ L_ roomoof.cells roomoof.slots) := by
  refine own_met (Q := (Qoof Z x1 h0 n0)) (L0 := #[.val (.ref x1)]) (plainFor_of_name pn_6) (fun m => by first | (simp [entryFrame, mkF, argsToLocals, Value.category]; done) | rfl) ?_
  intro p e s m below meth c T0 X0 hx hby hml hown hnm hret hlk hZ e0
  have N0 := Fr.nil n0
  have K0 := Keep.refl h0 []
  obtain ⟨T1, h1, X1, e1, E1, A1, D1, U1, st1⟩ := newO X0 hx hZ hown (wd hw 132 rfl) (wd hw 133 rfl) (wd hw 74 rfl) e0 (g := (mkF m 0 #[.val (.ref x1)] [])) rfl (hb hby d24_0) (by decide) (by decide)
  obtain ⟨b1, g1⟩ : ∃ z, z = h0.size := ⟨_, rfl⟩
  rw [← g1] at A1 D1 U1 st1
  have g_b1 : n0 ≤ b1 := Nat.le_trans Z0 (Nat.le_of_eq g1.symm)
  have sz_b1 : h0.size ≤ b1 := Nat.le_trans K0.1 (Nat.le_of_eq g1.symm)
  replace Z0 := Nat.le_trans Z0 E1.1
  replace K0 := K0.ext E1
  have E_b1 := A1
  have F_b1_value : Fld Z h1 b1 "java/util/Optional" "value" "Ljava/lang/Object;" .null := D1 (Or.inr (wd hw 83 rfl)) (ty := (.object "java/lang/Object")) (by decide)
  refine Go.st (pc' := 3) (S' := [(.ref b1)]) st1 ?_
  refine Go.st (pc' := 4) (S' := [(.ref b1), (.ref b1)]) (fun t_ k_ => XS.dup X1.here hx rfl (hb hby d24_3) rfl rfl k_) ?_
  refine Go.st (pc' := 5) (S' := [(.ref x1), (.ref b1), (.ref b1)]) (fun t_ k_ => XS.aloadN X1.here hx rfl (hb hby d24_4) rfl rfl k_) ?_
  obtain ⟨_, _, ⟨T2, L2, k2, n2⟩, -, X2, ⟨Lc2, hQ2, l2, y2, z2⟩, st2⟩ := Jvm.LawKit.callS X1 hx (y := (⟨"java/util/Objects", "requireNonNull", "(Ljava/lang/Object;)Ljava/lang/Object;"⟩ : MethodName)) hown (mvT hZ (wd hw 134 rfl)) (mvT hZ (wd hw 135 rfl)) (mvT hZ (wd hw 136 rfl)) (mvT hZ (wd hw 137 rfl)) (by decide) (backOf (W := 2) (rm25 l Z a0 hw [] x1 h1 n0 Z0) hZ (wd hw 137 rfl) (wd hw 136 rfl) (by decide) (by decide)) (g := (mkF m 5 #[.val (.ref x1)] [(.ref x1), (.ref b1), (.ref b1)])) rfl (by rw [hml]; rfl) (argsL := [(.ref x1)]) (rest := [(.ref b1), (.ref b1)]) (lenOf pd_11 rfl) rfl (by show 2 * 0 + _ ≤ _; exact Nat.le_of_eq rfl) (hb hby d24_5) (fun _ _ => ⟨rfl, e1, (by decide : 1 + 0 ≤ _), (by decide : 1 + 0 ≤ _)⟩)
  dsimp only [Pt.U, Pt.locs, Pt.cells, Pt.slots] at X2 l2 y2 z2 st2 hQ2
  subst l2 y2 z2
  obtain ⟨rfl, N2q, e2⟩ := hQ2
  have N2 := Fr.app N0 N2q
  refine Go.st (pc' := 8) (S' := [(.ref x1), (.ref b1), (.ref b1)]) st2 ?_
  obtain ⟨_, _, ⟨T3, L3, k3, n3⟩, -, X3, ⟨Lc3, hQ3, l3, y3, z3⟩, st3⟩ := X2.specialBack hx (y := (⟨"java/util/Optional", "<init>", "(Ljava/lang/Object;)V"⟩ : MethodName)) rfl hown (mvT hZ (wd hw 138 rfl)) (mvT hZ (wd hw 139 rfl)) (mvT hZ (wd hw 141 rfl)) (by decide) (backOf (W := 1) (rm26 l Z a0 hw [] b1 x1 h1 n0 Z0 E_b1 g_b1 F_b1_value) hZ (wd hw 141 rfl) (wd hw 74 rfl) (by decide) (by decide)) (g := (mkF m 8 #[.val (.ref x1)] [(.ref x1), (.ref b1), (.ref b1)])) rfl (by rw [hml]; rfl) (Steps.refl _) (a := b1) (argsL := [(.ref x1)]) (rest := [(.ref b1)]) (lenOf pd_12 rfl) rfl (by show 2 * 0 + _ ≤ _; exact Nat.le_of_eq rfl) (hb hby d24_8) (fun _ _ => ⟨rfl, e2, (by decide : 1 + 0 ≤ _), (by decide : 1 + 0 ≤ _)⟩)
  dsimp only [Pt.U, Pt.locs, Pt.cells, Pt.slots] at X3 l3 y3 z3 st3 hQ3
  subst l3 y3 z3
  obtain ⟨rfl, N3q, K3, G3_value⟩ := hQ3
  have N3 := Fr.app N2 N3q
  obtain ⟨h3, e3⟩ : ∃ z, T3.heap = z := ⟨_, rfl⟩
  rw [e3] at K3 G3_value
  replace Z0 := Nat.le_trans Z0 K3.1
  replace K0 := K0.trans K3 (allS (Or.inr sz_b1) all0)
  replace E_b1 := E_b1.keep K3
  refine Go.tr (pc' := 11) (S' := [(.ref b1)]) st3 ?_
  exact Go.retO X3 hx hlk hret rfl (by simp [FieldType.isReference, Value.isRef]) (hb hby d24_11) (by decide) (by decide) (by rw [e3]; exact ⟨b1, rfl, N3, K0, g_b1, E_b1, G3_value⟩)
theorem d11_0 : decode jdk_32_method_1_code 0 = .ok (.getstatic 1, 3) := by decide +kernel
theorem d11_3 : decode jdk_32_method_1_code 3 = .ok (.astore_n 0, 1) := by decide +kernel
theorem d11_4 : decode jdk_32_method_1_code 4 = .ok (.aload_n 0, 1) := by decide +kernel
theorem d11_5 : decode jdk_32_method_1_code 5 = .ok (.areturn, 1) := by decide +kernel
def Qoem (Z : State) (em : Addr) (h0 : Heap) (n0 : Nat) (v : Option Value) (h : Heap) (L : List Loc) : Prop := v = some (.ref em) ∧ Fr n0 L ∧ h = h0
def roomoem : Room := { frames := 0, cells := 0, slots := 0, locals := 0 }
theorem rmoem (l : Launch) (Z : State) (a0 : Array Value) (hw : ∀ d ∈ tables_1, d.before a0 Z = true) (ws : List Jvm.Cond) (em : Addr) (h0 : Heap) (n0 : Nat) (Z0 : n0 ≤ h0.size) (O0 : Old Z n0 h0) (SE : Sta Z Z.heap "java/util/Optional" "EMPTY" "Ljava/util/Optional;" (.ref em)) :
    MetFree l (⟨"java/util/Optional", "empty", "()Ljava/util/Optional;"⟩ : MethodName) (head1 (Jvm.Cond.code (⟨"java/util/Optional", "empty", "()Ljava/util/Optional;"⟩ : MethodName) jdk_32_method_1_code 1 (some (.object "java/util/Optional")) :: ws) roomoem) (fun aa_ U_ => aa_ = #[] ∧ Z.Warmed39 U_.vm ∧ U_.heap = h0) (fun _ _ _ _ _ => True) (fun _ U_ o_ W_ => ∃ v_ L_, o_ = .returned v_ ∧ (Qoem Z em h0 n0) v_ W_.heap L_ ∧ FrameEnd U_ o_ W_ L_ roomoem.cells roomoem.slots) := by
  refine own_met (Q := (Qoem Z em h0 n0)) (L0 := #[.unset]) (plainFor_of_name pn_6) (fun m => by first | (simp [entryFrame, mkF, argsToLocals, Value.category]; done) | rfl) ?_
  intro p e s m below meth c T0 X0 hx hby hml hown hnm hret hlk hZ e0
  have N0 := Fr.nil n0
  obtain ⟨T1, X1, e1, st1⟩ := getS2 X0 hx hZ hown (host := "") (Or.inl (wd hw 76 rfl)) Via.refl e0 (SE.ext O0.2) (g := (mkF m 0 #[.unset] [])) rfl (hb hby d11_0)
  refine Go.st (pc' := 3) (S' := [(.ref em)]) st1 ?_
  refine Go.st (pc' := 4) (S' := []) (fun t_ k_ => XS.astoreN X1.here hx rfl (hb hby d11_3) rfl rfl (l' := #[.val (.ref em)]) rfl k_) ?_
  refine Go.st (pc' := 5) (S' := [(.ref em)]) (fun t_ k_ => XS.aloadN X1.here hx rfl (hb hby d11_4) rfl rfl k_) ?_
  exact Go.retO X1 hx hlk hret rfl (by simp [FieldType.isReference, Value.isRef]) (hb hby d11_5) (by decide) (by decide) (by rw [e1]; exact ⟨rfl, N0, rfl⟩)
theorem d12_0 : decode jdk_32_method_6_code 0 = .ok (.aload_n 0, 1) := by decide +kernel
theorem d12_1 : decode jdk_32_method_6_code 1 = .ok (.getfield 13, 3) := by decide +kernel
theorem d12_4 : decode jdk_32_method_6_code 4 = .ok (.ifnull 7, 3) := by decide +kernel
theorem d12_7 : decode jdk_32_method_6_code 7 = .ok (.iconst 1, 1) := by decide +kernel
theorem d12_8 : decode jdk_32_method_6_code 8 = .ok (.goto 4, 3) := by decide +kernel
theorem d12_12 : decode jdk_32_method_6_code 12 = .ok (.ireturn, 1) := by decide +kernel
def Qip1 (Z : State) (a1 : Addr) (x1 : Addr) (h0 : Heap) (n0 : Nat) (v : Option Value) (h : Heap) (L : List Loc) : Prop := v = some (.int 1) ∧ Fr n0 L ∧ h = h0
def roomip1 : Room := { frames := 0, cells := 0, slots := 0, locals := 0 }
theorem rmip1 (l : Launch) (Z : State) (a0 : Array Value) (hw : ∀ d ∈ tables_1, d.before a0 Z = true) (ws : List Jvm.Cond) (a1 : Addr) (x1 : Addr) (h0 : Heap) (n0 : Nat) (Z0 : n0 ≤ h0.size) (F1 : Fld Z h0 a1 "java/util/Optional" "value" "Ljava/lang/Object;" (.ref x1)) :
    MetFree l (⟨"java/util/Optional", "isPresent", "()Z"⟩ : MethodName) (head1 (Jvm.Cond.code (⟨"java/util/Optional", "isPresent", "()Z"⟩ : MethodName) jdk_32_method_6_code 1 (some .boolean) :: ws) roomip1) (fun aa_ U_ => aa_ = #[(.ref a1)] ∧ Z.Warmed39 U_.vm ∧ U_.heap = h0) (fun _ _ _ _ _ => True) (fun _ U_ o_ W_ => ∃ v_ L_, o_ = .returned v_ ∧ (Qip1 Z a1 x1 h0 n0) v_ W_.heap L_ ∧ FrameEnd U_ o_ W_ L_ roomip1.cells roomip1.slots) := by
  refine own_met (Q := (Qip1 Z a1 x1 h0 n0)) (L0 := #[.val (.ref a1)]) (plainFor_of_name pn_6) (fun m => by first | (simp [entryFrame, mkF, argsToLocals, Value.category]; done) | rfl) ?_
  intro p e s m below meth c T0 X0 hx hby hml hown hnm hret hlk hZ e0
  have N0 := Fr.nil n0
  refine Go.st (pc' := 1) (S' := [(.ref a1)]) (fun t_ k_ => XS.aloadN X0.here hx rfl (hb hby d12_0) rfl rfl k_) ?_
  obtain ⟨T1, X1, e1, st1⟩ := getF X0 hx hZ hown (host := "") (Or.inl (wd hw 82 rfl)) Via.refl e0 F1 (g := (mkF m 1 #[.val (.ref a1)] [(.ref a1)])) rfl rfl (hb hby d12_1)
  refine Go.st (pc' := 4) (S' := [(.ref x1)]) st1 ?_
  refine Go.st (pc' := 7) (S' := []) (fun t_ k_ => XS.ifnullNo X1.here hx rfl (hb hby d12_4) rfl k_) ?_
  refine Go.st (pc' := 8) (S' := [(.int (1 : Int32))]) (fun t_ k_ => XS.iconst X1.here hx rfl (hb hby d12_7) k_) ?_
  refine Go.st (pc' := 12) (S' := [(.int (1 : Int32))]) (fun t_ k_ => XS.goto X1.here hx rfl (pc0 := 8) (pc' := 12) rfl (hb hby d12_8) (by decide) (by decide) k_) ?_
  exact Go.retN X1 hx hlk hret (by simp) (hb hby d12_12) (by decide) (by decide) (by rw [e1]; exact ⟨rfl, N0, rfl⟩)
theorem d12_11 : decode jdk_32_method_6_code 11 = .ok (.iconst 0, 1) := by decide +kernel
def Qip0 (Z : State) (a1 : Addr) (h0 : Heap) (n0 : Nat) (v : Option Value) (h : Heap) (L : List Loc) : Prop := v = some (.int 0) ∧ Fr n0 L ∧ h = h0
def roomip0 : Room := { frames := 0, cells := 0, slots := 0, locals := 0 }
theorem rmip0 (l : Launch) (Z : State) (a0 : Array Value) (hw : ∀ d ∈ tables_1, d.before a0 Z = true) (ws : List Jvm.Cond) (a1 : Addr) (h0 : Heap) (n0 : Nat) (Z0 : n0 ≤ h0.size) (F1 : Fld Z h0 a1 "java/util/Optional" "value" "Ljava/lang/Object;" .null) :
    MetFree l (⟨"java/util/Optional", "isPresent", "()Z"⟩ : MethodName) (head1 (Jvm.Cond.code (⟨"java/util/Optional", "isPresent", "()Z"⟩ : MethodName) jdk_32_method_6_code 1 (some .boolean) :: ws) roomip0) (fun aa_ U_ => aa_ = #[(.ref a1)] ∧ Z.Warmed39 U_.vm ∧ U_.heap = h0) (fun _ _ _ _ _ => True) (fun _ U_ o_ W_ => ∃ v_ L_, o_ = .returned v_ ∧ (Qip0 Z a1 h0 n0) v_ W_.heap L_ ∧ FrameEnd U_ o_ W_ L_ roomip0.cells roomip0.slots) := by
  refine own_met (Q := (Qip0 Z a1 h0 n0)) (L0 := #[.val (.ref a1)]) (plainFor_of_name pn_6) (fun m => by first | (simp [entryFrame, mkF, argsToLocals, Value.category]; done) | rfl) ?_
  intro p e s m below meth c T0 X0 hx hby hml hown hnm hret hlk hZ e0
  have N0 := Fr.nil n0
  refine Go.st (pc' := 1) (S' := [(.ref a1)]) (fun t_ k_ => XS.aloadN X0.here hx rfl (hb hby d12_0) rfl rfl k_) ?_
  obtain ⟨T1, X1, e1, st1⟩ := getF X0 hx hZ hown (host := "") (Or.inl (wd hw 82 rfl)) Via.refl e0 F1 (g := (mkF m 1 #[.val (.ref a1)] [(.ref a1)])) rfl rfl (hb hby d12_1)
  refine Go.st (pc' := 4) (S' := [.null]) st1 ?_
  refine Go.st (pc' := 11) (S' := []) (fun t_ k_ => XS.ifnullYes X1.here hx rfl (pc0 := 4) (pc' := 11) rfl (hb hby d12_4) rfl (by decide) (by decide) k_) ?_
  refine Go.st (pc' := 12) (S' := [(.int (0 : Int32))]) (fun t_ k_ => XS.iconst X1.here hx rfl (hb hby d12_11) k_) ?_
  exact Go.retN X1 hx hlk hret (by simp) (hb hby d12_12) (by decide) (by decide) (by rw [e1]; exact ⟨rfl, N0, rfl⟩)
theorem d27_0 : decode jdk_32_method_5_code 0 = .ok (.aload_n 0, 1) := by decide +kernel
theorem d27_1 : decode jdk_32_method_5_code 1 = .ok (.getfield 13, 3) := by decide +kernel
theorem d27_4 : decode jdk_32_method_5_code 4 = .ok (.ifnonnull 13, 3) := by decide +kernel
theorem d27_17 : decode jdk_32_method_5_code 17 = .ok (.aload_n 0, 1) := by decide +kernel
theorem d27_18 : decode jdk_32_method_5_code 18 = .ok (.getfield 13, 3) := by decide +kernel
theorem d27_21 : decode jdk_32_method_5_code 21 = .ok (.areturn, 1) := by decide +kernel
def Qog (Z : State) (a1 : Addr) (x1 : Addr) (h0 : Heap) (n0 : Nat) (v : Option Value) (h : Heap) (L : List Loc) : Prop := v = some (.ref x1) ∧ Fr n0 L ∧ h = h0
def roomog : Room := { frames := 0, cells := 0, slots := 0, locals := 0 }
theorem rmog (l : Launch) (Z : State) (a0 : Array Value) (hw : ∀ d ∈ tables_1, d.before a0 Z = true) (ws : List Jvm.Cond) (a1 : Addr) (x1 : Addr) (h0 : Heap) (n0 : Nat) (Z0 : n0 ≤ h0.size) (F1 : Fld Z h0 a1 "java/util/Optional" "value" "Ljava/lang/Object;" (.ref x1)) :
    MetFree l (⟨"java/util/Optional", "get", "()Ljava/lang/Object;"⟩ : MethodName) (head1 (Jvm.Cond.code (⟨"java/util/Optional", "get", "()Ljava/lang/Object;"⟩ : MethodName) jdk_32_method_5_code 1 (some (.object "java/lang/Object")) :: ws) roomog) (fun aa_ U_ => aa_ = #[(.ref a1)] ∧ Z.Warmed39 U_.vm ∧ U_.heap = h0) (fun _ _ _ _ _ => True) (fun _ U_ o_ W_ => ∃ v_ L_, o_ = .returned v_ ∧ (Qog Z a1 x1 h0 n0) v_ W_.heap L_ ∧ FrameEnd U_ o_ W_ L_ roomog.cells roomog.slots) := by
  refine own_met (Q := (Qog Z a1 x1 h0 n0)) (L0 := #[.val (.ref a1)]) (plainFor_of_name pn_6) (fun m => by first | (simp [entryFrame, mkF, argsToLocals, Value.category]; done) | rfl) ?_
  intro p e s m below meth c T0 X0 hx hby hml hown hnm hret hlk hZ e0
  have N0 := Fr.nil n0
  refine Go.st (pc' := 1) (S' := [(.ref a1)]) (fun t_ k_ => XS.aloadN X0.here hx rfl (hb hby d27_0) rfl rfl k_) ?_
  obtain ⟨T1, X1, e1, st1⟩ := getF X0 hx hZ hown (host := "") (Or.inl (wd hw 82 rfl)) Via.refl e0 F1 (g := (mkF m 1 #[.val (.ref a1)] [(.ref a1)])) rfl rfl (hb hby d27_1)
  refine Go.st (pc' := 4) (S' := [(.ref x1)]) st1 ?_
  refine Go.st (pc' := 17) (S' := []) (fun t_ k_ => XS.ifnonnullYes X1.here hx rfl (pc0 := 4) (pc' := 17) rfl (hb hby d27_4) rfl (by decide) (by decide) k_) ?_
  refine Go.st (pc' := 18) (S' := [(.ref a1)]) (fun t_ k_ => XS.aloadN X1.here hx rfl (hb hby d27_17) rfl rfl k_) ?_
  obtain ⟨T2, X2, e2, st2⟩ := getF X1 hx hZ hown (host := "") (Or.inl (wd hw 82 rfl)) Via.refl e1 F1 (g := (mkF m 18 #[.val (.ref a1)] [(.ref a1)])) rfl rfl (hb hby d27_18)
  refine Go.st (pc' := 21) (S' := [(.ref x1)]) st2 ?_
  exact Go.retO X2 hx hlk hret rfl (by simp [FieldType.isReference, Value.isRef]) (hb hby d27_21) (by decide) (by decide) (by rw [e2]; exact ⟨rfl, N0, rfl⟩)
theorem d28_0 : decode prog_47_method_4_code 0 = .ok (.aload_n 0, 1) := by decide +kernel
theorem d28_1 : decode prog_47_method_4_code 1 = .ok (.getfield 32, 3) := by decide +kernel
theorem d28_4 : decode prog_47_method_4_code 4 = .ok (.areturn, 1) := by decide +kernel
def Q28 (Z : State) (a1 : Addr) (x1 : Addr) (h0 : Heap) (n0 : Nat) (v : Option Value) (h : Heap) (L : List Loc) : Prop := v = some (.ref x1) ∧ Fr n0 L ∧ h = h0
def room28 : Room := { frames := 0, cells := 0, slots := 0, locals := 0 }
theorem rm28 (l : Launch) (Z : State) (a0 : Array Value) (hw : ∀ d ∈ tables_1, d.before a0 Z = true) (ws : List Jvm.Cond) (a1 : Addr) (x1 : Addr) (h0 : Heap) (n0 : Nat) (Z0 : n0 ≤ h0.size) (F1 : Fld Z h0 a1 "com/example/vestry/vestry/io/PaymentForm" "text" "Ljava/lang/String;" (.ref x1)) :
    MetFree l (⟨"com/example/vestry/vestry/io/PaymentForm", "text", "()Ljava/lang/String;"⟩ : MethodName) (head1 (Jvm.Cond.code (⟨"com/example/vestry/vestry/io/PaymentForm", "text", "()Ljava/lang/String;"⟩ : MethodName) prog_47_method_4_code 1 (some (.object "java/lang/String")) :: ws) room28) (fun aa_ U_ => aa_ = #[(.ref a1)] ∧ Z.Warmed39 U_.vm ∧ U_.heap = h0) (fun _ _ _ _ _ => True) (fun _ U_ o_ W_ => ∃ v_ L_, o_ = .returned v_ ∧ (Q28 Z a1 x1 h0 n0) v_ W_.heap L_ ∧ FrameEnd U_ o_ W_ L_ room28.cells room28.slots) := by
  refine own_met (Q := (Q28 Z a1 x1 h0 n0)) (L0 := #[.val (.ref a1)]) (plainFor_of_name pn_4) (fun m => by first | (simp [entryFrame, mkF, argsToLocals, Value.category]; done) | rfl) ?_
  intro p e s m below meth c T0 X0 hx hby hml hown hnm hret hlk hZ e0
  have N0 := Fr.nil n0
  refine Go.st (pc' := 1) (S' := [(.ref a1)]) (fun t_ k_ => XS.aloadN X0.here hx rfl (hb hby d28_0) rfl rfl k_) ?_
  obtain ⟨T1, X1, e1, st1⟩ := getF X0 hx hZ hown (host := "") (Or.inl (wd hw 69 rfl)) Via.refl e0 F1 (g := (mkF m 1 #[.val (.ref a1)] [(.ref a1)])) rfl rfl (hb hby d28_1)
  refine Go.st (pc' := 4) (S' := [(.ref x1)]) st1 ?_
  exact Go.retO X1 hx hlk hret rfl (by simp [FieldType.isReference, Value.isRef]) (hb hby d28_4) (by decide) (by decide) (by rw [e1]; exact ⟨rfl, N0, rfl⟩)
theorem d9_0 : decode prog_47_method_5_code 0 = .ok (.invokestatic 36, 3) := by decide +kernel
theorem d9_3 : decode prog_47_method_5_code 3 = .ok (.astore_n 1, 1) := by decide +kernel
theorem d9_4 : decode prog_47_method_5_code 4 = .ok (.aload_n 1, 1) := by decide +kernel
theorem d9_5 : decode prog_47_method_5_code 5 = .ok (.arraylength, 1) := by decide +kernel
theorem d9_6 : decode prog_47_method_5_code 6 = .ok (.istore_n 2, 1) := by decide +kernel
theorem d9_7 : decode prog_47_method_5_code 7 = .ok (.iconst 0, 1) := by decide +kernel
theorem d9_8 : decode prog_47_method_5_code 8 = .ok (.istore_n 3, 1) := by decide +kernel
theorem d9_9 : decode prog_47_method_5_code 9 = .ok (.iload_n 3, 1) := by decide +kernel
theorem d9_10 : decode prog_47_method_5_code 10 = .ok (.iload_n 2, 1) := by decide +kernel
theorem d9_11 : decode prog_47_method_5_code 11 = .ok (.if_icmp .ge 32, 3) := by decide +kernel
theorem d9_14 : decode prog_47_method_5_code 14 = .ok (.aload_n 1, 1) := by decide +kernel
theorem d9_15 : decode prog_47_method_5_code 15 = .ok (.iload_n 3, 1) := by decide +kernel
theorem d9_16 : decode prog_47_method_5_code 16 = .ok (.aaload, 1) := by decide +kernel
theorem d9_17 : decode prog_47_method_5_code 17 = .ok (.astore 4, 2) := by decide +kernel
theorem d9_19 : decode prog_47_method_5_code 19 = .ok (.aload 4, 2) := by decide +kernel
theorem d9_21 : decode prog_47_method_5_code 21 = .ok (.getfield 32, 3) := by decide +kernel
theorem d9_24 : decode prog_47_method_5_code 24 = .ok (.aload_n 0, 1) := by decide +kernel
theorem d9_25 : decode prog_47_method_5_code 25 = .ok (.invokevirtual 40, 3) := by decide +kernel
theorem d9_28 : decode prog_47_method_5_code 28 = .ok (.ifCond .eq 9, 3) := by decide +kernel
theorem d9_31 : decode prog_47_method_5_code 31 = .ok (.aload 4, 2) := by decide +kernel
theorem d9_33 : decode prog_47_method_5_code 33 = .ok (.invokestatic 46, 3) := by decide +kernel
theorem d9_36 : decode prog_47_method_5_code 36 = .ok (.areturn, 1) := by decide +kernel
theorem pd_13 : parseMethodDescriptor "()[Lcom/example/vestry/vestry/io/PaymentForm;" = some ⟨[], some (.array (.object "com/example/vestry/vestry/io/PaymentForm"))⟩ := by decide +kernel
theorem pd_14 : parseMethodDescriptor "(Ljava/lang/Object;)Ljava/util/Optional;" = some ⟨[(.object "java/lang/Object")], some (.object "java/util/Optional")⟩ := by decide +kernel
def Qnam0 (Z : State) (f0 f1 f2 em : Addr) (h0 : Heap) (n0 : Nat) (v : Option Value) (h : Heap) (L : List Loc) : Prop := ∃ b : Addr, v = some (.ref b) ∧ Fr n0 L ∧ Keep h0 h [] ∧ n0 ≤ b ∧ Exa Z h b "java/util/Optional" ∧ Fld Z h b "java/util/Optional" "value" "Ljava/lang/Object;" (.ref f0)
def roomnam0 : Room := { frames := 3, cells := 2, slots := 4, locals := 38 }
theorem rmnam0 (l : Launch) (Z : State) (a0 : Array Value) (hw : ∀ d ∈ tables_1, d.before a0 Z = true) (ws : List Jvm.Cond) (a1 tx : Addr) (kx : ClassId) (X : List Int32) (n : Nat) (va f0 f1 f2 ty0 ty1 ty2 u0 u1 u2 : Addr) (kva kv0 kv1 kv2 : ClassId) (em : Addr) (gC : Int32) (h0 : Heap) (n0 : Nat) (Z0 : n0 ≤ h0.size) (SC : Sta Z Z.heap "java/lang/String" "COMPACT_STRINGS" "Z" (.int gC)) (PC : ¬ (gC = (0 : Int32))) (O0 : Old Z n0 h0) (S0 : Sta Z Z.heap "com/example/vestry/vestry/io/PaymentForm" "LUMP_SUM" "Lcom/example/vestry/vestry/io/PaymentForm;" (.ref f0)) (S1 : Sta Z Z.heap "com/example/vestry/vestry/io/PaymentForm" "INSTALLMENTS" "Lcom/example/vestry/vestry/io/PaymentForm;" (.ref f1)) (S2 : Sta Z Z.heap "com/example/vestry/vestry/io/PaymentForm" "LIFE_ANNUITY" "Lcom/example/vestry/vestry/io/PaymentForm;" (.ref f2)) (SV : Sta Z Z.heap "com/example/vestry/vestry/io/PaymentForm" "$VALUES" "[Lcom/example/vestry/vestry/io/PaymentForm;" (.ref va)) (SE : Sta Z Z.heap "java/util/Optional" "EMPTY" "Ljava/util/Optional;" (.ref em)) (pf : own_PF Z va f0 f1 f2 ty0 ty1 ty2 u0 u1 u2 kva kv0 kv1 kv2) (E_a1 : Exa Z h0 a1 "java/lang/String") (Fc_a1 : Fld Z h0 a1 "java/lang/String" "coder" "B" (.int (0 : Int32))) (Fv_a1 : Fld Z h0 a1 "java/lang/String" "value" "[B" (.ref tx)) (V_tx : Arv Z h0 tx kx .byte (n.toInt32) (X.map Value.int) (.int (0 : Int32))) (hn13 : n ≤ 13) (hq0 : own_eq X n ([108, 117, 109, 112, 45, 115, 117, 109] : List Int32) 8 = 1) :
    MetFree l (⟨"com/example/vestry/vestry/io/PaymentForm", "named", "(Ljava/lang/String;)Ljava/util/Optional;"⟩ : MethodName) (head1 (Jvm.Cond.code (⟨"com/example/vestry/vestry/io/PaymentForm", "named", "(Ljava/lang/String;)Ljava/util/Optional;"⟩ : MethodName) prog_47_method_5_code 5 (some (.object "java/util/Optional")) :: ws) roomnam0) (fun aa_ U_ => aa_ = #[(.ref a1)] ∧ Z.Warmed39 U_.vm ∧ U_.heap = h0) (fun _ _ _ _ _ => True) (fun _ U_ o_ W_ => ∃ v_ L_, o_ = .returned v_ ∧ (Qnam0 Z f0 f1 f2 em h0 n0) v_ W_.heap L_ ∧ FrameEnd U_ o_ W_ L_ roomnam0.cells roomnam0.slots) := by
  refine own_met (Q := (Qnam0 Z f0 f1 f2 em h0 n0)) (L0 := #[.val (.ref a1), .unset, .unset, .unset, .unset]) (plainFor_of_name pn_4) (fun m => by first | (simp [entryFrame, mkF, argsToLocals, Value.category]; done) | rfl) ?_
  intro p e s m below meth c T0 X0 hx hby hml hown hnm hret hlk hZ e0
  have N0 := Fr.nil n0
  obtain ⟨E_va, V_va, E_f0, F_f0, E_ty0, Fc_ty0, Fv_ty0, V_u0, E_f1, F_f1, E_ty1, Fc_ty1, Fv_ty1, V_u1, E_f2, F_f2, E_ty2, Fc_ty2, Fv_ty2, V_u2⟩ := id pf
  have K0 := Keep.refl h0 []
  replace E_f0 := Exa.ext O0.2 E_f0
  replace F_f0 := Fld.ext O0.2 F_f0
  replace E_ty0 := Exa.ext O0.2 E_ty0
  replace Fc_ty0 := Fld.ext O0.2 Fc_ty0
  replace Fv_ty0 := Fld.ext O0.2 Fv_ty0
  replace V_u0 := Arv.ext V_u0 O0.2
  replace E_f1 := Exa.ext O0.2 E_f1
  replace F_f1 := Fld.ext O0.2 F_f1
  replace E_ty1 := Exa.ext O0.2 E_ty1
  replace Fc_ty1 := Fld.ext O0.2 Fc_ty1
  replace Fv_ty1 := Fld.ext O0.2 Fv_ty1
  replace V_u1 := Arv.ext V_u1 O0.2
  replace E_f2 := Exa.ext O0.2 E_f2
  replace F_f2 := Fld.ext O0.2 F_f2
  replace E_ty2 := Exa.ext O0.2 E_ty2
  replace Fc_ty2 := Fld.ext O0.2 Fc_ty2
  replace Fv_ty2 := Fld.ext O0.2 Fv_ty2
  replace V_u2 := Arv.ext V_u2 O0.2
  obtain ⟨_, _, ⟨T1, L1, k1, n1⟩, -, X1, ⟨Lc1, hQ1, l1, y1, z1⟩, st1⟩ := Jvm.LawKit.callS X0 hx (y := (⟨"com/example/vestry/vestry/io/PaymentForm", "values", "()[Lcom/example/vestry/vestry/io/PaymentForm;"⟩ : MethodName)) hown (mvT hZ (wd hw 51 rfl)) (mvT hZ (wd hw 52 rfl)) (mvT hZ (wd hw 49 rfl)) (mvT hZ (wd hw 53 rfl)) (by decide) (backOf (W := 0) (rmvals l Z a0 hw [] va f0 f1 f2 ty0 ty1 ty2 u0 u1 u2 kva kv0 kv1 kv2 em h0 n0 Z0 O0 S0 S1 S2 SV SE pf) hZ (wd hw 53 rfl) (wd hw 49 rfl) (by decide) (by decide)) (g := (mkF m 0 #[.val (.ref a1), .unset, .unset, .unset, .unset] [])) rfl (by rw [hml]; rfl) (argsL := []) (rest := []) (lenOf pd_13 rfl) rfl (by show 2 * 0 + _ ≤ _; exact Nat.le_of_eq rfl) (hb hby d9_0) (fun _ _ => ⟨rfl, e0, (by decide : 0 + 1 ≤ _), (by decide : 0 + 3 ≤ _)⟩)
  dsimp only [Pt.U, Pt.locs, Pt.cells, Pt.slots] at X1 l1 y1 z1 st1 hQ1
  subst l1 y1 z1
  obtain ⟨b1, kb1, rfl, N1q, K1, g_b1, lt1, Vb1⟩ := hQ1
  have N1 := Fr.app N0 N1q
  have ne_a1_b1 : a1 ≠ b1 := Nat.ne_of_lt (Nat.lt_of_lt_of_le E_a1.lt lt1)
  have ne_tx_b1 : tx ≠ b1 := Nat.ne_of_lt (Nat.lt_of_lt_of_le V_tx.lt lt1)
  have ne_f0_b1 : f0 ≠ b1 := Nat.ne_of_lt (Nat.lt_of_lt_of_le E_f0.lt lt1)
  have ne_ty0_b1 : ty0 ≠ b1 := Nat.ne_of_lt (Nat.lt_of_lt_of_le E_ty0.lt lt1)
  have ne_u0_b1 : u0 ≠ b1 := Nat.ne_of_lt (Nat.lt_of_lt_of_le V_u0.lt lt1)
  have ne_f1_b1 : f1 ≠ b1 := Nat.ne_of_lt (Nat.lt_of_lt_of_le E_f1.lt lt1)
  have ne_ty1_b1 : ty1 ≠ b1 := Nat.ne_of_lt (Nat.lt_of_lt_of_le E_ty1.lt lt1)
  have ne_u1_b1 : u1 ≠ b1 := Nat.ne_of_lt (Nat.lt_of_lt_of_le V_u1.lt lt1)
  have ne_f2_b1 : f2 ≠ b1 := Nat.ne_of_lt (Nat.lt_of_lt_of_le E_f2.lt lt1)
  have ne_ty2_b1 : ty2 ≠ b1 := Nat.ne_of_lt (Nat.lt_of_lt_of_le E_ty2.lt lt1)
  have ne_u2_b1 : u2 ≠ b1 := Nat.ne_of_lt (Nat.lt_of_lt_of_le V_u2.lt lt1)
  have sz_b1 : h0.size ≤ b1 := Nat.le_trans K0.1 lt1
  obtain ⟨h1, e1⟩ : ∃ z, T1.heap = z := ⟨_, rfl⟩
  rw [e1] at K1 Vb1
  replace Z0 := Nat.le_trans Z0 K1.1
  replace K0 := K0.trans K1 all0
  replace O0 := O0.keep K1 all0
  replace E_a1 := E_a1.keep K1
  replace Fc_a1 := Fc_a1.keep K1 nin0
  replace Fv_a1 := Fv_a1.keep K1 nin0
  replace V_tx := V_tx.keep K1 nin0
  replace E_f0 := E_f0.keep K1
  replace F_f0 := F_f0.keep K1 nin0
  replace E_ty0 := E_ty0.keep K1
  replace Fc_ty0 := Fc_ty0.keep K1 nin0
  replace Fv_ty0 := Fv_ty0.keep K1 nin0
  replace V_u0 := V_u0.keep K1 nin0
  replace E_f1 := E_f1.keep K1
  replace F_f1 := F_f1.keep K1 nin0
  replace E_ty1 := E_ty1.keep K1
  replace Fc_ty1 := Fc_ty1.keep K1 nin0
  replace Fv_ty1 := Fv_ty1.keep K1 nin0
  replace V_u1 := V_u1.keep K1 nin0
  replace E_f2 := E_f2.keep K1
  replace F_f2 := F_f2.keep K1 nin0
  replace E_ty2 := E_ty2.keep K1
  replace Fc_ty2 := Fc_ty2.keep K1 nin0
  replace Fv_ty2 := Fv_ty2.keep K1 nin0
  replace V_u2 := V_u2.keep K1 nin0
  refine Go.st (pc' := 3) (S' := [(.ref b1)]) st1 ?_
  refine Go.st (pc' := 4) (S' := []) (fun t_ k_ => XS.astoreN X1.here hx rfl (hb hby d9_3) rfl rfl (l' := #[.val (.ref a1), .val (.ref b1), .unset, .unset, .unset]) rfl k_) ?_
  refine Go.st (pc' := 5) (S' := [(.ref b1)]) (fun t_ k_ => XS.aloadN X1.here hx rfl (hb hby d9_4) rfl rfl k_) ?_
  obtain ⟨cl2, Ar2, -, q2a, q2b, -, -⟩ := id Vb1
  refine Go.st (pc' := 6) (S' := [(.int (3 : Int32))]) (fun t_ k_ => own_len X1 hx hZ e1 Ar2 q2a q2b (g := (mkF m 5 #[.val (.ref a1), .val (.ref b1), .unset, .unset, .unset] [(.ref b1)])) rfl rfl (hb hby d9_5) t_ k_) ?_
  refine Go.st (pc' := 7) (S' := []) (fun t_ k_ => XS.istoreN X1.here hx rfl (hb hby d9_6) rfl (l' := #[.val (.ref a1), .val (.ref b1), .val (.int (3 : Int32)), .unset, .unset]) rfl k_) ?_
  refine Go.st (pc' := 8) (S' := [(.int (0 : Int32))]) (fun t_ k_ => XS.iconst X1.here hx rfl (hb hby d9_7) k_) ?_
  refine Go.st (pc' := 9) (S' := []) (fun t_ k_ => XS.istoreN X1.here hx rfl (hb hby d9_8) rfl (l' := #[.val (.ref a1), .val (.ref b1), .val (.int (3 : Int32)), .val (.int (0 : Int32)), .unset]) rfl k_) ?_
  refine Go.st (pc' := 10) (S' := [(.int (0 : Int32))]) (fun t_ k_ => XS.iloadN X1.here hx rfl (hb hby d9_9) rfl k_) ?_
  refine Go.st (pc' := 11) (S' := [(.int (3 : Int32)), (.int (0 : Int32))]) (fun t_ k_ => XS.iloadN X1.here hx rfl (hb hby d9_10) rfl k_) ?_
  refine Go.st (pc' := 14) (S' := []) (fun t_ k_ => XS.icmpNo X1.here hx rfl (hb hby d9_11) rfl (tlt (by decide : ((0 : Int32) < (3 : Int32)))).2.1 k_) ?_
  refine Go.st (pc' := 15) (S' := [(.ref b1)]) (fun t_ k_ => XS.aloadN X1.here hx rfl (hb hby d9_14) rfl rfl k_) ?_
  refine Go.st (pc' := 16) (S' := [(.int (0 : Int32)), (.ref b1)]) (fun t_ k_ => XS.iloadN X1.here hx rfl (hb hby d9_15) rfl k_) ?_
  obtain ⟨cl3, Ar3, -, q3a, q3b, q3c, q3d⟩ := id Vb1
  refine Go.st (pc' := 17) (S' := [(.ref f0)]) (fun t_ k_ => X1.aaload hx (j := (0 : Int32)) (v := (.ref f0)) (by rw [e1]; exact Ar3.1) (State.isArrayOf_alike hZ.alike Ar3.2.1) rfl Ar3.2.2 (inb_of q3a ⟨by decide, by decide⟩) (q3c.at (inb_of q3a ⟨by decide, by decide⟩) rfl) (g := (mkF m 16 #[.val (.ref a1), .val (.ref b1), .val (.int (3 : Int32)), .val (.int (0 : Int32)), .unset] [(.int (0 : Int32)), (.ref b1)])) rfl rfl (hb hby d9_16) t_ k_) ?_
  refine Go.st (pc' := 19) (S' := []) (fun t_ k_ => XS.astore X1.here hx rfl (hb hby d9_17) rfl rfl (l' := #[.val (.ref a1), .val (.ref b1), .val (.int (3 : Int32)), .val (.int (0 : Int32)), .val (.ref f0)]) rfl k_) ?_
  refine Go.st (pc' := 21) (S' := [(.ref f0)]) (fun t_ k_ => XS.aload X1.here hx rfl (hb hby d9_19) rfl rfl k_) ?_
  obtain ⟨T4, X4, e4, st4⟩ := getF X1 hx hZ hown (host := "") (Or.inl (wd hw 69 rfl)) Via.refl e1 F_f0 (g := (mkF m 21 #[.val (.ref a1), .val (.ref b1), .val (.int (3 : Int32)), .val (.int (0 : Int32)), .val (.ref f0)] [(.ref f0)])) rfl rfl (hb hby d9_21)
  refine Go.st (pc' := 24) (S' := [(.ref ty0)]) st4 ?_
  refine Go.st (pc' := 25) (S' := [(.ref a1), (.ref ty0)]) (fun t_ k_ => XS.aloadN X4.here hx rfl (hb hby d9_24) rfl rfl k_) ?_
  obtain ⟨cq5, kq5, q5a, q5b, q5c⟩ := isOf hZ e4 E_ty0
  obtain ⟨_, _, ⟨T5, L5, k5, n5⟩, -, X5, ⟨Lc5, hQ5, l5, y5, z5⟩, st5⟩ := X4.virtualBack hx (y := (⟨"java/lang/String", "equals", "(Ljava/lang/Object;)Z"⟩ : MethodName)) (z := (⟨"java/lang/String", "equals", "(Ljava/lang/Object;)Z"⟩ : MethodName)) hown (mvT hZ (wd hw 71 rfl)) (mvT hZ (wd hw 35 rfl)) (notFace_of_selects (args := #[]) (mvT hZ (wd hw 37 rfl))) (mvT hZ (wd hw 37 rfl)) (mvT hZ (wd hw 36 rfl)) (by decide) (backOf (W := 0) (rmseq l Z a0 hw [] ty0 a1 u0 tx _ _ (([108, 117, 109, 112, 45, 115, 117, 109] : List Int32)) (X) (8) (n) gC h1 n0 Z0 SC PC O0 E_ty0 Fc_ty0 Fv_ty0 V_u0 E_a1 Fc_a1 Fv_a1 V_tx (by decide) hn13) hZ (wd hw 38 rfl) (wd hw 6 rfl) (by decide) (by decide)) q5a q5c (g := (mkF m 25 #[.val (.ref a1), .val (.ref b1), .val (.int (3 : Int32)), .val (.int (0 : Int32)), .val (.ref f0)] [(.ref a1), (.ref ty0)])) rfl (by rw [hml]; rfl) (Steps.refl _) (argsL := [(.ref a1)]) (rest := []) (lenOf pd_10 rfl) rfl (by show 2 * 0 + _ ≤ _; exact Nat.le_of_eq rfl) (hb hby d9_25) (fun _ _ => ⟨rfl, e4, (by decide : 1 + 0 ≤ _), (by decide : 3 + 0 ≤ _)⟩)
  dsimp only [Pt.U, Pt.locs, Pt.cells, Pt.slots] at X5 l5 y5 z5 st5 hQ5
  subst l5 y5 z5
  obtain ⟨rfl, N5q, e5⟩ := hQ5
  have N5 := Fr.app N1 N5q
  refine Go.tr (pc' := 28) (S' := [(.int (own_eq (([108, 117, 109, 112, 45, 115, 117, 109] : List Int32)) (8) (X) (n)))]) st5 ?_
  refine Go.st (pc' := 31) (S' := []) (fun t_ k_ => XS.ifNo X5.here hx rfl (hb hby d9_28) rfl ((if0 _ _).trans (feq (by rw [own_eqs X n, hq0]; decide : ¬ ((own_eq (([108, 117, 109, 112, 45, 115, 117, 109] : List Int32)) (8) (X) (n)) = (0 : Int32)))).1) k_) ?_
  refine Go.st (pc' := 33) (S' := [(.ref f0)]) (fun t_ k_ => XS.aload X5.here hx rfl (hb hby d9_31) rfl rfl k_) ?_
  obtain ⟨_, _, ⟨T6, L6, k6, n6⟩, -, X6, ⟨Lc6, hQ6, l6, y6, z6⟩, st6⟩ := Jvm.LawKit.callS X5 hx (y := (⟨"java/util/Optional", "of", "(Ljava/lang/Object;)Ljava/util/Optional;"⟩ : MethodName)) hown (mvT hZ (wd hw 129 rfl)) (mvT hZ (wd hw 130 rfl)) (mvT hZ (wd hw 74 rfl)) (mvT hZ (wd hw 131 rfl)) (by decide) (backOf (W := 0) (rmoof l Z a0 hw [] f0 h1 n0 Z0) hZ (wd hw 131 rfl) (wd hw 74 rfl) (by decide) (by decide)) (g := (mkF m 33 #[.val (.ref a1), .val (.ref b1), .val (.int (3 : Int32)), .val (.int (0 : Int32)), .val (.ref f0)] [(.ref f0)])) rfl (by rw [hml]; rfl) (argsL := [(.ref f0)]) (rest := []) (lenOf pd_14 rfl) rfl (by show 2 * 0 + _ ≤ _; exact Nat.le_of_eq rfl) (hb hby d9_33) (fun _ _ => ⟨rfl, e5, (by decide : 1 + 1 ≤ _), (by decide : 3 + 1 ≤ _)⟩)
  dsimp only [Pt.U, Pt.locs, Pt.cells, Pt.slots] at X6 l6 y6 z6 st6 hQ6
  subst l6 y6 z6
  obtain ⟨b6, rfl, N6q, K6, g_b6, E6, F6⟩ := hQ6
  have N6 := Fr.app N5 N6q
  obtain ⟨h6, e6⟩ : ∃ z, T6.heap = z := ⟨_, rfl⟩
  rw [e6] at K6 E6 F6
  replace Z0 := Nat.le_trans Z0 K6.1
  replace K0 := K0.trans K6 all0
  replace O0 := O0.keep K6 all0
  replace E_a1 := E_a1.keep K6
  replace Fc_a1 := Fc_a1.keep K6 nin0
  replace Fv_a1 := Fv_a1.keep K6 nin0
  replace V_tx := V_tx.keep K6 nin0
  replace E_f0 := E_f0.keep K6
  replace F_f0 := F_f0.keep K6 nin0
  replace E_ty0 := E_ty0.keep K6
  replace Fc_ty0 := Fc_ty0.keep K6 nin0
  replace Fv_ty0 := Fv_ty0.keep K6 nin0
  replace V_u0 := V_u0.keep K6 nin0
  replace E_f1 := E_f1.keep K6
  replace F_f1 := F_f1.keep K6 nin0
  replace E_ty1 := E_ty1.keep K6
  replace Fc_ty1 := Fc_ty1.keep K6 nin0
  replace Fv_ty1 := Fv_ty1.keep K6 nin0
  replace V_u1 := V_u1.keep K6 nin0
  replace E_f2 := E_f2.keep K6
  replace F_f2 := F_f2.keep K6 nin0
  replace E_ty2 := E_ty2.keep K6
  replace Fc_ty2 := Fc_ty2.keep K6 nin0
  replace Fv_ty2 := Fv_ty2.keep K6 nin0
  replace V_u2 := V_u2.keep K6 nin0
  replace Vb1 := Vb1.keep K6 nin0
  refine Go.st (pc' := 36) (S' := [(.ref b6)]) st6 ?_
  exact Go.retO X6 hx hlk hret rfl (by simp [FieldType.isReference, Value.isRef]) (hb hby d9_36) (by decide) (by decide) (by rw [e6]; exact ⟨b6, rfl, N6, K0, g_b6, E6, F6⟩)
theorem d9_37 : decode prog_47_method_5_code 37 = .ok (.iinc 3 1, 3) := by decide +kernel
theorem d9_40 : decode prog_47_method_5_code 40 = .ok (.goto (-31), 3) := by decide +kernel
def Qnam1 (Z : State) (f0 f1 f2 em : Addr) (h0 : Heap) (n0 : Nat) (v : Option Value) (h : Heap) (L : List Loc) : Prop := ∃ b : Addr, v = some (.ref b) ∧ Fr n0 L ∧ Keep h0 h [] ∧ n0 ≤ b ∧ Exa Z h b "java/util/Optional" ∧ Fld Z h b "java/util/Optional" "value" "Ljava/lang/Object;" (.ref f1)
def roomnam1 : Room := { frames := 3, cells := 2, slots := 4, locals := 38 }
theorem rmnam1 (l : Launch) (Z : State) (a0 : Array Value) (hw : ∀ d ∈ tables_1, d.before a0 Z = true) (ws : List Jvm.Cond) (a1 tx : Addr) (kx : ClassId) (X : List Int32) (n : Nat) (va f0 f1 f2 ty0 ty1 ty2 u0 u1 u2 : Addr) (kva kv0 kv1 kv2 : ClassId) (em : Addr) (gC : Int32) (h0 : Heap) (n0 : Nat) (Z0 : n0 ≤ h0.size) (SC : Sta Z Z.heap "java/lang/String" "COMPACT_STRINGS" "Z" (.int gC)) (PC : ¬ (gC = (0 : Int32))) (O0 : Old Z n0 h0) (S0 : Sta Z Z.heap "com/example/vestry/vestry/io/PaymentForm" "LUMP_SUM" "Lcom/example/vestry/vestry/io/PaymentForm;" (.ref f0)) (S1 : Sta Z Z.heap "com/example/vestry/vestry/io/PaymentForm" "INSTALLMENTS" "Lcom/example/vestry/vestry/io/PaymentForm;" (.ref f1)) (S2 : Sta Z Z.heap "com/example/vestry/vestry/io/PaymentForm" "LIFE_ANNUITY" "Lcom/example/vestry/vestry/io/PaymentForm;" (.ref f2)) (SV : Sta Z Z.heap "com/example/vestry/vestry/io/PaymentForm" "$VALUES" "[Lcom/example/vestry/vestry/io/PaymentForm;" (.ref va)) (SE : Sta Z Z.heap "java/util/Optional" "EMPTY" "Ljava/util/Optional;" (.ref em)) (pf : own_PF Z va f0 f1 f2 ty0 ty1 ty2 u0 u1 u2 kva kv0 kv1 kv2) (E_a1 : Exa Z h0 a1 "java/lang/String") (Fc_a1 : Fld Z h0 a1 "java/lang/String" "coder" "B" (.int (0 : Int32))) (Fv_a1 : Fld Z h0 a1 "java/lang/String" "value" "[B" (.ref tx)) (V_tx : Arv Z h0 tx kx .byte (n.toInt32) (X.map Value.int) (.int (0 : Int32))) (hn13 : n ≤ 13) (hq0 : own_eq X n ([108, 117, 109, 112, 45, 115, 117, 109] : List Int32) 8 = 0) (hq1 : own_eq X n ([105, 110, 115, 116, 97, 108, 108, 109, 101, 110, 116, 115] : List Int32) 12 = 1) :
    MetFree l (⟨"com/example/vestry/vestry/io/PaymentForm", "named", "(Ljava/lang/String;)Ljava/util/Optional;"⟩ : MethodName) (head1 (Jvm.Cond.code (⟨"com/example/vestry/vestry/io/PaymentForm", "named", "(Ljava/lang/String;)Ljava/util/Optional;"⟩ : MethodName) prog_47_method_5_code 5 (some (.object "java/util/Optional")) :: ws) roomnam1) (fun aa_ U_ => aa_ = #[(.ref a1)] ∧ Z.Warmed39 U_.vm ∧ U_.heap = h0) (fun _ _ _ _ _ => True) (fun _ U_ o_ W_ => ∃ v_ L_, o_ = .returned v_ ∧ (Qnam1 Z f0 f1 f2 em h0 n0) v_ W_.heap L_ ∧ FrameEnd U_ o_ W_ L_ roomnam1.cells roomnam1.slots) := by
  refine own_met (Q := (Qnam1 Z f0 f1 f2 em h0 n0)) (L0 := #[.val (.ref a1), .unset, .unset, .unset, .unset]) (plainFor_of_name pn_4) (fun m => by first | (simp [entryFrame, mkF, argsToLocals, Value.category]; done) | rfl) ?_
  intro p e s m below meth c T0 X0 hx hby hml hown hnm hret hlk hZ e0
  have N0 := Fr.nil n0
  obtain ⟨E_va, V_va, E_f0, F_f0, E_ty0, Fc_ty0, Fv_ty0, V_u0, E_f1, F_f1, E_ty1, Fc_ty1, Fv_ty1, V_u1, E_f2, F_f2, E_ty2, Fc_ty2, Fv_ty2, V_u2⟩ := id pf
  have K0 := Keep.refl h0 []
  replace E_f0 := Exa.ext O0.2 E_f0
  replace F_f0 := Fld.ext O0.2 F_f0
  replace E_ty0 := Exa.ext O0.2 E_ty0
  replace Fc_ty0 := Fld.ext O0.2 Fc_ty0
  replace Fv_ty0 := Fld.ext O0.2 Fv_ty0
  replace V_u0 := Arv.ext V_u0 O0.2
  replace E_f1 := Exa.ext O0.2 E_f1
  replace F_f1 := Fld.ext O0.2 F_f1
  replace E_ty1 := Exa.ext O0.2 E_ty1
  replace Fc_ty1 := Fld.ext O0.2 Fc_ty1
  replace Fv_ty1 := Fld.ext O0.2 Fv_ty1
  replace V_u1 := Arv.ext V_u1 O0.2
  replace E_f2 := Exa.ext O0.2 E_f2
  replace F_f2 := Fld.ext O0.2 F_f2
  replace E_ty2 := Exa.ext O0.2 E_ty2
  replace Fc_ty2 := Fld.ext O0.2 Fc_ty2
  replace Fv_ty2 := Fld.ext O0.2 Fv_ty2
  replace V_u2 := Arv.ext V_u2 O0.2
  obtain ⟨_, _, ⟨T1, L1, k1, n1⟩, -, X1, ⟨Lc1, hQ1, l1, y1, z1⟩, st1⟩ := Jvm.LawKit.callS X0 hx (y := (⟨"com/example/vestry/vestry/io/PaymentForm", "values", "()[Lcom/example/vestry/vestry/io/PaymentForm;"⟩ : MethodName)) hown (mvT hZ (wd hw 51 rfl)) (mvT hZ (wd hw 52 rfl)) (mvT hZ (wd hw 49 rfl)) (mvT hZ (wd hw 53 rfl)) (by decide) (backOf (W := 0) (rmvals l Z a0 hw [] va f0 f1 f2 ty0 ty1 ty2 u0 u1 u2 kva kv0 kv1 kv2 em h0 n0 Z0 O0 S0 S1 S2 SV SE pf) hZ (wd hw 53 rfl) (wd hw 49 rfl) (by decide) (by decide)) (g := (mkF m 0 #[.val (.ref a1), .unset, .unset, .unset, .unset] [])) rfl (by rw [hml]; rfl) (argsL := []) (rest := []) (lenOf pd_13 rfl) rfl (by show 2 * 0 + _ ≤ _; exact Nat.le_of_eq rfl) (hb hby d9_0) (fun _ _ => ⟨rfl, e0, (by decide : 0 + 1 ≤ _), (by decide : 0 + 3 ≤ _)⟩)
  dsimp only [Pt.U, Pt.locs, Pt.cells, Pt.slots] at X1 l1 y1 z1 st1 hQ1
  subst l1 y1 z1
  obtain ⟨b1, kb1, rfl, N1q, K1, g_b1, lt1, Vb1⟩ := hQ1
  have N1 := Fr.app N0 N1q
  have ne_a1_b1 : a1 ≠ b1 := Nat.ne_of_lt (Nat.lt_of_lt_of_le E_a1.lt lt1)
  have ne_tx_b1 : tx ≠ b1 := Nat.ne_of_lt (Nat.lt_of_lt_of_le V_tx.lt lt1)
  have ne_f0_b1 : f0 ≠ b1 := Nat.ne_of_lt (Nat.lt_of_lt_of_le E_f0.lt lt1)
  have ne_ty0_b1 : ty0 ≠ b1 := Nat.ne_of_lt (Nat.lt_of_lt_of_le E_ty0.lt lt1)
  have ne_u0_b1 : u0 ≠ b1 := Nat.ne_of_lt (Nat.lt_of_lt_of_le V_u0.lt lt1)
  have ne_f1_b1 : f1 ≠ b1 := Nat.ne_of_lt (Nat.lt_of_lt_of_le E_f1.lt lt1)
  have ne_ty1_b1 : ty1 ≠ b1 := Nat.ne_of_lt (Nat.lt_of_lt_of_le E_ty1.lt lt1)
  have ne_u1_b1 : u1 ≠ b1 := Nat.ne_of_lt (Nat.lt_of_lt_of_le V_u1.lt lt1)
  have ne_f2_b1 : f2 ≠ b1 := Nat.ne_of_lt (Nat.lt_of_lt_of_le E_f2.lt lt1)
  have ne_ty2_b1 : ty2 ≠ b1 := Nat.ne_of_lt (Nat.lt_of_lt_of_le E_ty2.lt lt1)
  have ne_u2_b1 : u2 ≠ b1 := Nat.ne_of_lt (Nat.lt_of_lt_of_le V_u2.lt lt1)
  have sz_b1 : h0.size ≤ b1 := Nat.le_trans K0.1 lt1
  obtain ⟨h1, e1⟩ : ∃ z, T1.heap = z := ⟨_, rfl⟩
  rw [e1] at K1 Vb1
  replace Z0 := Nat.le_trans Z0 K1.1
  replace K0 := K0.trans K1 all0
  replace O0 := O0.keep K1 all0
  replace E_a1 := E_a1.keep K1
  replace Fc_a1 := Fc_a1.keep K1 nin0
  replace Fv_a1 := Fv_a1.keep K1 nin0
  replace V_tx := V_tx.keep K1 nin0
  replace E_f0 := E_f0.keep K1
  replace F_f0 := F_f0.keep K1 nin0
  replace E_ty0 := E_ty0.keep K1
  replace Fc_ty0 := Fc_ty0.keep K1 nin0
  replace Fv_ty0 := Fv_ty0.keep K1 nin0
  replace V_u0 := V_u0.keep K1 nin0
  replace E_f1 := E_f1.keep K1
  replace F_f1 := F_f1.keep K1 nin0
  replace E_ty1 := E_ty1.keep K1
  replace Fc_ty1 := Fc_ty1.keep K1 nin0
  replace Fv_ty1 := Fv_ty1.keep K1 nin0
  replace V_u1 := V_u1.keep K1 nin0
  replace E_f2 := E_f2.keep K1
  replace F_f2 := F_f2.keep K1 nin0
  replace E_ty2 := E_ty2.keep K1
  replace Fc_ty2 := Fc_ty2.keep K1 nin0
  replace Fv_ty2 := Fv_ty2.keep K1 nin0
  replace V_u2 := V_u2.keep K1 nin0
  refine Go.st (pc' := 3) (S' := [(.ref b1)]) st1 ?_
  refine Go.st (pc' := 4) (S' := []) (fun t_ k_ => XS.astoreN X1.here hx rfl (hb hby d9_3) rfl rfl (l' := #[.val (.ref a1), .val (.ref b1), .unset, .unset, .unset]) rfl k_) ?_
  refine Go.st (pc' := 5) (S' := [(.ref b1)]) (fun t_ k_ => XS.aloadN X1.here hx rfl (hb hby d9_4) rfl rfl k_) ?_
  obtain ⟨cl2, Ar2, -, q2a, q2b, -, -⟩ := id Vb1
  refine Go.st (pc' := 6) (S' := [(.int (3 : Int32))]) (fun t_ k_ => own_len X1 hx hZ e1 Ar2 q2a q2b (g := (mkF m 5 #[.val (.ref a1), .val (.ref b1), .unset, .unset, .unset] [(.ref b1)])) rfl rfl (hb hby d9_5) t_ k_) ?_
  refine Go.st (pc' := 7) (S' := []) (fun t_ k_ => XS.istoreN X1.here hx rfl (hb hby d9_6) rfl (l' := #[.val (.ref a1), .val (.ref b1), .val (.int (3 : Int32)), .unset, .unset]) rfl k_) ?_
  refine Go.st (pc' := 8) (S' := [(.int (0 : Int32))]) (fun t_ k_ => XS.iconst X1.here hx rfl (hb hby d9_7) k_) ?_
  refine Go.st (pc' := 9) (S' := []) (fun t_ k_ => XS.istoreN X1.here hx rfl (hb hby d9_8) rfl (l' := #[.val (.ref a1), .val (.ref b1), .val (.int (3 : Int32)), .val (.int (0 : Int32)), .unset]) rfl k_) ?_
  refine Go.st (pc' := 10) (S' := [(.int (0 : Int32))]) (fun t_ k_ => XS.iloadN X1.here hx rfl (hb hby d9_9) rfl k_) ?_
  refine Go.st (pc' := 11) (S' := [(.int (3 : Int32)), (.int (0 : Int32))]) (fun t_ k_ => XS.iloadN X1.here hx rfl (hb hby d9_10) rfl k_) ?_
  refine Go.st (pc' := 14) (S' := []) (fun t_ k_ => XS.icmpNo X1.here hx rfl (hb hby d9_11) rfl (tlt (by decide : ((0 : Int32) < (3 : Int32)))).2.1 k_) ?_
  refine Go.st (pc' := 15) (S' := [(.ref b1)]) (fun t_ k_ => XS.aloadN X1.here hx rfl (hb hby d9_14) rfl rfl k_) ?_
  refine Go.st (pc' := 16) (S' := [(.int (0 : Int32)), (.ref b1)]) (fun t_ k_ => XS.iloadN X1.here hx rfl (hb hby d9_15) rfl k_) ?_
  obtain ⟨cl3, Ar3, -, q3a, q3b, q3c, q3d⟩ := id Vb1
  refine Go.st (pc' := 17) (S' := [(.ref f0)]) (fun t_ k_ => X1.aaload hx (j := (0 : Int32)) (v := (.ref f0)) (by rw [e1]; exact Ar3.1) (State.isArrayOf_alike hZ.alike Ar3.2.1) rfl Ar3.2.2 (inb_of q3a ⟨by decide, by decide⟩) (q3c.at (inb_of q3a ⟨by decide, by decide⟩) rfl) (g := (mkF m 16 #[.val (.ref a1), .val (.ref b1), .val (.int (3 : Int32)), .val (.int (0 : Int32)), .unset] [(.int (0 : Int32)), (.ref b1)])) rfl rfl (hb hby d9_16) t_ k_) ?_
  refine Go.st (pc' := 19) (S' := []) (fun t_ k_ => XS.astore X1.here hx rfl (hb hby d9_17) rfl rfl (l' := #[.val (.ref a1), .val (.ref b1), .val (.int (3 : Int32)), .val (.int (0 : Int32)), .val (.ref f0)]) rfl k_) ?_
  refine Go.st (pc' := 21) (S' := [(.ref f0)]) (fun t_ k_ => XS.aload X1.here hx rfl (hb hby d9_19) rfl rfl k_) ?_
  obtain ⟨T4, X4, e4, st4⟩ := getF X1 hx hZ hown (host := "") (Or.inl (wd hw 69 rfl)) Via.refl e1 F_f0 (g := (mkF m 21 #[.val (.ref a1), .val (.ref b1), .val (.int (3 : Int32)), .val (.int (0 : Int32)), .val (.ref f0)] [(.ref f0)])) rfl rfl (hb hby d9_21)
  refine Go.st (pc' := 24) (S' := [(.ref ty0)]) st4 ?_
  refine Go.st (pc' := 25) (S' := [(.ref a1), (.ref ty0)]) (fun t_ k_ => XS.aloadN X4.here hx rfl (hb hby d9_24) rfl rfl k_) ?_
  obtain ⟨cq5, kq5, q5a, q5b, q5c⟩ := isOf hZ e4 E_ty0
  obtain ⟨_, _, ⟨T5, L5, k5, n5⟩, -, X5, ⟨Lc5, hQ5, l5, y5, z5⟩, st5⟩ := X4.virtualBack hx (y := (⟨"java/lang/String", "equals", "(Ljava/lang/Object;)Z"⟩ : MethodName)) (z := (⟨"java/lang/String", "equals", "(Ljava/lang/Object;)Z"⟩ : MethodName)) hown (mvT hZ (wd hw 71 rfl)) (mvT hZ (wd hw 35 rfl)) (notFace_of_selects (args := #[]) (mvT hZ (wd hw 37 rfl))) (mvT hZ (wd hw 37 rfl)) (mvT hZ (wd hw 36 rfl)) (by decide) (backOf (W := 0) (rmseq l Z a0 hw [] ty0 a1 u0 tx _ _ (([108, 117, 109, 112, 45, 115, 117, 109] : List Int32)) (X) (8) (n) gC h1 n0 Z0 SC PC O0 E_ty0 Fc_ty0 Fv_ty0 V_u0 E_a1 Fc_a1 Fv_a1 V_tx (by decide) hn13) hZ (wd hw 38 rfl) (wd hw 6 rfl) (by decide) (by decide)) q5a q5c (g := (mkF m 25 #[.val (.ref a1), .val (.ref b1), .val (.int (3 : Int32)), .val (.int (0 : Int32)), .val (.ref f0)] [(.ref a1), (.ref ty0)])) rfl (by rw [hml]; rfl) (Steps.refl _) (argsL := [(.ref a1)]) (rest := []) (lenOf pd_10 rfl) rfl (by show 2 * 0 + _ ≤ _; exact Nat.le_of_eq rfl) (hb hby d9_25) (fun _ _ => ⟨rfl, e4, (by decide : 1 + 0 ≤ _), (by decide : 3 + 0 ≤ _)⟩)
  dsimp only [Pt.U, Pt.locs, Pt.cells, Pt.slots] at X5 l5 y5 z5 st5 hQ5
  subst l5 y5 z5
  obtain ⟨rfl, N5q, e5⟩ := hQ5
  have N5 := Fr.app N1 N5q
  refine Go.tr (pc' := 28) (S' := [(.int (own_eq (([108, 117, 109, 112, 45, 115, 117, 109] : List Int32)) (8) (X) (n)))]) st5 ?_
  refine Go.st (pc' := 37) (S' := []) (fun t_ k_ => XS.ifYes X5.here hx rfl (pc0 := 28) (pc' := 37) rfl (hb hby d9_28) rfl ((if0 _ _).trans (teq ((own_eqs X n _ _).trans hq0 : ((own_eq (([108, 117, 109, 112, 45, 115, 117, 109] : List Int32)) (8) (X) (n)) = (0 : Int32)))).1) (by decide) (by decide) k_) ?_
  refine Go.st (pc' := 40) (S' := []) (fun t_ k_ => XS.iinc X5.here hx rfl (hb hby d9_37) rfl (l' := #[.val (.ref a1), .val (.ref b1), .val (.int (3 : Int32)), .val (.int ((0 : Int32) + (1 : Int32))), .val (.ref f0)]) rfl k_) ?_
  rw [show ((0 : Int32) + (1 : Int32)) = (1 : Int32) from by decide]
  refine Go.st (pc' := 9) (S' := []) (fun t_ k_ => XS.goto X5.here hx rfl (pc0 := 40) (pc' := 9) rfl (hb hby d9_40) (by decide) (by decide) k_) ?_
  refine Go.st (pc' := 10) (S' := [(.int (1 : Int32))]) (fun t_ k_ => XS.iloadN X5.here hx rfl (hb hby d9_9) rfl k_) ?_
  refine Go.st (pc' := 11) (S' := [(.int (3 : Int32)), (.int (1 : Int32))]) (fun t_ k_ => XS.iloadN X5.here hx rfl (hb hby d9_10) rfl k_) ?_
  refine Go.st (pc' := 14) (S' := []) (fun t_ k_ => XS.icmpNo X5.here hx rfl (hb hby d9_11) rfl (tlt (by decide : ((1 : Int32) < (3 : Int32)))).2.1 k_) ?_
  refine Go.st (pc' := 15) (S' := [(.ref b1)]) (fun t_ k_ => XS.aloadN X5.here hx rfl (hb hby d9_14) rfl rfl k_) ?_
  refine Go.st (pc' := 16) (S' := [(.int (1 : Int32)), (.ref b1)]) (fun t_ k_ => XS.iloadN X5.here hx rfl (hb hby d9_15) rfl k_) ?_
  obtain ⟨cl6, Ar6, -, q6a, q6b, q6c, q6d⟩ := id Vb1
  refine Go.st (pc' := 17) (S' := [(.ref f1)]) (fun t_ k_ => X5.aaload hx (j := (1 : Int32)) (v := (.ref f1)) (by rw [e5]; exact Ar6.1) (State.isArrayOf_alike hZ.alike Ar6.2.1) rfl Ar6.2.2 (inb_of q6a ⟨by decide, by decide⟩) (q6c.at (inb_of q6a ⟨by decide, by decide⟩) rfl) (g := (mkF m 16 #[.val (.ref a1), .val (.ref b1), .val (.int (3 : Int32)), .val (.int (1 : Int32)), .val (.ref f0)] [(.int (1 : Int32)), (.ref b1)])) rfl rfl (hb hby d9_16) t_ k_) ?_
  refine Go.st (pc' := 19) (S' := []) (fun t_ k_ => XS.astore X5.here hx rfl (hb hby d9_17) rfl rfl (l' := #[.val (.ref a1), .val (.ref b1), .val (.int (3 : Int32)), .val (.int (1 : Int32)), .val (.ref f1)]) rfl k_) ?_
  refine Go.st (pc' := 21) (S' := [(.ref f1)]) (fun t_ k_ => XS.aload X5.here hx rfl (hb hby d9_19) rfl rfl k_) ?_
  obtain ⟨T7, X7, e7, st7⟩ := getF X5 hx hZ hown (host := "") (Or.inl (wd hw 69 rfl)) Via.refl e5 F_f1 (g := (mkF m 21 #[.val (.ref a1), .val (.ref b1), .val (.int (3 : Int32)), .val (.int (1 : Int32)), .val (.ref f1)] [(.ref f1)])) rfl rfl (hb hby d9_21)
  refine Go.st (pc' := 24) (S' := [(.ref ty1)]) st7 ?_
  refine Go.st (pc' := 25) (S' := [(.ref a1), (.ref ty1)]) (fun t_ k_ => XS.aloadN X7.here hx rfl (hb hby d9_24) rfl rfl k_) ?_
  obtain ⟨cq8, kq8, q8a, q8b, q8c⟩ := isOf hZ e7 E_ty1
  obtain ⟨_, _, ⟨T8, L8, k8, n8⟩, -, X8, ⟨Lc8, hQ8, l8, y8, z8⟩, st8⟩ := X7.virtualBack hx (y := (⟨"java/lang/String", "equals", "(Ljava/lang/Object;)Z"⟩ : MethodName)) (z := (⟨"java/lang/String", "equals", "(Ljava/lang/Object;)Z"⟩ : MethodName)) hown (mvT hZ (wd hw 71 rfl)) (mvT hZ (wd hw 35 rfl)) (notFace_of_selects (args := #[]) (mvT hZ (wd hw 37 rfl))) (mvT hZ (wd hw 37 rfl)) (mvT hZ (wd hw 36 rfl)) (by decide) (backOf (W := 0) (rmseq l Z a0 hw [] ty1 a1 u1 tx _ _ (([105, 110, 115, 116, 97, 108, 108, 109, 101, 110, 116, 115] : List Int32)) (X) (12) (n) gC h1 n0 Z0 SC PC O0 E_ty1 Fc_ty1 Fv_ty1 V_u1 E_a1 Fc_a1 Fv_a1 V_tx (by decide) hn13) hZ (wd hw 38 rfl) (wd hw 6 rfl) (by decide) (by decide)) q8a q8c (g := (mkF m 25 #[.val (.ref a1), .val (.ref b1), .val (.int (3 : Int32)), .val (.int (1 : Int32)), .val (.ref f1)] [(.ref a1), (.ref ty1)])) rfl (by rw [hml]; rfl) (Steps.refl _) (argsL := [(.ref a1)]) (rest := []) (lenOf pd_10 rfl) rfl (by show 2 * 0 + _ ≤ _; exact Nat.le_of_eq rfl) (hb hby d9_25) (fun _ _ => ⟨rfl, e7, (by decide : 1 + 0 ≤ _), (by decide : 3 + 0 ≤ _)⟩)
  dsimp only [Pt.U, Pt.locs, Pt.cells, Pt.slots] at X8 l8 y8 z8 st8 hQ8
  subst l8 y8 z8
  obtain ⟨rfl, N8q, e8⟩ := hQ8
  have N8 := Fr.app N5 N8q
  refine Go.tr (pc' := 28) (S' := [(.int (own_eq (([105, 110, 115, 116, 97, 108, 108, 109, 101, 110, 116, 115] : List Int32)) (12) (X) (n)))]) st8 ?_
  refine Go.st (pc' := 31) (S' := []) (fun t_ k_ => XS.ifNo X8.here hx rfl (hb hby d9_28) rfl ((if0 _ _).trans (feq (by rw [own_eqs X n, hq1]; decide : ¬ ((own_eq (([105, 110, 115, 116, 97, 108, 108, 109, 101, 110, 116, 115] : List Int32)) (12) (X) (n)) = (0 : Int32)))).1) k_) ?_
  refine Go.st (pc' := 33) (S' := [(.ref f1)]) (fun t_ k_ => XS.aload X8.here hx rfl (hb hby d9_31) rfl rfl k_) ?_
  obtain ⟨_, _, ⟨T9, L9, k9, n9⟩, -, X9, ⟨Lc9, hQ9, l9, y9, z9⟩, st9⟩ := Jvm.LawKit.callS X8 hx (y := (⟨"java/util/Optional", "of", "(Ljava/lang/Object;)Ljava/util/Optional;"⟩ : MethodName)) hown (mvT hZ (wd hw 129 rfl)) (mvT hZ (wd hw 130 rfl)) (mvT hZ (wd hw 74 rfl)) (mvT hZ (wd hw 131 rfl)) (by decide) (backOf (W := 0) (rmoof l Z a0 hw [] f1 h1 n0 Z0) hZ (wd hw 131 rfl) (wd hw 74 rfl) (by decide) (by decide)) (g := (mkF m 33 #[.val (.ref a1), .val (.ref b1), .val (.int (3 : Int32)), .val (.int (1 : Int32)), .val (.ref f1)] [(.ref f1)])) rfl (by rw [hml]; rfl) (argsL := [(.ref f1)]) (rest := []) (lenOf pd_14 rfl) rfl (by show 2 * 0 + _ ≤ _; exact Nat.le_of_eq rfl) (hb hby d9_33) (fun _ _ => ⟨rfl, e8, (by decide : 1 + 1 ≤ _), (by decide : 3 + 1 ≤ _)⟩)
  dsimp only [Pt.U, Pt.locs, Pt.cells, Pt.slots] at X9 l9 y9 z9 st9 hQ9
  subst l9 y9 z9
  obtain ⟨b9, rfl, N9q, K9, g_b9, E9, F9⟩ := hQ9
  have N9 := Fr.app N8 N9q
  obtain ⟨h9, e9⟩ : ∃ z, T9.heap = z := ⟨_, rfl⟩
  rw [e9] at K9 E9 F9
  replace Z0 := Nat.le_trans Z0 K9.1
  replace K0 := K0.trans K9 all0
  replace O0 := O0.keep K9 all0
  replace E_a1 := E_a1.keep K9
  replace Fc_a1 := Fc_a1.keep K9 nin0
  replace Fv_a1 := Fv_a1.keep K9 nin0
  replace V_tx := V_tx.keep K9 nin0
  replace E_f0 := E_f0.keep K9
  replace F_f0 := F_f0.keep K9 nin0
  replace E_ty0 := E_ty0.keep K9
  replace Fc_ty0 := Fc_ty0.keep K9 nin0
  replace Fv_ty0 := Fv_ty0.keep K9 nin0
  replace V_u0 := V_u0.keep K9 nin0
  replace E_f1 := E_f1.keep K9
  replace F_f1 := F_f1.keep K9 nin0
  replace E_ty1 := E_ty1.keep K9
  replace Fc_ty1 := Fc_ty1.keep K9 nin0
  replace Fv_ty1 := Fv_ty1.keep K9 nin0
  replace V_u1 := V_u1.keep K9 nin0
  replace E_f2 := E_f2.keep K9
  replace F_f2 := F_f2.keep K9 nin0
  replace E_ty2 := E_ty2.keep K9
  replace Fc_ty2 := Fc_ty2.keep K9 nin0
  replace Fv_ty2 := Fv_ty2.keep K9 nin0
  replace V_u2 := V_u2.keep K9 nin0
  replace Vb1 := Vb1.keep K9 nin0
  refine Go.st (pc' := 36) (S' := [(.ref b9)]) st9 ?_
  exact Go.retO X9 hx hlk hret rfl (by simp [FieldType.isReference, Value.isRef]) (hb hby d9_36) (by decide) (by decide) (by rw [e9]; exact ⟨b9, rfl, N9, K0, g_b9, E9, F9⟩)

def Qnam2 (Z : State) (f0 f1 f2 em : Addr) (h0 : Heap) (n0 : Nat) (v : Option Value) (h : Heap) (L : List Loc) : Prop := ∃ b : Addr, v = some (.ref b) ∧ Fr n0 L ∧ Keep h0 h [] ∧ n0 ≤ b ∧ Exa Z h b "java/util/Optional" ∧ Fld Z h b "java/util/Optional" "value" "Ljava/lang/Object;" (.ref f2)
def roomnam2 : Room := { frames := 3, cells := 2, slots := 4, locals := 38 }
theorem rmnam2 (l : Launch) (Z : State) (a0 : Array Value) (hw : ∀ d ∈ tables_1, d.before a0 Z = true) (ws : List Jvm.Cond) (a1 tx : Addr) (kx : ClassId) (X : List Int32) (n : Nat) (va f0 f1 f2 ty0 ty1 ty2 u0 u1 u2 : Addr) (kva kv0 kv1 kv2 : ClassId) (em : Addr) (gC : Int32) (h0 : Heap) (n0 : Nat) (Z0 : n0 ≤ h0.size) (SC : Sta Z Z.heap "java/lang/String" "COMPACT_STRINGS" "Z" (.int gC)) (PC : ¬ (gC = (0 : Int32))) (O0 : Old Z n0 h0) (S0 : Sta Z Z.heap "com/example/vestry/vestry/io/PaymentForm" "LUMP_SUM" "Lcom/example/vestry/vestry/io/PaymentForm;" (.ref f0)) (S1 : Sta Z Z.heap "com/example/vestry/vestry/io/PaymentForm" "INSTALLMENTS" "Lcom/example/vestry/vestry/io/PaymentForm;" (.ref f1)) (S2 : Sta Z Z.heap "com/example/vestry/vestry/io/PaymentForm" "LIFE_ANNUITY" "Lcom/example/vestry/vestry/io/PaymentForm;" (.ref f2)) (SV : Sta Z Z.heap "com/example/vestry/vestry/io/PaymentForm" "$VALUES" "[Lcom/example/vestry/vestry/io/PaymentForm;" (.ref va)) (SE : Sta Z Z.heap "java/util/Optional" "EMPTY" "Ljava/util/Optional;" (.ref em)) (pf : own_PF Z va f0 f1 f2 ty0 ty1 ty2 u0 u1 u2 kva kv0 kv1 kv2) (E_a1 : Exa Z h0 a1 "java/lang/String") (Fc_a1 : Fld Z h0 a1 "java/lang/String" "coder" "B" (.int (0 : Int32))) (Fv_a1 : Fld Z h0 a1 "java/lang/String" "value" "[B" (.ref tx)) (V_tx : Arv Z h0 tx kx .byte (n.toInt32) (X.map Value.int) (.int (0 : Int32))) (hn13 : n ≤ 13) (hq0 : own_eq X n ([108, 117, 109, 112, 45, 115, 117, 109] : List Int32) 8 = 0) (hq1 : own_eq X n ([105, 110, 115, 116, 97, 108, 108, 109, 101, 110, 116, 115] : List Int32) 12 = 0) (hq2 : own_eq X n ([108, 105, 102, 101, 45, 97, 110, 110, 117, 105, 116, 121] : List Int32) 12 = 1) :
    MetFree l (⟨"com/example/vestry/vestry/io/PaymentForm", "named", "(Ljava/lang/String;)Ljava/util/Optional;"⟩ : MethodName) (head1 (Jvm.Cond.code (⟨"com/example/vestry/vestry/io/PaymentForm", "named", "(Ljava/lang/String;)Ljava/util/Optional;"⟩ : MethodName) prog_47_method_5_code 5 (some (.object "java/util/Optional")) :: ws) roomnam2) (fun aa_ U_ => aa_ = #[(.ref a1)] ∧ Z.Warmed39 U_.vm ∧ U_.heap = h0) (fun _ _ _ _ _ => True) (fun _ U_ o_ W_ => ∃ v_ L_, o_ = .returned v_ ∧ (Qnam2 Z f0 f1 f2 em h0 n0) v_ W_.heap L_ ∧ FrameEnd U_ o_ W_ L_ roomnam2.cells roomnam2.slots) := by
  refine own_met (Q := (Qnam2 Z f0 f1 f2 em h0 n0)) (L0 := #[.val (.ref a1), .unset, .unset, .unset, .unset]) (plainFor_of_name pn_4) (fun m => by first | (simp [entryFrame, mkF, argsToLocals, Value.category]; done) | rfl) ?_
  intro p e s m below meth c T0 X0 hx hby hml hown hnm hret hlk hZ e0
  have N0 := Fr.nil n0
  obtain ⟨E_va, V_va, E_f0, F_f0, E_ty0, Fc_ty0, Fv_ty0, V_u0, E_f1, F_f1, E_ty1, Fc_ty1, Fv_ty1, V_u1, E_f2, F_f2, E_ty2, Fc_ty2, Fv_ty2, V_u2⟩ := id pf
  have K0 := Keep.refl h0 []
  replace E_f0 := Exa.ext O0.2 E_f0
  replace F_f0 := Fld.ext O0.2 F_f0
  replace E_ty0 := Exa.ext O0.2 E_ty0
  replace Fc_ty0 := Fld.ext O0.2 Fc_ty0
  replace Fv_ty0 := Fld.ext O0.2 Fv_ty0
  replace V_u0 := Arv.ext V_u0 O0.2
  replace E_f1 := Exa.ext O0.2 E_f1
  replace F_f1 := Fld.ext O0.2 F_f1
  replace E_ty1 := Exa.ext O0.2 E_ty1
  replace Fc_ty1 := Fld.ext O0.2 Fc_ty1
  replace Fv_ty1 := Fld.ext O0.2 Fv_ty1
  replace V_u1 := Arv.ext V_u1 O0.2
  replace E_f2 := Exa.ext O0.2 E_f2
  replace F_f2 := Fld.ext O0.2 F_f2
  replace E_ty2 := Exa.ext O0.2 E_ty2
  replace Fc_ty2 := Fld.ext O0.2 Fc_ty2
  replace Fv_ty2 := Fld.ext O0.2 Fv_ty2
  replace V_u2 := Arv.ext V_u2 O0.2
  obtain ⟨_, _, ⟨T1, L1, k1, n1⟩, -, X1, ⟨Lc1, hQ1, l1, y1, z1⟩, st1⟩ := Jvm.LawKit.callS X0 hx (y := (⟨"com/example/vestry/vestry/io/PaymentForm", "values", "()[Lcom/example/vestry/vestry/io/PaymentForm;"⟩ : MethodName)) hown (mvT hZ (wd hw 51 rfl)) (mvT hZ (wd hw 52 rfl)) (mvT hZ (wd hw 49 rfl)) (mvT hZ (wd hw 53 rfl)) (by decide) (backOf (W := 0) (rmvals l Z a0 hw [] va f0 f1 f2 ty0 ty1 ty2 u0 u1 u2 kva kv0 kv1 kv2 em h0 n0 Z0 O0 S0 S1 S2 SV SE pf) hZ (wd hw 53 rfl) (wd hw 49 rfl) (by decide) (by decide)) (g := (mkF m 0 #[.val (.ref a1), .unset, .unset, .unset, .unset] [])) rfl (by rw [hml]; rfl) (argsL := []) (rest := []) (lenOf pd_13 rfl) rfl (by show 2 * 0 + _ ≤ _; exact Nat.le_of_eq rfl) (hb hby d9_0) (fun _ _ => ⟨rfl, e0, (by decide : 0 + 1 ≤ _), (by decide : 0 + 3 ≤ _)⟩)
  dsimp only [Pt.U, Pt.locs, Pt.cells, Pt.slots] at X1 l1 y1 z1 st1 hQ1
  subst l1 y1 z1
  obtain ⟨b1, kb1, rfl, N1q, K1, g_b1, lt1, Vb1⟩ := hQ1
  have N1 := Fr.app N0 N1q
  have ne_a1_b1 : a1 ≠ b1 := Nat.ne_of_lt (Nat.lt_of_lt_of_le E_a1.lt lt1)
  have ne_tx_b1 : tx ≠ b1 := Nat.ne_of_lt (Nat.lt_of_lt_of_le V_tx.lt lt1)
  have ne_f0_b1 : f0 ≠ b1 := Nat.ne_of_lt (Nat.lt_of_lt_of_le E_f0.lt lt1)
  have ne_ty0_b1 : ty0 ≠ b1 := Nat.ne_of_lt (Nat.lt_of_lt_of_le E_ty0.lt lt1)
  have ne_u0_b1 : u0 ≠ b1 := Nat.ne_of_lt (Nat.lt_of_lt_of_le V_u0.lt lt1)
  have ne_f1_b1 : f1 ≠ b1 := Nat.ne_of_lt (Nat.lt_of_lt_of_le E_f1.lt lt1)
  have ne_ty1_b1 : ty1 ≠ b1 := Nat.ne_of_lt (Nat.lt_of_lt_of_le E_ty1.lt lt1)
  have ne_u1_b1 : u1 ≠ b1 := Nat.ne_of_lt (Nat.lt_of_lt_of_le V_u1.lt lt1)
  have ne_f2_b1 : f2 ≠ b1 := Nat.ne_of_lt (Nat.lt_of_lt_of_le E_f2.lt lt1)
  have ne_ty2_b1 : ty2 ≠ b1 := Nat.ne_of_lt (Nat.lt_of_lt_of_le E_ty2.lt lt1)
  have ne_u2_b1 : u2 ≠ b1 := Nat.ne_of_lt (Nat.lt_of_lt_of_le V_u2.lt lt1)
  have sz_b1 : h0.size ≤ b1 := Nat.le_trans K0.1 lt1
  obtain ⟨h1, e1⟩ : ∃ z, T1.heap = z := ⟨_, rfl⟩
  rw [e1] at K1 Vb1
  replace Z0 := Nat.le_trans Z0 K1.1
  replace K0 := K0.trans K1 all0
  replace O0 := O0.keep K1 all0
  replace E_a1 := E_a1.keep K1
  replace Fc_a1 := Fc_a1.keep K1 nin0
  replace Fv_a1 := Fv_a1.keep K1 nin0
  replace V_tx := V_tx.keep K1 nin0
  replace E_f0 := E_f0.keep K1
  replace F_f0 := F_f0.keep K1 nin0
  replace E_ty0 := E_ty0.keep K1
  replace Fc_ty0 := Fc_ty0.keep K1 nin0
  replace Fv_ty0 := Fv_ty0.keep K1 nin0
  replace V_u0 := V_u0.keep K1 nin0
  replace E_f1 := E_f1.keep K1
  replace F_f1 := F_f1.keep K1 nin0
  replace E_ty1 := E_ty1.keep K1
  replace Fc_ty1 := Fc_ty1.keep K1 nin0
  replace Fv_ty1 := Fv_ty1.keep K1 nin0
  replace V_u1 := V_u1.keep K1 nin0
  replace E_f2 := E_f2.keep K1
  replace F_f2 := F_f2.keep K1 nin0
  replace E_ty2 := E_ty2.keep K1
  replace Fc_ty2 := Fc_ty2.keep K1 nin0
  replace Fv_ty2 := Fv_ty2.keep K1 nin0
  replace V_u2 := V_u2.keep K1 nin0
  refine Go.st (pc' := 3) (S' := [(.ref b1)]) st1 ?_
  refine Go.st (pc' := 4) (S' := []) (fun t_ k_ => XS.astoreN X1.here hx rfl (hb hby d9_3) rfl rfl (l' := #[.val (.ref a1), .val (.ref b1), .unset, .unset, .unset]) rfl k_) ?_
  refine Go.st (pc' := 5) (S' := [(.ref b1)]) (fun t_ k_ => XS.aloadN X1.here hx rfl (hb hby d9_4) rfl rfl k_) ?_
  obtain ⟨cl2, Ar2, -, q2a, q2b, -, -⟩ := id Vb1
  refine Go.st (pc' := 6) (S' := [(.int (3 : Int32))]) (fun t_ k_ => own_len X1 hx hZ e1 Ar2 q2a q2b (g := (mkF m 5 #[.val (.ref a1), .val (.ref b1), .unset, .unset, .unset] [(.ref b1)])) rfl rfl (hb hby d9_5) t_ k_) ?_
  refine Go.st (pc' := 7) (S' := []) (fun t_ k_ => XS.istoreN X1.here hx rfl (hb hby d9_6) rfl (l' := #[.val (.ref a1), .val (.ref b1), .val (.int (3 : Int32)), .unset, .unset]) rfl k_) ?_
  refine Go.st (pc' := 8) (S' := [(.int (0 : Int32))]) (fun t_ k_ => XS.iconst X1.here hx rfl (hb hby d9_7) k_) ?_
  refine Go.st (pc' := 9) (S' := []) (fun t_ k_ => XS.istoreN X1.here hx rfl (hb hby d9_8) rfl (l' := #[.val (.ref a1), .val (.ref b1), .val (.int (3 : Int32)), .val (.int (0 : Int32)), .unset]) rfl k_) ?_
  refine Go.st (pc' := 10) (S' := [(.int (0 : Int32))]) (fun t_ k_ => XS.iloadN X1.here hx rfl (hb hby d9_9) rfl k_) ?_
  refine Go.st (pc' := 11) (S' := [(.int (3 : Int32)), (.int (0 : Int32))]) (fun t_ k_ => XS.iloadN X1.here hx rfl (hb hby d9_10) rfl k_) ?_
  refine Go.st (pc' := 14) (S' := []) (fun t_ k_ => XS.icmpNo X1.here hx rfl (hb hby d9_11) rfl (tlt (by decide : ((0 : Int32) < (3 : Int32)))).2.1 k_) ?_
  refine Go.st (pc' := 15) (S' := [(.ref b1)]) (fun t_ k_ => XS.aloadN X1.here hx rfl (hb hby d9_14) rfl rfl k_) ?_
  refine Go.st (pc' := 16) (S' := [(.int (0 : Int32)), (.ref b1)]) (fun t_ k_ => XS.iloadN X1.here hx rfl (hb hby d9_15) rfl k_) ?_
  obtain ⟨cl3, Ar3, -, q3a, q3b, q3c, q3d⟩ := id Vb1
  refine Go.st (pc' := 17) (S' := [(.ref f0)]) (fun t_ k_ => X1.aaload hx (j := (0 : Int32)) (v := (.ref f0)) (by rw [e1]; exact Ar3.1) (State.isArrayOf_alike hZ.alike Ar3.2.1) rfl Ar3.2.2 (inb_of q3a ⟨by decide, by decide⟩) (q3c.at (inb_of q3a ⟨by decide, by decide⟩) rfl) (g := (mkF m 16 #[.val (.ref a1), .val (.ref b1), .val (.int (3 : Int32)), .val (.int (0 : Int32)), .unset] [(.int (0 : Int32)), (.ref b1)])) rfl rfl (hb hby d9_16) t_ k_) ?_
  refine Go.st (pc' := 19) (S' := []) (fun t_ k_ => XS.astore X1.here hx rfl (hb hby d9_17) rfl rfl (l' := #[.val (.ref a1), .val (.ref b1), .val (.int (3 : Int32)), .val (.int (0 : Int32)), .val (.ref f0)]) rfl k_) ?_
  refine Go.st (pc' := 21) (S' := [(.ref f0)]) (fun t_ k_ => XS.aload X1.here hx rfl (hb hby d9_19) rfl rfl k_) ?_
  obtain ⟨T4, X4, e4, st4⟩ := getF X1 hx hZ hown (host := "") (Or.inl (wd hw 69 rfl)) Via.refl e1 F_f0 (g := (mkF m 21 #[.val (.ref a1), .val (.ref b1), .val (.int (3 : Int32)), .val (.int (0 : Int32)), .val (.ref f0)] [(.ref f0)])) rfl rfl (hb hby d9_21)
  refine Go.st (pc' := 24) (S' := [(.ref ty0)]) st4 ?_
  refine Go.st (pc' := 25) (S' := [(.ref a1), (.ref ty0)]) (fun t_ k_ => XS.aloadN X4.here hx rfl (hb hby d9_24) rfl rfl k_) ?_
  obtain ⟨cq5, kq5, q5a, q5b, q5c⟩ := isOf hZ e4 E_ty0
  obtain ⟨_, _, ⟨T5, L5, k5, n5⟩, -, X5, ⟨Lc5, hQ5, l5, y5, z5⟩, st5⟩ := X4.virtualBack hx (y := (⟨"java/lang/String", "equals", "(Ljava/lang/Object;)Z"⟩ : MethodName)) (z := (⟨"java/lang/String", "equals", "(Ljava/lang/Object;)Z"⟩ : MethodName)) hown (mvT hZ (wd hw 71 rfl)) (mvT hZ (wd hw 35 rfl)) (notFace_of_selects (args := #[]) (mvT hZ (wd hw 37 rfl))) (mvT hZ (wd hw 37 rfl)) (mvT hZ (wd hw 36 rfl)) (by decide) (backOf (W := 0) (rmseq l Z a0 hw [] ty0 a1 u0 tx _ _ (([108, 117, 109, 112, 45, 115, 117, 109] : List Int32)) (X) (8) (n) gC h1 n0 Z0 SC PC O0 E_ty0 Fc_ty0 Fv_ty0 V_u0 E_a1 Fc_a1 Fv_a1 V_tx (by decide) hn13) hZ (wd hw 38 rfl) (wd hw 6 rfl) (by decide) (by decide)) q5a q5c (g := (mkF m 25 #[.val (.ref a1), .val (.ref b1), .val (.int (3 : Int32)), .val (.int (0 : Int32)), .val (.ref f0)] [(.ref a1), (.ref ty0)])) rfl (by rw [hml]; rfl) (Steps.refl _) (argsL := [(.ref a1)]) (rest := []) (lenOf pd_10 rfl) rfl (by show 2 * 0 + _ ≤ _; exact Nat.le_of_eq rfl) (hb hby d9_25) (fun _ _ => ⟨rfl, e4, (by decide : 1 + 0 ≤ _), (by decide : 3 + 0 ≤ _)⟩)
  dsimp only [Pt.U, Pt.locs, Pt.cells, Pt.slots] at X5 l5 y5 z5 st5 hQ5
  subst l5 y5 z5
  obtain ⟨rfl, N5q, e5⟩ := hQ5
  have N5 := Fr.app N1 N5q
  refine Go.tr (pc' := 28) (S' := [(.int (own_eq (([108, 117, 109, 112, 45, 115, 117, 109] : List Int32)) (8) (X) (n)))]) st5 ?_
  refine Go.st (pc' := 37) (S' := []) (fun t_ k_ => XS.ifYes X5.here hx rfl (pc0 := 28) (pc' := 37) rfl (hb hby d9_28) rfl ((if0 _ _).trans (teq ((own_eqs X n _ _).trans hq0 : ((own_eq (([108, 117, 109, 112, 45, 115, 117, 109] : List Int32)) (8) (X) (n)) = (0 : Int32)))).1) (by decide) (by decide) k_) ?_
  refine Go.st (pc' := 40) (S' := []) (fun t_ k_ => XS.iinc X5.here hx rfl (hb hby d9_37) rfl (l' := #[.val (.ref a1), .val (.ref b1), .val (.int (3 : Int32)), .val (.int ((0 : Int32) + (1 : Int32))), .val (.ref f0)]) rfl k_) ?_
  rw [show ((0 : Int32) + (1 : Int32)) = (1 : Int32) from by decide]
  refine Go.st (pc' := 9) (S' := []) (fun t_ k_ => XS.goto X5.here hx rfl (pc0 := 40) (pc' := 9) rfl (hb hby d9_40) (by decide) (by decide) k_) ?_
  refine Go.st (pc' := 10) (S' := [(.int (1 : Int32))]) (fun t_ k_ => XS.iloadN X5.here hx rfl (hb hby d9_9) rfl k_) ?_
  refine Go.st (pc' := 11) (S' := [(.int (3 : Int32)), (.int (1 : Int32))]) (fun t_ k_ => XS.iloadN X5.here hx rfl (hb hby d9_10) rfl k_) ?_
  refine Go.st (pc' := 14) (S' := []) (fun t_ k_ => XS.icmpNo X5.here hx rfl (hb hby d9_11) rfl (tlt (by decide : ((1 : Int32) < (3 : Int32)))).2.1 k_) ?_
  refine Go.st (pc' := 15) (S' := [(.ref b1)]) (fun t_ k_ => XS.aloadN X5.here hx rfl (hb hby d9_14) rfl rfl k_) ?_
  refine Go.st (pc' := 16) (S' := [(.int (1 : Int32)), (.ref b1)]) (fun t_ k_ => XS.iloadN X5.here hx rfl (hb hby d9_15) rfl k_) ?_
  obtain ⟨cl6, Ar6, -, q6a, q6b, q6c, q6d⟩ := id Vb1
  refine Go.st (pc' := 17) (S' := [(.ref f1)]) (fun t_ k_ => X5.aaload hx (j := (1 : Int32)) (v := (.ref f1)) (by rw [e5]; exact Ar6.1) (State.isArrayOf_alike hZ.alike Ar6.2.1) rfl Ar6.2.2 (inb_of q6a ⟨by decide, by decide⟩) (q6c.at (inb_of q6a ⟨by decide, by decide⟩) rfl) (g := (mkF m 16 #[.val (.ref a1), .val (.ref b1), .val (.int (3 : Int32)), .val (.int (1 : Int32)), .val (.ref f0)] [(.int (1 : Int32)), (.ref b1)])) rfl rfl (hb hby d9_16) t_ k_) ?_
  refine Go.st (pc' := 19) (S' := []) (fun t_ k_ => XS.astore X5.here hx rfl (hb hby d9_17) rfl rfl (l' := #[.val (.ref a1), .val (.ref b1), .val (.int (3 : Int32)), .val (.int (1 : Int32)), .val (.ref f1)]) rfl k_) ?_
  refine Go.st (pc' := 21) (S' := [(.ref f1)]) (fun t_ k_ => XS.aload X5.here hx rfl (hb hby d9_19) rfl rfl k_) ?_
  obtain ⟨T7, X7, e7, st7⟩ := getF X5 hx hZ hown (host := "") (Or.inl (wd hw 69 rfl)) Via.refl e5 F_f1 (g := (mkF m 21 #[.val (.ref a1), .val (.ref b1), .val (.int (3 : Int32)), .val (.int (1 : Int32)), .val (.ref f1)] [(.ref f1)])) rfl rfl (hb hby d9_21)
  refine Go.st (pc' := 24) (S' := [(.ref ty1)]) st7 ?_
  refine Go.st (pc' := 25) (S' := [(.ref a1), (.ref ty1)]) (fun t_ k_ => XS.aloadN X7.here hx rfl (hb hby d9_24) rfl rfl k_) ?_
  obtain ⟨cq8, kq8, q8a, q8b, q8c⟩ := isOf hZ e7 E_ty1
  obtain ⟨_, _, ⟨T8, L8, k8, n8⟩, -, X8, ⟨Lc8, hQ8, l8, y8, z8⟩, st8⟩ := X7.virtualBack hx (y := (⟨"java/lang/String", "equals", "(Ljava/lang/Object;)Z"⟩ : MethodName)) (z := (⟨"java/lang/String", "equals", "(Ljava/lang/Object;)Z"⟩ : MethodName)) hown (mvT hZ (wd hw 71 rfl)) (mvT hZ (wd hw 35 rfl)) (notFace_of_selects (args := #[]) (mvT hZ (wd hw 37 rfl))) (mvT hZ (wd hw 37 rfl)) (mvT hZ (wd hw 36 rfl)) (by decide) (backOf (W := 0) (rmseq l Z a0 hw [] ty1 a1 u1 tx _ _ (([105, 110, 115, 116, 97, 108, 108, 109, 101, 110, 116, 115] : List Int32)) (X) (12) (n) gC h1 n0 Z0 SC PC O0 E_ty1 Fc_ty1 Fv_ty1 V_u1 E_a1 Fc_a1 Fv_a1 V_tx (by decide) hn13) hZ (wd hw 38 rfl) (wd hw 6 rfl) (by decide) (by decide)) q8a q8c (g := (mkF m 25 #[.val (.ref a1), .val (.ref b1), .val (.int (3 : Int32)), .val (.int (1 : Int32)), .val (.ref f1)] [(.ref a1), (.ref ty1)])) rfl (by rw [hml]; rfl) (Steps.refl _) (argsL := [(.ref a1)]) (rest := []) (lenOf pd_10 rfl) rfl (by show 2 * 0 + _ ≤ _; exact Nat.le_of_eq rfl) (hb hby d9_25) (fun _ _ => ⟨rfl, e7, (by decide : 1 + 0 ≤ _), (by decide : 3 + 0 ≤ _)⟩)
  dsimp only [Pt.U, Pt.locs, Pt.cells, Pt.slots] at X8 l8 y8 z8 st8 hQ8
  subst l8 y8 z8
  obtain ⟨rfl, N8q, e8⟩ := hQ8
  have N8 := Fr.app N5 N8q
  refine Go.tr (pc' := 28) (S' := [(.int (own_eq (([105, 110, 115, 116, 97, 108, 108, 109, 101, 110, 116, 115] : List Int32)) (12) (X) (n)))]) st8 ?_
  refine Go.st (pc' := 37) (S' := []) (fun t_ k_ => XS.ifYes X8.here hx rfl (pc0 := 28) (pc' := 37) rfl (hb hby d9_28) rfl ((if0 _ _).trans (teq ((own_eqs X n _ _).trans hq1 : ((own_eq (([105, 110, 115, 116, 97, 108, 108, 109, 101, 110, 116, 115] : List Int32)) (12) (X) (n)) = (0 : Int32)))).1) (by decide) (by decide) k_) ?_
  refine Go.st (pc' := 40) (S' := []) (fun t_ k_ => XS.iinc X8.here hx rfl (hb hby d9_37) rfl (l' := #[.val (.ref a1), .val (.ref b1), .val (.int (3 : Int32)), .val (.int ((1 : Int32) + (1 : Int32))), .val (.ref f1)]) rfl k_) ?_
  rw [show ((1 : Int32) + (1 : Int32)) = (2 : Int32) from by decide]
  refine Go.st (pc' := 9) (S' := []) (fun t_ k_ => XS.goto X8.here hx rfl (pc0 := 40) (pc' := 9) rfl (hb hby d9_40) (by decide) (by decide) k_) ?_
  refine Go.st (pc' := 10) (S' := [(.int (2 : Int32))]) (fun t_ k_ => XS.iloadN X8.here hx rfl (hb hby d9_9) rfl k_) ?_
  refine Go.st (pc' := 11) (S' := [(.int (3 : Int32)), (.int (2 : Int32))]) (fun t_ k_ => XS.iloadN X8.here hx rfl (hb hby d9_10) rfl k_) ?_
  refine Go.st (pc' := 14) (S' := []) (fun t_ k_ => XS.icmpNo X8.here hx rfl (hb hby d9_11) rfl (tlt (by decide : ((2 : Int32) < (3 : Int32)))).2.1 k_) ?_
  refine Go.st (pc' := 15) (S' := [(.ref b1)]) (fun t_ k_ => XS.aloadN X8.here hx rfl (hb hby d9_14) rfl rfl k_) ?_
  refine Go.st (pc' := 16) (S' := [(.int (2 : Int32)), (.ref b1)]) (fun t_ k_ => XS.iloadN X8.here hx rfl (hb hby d9_15) rfl k_) ?_
  obtain ⟨cl9, Ar9, -, q9a, q9b, q9c, q9d⟩ := id Vb1
  refine Go.st (pc' := 17) (S' := [(.ref f2)]) (fun t_ k_ => X8.aaload hx (j := (2 : Int32)) (v := (.ref f2)) (by rw [e8]; exact Ar9.1) (State.isArrayOf_alike hZ.alike Ar9.2.1) rfl Ar9.2.2 (inb_of q9a ⟨by decide, by decide⟩) (q9c.at (inb_of q9a ⟨by decide, by decide⟩) rfl) (g := (mkF m 16 #[.val (.ref a1), .val (.ref b1), .val (.int (3 : Int32)), .val (.int (2 : Int32)), .val (.ref f1)] [(.int (2 : Int32)), (.ref b1)])) rfl rfl (hb hby d9_16) t_ k_) ?_
  refine Go.st (pc' := 19) (S' := []) (fun t_ k_ => XS.astore X8.here hx rfl (hb hby d9_17) rfl rfl (l' := #[.val (.ref a1), .val (.ref b1), .val (.int (3 : Int32)), .val (.int (2 : Int32)), .val (.ref f2)]) rfl k_) ?_
  refine Go.st (pc' := 21) (S' := [(.ref f2)]) (fun t_ k_ => XS.aload X8.here hx rfl (hb hby d9_19) rfl rfl k_) ?_
  obtain ⟨T10, X10, e10, st10⟩ := getF X8 hx hZ hown (host := "") (Or.inl (wd hw 69 rfl)) Via.refl e8 F_f2 (g := (mkF m 21 #[.val (.ref a1), .val (.ref b1), .val (.int (3 : Int32)), .val (.int (2 : Int32)), .val (.ref f2)] [(.ref f2)])) rfl rfl (hb hby d9_21)
  refine Go.st (pc' := 24) (S' := [(.ref ty2)]) st10 ?_
  refine Go.st (pc' := 25) (S' := [(.ref a1), (.ref ty2)]) (fun t_ k_ => XS.aloadN X10.here hx rfl (hb hby d9_24) rfl rfl k_) ?_
  obtain ⟨cq11, kq11, q11a, q11b, q11c⟩ := isOf hZ e10 E_ty2
  obtain ⟨_, _, ⟨T11, L11, k11, n11⟩, -, X11, ⟨Lc11, hQ11, l11, y11, z11⟩, st11⟩ := X10.virtualBack hx (y := (⟨"java/lang/String", "equals", "(Ljava/lang/Object;)Z"⟩ : MethodName)) (z := (⟨"java/lang/String", "equals", "(Ljava/lang/Object;)Z"⟩ : MethodName)) hown (mvT hZ (wd hw 71 rfl)) (mvT hZ (wd hw 35 rfl)) (notFace_of_selects (args := #[]) (mvT hZ (wd hw 37 rfl))) (mvT hZ (wd hw 37 rfl)) (mvT hZ (wd hw 36 rfl)) (by decide) (backOf (W := 0) (rmseq l Z a0 hw [] ty2 a1 u2 tx _ _ (([108, 105, 102, 101, 45, 97, 110, 110, 117, 105, 116, 121] : List Int32)) (X) (12) (n) gC h1 n0 Z0 SC PC O0 E_ty2 Fc_ty2 Fv_ty2 V_u2 E_a1 Fc_a1 Fv_a1 V_tx (by decide) hn13) hZ (wd hw 38 rfl) (wd hw 6 rfl) (by decide) (by decide)) q11a q11c (g := (mkF m 25 #[.val (.ref a1), .val (.ref b1), .val (.int (3 : Int32)), .val (.int (2 : Int32)), .val (.ref f2)] [(.ref a1), (.ref ty2)])) rfl (by rw [hml]; rfl) (Steps.refl _) (argsL := [(.ref a1)]) (rest := []) (lenOf pd_10 rfl) rfl (by show 2 * 0 + _ ≤ _; exact Nat.le_of_eq rfl) (hb hby d9_25) (fun _ _ => ⟨rfl, e10, (by decide : 1 + 0 ≤ _), (by decide : 3 + 0 ≤ _)⟩)
  dsimp only [Pt.U, Pt.locs, Pt.cells, Pt.slots] at X11 l11 y11 z11 st11 hQ11
  subst l11 y11 z11
  obtain ⟨rfl, N11q, e11⟩ := hQ11
  have N11 := Fr.app N8 N11q
  refine Go.tr (pc' := 28) (S' := [(.int (own_eq (([108, 105, 102, 101, 45, 97, 110, 110, 117, 105, 116, 121] : List Int32)) (12) (X) (n)))]) st11 ?_
  refine Go.st (pc' := 31) (S' := []) (fun t_ k_ => XS.ifNo X11.here hx rfl (hb hby d9_28) rfl ((if0 _ _).trans (feq (by rw [own_eqs X n, hq2]; decide : ¬ ((own_eq (([108, 105, 102, 101, 45, 97, 110, 110, 117, 105, 116, 121] : List Int32)) (12) (X) (n)) = (0 : Int32)))).1) k_) ?_
  refine Go.st (pc' := 33) (S' := [(.ref f2)]) (fun t_ k_ => XS.aload X11.here hx rfl (hb hby d9_31) rfl rfl k_) ?_
  obtain ⟨_, _, ⟨T12, L12, k12, n12⟩, -, X12, ⟨Lc12, hQ12, l12, y12, z12⟩, st12⟩ := Jvm.LawKit.callS X11 hx (y := (⟨"java/util/Optional", "of", "(Ljava/lang/Object;)Ljava/util/Optional;"⟩ : MethodName)) hown (mvT hZ (wd hw 129 rfl)) (mvT hZ (wd hw 130 rfl)) (mvT hZ (wd hw 74 rfl)) (mvT hZ (wd hw 131 rfl)) (by decide) (backOf (W := 0) (rmoof l Z a0 hw [] f2 h1 n0 Z0) hZ (wd hw 131 rfl) (wd hw 74 rfl) (by decide) (by decide)) (g := (mkF m 33 #[.val (.ref a1), .val (.ref b1), .val (.int (3 : Int32)), .val (.int (2 : Int32)), .val (.ref f2)] [(.ref f2)])) rfl (by rw [hml]; rfl) (argsL := [(.ref f2)]) (rest := []) (lenOf pd_14 rfl) rfl (by show 2 * 0 + _ ≤ _; exact Nat.le_of_eq rfl) (hb hby d9_33) (fun _ _ => ⟨rfl, e11, (by decide : 1 + 1 ≤ _), (by decide : 3 + 1 ≤ _)⟩)
  dsimp only [Pt.U, Pt.locs, Pt.cells, Pt.slots] at X12 l12 y12 z12 st12 hQ12
  subst l12 y12 z12
  obtain ⟨b12, rfl, N12q, K12, g_b12, E12, F12⟩ := hQ12
  have N12 := Fr.app N11 N12q
  obtain ⟨h12, e12⟩ : ∃ z, T12.heap = z := ⟨_, rfl⟩
  rw [e12] at K12 E12 F12
  replace Z0 := Nat.le_trans Z0 K12.1
  replace K0 := K0.trans K12 all0
  replace O0 := O0.keep K12 all0
  replace E_a1 := E_a1.keep K12
  replace Fc_a1 := Fc_a1.keep K12 nin0
  replace Fv_a1 := Fv_a1.keep K12 nin0
  replace V_tx := V_tx.keep K12 nin0
  replace E_f0 := E_f0.keep K12
  replace F_f0 := F_f0.keep K12 nin0
  replace E_ty0 := E_ty0.keep K12
  replace Fc_ty0 := Fc_ty0.keep K12 nin0
  replace Fv_ty0 := Fv_ty0.keep K12 nin0
  replace V_u0 := V_u0.keep K12 nin0
  replace E_f1 := E_f1.keep K12
  replace F_f1 := F_f1.keep K12 nin0
  replace E_ty1 := E_ty1.keep K12
  replace Fc_ty1 := Fc_ty1.keep K12 nin0
  replace Fv_ty1 := Fv_ty1.keep K12 nin0
  replace V_u1 := V_u1.keep K12 nin0
  replace E_f2 := E_f2.keep K12
  replace F_f2 := F_f2.keep K12 nin0
  replace E_ty2 := E_ty2.keep K12
  replace Fc_ty2 := Fc_ty2.keep K12 nin0
  replace Fv_ty2 := Fv_ty2.keep K12 nin0
  replace V_u2 := V_u2.keep K12 nin0
  replace Vb1 := Vb1.keep K12 nin0
  refine Go.st (pc' := 36) (S' := [(.ref b12)]) st12 ?_
  exact Go.retO X12 hx hlk hret rfl (by simp [FieldType.isReference, Value.isRef]) (hb hby d9_36) (by decide) (by decide) (by rw [e12]; exact ⟨b12, rfl, N12, K0, g_b12, E12, F12⟩)
theorem d9_43 : decode prog_47_method_5_code 43 = .ok (.invokestatic 52, 3) := by decide +kernel
theorem d9_46 : decode prog_47_method_5_code 46 = .ok (.areturn, 1) := by decide +kernel
theorem pd_15 : parseMethodDescriptor "()Ljava/util/Optional;" = some ⟨[], some (.object "java/util/Optional")⟩ := by decide +kernel
def Qnam3 (Z : State) (f0 f1 f2 em : Addr) (h0 : Heap) (n0 : Nat) (v : Option Value) (h : Heap) (L : List Loc) : Prop := v = some (.ref em) ∧ Fr n0 L ∧ Keep h0 h []
def roomnam3 : Room := { frames := 2, cells := 1, slots := 3, locals := 28 }
theorem rmnam3 (l : Launch) (Z : State) (a0 : Array Value) (hw : ∀ d ∈ tables_1, d.before a0 Z = true) (ws : List Jvm.Cond) (a1 tx : Addr) (kx : ClassId) (X : List Int32) (n : Nat) (va f0 f1 f2 ty0 ty1 ty2 u0 u1 u2 : Addr) (kva kv0 kv1 kv2 : ClassId) (em : Addr) (gC : Int32) (h0 : Heap) (n0 : Nat) (Z0 : n0 ≤ h0.size) (SC : Sta Z Z.heap "java/lang/String" "COMPACT_STRINGS" "Z" (.int gC)) (PC : ¬ (gC = (0 : Int32))) (O0 : Old Z n0 h0) (S0 : Sta Z Z.heap "com/example/vestry/vestry/io/PaymentForm" "LUMP_SUM" "Lcom/example/vestry/vestry/io/PaymentForm;" (.ref f0)) (S1 : Sta Z Z.heap "com/example/vestry/vestry/io/PaymentForm" "INSTALLMENTS" "Lcom/example/vestry/vestry/io/PaymentForm;" (.ref f1)) (S2 : Sta Z Z.heap "com/example/vestry/vestry/io/PaymentForm" "LIFE_ANNUITY" "Lcom/example/vestry/vestry/io/PaymentForm;" (.ref f2)) (SV : Sta Z Z.heap "com/example/vestry/vestry/io/PaymentForm" "$VALUES" "[Lcom/example/vestry/vestry/io/PaymentForm;" (.ref va)) (SE : Sta Z Z.heap "java/util/Optional" "EMPTY" "Ljava/util/Optional;" (.ref em)) (pf : own_PF Z va f0 f1 f2 ty0 ty1 ty2 u0 u1 u2 kva kv0 kv1 kv2) (E_a1 : Exa Z h0 a1 "java/lang/String") (Fc_a1 : Fld Z h0 a1 "java/lang/String" "coder" "B" (.int (0 : Int32))) (Fv_a1 : Fld Z h0 a1 "java/lang/String" "value" "[B" (.ref tx)) (V_tx : Arv Z h0 tx kx .byte (n.toInt32) (X.map Value.int) (.int (0 : Int32))) (hn13 : n ≤ 13) (hq0 : own_eq X n ([108, 117, 109, 112, 45, 115, 117, 109] : List Int32) 8 = 0) (hq1 : own_eq X n ([105, 110, 115, 116, 97, 108, 108, 109, 101, 110, 116, 115] : List Int32) 12 = 0) (hq2 : own_eq X n ([108, 105, 102, 101, 45, 97, 110, 110, 117, 105, 116, 121] : List Int32) 12 = 0) :
    MetFree l (⟨"com/example/vestry/vestry/io/PaymentForm", "named", "(Ljava/lang/String;)Ljava/util/Optional;"⟩ : MethodName) (head1 (Jvm.Cond.code (⟨"com/example/vestry/vestry/io/PaymentForm", "named", "(Ljava/lang/String;)Ljava/util/Optional;"⟩ : MethodName) prog_47_method_5_code 5 (some (.object "java/util/Optional")) :: ws) roomnam3) (fun aa_ U_ => aa_ = #[(.ref a1)] ∧ Z.Warmed39 U_.vm ∧ U_.heap = h0) (fun _ _ _ _ _ => True) (fun _ U_ o_ W_ => ∃ v_ L_, o_ = .returned v_ ∧ (Qnam3 Z f0 f1 f2 em h0 n0) v_ W_.heap L_ ∧ FrameEnd U_ o_ W_ L_ roomnam3.cells roomnam3.slots) := by
  refine own_met (Q := (Qnam3 Z f0 f1 f2 em h0 n0)) (L0 := #[.val (.ref a1), .unset, .unset, .unset, .unset]) (plainFor_of_name pn_4) (fun m => by first | (simp [entryFrame, mkF, argsToLocals, Value.category]; done) | rfl) ?_
  intro p e s m below meth c T0 X0 hx hby hml hown hnm hret hlk hZ e0
  have N0 := Fr.nil n0
  obtain ⟨E_va, V_va, E_f0, F_f0, E_ty0, Fc_ty0, Fv_ty0, V_u0, E_f1, F_f1, E_ty1, Fc_ty1, Fv_ty1, V_u1, E_f2, F_f2, E_ty2, Fc_ty2, Fv_ty2, V_u2⟩ := id pf
  have K0 := Keep.refl h0 []
  replace E_f0 := Exa.ext O0.2 E_f0
  replace F_f0 := Fld.ext O0.2 F_f0
  replace E_ty0 := Exa.ext O0.2 E_ty0
  replace Fc_ty0 := Fld.ext O0.2 Fc_ty0
  replace Fv_ty0 := Fld.ext O0.2 Fv_ty0
  replace V_u0 := Arv.ext V_u0 O0.2
  replace E_f1 := Exa.ext O0.2 E_f1
  replace F_f1 := Fld.ext O0.2 F_f1
  replace E_ty1 := Exa.ext O0.2 E_ty1
  replace Fc_ty1 := Fld.ext O0.2 Fc_ty1
  replace Fv_ty1 := Fld.ext O0.2 Fv_ty1
  replace V_u1 := Arv.ext V_u1 O0.2
  replace E_f2 := Exa.ext O0.2 E_f2
  replace F_f2 := Fld.ext O0.2 F_f2
  replace E_ty2 := Exa.ext O0.2 E_ty2
  replace Fc_ty2 := Fld.ext O0.2 Fc_ty2
  replace Fv_ty2 := Fld.ext O0.2 Fv_ty2
  replace V_u2 := Arv.ext V_u2 O0.2
  obtain ⟨_, _, ⟨T1, L1, k1, n1⟩, -, X1, ⟨Lc1, hQ1, l1, y1, z1⟩, st1⟩ := Jvm.LawKit.callS X0 hx (y := (⟨"com/example/vestry/vestry/io/PaymentForm", "values", "()[Lcom/example/vestry/vestry/io/PaymentForm;"⟩ : MethodName)) hown (mvT hZ (wd hw 51 rfl)) (mvT hZ (wd hw 52 rfl)) (mvT hZ (wd hw 49 rfl)) (mvT hZ (wd hw 53 rfl)) (by decide) (backOf (W := 0) (rmvals l Z a0 hw [] va f0 f1 f2 ty0 ty1 ty2 u0 u1 u2 kva kv0 kv1 kv2 em h0 n0 Z0 O0 S0 S1 S2 SV SE pf) hZ (wd hw 53 rfl) (wd hw 49 rfl) (by decide) (by decide)) (g := (mkF m 0 #[.val (.ref a1), .unset, .unset, .unset, .unset] [])) rfl (by rw [hml]; rfl) (argsL := []) (rest := []) (lenOf pd_13 rfl) rfl (by show 2 * 0 + _ ≤ _; exact Nat.le_of_eq rfl) (hb hby d9_0) (fun _ _ => ⟨rfl, e0, (by decide : 0 + 1 ≤ _), (by decide : 0 + 3 ≤ _)⟩)
  dsimp only [Pt.U, Pt.locs, Pt.cells, Pt.slots] at X1 l1 y1 z1 st1 hQ1
  subst l1 y1 z1
  obtain ⟨b1, kb1, rfl, N1q, K1, g_b1, lt1, Vb1⟩ := hQ1
  have N1 := Fr.app N0 N1q
  have ne_a1_b1 : a1 ≠ b1 := Nat.ne_of_lt (Nat.lt_of_lt_of_le E_a1.lt lt1)
  have ne_tx_b1 : tx ≠ b1 := Nat.ne_of_lt (Nat.lt_of_lt_of_le V_tx.lt lt1)
  have ne_f0_b1 : f0 ≠ b1 := Nat.ne_of_lt (Nat.lt_of_lt_of_le E_f0.lt lt1)
  have ne_ty0_b1 : ty0 ≠ b1 := Nat.ne_of_lt (Nat.lt_of_lt_of_le E_ty0.lt lt1)
  have ne_u0_b1 : u0 ≠ b1 := Nat.ne_of_lt (Nat.lt_of_lt_of_le V_u0.lt lt1)
  have ne_f1_b1 : f1 ≠ b1 := Nat.ne_of_lt (Nat.lt_of_lt_of_le E_f1.lt lt1)
  have ne_ty1_b1 : ty1 ≠ b1 := Nat.ne_of_lt (Nat.lt_of_lt_of_le E_ty1.lt lt1)
  have ne_u1_b1 : u1 ≠ b1 := Nat.ne_of_lt (Nat.lt_of_lt_of_le V_u1.lt lt1)
  have ne_f2_b1 : f2 ≠ b1 := Nat.ne_of_lt (Nat.lt_of_lt_of_le E_f2.lt lt1)
  have ne_ty2_b1 : ty2 ≠ b1 := Nat.ne_of_lt (Nat.lt_of_lt_of_le E_ty2.lt lt1)
  have ne_u2_b1 : u2 ≠ b1 := Nat.ne_of_lt (Nat.lt_of_lt_of_le V_u2.lt lt1)
  have sz_b1 : h0.size ≤ b1 := Nat.le_trans K0.1 lt1
  obtain ⟨h1, e1⟩ : ∃ z, T1.heap = z := ⟨_, rfl⟩
  rw [e1] at K1 Vb1
  replace Z0 := Nat.le_trans Z0 K1.1
  replace K0 := K0.trans K1 all0
  replace O0 := O0.keep K1 all0
  replace E_a1 := E_a1.keep K1
  replace Fc_a1 := Fc_a1.keep K1 nin0
  replace Fv_a1 := Fv_a1.keep K1 nin0
  replace V_tx := V_tx.keep K1 nin0
  replace E_f0 := E_f0.keep K1
  replace F_f0 := F_f0.keep K1 nin0
  replace E_ty0 := E_ty0.keep K1
  replace Fc_ty0 := Fc_ty0.keep K1 nin0
  replace Fv_ty0 := Fv_ty0.keep K1 nin0
  replace V_u0 := V_u0.keep K1 nin0
  replace E_f1 := E_f1.keep K1
  replace F_f1 := F_f1.keep K1 nin0
  replace E_ty1 := E_ty1.keep K1
  replace Fc_ty1 := Fc_ty1.keep K1 nin0
  replace Fv_ty1 := Fv_ty1.keep K1 nin0
  replace V_u1 := V_u1.keep K1 nin0
  replace E_f2 := E_f2.keep K1
  replace F_f2 := F_f2.keep K1 nin0
  replace E_ty2 := E_ty2.keep K1
  replace Fc_ty2 := Fc_ty2.keep K1 nin0
  replace Fv_ty2 := Fv_ty2.keep K1 nin0
  replace V_u2 := V_u2.keep K1 nin0
  refine Go.st (pc' := 3) (S' := [(.ref b1)]) st1 ?_
  refine Go.st (pc' := 4) (S' := []) (fun t_ k_ => XS.astoreN X1.here hx rfl (hb hby d9_3) rfl rfl (l' := #[.val (.ref a1), .val (.ref b1), .unset, .unset, .unset]) rfl k_) ?_
  refine Go.st (pc' := 5) (S' := [(.ref b1)]) (fun t_ k_ => XS.aloadN X1.here hx rfl (hb hby d9_4) rfl rfl k_) ?_
  obtain ⟨cl2, Ar2, -, q2a, q2b, -, -⟩ := id Vb1
  refine Go.st (pc' := 6) (S' := [(.int (3 : Int32))]) (fun t_ k_ => own_len X1 hx hZ e1 Ar2 q2a q2b (g := (mkF m 5 #[.val (.ref a1), .val (.ref b1), .unset, .unset, .unset] [(.ref b1)])) rfl rfl (hb hby d9_5) t_ k_) ?_
  refine Go.st (pc' := 7) (S' := []) (fun t_ k_ => XS.istoreN X1.here hx rfl (hb hby d9_6) rfl (l' := #[.val (.ref a1), .val (.ref b1), .val (.int (3 : Int32)), .unset, .unset]) rfl k_) ?_
  refine Go.st (pc' := 8) (S' := [(.int (0 : Int32))]) (fun t_ k_ => XS.iconst X1.here hx rfl (hb hby d9_7) k_) ?_
  refine Go.st (pc' := 9) (S' := []) (fun t_ k_ => XS.istoreN X1.here hx rfl (hb hby d9_8) rfl (l' := #[.val (.ref a1), .val (.ref b1), .val (.int (3 : Int32)), .val (.int (0 : Int32)), .unset]) rfl k_) ?_
  refine Go.st (pc' := 10) (S' := [(.int (0 : Int32))]) (fun t_ k_ => XS.iloadN X1.here hx rfl (hb hby d9_9) rfl k_) ?_
  refine Go.st (pc' := 11) (S' := [(.int (3 : Int32)), (.int (0 : Int32))]) (fun t_ k_ => XS.iloadN X1.here hx rfl (hb hby d9_10) rfl k_) ?_
  refine Go.st (pc' := 14) (S' := []) (fun t_ k_ => XS.icmpNo X1.here hx rfl (hb hby d9_11) rfl (tlt (by decide : ((0 : Int32) < (3 : Int32)))).2.1 k_) ?_
  refine Go.st (pc' := 15) (S' := [(.ref b1)]) (fun t_ k_ => XS.aloadN X1.here hx rfl (hb hby d9_14) rfl rfl k_) ?_
  refine Go.st (pc' := 16) (S' := [(.int (0 : Int32)), (.ref b1)]) (fun t_ k_ => XS.iloadN X1.here hx rfl (hb hby d9_15) rfl k_) ?_
  obtain ⟨cl3, Ar3, -, q3a, q3b, q3c, q3d⟩ := id Vb1
  refine Go.st (pc' := 17) (S' := [(.ref f0)]) (fun t_ k_ => X1.aaload hx (j := (0 : Int32)) (v := (.ref f0)) (by rw [e1]; exact Ar3.1) (State.isArrayOf_alike hZ.alike Ar3.2.1) rfl Ar3.2.2 (inb_of q3a ⟨by decide, by decide⟩) (q3c.at (inb_of q3a ⟨by decide, by decide⟩) rfl) (g := (mkF m 16 #[.val (.ref a1), .val (.ref b1), .val (.int (3 : Int32)), .val (.int (0 : Int32)), .unset] [(.int (0 : Int32)), (.ref b1)])) rfl rfl (hb hby d9_16) t_ k_) ?_
  refine Go.st (pc' := 19) (S' := []) (fun t_ k_ => XS.astore X1.here hx rfl (hb hby d9_17) rfl rfl (l' := #[.val (.ref a1), .val (.ref b1), .val (.int (3 : Int32)), .val (.int (0 : Int32)), .val (.ref f0)]) rfl k_) ?_
  refine Go.st (pc' := 21) (S' := [(.ref f0)]) (fun t_ k_ => XS.aload X1.here hx rfl (hb hby d9_19) rfl rfl k_) ?_
  obtain ⟨T4, X4, e4, st4⟩ := getF X1 hx hZ hown (host := "") (Or.inl (wd hw 69 rfl)) Via.refl e1 F_f0 (g := (mkF m 21 #[.val (.ref a1), .val (.ref b1), .val (.int (3 : Int32)), .val (.int (0 : Int32)), .val (.ref f0)] [(.ref f0)])) rfl rfl (hb hby d9_21)
  refine Go.st (pc' := 24) (S' := [(.ref ty0)]) st4 ?_
  refine Go.st (pc' := 25) (S' := [(.ref a1), (.ref ty0)]) (fun t_ k_ => XS.aloadN X4.here hx rfl (hb hby d9_24) rfl rfl k_) ?_
  obtain ⟨cq5, kq5, q5a, q5b, q5c⟩ := isOf hZ e4 E_ty0
  obtain ⟨_, _, ⟨T5, L5, k5, n5⟩, -, X5, ⟨Lc5, hQ5, l5, y5, z5⟩, st5⟩ := X4.virtualBack hx (y := (⟨"java/lang/String", "equals", "(Ljava/lang/Object;)Z"⟩ : MethodName)) (z := (⟨"java/lang/String", "equals", "(Ljava/lang/Object;)Z"⟩ : MethodName)) hown (mvT hZ (wd hw 71 rfl)) (mvT hZ (wd hw 35 rfl)) (notFace_of_selects (args := #[]) (mvT hZ (wd hw 37 rfl))) (mvT hZ (wd hw 37 rfl)) (mvT hZ (wd hw 36 rfl)) (by decide) (backOf (W := 0) (rmseq l Z a0 hw [] ty0 a1 u0 tx _ _ (([108, 117, 109, 112, 45, 115, 117, 109] : List Int32)) (X) (8) (n) gC h1 n0 Z0 SC PC O0 E_ty0 Fc_ty0 Fv_ty0 V_u0 E_a1 Fc_a1 Fv_a1 V_tx (by decide) hn13) hZ (wd hw 38 rfl) (wd hw 6 rfl) (by decide) (by decide)) q5a q5c (g := (mkF m 25 #[.val (.ref a1), .val (.ref b1), .val (.int (3 : Int32)), .val (.int (0 : Int32)), .val (.ref f0)] [(.ref a1), (.ref ty0)])) rfl (by rw [hml]; rfl) (Steps.refl _) (argsL := [(.ref a1)]) (rest := []) (lenOf pd_10 rfl) rfl (by show 2 * 0 + _ ≤ _; exact Nat.le_of_eq rfl) (hb hby d9_25) (fun _ _ => ⟨rfl, e4, (by decide : 1 + 0 ≤ _), (by decide : 3 + 0 ≤ _)⟩)
  dsimp only [Pt.U, Pt.locs, Pt.cells, Pt.slots] at X5 l5 y5 z5 st5 hQ5
  subst l5 y5 z5
  obtain ⟨rfl, N5q, e5⟩ := hQ5
  have N5 := Fr.app N1 N5q
  refine Go.tr (pc' := 28) (S' := [(.int (own_eq (([108, 117, 109, 112, 45, 115, 117, 109] : List Int32)) (8) (X) (n)))]) st5 ?_
  refine Go.st (pc' := 37) (S' := []) (fun t_ k_ => XS.ifYes X5.here hx rfl (pc0 := 28) (pc' := 37) rfl (hb hby d9_28) rfl ((if0 _ _).trans (teq ((own_eqs X n _ _).trans hq0 : ((own_eq (([108, 117, 109, 112, 45, 115, 117, 109] : List Int32)) (8) (X) (n)) = (0 : Int32)))).1) (by decide) (by decide) k_) ?_
  refine Go.st (pc' := 40) (S' := []) (fun t_ k_ => XS.iinc X5.here hx rfl (hb hby d9_37) rfl (l' := #[.val (.ref a1), .val (.ref b1), .val (.int (3 : Int32)), .val (.int ((0 : Int32) + (1 : Int32))), .val (.ref f0)]) rfl k_) ?_
  rw [show ((0 : Int32) + (1 : Int32)) = (1 : Int32) from by decide]
  refine Go.st (pc' := 9) (S' := []) (fun t_ k_ => XS.goto X5.here hx rfl (pc0 := 40) (pc' := 9) rfl (hb hby d9_40) (by decide) (by decide) k_) ?_
  refine Go.st (pc' := 10) (S' := [(.int (1 : Int32))]) (fun t_ k_ => XS.iloadN X5.here hx rfl (hb hby d9_9) rfl k_) ?_
  refine Go.st (pc' := 11) (S' := [(.int (3 : Int32)), (.int (1 : Int32))]) (fun t_ k_ => XS.iloadN X5.here hx rfl (hb hby d9_10) rfl k_) ?_
  refine Go.st (pc' := 14) (S' := []) (fun t_ k_ => XS.icmpNo X5.here hx rfl (hb hby d9_11) rfl (tlt (by decide : ((1 : Int32) < (3 : Int32)))).2.1 k_) ?_
  refine Go.st (pc' := 15) (S' := [(.ref b1)]) (fun t_ k_ => XS.aloadN X5.here hx rfl (hb hby d9_14) rfl rfl k_) ?_
  refine Go.st (pc' := 16) (S' := [(.int (1 : Int32)), (.ref b1)]) (fun t_ k_ => XS.iloadN X5.here hx rfl (hb hby d9_15) rfl k_) ?_
  obtain ⟨cl6, Ar6, -, q6a, q6b, q6c, q6d⟩ := id Vb1
  refine Go.st (pc' := 17) (S' := [(.ref f1)]) (fun t_ k_ => X5.aaload hx (j := (1 : Int32)) (v := (.ref f1)) (by rw [e5]; exact Ar6.1) (State.isArrayOf_alike hZ.alike Ar6.2.1) rfl Ar6.2.2 (inb_of q6a ⟨by decide, by decide⟩) (q6c.at (inb_of q6a ⟨by decide, by decide⟩) rfl) (g := (mkF m 16 #[.val (.ref a1), .val (.ref b1), .val (.int (3 : Int32)), .val (.int (1 : Int32)), .val (.ref f0)] [(.int (1 : Int32)), (.ref b1)])) rfl rfl (hb hby d9_16) t_ k_) ?_
  refine Go.st (pc' := 19) (S' := []) (fun t_ k_ => XS.astore X5.here hx rfl (hb hby d9_17) rfl rfl (l' := #[.val (.ref a1), .val (.ref b1), .val (.int (3 : Int32)), .val (.int (1 : Int32)), .val (.ref f1)]) rfl k_) ?_
  refine Go.st (pc' := 21) (S' := [(.ref f1)]) (fun t_ k_ => XS.aload X5.here hx rfl (hb hby d9_19) rfl rfl k_) ?_
  obtain ⟨T7, X7, e7, st7⟩ := getF X5 hx hZ hown (host := "") (Or.inl (wd hw 69 rfl)) Via.refl e5 F_f1 (g := (mkF m 21 #[.val (.ref a1), .val (.ref b1), .val (.int (3 : Int32)), .val (.int (1 : Int32)), .val (.ref f1)] [(.ref f1)])) rfl rfl (hb hby d9_21)
  refine Go.st (pc' := 24) (S' := [(.ref ty1)]) st7 ?_
  refine Go.st (pc' := 25) (S' := [(.ref a1), (.ref ty1)]) (fun t_ k_ => XS.aloadN X7.here hx rfl (hb hby d9_24) rfl rfl k_) ?_
  obtain ⟨cq8, kq8, q8a, q8b, q8c⟩ := isOf hZ e7 E_ty1
  obtain ⟨_, _, ⟨T8, L8, k8, n8⟩, -, X8, ⟨Lc8, hQ8, l8, y8, z8⟩, st8⟩ := X7.virtualBack hx (y := (⟨"java/lang/String", "equals", "(Ljava/lang/Object;)Z"⟩ : MethodName)) (z := (⟨"java/lang/String", "equals", "(Ljava/lang/Object;)Z"⟩ : MethodName)) hown (mvT hZ (wd hw 71 rfl)) (mvT hZ (wd hw 35 rfl)) (notFace_of_selects (args := #[]) (mvT hZ (wd hw 37 rfl))) (mvT hZ (wd hw 37 rfl)) (mvT hZ (wd hw 36 rfl)) (by decide) (backOf (W := 0) (rmseq l Z a0 hw [] ty1 a1 u1 tx _ _ (([105, 110, 115, 116, 97, 108, 108, 109, 101, 110, 116, 115] : List Int32)) (X) (12) (n) gC h1 n0 Z0 SC PC O0 E_ty1 Fc_ty1 Fv_ty1 V_u1 E_a1 Fc_a1 Fv_a1 V_tx (by decide) hn13) hZ (wd hw 38 rfl) (wd hw 6 rfl) (by decide) (by decide)) q8a q8c (g := (mkF m 25 #[.val (.ref a1), .val (.ref b1), .val (.int (3 : Int32)), .val (.int (1 : Int32)), .val (.ref f1)] [(.ref a1), (.ref ty1)])) rfl (by rw [hml]; rfl) (Steps.refl _) (argsL := [(.ref a1)]) (rest := []) (lenOf pd_10 rfl) rfl (by show 2 * 0 + _ ≤ _; exact Nat.le_of_eq rfl) (hb hby d9_25) (fun _ _ => ⟨rfl, e7, (by decide : 1 + 0 ≤ _), (by decide : 3 + 0 ≤ _)⟩)
  dsimp only [Pt.U, Pt.locs, Pt.cells, Pt.slots] at X8 l8 y8 z8 st8 hQ8
  subst l8 y8 z8
  obtain ⟨rfl, N8q, e8⟩ := hQ8
  have N8 := Fr.app N5 N8q
  refine Go.tr (pc' := 28) (S' := [(.int (own_eq (([105, 110, 115, 116, 97, 108, 108, 109, 101, 110, 116, 115] : List Int32)) (12) (X) (n)))]) st8 ?_
  refine Go.st (pc' := 37) (S' := []) (fun t_ k_ => XS.ifYes X8.here hx rfl (pc0 := 28) (pc' := 37) rfl (hb hby d9_28) rfl ((if0 _ _).trans (teq ((own_eqs X n _ _).trans hq1 : ((own_eq (([105, 110, 115, 116, 97, 108, 108, 109, 101, 110, 116, 115] : List Int32)) (12) (X) (n)) = (0 : Int32)))).1) (by decide) (by decide) k_) ?_
  refine Go.st (pc' := 40) (S' := []) (fun t_ k_ => XS.iinc X8.here hx rfl (hb hby d9_37) rfl (l' := #[.val (.ref a1), .val (.ref b1), .val (.int (3 : Int32)), .val (.int ((1 : Int32) + (1 : Int32))), .val (.ref f1)]) rfl k_) ?_
  rw [show ((1 : Int32) + (1 : Int32)) = (2 : Int32) from by decide]
  refine Go.st (pc' := 9) (S' := []) (fun t_ k_ => XS.goto X8.here hx rfl (pc0 := 40) (pc' := 9) rfl (hb hby d9_40) (by decide) (by decide) k_) ?_
  refine Go.st (pc' := 10) (S' := [(.int (2 : Int32))]) (fun t_ k_ => XS.iloadN X8.here hx rfl (hb hby d9_9) rfl k_) ?_
  refine Go.st (pc' := 11) (S' := [(.int (3 : Int32)), (.int (2 : Int32))]) (fun t_ k_ => XS.iloadN X8.here hx rfl (hb hby d9_10) rfl k_) ?_
  refine Go.st (pc' := 14) (S' := []) (fun t_ k_ => XS.icmpNo X8.here hx rfl (hb hby d9_11) rfl (tlt (by decide : ((2 : Int32) < (3 : Int32)))).2.1 k_) ?_
  refine Go.st (pc' := 15) (S' := [(.ref b1)]) (fun t_ k_ => XS.aloadN X8.here hx rfl (hb hby d9_14) rfl rfl k_) ?_
  refine Go.st (pc' := 16) (S' := [(.int (2 : Int32)), (.ref b1)]) (fun t_ k_ => XS.iloadN X8.here hx rfl (hb hby d9_15) rfl k_) ?_
  obtain ⟨cl9, Ar9, -, q9a, q9b, q9c, q9d⟩ := id Vb1
  refine Go.st (pc' := 17) (S' := [(.ref f2)]) (fun t_ k_ => X8.aaload hx (j := (2 : Int32)) (v := (.ref f2)) (by rw [e8]; exact Ar9.1) (State.isArrayOf_alike hZ.alike Ar9.2.1) rfl Ar9.2.2 (inb_of q9a ⟨by decide, by decide⟩) (q9c.at (inb_of q9a ⟨by decide, by decide⟩) rfl) (g := (mkF m 16 #[.val (.ref a1), .val (.ref b1), .val (.int (3 : Int32)), .val (.int (2 : Int32)), .val (.ref f1)] [(.int (2 : Int32)), (.ref b1)])) rfl rfl (hb hby d9_16) t_ k_) ?_
  refine Go.st (pc' := 19) (S' := []) (fun t_ k_ => XS.astore X8.here hx rfl (hb hby d9_17) rfl rfl (l' := #[.val (.ref a1), .val (.ref b1), .val (.int (3 : Int32)), .val (.int (2 : Int32)), .val (.ref f2)]) rfl k_) ?_
  refine Go.st (pc' := 21) (S' := [(.ref f2)]) (fun t_ k_ => XS.aload X8.here hx rfl (hb hby d9_19) rfl rfl k_) ?_
  obtain ⟨T10, X10, e10, st10⟩ := getF X8 hx hZ hown (host := "") (Or.inl (wd hw 69 rfl)) Via.refl e8 F_f2 (g := (mkF m 21 #[.val (.ref a1), .val (.ref b1), .val (.int (3 : Int32)), .val (.int (2 : Int32)), .val (.ref f2)] [(.ref f2)])) rfl rfl (hb hby d9_21)
  refine Go.st (pc' := 24) (S' := [(.ref ty2)]) st10 ?_
  refine Go.st (pc' := 25) (S' := [(.ref a1), (.ref ty2)]) (fun t_ k_ => XS.aloadN X10.here hx rfl (hb hby d9_24) rfl rfl k_) ?_
  obtain ⟨cq11, kq11, q11a, q11b, q11c⟩ := isOf hZ e10 E_ty2
  obtain ⟨_, _, ⟨T11, L11, k11, n11⟩, -, X11, ⟨Lc11, hQ11, l11, y11, z11⟩, st11⟩ := X10.virtualBack hx (y := (⟨"java/lang/String", "equals", "(Ljava/lang/Object;)Z"⟩ : MethodName)) (z := (⟨"java/lang/String", "equals", "(Ljava/lang/Object;)Z"⟩ : MethodName)) hown (mvT hZ (wd hw 71 rfl)) (mvT hZ (wd hw 35 rfl)) (notFace_of_selects (args := #[]) (mvT hZ (wd hw 37 rfl))) (mvT hZ (wd hw 37 rfl)) (mvT hZ (wd hw 36 rfl)) (by decide) (backOf (W := 0) (rmseq l Z a0 hw [] ty2 a1 u2 tx _ _ (([108, 105, 102, 101, 45, 97, 110, 110, 117, 105, 116, 121] : List Int32)) (X) (12) (n) gC h1 n0 Z0 SC PC O0 E_ty2 Fc_ty2 Fv_ty2 V_u2 E_a1 Fc_a1 Fv_a1 V_tx (by decide) hn13) hZ (wd hw 38 rfl) (wd hw 6 rfl) (by decide) (by decide)) q11a q11c (g := (mkF m 25 #[.val (.ref a1), .val (.ref b1), .val (.int (3 : Int32)), .val (.int (2 : Int32)), .val (.ref f2)] [(.ref a1), (.ref ty2)])) rfl (by rw [hml]; rfl) (Steps.refl _) (argsL := [(.ref a1)]) (rest := []) (lenOf pd_10 rfl) rfl (by show 2 * 0 + _ ≤ _; exact Nat.le_of_eq rfl) (hb hby d9_25) (fun _ _ => ⟨rfl, e10, (by decide : 1 + 0 ≤ _), (by decide : 3 + 0 ≤ _)⟩)
  dsimp only [Pt.U, Pt.locs, Pt.cells, Pt.slots] at X11 l11 y11 z11 st11 hQ11
  subst l11 y11 z11
  obtain ⟨rfl, N11q, e11⟩ := hQ11
  have N11 := Fr.app N8 N11q
  refine Go.tr (pc' := 28) (S' := [(.int (own_eq (([108, 105, 102, 101, 45, 97, 110, 110, 117, 105, 116, 121] : List Int32)) (12) (X) (n)))]) st11 ?_
  refine Go.st (pc' := 37) (S' := []) (fun t_ k_ => XS.ifYes X11.here hx rfl (pc0 := 28) (pc' := 37) rfl (hb hby d9_28) rfl ((if0 _ _).trans (teq ((own_eqs X n _ _).trans hq2 : ((own_eq (([108, 105, 102, 101, 45, 97, 110, 110, 117, 105, 116, 121] : List Int32)) (12) (X) (n)) = (0 : Int32)))).1) (by decide) (by decide) k_) ?_
  refine Go.st (pc' := 40) (S' := []) (fun t_ k_ => XS.iinc X11.here hx rfl (hb hby d9_37) rfl (l' := #[.val (.ref a1), .val (.ref b1), .val (.int (3 : Int32)), .val (.int ((2 : Int32) + (1 : Int32))), .val (.ref f2)]) rfl k_) ?_
  rw [show ((2 : Int32) + (1 : Int32)) = (3 : Int32) from by decide]
  refine Go.st (pc' := 9) (S' := []) (fun t_ k_ => XS.goto X11.here hx rfl (pc0 := 40) (pc' := 9) rfl (hb hby d9_40) (by decide) (by decide) k_) ?_
  refine Go.st (pc' := 10) (S' := [(.int (3 : Int32))]) (fun t_ k_ => XS.iloadN X11.here hx rfl (hb hby d9_9) rfl k_) ?_
  refine Go.st (pc' := 11) (S' := [(.int (3 : Int32)), (.int (3 : Int32))]) (fun t_ k_ => XS.iloadN X11.here hx rfl (hb hby d9_10) rfl k_) ?_
  refine Go.st (pc' := 43) (S' := []) (fun t_ k_ => XS.icmpYes X11.here hx rfl (pc0 := 11) (pc' := 43) rfl (hb hby d9_11) rfl (flt (by decide : ¬ ((3 : Int32) < (3 : Int32)))).2.1 (by decide) (by decide) k_) ?_
  obtain ⟨_, _, ⟨T12, L12, k12, n12⟩, -, X12, ⟨Lc12, hQ12, l12, y12, z12⟩, st12⟩ := Jvm.LawKit.callS X11 hx (y := (⟨"java/util/Optional", "empty", "()Ljava/util/Optional;"⟩ : MethodName)) hown (mvT hZ (wd hw 72 rfl)) (mvT hZ (wd hw 73 rfl)) (mvT hZ (wd hw 74 rfl)) (mvT hZ (wd hw 75 rfl)) (by decide) (backOf (W := 0) (rmoem l Z a0 hw [] em h1 n0 Z0 O0 SE) hZ (wd hw 75 rfl) (wd hw 74 rfl) (by decide) (by decide)) (g := (mkF m 43 #[.val (.ref a1), .val (.ref b1), .val (.int (3 : Int32)), .val (.int (3 : Int32)), .val (.ref f2)] [])) rfl (by rw [hml]; rfl) (argsL := []) (rest := []) (lenOf pd_15 rfl) rfl (by show 2 * 0 + _ ≤ _; exact Nat.le_of_eq rfl) (hb hby d9_43) (fun _ _ => ⟨rfl, e11, (by decide : 1 + 0 ≤ _), (by decide : 3 + 0 ≤ _)⟩)
  dsimp only [Pt.U, Pt.locs, Pt.cells, Pt.slots] at X12 l12 y12 z12 st12 hQ12
  subst l12 y12 z12
  obtain ⟨rfl, N12q, e12⟩ := hQ12
  have N12 := Fr.app N11 N12q
  refine Go.st (pc' := 46) (S' := [(.ref em)]) st12 ?_
  exact Go.retO X12 hx hlk hret rfl (by simp [FieldType.isReference, Value.isRef]) (hb hby d9_46) (by decide) (by decide) (by rw [e12]; exact ⟨rfl, N12, K0⟩)
def Q0 (Z : State)  (h0 : Heap) (n0 : Nat) (v : Option Value) (h : Heap) (L : List Loc) : Prop := v = some (.int 1) ∧ Fr n0 L
theorem own_four (a b c : Int32) (ha : a = 0 ∨ a = 1) (hb : b = 0 ∨ b = 1) (hc : c = 0 ∨ c = 1) : a = 1 ∨ (a = 0 ∧ b = 1) ∨ (a = 0 ∧ b = 0 ∧ c = 1) ∨ (a = 0 ∧ b = 0 ∧ c = 0) := by
  rcases ha with rfl | rfl <;> rcases hb with rfl | rfl <;> rcases hc with rfl | rfl <;> decide
theorem pd_16 : parseMethodDescriptor "(Ljava/lang/String;)Lcom/example/vestry/vestry/io/PaymentForm;" = some ⟨[(.object "java/lang/String")], some (.object "com/example/vestry/vestry/io/PaymentForm")⟩ := by decide +kernel
theorem pd_17 : parseMethodDescriptor "(Ljava/lang/String;)Ljava/util/Optional;" = some ⟨[(.object "java/lang/String")], some (.object "java/util/Optional")⟩ := by decide +kernel
theorem pd_18 : parseMethodDescriptor "()Ljava/lang/Object;" = some ⟨[], some (.object "java/lang/Object")⟩ := by decide +kernel
theorem pd_19 : parseMethodDescriptor "()Ljava/lang/String;" = some ⟨[], some (.object "java/lang/String")⟩ := by decide +kernel
theorem sl125 {p : Program} {l : Launch} {e : Env} {s : State} {m : MethodId} {args : Array Value} {below : List Frame} {meth : Method} {c : Code} {T0 : State} {locs : List Loc} {Z : State} {a0 : Array Value} {n0 k0 : Nat} {h0 hh : Heap} {vm0 : Vm} (p1 p2 p3 p4 p5 : Int32) (va f0 f1 f2 ty0 ty1 ty2 u0 u1 u2 : Addr) (kva kv0 kv1 kv2 : ClassId) (em : Addr) (fm : Value) (gC : Int32) (a1 tx : Addr) (kx : ClassId) (X : List Int32) (n : Nat) (rb ar : Addr) (md : Int32)
    (X0 : Stand p l e room_1 (s.setVm vm0) m args below meth c T0 locs 20 200) (hx : p.tables.exec = Jvm.exec) (hZ : Z.Warmed39 (s.setVm vm0).vm) (hw : ∀ d ∈ tables_1, d.before a0 Z = true) (hby : c.code = code) (hml : c.maxLocals = 12) (hown : (s.setVm vm0).vm.findClass "com/example/vestry/vestry/io/PaymentFormNamedPinLaw" = some m.cls) (hnm : meth.name = "law") (hret : meth.sig.returnType = (some .boolean)) (hlk : meth.locks = false) (e0 : T0.heap = hh) (hs0 : s.heap = h0) (CR : CHr Z EL s.vm h0 vm0 hh) (hS : s.Since vm0 k0) (hk : k0 ≤ hh.size) (N0 : Fr n0 locs) (Z0 : n0 ≤ hh.size) (SC : Sta Z Z.heap "java/lang/String" "COMPACT_STRINGS" "Z" (.int gC)) (PC : ¬ (gC = (0 : Int32))) (O0 : Old Z n0 hh) (hfm : fm.isRef = true) (SF : Sta Z Z.heap "jdk/internal/util/Preconditions" "SIOOBE_FORMATTER" "Ljava/util/function/BiFunction;" fm) (S0 : Sta Z Z.heap "com/example/vestry/vestry/io/PaymentForm" "LUMP_SUM" "Lcom/example/vestry/vestry/io/PaymentForm;" (.ref f0)) (S1 : Sta Z Z.heap "com/example/vestry/vestry/io/PaymentForm" "INSTALLMENTS" "Lcom/example/vestry/vestry/io/PaymentForm;" (.ref f1)) (S2 : Sta Z Z.heap "com/example/vestry/vestry/io/PaymentForm" "LIFE_ANNUITY" "Lcom/example/vestry/vestry/io/PaymentForm;" (.ref f2)) (SV : Sta Z Z.heap "com/example/vestry/vestry/io/PaymentForm" "$VALUES" "[Lcom/example/vestry/vestry/io/PaymentForm;" (.ref va)) (SE : Sta Z Z.heap "java/util/Optional" "EMPTY" "Ljava/util/Optional;" (.ref em)) (pf : own_PF Z va f0 f1 f2 ty0 ty1 ty2 u0 u1 u2 kva kv0 kv1 kv2) (Eem : Exa Z Z.heap em "java/util/Optional") (Fem : Fld Z Z.heap em "java/util/Optional" "value" "Ljava/lang/Object;" .null) (E_a1 : Exa Z hh a1 "java/lang/String") (Fc_a1 : Fld Z hh a1 "java/lang/String" "coder" "B" (.int (0 : Int32))) (Fv_a1 : Fld Z hh a1 "java/lang/String" "value" "[B" (.ref tx)) (V_tx : Arv Z hh tx kx .byte (n.toInt32) (X.map Value.int) (.int (0 : Int32))) (hn13 : n ≤ 13) :
    GoH Z EL p e below s room_1.cells room_1.slots (Q0 Z h0 n0) m T0 125 #[.val (.int p1), .val (.int p2), .val (.int p3), .val (.int p4), .val (.int p5), .val (.ref rb), .val (.int md), .val (.int (n.toInt32)), .val (.ref ar), .unset, .unset, .unset] [(.ref a1)] := by
  rcases own_four _ _ _ (own_eq01 X n ([108, 117, 109, 112, 45, 115, 117, 109] : List Int32) 8) (own_eq01 X n ([105, 110, 115, 116, 97, 108, 108, 109, 101, 110, 116, 115] : List Int32) 12) (own_eq01 X n ([108, 105, 102, 101, 45, 97, 110, 110, 117, 105, 116, 121] : List Int32) 12) with hq0 | ⟨hq0, hq1⟩ | ⟨hq0, hq1, hq2⟩ | ⟨hq0, hq1, hq2⟩
  · skip
    refine GoH.st (pc' := 127) (S' := []) (fun t_ k_ => XS.astore X0.here hx rfl (hb hby at_125) rfl rfl (l' := #[.val (.int p1), .val (.int p2), .val (.int p3), .val (.int p4), .val (.int p5), .val (.ref rb), .val (.int md), .val (.int (n.toInt32)), .val (.ref ar), .val (.ref a1), .unset, .unset]) rfl k_) ?_
    refine GoH.st (pc' := 129) (S' := [(.ref a1)]) (fun t_ k_ => XS.aload X0.here hx rfl (hb hby at_127) rfl rfl k_) ?_
    obtain ⟨_, _, ⟨T1, L1, k1, n1⟩, -, X1, hS1, hg1, ⟨Lc1, hQ1, l1, y1, z1, CR1⟩, st1⟩ := callSS X0 hx (y := (⟨"com/example/vestry/vestry/io/PaymentFormNamedPinLaw", "expected", "(Ljava/lang/String;)Lcom/example/vestry/vestry/io/PaymentForm;"⟩ : MethodName)) hown (mvT hZ (wd hw 31 rfl)) (mvT hZ (wd hw 32 rfl)) (mvT hZ (wd hw 3 rfl)) (mvT hZ (wd hw 33 rfl)) (by decide) (backOfSH (W := 0) (rmexp0 l Z a0 hw [] a1 tx _ (X) (n) f0 f1 f2 va em gC hh n0 Z0 SC PC O0 S0 S1 S2 SV SE E_a1 Fc_a1 Fv_a1 V_tx hn13 hq0) hZ (wd hw 33 rfl) (wd hw 3 rfl) (by decide) (by decide) (own_EW hw) CR.1) (g := (mkF m 129 #[.val (.int p1), .val (.int p2), .val (.int p3), .val (.int p4), .val (.int p5), .val (.ref rb), .val (.int md), .val (.int (n.toInt32)), .val (.ref ar), .val (.ref a1), .unset, .unset] [(.ref a1)])) rfl (by rw [hml]; rfl) (argsL := [(.ref a1)]) (rest := []) (lenOf pd_16 rfl) rfl (by show 2 * 0 + _ ≤ _; exact Nat.le_of_eq rfl) (hb hby at_129) (fun _ _ => ⟨rfl, e0, (by decide : 20 + 2 ≤ _), (by decide : 200 + 36 ≤ _)⟩)
    dsimp only [Pt.U, Pt.locs, Pt.cells, Pt.slots] at X1 l1 y1 z1 st1 hQ1 hS1 hg1 CR1
    subst l1 y1 z1
    replace X1 : Stand p l e _ (s.setVm T1.vm) m _ below meth c T1 _ _ _ := X1
    replace hS := foldS hS (T := T0) (Nat.le_trans hk (Nat.le_of_eq (congrArg Array.size e0.symm))) hS1 hg1
    replace hk := Nat.le_refl T1.heap.size
    replace hZ : Z.Warmed39 (s.setVm T1.vm).vm := State.Warmed39.trans (t := s.setVm vm0) hZ hS1.1
    replace hown : (s.setVm T1.vm).vm.findClass "com/example/vestry/vestry/io/PaymentFormNamedPinLaw" = some m.cls := by rw [show (s.setVm T1.vm).vm = T1.vm from rfl, hS1.1.alike.findClass]; exact hown
    obtain ⟨rfl, N1q, K1⟩ := hQ1
    have N1 := Fr.app N0 N1q
    obtain ⟨h1, e1⟩ : ∃ z, T1.heap = z := ⟨_, rfl⟩
    rw [e1] at K1 CR1
    replace CR := CR.trans CR1
    replace Z0 := Nat.le_trans Z0 K1.1
    replace O0 := O0.keep K1 all0
    replace E_a1 := E_a1.keep K1
    replace Fc_a1 := Fc_a1.keep K1 nin0
    replace Fv_a1 := Fv_a1.keep K1 nin0
    replace V_tx := V_tx.keep K1 nin0
    replace hk : T1.heap.size ≤ h1.size := Nat.le_of_eq (congrArg Array.size e1)
    refine GoH.tr (pc' := 132) (S' := [(.ref f0)]) st1 ?_
    refine GoH.st (pc' := 134) (S' := []) (fun t_ k_ => XS.astore X1.here hx rfl (hb hby at_132) rfl rfl (l' := #[.val (.int p1), .val (.int p2), .val (.int p3), .val (.int p4), .val (.int p5), .val (.ref rb), .val (.int md), .val (.int (n.toInt32)), .val (.ref ar), .val (.ref a1), .val (.ref f0), .unset]) rfl k_) ?_
    refine GoH.st (pc' := 136) (S' := [(.ref a1)]) (fun t_ k_ => XS.aload X1.here hx rfl (hb hby at_134) rfl rfl k_) ?_
    obtain ⟨_, _, ⟨T3, L3, k3, n3⟩, -, X3, ⟨Lc3, hQ3, l3, y3, z3⟩, st3⟩ := Jvm.LawKit.callS X1 hx (y := (⟨"com/example/vestry/vestry/io/PaymentForm", "named", "(Ljava/lang/String;)Ljava/util/Optional;"⟩ : MethodName)) hown (mvT hZ (wd hw 47 rfl)) (mvT hZ (wd hw 48 rfl)) (mvT hZ (wd hw 49 rfl)) (mvT hZ (wd hw 50 rfl)) (by decide) (backOf (W := 0) (rmnam0 l Z a0 hw [] a1 tx _ (X) (n) va f0 f1 f2 ty0 ty1 ty2 u0 u1 u2 kva kv0 kv1 kv2 em gC h1 n0 Z0 SC PC O0 S0 S1 S2 SV SE pf E_a1 Fc_a1 Fv_a1 V_tx hn13 hq0) hZ (wd hw 50 rfl) (wd hw 49 rfl) (by decide) (by decide)) (g := (mkF m 136 #[.val (.int p1), .val (.int p2), .val (.int p3), .val (.int p4), .val (.int p5), .val (.ref rb), .val (.int md), .val (.int (n.toInt32)), .val (.ref ar), .val (.ref a1), .val (.ref f0), .unset] [(.ref a1)])) rfl (by rw [hml]; rfl) (argsL := [(.ref a1)]) (rest := []) (lenOf pd_17 rfl) rfl (by show 2 * 0 + _ ≤ _; exact Nat.le_of_eq rfl) (hb hby at_136) (fun _ _ => ⟨rfl, e1, (by decide : 22 + 2 ≤ _), (by decide : 236 + 4 ≤ _)⟩)
    dsimp only [Pt.U, Pt.locs, Pt.cells, Pt.slots] at X3 l3 y3 z3 st3 hQ3
    subst l3 y3 z3
    obtain ⟨b3, rfl, N3q, K3, g_b3, E3, F3⟩ := hQ3
    have N3 := Fr.app N1 N3q
    obtain ⟨h3, e3⟩ : ∃ z, T3.heap = z := ⟨_, rfl⟩
    rw [e3] at K3 E3 F3
    have Sk4 : ∀ x ∈ [], Safe Z EL T1.vm h1 x := all0
    replace CR := CR.trans (CHr.keep K3 Sk4 CR.1)
    replace hk := Nat.le_trans hk K3.1
    replace Z0 := Nat.le_trans Z0 K3.1
    replace O0 := O0.keep K3 all0
    replace E_a1 := E_a1.keep K3
    replace Fc_a1 := Fc_a1.keep K3 nin0
    replace Fv_a1 := Fv_a1.keep K3 nin0
    replace V_tx := V_tx.keep K3 nin0
    refine GoH.st (pc' := 139) (S' := [(.ref b3)]) st3 ?_
    refine GoH.st (pc' := 141) (S' := []) (fun t_ k_ => XS.astore X3.here hx rfl (hb hby at_139) rfl rfl (l' := #[.val (.int p1), .val (.int p2), .val (.int p3), .val (.int p4), .val (.int p5), .val (.ref rb), .val (.int md), .val (.int (n.toInt32)), .val (.ref ar), .val (.ref a1), .val (.ref f0), .val (.ref b3)]) rfl k_) ?_
    obtain ⟨E_va, V_va, E_f0, F_f0, E_ty0, Fc_ty0, Fv_ty0, V_u0, E_f1, F_f1, E_ty1, Fc_ty1, Fv_ty1, V_u1, E_f2, F_f2, E_ty2, Fc_ty2, Fv_ty2, V_u2⟩ := id pf
    replace E_f0 := Exa.ext O0.2 E_f0
    replace F_f0 := Fld.ext O0.2 F_f0
    replace E_ty0 := Exa.ext O0.2 E_ty0
    replace Fc_ty0 := Fld.ext O0.2 Fc_ty0
    replace Fv_ty0 := Fld.ext O0.2 Fv_ty0
    replace V_u0 := Arv.ext V_u0 O0.2
    refine GoH.st (pc' := 143) (S' := [(.ref f0)]) (fun t_ k_ => XS.aload X3.here hx rfl (hb hby at_141) rfl rfl k_) ?_
    refine GoH.st (pc' := 160) (S' := []) (fun t_ k_ => XS.ifnonnullYes X3.here hx rfl (pc0 := 143) (pc' := 160) rfl (hb hby at_143) rfl (by decide) (by decide) k_) ?_
    refine GoH.st (pc' := 162) (S' := [(.ref b3)]) (fun t_ k_ => XS.aload X3.here hx rfl (hb hby at_160) rfl rfl k_) ?_
    obtain ⟨cq5, kq5, q5a, q5b, q5c⟩ := isOf hZ e3 E3
    obtain ⟨_, _, ⟨T5, L5, k5, n5⟩, -, X5, ⟨Lc5, hQ5, l5, y5, z5⟩, st5⟩ := X3.virtualBack hx (y := (⟨"java/util/Optional", "isPresent", "()Z"⟩ : MethodName)) (z := (⟨"java/util/Optional", "isPresent", "()Z"⟩ : MethodName)) hown (mvT hZ (wd hw 77 rfl)) (mvT hZ (wd hw 78 rfl)) (notFace_of_selects (args := #[]) (mvT hZ (wd hw 80 rfl))) (mvT hZ (wd hw 80 rfl)) (mvT hZ (wd hw 79 rfl)) (by decide) (backOf (W := 0) (rmip1 l Z a0 hw [] b3 f0 h3 n0 Z0 F3) hZ (wd hw 81 rfl) (wd hw 74 rfl) (by decide) (by decide)) q5a q5c (g := (mkF m 162 #[.val (.int p1), .val (.int p2), .val (.int p3), .val (.int p4), .val (.int p5), .val (.ref rb), .val (.int md), .val (.int (n.toInt32)), .val (.ref ar), .val (.ref a1), .val (.ref f0), .val (.ref b3)] [(.ref b3)])) rfl (by rw [hml]; rfl) (Steps.refl _) (argsL := []) (rest := []) (lenOf pd_4 rfl) rfl (by show 2 * 0 + _ ≤ _; exact Nat.le_of_eq rfl) (hb hby at_162) (fun _ _ => ⟨rfl, e3, (by decide : 24 + 0 ≤ _), (by decide : 240 + 0 ≤ _)⟩)
    dsimp only [Pt.U, Pt.locs, Pt.cells, Pt.slots] at X5 l5 y5 z5 st5 hQ5
    subst l5 y5 z5
    obtain ⟨rfl, N5q, e5⟩ := hQ5
    have N5 := Fr.app N3 N5q
    refine GoH.tr (pc' := 165) (S' := [(.int (1 : Int32))]) st5 ?_
    refine GoH.st (pc' := 168) (S' := []) (fun t_ k_ => XS.ifNo X5.here hx rfl (hb hby at_165) rfl ((if0 _ _).trans (feq (by decide : ¬ ((1 : Int32) = (0 : Int32)))).1) k_) ?_
    refine GoH.st (pc' := 170) (S' := [(.ref b3)]) (fun t_ k_ => XS.aload X5.here hx rfl (hb hby at_168) rfl rfl k_) ?_
    obtain ⟨cq6, kq6, q6a, q6b, q6c⟩ := isOf hZ e5 E3
    obtain ⟨_, _, ⟨T6, L6, k6, n6⟩, -, X6, ⟨Lc6, hQ6, l6, y6, z6⟩, st6⟩ := X5.virtualBack hx (y := (⟨"java/util/Optional", "get", "()Ljava/lang/Object;"⟩ : MethodName)) (z := (⟨"java/util/Optional", "get", "()Ljava/lang/Object;"⟩ : MethodName)) hown (mvT hZ (wd hw 143 rfl)) (mvT hZ (wd hw 144 rfl)) (notFace_of_selects (args := #[]) (mvT hZ (wd hw 146 rfl))) (mvT hZ (wd hw 146 rfl)) (mvT hZ (wd hw 145 rfl)) (by decide) (backOf (W := 0) (rmog l Z a0 hw [] b3 f0 h3 n0 Z0 F3) hZ (wd hw 147 rfl) (wd hw 74 rfl) (by decide) (by decide)) q6a q6c (g := (mkF m 170 #[.val (.int p1), .val (.int p2), .val (.int p3), .val (.int p4), .val (.int p5), .val (.ref rb), .val (.int md), .val (.int (n.toInt32)), .val (.ref ar), .val (.ref a1), .val (.ref f0), .val (.ref b3)] [(.ref b3)])) rfl (by rw [hml]; rfl) (Steps.refl _) (argsL := []) (rest := []) (lenOf pd_18 rfl) rfl (by show 2 * 0 + _ ≤ _; exact Nat.le_of_eq rfl) (hb hby at_170) (fun _ _ => ⟨rfl, e5, (by decide : 24 + 0 ≤ _), (by decide : 240 + 0 ≤ _)⟩)
    dsimp only [Pt.U, Pt.locs, Pt.cells, Pt.slots] at X6 l6 y6 z6 st6 hQ6
    subst l6 y6 z6
    obtain ⟨rfl, N6q, e6⟩ := hQ6
    have N6 := Fr.app N5 N6q
    refine GoH.tr (pc' := 173) (S' := [(.ref f0)]) st6 ?_
    refine GoH.st (pc' := 175) (S' := [(.ref f0), (.ref f0)]) (fun t_ k_ => XS.aload X6.here hx rfl (hb hby at_173) rfl rfl k_) ?_
    refine GoH.st (pc' := 178) (S' := []) (fun t_ k_ => Jvm.RoadKit.acmp (g := (mkF m 175 #[.val (.int p1), .val (.int p2), .val (.int p3), .val (.int p4), .val (.int p5), .val (.ref rb), .val (.int md), .val (.int (n.toInt32)), .val (.ref ar), .val (.ref a1), .val (.ref f0), .val (.ref b3)] [(.ref f0), (.ref f0)])) X6 hx rfl rfl rfl (pc0 := 175) (pc' := 178) (same := true) rfl (hb hby at_175) rfl (decide_eq_true rfl) (by decide) (by decide) k_) ?_
    refine GoH.st (pc' := 180) (S' := [(.ref f0)]) (fun t_ k_ => XS.aload X6.here hx rfl (hb hby at_178) rfl rfl k_) ?_
    obtain ⟨cq7, kq7, q7a, q7b, q7c⟩ := isOf hZ e6 E_f0
    obtain ⟨_, _, ⟨T7, L7, k7, n7⟩, -, X7, ⟨Lc7, hQ7, l7, y7, z7⟩, st7⟩ := X6.virtualBack hx (y := (⟨"com/example/vestry/vestry/io/PaymentForm", "text", "()Ljava/lang/String;"⟩ : MethodName)) (z := (⟨"com/example/vestry/vestry/io/PaymentForm", "text", "()Ljava/lang/String;"⟩ : MethodName)) hown (mvT hZ (wd hw 148 rfl)) (mvT hZ (wd hw 149 rfl)) (notFace_of_selects (args := #[]) (mvT hZ (wd hw 151 rfl))) (mvT hZ (wd hw 151 rfl)) (mvT hZ (wd hw 150 rfl)) (by decide) (backOf (W := 0) (rm28 l Z a0 hw [] f0 ty0 h3 n0 Z0 F_f0) hZ (wd hw 152 rfl) (wd hw 49 rfl) (by decide) (by decide)) q7a q7c (g := (mkF m 180 #[.val (.int p1), .val (.int p2), .val (.int p3), .val (.int p4), .val (.int p5), .val (.ref rb), .val (.int md), .val (.int (n.toInt32)), .val (.ref ar), .val (.ref a1), .val (.ref f0), .val (.ref b3)] [(.ref f0)])) rfl (by rw [hml]; rfl) (Steps.refl _) (argsL := []) (rest := []) (lenOf pd_19 rfl) rfl (by show 2 * 0 + _ ≤ _; exact Nat.le_of_eq rfl) (hb hby at_180) (fun _ _ => ⟨rfl, e6, (by decide : 24 + 0 ≤ _), (by decide : 240 + 0 ≤ _)⟩)
    dsimp only [Pt.U, Pt.locs, Pt.cells, Pt.slots] at X7 l7 y7 z7 st7 hQ7
    subst l7 y7 z7
    obtain ⟨rfl, N7q, e7⟩ := hQ7
    have N7 := Fr.app N6 N7q
    refine GoH.tr (pc' := 183) (S' := [(.ref ty0)]) st7 ?_
    refine GoH.st (pc' := 185) (S' := [(.ref a1), (.ref ty0)]) (fun t_ k_ => XS.aload X7.here hx rfl (hb hby at_183) rfl rfl k_) ?_
    obtain ⟨cq8, kq8, q8a, q8b, q8c⟩ := isOf hZ e7 E_ty0
    obtain ⟨_, _, ⟨T8, L8, k8, n8⟩, -, X8, ⟨Lc8, hQ8, l8, y8, z8⟩, st8⟩ := X7.virtualBack hx (y := (⟨"java/lang/String", "equals", "(Ljava/lang/Object;)Z"⟩ : MethodName)) (z := (⟨"java/lang/String", "equals", "(Ljava/lang/Object;)Z"⟩ : MethodName)) hown (mvT hZ (wd hw 34 rfl)) (mvT hZ (wd hw 35 rfl)) (notFace_of_selects (args := #[]) (mvT hZ (wd hw 37 rfl))) (mvT hZ (wd hw 37 rfl)) (mvT hZ (wd hw 36 rfl)) (by decide) (backOf (W := 0) (rmseq l Z a0 hw [] ty0 a1 u0 tx _ _ (([108, 117, 109, 112, 45, 115, 117, 109] : List Int32)) (X) (8) (n) gC h3 n0 Z0 SC PC O0 E_ty0 Fc_ty0 Fv_ty0 V_u0 E_a1 Fc_a1 Fv_a1 V_tx (by decide) hn13) hZ (wd hw 38 rfl) (wd hw 6 rfl) (by decide) (by decide)) q8a q8c (g := (mkF m 185 #[.val (.int p1), .val (.int p2), .val (.int p3), .val (.int p4), .val (.int p5), .val (.ref rb), .val (.int md), .val (.int (n.toInt32)), .val (.ref ar), .val (.ref a1), .val (.ref f0), .val (.ref b3)] [(.ref a1), (.ref ty0)])) rfl (by rw [hml]; rfl) (Steps.refl _) (argsL := [(.ref a1)]) (rest := []) (lenOf pd_10 rfl) rfl (by show 2 * 0 + _ ≤ _; exact Nat.le_of_eq rfl) (hb hby at_185) (fun _ _ => ⟨rfl, e7, (by decide : 24 + 0 ≤ _), (by decide : 240 + 0 ≤ _)⟩)
    dsimp only [Pt.U, Pt.locs, Pt.cells, Pt.slots] at X8 l8 y8 z8 st8 hQ8
    subst l8 y8 z8
    obtain ⟨rfl, N8q, e8⟩ := hQ8
    have N8 := Fr.app N7 N8q
    refine GoH.tr (pc' := 188) (S' := [(.int (own_eq (([108, 117, 109, 112, 45, 115, 117, 109] : List Int32)) (8) (X) (n)))]) st8 ?_
    refine GoH.st (pc' := 191) (S' := []) (fun t_ k_ => XS.ifNo X8.here hx rfl (hb hby at_188) rfl ((if0 _ _).trans (feq (by rw [own_eqs X n, hq0]; decide : ¬ ((own_eq (([108, 117, 109, 112, 45, 115, 117, 109] : List Int32)) (8) (X) (n)) = (0 : Int32)))).1) k_) ?_
    refine GoH.st (pc' := 192) (S' := [(.int (1 : Int32))]) (fun t_ k_ => XS.iconst X8.here hx rfl (hb hby at_191) k_) ?_
    refine GoH.st (pc' := 196) (S' := [(.int (1 : Int32))]) (fun t_ k_ => XS.goto X8.here hx rfl (pc0 := 192) (pc' := 196) rfl (hb hby at_192) (by decide) (by decide) k_) ?_
    exact GoH.retN X8 hx hlk hret (by simp) (hb hby at_196) (by decide) (by decide) hS hk e8 hs0 hZ (own_EW hw) CR (by rw [e8]; exact ⟨rfl, N8⟩)
  · skip
    refine GoH.st (pc' := 127) (S' := []) (fun t_ k_ => XS.astore X0.here hx rfl (hb hby at_125) rfl rfl (l' := #[.val (.int p1), .val (.int p2), .val (.int p3), .val (.int p4), .val (.int p5), .val (.ref rb), .val (.int md), .val (.int (n.toInt32)), .val (.ref ar), .val (.ref a1), .unset, .unset]) rfl k_) ?_
    refine GoH.st (pc' := 129) (S' := [(.ref a1)]) (fun t_ k_ => XS.aload X0.here hx rfl (hb hby at_127) rfl rfl k_) ?_
    obtain ⟨_, _, ⟨T9, L9, k9, n9⟩, -, X9, hS9, hg9, ⟨Lc9, hQ9, l9, y9, z9, CR9⟩, st9⟩ := callSS X0 hx (y := (⟨"com/example/vestry/vestry/io/PaymentFormNamedPinLaw", "expected", "(Ljava/lang/String;)Lcom/example/vestry/vestry/io/PaymentForm;"⟩ : MethodName)) hown (mvT hZ (wd hw 31 rfl)) (mvT hZ (wd hw 32 rfl)) (mvT hZ (wd hw 3 rfl)) (mvT hZ (wd hw 33 rfl)) (by decide) (backOfSH (W := 0) (rmexp1 l Z a0 hw [] a1 tx _ (X) (n) f0 f1 f2 va em gC hh n0 Z0 SC PC O0 S0 S1 S2 SV SE E_a1 Fc_a1 Fv_a1 V_tx hn13 hq0 hq1) hZ (wd hw 33 rfl) (wd hw 3 rfl) (by decide) (by decide) (own_EW hw) CR.1) (g := (mkF m 129 #[.val (.int p1), .val (.int p2), .val (.int p3), .val (.int p4), .val (.int p5), .val (.ref rb), .val (.int md), .val (.int (n.toInt32)), .val (.ref ar), .val (.ref a1), .unset, .unset] [(.ref a1)])) rfl (by rw [hml]; rfl) (argsL := [(.ref a1)]) (rest := []) (lenOf pd_16 rfl) rfl (by show 2 * 0 + _ ≤ _; exact Nat.le_of_eq rfl) (hb hby at_129) (fun _ _ => ⟨rfl, e0, (by decide : 20 + 4 ≤ _), (by decide : 200 + 88 ≤ _)⟩)
    dsimp only [Pt.U, Pt.locs, Pt.cells, Pt.slots] at X9 l9 y9 z9 st9 hQ9 hS9 hg9 CR9
    subst l9 y9 z9
    replace X9 : Stand p l e _ (s.setVm T9.vm) m _ below meth c T9 _ _ _ := X9
    replace hS := foldS hS (T := T0) (Nat.le_trans hk (Nat.le_of_eq (congrArg Array.size e0.symm))) hS9 hg9
    replace hk := Nat.le_refl T9.heap.size
    replace hZ : Z.Warmed39 (s.setVm T9.vm).vm := State.Warmed39.trans (t := s.setVm vm0) hZ hS9.1
    replace hown : (s.setVm T9.vm).vm.findClass "com/example/vestry/vestry/io/PaymentFormNamedPinLaw" = some m.cls := by rw [show (s.setVm T9.vm).vm = T9.vm from rfl, hS9.1.alike.findClass]; exact hown
    obtain ⟨rfl, N9q, K9⟩ := hQ9
    have N9 := Fr.app N0 N9q
    obtain ⟨h9, e9⟩ : ∃ z, T9.heap = z := ⟨_, rfl⟩
    rw [e9] at K9 CR9
    replace CR := CR.trans CR9
    replace Z0 := Nat.le_trans Z0 K9.1
    replace O0 := O0.keep K9 all0
    replace E_a1 := E_a1.keep K9
    replace Fc_a1 := Fc_a1.keep K9 nin0
    replace Fv_a1 := Fv_a1.keep K9 nin0
    replace V_tx := V_tx.keep K9 nin0
    replace hk : T9.heap.size ≤ h9.size := Nat.le_of_eq (congrArg Array.size e9)
    refine GoH.tr (pc' := 132) (S' := [(.ref f1)]) st9 ?_
    refine GoH.st (pc' := 134) (S' := []) (fun t_ k_ => XS.astore X9.here hx rfl (hb hby at_132) rfl rfl (l' := #[.val (.int p1), .val (.int p2), .val (.int p3), .val (.int p4), .val (.int p5), .val (.ref rb), .val (.int md), .val (.int (n.toInt32)), .val (.ref ar), .val (.ref a1), .val (.ref f1), .unset]) rfl k_) ?_
    refine GoH.st (pc' := 136) (S' := [(.ref a1)]) (fun t_ k_ => XS.aload X9.here hx rfl (hb hby at_134) rfl rfl k_) ?_
    obtain ⟨_, _, ⟨T11, L11, k11, n11⟩, -, X11, ⟨Lc11, hQ11, l11, y11, z11⟩, st11⟩ := Jvm.LawKit.callS X9 hx (y := (⟨"com/example/vestry/vestry/io/PaymentForm", "named", "(Ljava/lang/String;)Ljava/util/Optional;"⟩ : MethodName)) hown (mvT hZ (wd hw 47 rfl)) (mvT hZ (wd hw 48 rfl)) (mvT hZ (wd hw 49 rfl)) (mvT hZ (wd hw 50 rfl)) (by decide) (backOf (W := 0) (rmnam1 l Z a0 hw [] a1 tx _ (X) (n) va f0 f1 f2 ty0 ty1 ty2 u0 u1 u2 kva kv0 kv1 kv2 em gC h9 n0 Z0 SC PC O0 S0 S1 S2 SV SE pf E_a1 Fc_a1 Fv_a1 V_tx hn13 hq0 hq1) hZ (wd hw 50 rfl) (wd hw 49 rfl) (by decide) (by decide)) (g := (mkF m 136 #[.val (.int p1), .val (.int p2), .val (.int p3), .val (.int p4), .val (.int p5), .val (.ref rb), .val (.int md), .val (.int (n.toInt32)), .val (.ref ar), .val (.ref a1), .val (.ref f1), .unset] [(.ref a1)])) rfl (by rw [hml]; rfl) (argsL := [(.ref a1)]) (rest := []) (lenOf pd_17 rfl) rfl (by show 2 * 0 + _ ≤ _; exact Nat.le_of_eq rfl) (hb hby at_136) (fun _ _ => ⟨rfl, e9, (by decide : 24 + 2 ≤ _), (by decide : 288 + 4 ≤ _)⟩)
    dsimp only [Pt.U, Pt.locs, Pt.cells, Pt.slots] at X11 l11 y11 z11 st11 hQ11
    subst l11 y11 z11
    obtain ⟨b11, rfl, N11q, K11, g_b11, E11, F11⟩ := hQ11
    have N11 := Fr.app N9 N11q
    obtain ⟨h11, e11⟩ : ∃ z, T11.heap = z := ⟨_, rfl⟩
    rw [e11] at K11 E11 F11
    have Sk12 : ∀ x ∈ [], Safe Z EL T9.vm h9 x := all0
    replace CR := CR.trans (CHr.keep K11 Sk12 CR.1)
    replace hk := Nat.le_trans hk K11.1
    replace Z0 := Nat.le_trans Z0 K11.1
    replace O0 := O0.keep K11 all0
    replace E_a1 := E_a1.keep K11
    replace Fc_a1 := Fc_a1.keep K11 nin0
    replace Fv_a1 := Fv_a1.keep K11 nin0
    replace V_tx := V_tx.keep K11 nin0
    refine GoH.st (pc' := 139) (S' := [(.ref b11)]) st11 ?_
    refine GoH.st (pc' := 141) (S' := []) (fun t_ k_ => XS.astore X11.here hx rfl (hb hby at_139) rfl rfl (l' := #[.val (.int p1), .val (.int p2), .val (.int p3), .val (.int p4), .val (.int p5), .val (.ref rb), .val (.int md), .val (.int (n.toInt32)), .val (.ref ar), .val (.ref a1), .val (.ref f1), .val (.ref b11)]) rfl k_) ?_
    obtain ⟨E_va, V_va, E_f0, F_f0, E_ty0, Fc_ty0, Fv_ty0, V_u0, E_f1, F_f1, E_ty1, Fc_ty1, Fv_ty1, V_u1, E_f2, F_f2, E_ty2, Fc_ty2, Fv_ty2, V_u2⟩ := id pf
    replace E_f1 := Exa.ext O0.2 E_f1
    replace F_f1 := Fld.ext O0.2 F_f1
    replace E_ty1 := Exa.ext O0.2 E_ty1
    replace Fc_ty1 := Fld.ext O0.2 Fc_ty1
    replace Fv_ty1 := Fld.ext O0.2 Fv_ty1
    replace V_u1 := Arv.ext V_u1 O0.2
    refine GoH.st (pc' := 143) (S' := [(.ref f1)]) (fun t_ k_ => XS.aload X11.here hx rfl (hb hby at_141) rfl rfl k_) ?_
    refine GoH.st (pc' := 160) (S' := []) (fun t_ k_ => XS.ifnonnullYes X11.here hx rfl (pc0 := 143) (pc' := 160) rfl (hb hby at_143) rfl (by decide) (by decide) k_) ?_
    refine GoH.st (pc' := 162) (S' := [(.ref b11)]) (fun t_ k_ => XS.aload X11.here hx rfl (hb hby at_160) rfl rfl k_) ?_
    obtain ⟨cq13, kq13, q13a, q13b, q13c⟩ := isOf hZ e11 E11
    obtain ⟨_, _, ⟨T13, L13, k13, n13⟩, -, X13, ⟨Lc13, hQ13, l13, y13, z13⟩, st13⟩ := X11.virtualBack hx (y := (⟨"java/util/Optional", "isPresent", "()Z"⟩ : MethodName)) (z := (⟨"java/util/Optional", "isPresent", "()Z"⟩ : MethodName)) hown (mvT hZ (wd hw 77 rfl)) (mvT hZ (wd hw 78 rfl)) (notFace_of_selects (args := #[]) (mvT hZ (wd hw 80 rfl))) (mvT hZ (wd hw 80 rfl)) (mvT hZ (wd hw 79 rfl)) (by decide) (backOf (W := 0) (rmip1 l Z a0 hw [] b11 f1 h11 n0 Z0 F11) hZ (wd hw 81 rfl) (wd hw 74 rfl) (by decide) (by decide)) q13a q13c (g := (mkF m 162 #[.val (.int p1), .val (.int p2), .val (.int p3), .val (.int p4), .val (.int p5), .val (.ref rb), .val (.int md), .val (.int (n.toInt32)), .val (.ref ar), .val (.ref a1), .val (.ref f1), .val (.ref b11)] [(.ref b11)])) rfl (by rw [hml]; rfl) (Steps.refl _) (argsL := []) (rest := []) (lenOf pd_4 rfl) rfl (by show 2 * 0 + _ ≤ _; exact Nat.le_of_eq rfl) (hb hby at_162) (fun _ _ => ⟨rfl, e11, (by decide : 26 + 0 ≤ _), (by decide : 292 + 0 ≤ _)⟩)
    dsimp only [Pt.U, Pt.locs, Pt.cells, Pt.slots] at X13 l13 y13 z13 st13 hQ13
    subst l13 y13 z13
    obtain ⟨rfl, N13q, e13⟩ := hQ13
    have N13 := Fr.app N11 N13q
    refine GoH.tr (pc' := 165) (S' := [(.int (1 : Int32))]) st13 ?_
    refine GoH.st (pc' := 168) (S' := []) (fun t_ k_ => XS.ifNo X13.here hx rfl (hb hby at_165) rfl ((if0 _ _).trans (feq (by decide : ¬ ((1 : Int32) = (0 : Int32)))).1) k_) ?_
    refine GoH.st (pc' := 170) (S' := [(.ref b11)]) (fun t_ k_ => XS.aload X13.here hx rfl (hb hby at_168) rfl rfl k_) ?_
    obtain ⟨cq14, kq14, q14a, q14b, q14c⟩ := isOf hZ e13 E11
    obtain ⟨_, _, ⟨T14, L14, k14, n14⟩, -, X14, ⟨Lc14, hQ14, l14, y14, z14⟩, st14⟩ := X13.virtualBack hx (y := (⟨"java/util/Optional", "get", "()Ljava/lang/Object;"⟩ : MethodName)) (z := (⟨"java/util/Optional", "get", "()Ljava/lang/Object;"⟩ : MethodName)) hown (mvT hZ (wd hw 143 rfl)) (mvT hZ (wd hw 144 rfl)) (notFace_of_selects (args := #[]) (mvT hZ (wd hw 146 rfl))) (mvT hZ (wd hw 146 rfl)) (mvT hZ (wd hw 145 rfl)) (by decide) (backOf (W := 0) (rmog l Z a0 hw [] b11 f1 h11 n0 Z0 F11) hZ (wd hw 147 rfl) (wd hw 74 rfl) (by decide) (by decide)) q14a q14c (g := (mkF m 170 #[.val (.int p1), .val (.int p2), .val (.int p3), .val (.int p4), .val (.int p5), .val (.ref rb), .val (.int md), .val (.int (n.toInt32)), .val (.ref ar), .val (.ref a1), .val (.ref f1), .val (.ref b11)] [(.ref b11)])) rfl (by rw [hml]; rfl) (Steps.refl _) (argsL := []) (rest := []) (lenOf pd_18 rfl) rfl (by show 2 * 0 + _ ≤ _; exact Nat.le_of_eq rfl) (hb hby at_170) (fun _ _ => ⟨rfl, e13, (by decide : 26 + 0 ≤ _), (by decide : 292 + 0 ≤ _)⟩)
    dsimp only [Pt.U, Pt.locs, Pt.cells, Pt.slots] at X14 l14 y14 z14 st14 hQ14
    subst l14 y14 z14
    obtain ⟨rfl, N14q, e14⟩ := hQ14
    have N14 := Fr.app N13 N14q
    refine GoH.tr (pc' := 173) (S' := [(.ref f1)]) st14 ?_
    refine GoH.st (pc' := 175) (S' := [(.ref f1), (.ref f1)]) (fun t_ k_ => XS.aload X14.here hx rfl (hb hby at_173) rfl rfl k_) ?_
    refine GoH.st (pc' := 178) (S' := []) (fun t_ k_ => Jvm.RoadKit.acmp (g := (mkF m 175 #[.val (.int p1), .val (.int p2), .val (.int p3), .val (.int p4), .val (.int p5), .val (.ref rb), .val (.int md), .val (.int (n.toInt32)), .val (.ref ar), .val (.ref a1), .val (.ref f1), .val (.ref b11)] [(.ref f1), (.ref f1)])) X14 hx rfl rfl rfl (pc0 := 175) (pc' := 178) (same := true) rfl (hb hby at_175) rfl (decide_eq_true rfl) (by decide) (by decide) k_) ?_
    refine GoH.st (pc' := 180) (S' := [(.ref f1)]) (fun t_ k_ => XS.aload X14.here hx rfl (hb hby at_178) rfl rfl k_) ?_
    obtain ⟨cq15, kq15, q15a, q15b, q15c⟩ := isOf hZ e14 E_f1
    obtain ⟨_, _, ⟨T15, L15, k15, n15⟩, -, X15, ⟨Lc15, hQ15, l15, y15, z15⟩, st15⟩ := X14.virtualBack hx (y := (⟨"com/example/vestry/vestry/io/PaymentForm", "text", "()Ljava/lang/String;"⟩ : MethodName)) (z := (⟨"com/example/vestry/vestry/io/PaymentForm", "text", "()Ljava/lang/String;"⟩ : MethodName)) hown (mvT hZ (wd hw 148 rfl)) (mvT hZ (wd hw 149 rfl)) (notFace_of_selects (args := #[]) (mvT hZ (wd hw 151 rfl))) (mvT hZ (wd hw 151 rfl)) (mvT hZ (wd hw 150 rfl)) (by decide) (backOf (W := 0) (rm28 l Z a0 hw [] f1 ty1 h11 n0 Z0 F_f1) hZ (wd hw 152 rfl) (wd hw 49 rfl) (by decide) (by decide)) q15a q15c (g := (mkF m 180 #[.val (.int p1), .val (.int p2), .val (.int p3), .val (.int p4), .val (.int p5), .val (.ref rb), .val (.int md), .val (.int (n.toInt32)), .val (.ref ar), .val (.ref a1), .val (.ref f1), .val (.ref b11)] [(.ref f1)])) rfl (by rw [hml]; rfl) (Steps.refl _) (argsL := []) (rest := []) (lenOf pd_19 rfl) rfl (by show 2 * 0 + _ ≤ _; exact Nat.le_of_eq rfl) (hb hby at_180) (fun _ _ => ⟨rfl, e14, (by decide : 26 + 0 ≤ _), (by decide : 292 + 0 ≤ _)⟩)
    dsimp only [Pt.U, Pt.locs, Pt.cells, Pt.slots] at X15 l15 y15 z15 st15 hQ15
    subst l15 y15 z15
    obtain ⟨rfl, N15q, e15⟩ := hQ15
    have N15 := Fr.app N14 N15q
    refine GoH.tr (pc' := 183) (S' := [(.ref ty1)]) st15 ?_
    refine GoH.st (pc' := 185) (S' := [(.ref a1), (.ref ty1)]) (fun t_ k_ => XS.aload X15.here hx rfl (hb hby at_183) rfl rfl k_) ?_
    obtain ⟨cq16, kq16, q16a, q16b, q16c⟩ := isOf hZ e15 E_ty1
    obtain ⟨_, _, ⟨T16, L16, k16, n16⟩, -, X16, ⟨Lc16, hQ16, l16, y16, z16⟩, st16⟩ := X15.virtualBack hx (y := (⟨"java/lang/String", "equals", "(Ljava/lang/Object;)Z"⟩ : MethodName)) (z := (⟨"java/lang/String", "equals", "(Ljava/lang/Object;)Z"⟩ : MethodName)) hown (mvT hZ (wd hw 34 rfl)) (mvT hZ (wd hw 35 rfl)) (notFace_of_selects (args := #[]) (mvT hZ (wd hw 37 rfl))) (mvT hZ (wd hw 37 rfl)) (mvT hZ (wd hw 36 rfl)) (by decide) (backOf (W := 0) (rmseq l Z a0 hw [] ty1 a1 u1 tx _ _ (([105, 110, 115, 116, 97, 108, 108, 109, 101, 110, 116, 115] : List Int32)) (X) (12) (n) gC h11 n0 Z0 SC PC O0 E_ty1 Fc_ty1 Fv_ty1 V_u1 E_a1 Fc_a1 Fv_a1 V_tx (by decide) hn13) hZ (wd hw 38 rfl) (wd hw 6 rfl) (by decide) (by decide)) q16a q16c (g := (mkF m 185 #[.val (.int p1), .val (.int p2), .val (.int p3), .val (.int p4), .val (.int p5), .val (.ref rb), .val (.int md), .val (.int (n.toInt32)), .val (.ref ar), .val (.ref a1), .val (.ref f1), .val (.ref b11)] [(.ref a1), (.ref ty1)])) rfl (by rw [hml]; rfl) (Steps.refl _) (argsL := [(.ref a1)]) (rest := []) (lenOf pd_10 rfl) rfl (by show 2 * 0 + _ ≤ _; exact Nat.le_of_eq rfl) (hb hby at_185) (fun _ _ => ⟨rfl, e15, (by decide : 26 + 0 ≤ _), (by decide : 292 + 0 ≤ _)⟩)
    dsimp only [Pt.U, Pt.locs, Pt.cells, Pt.slots] at X16 l16 y16 z16 st16 hQ16
    subst l16 y16 z16
    obtain ⟨rfl, N16q, e16⟩ := hQ16
    have N16 := Fr.app N15 N16q
    refine GoH.tr (pc' := 188) (S' := [(.int (own_eq (([105, 110, 115, 116, 97, 108, 108, 109, 101, 110, 116, 115] : List Int32)) (12) (X) (n)))]) st16 ?_
    refine GoH.st (pc' := 191) (S' := []) (fun t_ k_ => XS.ifNo X16.here hx rfl (hb hby at_188) rfl ((if0 _ _).trans (feq (by rw [own_eqs X n, hq1]; decide : ¬ ((own_eq (([105, 110, 115, 116, 97, 108, 108, 109, 101, 110, 116, 115] : List Int32)) (12) (X) (n)) = (0 : Int32)))).1) k_) ?_
    refine GoH.st (pc' := 192) (S' := [(.int (1 : Int32))]) (fun t_ k_ => XS.iconst X16.here hx rfl (hb hby at_191) k_) ?_
    refine GoH.st (pc' := 196) (S' := [(.int (1 : Int32))]) (fun t_ k_ => XS.goto X16.here hx rfl (pc0 := 192) (pc' := 196) rfl (hb hby at_192) (by decide) (by decide) k_) ?_
    exact GoH.retN X16 hx hlk hret (by simp) (hb hby at_196) (by decide) (by decide) hS hk e16 hs0 hZ (own_EW hw) CR (by rw [e16]; exact ⟨rfl, N16⟩)
  · skip
    refine GoH.st (pc' := 127) (S' := []) (fun t_ k_ => XS.astore X0.here hx rfl (hb hby at_125) rfl rfl (l' := #[.val (.int p1), .val (.int p2), .val (.int p3), .val (.int p4), .val (.int p5), .val (.ref rb), .val (.int md), .val (.int (n.toInt32)), .val (.ref ar), .val (.ref a1), .unset, .unset]) rfl k_) ?_
    refine GoH.st (pc' := 129) (S' := [(.ref a1)]) (fun t_ k_ => XS.aload X0.here hx rfl (hb hby at_127) rfl rfl k_) ?_
    obtain ⟨_, _, ⟨T17, L17, k17, n17⟩, -, X17, hS17, hg17, ⟨Lc17, hQ17, l17, y17, z17, CR17⟩, st17⟩ := callSS X0 hx (y := (⟨"com/example/vestry/vestry/io/PaymentFormNamedPinLaw", "expected", "(Ljava/lang/String;)Lcom/example/vestry/vestry/io/PaymentForm;"⟩ : MethodName)) hown (mvT hZ (wd hw 31 rfl)) (mvT hZ (wd hw 32 rfl)) (mvT hZ (wd hw 3 rfl)) (mvT hZ (wd hw 33 rfl)) (by decide) (backOfSH (W := 0) (rmexp2 l Z a0 hw [] a1 tx _ (X) (n) f0 f1 f2 va em gC hh n0 Z0 SC PC O0 S0 S1 S2 SV SE E_a1 Fc_a1 Fv_a1 V_tx hn13 hq0 hq1 hq2) hZ (wd hw 33 rfl) (wd hw 3 rfl) (by decide) (by decide) (own_EW hw) CR.1) (g := (mkF m 129 #[.val (.int p1), .val (.int p2), .val (.int p3), .val (.int p4), .val (.int p5), .val (.ref rb), .val (.int md), .val (.int (n.toInt32)), .val (.ref ar), .val (.ref a1), .unset, .unset] [(.ref a1)])) rfl (by rw [hml]; rfl) (argsL := [(.ref a1)]) (rest := []) (lenOf pd_16 rfl) rfl (by show 2 * 0 + _ ≤ _; exact Nat.le_of_eq rfl) (hb hby at_129) (fun _ _ => ⟨rfl, e0, (by decide : 20 + 6 ≤ _), (by decide : 200 + 140 ≤ _)⟩)
    dsimp only [Pt.U, Pt.locs, Pt.cells, Pt.slots] at X17 l17 y17 z17 st17 hQ17 hS17 hg17 CR17
    subst l17 y17 z17
    replace X17 : Stand p l e _ (s.setVm T17.vm) m _ below meth c T17 _ _ _ := X17
    replace hS := foldS hS (T := T0) (Nat.le_trans hk (Nat.le_of_eq (congrArg Array.size e0.symm))) hS17 hg17
    replace hk := Nat.le_refl T17.heap.size
    replace hZ : Z.Warmed39 (s.setVm T17.vm).vm := State.Warmed39.trans (t := s.setVm vm0) hZ hS17.1
    replace hown : (s.setVm T17.vm).vm.findClass "com/example/vestry/vestry/io/PaymentFormNamedPinLaw" = some m.cls := by rw [show (s.setVm T17.vm).vm = T17.vm from rfl, hS17.1.alike.findClass]; exact hown
    obtain ⟨rfl, N17q, K17⟩ := hQ17
    have N17 := Fr.app N0 N17q
    obtain ⟨h17, e17⟩ : ∃ z, T17.heap = z := ⟨_, rfl⟩
    rw [e17] at K17 CR17
    replace CR := CR.trans CR17
    replace Z0 := Nat.le_trans Z0 K17.1
    replace O0 := O0.keep K17 all0
    replace E_a1 := E_a1.keep K17
    replace Fc_a1 := Fc_a1.keep K17 nin0
    replace Fv_a1 := Fv_a1.keep K17 nin0
    replace V_tx := V_tx.keep K17 nin0
    replace hk : T17.heap.size ≤ h17.size := Nat.le_of_eq (congrArg Array.size e17)
    refine GoH.tr (pc' := 132) (S' := [(.ref f2)]) st17 ?_
    refine GoH.st (pc' := 134) (S' := []) (fun t_ k_ => XS.astore X17.here hx rfl (hb hby at_132) rfl rfl (l' := #[.val (.int p1), .val (.int p2), .val (.int p3), .val (.int p4), .val (.int p5), .val (.ref rb), .val (.int md), .val (.int (n.toInt32)), .val (.ref ar), .val (.ref a1), .val (.ref f2), .unset]) rfl k_) ?_
    refine GoH.st (pc' := 136) (S' := [(.ref a1)]) (fun t_ k_ => XS.aload X17.here hx rfl (hb hby at_134) rfl rfl k_) ?_
    obtain ⟨_, _, ⟨T19, L19, k19, n19⟩, -, X19, ⟨Lc19, hQ19, l19, y19, z19⟩, st19⟩ := Jvm.LawKit.callS X17 hx (y := (⟨"com/example/vestry/vestry/io/PaymentForm", "named", "(Ljava/lang/String;)Ljava/util/Optional;"⟩ : MethodName)) hown (mvT hZ (wd hw 47 rfl)) (mvT hZ (wd hw 48 rfl)) (mvT hZ (wd hw 49 rfl)) (mvT hZ (wd hw 50 rfl)) (by decide) (backOf (W := 0) (rmnam2 l Z a0 hw [] a1 tx _ (X) (n) va f0 f1 f2 ty0 ty1 ty2 u0 u1 u2 kva kv0 kv1 kv2 em gC h17 n0 Z0 SC PC O0 S0 S1 S2 SV SE pf E_a1 Fc_a1 Fv_a1 V_tx hn13 hq0 hq1 hq2) hZ (wd hw 50 rfl) (wd hw 49 rfl) (by decide) (by decide)) (g := (mkF m 136 #[.val (.int p1), .val (.int p2), .val (.int p3), .val (.int p4), .val (.int p5), .val (.ref rb), .val (.int md), .val (.int (n.toInt32)), .val (.ref ar), .val (.ref a1), .val (.ref f2), .unset] [(.ref a1)])) rfl (by rw [hml]; rfl) (argsL := [(.ref a1)]) (rest := []) (lenOf pd_17 rfl) rfl (by show 2 * 0 + _ ≤ _; exact Nat.le_of_eq rfl) (hb hby at_136) (fun _ _ => ⟨rfl, e17, (by decide : 26 + 2 ≤ _), (by decide : 340 + 4 ≤ _)⟩)
    dsimp only [Pt.U, Pt.locs, Pt.cells, Pt.slots] at X19 l19 y19 z19 st19 hQ19
    subst l19 y19 z19
    obtain ⟨b19, rfl, N19q, K19, g_b19, E19, F19⟩ := hQ19
    have N19 := Fr.app N17 N19q
    obtain ⟨h19, e19⟩ : ∃ z, T19.heap = z := ⟨_, rfl⟩
    rw [e19] at K19 E19 F19
    have Sk20 : ∀ x ∈ [], Safe Z EL T17.vm h17 x := all0
    replace CR := CR.trans (CHr.keep K19 Sk20 CR.1)
    replace hk := Nat.le_trans hk K19.1
    replace Z0 := Nat.le_trans Z0 K19.1
    replace O0 := O0.keep K19 all0
    replace E_a1 := E_a1.keep K19
    replace Fc_a1 := Fc_a1.keep K19 nin0
    replace Fv_a1 := Fv_a1.keep K19 nin0
    replace V_tx := V_tx.keep K19 nin0
    refine GoH.st (pc' := 139) (S' := [(.ref b19)]) st19 ?_
    refine GoH.st (pc' := 141) (S' := []) (fun t_ k_ => XS.astore X19.here hx rfl (hb hby at_139) rfl rfl (l' := #[.val (.int p1), .val (.int p2), .val (.int p3), .val (.int p4), .val (.int p5), .val (.ref rb), .val (.int md), .val (.int (n.toInt32)), .val (.ref ar), .val (.ref a1), .val (.ref f2), .val (.ref b19)]) rfl k_) ?_
    obtain ⟨E_va, V_va, E_f0, F_f0, E_ty0, Fc_ty0, Fv_ty0, V_u0, E_f1, F_f1, E_ty1, Fc_ty1, Fv_ty1, V_u1, E_f2, F_f2, E_ty2, Fc_ty2, Fv_ty2, V_u2⟩ := id pf
    replace E_f2 := Exa.ext O0.2 E_f2
    replace F_f2 := Fld.ext O0.2 F_f2
    replace E_ty2 := Exa.ext O0.2 E_ty2
    replace Fc_ty2 := Fld.ext O0.2 Fc_ty2
    replace Fv_ty2 := Fld.ext O0.2 Fv_ty2
    replace V_u2 := Arv.ext V_u2 O0.2
    refine GoH.st (pc' := 143) (S' := [(.ref f2)]) (fun t_ k_ => XS.aload X19.here hx rfl (hb hby at_141) rfl rfl k_) ?_
    refine GoH.st (pc' := 160) (S' := []) (fun t_ k_ => XS.ifnonnullYes X19.here hx rfl (pc0 := 143) (pc' := 160) rfl (hb hby at_143) rfl (by decide) (by decide) k_) ?_
    refine GoH.st (pc' := 162) (S' := [(.ref b19)]) (fun t_ k_ => XS.aload X19.here hx rfl (hb hby at_160) rfl rfl k_) ?_
    obtain ⟨cq21, kq21, q21a, q21b, q21c⟩ := isOf hZ e19 E19
    obtain ⟨_, _, ⟨T21, L21, k21, n21⟩, -, X21, ⟨Lc21, hQ21, l21, y21, z21⟩, st21⟩ := X19.virtualBack hx (y := (⟨"java/util/Optional", "isPresent", "()Z"⟩ : MethodName)) (z := (⟨"java/util/Optional", "isPresent", "()Z"⟩ : MethodName)) hown (mvT hZ (wd hw 77 rfl)) (mvT hZ (wd hw 78 rfl)) (notFace_of_selects (args := #[]) (mvT hZ (wd hw 80 rfl))) (mvT hZ (wd hw 80 rfl)) (mvT hZ (wd hw 79 rfl)) (by decide) (backOf (W := 0) (rmip1 l Z a0 hw [] b19 f2 h19 n0 Z0 F19) hZ (wd hw 81 rfl) (wd hw 74 rfl) (by decide) (by decide)) q21a q21c (g := (mkF m 162 #[.val (.int p1), .val (.int p2), .val (.int p3), .val (.int p4), .val (.int p5), .val (.ref rb), .val (.int md), .val (.int (n.toInt32)), .val (.ref ar), .val (.ref a1), .val (.ref f2), .val (.ref b19)] [(.ref b19)])) rfl (by rw [hml]; rfl) (Steps.refl _) (argsL := []) (rest := []) (lenOf pd_4 rfl) rfl (by show 2 * 0 + _ ≤ _; exact Nat.le_of_eq rfl) (hb hby at_162) (fun _ _ => ⟨rfl, e19, (by decide : 28 + 0 ≤ _), (by decide : 344 + 0 ≤ _)⟩)
    dsimp only [Pt.U, Pt.locs, Pt.cells, Pt.slots] at X21 l21 y21 z21 st21 hQ21
    subst l21 y21 z21
    obtain ⟨rfl, N21q, e21⟩ := hQ21
    have N21 := Fr.app N19 N21q
    refine GoH.tr (pc' := 165) (S' := [(.int (1 : Int32))]) st21 ?_
    refine GoH.st (pc' := 168) (S' := []) (fun t_ k_ => XS.ifNo X21.here hx rfl (hb hby at_165) rfl ((if0 _ _).trans (feq (by decide : ¬ ((1 : Int32) = (0 : Int32)))).1) k_) ?_
    refine GoH.st (pc' := 170) (S' := [(.ref b19)]) (fun t_ k_ => XS.aload X21.here hx rfl (hb hby at_168) rfl rfl k_) ?_
    obtain ⟨cq22, kq22, q22a, q22b, q22c⟩ := isOf hZ e21 E19
    obtain ⟨_, _, ⟨T22, L22, k22, n22⟩, -, X22, ⟨Lc22, hQ22, l22, y22, z22⟩, st22⟩ := X21.virtualBack hx (y := (⟨"java/util/Optional", "get", "()Ljava/lang/Object;"⟩ : MethodName)) (z := (⟨"java/util/Optional", "get", "()Ljava/lang/Object;"⟩ : MethodName)) hown (mvT hZ (wd hw 143 rfl)) (mvT hZ (wd hw 144 rfl)) (notFace_of_selects (args := #[]) (mvT hZ (wd hw 146 rfl))) (mvT hZ (wd hw 146 rfl)) (mvT hZ (wd hw 145 rfl)) (by decide) (backOf (W := 0) (rmog l Z a0 hw [] b19 f2 h19 n0 Z0 F19) hZ (wd hw 147 rfl) (wd hw 74 rfl) (by decide) (by decide)) q22a q22c (g := (mkF m 170 #[.val (.int p1), .val (.int p2), .val (.int p3), .val (.int p4), .val (.int p5), .val (.ref rb), .val (.int md), .val (.int (n.toInt32)), .val (.ref ar), .val (.ref a1), .val (.ref f2), .val (.ref b19)] [(.ref b19)])) rfl (by rw [hml]; rfl) (Steps.refl _) (argsL := []) (rest := []) (lenOf pd_18 rfl) rfl (by show 2 * 0 + _ ≤ _; exact Nat.le_of_eq rfl) (hb hby at_170) (fun _ _ => ⟨rfl, e21, (by decide : 28 + 0 ≤ _), (by decide : 344 + 0 ≤ _)⟩)
    dsimp only [Pt.U, Pt.locs, Pt.cells, Pt.slots] at X22 l22 y22 z22 st22 hQ22
    subst l22 y22 z22
    obtain ⟨rfl, N22q, e22⟩ := hQ22
    have N22 := Fr.app N21 N22q
    refine GoH.tr (pc' := 173) (S' := [(.ref f2)]) st22 ?_
    refine GoH.st (pc' := 175) (S' := [(.ref f2), (.ref f2)]) (fun t_ k_ => XS.aload X22.here hx rfl (hb hby at_173) rfl rfl k_) ?_
    refine GoH.st (pc' := 178) (S' := []) (fun t_ k_ => Jvm.RoadKit.acmp (g := (mkF m 175 #[.val (.int p1), .val (.int p2), .val (.int p3), .val (.int p4), .val (.int p5), .val (.ref rb), .val (.int md), .val (.int (n.toInt32)), .val (.ref ar), .val (.ref a1), .val (.ref f2), .val (.ref b19)] [(.ref f2), (.ref f2)])) X22 hx rfl rfl rfl (pc0 := 175) (pc' := 178) (same := true) rfl (hb hby at_175) rfl (decide_eq_true rfl) (by decide) (by decide) k_) ?_
    refine GoH.st (pc' := 180) (S' := [(.ref f2)]) (fun t_ k_ => XS.aload X22.here hx rfl (hb hby at_178) rfl rfl k_) ?_
    obtain ⟨cq23, kq23, q23a, q23b, q23c⟩ := isOf hZ e22 E_f2
    obtain ⟨_, _, ⟨T23, L23, k23, n23⟩, -, X23, ⟨Lc23, hQ23, l23, y23, z23⟩, st23⟩ := X22.virtualBack hx (y := (⟨"com/example/vestry/vestry/io/PaymentForm", "text", "()Ljava/lang/String;"⟩ : MethodName)) (z := (⟨"com/example/vestry/vestry/io/PaymentForm", "text", "()Ljava/lang/String;"⟩ : MethodName)) hown (mvT hZ (wd hw 148 rfl)) (mvT hZ (wd hw 149 rfl)) (notFace_of_selects (args := #[]) (mvT hZ (wd hw 151 rfl))) (mvT hZ (wd hw 151 rfl)) (mvT hZ (wd hw 150 rfl)) (by decide) (backOf (W := 0) (rm28 l Z a0 hw [] f2 ty2 h19 n0 Z0 F_f2) hZ (wd hw 152 rfl) (wd hw 49 rfl) (by decide) (by decide)) q23a q23c (g := (mkF m 180 #[.val (.int p1), .val (.int p2), .val (.int p3), .val (.int p4), .val (.int p5), .val (.ref rb), .val (.int md), .val (.int (n.toInt32)), .val (.ref ar), .val (.ref a1), .val (.ref f2), .val (.ref b19)] [(.ref f2)])) rfl (by rw [hml]; rfl) (Steps.refl _) (argsL := []) (rest := []) (lenOf pd_19 rfl) rfl (by show 2 * 0 + _ ≤ _; exact Nat.le_of_eq rfl) (hb hby at_180) (fun _ _ => ⟨rfl, e22, (by decide : 28 + 0 ≤ _), (by decide : 344 + 0 ≤ _)⟩)
    dsimp only [Pt.U, Pt.locs, Pt.cells, Pt.slots] at X23 l23 y23 z23 st23 hQ23
    subst l23 y23 z23
    obtain ⟨rfl, N23q, e23⟩ := hQ23
    have N23 := Fr.app N22 N23q
    refine GoH.tr (pc' := 183) (S' := [(.ref ty2)]) st23 ?_
    refine GoH.st (pc' := 185) (S' := [(.ref a1), (.ref ty2)]) (fun t_ k_ => XS.aload X23.here hx rfl (hb hby at_183) rfl rfl k_) ?_
    obtain ⟨cq24, kq24, q24a, q24b, q24c⟩ := isOf hZ e23 E_ty2
    obtain ⟨_, _, ⟨T24, L24, k24, n24⟩, -, X24, ⟨Lc24, hQ24, l24, y24, z24⟩, st24⟩ := X23.virtualBack hx (y := (⟨"java/lang/String", "equals", "(Ljava/lang/Object;)Z"⟩ : MethodName)) (z := (⟨"java/lang/String", "equals", "(Ljava/lang/Object;)Z"⟩ : MethodName)) hown (mvT hZ (wd hw 34 rfl)) (mvT hZ (wd hw 35 rfl)) (notFace_of_selects (args := #[]) (mvT hZ (wd hw 37 rfl))) (mvT hZ (wd hw 37 rfl)) (mvT hZ (wd hw 36 rfl)) (by decide) (backOf (W := 0) (rmseq l Z a0 hw [] ty2 a1 u2 tx _ _ (([108, 105, 102, 101, 45, 97, 110, 110, 117, 105, 116, 121] : List Int32)) (X) (12) (n) gC h19 n0 Z0 SC PC O0 E_ty2 Fc_ty2 Fv_ty2 V_u2 E_a1 Fc_a1 Fv_a1 V_tx (by decide) hn13) hZ (wd hw 38 rfl) (wd hw 6 rfl) (by decide) (by decide)) q24a q24c (g := (mkF m 185 #[.val (.int p1), .val (.int p2), .val (.int p3), .val (.int p4), .val (.int p5), .val (.ref rb), .val (.int md), .val (.int (n.toInt32)), .val (.ref ar), .val (.ref a1), .val (.ref f2), .val (.ref b19)] [(.ref a1), (.ref ty2)])) rfl (by rw [hml]; rfl) (Steps.refl _) (argsL := [(.ref a1)]) (rest := []) (lenOf pd_10 rfl) rfl (by show 2 * 0 + _ ≤ _; exact Nat.le_of_eq rfl) (hb hby at_185) (fun _ _ => ⟨rfl, e23, (by decide : 28 + 0 ≤ _), (by decide : 344 + 0 ≤ _)⟩)
    dsimp only [Pt.U, Pt.locs, Pt.cells, Pt.slots] at X24 l24 y24 z24 st24 hQ24
    subst l24 y24 z24
    obtain ⟨rfl, N24q, e24⟩ := hQ24
    have N24 := Fr.app N23 N24q
    refine GoH.tr (pc' := 188) (S' := [(.int (own_eq (([108, 105, 102, 101, 45, 97, 110, 110, 117, 105, 116, 121] : List Int32)) (12) (X) (n)))]) st24 ?_
    refine GoH.st (pc' := 191) (S' := []) (fun t_ k_ => XS.ifNo X24.here hx rfl (hb hby at_188) rfl ((if0 _ _).trans (feq (by rw [own_eqs X n, hq2]; decide : ¬ ((own_eq (([108, 105, 102, 101, 45, 97, 110, 110, 117, 105, 116, 121] : List Int32)) (12) (X) (n)) = (0 : Int32)))).1) k_) ?_
    refine GoH.st (pc' := 192) (S' := [(.int (1 : Int32))]) (fun t_ k_ => XS.iconst X24.here hx rfl (hb hby at_191) k_) ?_
    refine GoH.st (pc' := 196) (S' := [(.int (1 : Int32))]) (fun t_ k_ => XS.goto X24.here hx rfl (pc0 := 192) (pc' := 196) rfl (hb hby at_192) (by decide) (by decide) k_) ?_
    exact GoH.retN X24 hx hlk hret (by simp) (hb hby at_196) (by decide) (by decide) hS hk e24 hs0 hZ (own_EW hw) CR (by rw [e24]; exact ⟨rfl, N24⟩)
  · skip
    refine GoH.st (pc' := 127) (S' := []) (fun t_ k_ => XS.astore X0.here hx rfl (hb hby at_125) rfl rfl (l' := #[.val (.int p1), .val (.int p2), .val (.int p3), .val (.int p4), .val (.int p5), .val (.ref rb), .val (.int md), .val (.int (n.toInt32)), .val (.ref ar), .val (.ref a1), .unset, .unset]) rfl k_) ?_
    refine GoH.st (pc' := 129) (S' := [(.ref a1)]) (fun t_ k_ => XS.aload X0.here hx rfl (hb hby at_127) rfl rfl k_) ?_
    obtain ⟨_, _, ⟨T25, L25, k25, n25⟩, -, X25, hS25, hg25, ⟨Lc25, hQ25, l25, y25, z25, CR25⟩, st25⟩ := callSS X0 hx (y := (⟨"com/example/vestry/vestry/io/PaymentFormNamedPinLaw", "expected", "(Ljava/lang/String;)Lcom/example/vestry/vestry/io/PaymentForm;"⟩ : MethodName)) hown (mvT hZ (wd hw 31 rfl)) (mvT hZ (wd hw 32 rfl)) (mvT hZ (wd hw 3 rfl)) (mvT hZ (wd hw 33 rfl)) (by decide) (backOfSH (W := 0) (rmexp3 l Z a0 hw [] a1 tx _ (X) (n) f0 f1 f2 va em gC hh n0 Z0 SC PC O0 S0 S1 S2 SV SE E_a1 Fc_a1 Fv_a1 V_tx hn13 hq0 hq1 hq2) hZ (wd hw 33 rfl) (wd hw 3 rfl) (by decide) (by decide) (own_EW hw) CR.1) (g := (mkF m 129 #[.val (.int p1), .val (.int p2), .val (.int p3), .val (.int p4), .val (.int p5), .val (.ref rb), .val (.int md), .val (.int (n.toInt32)), .val (.ref ar), .val (.ref a1), .unset, .unset] [(.ref a1)])) rfl (by rw [hml]; rfl) (argsL := [(.ref a1)]) (rest := []) (lenOf pd_16 rfl) rfl (by show 2 * 0 + _ ≤ _; exact Nat.le_of_eq rfl) (hb hby at_129) (fun _ _ => ⟨rfl, e0, (by decide : 20 + 6 ≤ _), (by decide : 200 + 140 ≤ _)⟩)
    dsimp only [Pt.U, Pt.locs, Pt.cells, Pt.slots] at X25 l25 y25 z25 st25 hQ25 hS25 hg25 CR25
    subst l25 y25 z25
    replace X25 : Stand p l e _ (s.setVm T25.vm) m _ below meth c T25 _ _ _ := X25
    replace hS := foldS hS (T := T0) (Nat.le_trans hk (Nat.le_of_eq (congrArg Array.size e0.symm))) hS25 hg25
    replace hk := Nat.le_refl T25.heap.size
    replace hZ : Z.Warmed39 (s.setVm T25.vm).vm := State.Warmed39.trans (t := s.setVm vm0) hZ hS25.1
    replace hown : (s.setVm T25.vm).vm.findClass "com/example/vestry/vestry/io/PaymentFormNamedPinLaw" = some m.cls := by rw [show (s.setVm T25.vm).vm = T25.vm from rfl, hS25.1.alike.findClass]; exact hown
    obtain ⟨rfl, N25q, K25⟩ := hQ25
    have N25 := Fr.app N0 N25q
    obtain ⟨h25, e25⟩ : ∃ z, T25.heap = z := ⟨_, rfl⟩
    rw [e25] at K25 CR25
    replace CR := CR.trans CR25
    replace Z0 := Nat.le_trans Z0 K25.1
    replace O0 := O0.keep K25 all0
    replace E_a1 := E_a1.keep K25
    replace Fc_a1 := Fc_a1.keep K25 nin0
    replace Fv_a1 := Fv_a1.keep K25 nin0
    replace V_tx := V_tx.keep K25 nin0
    replace hk : T25.heap.size ≤ h25.size := Nat.le_of_eq (congrArg Array.size e25)
    refine GoH.tr (pc' := 132) (S' := [.null]) st25 ?_
    refine GoH.st (pc' := 134) (S' := []) (fun t_ k_ => XS.astore X25.here hx rfl (hb hby at_132) rfl rfl (l' := #[.val (.int p1), .val (.int p2), .val (.int p3), .val (.int p4), .val (.int p5), .val (.ref rb), .val (.int md), .val (.int (n.toInt32)), .val (.ref ar), .val (.ref a1), .val .null, .unset]) rfl k_) ?_
    refine GoH.st (pc' := 136) (S' := [(.ref a1)]) (fun t_ k_ => XS.aload X25.here hx rfl (hb hby at_134) rfl rfl k_) ?_
    obtain ⟨_, _, ⟨T27, L27, k27, n27⟩, -, X27, ⟨Lc27, hQ27, l27, y27, z27⟩, st27⟩ := Jvm.LawKit.callS X25 hx (y := (⟨"com/example/vestry/vestry/io/PaymentForm", "named", "(Ljava/lang/String;)Ljava/util/Optional;"⟩ : MethodName)) hown (mvT hZ (wd hw 47 rfl)) (mvT hZ (wd hw 48 rfl)) (mvT hZ (wd hw 49 rfl)) (mvT hZ (wd hw 50 rfl)) (by decide) (backOf (W := 0) (rmnam3 l Z a0 hw [] a1 tx _ (X) (n) va f0 f1 f2 ty0 ty1 ty2 u0 u1 u2 kva kv0 kv1 kv2 em gC h25 n0 Z0 SC PC O0 S0 S1 S2 SV SE pf E_a1 Fc_a1 Fv_a1 V_tx hn13 hq0 hq1 hq2) hZ (wd hw 50 rfl) (wd hw 49 rfl) (by decide) (by decide)) (g := (mkF m 136 #[.val (.int p1), .val (.int p2), .val (.int p3), .val (.int p4), .val (.int p5), .val (.ref rb), .val (.int md), .val (.int (n.toInt32)), .val (.ref ar), .val (.ref a1), .val .null, .unset] [(.ref a1)])) rfl (by rw [hml]; rfl) (argsL := [(.ref a1)]) (rest := []) (lenOf pd_17 rfl) rfl (by show 2 * 0 + _ ≤ _; exact Nat.le_of_eq rfl) (hb hby at_136) (fun _ _ => ⟨rfl, e25, (by decide : 26 + 1 ≤ _), (by decide : 340 + 3 ≤ _)⟩)
    dsimp only [Pt.U, Pt.locs, Pt.cells, Pt.slots] at X27 l27 y27 z27 st27 hQ27
    subst l27 y27 z27
    obtain ⟨rfl, N27q, K27⟩ := hQ27
    have N27 := Fr.app N25 N27q
    obtain ⟨h27, e27⟩ : ∃ z, T27.heap = z := ⟨_, rfl⟩
    rw [e27] at K27
    have Sk28 : ∀ x ∈ [], Safe Z EL T25.vm h25 x := all0
    replace CR := CR.trans (CHr.keep K27 Sk28 CR.1)
    replace hk := Nat.le_trans hk K27.1
    replace Z0 := Nat.le_trans Z0 K27.1
    replace O0 := O0.keep K27 all0
    replace E_a1 := E_a1.keep K27
    replace Fc_a1 := Fc_a1.keep K27 nin0
    replace Fv_a1 := Fv_a1.keep K27 nin0
    replace V_tx := V_tx.keep K27 nin0
    refine GoH.st (pc' := 139) (S' := [(.ref em)]) st27 ?_
    refine GoH.st (pc' := 141) (S' := []) (fun t_ k_ => XS.astore X27.here hx rfl (hb hby at_139) rfl rfl (l' := #[.val (.int p1), .val (.int p2), .val (.int p3), .val (.int p4), .val (.int p5), .val (.ref rb), .val (.int md), .val (.int (n.toInt32)), .val (.ref ar), .val (.ref a1), .val .null, .val (.ref em)]) rfl k_) ?_
    have Fem_ := Fld.ext O0.2 Fem
    have Eem_ := Exa.ext O0.2 Eem
    refine GoH.st (pc' := 143) (S' := [.null]) (fun t_ k_ => XS.aload X27.here hx rfl (hb hby at_141) rfl rfl k_) ?_
    refine GoH.st (pc' := 146) (S' := []) (fun t_ k_ => XS.ifnonnullNo X27.here hx rfl (hb hby at_143) rfl k_) ?_
    refine GoH.st (pc' := 148) (S' := [(.ref em)]) (fun t_ k_ => XS.aload X27.here hx rfl (hb hby at_146) rfl rfl k_) ?_
    obtain ⟨cq29, kq29, q29a, q29b, q29c⟩ := isOf hZ e27 Eem_
    obtain ⟨_, _, ⟨T29, L29, k29, n29⟩, -, X29, ⟨Lc29, hQ29, l29, y29, z29⟩, st29⟩ := X27.virtualBack hx (y := (⟨"java/util/Optional", "isPresent", "()Z"⟩ : MethodName)) (z := (⟨"java/util/Optional", "isPresent", "()Z"⟩ : MethodName)) hown (mvT hZ (wd hw 77 rfl)) (mvT hZ (wd hw 78 rfl)) (notFace_of_selects (args := #[]) (mvT hZ (wd hw 80 rfl))) (mvT hZ (wd hw 80 rfl)) (mvT hZ (wd hw 79 rfl)) (by decide) (backOf (W := 0) (rmip0 l Z a0 hw [] em  h27 n0 Z0 Fem_) hZ (wd hw 81 rfl) (wd hw 74 rfl) (by decide) (by decide)) q29a q29c (g := (mkF m 148 #[.val (.int p1), .val (.int p2), .val (.int p3), .val (.int p4), .val (.int p5), .val (.ref rb), .val (.int md), .val (.int (n.toInt32)), .val (.ref ar), .val (.ref a1), .val .null, .val (.ref em)] [(.ref em)])) rfl (by rw [hml]; rfl) (Steps.refl _) (argsL := []) (rest := []) (lenOf pd_4 rfl) rfl (by show 2 * 0 + _ ≤ _; exact Nat.le_of_eq rfl) (hb hby at_148) (fun _ _ => ⟨rfl, e27, (by decide : 27 + 0 ≤ _), (by decide : 343 + 0 ≤ _)⟩)
    dsimp only [Pt.U, Pt.locs, Pt.cells, Pt.slots] at X29 l29 y29 z29 st29 hQ29
    subst l29 y29 z29
    obtain ⟨rfl, N29q, e29⟩ := hQ29
    have N29 := Fr.app N27 N29q
    refine GoH.tr (pc' := 151) (S' := [(.int (0 : Int32))]) st29 ?_
    refine GoH.st (pc' := 154) (S' := []) (fun t_ k_ => XS.ifNo X29.here hx rfl (hb hby at_151) rfl ((if0 _ _).trans (teq (by decide : ((0 : Int32) = (0 : Int32)))).2) k_) ?_
    refine GoH.st (pc' := 155) (S' := [(.int (1 : Int32))]) (fun t_ k_ => XS.iconst X29.here hx rfl (hb hby at_154) k_) ?_
    refine GoH.st (pc' := 159) (S' := [(.int (1 : Int32))]) (fun t_ k_ => XS.goto X29.here hx rfl (pc0 := 155) (pc' := 159) rfl (hb hby at_155) (by decide) (by decide) k_) ?_
    exact GoH.retN X29 hx hlk hret (by simp) (hb hby at_159) (by decide) (by decide) hS hk e29 hs0 hZ (own_EW hw) CR (by rw [e29]; exact ⟨rfl, N29⟩)
theorem pd_20 : parseMethodDescriptor "([C)V" = some ⟨[(.array .char)], none⟩ := by decide +kernel
theorem sl116 {p : Program} {l : Launch} {e : Env} {s : State} {m : MethodId} {args : Array Value} {below : List Frame} {meth : Method} {c : Code} {T0 : State} {locs : List Loc} {Z : State} {a0 : Array Value} {n0 k0 : Nat} {h0 hh : Heap} {vm0 : Vm} (p1 p2 p3 p4 p5 : Int32) (va f0 f1 f2 ty0 ty1 ty2 u0 u1 u2 : Addr) (kva kv0 kv1 kv2 : ClassId) (em : Addr) (fm : Value) (gC : Int32) (rb ar : Addr) (ka : ClassId) (X : List Int32) (n : Nat) (md : Int32)
    (X0 : Stand p l e room_1 (s.setVm vm0) m args below meth c T0 locs 10 120) (hx : p.tables.exec = Jvm.exec) (hZ : Z.Warmed39 (s.setVm vm0).vm) (hw : ∀ d ∈ tables_1, d.before a0 Z = true) (hby : c.code = code) (hml : c.maxLocals = 12) (hown : (s.setVm vm0).vm.findClass "com/example/vestry/vestry/io/PaymentFormNamedPinLaw" = some m.cls) (hnm : meth.name = "law") (hret : meth.sig.returnType = (some .boolean)) (hlk : meth.locks = false) (e0 : T0.heap = hh) (hs0 : s.heap = h0) (CR : CHr Z EL s.vm h0 vm0 hh) (hS : s.Since vm0 k0) (hk : k0 ≤ hh.size) (N0 : Fr n0 locs) (Z0 : n0 ≤ hh.size) (SC : Sta Z Z.heap "java/lang/String" "COMPACT_STRINGS" "Z" (.int gC)) (PC : ¬ (gC = (0 : Int32))) (O0 : Old Z n0 hh) (hfm : fm.isRef = true) (SF : Sta Z Z.heap "jdk/internal/util/Preconditions" "SIOOBE_FORMATTER" "Ljava/util/function/BiFunction;" fm) (S0 : Sta Z Z.heap "com/example/vestry/vestry/io/PaymentForm" "LUMP_SUM" "Lcom/example/vestry/vestry/io/PaymentForm;" (.ref f0)) (S1 : Sta Z Z.heap "com/example/vestry/vestry/io/PaymentForm" "INSTALLMENTS" "Lcom/example/vestry/vestry/io/PaymentForm;" (.ref f1)) (S2 : Sta Z Z.heap "com/example/vestry/vestry/io/PaymentForm" "LIFE_ANNUITY" "Lcom/example/vestry/vestry/io/PaymentForm;" (.ref f2)) (SV : Sta Z Z.heap "com/example/vestry/vestry/io/PaymentForm" "$VALUES" "[Lcom/example/vestry/vestry/io/PaymentForm;" (.ref va)) (SE : Sta Z Z.heap "java/util/Optional" "EMPTY" "Ljava/util/Optional;" (.ref em)) (pf : own_PF Z va f0 f1 f2 ty0 ty1 ty2 u0 u1 u2 kva kv0 kv1 kv2) (Eem : Exa Z Z.heap em "java/util/Optional") (Fem : Fld Z Z.heap em "java/util/Optional" "value" "Ljava/lang/Object;" .null) (V_ar : Arv Z hh ar ka .char (n.toInt32) (X.map Value.int) (.int (0 : Int32))) (hL : own_lat X) (hn13 : n ≤ 13) :
    GoH Z EL p e below s room_1.cells room_1.slots (Q0 Z h0 n0) m T0 116 #[.val (.int p1), .val (.int p2), .val (.int p3), .val (.int p4), .val (.int p5), .val (.ref rb), .val (.int md), .val (.int (n.toInt32)), .val (.ref ar), .unset, .unset, .unset] [] := by
  obtain ⟨T1, h1, X1, e1, E1, A1, D1, U1, st1⟩ := newO X0 hx hZ hown (wd hw 17 rfl) (wd hw 7 rfl) (wd hw 6 rfl) e0 (g := (mkF m 116 #[.val (.int p1), .val (.int p2), .val (.int p3), .val (.int p4), .val (.int p5), .val (.ref rb), .val (.int md), .val (.int (n.toInt32)), .val (.ref ar), .unset, .unset, .unset] [])) rfl (hb hby at_116) (by decide) (by decide)
  obtain ⟨b1, g1⟩ : ∃ z, z = hh.size := ⟨_, rfl⟩
  rw [← g1] at A1 D1 U1 st1
  have ne_ar_b1 : ar ≠ b1 := Nat.ne_of_lt (Nat.lt_of_lt_of_le V_ar.lt (Nat.le_of_eq g1.symm))
  have g_b1 : n0 ≤ b1 := Nat.le_trans Z0 (Nat.le_of_eq g1.symm)
  have S_b1 : Safe Z EL vm0 h1 b1 := Safe.ext E1 CR.1 (Safe.new (Nat.le_of_eq g1.symm))
  replace CR := CR.trans (CHr.ext E1 CR.1)
  replace hk := Nat.le_trans hk E1.1
  replace Z0 := Nat.le_trans Z0 E1.1
  replace O0 := O0.ext E1
  replace V_ar := V_ar.ext E1
  have E_b1 := A1
  have F_b1_value : Fld Z h1 b1 "java/lang/String" "value" "[B" .null := D1 (Or.inr (wd hw 9 rfl)) (ty := (.array .byte)) (by decide)
  have F_b1_coder : Fld Z h1 b1 "java/lang/String" "coder" "B" (.int (0 : Int32)) := D1 (Or.inr (wd hw 10 rfl)) (ty := .byte) (by decide)
  refine GoH.st (pc' := 119) (S' := [(.ref b1)]) st1 ?_
  refine GoH.st (pc' := 120) (S' := [(.ref b1), (.ref b1)]) (fun t_ k_ => XS.dup X1.here hx rfl (hb hby at_119) rfl rfl k_) ?_
  refine GoH.st (pc' := 122) (S' := [(.ref ar), (.ref b1), (.ref b1)]) (fun t_ k_ => XS.aload X1.here hx rfl (hb hby at_120) rfl rfl k_) ?_
  by_cases hz : n = 0
  · subst hz
    replace V_ar := own_arv0 (vs' := []) V_ar
    obtain ⟨_, _, ⟨T2, L2, k2, n2⟩, -, X2, hS2, hg2, ⟨Lc2, hQ2, l2, y2, z2, CR2⟩, st2⟩ := X1.specialBackS hx (y := (⟨"java/lang/String", "<init>", "([C)V"⟩ : MethodName)) rfl hown (mvT hZ (wd hw 18 rfl)) (mvT hZ (wd hw 19 rfl)) (mvT hZ (wd hw 20 rfl)) (by decide) (backOfSH (W := 1) (rmE3 l Z a0 hw [] b1 ar _ h1 n0 Z0 E_b1 g_b1 F_b1_value F_b1_coder V_ar (Ne.symm ne_ar_b1)) hZ (wd hw 20 rfl) (wd hw 6 rfl) (by decide) (by decide) (own_EW hw) CR.1) (g := (mkF m 122 #[.val (.int p1), .val (.int p2), .val (.int p3), .val (.int p4), .val (.int p5), .val (.ref rb), .val (.int md), .val (.int ((0 : Nat).toInt32)), .val (.ref ar), .unset, .unset, .unset] [(.ref ar), (.ref b1), (.ref b1)])) rfl (by rw [hml]; rfl) (Steps.refl _) (a := b1) (argsL := [(.ref ar)]) (rest := [(.ref b1)]) (lenOf pd_20 rfl) rfl (by show 2 * 0 + _ ≤ _; exact Nat.le_of_eq rfl) (hb hby at_122) (fun _ _ => ⟨rfl, e1, (by decide : 11 + 4 ≤ _), (by decide : 124 + 8 ≤ _)⟩)
    dsimp only [Pt.U, Pt.locs, Pt.cells, Pt.slots] at X2 l2 y2 z2 st2 hQ2 hS2 hg2 CR2
    subst l2 y2 z2
    replace X2 : Stand p l e _ (s.setVm T2.vm) m _ below meth c T2 _ _ _ := X2
    replace hS := foldS hS (T := T1) (Nat.le_trans hk (Nat.le_of_eq (congrArg Array.size e1.symm))) hS2 hg2
    replace hk := Nat.le_refl T2.heap.size
    replace hZ : Z.Warmed39 (s.setVm T2.vm).vm := State.Warmed39.trans (t := s.setVm vm0) hZ hS2.1
    replace hown : (s.setVm T2.vm).vm.findClass "com/example/vestry/vestry/io/PaymentFormNamedPinLaw" = some m.cls := by rw [show (s.setVm T2.vm).vm = T2.vm from rfl, hS2.1.alike.findClass]; exact hown
    obtain ⟨t2, kb2, rfl, N2q, K2, Co2, nt2, Va2, Ay2⟩ := hQ2
    have N2 := Fr.app N0 N2q
    obtain ⟨h2, e2⟩ : ∃ z, T2.heap = z := ⟨_, rfl⟩
    rw [e2] at K2 Co2 Va2 Ay2 CR2
    replace S_b1 := CR2.safe E_b1.lt S_b1
    replace CR := CR.trans CR2
    replace Z0 := Nat.le_trans Z0 K2.1
    replace O0 := O0.keep K2 (allS g_b1 all0)
    replace V_ar := V_ar.keep K2 (ninS ne_ar_b1 nin0)
    replace E_b1 := E_b1.keep K2
    replace hk : T2.heap.size ≤ h2.size := Nat.le_of_eq (congrArg Array.size e2)
    refine GoH.tr (pc' := 125) (S' := [(.ref b1)]) st2 ?_
    exact sl125 p1 p2 p3 p4 p5 va f0 f1 f2 ty0 ty1 ty2 u0 u1 u2 kva kv0 kv1 kv2 em fm gC b1 t2 _ ([] : List Int32) 0 rb ar md (Stand.up X2 (by decide) (by decide)) hx hZ hw hby hml hown hnm hret hlk e2 hs0 CR hS hk N2 Z0 SC PC O0 hfm SF S0 S1 S2 SV SE pf Eem Fem E_b1 Co2 Va2 Ay2 hn13
  · have hws4 : ∀ d ∈ StrChars.Road.words, d.before a0 Z = true := fun d hd => hw d ((by decide +kernel : ∀ d ∈ StrChars.Road.words, d ∈ tables_1) d hd)
    have Vt4 := own_arvt (by omega) V_ar (by rw [hL.1]; exact hn13)
    obtain ⟨_, _, ⟨T4, L4, k4, n4⟩, -, X4, ⟨Lc4, hQ4, l4, y4, z4⟩, st4⟩ := X1.specialBack hx (y := (⟨"java/lang/String", "<init>", "([C)V"⟩ : MethodName)) rfl hown (mvT hZ (wd hw 18 rfl)) (mvT hZ (wd hw 19 rfl)) (mvT hZ (wd hw 20 rfl)) (by decide) (StrChars.Road.backV (W := 1) hZ hws4 (kI := 4) (wd hw 7 rfl) (cs := (X.take n)) (bs := ((X.take n).map (fun c => c.toInt8.toInt32))) (n := n) g_b1 Z0 E_b1 F_b1_value F_b1_coder Vt4 (SC.ext O0.2) PC (by rw [List.length_take, hL.1]; omega) rfl (by omega) (by omega) (fun c hc => hL.2 c (List.mem_of_mem_take hc)) rfl (by decide) (by decide)) (g := (mkF m 122 #[.val (.int p1), .val (.int p2), .val (.int p3), .val (.int p4), .val (.int p5), .val (.ref rb), .val (.int md), .val (.int (n.toInt32)), .val (.ref ar), .unset, .unset, .unset] [(.ref ar), (.ref b1), (.ref b1)])) rfl (by rw [hml]; rfl) (Steps.refl _) (a := b1) (argsL := [(.ref ar)]) (rest := [(.ref b1)]) (lenOf pd_20 rfl) rfl (by show 2 * 0 + _ ≤ _; exact Nat.le_of_eq rfl) (hb hby at_122) (fun _ _ => ⟨rfl, e1, (by decide : 11 + 1 ≤ _), Nat.le_trans (Nat.add_le_add_left hn13 _) (by decide : 124 + 13 ≤ _)⟩)
    dsimp only [Pt.U, Pt.locs, Pt.cells, Pt.slots] at X4 l4 y4 z4 st4 hQ4
    subst l4 y4 z4
    replace X4 := X4.more (Nat.le_refl _) (Nat.add_le_add_left hn13 _)
    obtain ⟨rfl, N4q, K4, EE4, Co4, t4, kb4, gt4, lt4, nt4, Va4, Ay4⟩ := hQ4
    have N4 := Fr.app N0 N4q
    have ne_ar_t4 : ar ≠ t4 := Nat.ne_of_lt (Nat.lt_of_lt_of_le V_ar.lt lt4)
    have ne_b1_t4 : b1 ≠ t4 := Nat.ne_of_lt (Nat.lt_of_lt_of_le E_b1.lt lt4)
    obtain ⟨h4, e4⟩ : ∃ z, T4.heap = z := ⟨_, rfl⟩
    rw [e4] at K4 EE4 Co4 Va4 Ay4
    have Sk5 : ∀ x ∈ [b1], Safe Z EL vm0 h1 x := (allS S_b1 all0)
    replace S_b1 := Safe.keep K4 Sk5 CR.1 S_b1
    replace CR := CR.trans (CHr.keep K4 Sk5 CR.1)
    replace hk := Nat.le_trans hk K4.1
    replace Z0 := Nat.le_trans Z0 K4.1
    replace O0 := O0.keep K4 (allS g_b1 all0)
    replace V_ar := V_ar.keep K4 (ninS ne_ar_b1 nin0)
    replace E_b1 := E_b1.keep K4
    refine GoH.tr (pc' := 125) (S' := [(.ref b1)]) st4 ?_
    exact sl125 p1 p2 p3 p4 p5 va f0 f1 f2 ty0 ty1 ty2 u0 u1 u2 kva kv0 kv1 kv2 em fm gC b1 t4 _ ((X.take n).map (fun c => c.toInt8.toInt32)) n rb ar md (Stand.up X4 (by decide) (by decide)) hx hZ hw hby hml hown hnm hret hlk e4 hs0 CR hS hk N4 Z0 SC PC O0 hfm SF S0 S1 S2 SV SE pf Eem Fem E_b1 Co4 Va4 Ay4 hn13
theorem pd_21 : parseMethodDescriptor "(Ljava/lang/String;II)[C" = some ⟨[(.object "java/lang/String"), .int, .int], some (.array .char)⟩ := by decide +kernel
theorem sl75 {p : Program} {l : Launch} {e : Env} {s : State} {m : MethodId} {args : Array Value} {below : List Frame} {meth : Method} {c : Code} {T0 : State} {locs : List Loc} {Z : State} {a0 : Array Value} {n0 k0 : Nat} {h0 hh : Heap} {vm0 : Vm} (p1 p2 p3 p4 p5 : Int32) (va f0 f1 f2 ty0 ty1 ty2 u0 u1 u2 : Addr) (kva kv0 kv1 kv2 : ClassId) (em : Addr) (fm : Value) (gC : Int32) (rb tb : Addr) (kb : ClassId) (Lb : List Int32) (nb n : Nat) (md : Int32)
    (X0 : Stand p l e room_1 (s.setVm vm0) m args below meth c T0 locs 4 80) (hx : p.tables.exec = Jvm.exec) (hZ : Z.Warmed39 (s.setVm vm0).vm) (hw : ∀ d ∈ tables_1, d.before a0 Z = true) (hby : c.code = code) (hml : c.maxLocals = 12) (hown : (s.setVm vm0).vm.findClass "com/example/vestry/vestry/io/PaymentFormNamedPinLaw" = some m.cls) (hnm : meth.name = "law") (hret : meth.sig.returnType = (some .boolean)) (hlk : meth.locks = false) (e0 : T0.heap = hh) (hs0 : s.heap = h0) (CR : CHr Z EL s.vm h0 vm0 hh) (hS : s.Since vm0 k0) (hk : k0 ≤ hh.size) (N0 : Fr n0 locs) (Z0 : n0 ≤ hh.size) (SC : Sta Z Z.heap "java/lang/String" "COMPACT_STRINGS" "Z" (.int gC)) (PC : ¬ (gC = (0 : Int32))) (O0 : Old Z n0 hh) (hfm : fm.isRef = true) (SF : Sta Z Z.heap "jdk/internal/util/Preconditions" "SIOOBE_FORMATTER" "Ljava/util/function/BiFunction;" fm) (S0 : Sta Z Z.heap "com/example/vestry/vestry/io/PaymentForm" "LUMP_SUM" "Lcom/example/vestry/vestry/io/PaymentForm;" (.ref f0)) (S1 : Sta Z Z.heap "com/example/vestry/vestry/io/PaymentForm" "INSTALLMENTS" "Lcom/example/vestry/vestry/io/PaymentForm;" (.ref f1)) (S2 : Sta Z Z.heap "com/example/vestry/vestry/io/PaymentForm" "LIFE_ANNUITY" "Lcom/example/vestry/vestry/io/PaymentForm;" (.ref f2)) (SV : Sta Z Z.heap "com/example/vestry/vestry/io/PaymentForm" "$VALUES" "[Lcom/example/vestry/vestry/io/PaymentForm;" (.ref va)) (SE : Sta Z Z.heap "java/util/Optional" "EMPTY" "Ljava/util/Optional;" (.ref em)) (pf : own_PF Z va f0 f1 f2 ty0 ty1 ty2 u0 u1 u2 kva kv0 kv1 kv2) (Eem : Exa Z Z.heap em "java/util/Optional") (Fem : Fld Z Z.heap em "java/util/Optional" "value" "Ljava/lang/Object;" .null) (E_rb : Exa Z hh rb "java/lang/String") (Fc_rb : Fld Z hh rb "java/lang/String" "coder" "B" (.int (0 : Int32))) (Fv_rb : Fld Z hh rb "java/lang/String" "value" "[B" (.ref tb)) (V_tb : Arv Z hh tb kb .byte (nb.toInt32) (Lb.map Value.int) (.int (0 : Int32))) (hnb : nb = 8 ∨ nb = 12) (hn13 : n ≤ 13) :
    GoH Z EL p e below s room_1.cells room_1.slots (Q0 Z h0 n0) m T0 75 #[.val (.int p1), .val (.int p2), .val (.int p3), .val (.int p4), .val (.int p5), .val (.ref rb), .val (.int md), .val (.int (n.toInt32)), .unset, .unset, .unset, .unset] [] := by
  refine GoH.st (pc' := 77) (S' := [(.ref rb)]) (fun t_ k_ => XS.aload X0.here hx rfl (hb hby at_75) rfl rfl k_) ?_
  refine GoH.st (pc' := 79) (S' := [(.int (n.toInt32)), (.ref rb)]) (fun t_ k_ => XS.iload X0.here hx rfl (hb hby at_77) rfl k_) ?_
  refine GoH.st (pc' := 81) (S' := [(.int p5), (.int (n.toInt32)), (.ref rb)]) (fun t_ k_ => XS.iload X0.here hx rfl (hb hby at_79) rfl k_) ?_
  refine GoH.st (pc' := 84) (S' := [(.int (255 : Int32)), (.int p5), (.int (n.toInt32)), (.ref rb)]) (fun t_ k_ => XS.sipush X0.here hx rfl (hb hby at_81) k_) ?_
  refine GoH.st (pc' := 85) (S' := [(.int (p5 &&& (255 : Int32))), (.int (n.toInt32)), (.ref rb)]) (fun t_ k_ => XS.iand X0.here hx rfl (hb hby at_84) rfl k_) ?_
  obtain ⟨_, _, ⟨T1, L1, k1, n1⟩, -, X1, ⟨Lc1, hQ1, l1, y1, z1⟩, st1⟩ := Jvm.LawKit.callS X0 hx (y := (⟨"com/example/vestry/vestry/io/PaymentFormNamedPinLaw", "fill", "(Ljava/lang/String;II)[C"⟩ : MethodName)) hown (mvT hZ (wd hw 13 rfl)) (mvT hZ (wd hw 14 rfl)) (mvT hZ (wd hw 3 rfl)) (mvT hZ (wd hw 15 rfl)) (by decide) (backOf (W := 0) (rmfill l Z a0 hw [] rb tb _ (Lb) (nb) (n) (p5 &&& (255 : Int32)) fm gC hh n0 Z0 SC PC O0 hfm SF E_rb Fc_rb Fv_rb V_tb (by omega) hn13 (own_l255 p5)) hZ (wd hw 15 rfl) (wd hw 3 rfl) (by decide) (by decide)) (g := (mkF m 85 #[.val (.int p1), .val (.int p2), .val (.int p3), .val (.int p4), .val (.int p5), .val (.ref rb), .val (.int md), .val (.int (n.toInt32)), .unset, .unset, .unset, .unset] [(.int (p5 &&& (255 : Int32))), (.int (n.toInt32)), (.ref rb)])) rfl (by rw [hml]; rfl) (argsL := [(.ref rb), (.int (n.toInt32)), (.int (p5 &&& (255 : Int32)))]) (rest := []) (lenOf pd_21 rfl) rfl (by show 2 * 0 + _ ≤ _; exact Nat.le_of_eq rfl) (hb hby at_85) (fun _ _ => ⟨rfl, e0, (by decide : 4 + 1 ≤ _), (by decide : 80 + 13 ≤ _)⟩)
  dsimp only [Pt.U, Pt.locs, Pt.cells, Pt.slots] at X1 l1 y1 z1 st1 hQ1
  subst l1 y1 z1
  obtain ⟨ar1, ka1, X1_, rfl, N1q, K1, g_ar1, lt1, Va1, hL⟩ := hQ1
  have N1 := Fr.app N0 N1q
  have ne_rb_ar1 : rb ≠ ar1 := Nat.ne_of_lt (Nat.lt_of_lt_of_le E_rb.lt lt1)
  have ne_tb_ar1 : tb ≠ ar1 := Nat.ne_of_lt (Nat.lt_of_lt_of_le V_tb.lt lt1)
  obtain ⟨h1, e1⟩ : ∃ z, T1.heap = z := ⟨_, rfl⟩
  rw [e1] at K1 Va1
  have Sk2 : ∀ x ∈ [], Safe Z EL vm0 hh x := all0
  replace CR := CR.trans (CHr.keep K1 Sk2 CR.1)
  replace hk := Nat.le_trans hk K1.1
  replace Z0 := Nat.le_trans Z0 K1.1
  replace O0 := O0.keep K1 all0
  replace E_rb := E_rb.keep K1
  replace Fc_rb := Fc_rb.keep K1 nin0
  replace Fv_rb := Fv_rb.keep K1 nin0
  replace V_tb := V_tb.keep K1 nin0
  refine GoH.st (pc' := 88) (S' := [(.ref ar1)]) st1 ?_
  refine GoH.st (pc' := 90) (S' := []) (fun t_ k_ => XS.astore X1.here hx rfl (hb hby at_88) rfl rfl (l' := #[.val (.int p1), .val (.int p2), .val (.int p3), .val (.int p4), .val (.int p5), .val (.ref rb), .val (.int md), .val (.int (n.toInt32)), .val (.ref ar1), .unset, .unset, .unset]) rfl k_) ?_
  refine GoH.st (pc' := 91) (S' := [(.int p3)]) (fun t_ k_ => XS.iloadN X1.here hx rfl (hb hby at_90) rfl k_) ?_
  refine GoH.st (pc' := 92) (S' := [(.int (1 : Int32)), (.int p3)]) (fun t_ k_ => XS.iconst X1.here hx rfl (hb hby at_91) k_) ?_
  refine GoH.st (pc' := 93) (S' := [(.int (p3 &&& (1 : Int32)))]) (fun t_ k_ => XS.iand X1.here hx rfl (hb hby at_92) rfl k_) ?_
  by_cases hc93_3 : (p3 &&& (1 : Int32)) = (0 : Int32)
  · refine GoH.st (pc' := 116) (S' := []) (fun t_ k_ => XS.ifYes X1.here hx rfl (pc0 := 93) (pc' := 116) rfl (hb hby at_93) rfl ((if0 _ _).trans (teq hc93_3).1) (by decide) (by decide) k_) ?_
    exact sl116 p1 p2 p3 p4 p5 va f0 f1 f2 ty0 ty1 ty2 u0 u1 u2 kva kv0 kv1 kv2 em fm gC rb ar1 _ X1_ n md (Stand.up X1 (by decide) (by decide)) hx hZ hw hby hml hown hnm hret hlk e1 hs0 CR hS hk N1 Z0 SC PC O0 hfm SF S0 S1 S2 SV SE pf Eem Fem Va1 hL hn13
  · refine GoH.st (pc' := 96) (S' := []) (fun t_ k_ => XS.ifNo X1.here hx rfl (hb hby at_93) rfl ((if0 _ _).trans (feq hc93_3).1) k_) ?_
    refine GoH.st (pc' := 98) (S' := [(.int (n.toInt32))]) (fun t_ k_ => XS.iload X1.here hx rfl (hb hby at_96) rfl k_) ?_
    by_cases hc98_4 : (0 : Int32) < (n.toInt32)
    · refine GoH.st (pc' := 101) (S' := []) (fun t_ k_ => XS.ifNo X1.here hx rfl (hb hby at_98) rfl ((if0 _ _).trans (tlt hc98_4).2.2.2) k_) ?_
      have hn0 : 0 < n := (own_ltI (m := 0) (n := n) (by omega) (by omega)).mp hc98_4
      refine GoH.st (pc' := 103) (S' := [(.ref ar1)]) (fun t_ k_ => XS.aload X1.here hx rfl (hb hby at_101) rfl rfl k_) ?_
      refine GoH.st (pc' := 104) (S' := [(.int p3), (.ref ar1)]) (fun t_ k_ => XS.iloadN X1.here hx rfl (hb hby at_103) rfl k_) ?_
      refine GoH.st (pc' := 105) (S' := [(.int (1 : Int32)), (.int p3), (.ref ar1)]) (fun t_ k_ => XS.iconst X1.here hx rfl (hb hby at_104) k_) ?_
      refine GoH.st (pc' := 106) (S' := [(.int ((p3.toUInt32 >>> ((1 : Int32) &&& 31).toUInt32).toInt32)), (.ref ar1)]) (fun t_ k_ => XS.iushr X1.here hx rfl (hb hby at_105) rfl k_) ?_
      refine GoH.st (pc' := 108) (S' := [(.int (n.toInt32)), (.int ((p3.toUInt32 >>> ((1 : Int32) &&& 31).toUInt32).toInt32)), (.ref ar1)]) (fun t_ k_ => XS.iload X1.here hx rfl (hb hby at_106) rfl k_) ?_
      refine GoH.st (pc' := 109) (S' := [(.int (((p3.toUInt32 >>> ((1 : Int32) &&& 31).toUInt32).toInt32) % (n.toInt32))), (.ref ar1)]) (fun t_ k_ => iremM X1 hx rfl (hb hby at_108) rfl (own_nz hn0 hn13) k_) ?_
      obtain ⟨j, hj, ej⟩ := own_ix p3 hn0 hn13
      rw [ej]
      refine GoH.st (pc' := 110) (S' := [(.int p4), (.int (j.toInt32)), (.ref ar1)]) (fun t_ k_ => XS.iloadN X1.here hx rfl (hb hby at_109) rfl k_) ?_
      refine GoH.st (pc' := 113) (S' := [(.int (255 : Int32)), (.int p4), (.int (j.toInt32)), (.ref ar1)]) (fun t_ k_ => XS.sipush X1.here hx rfl (hb hby at_110) k_) ?_
      refine GoH.st (pc' := 114) (S' := [(.int (p4 &&& (255 : Int32))), (.int (j.toInt32)), (.ref ar1)]) (fun t_ k_ => XS.iand X1.here hx rfl (hb hby at_113) rfl k_) ?_
      refine GoH.st (pc' := 115) (S' := [(.int ((p4 &&& (255 : Int32)).toUInt32.toUInt16.toUInt32.toInt32)), (.int (j.toInt32)), (.ref ar1)]) (fun t_ k_ => XS.i2c X1.here hx rfl (hb hby at_114) rfl k_) ?_
      have Sq5 : Safe Z EL vm0 h1 ar1 := (own_safeV hZ.alike Va1 (by decide))
      obtain ⟨cl5, Ar5, q51, q52, q53, q54, q55⟩ := Va1
      obtain ⟨T5, h5, X5, e5, W5, st5⟩ := stC X1 hx hZ e1 Ar5 (j := (j.toInt32)) (own_inbS (i := j) q52 hj (by omega)) (g := (mkF m 115 #[.val (.int p1), .val (.int p2), .val (.int p3), .val (.int p4), .val (.int p5), .val (.ref rb), .val (.int md), .val (.int (n.toInt32)), .val (.ref ar1), .unset, .unset, .unset] [(.int ((p4 &&& (255 : Int32)).toUInt32.toUInt16.toUInt32.toInt32)), (.int (j.toInt32)), (.ref ar1)])) rfl rfl (hb hby at_115)
      replace Va1 := Arv.set Ar5 q51 q52 q53 q54 q55 (fits_nar_char _) W5 (j) (own_tn (i := j) (by omega)) (by rw [List.length_map, hL.1]; omega)
      rw [own_setI] at Va1
      replace hL := hL.set (own_latn (own_latn (own_l255 p4))) (j)
      replace CR := CR.trans (CHr.wr W5 Sq5 CR.1)
      replace hk := Nat.le_trans hk (Keep.of_wr W5).1
      replace Z0 := Nat.le_trans Z0 (Keep.of_wr W5).1
      replace O0 := O0.wr W5 g_ar1
      replace E_rb := E_rb.wr W5
      replace Fc_rb := Fc_rb.other W5 (Or.inl ne_rb_ar1)
      replace Fv_rb := Fv_rb.other W5 (Or.inl ne_rb_ar1)
      replace V_tb := V_tb.other W5 ne_tb_ar1
      have N5 := Fr.snoc X5 N1 g_ar1
      refine GoH.st (pc' := 116) (S' := []) st5 ?_
      exact sl116 p1 p2 p3 p4 p5 va f0 f1 f2 ty0 ty1 ty2 u0 u1 u2 kva kv0 kv1 kv2 em fm gC rb ar1 _ (X1_.set (j) (nar .char ((p4 &&& (255 : Int32)).toUInt32.toUInt16.toUInt32.toInt32))) n md (Stand.up X5 (by decide) (by decide)) hx hZ hw hby hml hown hnm hret hlk e5 hs0 CR hS hk N5 Z0 SC PC O0 hfm SF S0 S1 S2 SV SE pf Eem Fem Va1 hL hn13
    · refine GoH.st (pc' := 116) (S' := []) (fun t_ k_ => XS.ifYes X1.here hx rfl (pc0 := 98) (pc' := 116) rfl (hb hby at_98) rfl ((if0 _ _).trans (flt hc98_4).2.2.2) (by decide) (by decide) k_) ?_
      exact sl116 p1 p2 p3 p4 p5 va f0 f1 f2 ty0 ty1 ty2 u0 u1 u2 kva kv0 kv1 kv2 em fm gC rb ar1 _ X1_ n md (Stand.up X1 (by decide) (by decide)) hx hZ hw hby hml hown hnm hret hlk e1 hs0 CR hS hk N1 Z0 SC PC O0 hfm SF S0 S1 S2 SV SE pf Eem Fem Va1 hL hn13
theorem pd_22 : parseMethodDescriptor "(I)Ljava/lang/String;" = some ⟨[.int], some (.object "java/lang/String")⟩ := by decide +kernel
theorem rm0 (l : Launch) (Z : State) (a0 : Array Value) (hw : ∀ d ∈ tables_1, d.before a0 Z = true) (ws : List Jvm.Cond) (p1 : Int32) (p2 : Int32) (p3 : Int32) (p4 : Int32) (p5 : Int32) (va f0 f1 f2 ty0 ty1 ty2 u0 u1 u2 : Addr) (kva kv0 kv1 kv2 : ClassId) (em : Addr) (fm : Value) (gC : Int32) (h0 : Heap) (n0 : Nat) (Z0 : n0 ≤ h0.size) (SC : Sta Z Z.heap "java/lang/String" "COMPACT_STRINGS" "Z" (.int gC)) (PC : ¬ (gC = (0 : Int32))) (O0 : Old Z n0 h0) (hfm : fm.isRef = true) (SF : Sta Z Z.heap "jdk/internal/util/Preconditions" "SIOOBE_FORMATTER" "Ljava/util/function/BiFunction;" fm) (S0 : Sta Z Z.heap "com/example/vestry/vestry/io/PaymentForm" "LUMP_SUM" "Lcom/example/vestry/vestry/io/PaymentForm;" (.ref f0)) (S1 : Sta Z Z.heap "com/example/vestry/vestry/io/PaymentForm" "INSTALLMENTS" "Lcom/example/vestry/vestry/io/PaymentForm;" (.ref f1)) (S2 : Sta Z Z.heap "com/example/vestry/vestry/io/PaymentForm" "LIFE_ANNUITY" "Lcom/example/vestry/vestry/io/PaymentForm;" (.ref f2)) (SV : Sta Z Z.heap "com/example/vestry/vestry/io/PaymentForm" "$VALUES" "[Lcom/example/vestry/vestry/io/PaymentForm;" (.ref va)) (SE : Sta Z Z.heap "java/util/Optional" "EMPTY" "Ljava/util/Optional;" (.ref em)) (pf : own_PF Z va f0 f1 f2 ty0 ty1 ty2 u0 u1 u2 kva kv0 kv1 kv2) (Eem : Exa Z Z.heap em "java/util/Optional") (Fem : Fld Z Z.heap em "java/util/Optional" "value" "Ljava/lang/Object;" .null) :
    MetFree l x (head1 (Jvm.Cond.code x code maxLocals ret :: ws) room_1) (fun aa_ U_ => aa_ = #[(.int p1), (.int p2), (.int p3), (.int p4), (.int p5)] ∧ Z.Warmed39 U_.vm ∧ U_.heap = h0 ∧ CHv Z EL U_.vm h0) (fun _ _ _ _ _ => True) (fun _ U_ o_ W_ => ∃ v_ L_, o_ = .returned v_ ∧ (Q0 Z  h0 n0) v_ W_.heap L_ ∧ CHr Z EL U_.vm U_.heap W_.vm W_.heap ∧ ReturnedEndW U_ o_ W_ L_ room_1.cells room_1.slots) := by
  refine own_metH (Q := (Q0 Z  h0 n0)) (L0 := #[.val (.int p1), .val (.int p2), .val (.int p3), .val (.int p4), .val (.int p5), .unset, .unset, .unset, .unset, .unset, .unset, .unset]) (plainFor_of_name pn_3) (fun m => by first | (simp [entryFrame, mkF, argsToLocals, Value.category, maxLocals]; done) | rfl) ?_
  intro p e s m below meth c T0 X0 hx hby hml hown hnm hret hlk hZ e0 hs0 CR hS hk
  have N0 := Fr.nil n0
  refine GoH.st (pc' := 1) (S' := [(.int p1)]) (fun t_ k_ => XS.iloadN X0.here hx rfl (hb hby at_0) rfl k_) ?_
  refine GoH.st (pc' := 3) (S' := [(.int (2147483647 : Int32)), (.int p1)]) (fun t_ k_ => X0.ldcInt hx hown (mvT hZ (wd hw 0 rfl)) (g := (mkF m 1 #[.val (.int p1), .val (.int p2), .val (.int p3), .val (.int p4), .val (.int p5), .unset, .unset, .unset, .unset, .unset, .unset, .unset] [(.int p1)])) rfl (hb hby at_1) t_ k_) ?_
  refine GoH.st (pc' := 4) (S' := [(.int (p1 &&& (2147483647 : Int32)))]) (fun t_ k_ => XS.iand X0.here hx rfl (hb hby at_3) rfl k_) ?_
  refine GoH.st (pc' := 5) (S' := [(.int (3 : Int32)), (.int (p1 &&& (2147483647 : Int32)))]) (fun t_ k_ => XS.iconst X0.here hx rfl (hb hby at_4) k_) ?_
  refine GoH.st (pc' := 6) (S' := [(.int ((p1 &&& (2147483647 : Int32)) % (3 : Int32)))]) (fun t_ k_ => iremM X0 hx rfl (hb hby at_5) rfl (by decide) k_) ?_
  obtain ⟨_, _, ⟨T1, L1, k1, n1⟩, -, X1, hS1, hg1, ⟨Lc1, hQ1, l1, y1, z1, CR1⟩, st1⟩ := callSS X0 hx (y := (⟨"com/example/vestry/vestry/io/PaymentFormNamedPinLaw", "base", "(I)Ljava/lang/String;"⟩ : MethodName)) hown (mvT hZ (wd hw 1 rfl)) (mvT hZ (wd hw 2 rfl)) (mvT hZ (wd hw 3 rfl)) (mvT hZ (wd hw 4 rfl)) (by decide) (backOfSH (W := 0) (rmbase l Z a0 hw [] ((p1 &&& (2147483647 : Int32)) % (3 : Int32)) h0 n0 Z0) hZ (wd hw 4 rfl) (wd hw 3 rfl) (by decide) (by decide) (own_EW hw) CR.1) (g := (mkF m 6 #[.val (.int p1), .val (.int p2), .val (.int p3), .val (.int p4), .val (.int p5), .unset, .unset, .unset, .unset, .unset, .unset, .unset] [(.int ((p1 &&& (2147483647 : Int32)) % (3 : Int32)))])) rfl (by rw [hml]; rfl) (argsL := [(.int ((p1 &&& (2147483647 : Int32)) % (3 : Int32)))]) (rest := []) (lenOf pd_22 rfl) rfl (by show 2 * 0 + _ ≤ _; exact Nat.le_of_eq rfl) (hb hby at_6) (fun _ _ => ⟨rfl, e0, (by decide : 0 + 2 ≤ _), (by decide : 0 + 52 ≤ _)⟩)
  dsimp only [Pt.U, Pt.locs, Pt.cells, Pt.slots] at X1 l1 y1 z1 st1 hQ1 hS1 hg1 CR1
  subst l1 y1 z1
  replace X1 : Stand p l e _ (s.setVm T1.vm) m _ below meth c T1 _ _ _ := X1
  replace hS := foldS hS (T := T0) (Nat.le_trans hk (Nat.le_of_eq (congrArg Array.size e0.symm))) hS1 hg1
  replace hk := Nat.le_refl T1.heap.size
  replace hZ : Z.Warmed39 (s.setVm T1.vm).vm := State.Warmed39.trans (t := s.setVm s.vm) hZ hS1.1
  replace hown : (s.setVm T1.vm).vm.findClass "com/example/vestry/vestry/io/PaymentFormNamedPinLaw" = some m.cls := by rw [show (s.setVm T1.vm).vm = T1.vm from rfl, hS1.1.alike.findClass]; exact hown
  obtain ⟨rb, tb, kb, Lb, nb, rfl, N1q, K1, Er1, Co1, Va1, Vt1, hnb⟩ := hQ1
  have N1 := Fr.app N0 N1q
  obtain ⟨h1, e1⟩ : ∃ z, T1.heap = z := ⟨_, rfl⟩
  rw [e1] at K1 Er1 Co1 Va1 Vt1 CR1
  replace CR := CR.trans CR1
  replace Z0 := Nat.le_trans Z0 K1.1
  replace O0 := O0.keep K1 all0
  replace hk : T1.heap.size ≤ h1.size := Nat.le_of_eq (congrArg Array.size e1)
  refine GoH.tr (pc' := 9) (S' := [(.ref rb)]) st1 ?_
  refine GoH.st (pc' := 11) (S' := []) (fun t_ k_ => XS.astore X1.here hx rfl (hb hby at_9) rfl rfl (l' := #[.val (.int p1), .val (.int p2), .val (.int p3), .val (.int p4), .val (.int p5), .val (.ref rb), .unset, .unset, .unset, .unset, .unset, .unset]) rfl k_) ?_
  refine GoH.st (pc' := 12) (S' := [(.int p2)]) (fun t_ k_ => XS.iloadN X1.here hx rfl (hb hby at_11) rfl k_) ?_
  refine GoH.st (pc' := 13) (S' := [(.int (3 : Int32)), (.int p2)]) (fun t_ k_ => XS.iconst X1.here hx rfl (hb hby at_12) k_) ?_
  refine GoH.st (pc' := 14) (S' := [(.int (p2 &&& (3 : Int32)))]) (fun t_ k_ => XS.iand X1.here hx rfl (hb hby at_13) rfl k_) ?_
  refine GoH.st (pc' := 16) (S' := []) (fun t_ k_ => XS.istore X1.here hx rfl (hb hby at_14) rfl (l' := #[.val (.int p1), .val (.int p2), .val (.int p3), .val (.int p4), .val (.int p5), .val (.ref rb), .val (.int (p2 &&& (3 : Int32))), .unset, .unset, .unset, .unset, .unset]) rfl k_) ?_
  refine GoH.st (pc' := 18) (S' := [(.int (p2 &&& (3 : Int32)))]) (fun t_ k_ => XS.iload X1.here hx rfl (hb hby at_16) rfl k_) ?_
  by_cases hc18_3 : (p2 &&& (3 : Int32)) = (0 : Int32)
  · refine GoH.st (pc' := 21) (S' := []) (fun t_ k_ => XS.ifNo X1.here hx rfl (hb hby at_18) rfl ((if0 _ _).trans (teq hc18_3).2) k_) ?_
    refine GoH.st (pc' := 23) (S' := [(.ref rb)]) (fun t_ k_ => XS.aload X1.here hx rfl (hb hby at_21) rfl rfl k_) ?_
    obtain ⟨cq4, kq4, q4a, q4b, q4c⟩ := isOf hZ e1 Er1
    obtain ⟨_, _, ⟨T4, L4, k4, n4⟩, -, X4, ⟨Lc4, hQ4, l4, y4, z4⟩, st4⟩ := X1.virtualBack hx (y := (⟨"java/lang/String", "length", "()I"⟩ : MethodName)) (z := (⟨"java/lang/String", "length", "()I"⟩ : MethodName)) hown (mvT hZ (wd hw 84 rfl)) (mvT hZ (wd hw 85 rfl)) (notFace_of_selects (args := #[]) (mvT hZ (wd hw 87 rfl))) (mvT hZ (wd hw 87 rfl)) (mvT hZ (wd hw 86 rfl)) (by decide) (backOf (W := 0) (rm13 l Z a0 hw [] rb tb _ gC (nb.toInt32) (Lb) h1 n0 Z0 SC PC O0 Er1 Co1 Va1 Vt1) hZ (wd hw 88 rfl) (wd hw 6 rfl) (by decide) (by decide)) q4a q4c (g := (mkF m 23 #[.val (.int p1), .val (.int p2), .val (.int p3), .val (.int p4), .val (.int p5), .val (.ref rb), .val (.int (p2 &&& (3 : Int32))), .unset, .unset, .unset, .unset, .unset] [(.ref rb)])) rfl (by rw [hml]; rfl) (Steps.refl _) (argsL := []) (rest := []) (lenOf pd_6 rfl) rfl (by show 2 * 0 + _ ≤ _; exact Nat.le_of_eq rfl) (hb hby at_23) (fun _ _ => ⟨rfl, e1, (by decide : 2 + 0 ≤ _), (by decide : 52 + 0 ≤ _)⟩)
    dsimp only [Pt.U, Pt.locs, Pt.cells, Pt.slots] at X4 l4 y4 z4 st4 hQ4
    subst l4 y4 z4
    obtain ⟨rfl, N4q, e4⟩ := hQ4
    have N4 := Fr.app N1 N4q
    refine GoH.tr (pc' := 26) (S' := [(.int (nb.toInt32))]) st4 ?_
    refine GoH.st (pc' := 28) (S' := []) (fun t_ k_ => XS.istore X4.here hx rfl (hb hby at_26) rfl (l' := #[.val (.int p1), .val (.int p2), .val (.int p3), .val (.int p4), .val (.int p5), .val (.ref rb), .val (.int (p2 &&& (3 : Int32))), .val (.int (nb.toInt32)), .unset, .unset, .unset, .unset]) rfl k_) ?_
    refine GoH.st (pc' := 75) (S' := []) (fun t_ k_ => XS.goto X4.here hx rfl (pc0 := 28) (pc' := 75) rfl (hb hby at_28) (by decide) (by decide) k_) ?_
    exact sl75 p1 p2 p3 p4 p5 va f0 f1 f2 ty0 ty1 ty2 u0 u1 u2 kva kv0 kv1 kv2 em fm gC rb tb _ Lb nb (nb) (p2 &&& (3 : Int32)) (Stand.up X4 (by decide) (by decide)) hx hZ hw hby hml hown hnm hret hlk e4 hs0 CR hS hk N4 Z0 SC PC O0 hfm SF S0 S1 S2 SV SE pf Eem Fem Er1 Co1 Va1 Vt1 hnb (by omega)
  · refine GoH.st (pc' := 31) (S' := []) (fun t_ k_ => XS.ifYes X1.here hx rfl (pc0 := 18) (pc' := 31) rfl (hb hby at_18) rfl ((if0 _ _).trans (feq hc18_3).2) (by decide) (by decide) k_) ?_
    refine GoH.st (pc' := 33) (S' := [(.int (p2 &&& (3 : Int32)))]) (fun t_ k_ => XS.iload X1.here hx rfl (hb hby at_31) rfl k_) ?_
    refine GoH.st (pc' := 34) (S' := [(.int (1 : Int32)), (.int (p2 &&& (3 : Int32)))]) (fun t_ k_ => XS.iconst X1.here hx rfl (hb hby at_33) k_) ?_
    by_cases hc34_5 : (p2 &&& (3 : Int32)) = (1 : Int32)
    · refine GoH.st (pc' := 37) (S' := []) (fun t_ k_ => XS.icmpNo X1.here hx rfl (hb hby at_34) rfl (teq hc34_5).2 k_) ?_
      refine GoH.st (pc' := 39) (S' := [(.ref rb)]) (fun t_ k_ => XS.aload X1.here hx rfl (hb hby at_37) rfl rfl k_) ?_
      obtain ⟨cq6, kq6, q6a, q6b, q6c⟩ := isOf hZ e1 Er1
      obtain ⟨_, _, ⟨T6, L6, k6, n6⟩, -, X6, ⟨Lc6, hQ6, l6, y6, z6⟩, st6⟩ := X1.virtualBack hx (y := (⟨"java/lang/String", "length", "()I"⟩ : MethodName)) (z := (⟨"java/lang/String", "length", "()I"⟩ : MethodName)) hown (mvT hZ (wd hw 84 rfl)) (mvT hZ (wd hw 85 rfl)) (notFace_of_selects (args := #[]) (mvT hZ (wd hw 87 rfl))) (mvT hZ (wd hw 87 rfl)) (mvT hZ (wd hw 86 rfl)) (by decide) (backOf (W := 0) (rm13 l Z a0 hw [] rb tb _ gC (nb.toInt32) (Lb) h1 n0 Z0 SC PC O0 Er1 Co1 Va1 Vt1) hZ (wd hw 88 rfl) (wd hw 6 rfl) (by decide) (by decide)) q6a q6c (g := (mkF m 39 #[.val (.int p1), .val (.int p2), .val (.int p3), .val (.int p4), .val (.int p5), .val (.ref rb), .val (.int (p2 &&& (3 : Int32))), .unset, .unset, .unset, .unset, .unset] [(.ref rb)])) rfl (by rw [hml]; rfl) (Steps.refl _) (argsL := []) (rest := []) (lenOf pd_6 rfl) rfl (by show 2 * 0 + _ ≤ _; exact Nat.le_of_eq rfl) (hb hby at_39) (fun _ _ => ⟨rfl, e1, (by decide : 2 + 0 ≤ _), (by decide : 52 + 0 ≤ _)⟩)
      dsimp only [Pt.U, Pt.locs, Pt.cells, Pt.slots] at X6 l6 y6 z6 st6 hQ6
      subst l6 y6 z6
      obtain ⟨rfl, N6q, e6⟩ := hQ6
      have N6 := Fr.app N1 N6q
      refine GoH.tr (pc' := 42) (S' := [(.int (nb.toInt32))]) st6 ?_
      refine GoH.st (pc' := 43) (S' := [(.int (1 : Int32)), (.int (nb.toInt32))]) (fun t_ k_ => XS.iconst X6.here hx rfl (hb hby at_42) k_) ?_
      refine GoH.st (pc' := 44) (S' := [(.int ((nb.toInt32) - (1 : Int32)))]) (fun t_ k_ => XS.isub X6.here hx rfl (hb hby at_43) rfl k_) ?_
      rw [show (nb.toInt32) - (1 : Int32) = (nb - 1).toInt32 from own_subN (a := nb) (b := 1) (by omega) (by omega)]
      refine GoH.st (pc' := 46) (S' := []) (fun t_ k_ => XS.istore X6.here hx rfl (hb hby at_44) rfl (l' := #[.val (.int p1), .val (.int p2), .val (.int p3), .val (.int p4), .val (.int p5), .val (.ref rb), .val (.int (p2 &&& (3 : Int32))), .val (.int ((nb - 1).toInt32)), .unset, .unset, .unset, .unset]) rfl k_) ?_
      refine GoH.st (pc' := 75) (S' := []) (fun t_ k_ => XS.goto X6.here hx rfl (pc0 := 46) (pc' := 75) rfl (hb hby at_46) (by decide) (by decide) k_) ?_
      exact sl75 p1 p2 p3 p4 p5 va f0 f1 f2 ty0 ty1 ty2 u0 u1 u2 kva kv0 kv1 kv2 em fm gC rb tb _ Lb nb ((nb - 1)) (p2 &&& (3 : Int32)) (Stand.up X6 (by decide) (by decide)) hx hZ hw hby hml hown hnm hret hlk e6 hs0 CR hS hk N6 Z0 SC PC O0 hfm SF S0 S1 S2 SV SE pf Eem Fem Er1 Co1 Va1 Vt1 hnb (by omega)
    · refine GoH.st (pc' := 49) (S' := []) (fun t_ k_ => XS.icmpYes X1.here hx rfl (pc0 := 34) (pc' := 49) rfl (hb hby at_34) rfl (feq hc34_5).2 (by decide) (by decide) k_) ?_
      refine GoH.st (pc' := 51) (S' := [(.int (p2 &&& (3 : Int32)))]) (fun t_ k_ => XS.iload X1.here hx rfl (hb hby at_49) rfl k_) ?_
      refine GoH.st (pc' := 52) (S' := [(.int (2 : Int32)), (.int (p2 &&& (3 : Int32)))]) (fun t_ k_ => XS.iconst X1.here hx rfl (hb hby at_51) k_) ?_
      by_cases hc52_7 : (p2 &&& (3 : Int32)) = (2 : Int32)
      · refine GoH.st (pc' := 55) (S' := []) (fun t_ k_ => XS.icmpNo X1.here hx rfl (hb hby at_52) rfl (teq hc52_7).2 k_) ?_
        refine GoH.st (pc' := 57) (S' := [(.ref rb)]) (fun t_ k_ => XS.aload X1.here hx rfl (hb hby at_55) rfl rfl k_) ?_
        obtain ⟨cq8, kq8, q8a, q8b, q8c⟩ := isOf hZ e1 Er1
        obtain ⟨_, _, ⟨T8, L8, k8, n8⟩, -, X8, ⟨Lc8, hQ8, l8, y8, z8⟩, st8⟩ := X1.virtualBack hx (y := (⟨"java/lang/String", "length", "()I"⟩ : MethodName)) (z := (⟨"java/lang/String", "length", "()I"⟩ : MethodName)) hown (mvT hZ (wd hw 84 rfl)) (mvT hZ (wd hw 85 rfl)) (notFace_of_selects (args := #[]) (mvT hZ (wd hw 87 rfl))) (mvT hZ (wd hw 87 rfl)) (mvT hZ (wd hw 86 rfl)) (by decide) (backOf (W := 0) (rm13 l Z a0 hw [] rb tb _ gC (nb.toInt32) (Lb) h1 n0 Z0 SC PC O0 Er1 Co1 Va1 Vt1) hZ (wd hw 88 rfl) (wd hw 6 rfl) (by decide) (by decide)) q8a q8c (g := (mkF m 57 #[.val (.int p1), .val (.int p2), .val (.int p3), .val (.int p4), .val (.int p5), .val (.ref rb), .val (.int (p2 &&& (3 : Int32))), .unset, .unset, .unset, .unset, .unset] [(.ref rb)])) rfl (by rw [hml]; rfl) (Steps.refl _) (argsL := []) (rest := []) (lenOf pd_6 rfl) rfl (by show 2 * 0 + _ ≤ _; exact Nat.le_of_eq rfl) (hb hby at_57) (fun _ _ => ⟨rfl, e1, (by decide : 2 + 0 ≤ _), (by decide : 52 + 0 ≤ _)⟩)
        dsimp only [Pt.U, Pt.locs, Pt.cells, Pt.slots] at X8 l8 y8 z8 st8 hQ8
        subst l8 y8 z8
        obtain ⟨rfl, N8q, e8⟩ := hQ8
        have N8 := Fr.app N1 N8q
        refine GoH.tr (pc' := 60) (S' := [(.int (nb.toInt32))]) st8 ?_
        refine GoH.st (pc' := 61) (S' := [(.int (1 : Int32)), (.int (nb.toInt32))]) (fun t_ k_ => XS.iconst X8.here hx rfl (hb hby at_60) k_) ?_
        refine GoH.st (pc' := 62) (S' := [(.int ((nb.toInt32) + (1 : Int32)))]) (fun t_ k_ => XS.iadd X8.here hx rfl (hb hby at_61) rfl k_) ?_
        rw [show (nb.toInt32) + (1 : Int32) = (nb + 1).toInt32 from own_addN (m := nb) (n := 1) (by omega)]
        refine GoH.st (pc' := 64) (S' := []) (fun t_ k_ => XS.istore X8.here hx rfl (hb hby at_62) rfl (l' := #[.val (.int p1), .val (.int p2), .val (.int p3), .val (.int p4), .val (.int p5), .val (.ref rb), .val (.int (p2 &&& (3 : Int32))), .val (.int ((nb + 1).toInt32)), .unset, .unset, .unset, .unset]) rfl k_) ?_
        refine GoH.st (pc' := 75) (S' := []) (fun t_ k_ => XS.goto X8.here hx rfl (pc0 := 64) (pc' := 75) rfl (hb hby at_64) (by decide) (by decide) k_) ?_
        exact sl75 p1 p2 p3 p4 p5 va f0 f1 f2 ty0 ty1 ty2 u0 u1 u2 kva kv0 kv1 kv2 em fm gC rb tb _ Lb nb ((nb + 1)) (p2 &&& (3 : Int32)) (Stand.up X8 (by decide) (by decide)) hx hZ hw hby hml hown hnm hret hlk e8 hs0 CR hS hk N8 Z0 SC PC O0 hfm SF S0 S1 S2 SV SE pf Eem Fem Er1 Co1 Va1 Vt1 hnb (by omega)
      · refine GoH.st (pc' := 67) (S' := []) (fun t_ k_ => XS.icmpYes X1.here hx rfl (pc0 := 52) (pc' := 67) rfl (hb hby at_52) rfl (feq hc52_7).2 (by decide) (by decide) k_) ?_
        refine GoH.st (pc' := 68) (S' := [(.int p2)]) (fun t_ k_ => XS.iloadN X1.here hx rfl (hb hby at_67) rfl k_) ?_
        refine GoH.st (pc' := 69) (S' := [(.int (2 : Int32)), (.int p2)]) (fun t_ k_ => XS.iconst X1.here hx rfl (hb hby at_68) k_) ?_
        refine GoH.st (pc' := 70) (S' := [(.int ((p2.toUInt32 >>> ((2 : Int32) &&& 31).toUInt32).toInt32))]) (fun t_ k_ => XS.iushr X1.here hx rfl (hb hby at_69) rfl k_) ?_
        refine GoH.st (pc' := 72) (S' := [(.int (14 : Int32)), (.int ((p2.toUInt32 >>> ((2 : Int32) &&& 31).toUInt32).toInt32))]) (fun t_ k_ => XS.bipush X1.here hx rfl (hb hby at_70) k_) ?_
        refine GoH.st (pc' := 73) (S' := [(.int (((p2.toUInt32 >>> ((2 : Int32) &&& 31).toUInt32).toInt32) % (14 : Int32)))]) (fun t_ k_ => iremM X1 hx rfl (hb hby at_72) rfl (by decide) k_) ?_
        obtain ⟨nn, hnn, enn⟩ := own_r14 p2
        rw [enn]
        refine GoH.st (pc' := 75) (S' := []) (fun t_ k_ => XS.istore X1.here hx rfl (hb hby at_73) rfl (l' := #[.val (.int p1), .val (.int p2), .val (.int p3), .val (.int p4), .val (.int p5), .val (.ref rb), .val (.int (p2 &&& (3 : Int32))), .val (.int (nn.toInt32)), .unset, .unset, .unset, .unset]) rfl k_) ?_
        exact sl75 p1 p2 p3 p4 p5 va f0 f1 f2 ty0 ty1 ty2 u0 u1 u2 kva kv0 kv1 kv2 em fm gC rb tb _ Lb nb (nn) (p2 &&& (3 : Int32)) (Stand.up X1 (by decide) (by decide)) hx hZ hw hby hml hown hnm hret hlk e1 hs0 CR hS hk N1 Z0 SC PC O0 hfm SF S0 S1 S2 SV SE pf Eem Fem Er1 Co1 Va1 Vt1 hnb (by omega)
theorem own_eqr {t u : Term} {y : Value} {args : Array Value} {first s : State} {o : Option Outcome} {idx : List Nat} (h : (Jvm.Cond.eq t u).value args first o s idx = some true) (hu : u.eval args first o idx s = some y) (hy : y.isRef = true) : t.eval args first o idx s = some y := by
  simp only [Cond.value, hu] at h
  rcases ref_cases hy with rfl | ⟨a, rfl⟩ <;>
  · cases ht : t.eval args first o idx s with
    | none => simp [ht] at h
    | some x => cases x <;> simp [ht] at h ⊢ <;> exact h
theorem own_eqi {t : Term} {k : Int32} {args : Array Value} {first s : State} {o : Option Outcome} {idx : List Nat} (h : (Jvm.Cond.eq t (.int k)).value args first o s idx = some true) : t.eval args first o idx s = some (.int k) := by
  simp only [Cond.value, Term.eval] at h
  cases ht : t.eval args first o idx s with
  | none => simp [ht] at h
  | some x => cases x <;> simp [ht] at h ⊢ <;> exact h
theorem own_lena {Z : State} {args : Array Value} {t : Term} {a : Addr} {cl : Cell} {ty : FieldType} {z : Int32} (ht : t.eval args Z none [] Z = some (.ref a)) (A : Arr Z Z.heap a cl ty) (h : (Term.length t).eval args Z none [] Z = some (.int z)) : cl.slots.size < 2 ^ 31 ∧ cl.slots.size.toInt32 = z := by
  simp only [Term.eval, Option.bind_eq_bind, ht, Option.bind_some] at h
  obtain ⟨c, hc, g⟩ := Option.bind_eq_some_iff.mp h
  have e : c = cl := by
    have h1 := (State.arrayAt?_spec hc).1
    exact Option.some.inj (h1.symm.trans A.1)
  subst e
  by_cases hn : c.slots.size < 2147483648
  · rw [if_pos hn] at g; exact ⟨hn, Value.int.inj (Option.some.inj g)⟩
  · rw [if_neg hn] at g; cases g
theorem own_sub : ∀ q ∈ EL, q ∈ consts_1 := by decide
theorem comes_1 {Post : Tables → Env → Array Value → State → Outcome → State → Prop} (hpost : ∀ tb e args s v u, (limb_1_1.after args s (.returned v) u = true ∧ limb_1_2.after args s (.returned v) u = true ∧ True) → Jvm.D.FramedW s (.returned v) u (Jvm.fieldLocs frame_1_writes args s ++ Jvm.arrayLocs frame_1_arrays args s ++ Jvm.staticLocs frame_1_statics s) 32 4288 → Post tb e args s (.returned v) u) :
    ArmFor flags0 classFile x code maxLocals ret World_1 tables_1 room_1 Calls_1 rest_1 Pre_1 Post := by
  intro l hfl _ _ p e ha hc hk s m args below hf hA hF happ hP
  obtain ⟨hcalls, hrest, hpre⟩ := hP
  obtain ⟨-, -, -, hnamed, -, -, -, hat⟩ := (Spec.applies_iff hf).mp happ
  obtain ⟨hg, hn⟩ := and_e (Cond.before_iff.mp (show (Jvm.Cond.and given_1 narrow_1).before args s = true from hpre))
  obtain ⟨gc, gr0⟩ := and_e hg
  obtain ⟨ga0, gr1⟩ := and_e gr0
  obtain ⟨ga1, gr2⟩ := and_e gr1
  obtain ⟨ga2, gr3⟩ := and_e gr2
  obtain ⟨ga3, gr4⟩ := and_e gr3
  have ga4 := gr4
  obtain ⟨w0, w1, w2, w3, w4, rfl⟩ : ∃ w0 w1 w2 w3 w4 : Value, args = #[w0, w1, w2, w3, w4] := by
    have hs : args.size = 5 := by simpa [Cond.value, given_1] using gc
    obtain ⟨L⟩ := args
    match L, hs with
    | [w0, w1, w2, w3, w4], _ => exact ⟨w0, w1, w2, w3, w4, rfl⟩
  have hw := fun d (hd : d ∈ tables_1) => atoms_spec (ws := Jvm.Cond.code x code maxLocals ret :: tables_1) hat d (List.mem_cons_of_mem _ hd)
  have hfit : Fit s := fun {y c} hc i hi => by
    obtain ⟨ha, rfl⟩ := Array.getElem?_eq_some_iff.mp hc
    have q := List.all_eq_true.mp ((Array.all_eq_true_iff_forall_mem.mp hF) _ (Array.getElem_mem ha)) i (List.mem_range.mpr hi)
    simpa [Array.getElem?_eq_getElem hi] using q
  obtain ⟨hsets, hown0⟩ := atoms_of _ (rest_1_c_eq ▸ (show rest_1_c.before _ s = true from hrest))
  obtain ⟨i0, ei0⟩ := is_v ga0
  obtain rfl : w0 = (.int i0) := Option.some.inj ei0
  obtain ⟨i1, ei1⟩ := is_v ga1
  obtain rfl : w1 = (.int i1) := Option.some.inj ei1
  obtain ⟨i2, ei2⟩ := is_v ga2
  obtain rfl : w2 = (.int i2) := Option.some.inj ei2
  obtain ⟨i3, ei3⟩ := is_v ga3
  obtain rfl : w3 = (.int i3) := Option.some.inj ei3
  obtain ⟨i4, ei4⟩ := is_v ga4
  obtain rfl : w4 = (.int i4) := Option.some.inj ei4
  have hnw := hn
  obtain ⟨w_0, hnw⟩ := and_e hnw
  obtain ⟨w_1, hnw⟩ := and_e hnw
  obtain ⟨w_2, hnw⟩ := and_e hnw
  obtain ⟨w_3, hnw⟩ := and_e hnw
  obtain ⟨w_4, hnw⟩ := and_e hnw
  obtain ⟨w_5, hnw⟩ := and_e hnw
  obtain ⟨w_6, hnw⟩ := and_e hnw
  obtain ⟨w_7, hnw⟩ := and_e hnw
  obtain ⟨w_8, hnw⟩ := and_e hnw
  obtain ⟨w_9, hnw⟩ := and_e hnw
  obtain ⟨w_10, hnw⟩ := and_e hnw
  obtain ⟨w_11, hnw⟩ := and_e hnw
  obtain ⟨w_12, hnw⟩ := and_e hnw
  obtain ⟨w_13, hnw⟩ := and_e hnw
  obtain ⟨w_14, hnw⟩ := and_e hnw
  obtain ⟨w_15, hnw⟩ := and_e hnw
  obtain ⟨w_16, hnw⟩ := and_e hnw
  obtain ⟨w_17, hnw⟩ := and_e hnw
  obtain ⟨w_18, hnw⟩ := and_e hnw
  obtain ⟨w_19, hnw⟩ := and_e hnw
  obtain ⟨w_20, hnw⟩ := and_e hnw
  obtain ⟨w_21, hnw⟩ := and_e hnw
  obtain ⟨w_22, hnw⟩ := and_e hnw
  obtain ⟨w_23, hnw⟩ := and_e hnw
  obtain ⟨w_24, hnw⟩ := and_e hnw
  obtain ⟨w_25, hnw⟩ := and_e hnw
  obtain ⟨w_26, hnw⟩ := and_e hnw
  obtain ⟨w_27, hnw⟩ := and_e hnw
  obtain ⟨w_28, hnw⟩ := and_e hnw
  obtain ⟨w_29, hnw⟩ := and_e hnw
  obtain ⟨w_30, hnw⟩ := and_e hnw
  obtain ⟨w_31, hnw⟩ := and_e hnw
  obtain ⟨w_32, hnw⟩ := and_e hnw
  obtain ⟨w_33, hnw⟩ := and_e hnw
  obtain ⟨w_34, hnw⟩ := and_e hnw
  obtain ⟨w_35, hnw⟩ := and_e hnw
  obtain ⟨w_36, hnw⟩ := and_e hnw
  obtain ⟨w_37, hnw⟩ := and_e hnw
  obtain ⟨w_38, hnw⟩ := and_e hnw
  obtain ⟨w_39, hnw⟩ := and_e hnw
  obtain ⟨w_40, hnw⟩ := and_e hnw
  obtain ⟨w_41, hnw⟩ := and_e hnw
  obtain ⟨w_42, hnw⟩ := and_e hnw
  obtain ⟨w_43, hnw⟩ := and_e hnw
  obtain ⟨w_44, hnw⟩ := and_e hnw
  obtain ⟨w_45, hnw⟩ := and_e hnw
  obtain ⟨w_46, hnw⟩ := and_e hnw
  obtain ⟨w_47, hnw⟩ := and_e hnw
  obtain ⟨w_48, hnw⟩ := and_e hnw
  obtain ⟨w_49, hnw⟩ := and_e hnw
  obtain ⟨w_50, hnw⟩ := and_e hnw
  obtain ⟨w_51, hnw⟩ := and_e hnw
  have w_52 := hnw
  have nc0 := not_v (Cond.before_iff.mp (hsets _ (List.mem_of_getElem? (i := 2) rfl)))
  obtain ⟨gC, eC⟩ := is_v (Cond.before_iff.mp (hsets _ (List.mem_of_getElem? (i := 1) rfl)))
  have SC : Sta s s.heap "java/lang/String" "COMPACT_STRINGS" "Z" (.int gC) := Sta.start eC (Or.inl (hsets _ (List.mem_of_getElem? (i := 0) rfl)))
  have PC : ¬ (gC = (0 : Int32)) := gotF (Cond.eq_ints eC (Term.int_eval (0))) nc0
  have wX := Cond.before_iff.mp (hsets _ (List.mem_of_getElem? (i := 8) rfl))
  obtain ⟨fm, eE, hfm⟩ := isR_v wX
  have SF : Sta s s.heap "jdk/internal/util/Preconditions" "SIOOBE_FORMATTER" "Ljava/util/function/BiFunction;" fm := Sta.start eE (Or.inl (hsets _ (List.mem_of_getElem? (i := 7) rfl)))
  have wEm := Cond.before_iff.mp (hsets _ (List.mem_of_getElem? (i := 11) rfl))
  obtain ⟨em, eEm⟩ := exa_v wEm
  have SE : Sta s s.heap "java/util/Optional" "EMPTY" "Ljava/util/Optional;" (.ref em) := Sta.start eEm (Or.inl (hsets _ (List.mem_of_getElem? (i := 10) rfl)))
  have Eem := Exa.start eEm wEm
  have Fem : Fld s s.heap em "java/util/Optional" "value" "Ljava/lang/Object;" .null := Fld.start (by rw [← fld_at eEm]; exact null_v (Cond.before_iff.mp (hsets _ (List.mem_of_getElem? (i := 12) rfl))))
  obtain ⟨va, eVa⟩ := exa_v w_1
  have E_va := Exa.start eVa w_1
  have SV : Sta s s.heap "com/example/vestry/vestry/io/PaymentForm" "$VALUES" "[Lcom/example/vestry/vestry/io/PaymentForm;" (.ref va) := Sta.start eVa (Or.inl (wd hw 66 rfl))
  obtain ⟨cva, Ava⟩ := Arr.start eVa w_0
  obtain ⟨lva, zva⟩ := own_lena eVa Ava (own_eqi w_2)
  obtain ⟨f0, eF0⟩ := exa_v w_3
  have E_f0 := Exa.start eF0 w_3
  have S0 : Sta s s.heap "com/example/vestry/vestry/io/PaymentForm" "LUMP_SUM" "Lcom/example/vestry/vestry/io/PaymentForm;" (.ref f0) := Sta.start eF0 (Or.inr ⟨(wd hw 49 rfl), (wd hw 63 rfl)⟩)
  have h_0 := elem_in (own_eqr w_4 eF0 rfl) eVa (Term.int_eval (0)) Ava.1
  obtain ⟨f1, eF1⟩ := exa_v w_5
  have E_f1 := Exa.start eF1 w_5
  have S1 : Sta s s.heap "com/example/vestry/vestry/io/PaymentForm" "INSTALLMENTS" "Lcom/example/vestry/vestry/io/PaymentForm;" (.ref f1) := Sta.start eF1 (Or.inr ⟨(wd hw 49 rfl), (wd hw 64 rfl)⟩)
  have h_1 := elem_in (own_eqr w_6 eF1 rfl) eVa (Term.int_eval (1)) Ava.1
  obtain ⟨f2, eF2⟩ := exa_v w_7
  have E_f2 := Exa.start eF2 w_7
  have S2 : Sta s s.heap "com/example/vestry/vestry/io/PaymentForm" "LIFE_ANNUITY" "Lcom/example/vestry/vestry/io/PaymentForm;" (.ref f2) := Sta.start eF2 (Or.inr ⟨(wd hw 49 rfl), (wd hw 65 rfl)⟩)
  have h_2 := elem_in (own_eqr w_8 eF2 rfl) eVa (Term.int_eval (2)) Ava.1
  have V_va : Arv s s.heap va cva.cls (.object "com/example/vestry/vestry/io/PaymentForm") (3 : Int32) [.ref f0, .ref f1, .ref f2] .null := Arv.start hfit Ava lva zva (by decide) rfl ⟨h_0.2, h_1.2, h_2.2, trivial⟩
  obtain ⟨ty0, eT0⟩ := exa_v w_9
  have E_ty0 := Exa.start eT0 w_9
  have F_f0 : Fld s s.heap f0 "com/example/vestry/vestry/io/PaymentForm" "text" "Ljava/lang/String;" (.ref ty0) := Fld.start (by rw [← fld_at eF0]; exact eT0)
  have Fc_ty0 : Fld s s.heap ty0 "java/lang/String" "coder" "B" (.int (0 : Int32)) := Fld.start (by rw [← fld_at eT0]; exact own_eqi w_10)
  obtain ⟨u0, eU0⟩ := arr_v w_11
  have Fv_ty0 : Fld s s.heap ty0 "java/lang/String" "value" "[B" (.ref u0) := Fld.start (by rw [← fld_at eT0]; exact eU0)
  obtain ⟨cu0, Au0⟩ := Arr.start eU0 w_11
  obtain ⟨lu0, zu0⟩ := own_lena eU0 Au0 (own_eqi w_12)
  have x_0_0 := elem_in (own_eqi w_21) eU0 (Term.int_eval (0)) Au0.1
  have x_0_1 := elem_in (own_eqi w_22) eU0 (Term.int_eval (1)) Au0.1
  have x_0_2 := elem_in (own_eqi w_23) eU0 (Term.int_eval (2)) Au0.1
  have x_0_3 := elem_in (own_eqi w_24) eU0 (Term.int_eval (3)) Au0.1
  have x_0_4 := elem_in (own_eqi w_25) eU0 (Term.int_eval (4)) Au0.1
  have x_0_5 := elem_in (own_eqi w_26) eU0 (Term.int_eval (5)) Au0.1
  have x_0_6 := elem_in (own_eqi w_27) eU0 (Term.int_eval (6)) Au0.1
  have x_0_7 := elem_in (own_eqi w_28) eU0 (Term.int_eval (7)) Au0.1
  have V_u0 : Arv s s.heap u0 cu0.cls .byte (8 : Int32) (([108, 117, 109, 112, 45, 115, 117, 109] : List Int32).map Value.int) (.int (0 : Int32)) := Arv.start hfit Au0 lu0 zu0 (by decide) rfl ⟨x_0_0.2, x_0_1.2, x_0_2.2, x_0_3.2, x_0_4.2, x_0_5.2, x_0_6.2, x_0_7.2, trivial⟩
  obtain ⟨ty1, eT1⟩ := exa_v w_13
  have E_ty1 := Exa.start eT1 w_13
  have F_f1 : Fld s s.heap f1 "com/example/vestry/vestry/io/PaymentForm" "text" "Ljava/lang/String;" (.ref ty1) := Fld.start (by rw [← fld_at eF1]; exact eT1)
  have Fc_ty1 : Fld s s.heap ty1 "java/lang/String" "coder" "B" (.int (0 : Int32)) := Fld.start (by rw [← fld_at eT1]; exact own_eqi w_14)
  obtain ⟨u1, eU1⟩ := arr_v w_15
  have Fv_ty1 : Fld s s.heap ty1 "java/lang/String" "value" "[B" (.ref u1) := Fld.start (by rw [← fld_at eT1]; exact eU1)
  obtain ⟨cu1, Au1⟩ := Arr.start eU1 w_15
  obtain ⟨lu1, zu1⟩ := own_lena eU1 Au1 (own_eqi w_16)
  have x_1_0 := elem_in (own_eqi w_29) eU1 (Term.int_eval (0)) Au1.1
  have x_1_1 := elem_in (own_eqi w_30) eU1 (Term.int_eval (1)) Au1.1
  have x_1_2 := elem_in (own_eqi w_31) eU1 (Term.int_eval (2)) Au1.1
  have x_1_3 := elem_in (own_eqi w_32) eU1 (Term.int_eval (3)) Au1.1
  have x_1_4 := elem_in (own_eqi w_33) eU1 (Term.int_eval (4)) Au1.1
  have x_1_5 := elem_in (own_eqi w_34) eU1 (Term.int_eval (5)) Au1.1
  have x_1_6 := elem_in (own_eqi w_35) eU1 (Term.int_eval (6)) Au1.1
  have x_1_7 := elem_in (own_eqi w_36) eU1 (Term.int_eval (7)) Au1.1
  have x_1_8 := elem_in (own_eqi w_37) eU1 (Term.int_eval (8)) Au1.1
  have x_1_9 := elem_in (own_eqi w_38) eU1 (Term.int_eval (9)) Au1.1
  have x_1_10 := elem_in (own_eqi w_39) eU1 (Term.int_eval (10)) Au1.1
  have x_1_11 := elem_in (own_eqi w_40) eU1 (Term.int_eval (11)) Au1.1
  have V_u1 : Arv s s.heap u1 cu1.cls .byte (12 : Int32) (([105, 110, 115, 116, 97, 108, 108, 109, 101, 110, 116, 115] : List Int32).map Value.int) (.int (0 : Int32)) := Arv.start hfit Au1 lu1 zu1 (by decide) rfl ⟨x_1_0.2, x_1_1.2, x_1_2.2, x_1_3.2, x_1_4.2, x_1_5.2, x_1_6.2, x_1_7.2, x_1_8.2, x_1_9.2, x_1_10.2, x_1_11.2, trivial⟩
  obtain ⟨ty2, eT2⟩ := exa_v w_17
  have E_ty2 := Exa.start eT2 w_17
  have F_f2 : Fld s s.heap f2 "com/example/vestry/vestry/io/PaymentForm" "text" "Ljava/lang/String;" (.ref ty2) := Fld.start (by rw [← fld_at eF2]; exact eT2)
  have Fc_ty2 : Fld s s.heap ty2 "java/lang/String" "coder" "B" (.int (0 : Int32)) := Fld.start (by rw [← fld_at eT2]; exact own_eqi w_18)
  obtain ⟨u2, eU2⟩ := arr_v w_19
  have Fv_ty2 : Fld s s.heap ty2 "java/lang/String" "value" "[B" (.ref u2) := Fld.start (by rw [← fld_at eT2]; exact eU2)
  obtain ⟨cu2, Au2⟩ := Arr.start eU2 w_19
  obtain ⟨lu2, zu2⟩ := own_lena eU2 Au2 (own_eqi w_20)
  have x_2_0 := elem_in (own_eqi w_41) eU2 (Term.int_eval (0)) Au2.1
  have x_2_1 := elem_in (own_eqi w_42) eU2 (Term.int_eval (1)) Au2.1
  have x_2_2 := elem_in (own_eqi w_43) eU2 (Term.int_eval (2)) Au2.1
  have x_2_3 := elem_in (own_eqi w_44) eU2 (Term.int_eval (3)) Au2.1
  have x_2_4 := elem_in (own_eqi w_45) eU2 (Term.int_eval (4)) Au2.1
  have x_2_5 := elem_in (own_eqi w_46) eU2 (Term.int_eval (5)) Au2.1
  have x_2_6 := elem_in (own_eqi w_47) eU2 (Term.int_eval (6)) Au2.1
  have x_2_7 := elem_in (own_eqi w_48) eU2 (Term.int_eval (7)) Au2.1
  have x_2_8 := elem_in (own_eqi w_49) eU2 (Term.int_eval (8)) Au2.1
  have x_2_9 := elem_in (own_eqi w_50) eU2 (Term.int_eval (9)) Au2.1
  have x_2_10 := elem_in (own_eqi w_51) eU2 (Term.int_eval (10)) Au2.1
  have x_2_11 := elem_in (own_eqi w_52) eU2 (Term.int_eval (11)) Au2.1
  have V_u2 : Arv s s.heap u2 cu2.cls .byte (12 : Int32) (([108, 105, 102, 101, 45, 97, 110, 110, 117, 105, 116, 121] : List Int32).map Value.int) (.int (0 : Int32)) := Arv.start hfit Au2 lu2 zu2 (by decide) rfl ⟨x_2_0.2, x_2_1.2, x_2_2.2, x_2_3.2, x_2_4.2, x_2_5.2, x_2_6.2, x_2_7.2, x_2_8.2, x_2_9.2, x_2_10.2, x_2_11.2, trivial⟩
  have hH0 : CHv s EL s.vm s.heap := CHv.start (own_EW hw) (fun q hq => hcalls.1 q (own_sub q hq)) (hsets _ (List.mem_of_getElem? (i := 2) rfl)) (own_wS hw _ (by simp [Bundle.stringAtoms])) (own_wS hw _ (by simp [Bundle.stringAtoms, Bundle.sN]))
  obtain ⟨n, o, h1, h2, h3, _, L, rfl, ⟨rfl, N⟩, -, hq⟩ := rm0 l s _ hw tables_1 i0 i1 i2 i3 i4 va f0 f1 f2 ty0 ty1 ty2 u0 u1 u2 _ _ _ _ em fm gC s.heap s.heap.size (Nat.le_refl _) SC PC (Old.start s) hfm SF S0 S1 S2 SV SE ⟨E_va, V_va, E_f0, F_f0, E_ty0, Fc_ty0, Fv_ty0, V_u0, E_f1, F_f1, E_ty1, Fc_ty1, Fv_ty1, V_u1, E_f2, F_f2, E_ty2, Fc_ty2, Fv_ty2, V_u2⟩ Eem Fem p e ha hc hk s m _ below hf ((Spec.applies_iff_loose hf).mp happ).1 ⟨rfl, State.Warmed39.refl s, rfl, hH0⟩ trivial
  refine ⟨n, _, h1, h2, h3, hpost _ _ _ _ _ _ ⟨Cond.after_iff.mpr rfl, Cond.after_iff.mpr (eq_i res_at (Term.int_eval (1)) rfl), trivial⟩ ⟨hq.1, hq.2.1, hq.2.2.1, (hq.2.2.2.sift fun y hy => Or.inr (N y hy)).mono (by decide) (by decide)⟩⟩
theorem main_1_1 : Claimed_1_1 := comes_1 fun _ _ _ _ _ _ h hF => ⟨h.1, hF⟩
theorem main_1_2 : Claimed_1_2 := comes_1 fun _ _ _ _ _ _ h hF => ⟨h.2.1, hF⟩
end Jvm.Pilot.@@N@@
namespace Jvm.Pilot.@@N@@
open Jvm Jvm.ClassFile Sem Op Lib Jvm.Free Jvm.Stand Jvm.Pilot.@@N@@.Jvm.D
/-! MADE BY PROGRAM (witnessworld.py) out of the Statement's table words and the real class files: 24 classes; the members and pool entries that the words name. The judged class is class 1, her method 5. -/
namespace start1
open Jvm.ClassFile
def u (s : String) : CpInfo := .utf8 (stringToUtf16 s)
/-- a pool by its gaps: so many unusable entries, then the entry; so many at the end -/
def gap : Nat → List CpInfo → List CpInfo
  | 0, r => r
  | n + 1, r => .unusable :: gap n r
def poolList (es : List (Nat × CpInfo)) (last : Nat) : List CpInfo := es.foldr (fun e r => gap e.1 (e.2 :: r)) (gap last [])
def pool (es : List (Nat × CpInfo)) (last : Nat) : Array CpInfo := ⟨poolList es last⟩
def fileOf (pool : Array CpInfo) (this : Nat) (attrs : Array Attribute := #[]) (ms : Array MethodInfo := #[]) (fl : Nat := 33) (sup : Nat := 0) (ifs : Array Nat := #[]) (fds : Array FieldInfo := #[]) : ClassFile where
  minorVersion := 0
  majorVersion := 65
  constantPool := pool
  accessFlags := fl
  thisClass := this
  superClass := sup
  interfaces := ifs
  fields := fds
  methods := ms
  attributes := attrs
def plain (name : String) (sup : Option ClassId) : Class where
  name := name
  kind := .ordinary
  loader := none
  accessFlags := 33
  super := sup
  interfaces := #[]
  cf := none
  fields := #[]
  methods := #[]
  instanceTypes := #[]
  staticTypes := #[]
  resolved := #[]
  callSites := []
  init := .initialized
  statics := none
  mirror := none

def pool0 : Array CpInfo := pool [(5, u "<init>"), (0, u "()V"), (1, .class_ 10), (1, u "java/lang/Object"), (85, u "clone"), (0, u "()Ljava/lang/Object;")] 26

def k0c0 : Code := { maxStack := 0, maxLocals := 1, code := object_method_1_code, exceptionTable := #[], attributes := #[] }
def k0m0 : Method := { name := "<init>", desc := "()V", sig := { parameters := [], returnType := none }, accessFlags := 1, code := some k0c0 }
def k0m1 : Method := { name := "clone", desc := "()Ljava/lang/Object;", sig := { parameters := [], returnType := some (.object "java/lang/Object") }, accessFlags := 260, code := none }
/-- java/lang/Object -/
def k0 : Class := { plain "java/lang/Object" none with
  accessFlags := 33
  interfaces := #[]
  cf := some (fileOf pool0 8 #[] #[{ accessFlags := 1, nameIndex := 5, descriptorIndex := 6, attributes := #[] }, { accessFlags := 260, nameIndex := 96, descriptorIndex := 97, attributes := #[] }] 33 0 #[] #[])
  fields := #[]
  methods := #[k0m0, k0m1]
  instanceTypes := #[]
  staticTypes := #[]
  resolved := Array.replicate 124 none
  statics := none }

def pool1 : Array CpInfo := pool [(2, .class_ 4), (1, u "java/lang/Object"), (0, u "<init>"), (0, u "()V"), (0, .string 8), (0, u "lump-sum"), (0, .string 10), (0, u "installments"), (0, .string 12), (0, u "life-annuity"), (0, .methodref 14 15), (0, .class_ 16), (0, .nameAndType 17 18), (0, u "java/lang/String"), (0, u "length"), (0, u "()I"), (0, .methodref 14 20), (0, .nameAndType 21 22), (0, u "charAt"), (0, u "(I)C"), (0, .methodref 24 25), (0, .class_ 26), (0, .nameAndType 27 28), (0, u "com/example/vestry/vestry/io/PaymentFormNamedPinLaw"), (0, u "at"), (0, u "(Ljava/lang/String;II)C"), (0, .methodref 14 30), (0, .nameAndType 31 32), (0, u "equals"), (0, u "(Ljava/lang/Object;)Z"), (0, .fieldref 34 35), (0, .class_ 36), (0, .nameAndType 37 38), (0, u "com/example/vestry/vestry/io/PaymentForm"), (0, u "LUMP_SUM"), (0, u "Lcom/example/vestry/vestry/io/PaymentForm;"), (0, .fieldref 34 40), (0, .nameAndType 41 38), (0, u "INSTALLMENTS"), (0, .fieldref 34 43), (0, .nameAndType 44 38), (0, u "LIFE_ANNUITY"), (0, .integer 2147483647), (0, .methodref 24 47), (0, .nameAndType 48 49), (0, u "base"), (0, u "(I)Ljava/lang/String;"), (0, .methodref 24 51), (0, .nameAndType 52 53), (0, u "fill"), (0, u "(Ljava/lang/String;II)[C"), (0, .methodref 14 55), (0, .nameAndType 5 56), (0, u "([C)V"), (0, .methodref 24 58), (0, .nameAndType 59 60), (0, u "expected"), (0, u "(Ljava/lang/String;)Lcom/example/vestry/vestry/io/PaymentForm;"), (0, .methodref 34 62), (0, .nameAndType 63 64), (0, u "named"), (0, u "(Ljava/lang/String;)Ljava/util/Optional;"), (0, .methodref 66 67), (0, .class_ 68), (0, .nameAndType 69 70), (0, u "java/util/Optional"), (0, u "isPresent"), (0, u "()Z"), (0, .methodref 66 72), (0, .nameAndType 73 74), (0, u "get"), (0, u "()Ljava/lang/Object;"), (0, .methodref 34 76), (0, .nameAndType 77 78), (0, u "text"), (0, u "()Ljava/lang/String;"), (5, u "law"), (0, u "(IIIII)Z")] 2

def k1m0 : Method := { name := "<init>", desc := "()V", sig := { parameters := [], returnType := none }, accessFlags := 1, code := none }
def k1c1 : Code := { maxStack := 2, maxLocals := 1, code := method_2_code, exceptionTable := #[], attributes := #[] }
def k1m1 : Method := { name := "base", desc := "(I)Ljava/lang/String;", sig := { parameters := [.int], returnType := some (.object "java/lang/String") }, accessFlags := 10, code := some k1c1 }
def k1c2 : Code := { maxStack := 2, maxLocals := 3, code := method_3_code, exceptionTable := #[], attributes := #[] }
def k1m2 : Method := { name := "at", desc := "(Ljava/lang/String;II)C", sig := { parameters := [(.object "java/lang/String"), .int, .int], returnType := some .char }, accessFlags := 10, code := some k1c2 }
def k1c3 : Code := { maxStack := 5, maxLocals := 4, code := method_4_code, exceptionTable := #[], attributes := #[] }
def k1m3 : Method := { name := "fill", desc := "(Ljava/lang/String;II)[C", sig := { parameters := [(.object "java/lang/String"), .int, .int], returnType := some (.array .char) }, accessFlags := 10, code := some k1c3 }
def k1c4 : Code := { maxStack := 2, maxLocals := 1, code := method_5_code, exceptionTable := #[], attributes := #[] }
def k1m4 : Method := { name := "expected", desc := "(Ljava/lang/String;)Lcom/example/vestry/vestry/io/PaymentForm;", sig := { parameters := [(.object "java/lang/String")], returnType := some (.object "com/example/vestry/vestry/io/PaymentForm") }, accessFlags := 10, code := some k1c4 }
def k1c5 : Code := { maxStack := 4, maxLocals := 12, code := code, exceptionTable := #[], attributes := #[] }
def k1m5 : Method := { name := "law", desc := "(IIIII)Z", sig := { parameters := [.int, .int, .int, .int, .int], returnType := some .boolean }, accessFlags := 9, code := some k1c5 }
/-- com/example/vestry/vestry/io/PaymentFormNamedPinLaw -/
def k1 : Class := { plain "com/example/vestry/vestry/io/PaymentFormNamedPinLaw" (some 0) with
  accessFlags := 49
  interfaces := #[]
  cf := some (fileOf pool1 24 #[] #[{ accessFlags := 1, nameIndex := 5, descriptorIndex := 6, attributes := #[] }, { accessFlags := 10, nameIndex := 48, descriptorIndex := 49, attributes := #[] }, { accessFlags := 10, nameIndex := 27, descriptorIndex := 28, attributes := #[] }, { accessFlags := 10, nameIndex := 52, descriptorIndex := 53, attributes := #[] }, { accessFlags := 10, nameIndex := 59, descriptorIndex := 60, attributes := #[] }, { accessFlags := 9, nameIndex := 84, descriptorIndex := 85, attributes := #[] }] 49 2 #[] #[])
  fields := #[]
  methods := #[k1m0, k1m1, k1m2, k1m3, k1m4, k1m5]
  instanceTypes := #[]
  staticTypes := #[]
  resolved := Array.replicate 88 none
  statics := none }

def pool2 : Array CpInfo := pool [(1, .class_ 2), (0, u "java/io/Serializable"), (0, .class_ 4), (0, u "java/lang/Object")] 2

/-- java/io/Serializable -/
def k2 : Class := { plain "java/io/Serializable" (some 0) with
  accessFlags := 1537
  interfaces := #[]
  cf := some (fileOf pool2 1 #[] #[] 1537 3 #[] #[])
  fields := #[]
  methods := #[]
  instanceTypes := #[]
  staticTypes := #[]
  resolved := Array.replicate 7 none
  statics := none }

def pool3 : Array CpInfo := pool [(1, .class_ 2), (0, u "java/lang/Comparable"), (0, .class_ 4), (0, u "java/lang/Object")] 7

/-- java/lang/Comparable -/
def k3 : Class := { plain "java/lang/Comparable" (some 0) with
  accessFlags := 1537
  interfaces := #[]
  cf := some (fileOf pool3 1 #[] #[] 1537 3 #[] #[])
  fields := #[]
  methods := #[]
  instanceTypes := #[]
  staticTypes := #[]
  resolved := Array.replicate 12 none
  statics := none }

def pool4 : Array CpInfo := pool [(2, .class_ 4), (1, u "java/lang/CharSequence"), (42, .class_ 48), (0, u "java/lang/CharSequence$1CodePointIterator"), (10, .class_ 60), (0, u "java/lang/CharSequence$1CharIterator"), (5, .class_ 67), (0, u "java/lang/Object")] 63

/-- java/lang/CharSequence -/
def k4 : Class := { plain "java/lang/CharSequence" (some 0) with
  accessFlags := 1537
  interfaces := #[]
  cf := some (fileOf pool4 2 #[.nestMembers #[47, 59]] #[] 1537 66 #[] #[])
  fields := #[]
  methods := #[]
  instanceTypes := #[]
  staticTypes := #[]
  resolved := Array.replicate 131 none
  statics := none }

def pool5 : Array CpInfo := pool [(1, .class_ 2), (0, u "java/lang/constant/Constable"), (0, .class_ 4), (0, u "java/lang/Object")] 6

/-- java/lang/constant/Constable -/
def k5 : Class := { plain "java/lang/constant/Constable" (some 0) with
  accessFlags := 1537
  interfaces := #[]
  cf := some (fileOf pool5 1 #[] #[] 1537 3 #[] #[])
  fields := #[]
  methods := #[]
  instanceTypes := #[]
  staticTypes := #[]
  resolved := Array.replicate 11 none
  statics := none }

def pool6 : Array CpInfo := pool [(1, .class_ 2), (0, u "java/lang/constant/ConstantDesc"), (0, .class_ 4), (0, u "java/lang/Object")] 32

/-- java/lang/constant/ConstantDesc -/
def k6 : Class := { plain "java/lang/constant/ConstantDesc" (some 0) with
  accessFlags := 1537
  interfaces := #[]
  cf := some (fileOf pool6 1 #[] #[] 1537 3 #[] #[])
  fields := #[]
  methods := #[]
  instanceTypes := #[]
  staticTypes := #[]
  resolved := Array.replicate 37 none
  statics := none }

def pool7 : Array CpInfo := pool [(1, .methodref 2 3), (0, .class_ 4), (0, .nameAndType 5 6), (0, u "java/lang/Object"), (0, u "<init>"), (0, u "()V"), (0, .string 8), (0, u ""), (0, .fieldref 10 11), (0, .class_ 12), (0, .nameAndType 13 14), (0, u "java/lang/String"), (0, u "value"), (0, u "[B"), (0, .fieldref 10 16), (0, .nameAndType 17 18), (0, u "coder"), (0, u "B"), (2, u "hash"), (0, u "I"), (2, u "hashIsZero"), (0, u "Z"), (0, .methodref 10 28), (0, .nameAndType 5 29), (0, u "([CIILjava/lang/Void;)V"), (8, .fieldref 10 39), (0, .nameAndType 40 26), (0, u "COMPACT_STRINGS"), (1, .class_ 44), (1, u "java/lang/StringUTF16"), (0, u "compress"), (1, .methodref 42 48), (0, .nameAndType 49 50), (0, u "coderFromArrayLen"), (0, u "([BI)B"), (56, .class_ 109), (1, u "java/lang/StringLatin1"), (32, u "()Z"), (34, .methodref 42 178), (0, .nameAndType 45 179), (0, u "([CII)[B"), (154, u "()I"), (0, .methodref 10 336), (0, .nameAndType 17 337), (0, u "()B"), (25, u "([BI)C"), (27, u "(II)V"), (35, u "(I)C"), (64, .methodref 10 493), (0, .nameAndType 494 142), (0, u "isLatin1"), (0, .methodref 107 496), (0, .nameAndType 497 363), (0, u "charAt"), (3, u "checkIndex"), (5, u "length"), (33, .methodref 107 542), (0, .nameAndType 543 544), (0, u "equals"), (0, u "([B[B)Z"), (28, u "(Ljava/lang/Object;)Z"), (1, .class_ 576), (0, u "java/lang/CharSequence"), (22, u "CASE_INSENSITIVE_ORDER"), (0, u "Ljava/util/Comparator;"), (409, u "([C)V"), (42, .fieldref 1054 1055), (0, .class_ 1056), (0, .nameAndType 1057 1058), (0, u "jdk/internal/util/Preconditions"), (0, u "SIOOBE_FORMATTER"), (0, u "Ljava/util/function/BiFunction;"), (0, .methodref 1054 1060), (0, .nameAndType 501 1061), (0, u "(IILjava/util/function/BiFunction;)I"), (39, u "serialPersistentFields"), (0, u "[Ljava/io/ObjectStreamField;"), (0, .class_ 1104), (0, u "java/lang/String$CaseInsensitiveComparator"), (1, .class_ 1107), (0, u "java/io/Serializable"), (0, .class_ 1109), (0, u "java/lang/Comparable"), (0, .class_ 1111), (0, u "java/lang/constant/Constable"), (0, .class_ 1113), (0, u "java/lang/constant/ConstantDesc"), (2, u "serialVersionUID"), (0, u "J"), (3, u "REPL"), (0, u "C"), (2, u "LATIN1"), (1, u "UTF16")] 323

def k7m0 : Method := { name := "<init>", desc := "()V", sig := { parameters := [], returnType := none }, accessFlags := 1, code := none }
def k7c1 : Code := { maxStack := 5, maxLocals := 2, code := jdk_42_method_3_code, exceptionTable := #[], attributes := #[] }
def k7m1 : Method := { name := "<init>", desc := "([C)V", sig := { parameters := [(.array .char)], returnType := none }, accessFlags := 1, code := some k7c1 }
def k7c2 : Code := { maxStack := 2, maxLocals := 1, code := jdk_42_method_54_code, exceptionTable := #[], attributes := #[] }
def k7m2 : Method := { name := "length", desc := "()I", sig := { parameters := [], returnType := some .int }, accessFlags := 1, code := some k7c2 }
def k7c3 : Code := { maxStack := 2, maxLocals := 2, code := jdk_42_method_56_code, exceptionTable := #[], attributes := #[] }
def k7m3 : Method := { name := "charAt", desc := "(I)C", sig := { parameters := [.int], returnType := some .char }, accessFlags := 1, code := some k7c3 }
def k7c4 : Code := { maxStack := 2, maxLocals := 3, code := jdk_42_method_66_code, exceptionTable := #[], attributes := #[] }
def k7m4 : Method := { name := "equals", desc := "(Ljava/lang/Object;)Z", sig := { parameters := [(.object "java/lang/Object")], returnType := some .boolean }, accessFlags := 1, code := some k7c4 }
def k7c5 : Code := { maxStack := 4, maxLocals := 6, code := jdk_42_method_149_code, exceptionTable := #[], attributes := #[] }
def k7m5 : Method := { name := "<init>", desc := "([CIILjava/lang/Void;)V", sig := { parameters := [(.array .char), .int, .int, (.object "java/lang/Void")], returnType := none }, accessFlags := 2, code := some k7c5 }
def k7c6 : Code := { maxStack := 1, maxLocals := 1, code := jdk_42_method_152_code, exceptionTable := #[], attributes := #[] }
def k7m6 : Method := { name := "coder", desc := "()B", sig := { parameters := [], returnType := some .byte }, accessFlags := 0, code := some k7c6 }
def k7c7 : Code := { maxStack := 1, maxLocals := 1, code := jdk_42_method_154_code, exceptionTable := #[], attributes := #[] }
def k7m7 : Method := { name := "isLatin1", desc := "()Z", sig := { parameters := [], returnType := some .boolean }, accessFlags := 0, code := some k7c7 }
def k7c8 : Code := { maxStack := 3, maxLocals := 2, code := jdk_42_method_155_code, exceptionTable := #[], attributes := #[] }
def k7m8 : Method := { name := "checkIndex", desc := "(II)V", sig := { parameters := [.int, .int], returnType := none }, accessFlags := 8, code := some k7c8 }
/-- java/lang/String -/
def k7 : Class := { plain "java/lang/String" (some 0) with
  accessFlags := 49
  interfaces := #[2, 3, 4, 5, 6]
  cf := some (fileOf pool7 10 #[.nestMembers #[1103]] #[{ accessFlags := 1, nameIndex := 5, descriptorIndex := 6, attributes := #[] }, { accessFlags := 1, nameIndex := 5, descriptorIndex := 1010, attributes := #[] }, { accessFlags := 1, nameIndex := 507, descriptorIndex := 334, attributes := #[] }, { accessFlags := 1, nameIndex := 497, descriptorIndex := 427, attributes := #[] }, { accessFlags := 1, nameIndex := 543, descriptorIndex := 573, attributes := #[] }, { accessFlags := 2, nameIndex := 5, descriptorIndex := 29, attributes := #[] }, { accessFlags := 0, nameIndex := 17, descriptorIndex := 337, attributes := #[] }, { accessFlags := 0, nameIndex := 494, descriptorIndex := 142, attributes := #[] }, { accessFlags := 8, nameIndex := 501, descriptorIndex := 391, attributes := #[] }] 49 2 #[1106, 1108, 575, 1110, 1112] #[{ accessFlags := 18, nameIndex := 13, descriptorIndex := 14, attributes := #[] }, { accessFlags := 18, nameIndex := 17, descriptorIndex := 18, attributes := #[] }, { accessFlags := 2, nameIndex := 21, descriptorIndex := 22, attributes := #[] }, { accessFlags := 2, nameIndex := 25, descriptorIndex := 26, attributes := #[] }, { accessFlags := 26, nameIndex := 1116, descriptorIndex := 1117, attributes := #[] }, { accessFlags := 24, nameIndex := 40, descriptorIndex := 26, attributes := #[] }, { accessFlags := 26, nameIndex := 1101, descriptorIndex := 1102, attributes := #[] }, { accessFlags := 26, nameIndex := 1121, descriptorIndex := 1122, attributes := #[] }, { accessFlags := 25, nameIndex := 599, descriptorIndex := 600, attributes := #[] }, { accessFlags := 24, nameIndex := 1125, descriptorIndex := 18, attributes := #[] }, { accessFlags := 24, nameIndex := 1127, descriptorIndex := 18, attributes := #[] }])
  fields := #[{ name := "value", type := (.array .byte), accessFlags := 18, slot := 0, constantValue := 0 }, { name := "coder", type := .byte, accessFlags := 18, slot := 1, constantValue := 0 }, { name := "hash", type := .int, accessFlags := 2, slot := 2, constantValue := 0 }, { name := "hashIsZero", type := .boolean, accessFlags := 2, slot := 3, constantValue := 0 }, { name := "serialVersionUID", type := .long, accessFlags := 26, slot := 0, constantValue := 0 }, { name := "COMPACT_STRINGS", type := .boolean, accessFlags := 24, slot := 1, constantValue := 0 }, { name := "serialPersistentFields", type := (.array (.object "java/io/ObjectStreamField")), accessFlags := 26, slot := 2, constantValue := 0 }, { name := "REPL", type := .char, accessFlags := 26, slot := 3, constantValue := 0 }, { name := "CASE_INSENSITIVE_ORDER", type := (.object "java/util/Comparator"), accessFlags := 25, slot := 4, constantValue := 0 }, { name := "LATIN1", type := .byte, accessFlags := 24, slot := 5, constantValue := 0 }, { name := "UTF16", type := .byte, accessFlags := 24, slot := 6, constantValue := 0 }]
  methods := #[k7m0, k7m1, k7m2, k7m3, k7m4, k7m5, k7m6, k7m7, k7m8]
  instanceTypes := #[(.array .byte), .byte, .int, .boolean]
  staticTypes := #[.long, .boolean, (.array (.object "java/io/ObjectStreamField")), .char, (.object "java/util/Comparator"), .byte, .byte]
  resolved := Array.replicate 1451 none
  statics := some 0 }

def pool8 : Array CpInfo := pool [(1, .class_ 2), (0, u "java/lang/String"), (1, .class_ 6), (1, u "java/lang/Object"), (0, u "<init>"), (0, u "()V"), (0, .methodref 1 10), (0, .nameAndType 11 12), (0, u "checkIndex"), (0, u "(II)V"), (1, .class_ 16), (1, u "java/lang/StringLatin1"), (36, u "([BI)C"), (67, u "$assertionsDisabled"), (0, u "Z"), (98, .class_ 223), (1, u "java/lang/StringLatin1$LinesSpliterator"), (28, u "charAt"), (28, u "equals"), (0, u "([B[B)Z"), (107, .class_ 391), (0, u "java/lang/StringLatin1$CharsSpliterator")] 3

def k8m0 : Method := { name := "<init>", desc := "()V", sig := { parameters := [], returnType := none }, accessFlags := 0, code := none }
def k8c1 : Code := { maxStack := 2, maxLocals := 2, code := jdk_43_method_2_code, exceptionTable := #[], attributes := #[] }
def k8m1 : Method := { name := "charAt", desc := "([BI)C", sig := { parameters := [(.array .byte), .int], returnType := some .char }, accessFlags := 9, code := some k8c1 }
def k8c2 : Code := { maxStack := 3, maxLocals := 3, code := jdk_43_method_13_code, exceptionTable := #[], attributes := #[] }
def k8m2 : Method := { name := "equals", desc := "([B[B)Z", sig := { parameters := [(.array .byte), (.array .byte)], returnType := some .boolean }, accessFlags := 9, code := some k8c2 }
/-- java/lang/StringLatin1 -/
def k8 : Class := { plain "java/lang/StringLatin1" (some 0) with
  accessFlags := 48
  interfaces := #[]
  cf := some (fileOf pool8 14 #[.nestMembers #[390, 221]] #[{ accessFlags := 0, nameIndex := 7, descriptorIndex := 8, attributes := #[] }, { accessFlags := 9, nameIndex := 252, descriptorIndex := 53, attributes := #[] }, { accessFlags := 9, nameIndex := 281, descriptorIndex := 282, attributes := #[] }] 48 4 #[] #[{ accessFlags := 4120, nameIndex := 121, descriptorIndex := 122, attributes := #[] }])
  fields := #[{ name := "$assertionsDisabled", type := .boolean, accessFlags := 4120, slot := 0, constantValue := 0 }]
  methods := #[k8m0, k8m1, k8m2]
  instanceTypes := #[]
  staticTypes := #[.boolean]
  resolved := Array.replicate 395 none
  statics := none }

def pool9 : Array CpInfo := pool [(2, .class_ 4), (1, u "java/lang/Enum"), (0, u "name"), (0, u "Ljava/lang/String;"), (2, u "ordinal"), (0, u "I"), (1, .class_ 14), (1, u "java/lang/Object"), (4, u "hash"), (86, .class_ 108), (1, u "java/lang/Enum$EnumDesc"), (2, .class_ 112), (0, u "java/lang/constant/Constable"), (0, .class_ 114), (0, u "java/lang/Comparable"), (0, .class_ 116), (0, u "java/io/Serializable")] 87

/-- java/lang/Enum -/
def k9 : Class := { plain "java/lang/Enum" (some 0) with
  accessFlags := 1057
  interfaces := #[5, 3, 2]
  cf := some (fileOf pool9 2 #[.nestMembers #[106]] #[] 1057 12 #[111, 113, 115] #[{ accessFlags := 18, nameIndex := 5, descriptorIndex := 6, attributes := #[] }, { accessFlags := 18, nameIndex := 9, descriptorIndex := 10, attributes := #[] }, { accessFlags := 2, nameIndex := 19, descriptorIndex := 10, attributes := #[] }])
  fields := #[{ name := "name", type := (.object "java/lang/String"), accessFlags := 18, slot := 0, constantValue := 0 }, { name := "ordinal", type := .int, accessFlags := 18, slot := 1, constantValue := 0 }, { name := "hash", type := .int, accessFlags := 2, slot := 2, constantValue := 0 }]
  methods := #[]
  instanceTypes := #[(.object "java/lang/String"), .int, .int]
  staticTypes := #[]
  resolved := Array.replicate 204 none
  statics := none }

def pool10 : Array CpInfo := pool [(1, .class_ 2), (0, u "com/example/vestry/vestry/io/PaymentForm"), (2, u "LUMP_SUM"), (0, u "Lcom/example/vestry/vestry/io/PaymentForm;"), (2, u "INSTALLMENTS"), (2, u "LIFE_ANNUITY"), (0, .fieldref 1 14), (0, .nameAndType 15 16), (0, u "$VALUES"), (0, u "[Lcom/example/vestry/vestry/io/PaymentForm;"), (0, .methodref 18 19), (0, .class_ 16), (0, .nameAndType 20 21), (0, u "clone"), (0, u "()Ljava/lang/Object;"), (1, .class_ 25), (1, u "java/lang/Enum"), (6, .fieldref 1 33), (0, .nameAndType 34 35), (0, u "text"), (0, u "Ljava/lang/String;"), (0, .methodref 1 37), (0, .nameAndType 38 39), (0, u "values"), (0, u "()[Lcom/example/vestry/vestry/io/PaymentForm;"), (0, .methodref 41 42), (0, .class_ 43), (0, .nameAndType 44 45), (0, u "java/lang/String"), (0, u "equals"), (0, u "(Ljava/lang/Object;)Z"), (0, .methodref 47 48), (0, .class_ 49), (0, .nameAndType 50 51), (0, u "java/util/Optional"), (0, u "of"), (0, u "(Ljava/lang/Object;)Ljava/util/Optional;"), (0, .methodref 47 53), (0, .nameAndType 54 55), (0, u "empty"), (0, u "()Ljava/util/Optional;"), (21, u "()Ljava/lang/String;"), (0, u "named"), (0, u "(Ljava/lang/String;)Ljava/util/Optional;")] 7

def k10c0 : Code := { maxStack := 1, maxLocals := 0, code := prog_47_method_1_code, exceptionTable := #[], attributes := #[] }
def k10m0 : Method := { name := "values", desc := "()[Lcom/example/vestry/vestry/io/PaymentForm;", sig := { parameters := [], returnType := some (.array (.object "com/example/vestry/vestry/io/PaymentForm")) }, accessFlags := 9, code := some k10c0 }
def k10c1 : Code := { maxStack := 1, maxLocals := 1, code := prog_47_method_4_code, exceptionTable := #[], attributes := #[] }
def k10m1 : Method := { name := "text", desc := "()Ljava/lang/String;", sig := { parameters := [], returnType := some (.object "java/lang/String") }, accessFlags := 1, code := some k10c1 }
def k10c2 : Code := { maxStack := 2, maxLocals := 5, code := prog_47_method_5_code, exceptionTable := #[], attributes := #[] }
def k10m2 : Method := { name := "named", desc := "(Ljava/lang/String;)Ljava/util/Optional;", sig := { parameters := [(.object "java/lang/String")], returnType := some (.object "java/util/Optional") }, accessFlags := 8, code := some k10c2 }
/-- com/example/vestry/vestry/io/PaymentForm -/
def k10 : Class := { plain "com/example/vestry/vestry/io/PaymentForm" (some 9) with
  accessFlags := 16433
  interfaces := #[]
  cf := some (fileOf pool10 1 #[] #[{ accessFlags := 9, nameIndex := 38, descriptorIndex := 39, attributes := #[] }, { accessFlags := 1, nameIndex := 34, descriptorIndex := 77, attributes := #[] }, { accessFlags := 8, nameIndex := 78, descriptorIndex := 79, attributes := #[] }] 16433 23 #[] #[{ accessFlags := 16409, nameIndex := 5, descriptorIndex := 6, attributes := #[] }, { accessFlags := 16409, nameIndex := 9, descriptorIndex := 6, attributes := #[] }, { accessFlags := 16409, nameIndex := 12, descriptorIndex := 6, attributes := #[] }, { accessFlags := 18, nameIndex := 34, descriptorIndex := 35, attributes := #[] }, { accessFlags := 4122, nameIndex := 15, descriptorIndex := 16, attributes := #[] }])
  fields := #[{ name := "LUMP_SUM", type := (.object "com/example/vestry/vestry/io/PaymentForm"), accessFlags := 16409, slot := 0, constantValue := 0 }, { name := "INSTALLMENTS", type := (.object "com/example/vestry/vestry/io/PaymentForm"), accessFlags := 16409, slot := 1, constantValue := 0 }, { name := "LIFE_ANNUITY", type := (.object "com/example/vestry/vestry/io/PaymentForm"), accessFlags := 16409, slot := 2, constantValue := 0 }, { name := "text", type := (.object "java/lang/String"), accessFlags := 18, slot := 3, constantValue := 0 }, { name := "$VALUES", type := (.array (.object "com/example/vestry/vestry/io/PaymentForm")), accessFlags := 4122, slot := 3, constantValue := 0 }]
  methods := #[k10m0, k10m1, k10m2]
  instanceTypes := #[(.object "java/lang/String"), .int, .int, (.object "java/lang/String")]
  staticTypes := #[(.object "com/example/vestry/vestry/io/PaymentForm"), (.object "com/example/vestry/vestry/io/PaymentForm"), (.object "com/example/vestry/vestry/io/PaymentForm"), (.array (.object "com/example/vestry/vestry/io/PaymentForm"))]
  resolved := Array.replicate 87 none
  statics := some 1 }

def pool11 : Array CpInfo := pool [(1, .class_ 2), (0, u "java/lang/Cloneable"), (0, .class_ 4), (0, u "java/lang/Object")] 2

/-- java/lang/Cloneable -/
def k11 : Class := { plain "java/lang/Cloneable" (some 0) with
  accessFlags := 1537
  interfaces := #[]
  cf := some (fileOf pool11 1 #[] #[] 1537 3 #[] #[])
  fields := #[]
  methods := #[]
  instanceTypes := #[]
  staticTypes := #[]
  resolved := Array.replicate 7 none
  statics := none }

def pool12 : Array CpInfo := pool [(1, .fieldref 2 3), (0, .class_ 4), (0, .nameAndType 5 6), (0, u "java/util/Optional"), (0, u "EMPTY"), (0, u "Ljava/util/Optional;"), (0, .methodref 8 9), (0, .class_ 10), (0, .nameAndType 11 12), (0, u "java/lang/Object"), (0, u "<init>"), (0, u "()V"), (0, .fieldref 2 14), (0, .nameAndType 15 16), (0, u "value"), (0, u "Ljava/lang/Object;"), (0, .methodref 18 19), (0, .class_ 20), (0, .nameAndType 21 22), (0, u "java/util/Objects"), (0, u "requireNonNull"), (0, u "(Ljava/lang/Object;)Ljava/lang/Object;"), (0, .methodref 2 24), (0, .nameAndType 11 25), (0, u "(Ljava/lang/Object;)V"), (20, u "()Z"), (8, u "empty"), (0, u "()Ljava/util/Optional;"), (8, u "(Ljava/lang/Object;)Ljava/util/Optional;"), (2, u "isPresent"), (4, u "get"), (0, u "()Ljava/lang/Object;"), (7, u "of")] 104

def k12c0 : Code := { maxStack := 1, maxLocals := 1, code := jdk_32_method_1_code, exceptionTable := #[], attributes := #[] }
def k12m0 : Method := { name := "empty", desc := "()Ljava/util/Optional;", sig := { parameters := [], returnType := some (.object "java/util/Optional") }, accessFlags := 9, code := some k12c0 }
def k12c1 : Code := { maxStack := 2, maxLocals := 2, code := jdk_32_method_2_code, exceptionTable := #[], attributes := #[] }
def k12m1 : Method := { name := "<init>", desc := "(Ljava/lang/Object;)V", sig := { parameters := [(.object "java/lang/Object")], returnType := none }, accessFlags := 2, code := some k12c1 }
def k12c2 : Code := { maxStack := 3, maxLocals := 1, code := jdk_32_method_3_code, exceptionTable := #[], attributes := #[] }
def k12m2 : Method := { name := "of", desc := "(Ljava/lang/Object;)Ljava/util/Optional;", sig := { parameters := [(.object "java/lang/Object")], returnType := some (.object "java/util/Optional") }, accessFlags := 9, code := some k12c2 }
def k12c3 : Code := { maxStack := 3, maxLocals := 1, code := jdk_32_method_5_code, exceptionTable := #[], attributes := #[] }
def k12m3 : Method := { name := "get", desc := "()Ljava/lang/Object;", sig := { parameters := [], returnType := some (.object "java/lang/Object") }, accessFlags := 1, code := some k12c3 }
def k12c4 : Code := { maxStack := 1, maxLocals := 1, code := jdk_32_method_6_code, exceptionTable := #[], attributes := #[] }
def k12m4 : Method := { name := "isPresent", desc := "()Z", sig := { parameters := [], returnType := some .boolean }, accessFlags := 1, code := some k12c4 }
/-- java/util/Optional -/
def k12 : Class := { plain "java/util/Optional" (some 0) with
  accessFlags := 49
  interfaces := #[]
  cf := some (fileOf pool12 2 #[] #[{ accessFlags := 9, nameIndex := 55, descriptorIndex := 56, attributes := #[] }, { accessFlags := 2, nameIndex := 11, descriptorIndex := 25, attributes := #[] }, { accessFlags := 9, nameIndex := 82, descriptorIndex := 65, attributes := #[] }, { accessFlags := 1, nameIndex := 73, descriptorIndex := 74, attributes := #[] }, { accessFlags := 1, nameIndex := 68, descriptorIndex := 46, attributes := #[] }] 49 8 #[] #[{ accessFlags := 26, nameIndex := 5, descriptorIndex := 6, attributes := #[] }, { accessFlags := 18, nameIndex := 15, descriptorIndex := 16, attributes := #[] }])
  fields := #[{ name := "EMPTY", type := (.object "java/util/Optional"), accessFlags := 26, slot := 0, constantValue := 0 }, { name := "value", type := (.object "java/lang/Object"), accessFlags := 18, slot := 0, constantValue := 0 }]
  methods := #[k12m0, k12m1, k12m2, k12m3, k12m4]
  instanceTypes := #[(.object "java/lang/Object")]
  staticTypes := #[(.object "java/util/Optional")]
  resolved := Array.replicate 187 none
  statics := some 2 }

def pool13 : Array CpInfo := pool [(2, .class_ 4), (1, u "java/lang/Object"), (0, u "<init>"), (0, u "()V"), (17, .class_ 26), (1, u "jdk/internal/util/Preconditions"), (6, u "checkIndex"), (21, .class_ 56), (0, u "jdk/internal/util/Preconditions$4"), (57, .class_ 115), (0, u "jdk/internal/util/Preconditions$1"), (7, u "SIOOBE_FORMATTER"), (0, u "Ljava/util/function/BiFunction;"), (0, .class_ 126), (0, u "jdk/internal/util/Preconditions$2"), (3, u "AIOOBE_FORMATTER"), (0, .class_ 132), (0, u "jdk/internal/util/Preconditions$3"), (3, u "IOOBE_FORMATTER"), (41, u "(IILjava/util/function/BiFunction;)I")] 15

def k13m0 : Method := { name := "<init>", desc := "()V", sig := { parameters := [], returnType := none }, accessFlags := 1, code := none }
def k13c1 : Code := { maxStack := 3, maxLocals := 3, code := jdk_41_method_11_code, exceptionTable := #[], attributes := #[] }
def k13m1 : Method := { name := "checkIndex", desc := "(IILjava/util/function/BiFunction;)I", sig := { parameters := [.int, .int, (.object "java/util/function/BiFunction")], returnType := some .int }, accessFlags := 9, code := some k13c1 }
/-- jdk/internal/util/Preconditions -/
def k13 : Class := { plain "jdk/internal/util/Preconditions" (some 0) with
  accessFlags := 33
  interfaces := #[]
  cf := some (fileOf pool13 24 #[.nestMembers #[55, 131, 125, 114]] #[{ accessFlags := 1, nameIndex := 5, descriptorIndex := 6, attributes := #[] }, { accessFlags := 9, nameIndex := 33, descriptorIndex := 178, attributes := #[] }] 33 2 #[] #[{ accessFlags := 25, nameIndex := 123, descriptorIndex := 124, attributes := #[] }, { accessFlags := 25, nameIndex := 130, descriptorIndex := 124, attributes := #[] }, { accessFlags := 25, nameIndex := 136, descriptorIndex := 124, attributes := #[] }])
  fields := #[{ name := "SIOOBE_FORMATTER", type := (.object "java/util/function/BiFunction"), accessFlags := 25, slot := 0, constantValue := 0 }, { name := "AIOOBE_FORMATTER", type := (.object "java/util/function/BiFunction"), accessFlags := 25, slot := 1, constantValue := 0 }, { name := "IOOBE_FORMATTER", type := (.object "java/util/function/BiFunction"), accessFlags := 25, slot := 2, constantValue := 0 }]
  methods := #[k13m0, k13m1]
  instanceTypes := #[]
  staticTypes := #[(.object "java/util/function/BiFunction"), (.object "java/util/function/BiFunction"), (.object "java/util/function/BiFunction")]
  resolved := Array.replicate 194 none
  statics := some 3 }

def pool14 : Array CpInfo := pool [(6, .class_ 8), (1, u "java/lang/Object"), (0, u "<init>"), (0, u "()V"), (1, .class_ 14), (1, u "java/lang/StringUTF16"), (31, u "$assertionsDisabled"), (0, u "Z"), (13, u "HI_BYTE_SHIFT"), (0, u "I"), (2, u "LO_BYTE_SHIFT"), (49, .methodref 12 116), (0, .nameAndType 117 118), (0, u "compress"), (0, u "([CI[BII)I"), (3, u "([CII)[B"), (138, u "coderFromArrayLen"), (0, u "([BI)B"), (106, .class_ 371), (1, u "java/lang/StringUTF16$LinesSpliterator"), (58, u "MAX_LENGTH"), (196, .class_ 628), (0, u "java/lang/StringUTF16$CodePointsSpliterator"), (0, .class_ 630), (0, u "java/lang/StringUTF16$CharsSpliterator")] 4

def k14m0 : Method := { name := "<init>", desc := "()V", sig := { parameters := [], returnType := none }, accessFlags := 0, code := none }
def k14c1 : Code := { maxStack := 2, maxLocals := 2, code := jdk_52_method_15_code, exceptionTable := #[], attributes := #[] }
def k14m1 : Method := { name := "coderFromArrayLen", desc := "([BI)B", sig := { parameters := [(.array .byte), .int], returnType := some .byte }, accessFlags := 8, code := some k14c1 }
def k14c2 : Code := { maxStack := 5, maxLocals := 6, code := jdk_52_method_16_code, exceptionTable := #[], attributes := #[] }
def k14m2 : Method := { name := "compress", desc := "([CII)[B", sig := { parameters := [(.array .char), .int, .int], returnType := some (.array .byte) }, accessFlags := 9, code := some k14c2 }
def k14c3 : Code := { maxStack := 3, maxLocals := 7, code := jdk_52_method_21_code, exceptionTable := #[], attributes := #[] }
def k14m3 : Method := { name := "compress", desc := "([CI[BII)I", sig := { parameters := [(.array .char), .int, (.array .byte), .int, .int], returnType := some .int }, accessFlags := 9, code := some k14c3 }
/-- java/lang/StringUTF16 -/
def k14 : Class := { plain "java/lang/StringUTF16" (some 0) with
  accessFlags := 48
  interfaces := #[]
  cf := some (fileOf pool14 12 #[.nestMembers #[627, 629, 369]] #[{ accessFlags := 0, nameIndex := 9, descriptorIndex := 10, attributes := #[] }, { accessFlags := 8, nameIndex := 261, descriptorIndex := 262, attributes := #[] }, { accessFlags := 9, nameIndex := 117, descriptorIndex := 122, attributes := #[] }, { accessFlags := 9, nameIndex := 117, descriptorIndex := 118, attributes := #[] }] 48 6 #[] #[{ accessFlags := 26, nameIndex := 61, descriptorIndex := 62, attributes := #[] }, { accessFlags := 26, nameIndex := 65, descriptorIndex := 62, attributes := #[] }, { accessFlags := 24, nameIndex := 430, descriptorIndex := 62, attributes := #[] }, { accessFlags := 4120, nameIndex := 46, descriptorIndex := 47, attributes := #[] }])
  fields := #[{ name := "HI_BYTE_SHIFT", type := .int, accessFlags := 26, slot := 0, constantValue := 0 }, { name := "LO_BYTE_SHIFT", type := .int, accessFlags := 26, slot := 1, constantValue := 0 }, { name := "MAX_LENGTH", type := .int, accessFlags := 24, slot := 2, constantValue := 0 }, { name := "$assertionsDisabled", type := .boolean, accessFlags := 4120, slot := 3, constantValue := 0 }]
  methods := #[k14m0, k14m1, k14m2, k14m3]
  instanceTypes := #[]
  staticTypes := #[.int, .int, .int, .boolean]
  resolved := Array.replicate 635 none
  statics := none }

def pool15 : Array CpInfo := pool [(2, .class_ 4), (1, u "java/lang/Object"), (0, u "<init>"), (0, u "()V"), (35, .class_ 44), (1, u "java/util/Objects"), (0, u "requireNonNull"), (0, u "(Ljava/lang/Object;)Ljava/lang/Object;")] 137

def k15m0 : Method := { name := "<init>", desc := "()V", sig := { parameters := [], returnType := none }, accessFlags := 2, code := none }
def k15c1 : Code := { maxStack := 2, maxLocals := 1, code := jdk_31_method_10_code, exceptionTable := #[], attributes := #[] }
def k15m1 : Method := { name := "requireNonNull", desc := "(Ljava/lang/Object;)Ljava/lang/Object;", sig := { parameters := [(.object "java/lang/Object")], returnType := some (.object "java/lang/Object") }, accessFlags := 9, code := some k15c1 }
/-- java/util/Objects -/
def k15 : Class := { plain "java/util/Objects" (some 0) with
  accessFlags := 49
  interfaces := #[]
  cf := some (fileOf pool15 42 #[] #[{ accessFlags := 2, nameIndex := 5, descriptorIndex := 6, attributes := #[] }, { accessFlags := 9, nameIndex := 45, descriptorIndex := 46, attributes := #[] }] 49 2 #[] #[])
  fields := #[]
  methods := #[k15m0, k15m1]
  instanceTypes := #[]
  staticTypes := #[]
  resolved := Array.replicate 184 none
  statics := none }

def pool16 : Array CpInfo := pool [(9, u "<init>"), (6, .class_ 18), (1, u "java/lang/Object"), (0, u "()V"), (1, .class_ 23), (1, u "jdk/internal/util/ArraysSupport"), (0, u "LOG2_ARRAY_LONG_INDEX_SCALE"), (0, u "I"), (2, u "U"), (0, u "Ljdk/internal/misc/Unsafe;"), (8, u "BIG_ENDIAN"), (0, u "Z"), (8, u "LOG2_BYTE_BIT_SIZE"), (4, u "LOG2_ARRAY_INT_INDEX_SCALE"), (54, u "JLA"), (0, u "Ljdk/internal/access/JavaLangAccess;"), (11, u "LOG2_ARRAY_BOOLEAN_INDEX_SCALE"), (9, u "LOG2_ARRAY_BYTE_INDEX_SCALE"), (5, u "LOG2_ARRAY_CHAR_INDEX_SCALE"), (5, u "LOG2_ARRAY_SHORT_INDEX_SCALE"), (18, u "LOG2_ARRAY_FLOAT_INDEX_SCALE"), (24, u "LOG2_ARRAY_DOUBLE_INDEX_SCALE"), (89, u "T_BOOLEAN"), (2, u "T_CHAR"), (1, u "T_FLOAT"), (1, u "T_DOUBLE"), (1, u "T_BYTE"), (1, u "T_SHORT"), (1, u "T_INT"), (1, u "T_LONG"), (1, u "SOFT_MAX_ARRAY_LENGTH")] 83

def k16m0 : Method := { name := "<init>", desc := "()V", sig := { parameters := [], returnType := none }, accessFlags := 2, code := none }
/-- jdk/internal/util/ArraysSupport -/
def k16 : Class := { plain "jdk/internal/util/ArraysSupport" (some 0) with
  accessFlags := 33
  interfaces := #[]
  cf := some (fileOf pool16 21 #[] #[{ accessFlags := 2, nameIndex := 9, descriptorIndex := 19, attributes := #[] }] 33 16 #[] #[{ accessFlags := 24, nameIndex := 28, descriptorIndex := 29, attributes := #[] }, { accessFlags := 26, nameIndex := 38, descriptorIndex := 39, attributes := #[] }, { accessFlags := 25, nameIndex := 121, descriptorIndex := 25, attributes := #[] }, { accessFlags := 25, nameIndex := 131, descriptorIndex := 25, attributes := #[] }, { accessFlags := 25, nameIndex := 137, descriptorIndex := 25, attributes := #[] }, { accessFlags := 25, nameIndex := 143, descriptorIndex := 25, attributes := #[] }, { accessFlags := 25, nameIndex := 53, descriptorIndex := 25, attributes := #[] }, { accessFlags := 25, nameIndex := 24, descriptorIndex := 25, attributes := #[] }, { accessFlags := 25, nameIndex := 162, descriptorIndex := 25, attributes := #[] }, { accessFlags := 25, nameIndex := 187, descriptorIndex := 25, attributes := #[] }, { accessFlags := 26, nameIndex := 48, descriptorIndex := 25, attributes := #[] }, { accessFlags := 25, nameIndex := 277, descriptorIndex := 25, attributes := #[] }, { accessFlags := 25, nameIndex := 280, descriptorIndex := 25, attributes := #[] }, { accessFlags := 25, nameIndex := 282, descriptorIndex := 25, attributes := #[] }, { accessFlags := 25, nameIndex := 284, descriptorIndex := 25, attributes := #[] }, { accessFlags := 25, nameIndex := 286, descriptorIndex := 25, attributes := #[] }, { accessFlags := 25, nameIndex := 288, descriptorIndex := 25, attributes := #[] }, { accessFlags := 25, nameIndex := 290, descriptorIndex := 25, attributes := #[] }, { accessFlags := 25, nameIndex := 292, descriptorIndex := 25, attributes := #[] }, { accessFlags := 26, nameIndex := 108, descriptorIndex := 109, attributes := #[] }, { accessFlags := 25, nameIndex := 294, descriptorIndex := 25, attributes := #[] }])
  fields := #[{ name := "U", type := (.object "jdk/internal/misc/Unsafe"), accessFlags := 24, slot := 0, constantValue := 0 }, { name := "BIG_ENDIAN", type := .boolean, accessFlags := 26, slot := 1, constantValue := 0 }, { name := "LOG2_ARRAY_BOOLEAN_INDEX_SCALE", type := .int, accessFlags := 25, slot := 2, constantValue := 0 }, { name := "LOG2_ARRAY_BYTE_INDEX_SCALE", type := .int, accessFlags := 25, slot := 3, constantValue := 0 }, { name := "LOG2_ARRAY_CHAR_INDEX_SCALE", type := .int, accessFlags := 25, slot := 4, constantValue := 0 }, { name := "LOG2_ARRAY_SHORT_INDEX_SCALE", type := .int, accessFlags := 25, slot := 5, constantValue := 0 }, { name := "LOG2_ARRAY_INT_INDEX_SCALE", type := .int, accessFlags := 25, slot := 6, constantValue := 0 }, { name := "LOG2_ARRAY_LONG_INDEX_SCALE", type := .int, accessFlags := 25, slot := 7, constantValue := 0 }, { name := "LOG2_ARRAY_FLOAT_INDEX_SCALE", type := .int, accessFlags := 25, slot := 8, constantValue := 0 }, { name := "LOG2_ARRAY_DOUBLE_INDEX_SCALE", type := .int, accessFlags := 25, slot := 9, constantValue := 0 }, { name := "LOG2_BYTE_BIT_SIZE", type := .int, accessFlags := 26, slot := 10, constantValue := 0 }, { name := "T_BOOLEAN", type := .int, accessFlags := 25, slot := 11, constantValue := 0 }, { name := "T_CHAR", type := .int, accessFlags := 25, slot := 12, constantValue := 0 }, { name := "T_FLOAT", type := .int, accessFlags := 25, slot := 13, constantValue := 0 }, { name := "T_DOUBLE", type := .int, accessFlags := 25, slot := 14, constantValue := 0 }, { name := "T_BYTE", type := .int, accessFlags := 25, slot := 15, constantValue := 0 }, { name := "T_SHORT", type := .int, accessFlags := 25, slot := 16, constantValue := 0 }, { name := "T_INT", type := .int, accessFlags := 25, slot := 17, constantValue := 0 }, { name := "T_LONG", type := .int, accessFlags := 25, slot := 18, constantValue := 0 }, { name := "JLA", type := (.object "jdk/internal/access/JavaLangAccess"), accessFlags := 26, slot := 19, constantValue := 0 }, { name := "SOFT_MAX_ARRAY_LENGTH", type := .int, accessFlags := 25, slot := 20, constantValue := 0 }]
  methods := #[k16m0]
  instanceTypes := #[]
  staticTypes := #[(.object "jdk/internal/misc/Unsafe"), .boolean, .int, .int, .int, .int, .int, .int, .int, .int, .int, .int, .int, .int, .int, .int, .int, .int, .int, (.object "jdk/internal/access/JavaLangAccess"), .int]
  resolved := Array.replicate 378 none
  statics := none }

/-- the primitive byte -/
def k17 : Class := { plain "byte" none with kind := .primitive 'B', accessFlags := 0x411 }
/-- [B -/
def k18 : Class := { plain "[B" (some 0) with kind := .array 17 .byte, interfaces := #[11, 2], accessFlags := 1041 }

/-- the primitive char -/
def k19 : Class := { plain "char" none with kind := .primitive 'C', accessFlags := 0x411 }
/-- [C -/
def k20 : Class := { plain "[C" (some 0) with kind := .array 19 .char, interfaces := #[11, 2], accessFlags := 1041 }

/-- the primitive int -/
def k21 : Class := { plain "int" none with kind := .primitive 'I', accessFlags := 0x411 }
/-- [I -/
def k22 : Class := { plain "[I" (some 0) with kind := .array 21 .int, interfaces := #[11, 2], accessFlags := 1041 }

/-- [Lcom/example/vestry/vestry/io/PaymentForm; -/
def k23 : Class := { plain "[Lcom/example/vestry/vestry/io/PaymentForm;" (some 0) with kind := .array 10 (.object "com/example/vestry/vestry/io/PaymentForm"), interfaces := #[11, 2], accessFlags := 1041 }

def heap : Heap := #[{ cls := 7, slots := #[.long 0, .int 1, .null, .int 0, .null, .int 0, .int 0], vm := .statics 7 },
  { cls := 10, slots := #[.ref 5, .ref 6, .ref 7, .ref 4], vm := .statics 10 },
  { cls := 12, slots := #[.ref 14], vm := .statics 12 },
  { cls := 13, slots := #[.null, .null, .null], vm := .statics 13 },
  { cls := 23, slots := #[.ref 5, .ref 6, .ref 7], vm := .none },
  { cls := 10, slots := #[.null, .int 0, .int 0, .ref 8], vm := .none },
  { cls := 10, slots := #[.null, .int 1, .int 0, .ref 9], vm := .none },
  { cls := 10, slots := #[.null, .int 2, .int 0, .ref 10], vm := .none },
  { cls := 7, slots := #[.ref 11, .int 0, .int 0, .int 0], vm := .none },
  { cls := 7, slots := #[.ref 12, .int 0, .int 0, .int 0], vm := .none },
  { cls := 7, slots := #[.ref 13, .int 0, .int 0, .int 0], vm := .none },
  { cls := 18, slots := #[.int 108, .int 117, .int 109, .int 112, .int 45, .int 115, .int 117, .int 109], vm := .none },
  { cls := 18, slots := #[.int 105, .int 110, .int 115, .int 116, .int 97, .int 108, .int 108, .int 109, .int 101, .int 110, .int 116, .int 115], vm := .none },
  { cls := 18, slots := #[.int 108, .int 105, .int 102, .int 101, .int 45, .int 97, .int 110, .int 110, .int 117, .int 105, .int 116, .int 121], vm := .none },
  { cls := 12, slots := #[.null], vm := .none }]
def classes : Array Class := #[k0, k1, k2, k3, k4, k5, k6, k7, k8, k9, k10, k11, k12, k13, k14, k15, k16, k17, k18, k19, k20, k21, k22, k23]
def interned : List (Array UInt16 × Addr) := []
def slotsUsed : Nat := 75
def theMethod : MethodId := ⟨1, 5⟩
def args0 : Array Value := #[.int 0, .int 0, .int 0, .int 0, .int 0]
def aboutOver (below : List Frame) : State where
  vm := { classes := classes, interned := interned.toArray }
  heap := heap
  slotsUsed := slotsUsed
  threads := #[{ frames := .invoking theMethod args0 :: below }]
def below0 : List Frame := [.native { method := ⟨0, 0⟩, args := #[] }]
def about1 : State := aboutOver below0
def p0 : Program := .bare "" "" ""
def e0 : Env := launch0.env 0 0 0
theorem w_frames : about1.frames = Frame.invoking theMethod args0 :: below0 := rfl
set_option maxRecDepth 65536 in
theorem w_args : argsFit about1.vm theMethod args0 = true := by decide +kernel
set_option maxRecDepth 65536 in
theorem w_heap : heapFits about1 = true := by decide +kernel
set_option maxRecDepth 65536 in
theorem w_runnable : about1.curStatus? = some .runnable := by decide +kernel
set_option maxRecDepth 65536 in
theorem w_alone : about1.alone = true := by decide +kernel
set_option maxRecDepth 65536 in
theorem w_named : about1.methodNamed? x = some theMethod := by decide +kernel
set_option maxRecDepth 65536 in
theorem w_hears : about1.hears theMethod below0 = true := by decide +kernel
set_option maxRecDepth 65536 in
theorem w_ripe : about1.ripe theMethod args0 below0 = true := by decide +kernel
theorem w_running : about1.status = .running := rfl
set_option maxRecDepth 65536 in
theorem w_room : about1.hasRoom e0.platform room_1 = true :=
  launch0.hasRoom_least _ room_1 (by decide +kernel) (by decide +kernel) (by decide +kernel) (by decide +kernel) (by decide +kernel) (by decide +kernel)
theorem allAtoms_all (ts : List Jvm.Cond) (a : Array Jvm.Value) (st : Jvm.State) : (allAtoms ts).before a st = ts.all (fun c => c.before a st) := by
  induction ts with
  | nil => rfl
  | cons c t ih =>
    show (Jvm.Cond.and c (allAtoms t)).before a st = _
    rw [Jvm.Cond.before_and, ih, List.all_cons]
def words1 : List Jvm.Cond := Jvm.Cond.code x code maxLocals ret :: tables_1
/-- a 'code' word, met by the world's own term for the bytes: nothing is compared byte by byte -/
theorem code_word {y : MethodName} {bytes : ByteArray} {mx : Nat} {rt : Option FieldType} {a : Array Value} {s : State} {m : MethodId} {meth : Method} {c : Code} (h1 : s.methodNamed? y = some m) (h2 : s.vm.method? m = some meth) (h3 : meth.code = some c) (h4 : c.code = bytes)
    (h5 : (c.maxLocals == mx && c.exceptionTable.isEmpty && decide (c.maxStack ≤ mostOperands) && decide (meth.sig.returnType = rt) && !meth.locks && decide (parseMethodDescriptor y.desc = some meth.sig)) = true) : (Jvm.Cond.code y bytes mx rt).before a s = true := by
  simp only [Bool.and_eq_true, beq_iff_eq, Bool.not_eq_true', decide_eq_true_eq] at h5
  obtain ⟨⟨⟨⟨⟨g1, g2⟩, g3⟩, g4⟩, g5⟩, g6⟩ := h5
  simp [Cond.before, Cond.holds, Cond.value, h1, h2, h3, h4, g1, g2, g3, g4, g5, g6]
def isCode : Jvm.Cond → Bool
  | .code _ _ _ _ => true
  | _ => false
theorem all_split {L : List Jvm.Cond} {P : Jvm.Cond → Bool} (h1 : L.all (fun c => isCode c || P c) = true) (h2 : ∀ c ∈ L.filter isCode, P c = true) : L.all P = true := by
  refine List.all_eq_true.mpr fun c hc => ?_
  have h := List.all_eq_true.mp h1 c hc
  rcases Bool.eq_false_or_eq_true (isCode c) with hi | hi
  · exact h2 c (List.mem_filter.mpr ⟨hc, hi⟩)
  · simpa [hi] using h
set_option maxRecDepth 65536 in
theorem w_c0 : (Jvm.Cond.code x code maxLocals ret).before args0 about1 = true := code_word (m := ⟨1, 5⟩) (meth := k1m5) (c := k1c5) (by decide +kernel) rfl rfl rfl (by decide +kernel)
set_option maxRecDepth 65536 in
theorem w_c1 : (Jvm.Cond.code ({ cls := "com/example/vestry/vestry/io/PaymentFormNamedPinLaw", name := "base", desc := "(I)Ljava/lang/String;" } : Jvm.MethodName) method_2_code (1 : Nat) (Option.some (Jvm.ClassFile.FieldType.object "java/lang/String"))).before args0 about1 = true := code_word (m := ⟨1, 1⟩) (meth := k1m1) (c := k1c1) (by decide +kernel) rfl rfl rfl (by decide +kernel)
set_option maxRecDepth 65536 in
theorem w_c2 : (Jvm.Cond.code ({ cls := "com/example/vestry/vestry/io/PaymentFormNamedPinLaw", name := "fill", desc := "(Ljava/lang/String;II)[C" } : Jvm.MethodName) method_4_code (4 : Nat) (Option.some (Jvm.ClassFile.FieldType.array Jvm.ClassFile.FieldType.char))).before args0 about1 = true := code_word (m := ⟨1, 3⟩) (meth := k1m3) (c := k1c3) (by decide +kernel) rfl rfl rfl (by decide +kernel)
set_option maxRecDepth 65536 in
theorem w_c3 : (Jvm.Cond.code ({ cls := "java/lang/String", name := "<init>", desc := "([C)V" } : Jvm.MethodName) jdk_42_method_3_code (2 : Nat) (Option.none : Option Jvm.ClassFile.FieldType)).before args0 about1 = true := code_word (m := ⟨7, 1⟩) (meth := k7m1) (c := k7c1) (by decide +kernel) rfl rfl rfl (by decide +kernel)
set_option maxRecDepth 65536 in
theorem w_c4 : (Jvm.Cond.code ({ cls := "java/lang/String", name := "<init>", desc := "([CIILjava/lang/Void;)V" } : Jvm.MethodName) jdk_42_method_149_code (6 : Nat) (Option.none : Option Jvm.ClassFile.FieldType)).before args0 about1 = true := code_word (m := ⟨7, 5⟩) (meth := k7m5) (c := k7c5) (by decide +kernel) rfl rfl rfl (by decide +kernel)
set_option maxRecDepth 65536 in
theorem w_c5 : (Jvm.Cond.code ({ cls := "java/lang/Object", name := "<init>", desc := "()V" } : Jvm.MethodName) object_method_1_code (1 : Nat) (Option.none : Option Jvm.ClassFile.FieldType)).before args0 about1 = true := code_word (m := ⟨0, 0⟩) (meth := k0m0) (c := k0c0) (by decide +kernel) rfl rfl rfl (by decide +kernel)
set_option maxRecDepth 65536 in
theorem w_c6 : (Jvm.Cond.code ({ cls := "com/example/vestry/vestry/io/PaymentFormNamedPinLaw", name := "expected", desc := "(Ljava/lang/String;)Lcom/example/vestry/vestry/io/PaymentForm;" } : Jvm.MethodName) method_5_code (1 : Nat) (Option.some (Jvm.ClassFile.FieldType.object "com/example/vestry/vestry/io/PaymentForm"))).before args0 about1 = true := code_word (m := ⟨1, 4⟩) (meth := k1m4) (c := k1c4) (by decide +kernel) rfl rfl rfl (by decide +kernel)
set_option maxRecDepth 65536 in
theorem w_c7 : (Jvm.Cond.code ({ cls := "java/lang/String", name := "equals", desc := "(Ljava/lang/Object;)Z" } : Jvm.MethodName) jdk_42_method_66_code (3 : Nat) (Option.some Jvm.ClassFile.FieldType.boolean)).before args0 about1 = true := code_word (m := ⟨7, 4⟩) (meth := k7m4) (c := k7c4) (by decide +kernel) rfl rfl rfl (by decide +kernel)
set_option maxRecDepth 65536 in
theorem w_c8 : (Jvm.Cond.code ({ cls := "java/lang/StringLatin1", name := "equals", desc := "([B[B)Z" } : Jvm.MethodName) jdk_43_method_13_code (3 : Nat) (Option.some Jvm.ClassFile.FieldType.boolean)).before args0 about1 = true := code_word (m := ⟨8, 2⟩) (meth := k8m2) (c := k8c2) (by decide +kernel) rfl rfl rfl (by decide +kernel)
set_option maxRecDepth 65536 in
theorem w_c9 : (Jvm.Cond.code ({ cls := "com/example/vestry/vestry/io/PaymentForm", name := "named", desc := "(Ljava/lang/String;)Ljava/util/Optional;" } : Jvm.MethodName) prog_47_method_5_code (5 : Nat) (Option.some (Jvm.ClassFile.FieldType.object "java/util/Optional"))).before args0 about1 = true := code_word (m := ⟨10, 2⟩) (meth := k10m2) (c := k10c2) (by decide +kernel) rfl rfl rfl (by decide +kernel)
set_option maxRecDepth 65536 in
theorem w_c10 : (Jvm.Cond.code ({ cls := "com/example/vestry/vestry/io/PaymentForm", name := "values", desc := "()[Lcom/example/vestry/vestry/io/PaymentForm;" } : Jvm.MethodName) prog_47_method_1_code (0 : Nat) (Option.some (Jvm.ClassFile.FieldType.array (Jvm.ClassFile.FieldType.object "com/example/vestry/vestry/io/PaymentForm")))).before args0 about1 = true := code_word (m := ⟨10, 0⟩) (meth := k10m0) (c := k10c0) (by decide +kernel) rfl rfl rfl (by decide +kernel)
set_option maxRecDepth 65536 in
theorem w_c11 : (Jvm.Cond.code ({ cls := "java/util/Optional", name := "empty", desc := "()Ljava/util/Optional;" } : Jvm.MethodName) jdk_32_method_1_code (1 : Nat) (Option.some (Jvm.ClassFile.FieldType.object "java/util/Optional"))).before args0 about1 = true := code_word (m := ⟨12, 0⟩) (meth := k12m0) (c := k12c0) (by decide +kernel) rfl rfl rfl (by decide +kernel)
set_option maxRecDepth 65536 in
theorem w_c12 : (Jvm.Cond.code ({ cls := "java/util/Optional", name := "isPresent", desc := "()Z" } : Jvm.MethodName) jdk_32_method_6_code (1 : Nat) (Option.some Jvm.ClassFile.FieldType.boolean)).before args0 about1 = true := code_word (m := ⟨12, 4⟩) (meth := k12m4) (c := k12c4) (by decide +kernel) rfl rfl rfl (by decide +kernel)
set_option maxRecDepth 65536 in
theorem w_c13 : (Jvm.Cond.code ({ cls := "java/lang/String", name := "length", desc := "()I" } : Jvm.MethodName) jdk_42_method_54_code (1 : Nat) (Option.some Jvm.ClassFile.FieldType.int)).before args0 about1 = true := code_word (m := ⟨7, 2⟩) (meth := k7m2) (c := k7c2) (by decide +kernel) rfl rfl rfl (by decide +kernel)
set_option maxRecDepth 65536 in
theorem w_c14 : (Jvm.Cond.code ({ cls := "java/lang/String", name := "coder", desc := "()B" } : Jvm.MethodName) jdk_42_method_152_code (1 : Nat) (Option.some Jvm.ClassFile.FieldType.byte)).before args0 about1 = true := code_word (m := ⟨7, 6⟩) (meth := k7m6) (c := k7c6) (by decide +kernel) rfl rfl rfl (by decide +kernel)
set_option maxRecDepth 65536 in
theorem w_c15 : (Jvm.Cond.code ({ cls := "com/example/vestry/vestry/io/PaymentFormNamedPinLaw", name := "at", desc := "(Ljava/lang/String;II)C" } : Jvm.MethodName) method_3_code (3 : Nat) (Option.some Jvm.ClassFile.FieldType.char)).before args0 about1 = true := code_word (m := ⟨1, 2⟩) (meth := k1m2) (c := k1c2) (by decide +kernel) rfl rfl rfl (by decide +kernel)
set_option maxRecDepth 65536 in
theorem w_c16 : (Jvm.Cond.code ({ cls := "java/lang/String", name := "charAt", desc := "(I)C" } : Jvm.MethodName) jdk_42_method_56_code (2 : Nat) (Option.some Jvm.ClassFile.FieldType.char)).before args0 about1 = true := code_word (m := ⟨7, 3⟩) (meth := k7m3) (c := k7c3) (by decide +kernel) rfl rfl rfl (by decide +kernel)
set_option maxRecDepth 65536 in
theorem w_c17 : (Jvm.Cond.code ({ cls := "java/lang/String", name := "isLatin1", desc := "()Z" } : Jvm.MethodName) jdk_42_method_154_code (1 : Nat) (Option.some Jvm.ClassFile.FieldType.boolean)).before args0 about1 = true := code_word (m := ⟨7, 7⟩) (meth := k7m7) (c := k7c7) (by decide +kernel) rfl rfl rfl (by decide +kernel)
set_option maxRecDepth 65536 in
theorem w_c18 : (Jvm.Cond.code ({ cls := "java/lang/StringLatin1", name := "charAt", desc := "([BI)C" } : Jvm.MethodName) jdk_43_method_2_code (2 : Nat) (Option.some Jvm.ClassFile.FieldType.char)).before args0 about1 = true := code_word (m := ⟨8, 1⟩) (meth := k8m1) (c := k8c1) (by decide +kernel) rfl rfl rfl (by decide +kernel)
set_option maxRecDepth 65536 in
theorem w_c19 : (Jvm.Cond.code ({ cls := "java/lang/String", name := "checkIndex", desc := "(II)V" } : Jvm.MethodName) jdk_42_method_155_code (2 : Nat) (Option.none : Option Jvm.ClassFile.FieldType)).before args0 about1 = true := code_word (m := ⟨7, 8⟩) (meth := k7m8) (c := k7c8) (by decide +kernel) rfl rfl rfl (by decide +kernel)
set_option maxRecDepth 65536 in
theorem w_c20 : (Jvm.Cond.code ({ cls := "jdk/internal/util/Preconditions", name := "checkIndex", desc := "(IILjava/util/function/BiFunction;)I" } : Jvm.MethodName) jdk_41_method_11_code (3 : Nat) (Option.some Jvm.ClassFile.FieldType.int)).before args0 about1 = true := code_word (m := ⟨13, 1⟩) (meth := k13m1) (c := k13c1) (by decide +kernel) rfl rfl rfl (by decide +kernel)
set_option maxRecDepth 65536 in
theorem w_c21 : (Jvm.Cond.code ({ cls := "java/lang/StringUTF16", name := "compress", desc := "([CII)[B" } : Jvm.MethodName) jdk_52_method_16_code (6 : Nat) (Option.some (Jvm.ClassFile.FieldType.array Jvm.ClassFile.FieldType.byte))).before args0 about1 = true := code_word (m := ⟨14, 2⟩) (meth := k14m2) (c := k14c2) (by decide +kernel) rfl rfl rfl (by decide +kernel)
set_option maxRecDepth 65536 in
theorem w_c22 : (Jvm.Cond.code ({ cls := "java/lang/StringUTF16", name := "compress", desc := "([CI[BII)I" } : Jvm.MethodName) jdk_52_method_21_code (7 : Nat) (Option.some Jvm.ClassFile.FieldType.int)).before args0 about1 = true := code_word (m := ⟨14, 3⟩) (meth := k14m3) (c := k14c3) (by decide +kernel) rfl rfl rfl (by decide +kernel)
set_option maxRecDepth 65536 in
theorem w_c23 : (Jvm.Cond.code ({ cls := "java/lang/StringUTF16", name := "coderFromArrayLen", desc := "([BI)B" } : Jvm.MethodName) jdk_52_method_15_code (2 : Nat) (Option.some Jvm.ClassFile.FieldType.byte)).before args0 about1 = true := code_word (m := ⟨14, 1⟩) (meth := k14m1) (c := k14c1) (by decide +kernel) rfl rfl rfl (by decide +kernel)
set_option maxRecDepth 65536 in
theorem w_c24 : (Jvm.Cond.code ({ cls := "java/util/Optional", name := "of", desc := "(Ljava/lang/Object;)Ljava/util/Optional;" } : Jvm.MethodName) jdk_32_method_3_code (1 : Nat) (Option.some (Jvm.ClassFile.FieldType.object "java/util/Optional"))).before args0 about1 = true := code_word (m := ⟨12, 2⟩) (meth := k12m2) (c := k12c2) (by decide +kernel) rfl rfl rfl (by decide +kernel)
set_option maxRecDepth 65536 in
theorem w_c25 : (Jvm.Cond.code ({ cls := "java/util/Objects", name := "requireNonNull", desc := "(Ljava/lang/Object;)Ljava/lang/Object;" } : Jvm.MethodName) jdk_31_method_10_code (1 : Nat) (Option.some (Jvm.ClassFile.FieldType.object "java/lang/Object"))).before args0 about1 = true := code_word (m := ⟨15, 1⟩) (meth := k15m1) (c := k15c1) (by decide +kernel) rfl rfl rfl (by decide +kernel)
set_option maxRecDepth 65536 in
theorem w_c26 : (Jvm.Cond.code ({ cls := "java/util/Optional", name := "<init>", desc := "(Ljava/lang/Object;)V" } : Jvm.MethodName) jdk_32_method_2_code (2 : Nat) (Option.none : Option Jvm.ClassFile.FieldType)).before args0 about1 = true := code_word (m := ⟨12, 1⟩) (meth := k12m1) (c := k12c1) (by decide +kernel) rfl rfl rfl (by decide +kernel)
set_option maxRecDepth 65536 in
theorem w_c27 : (Jvm.Cond.code ({ cls := "java/util/Optional", name := "get", desc := "()Ljava/lang/Object;" } : Jvm.MethodName) jdk_32_method_5_code (1 : Nat) (Option.some (Jvm.ClassFile.FieldType.object "java/lang/Object"))).before args0 about1 = true := code_word (m := ⟨12, 3⟩) (meth := k12m3) (c := k12c3) (by decide +kernel) rfl rfl rfl (by decide +kernel)
set_option maxRecDepth 65536 in
theorem w_c28 : (Jvm.Cond.code ({ cls := "com/example/vestry/vestry/io/PaymentForm", name := "text", desc := "()Ljava/lang/String;" } : Jvm.MethodName) prog_47_method_4_code (1 : Nat) (Option.some (Jvm.ClassFile.FieldType.object "java/lang/String"))).before args0 about1 = true := code_word (m := ⟨10, 1⟩) (meth := k10m1) (c := k10c1) (by decide +kernel) rfl rfl rfl (by decide +kernel)
def codes1 : List Jvm.Cond := [Jvm.Cond.code x code maxLocals ret, Jvm.Cond.code ({ cls := "com/example/vestry/vestry/io/PaymentFormNamedPinLaw", name := "base", desc := "(I)Ljava/lang/String;" } : Jvm.MethodName) method_2_code (1 : Nat) (Option.some (Jvm.ClassFile.FieldType.object "java/lang/String")), Jvm.Cond.code ({ cls := "com/example/vestry/vestry/io/PaymentFormNamedPinLaw", name := "fill", desc := "(Ljava/lang/String;II)[C" } : Jvm.MethodName) method_4_code (4 : Nat) (Option.some (Jvm.ClassFile.FieldType.array Jvm.ClassFile.FieldType.char)), Jvm.Cond.code ({ cls := "java/lang/String", name := "<init>", desc := "([C)V" } : Jvm.MethodName) jdk_42_method_3_code (2 : Nat) (Option.none : Option Jvm.ClassFile.FieldType), Jvm.Cond.code ({ cls := "java/lang/String", name := "<init>", desc := "([CIILjava/lang/Void;)V" } : Jvm.MethodName) jdk_42_method_149_code (6 : Nat) (Option.none : Option Jvm.ClassFile.FieldType), Jvm.Cond.code ({ cls := "java/lang/Object", name := "<init>", desc := "()V" } : Jvm.MethodName) object_method_1_code (1 : Nat) (Option.none : Option Jvm.ClassFile.FieldType), Jvm.Cond.code ({ cls := "com/example/vestry/vestry/io/PaymentFormNamedPinLaw", name := "expected", desc := "(Ljava/lang/String;)Lcom/example/vestry/vestry/io/PaymentForm;" } : Jvm.MethodName) method_5_code (1 : Nat) (Option.some (Jvm.ClassFile.FieldType.object "com/example/vestry/vestry/io/PaymentForm")), Jvm.Cond.code ({ cls := "java/lang/String", name := "equals", desc := "(Ljava/lang/Object;)Z" } : Jvm.MethodName) jdk_42_method_66_code (3 : Nat) (Option.some Jvm.ClassFile.FieldType.boolean), Jvm.Cond.code ({ cls := "java/lang/StringLatin1", name := "equals", desc := "([B[B)Z" } : Jvm.MethodName) jdk_43_method_13_code (3 : Nat) (Option.some Jvm.ClassFile.FieldType.boolean), Jvm.Cond.code ({ cls := "com/example/vestry/vestry/io/PaymentForm", name := "named", desc := "(Ljava/lang/String;)Ljava/util/Optional;" } : Jvm.MethodName) prog_47_method_5_code (5 : Nat) (Option.some (Jvm.ClassFile.FieldType.object "java/util/Optional")), Jvm.Cond.code ({ cls := "com/example/vestry/vestry/io/PaymentForm", name := "values", desc := "()[Lcom/example/vestry/vestry/io/PaymentForm;" } : Jvm.MethodName) prog_47_method_1_code (0 : Nat) (Option.some (Jvm.ClassFile.FieldType.array (Jvm.ClassFile.FieldType.object "com/example/vestry/vestry/io/PaymentForm"))), Jvm.Cond.code ({ cls := "java/util/Optional", name := "empty", desc := "()Ljava/util/Optional;" } : Jvm.MethodName) jdk_32_method_1_code (1 : Nat) (Option.some (Jvm.ClassFile.FieldType.object "java/util/Optional")), Jvm.Cond.code ({ cls := "java/util/Optional", name := "isPresent", desc := "()Z" } : Jvm.MethodName) jdk_32_method_6_code (1 : Nat) (Option.some Jvm.ClassFile.FieldType.boolean), Jvm.Cond.code ({ cls := "java/lang/String", name := "length", desc := "()I" } : Jvm.MethodName) jdk_42_method_54_code (1 : Nat) (Option.some Jvm.ClassFile.FieldType.int), Jvm.Cond.code ({ cls := "java/lang/String", name := "coder", desc := "()B" } : Jvm.MethodName) jdk_42_method_152_code (1 : Nat) (Option.some Jvm.ClassFile.FieldType.byte), Jvm.Cond.code ({ cls := "com/example/vestry/vestry/io/PaymentFormNamedPinLaw", name := "at", desc := "(Ljava/lang/String;II)C" } : Jvm.MethodName) method_3_code (3 : Nat) (Option.some Jvm.ClassFile.FieldType.char), Jvm.Cond.code ({ cls := "java/lang/String", name := "charAt", desc := "(I)C" } : Jvm.MethodName) jdk_42_method_56_code (2 : Nat) (Option.some Jvm.ClassFile.FieldType.char), Jvm.Cond.code ({ cls := "java/lang/String", name := "isLatin1", desc := "()Z" } : Jvm.MethodName) jdk_42_method_154_code (1 : Nat) (Option.some Jvm.ClassFile.FieldType.boolean), Jvm.Cond.code ({ cls := "java/lang/StringLatin1", name := "charAt", desc := "([BI)C" } : Jvm.MethodName) jdk_43_method_2_code (2 : Nat) (Option.some Jvm.ClassFile.FieldType.char), Jvm.Cond.code ({ cls := "java/lang/String", name := "checkIndex", desc := "(II)V" } : Jvm.MethodName) jdk_42_method_155_code (2 : Nat) (Option.none : Option Jvm.ClassFile.FieldType), Jvm.Cond.code ({ cls := "jdk/internal/util/Preconditions", name := "checkIndex", desc := "(IILjava/util/function/BiFunction;)I" } : Jvm.MethodName) jdk_41_method_11_code (3 : Nat) (Option.some Jvm.ClassFile.FieldType.int), Jvm.Cond.code ({ cls := "java/lang/StringUTF16", name := "compress", desc := "([CII)[B" } : Jvm.MethodName) jdk_52_method_16_code (6 : Nat) (Option.some (Jvm.ClassFile.FieldType.array Jvm.ClassFile.FieldType.byte)), Jvm.Cond.code ({ cls := "java/lang/StringUTF16", name := "compress", desc := "([CI[BII)I" } : Jvm.MethodName) jdk_52_method_21_code (7 : Nat) (Option.some Jvm.ClassFile.FieldType.int), Jvm.Cond.code ({ cls := "java/lang/StringUTF16", name := "coderFromArrayLen", desc := "([BI)B" } : Jvm.MethodName) jdk_52_method_15_code (2 : Nat) (Option.some Jvm.ClassFile.FieldType.byte), Jvm.Cond.code ({ cls := "java/util/Optional", name := "of", desc := "(Ljava/lang/Object;)Ljava/util/Optional;" } : Jvm.MethodName) jdk_32_method_3_code (1 : Nat) (Option.some (Jvm.ClassFile.FieldType.object "java/util/Optional")), Jvm.Cond.code ({ cls := "java/util/Objects", name := "requireNonNull", desc := "(Ljava/lang/Object;)Ljava/lang/Object;" } : Jvm.MethodName) jdk_31_method_10_code (1 : Nat) (Option.some (Jvm.ClassFile.FieldType.object "java/lang/Object")), Jvm.Cond.code ({ cls := "java/util/Optional", name := "<init>", desc := "(Ljava/lang/Object;)V" } : Jvm.MethodName) jdk_32_method_2_code (2 : Nat) (Option.none : Option Jvm.ClassFile.FieldType), Jvm.Cond.code ({ cls := "java/util/Optional", name := "get", desc := "()Ljava/lang/Object;" } : Jvm.MethodName) jdk_32_method_5_code (1 : Nat) (Option.some (Jvm.ClassFile.FieldType.object "java/lang/Object")), Jvm.Cond.code ({ cls := "com/example/vestry/vestry/io/PaymentForm", name := "text", desc := "()Ljava/lang/String;" } : Jvm.MethodName) prog_47_method_4_code (1 : Nat) (Option.some (Jvm.ClassFile.FieldType.object "java/lang/String"))]
set_option maxRecDepth 65536 in
theorem codes_eq : words1.filter isCode = codes1 := rfl
theorem w_codes : ∀ c ∈ words1.filter isCode, c.before args0 about1 = true := by
  rw [codes_eq]
  intro c hc
  simp only [codes1, List.mem_cons, List.not_mem_nil, or_false] at hc
  rcases hc with rfl | rfl | rfl | rfl | rfl | rfl | rfl | rfl | rfl | rfl | rfl | rfl | rfl | rfl | rfl | rfl | rfl | rfl | rfl | rfl | rfl | rfl | rfl | rfl | rfl | rfl | rfl | rfl | rfl
  · exact w_c0
  · exact w_c1
  · exact w_c2
  · exact w_c3
  · exact w_c4
  · exact w_c5
  · exact w_c6
  · exact w_c7
  · exact w_c8
  · exact w_c9
  · exact w_c10
  · exact w_c11
  · exact w_c12
  · exact w_c13
  · exact w_c14
  · exact w_c15
  · exact w_c16
  · exact w_c17
  · exact w_c18
  · exact w_c19
  · exact w_c20
  · exact w_c21
  · exact w_c22
  · exact w_c23
  · exact w_c24
  · exact w_c25
  · exact w_c26
  · exact w_c27
  · exact w_c28
set_option maxRecDepth 65536 in
theorem w_t1 : (words1.take 24).all (fun c => isCode c || c.before args0 about1) = true := by decide +kernel
set_option maxRecDepth 65536 in
theorem w_t2 : ((words1.drop 24).take 24).all (fun c => isCode c || c.before args0 about1) = true := by decide +kernel
set_option maxRecDepth 65536 in
theorem w_t3 : (((words1.drop 24).drop 24).take 24).all (fun c => isCode c || c.before args0 about1) = true := by decide +kernel
set_option maxRecDepth 65536 in
theorem w_t4 : ((((words1.drop 24).drop 24).drop 24).take 24).all (fun c => isCode c || c.before args0 about1) = true := by decide +kernel
set_option maxRecDepth 65536 in
theorem w_t5 : (((((words1.drop 24).drop 24).drop 24).drop 24).take 24).all (fun c => isCode c || c.before args0 about1) = true := by decide +kernel
set_option maxRecDepth 65536 in
theorem w_t6 : ((((((words1.drop 24).drop 24).drop 24).drop 24).drop 24).take 24).all (fun c => isCode c || c.before args0 about1) = true := by decide +kernel
set_option maxRecDepth 65536 in
theorem w_t7 : ((((((words1.drop 24).drop 24).drop 24).drop 24).drop 24).drop 24).all (fun c => isCode c || c.before args0 about1) = true := by decide +kernel
theorem w_tables : (allAtoms (Jvm.Cond.code x code maxLocals ret :: tables_1)).before args0 about1 = true := by
  rw [allAtoms_all]
  show words1.all (fun c => c.before args0 about1) = true
  refine all_split ?_ w_codes
  rw [← List.take_append_drop 24 words1, List.all_append, w_t1, ← List.take_append_drop 24 (words1.drop 24), List.all_append, w_t2, ← List.take_append_drop 24 ((words1.drop 24).drop 24), List.all_append, w_t3, ← List.take_append_drop 24 (((words1.drop 24).drop 24).drop 24), List.all_append, w_t4, ← List.take_append_drop 24 ((((words1.drop 24).drop 24).drop 24).drop 24), List.all_append, w_t5, ← List.take_append_drop 24 (((((words1.drop 24).drop 24).drop 24).drop 24).drop 24), List.all_append, w_t6, w_t7]
  rfl
set_option maxRecDepth 65536 in
theorem w_rest : rest_1_c.before args0 about1 = true := by decide +kernel
set_option maxRecDepth 65536 in
theorem w_case : (Jvm.Cond.and given_1 narrow_1).before args0 about1 = true := by decide +kernel
set_option maxRecDepth 65536 in
theorem w_consts : constsHeld consts_1 about1 := Jvm.Lit.constsHeldB_iff.mp (by decide +kernel)
theorem w_applies : (headSpec (Jvm.Cond.code x code maxLocals ret :: tables_1) room_1).applies x e0.platform about1 = true :=
  (Spec.applies_iff w_frames).mpr ⟨w_running, w_runnable, w_alone, w_named, w_hears, w_ripe, w_room, w_tables⟩
theorem atStart : AtStart classFile x code maxLocals ret World_1 tables_1 room_1 Calls_1 rest_1 Pre_1 launch0 p0 e0 about1 theMethod args0 below0 :=
  ⟨lists_1, trivial, launch0.admits_env _ _ _, launch0.least_env, fairChoices_fair.cas, fairChoices_fair.clock, w_frames, w_args, w_heap, w_applies, ⟨w_consts, trivial⟩, w_rest, w_case⟩
end start1
theorem witness_1 : WitnessClaimed_1 := ⟨start1.p0, start1.e0, start1.about1, start1.theMethod, start1.args0, start1.below0, start1.atStart⟩
end Jvm.Pilot.@@N@@
