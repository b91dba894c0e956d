import JvmDerived
import JvmDerived.Pilot.@@N@@Statement
import JvmDerived.Pilot.@@N@@Code
set_option linter.unusedVariables false
set_option linter.unusedSimpArgs false
/- laws to paste: Road.backV (cut by pick.py; bodies as the Statement names them) -/
namespace Jvm.Pilot.@@N@@
namespace StrChars
open Jvm Sem ClassFile Op Lib Jvm.Stand Jvm.Free.XT Jvm.Free.ALB Jvm.Free.JM Jvm.Free
open Jvm.Lib.Cold (StaticIs)
/-- a char array whose places are chars -/
def Ch (a : Addr) (A : Cell) (U : State) : Prop := Arr .char a A U ∧ Typed .char A
theorem Ch.mv {a : Addr} {A : Cell} {U U' : State} (h : Ch a A U) (hal : U.vm.Alike U'.vm) (hh : U'.heap = U.heap) : Ch a A U' := ⟨h.1.mv hal hh, h.2⟩
theorem Ch.keep {a : Addr} {A : Cell} {U U' : State} (h : Ch a A U) (hal : U.vm.Alike U'.vm) (hk : U'.heap[a]? = some A) : Ch a A U' := ⟨h.1.keep hal hk, h.2⟩
/-- what place i of a char[]'s cell holds -/
def cv (A : Cell) (i : Nat) : Int32 := match A.slots[i]? with | some (.int x) => x | _ => 0
theorem Ch.get {a : Addr} {A : Cell} {U : State} (h : Ch a A U) {i : Nat} (hi : i < A.slots.size) : A.slots[i]? = some (.int (cv A i)) := by
  have e := Array.getElem?_eq_getElem hi
  have f := h.2 i _ e
  unfold cv; rw [e]
  generalize A.slots[i] = v at f
  cases v <;> simp [fits] at f ⊢
/-- the byte that i2b leaves of a char -/
def lo8 (x : Int32) : Int32 := x.toInt8.toInt32
theorem fits_lo8 (y : Int32) : fits .byte (.int (lo8 y)) = true := by
  have h1 := y.toInt8.le_toInt
  have h2 := y.toInt8.toInt_lt
  simp only [lo8, fits, Bool.and_eq_true, decide_eq_true_eq, Int32.le_iff_toInt_le, Int8.toInt_toInt32, show (-128 : Int32).toInt = -128 from by decide, show (127 : Int32).toInt = 127 from by decide]
  omega
/-- A' is A but that each place j of lo .. hi - 1 holds f j -/
def Laid (A A' : Cell) (lo hi : Nat) (f : Nat → Value) : Prop := A'.cls = A.cls ∧ A'.vm = A.vm ∧ A'.slots.size = A.slots.size ∧ ∀ i, A'.slots[i]? = if lo ≤ i ∧ i < hi then some (f i) else A.slots[i]?
theorem Laid.zero (A : Cell) (lo : Nat) (f : Nat → Value) : Laid A A lo (lo + 0) f := ⟨rfl, rfl, rfl, fun i => by rw [if_neg (by omega)]⟩
theorem Laid.step {A Ak : Cell} {lo k : Nat} {f : Nat → Value} {v : Value} (h : Laid A Ak lo k f) (hlo : lo ≤ k) (hk : k < Ak.slots.size) (hv : v = f k) : Laid A (Ak.setSlot k v) lo (k + 1) f := by
  refine ⟨h.1, h.2.1, by simpa [Cell.setSlot] using h.2.2.1, fun i => ?_⟩
  by_cases e : k = i
  · subst e; rw [Cell.slots_setSlot_self v hk, if_pos (by omega), hv]
  · rw [Cell.slots_setSlot_ne v e, h.2.2.2 i]
    by_cases q : lo ≤ i ∧ i < k
    · rw [if_pos q, if_pos (by omega)]
    · rw [if_neg q, if_neg (by omega)]
def U16 : String := "java/lang/StringUTF16"
namespace Cmp5
def yN : MethodName := ⟨"java/lang/StringUTF16", "compress", "([CI[BII)I"⟩
abbrev yB : ByteArray := jdk_52_method_21_code
theorem d0 : decode yB 0 = .ok (.iconst 0, 1) := by decide +kernel
theorem d1 : decode yB 1 = .ok (.istore 5, 2) := by decide +kernel
theorem d3 : decode yB 3 = .ok (.iload 5, 2) := by decide +kernel
theorem d5 : decode yB 5 = .ok (.iload 4, 2) := by decide +kernel
theorem d7 : decode yB 7 = .ok (.if_icmp (.ge) 37, 3) := by decide +kernel
theorem d10 : decode yB 10 = .ok (.aload_n 0, 1) := by decide +kernel
theorem d11 : decode yB 11 = .ok (.iload_n 1, 1) := by decide +kernel
theorem d12 : decode yB 12 = .ok (.caload, 1) := by decide +kernel
theorem d13 : decode yB 13 = .ok (.istore 6, 2) := by decide +kernel
theorem d15 : decode yB 15 = .ok (.iload 6, 2) := by decide +kernel
theorem d17 : decode yB 17 = .ok (.sipush 255, 3) := by decide +kernel
theorem d20 : decode yB 20 = .ok (.if_icmp (.le) 6, 3) := by decide +kernel
theorem d26 : decode yB 26 = .ok (.aload_n 2, 1) := by decide +kernel
theorem d27 : decode yB 27 = .ok (.iload_n 3, 1) := by decide +kernel
theorem d28 : decode yB 28 = .ok (.iload 6, 2) := by decide +kernel
theorem d30 : decode yB 30 = .ok (.i2b, 1) := by decide +kernel
theorem d31 : decode yB 31 = .ok (.bastore, 1) := by decide +kernel
theorem d32 : decode yB 32 = .ok (.iinc 1 1, 3) := by decide +kernel
theorem d35 : decode yB 35 = .ok (.iinc 3 1, 3) := by decide +kernel
theorem d38 : decode yB 38 = .ok (.iinc 5 1, 3) := by decide +kernel
theorem d41 : decode yB 41 = .ok (.goto (-38), 3) := by decide +kernel
theorem d44 : decode yB 44 = .ok (.iload 4, 2) := by decide +kernel
theorem d46 : decode yB 46 = .ok (.ireturn, 1) := by decide +kernel
def site : List Cond := []
def tab : Cond := tabOf yN yB 7 (some .int) site
def P (b : Addr) (A : Cell) (d : Addr) (B : Cell) (o q len : Nat) (args : Array Value) (s : State) : Prop := args = #[.ref b, .int (Int32.ofNat o), .ref d, .int (Int32.ofNat q), .int (Int32.ofNat len)] ∧ Ch b A s ∧ Arr .byte d B s ∧ b ≠ d ∧ o + len ≤ A.slots.size ∧ q + len ≤ B.slots.size ∧ ∀ i, i < len → ¬ 255 < cv A (o + i)
def E (b : Addr) (A : Cell) (d : Addr) (B : Cell) (o q len : Nat) (r : Option Value) (s u : State) : Prop := r = some (.int (Int32.ofNat len)) ∧ ∃ B', Put d B' s u ∧ Laid B B' q (q + len) (fun j => Value.int (lo8 (cv A (o + (j - q)))))
/-- no char of the range above 255: len; the places written hold each char's low byte -/
theorem law (l : Launch) (b : Addr) (A : Cell) (d : Addr) (B : Cell) (o q len : Nat) : Law l yN 5 5 0 0 yB 7 (some .int) site (P b A d B o q len) (E b A d B o q len) (copyLocs d q len) 0 0 := by
  refine Law.of_walk (plainFor_of_name (by decide +kernel)) (by decide +kernel) (by decide +kernel) (by decide) (fun _ _ h => by rw [h.1]; rfl) (fun _ U U' hal hh h => ⟨h.1, h.2.1.mv hal hh, h.2.2.1.mv hal hh, h.2.2.2⟩) (fun r U U' V V' h1 hal h2 h => ⟨h.1, h.2.elim fun B' q => ⟨B', q.1.mv h1 h2, q.2⟩⟩) ?_
  intro p e s m args below meth c s₁ X0 hexec hbytes hml hret hlk hnm hown hh0 W hP
  obtain ⟨rfl, hA, hB, hne, l1, l2, hp⟩ := hP
  have c1 : Steps p.tables e below (s₁.setTop (entryFrame m #[.ref b, .int (Int32.ofNat o), .ref d, .int (Int32.ofNat q), .int (Int32.ofNat len)] 7)) (s₁.setTop (mkF m 0 #[.val (.ref b), .val (.int (Int32.ofNat o)), .val (.ref d), .val (.int (Int32.ofNat q)), .val (.int (Int32.ofNat len)), .unset, .unset] [])) := entry rfl
  have hA0 := hA.1.mv X0.warmed.alike hh0
  have hB0 := hB.mv X0.warmed.alike hh0
  have a31 := hA.1.2.2.2
  have c2 : Steps p.tables e below (s₁.setTop (entryFrame m #[.ref b, .int (Int32.ofNat o), .ref d, .int (Int32.ofNat q), .int (Int32.ofNat len)] 7)) (s₁.setTop (mkF m 3 #[.val (.ref b), .val (.int (Int32.ofNat o)), .val (.ref d), .val (.int (Int32.ofNat q)), .val (.int (Int32.ofNat len)), .val (.int 0), .unset] [])) := c1.trans (by
    refine iconstV X0.here hexec rfl 0 (hb hbytes d0) (by decide) ?_
    refine XS.istore X0.here hexec rfl (hb hbytes d1) rfl rfl ?_
    exact Steps.refl _)
  have loop : ∀ (r i : Nat), i + r = len → ∀ (z : Slot), (z = .unset ∨ ∃ w, z = .val w ∧ w.category = 1) → ∀ (Tl : State) (Bk : Cell), Stand p l e { frames := 0, locals := 0, cells := 0, slots := 0 } s m #[.ref b, .int (Int32.ofNat o), .ref d, .int (Int32.ofNat q), .int (Int32.ofNat len)] below meth c Tl ([] ++ copyLocs d q i) 0 0 → Put d Bk s₁ Tl → Laid B Bk q (q + i) (fun j => Value.int (lo8 (cv A (o + (j - q))))) →
      Steps p.tables e below (s₁.setTop (entryFrame m #[.ref b, .int (Int32.ofNat o), .ref d, .int (Int32.ofNat q), .int (Int32.ofNat len)] 7)) (Tl.setTop (mkF m 3 #[.val (.ref b), .val (.int (Int32.ofNat (o + i))), .val (.ref d), .val (.int (Int32.ofNat (q + i))), .val (.int (Int32.ofNat len)), .val (.int (Int32.ofNat i)), z] [])) → ∃ (T' : State) (B' : Cell) (z' : Slot), Stand p l e { frames := 0, locals := 0, cells := 0, slots := 0 } s m #[.ref b, .int (Int32.ofNat o), .ref d, .int (Int32.ofNat q), .int (Int32.ofNat len)] below meth c T' ([] ++ copyLocs d q len) 0 0 ∧ Put d B' s₁ T' ∧ Laid B B' q (q + len) (fun j => Value.int (lo8 (cv A (o + (j - q))))) ∧
      Steps p.tables e below (s₁.setTop (entryFrame m #[.ref b, .int (Int32.ofNat o), .ref d, .int (Int32.ofNat q), .int (Int32.ofNat len)] 7)) (T'.setTop (mkF m 3 #[.val (.ref b), .val (.int (Int32.ofNat (o + len))), .val (.ref d), .val (.int (Int32.ofNat (q + len))), .val (.int (Int32.ofNat len)), .val (.int (Int32.ofNat len)), z'] [])) := by
    intro r
    induction r with
    | zero =>
      intro i hi z hz Tl Bk Xl pl fl cl
      have hil : i = len := by omega
      rw [hil] at Xl fl cl
      exact ⟨Tl, Bk, z, Xl, pl, fl, cl⟩
    | succ r ih =>
      intro i hi z hz Tl Bk Xl pl fl cl
      have all := X0.warmed.alike.symm.trans Xl.warmed.alike
      have hAl := hA0.keep all (pl.other hne hA0.1)
      have hBk := hB0.like all pl.1 fl.1 fl.2.1 fl.2.2.1
      have hlt : q + i < Bk.slots.size := by rw [fl.2.2.1]; omega
      have c3 : Steps p.tables e below (s₁.setTop (entryFrame m #[.ref b, .int (Int32.ofNat o), .ref d, .int (Int32.ofNat q), .int (Int32.ofNat len)] 7)) (Tl.setTop (mkF m 12 #[.val (.ref b), .val (.int (Int32.ofNat (o + i))), .val (.ref d), .val (.int (Int32.ofNat (q + i))), .val (.int (Int32.ofNat len)), .val (.int (Int32.ofNat i)), z] [.int (Int32.ofNat (o + i)), .ref b])) := cl.trans (by
        refine XS.iload Xl.here hexec rfl (hb hbytes d3) rfl ?_
        refine XS.iload Xl.here hexec rfl (hb hbytes d5) rfl ?_
        refine XS.icmpNo Xl.here hexec rfl (hb hbytes d7) rfl (ii_ge_f (lt32 (by omega) (by omega))) ?_
        refine XS.aloadN Xl.here hexec rfl (hb hbytes d10) rfl rfl ?_
        refine XS.iloadN Xl.here hexec rfl (hb hbytes d11) rfl ?_
        exact Steps.refl _)
      have c4 : Steps p.tables e below (s₁.setTop (entryFrame m #[.ref b, .int (Int32.ofNat o), .ref d, .int (Int32.ofNat q), .int (Int32.ofNat len)] 7)) (Tl.setTop (mkF m 13 #[.val (.ref b), .val (.int (Int32.ofNat (o + i))), .val (.ref d), .val (.int (Int32.ofNat (q + i))), .val (.int (Int32.ofNat len)), .val (.int (Int32.ofNat i)), z] [.int (cv A (o + i))])) := c3.trans (by
        refine Xl.aget hexec hAl rfl (hA.get (i := o + i) (by omega)) rfl rfl (hb hbytes d12) ?_
        exact Steps.refl _)
      have c5 : Steps p.tables e below (s₁.setTop (entryFrame m #[.ref b, .int (Int32.ofNat o), .ref d, .int (Int32.ofNat q), .int (Int32.ofNat len)] 7)) (Tl.setTop (mkF m 15 #[.val (.ref b), .val (.int (Int32.ofNat (o + i))), .val (.ref d), .val (.int (Int32.ofNat (q + i))), .val (.int (Int32.ofNat len)), .val (.int (Int32.ofNat i)), .val (.int (cv A (o + i)))] [])) := c4.trans (by
        refine XS.istoreS Xl.here hexec rfl (hb hbytes d13) rfl rfl hz ?_
        exact Steps.refl _)
      have c6 : Steps p.tables e below (s₁.setTop (entryFrame m #[.ref b, .int (Int32.ofNat o), .ref d, .int (Int32.ofNat q), .int (Int32.ofNat len)] 7)) (Tl.setTop (mkF m 31 #[.val (.ref b), .val (.int (Int32.ofNat (o + i))), .val (.ref d), .val (.int (Int32.ofNat (q + i))), .val (.int (Int32.ofNat len)), .val (.int (Int32.ofNat i)), .val (.int (cv A (o + i)))] [.int (lo8 (cv A (o + i))), .int (Int32.ofNat (q + i)), .ref d])) := c5.trans (by
        refine XS.iload Xl.here hexec rfl (hb hbytes d15) rfl ?_
        refine sipushV Xl.here hexec rfl 255 (hb hbytes d17) (by decide) ?_
        refine XS.icmpYes Xl.here hexec rfl (pc0 := 20) rfl (hb hbytes d20) rfl (ii_le_t (hp i (by omega))) (by decide) rfl ?_
        refine XS.aloadN Xl.here hexec rfl (hb hbytes d26) rfl rfl ?_
        refine XS.iloadN Xl.here hexec rfl (hb hbytes d27) rfl ?_
        refine XS.iload Xl.here hexec rfl (hb hbytes d28) rfl ?_
        refine i2b Xl.here hexec rfl (hb hbytes d30) rfl ?_
        exact Steps.refl _)
      obtain ⟨T7, X7, p7, st7⟩ := Xl.aput hexec hBk rfl hlt rfl (fits_lo8 (cv A (o + i))) (g := (mkF m 31 #[.val (.ref b), .val (.int (Int32.ofNat (o + i))), .val (.ref d), .val (.int (Int32.ofNat (q + i))), .val (.int (Int32.ofNat len)), .val (.int (Int32.ofNat i)), .val (.int (cv A (o + i)))] [.int (lo8 (cv A (o + i))), .int (Int32.ofNat (q + i)), .ref d])) rfl (rest := []) rfl (hb hbytes d31)
      have c8 : Steps p.tables e below (s₁.setTop (entryFrame m #[.ref b, .int (Int32.ofNat o), .ref d, .int (Int32.ofNat q), .int (Int32.ofNat len)] 7)) (T7.setTop (mkF m 32 #[.val (.ref b), .val (.int (Int32.ofNat (o + i))), .val (.ref d), .val (.int (Int32.ofNat (q + i))), .val (.int (Int32.ofNat len)), .val (.int (Int32.ofNat i)), .val (.int (cv A (o + i)))] [])) := c6.trans (st7 _ (Steps.refl _))
      have c9 : Steps p.tables e below (s₁.setTop (entryFrame m #[.ref b, .int (Int32.ofNat o), .ref d, .int (Int32.ofNat q), .int (Int32.ofNat len)] 7)) (T7.setTop (mkF m 3 #[.val (.ref b), .val (.int (Int32.ofNat (o + i) + 1)), .val (.ref d), .val (.int (Int32.ofNat (q + i) + 1)), .val (.int (Int32.ofNat len)), .val (.int (Int32.ofNat i + 1)), .val (.int (cv A (o + i)))] [])) := c8.trans (by
        refine iincV X7.here hexec rfl 1 (hb hbytes d32) (by decide) rfl rfl ?_
        refine iincV X7.here hexec rfl 1 (hb hbytes d35) (by decide) rfl rfl ?_
        refine iincV X7.here hexec rfl 1 (hb hbytes d38) (by decide) rfl rfl ?_
        refine XS.goto X7.here hexec rfl (pc0 := 41) rfl (hb hbytes d41) (by decide) rfl ?_
        exact Steps.refl _)
      have c10 : Steps p.tables e below (s₁.setTop (entryFrame m #[.ref b, .int (Int32.ofNat o), .ref d, .int (Int32.ofNat q), .int (Int32.ofNat len)] 7)) (T7.setTop (mkF m 3 #[.val (.ref b), .val (.int (Int32.ofNat (o + (i + 1)))), .val (.ref d), .val (.int (Int32.ofNat (q + (i + 1)))), .val (.int (Int32.ofNat len)), .val (.int (Int32.ofNat (i + 1))), .val (.int (cv A (o + i)))] [])) := by
        have := c9
        rw [succ32, succ32, succ32] at this
        exact this
      exact ih (i + 1) (by omega) _ (Or.inr ⟨_, rfl, rfl⟩) T7 _ (by rw [copyLocs_step, ← List.append_assoc]; exact X7) (pl.trans p7) (fl.step (by omega) hlt (by simp)) c10
  obtain ⟨T9, B9, z9, X9, p9, f9, g9⟩ := loop len 0 (by omega) .unset (Or.inl rfl) s₁ B (by simpa [copyLocs] using X0) ⟨hB0.1, fun _ _ => rfl, rfl⟩ (Laid.zero _ _ _) c2
  have c11 : Steps p.tables e below (s₁.setTop (entryFrame m #[.ref b, .int (Int32.ofNat o), .ref d, .int (Int32.ofNat q), .int (Int32.ofNat len)] 7)) (T9.setTop (mkF m 46 #[.val (.ref b), .val (.int (Int32.ofNat (o + len))), .val (.ref d), .val (.int (Int32.ofNat (q + len))), .val (.int (Int32.ofNat len)), .val (.int (Int32.ofNat len)), z9] [.int (Int32.ofNat len)])) := g9.trans (by
    refine XS.iload X9.here hexec rfl (hb hbytes d3) rfl ?_
    refine XS.iload X9.here hexec rfl (hb hbytes d5) rfl ?_
    refine XS.icmpYes X9.here hexec rfl (pc0 := 7) rfl (hb hbytes d7) rfl (ii_ge_t (nlt32 (by omega) (Nat.le_refl _))) (by decide) rfl ?_
    refine XS.iload X9.here hexec rfl (hb hbytes d44) rfl ?_
    exact Steps.refl _)
  exact ⟨T9, some (.int (Int32.ofNat len)), _, _, _, X9, by simp, rfl, rfl, (fun h => by cases h), ⟨rfl, B9, p9.from hh0, f9⟩, fun fs hl => c11.trans (X9.ireturnOut hexec hret rfl (Or.inl rfl) (hb hbytes d46) hl)⟩
end Cmp5
namespace Cmp3
def yN : MethodName := ⟨"java/lang/StringUTF16", "compress", "([CII)[B"⟩
abbrev yB : ByteArray := jdk_52_method_16_code
theorem d0 : decode yB 0 = .ok (.iload_n 2, 1) := by decide +kernel
theorem d1 : decode yB 1 = .ok (.newarray .byte, 2) := by decide +kernel
theorem d3 : decode yB 3 = .ok (.astore_n 3, 1) := by decide +kernel
theorem d4 : decode yB 4 = .ok (.aload_n 0, 1) := by decide +kernel
theorem d5 : decode yB 5 = .ok (.iload_n 1, 1) := by decide +kernel
theorem d6 : decode yB 6 = .ok (.aload_n 3, 1) := by decide +kernel
theorem d7 : decode yB 7 = .ok (.iconst 0, 1) := by decide +kernel
theorem d8 : decode yB 8 = .ok (.iload_n 2, 1) := by decide +kernel
theorem d9 : decode yB 9 = .ok (.invokestatic 115, 3) := by decide +kernel
theorem d12 : decode yB 12 = .ok (.istore 4, 2) := by decide +kernel
theorem d14 : decode yB 14 = .ok (.iload 4, 2) := by decide +kernel
theorem d16 : decode yB 16 = .ok (.iload_n 2, 1) := by decide +kernel
theorem d17 : decode yB 17 = .ok (.if_icmp (.eq) 40, 3) := by decide +kernel
theorem d57 : decode yB 57 = .ok (.aload_n 3, 1) := by decide +kernel
theorem d58 : decode yB 58 = .ok (.areturn, 1) := by decide +kernel
def site : List Cond := [.arrayClass .byte, Cmp5.tab] ++ staticW U16 115 Cmp5.yN
def tab : Cond := tabOf yN yB 6 (some (.array .byte)) site
def P (b : Addr) (A : Cell) (o len : Nat) (args : Array Value) (s : State) : Prop := args = #[.ref b, .int (Int32.ofNat o), .int (Int32.ofNat len)] ∧ Ch b A s ∧ o + len ≤ A.slots.size ∧ len ≤ 536870912 ∧ ∀ i, i < len → ¬ 255 < cv A (o + i)
def E (b : Addr) (A : Cell) (o len : Nat) (r : Option Value) (s u : State) : Prop := NewArr .byte "[B" len (fun j => .int (lo8 (cv A (o + j)))) r s u ∧ u.heap.size = s.heap.size + 1
/-- no char of the range above 255: a new byte[] of their low bytes -/
theorem law (l : Launch) (b : Addr) (A : Cell) (o len : Nat) : Law l yN 3 3 1 18 yB 6 (some (.array .byte)) site (P b A o len) (E b A o len) [] 1 len := by
  refine Law.of_walk (plainFor_of_name (by decide +kernel)) (by decide +kernel) (by decide +kernel) (by decide) (fun _ _ h => by rw [h.1]; rfl) (fun _ U U' hal hh h => ⟨h.1, h.2.1.mv hal hh, h.2.2⟩) (fun r U U' V V' h1 hal h2 h => ⟨NewArr.mv r U U' V V' h1 hal h2 h.1, by rw [h1, h2]; exact h.2⟩) ?_
  intro p e s m args below meth c s₁ X0 hexec hbytes hml hret hlk hnm hown hh0 W hP
  obtain ⟨rfl, hA, l1, l2, hp⟩ := hP
  have a31 := hA.1.2.2.2
  have c1 : Steps p.tables e below (s₁.setTop (entryFrame m #[.ref b, .int (Int32.ofNat o), .int (Int32.ofNat len)] 6)) (s₁.setTop (mkF m 0 #[.val (.ref b), .val (.int (Int32.ofNat o)), .val (.int (Int32.ofNat len)), .unset, .unset, .unset] [])) := entry rfl
  have c2 : Steps p.tables e below (s₁.setTop (entryFrame m #[.ref b, .int (Int32.ofNat o), .int (Int32.ofNat len)] 6)) (s₁.setTop (mkF m 1 #[.val (.ref b), .val (.int (Int32.ofNat o)), .val (.int (Int32.ofNat len)), .unset, .unset, .unset] [.int (Int32.ofNat len)])) := c1.trans (by
    refine XS.iloadN X0.here hexec rfl (hb hbytes d0) rfl ?_
    exact Steps.refl _)
  obtain ⟨T3, B3, X3, ba3, bs3, bv3, bh3, bf3, st3⟩ := X0.anew hexec (atype := .byte) (wk W (.arrayClass .byte)) rfl (by show len * 1 ≤ _; omega) (by omega) (g := (mkF m 1 #[.val (.ref b), .val (.int (Int32.ofNat o)), .val (.int (Int32.ofNat len)), .unset, .unset, .unset] [.int (Int32.ofNat len)])) rfl (hb hbytes d1) (rest := []) rfl (Nat.le_refl _) (by show 0 + len ≤ len; omega)
  rw [hh0] at ba3 st3
  have kp3 : XT.Kept s T3 := (XT.Kept.of_eq hh0).push bh3
  have hA3 := hA.keep X3.warmed.alike (kp3 _ _ hA.1.1)
  have hne : b ≠ s.heap.size := hA.1.ne
  have c4 : Steps p.tables e below (s₁.setTop (entryFrame m #[.ref b, .int (Int32.ofNat o), .int (Int32.ofNat len)] 6)) (T3.setTop (mkF m 3 #[.val (.ref b), .val (.int (Int32.ofNat o)), .val (.int (Int32.ofNat len)), .unset, .unset, .unset] [.ref s.heap.size])) := c2.trans (st3 _ (Steps.refl _))
  have c5 : Steps p.tables e below (s₁.setTop (entryFrame m #[.ref b, .int (Int32.ofNat o), .int (Int32.ofNat len)] 6)) (T3.setTop (mkF m 9 #[.val (.ref b), .val (.int (Int32.ofNat o)), .val (.int (Int32.ofNat len)), .val (.ref s.heap.size), .unset, .unset] [.int (Int32.ofNat len), .int 0, .ref s.heap.size, .int (Int32.ofNat o), .ref b])) := c4.trans (by
    refine XS.astoreN X3.here hexec rfl (hb hbytes d3) rfl rfl rfl ?_
    refine XS.aloadN X3.here hexec rfl (hb hbytes d4) rfl rfl ?_
    refine XS.iloadN X3.here hexec rfl (hb hbytes d5) rfl ?_
    refine XS.aloadN X3.here hexec rfl (hb hbytes d6) rfl rfl ?_
    refine iconstV X3.here hexec rfl 0 (hb hbytes d7) (by decide) ?_
    refine XS.iloadN X3.here hexec rfl (hb hbytes d8) rfl ?_
    exact Steps.refl _)
  obtain ⟨v6, T6, X6, E6, g6⟩ := X3.callS hexec (Cmp5.law l b A s.heap.size B3 o 0 len) hown (wks W (staticW U16 115 Cmp5.yN)) (wk W Cmp5.tab) (W := 0) (Nat.le_of_ble_eq_true rfl) (Nat.le_of_ble_eq_true rfl) (Nat.le_refl _) (by show 0 + len + 0 ≤ len; omega) (g := (mkF m 9 #[.val (.ref b), .val (.int (Int32.ofNat o)), .val (.int (Int32.ofNat len)), .val (.ref s.heap.size), .unset, .unset] [.int (Int32.ofNat len), .int (Int32.ofNat 0), .ref s.heap.size, .int (Int32.ofNat o), .ref b])) rfl (by rw [hml]; rfl) c5 (argsL := [.ref b, .int (Int32.ofNat o), .ref s.heap.size, .int (Int32.ofNat 0), .int (Int32.ofNat len)]) (rest := []) rfl rfl (by show 2 * 0 + 0 ≤ _; decide) (hb hbytes d9) (⟨rfl, hA3, ba3, hne, l1, by rw [bs3]; simp, hp⟩)
  obtain ⟨rfl, B6, p6, f6⟩ := E6
  have c7 : Steps p.tables e below (s₁.setTop (entryFrame m #[.ref b, .int (Int32.ofNat o), .int (Int32.ofNat len)] 6)) (T6.setTop (mkF m 12 #[.val (.ref b), .val (.int (Int32.ofNat o)), .val (.int (Int32.ofNat len)), .val (.ref s.heap.size), .unset, .unset] [.int (Int32.ofNat len)])) := g6
  have c8 : Steps p.tables e below (s₁.setTop (entryFrame m #[.ref b, .int (Int32.ofNat o), .int (Int32.ofNat len)] 6)) (T6.setTop (mkF m 58 #[.val (.ref b), .val (.int (Int32.ofNat o)), .val (.int (Int32.ofNat len)), .val (.ref s.heap.size), .val (.int (Int32.ofNat len)), .unset] [.ref s.heap.size])) := c7.trans (by
    refine XS.istore X6.here hexec rfl (hb hbytes d12) rfl rfl ?_
    refine XS.iload X6.here hexec rfl (hb hbytes d14) rfl ?_
    refine XS.iloadN X6.here hexec rfl (hb hbytes d16) rfl ?_
    refine XS.icmpYes X6.here hexec rfl (pc0 := 17) rfl (hb hbytes d17) rfl (ii_eq_t rfl) (by decide) rfl ?_
    refine XS.aloadN X6.here hexec rfl (hb hbytes d57) rfl rfl ?_
    exact Steps.refl _)
  have X8 := X6.wide (L' := []) (cells' := 1) (slots' := len) (fun x hx hlt => by
    simp only [List.nil_append, copyLocs, List.mem_map, List.mem_range] at hx
    obtain ⟨i, -, rfl⟩ := hx
    exact absurd hlt (Nat.lt_irrefl _)) (Nat.le_refl _) (by omega)
  exact ⟨T6, some (.ref s.heap.size), _, _, _, X8, rfl, rfl, rfl, (fun h => by cases h), ⟨⟨rfl, B6, ba3.like (X3.warmed.alike.symm.trans X6.warmed.alike) p6.1 f6.1 f6.2.1 f6.2.2.1, f6.2.1.trans bv3, by rw [X6.warmed.alike.findClass, f6.1]; exact bf3, by rw [f6.2.2.1, bs3]; simp, fun j hj => by rw [f6.2.2.2 j, if_pos (by omega)]; rfl, kp3.put p6 (Nat.le_refl _)⟩, by rw [p6.2.2, bh3, hh0]; simp⟩, fun fs hl => c8.trans (X8.areturnOut hexec rfl hret rfl (hb hbytes d58) hl)⟩
end Cmp3
namespace CodL
def yN : MethodName := ⟨"java/lang/StringUTF16", "coderFromArrayLen", "([BI)B"⟩
abbrev yB : ByteArray := jdk_52_method_15_code
theorem d0 : decode yB 0 = .ok (.iload_n 1, 1) := by decide +kernel
theorem d1 : decode yB 1 = .ok (.aload_n 0, 1) := by decide +kernel
theorem d2 : decode yB 2 = .ok (.arraylength, 1) := by decide +kernel
theorem d3 : decode yB 3 = .ok (.isub, 1) := by decide +kernel
theorem d4 : decode yB 4 = .ok (.bipush 31, 2) := by decide +kernel
theorem d6 : decode yB 6 = .ok (.iushr, 1) := by decide +kernel
theorem d7 : decode yB 7 = .ok (.i2b, 1) := by decide +kernel
theorem d8 : decode yB 8 = .ok (.ireturn, 1) := by decide +kernel
def site : List Cond := []
def tab : Cond := tabOf yN yB 2 (some .byte) site
def P (d : Addr) (B : Cell) (args : Array Value) (s : State) : Prop := args = #[.ref d, .int (Int32.ofNat B.slots.size)] ∧ Arr .byte d B s
def E (r : Option Value) (s u : State) : Prop := XT.PureE (some (.int 0)) r s u
/-- an array as long as the number of chars: LATIN1 -/
theorem law (l : Launch) (d : Addr) (B : Cell) : Law l yN 2 2 0 0 yB 2 (some .byte) site (P d B) E [] 0 0 := by
  refine Law.of_walk (plainFor_of_name (by decide +kernel)) (by decide +kernel) (by decide +kernel) (by decide) (fun _ _ h => by rw [h.1]; rfl) (fun _ U U' hal hh h => ⟨h.1, h.2.mv hal hh⟩) (fun r U U' V V' h1 hal h2 h => XT.PureE.mv r U U' V V' h1 hal h2 h) ?_
  intro p e s m args below meth c s₁ X0 hexec hbytes hml hret hlk hnm hown hh0 W hP
  obtain ⟨rfl, hB⟩ := hP
  have hB0 := hB.mv X0.warmed.alike hh0
  have c1 : Steps p.tables e below (s₁.setTop (entryFrame m #[.ref d, .int (Int32.ofNat B.slots.size)] 2)) (s₁.setTop (mkF m 0 #[.val (.ref d), .val (.int (Int32.ofNat B.slots.size))] [])) := entry rfl
  have c2 : Steps p.tables e below (s₁.setTop (entryFrame m #[.ref d, .int (Int32.ofNat B.slots.size)] 2)) (s₁.setTop (mkF m 2 #[.val (.ref d), .val (.int (Int32.ofNat B.slots.size))] [.ref d, .int (Int32.ofNat B.slots.size)])) := c1.trans (by
    refine XS.iloadN X0.here hexec rfl (hb hbytes d0) rfl ?_
    refine XS.aloadN X0.here hexec rfl (hb hbytes d1) rfl rfl ?_
    exact Steps.refl _)
  have c3 : Steps p.tables e below (s₁.setTop (entryFrame m #[.ref d, .int (Int32.ofNat B.slots.size)] 2)) (s₁.setTop (mkF m 8 #[.val (.ref d), .val (.int (Int32.ofNat B.slots.size))] [.int (lo8 (ushr (Int32.ofNat B.slots.size - Int32.ofNat B.slots.size) 31))])) := c2.trans (by
    refine X0.alen hexec hB0 rfl rfl (hb hbytes d2) ?_
    refine XS.isub X0.here hexec rfl (hb hbytes d3) rfl ?_
    refine bipushV X0.here hexec rfl 31 (hb hbytes d4) (by decide) ?_
    refine iushr X0.here hexec rfl (hb hbytes d6) rfl ?_
    refine i2b X0.here hexec rfl (hb hbytes d7) rfl ?_
    exact Steps.refl _)
  have e0 : lo8 (ushr (Int32.ofNat B.slots.size - Int32.ofNat B.slots.size) 31) = 0 := by rw [Int32.sub_self]; decide
  rw [e0] at c3
  exact ⟨s₁, some (.int 0), _, _, _, X0, rfl, rfl, rfl, (fun h => by cases h), ⟨rfl, hh0⟩, fun fs hl => c3.trans (X0.ireturnOut hexec hret rfl (Or.inr (Or.inr (Or.inl rfl))) (hb hbytes d8) hl)⟩
end CodL
/-- the String at a is Latin-1 over a new byte[] (the heap's one new cell): the low bytes of the len chars of A from o on; every cell but a is kept -/
def Got (a : Addr) (D : Cell) (fV fC : Field) (A : Cell) (o len : Nat) (r : Option Value) (s u : State) : Prop := r = none ∧ ∃ D' V : Cell, Blank "java/lang/String" a D' u ∧ Same D D' [fV.slot, fC.slot] ∧ D'.slots[fV.slot]? = some (.ref s.heap.size) ∧ D'.slots[fC.slot]? = some (.int 0) ∧ Arr .byte s.heap.size V u ∧ V.vm = .none ∧ u.vm.findClass "[B" = some V.cls ∧ V.slots.size = len ∧ (∀ j, j < len → V.slots[j]? = some (.int (lo8 (cv A (o + j))))) ∧ (∀ (y : Addr) (c : Cell), y ≠ a → s.heap[y]? = some c → u.heap[y]? = some c) ∧ u.heap.size = s.heap.size + 1
theorem Got.mv {a : Addr} {D A : Cell} {fV fC : Field} {o len : Nat} : ∀ r (U U' V V' : State), U'.heap = U.heap → V.vm.Alike V'.vm → V'.heap = V.heap → Got a D fV fC A o len r U V → Got a D fV fC A o len r U' V' :=
  fun r U U' V V' h1 hal h2 ⟨e0, D', X, a1, a2, a3, a4, a5, a6, a7, a8, a9, a10, a11⟩ => ⟨e0, D', X, a1.mv hal h2, a2, by rw [h1]; exact a3, a4, by rw [h1]; exact a5.mv hal h2, a6, by rw [hal.findClass]; exact a7, a8, a9, by rw [h1, h2]; exact a10, by rw [h1, h2]; exact a11⟩
namespace New4
def yN : MethodName := ⟨"java/lang/String", "<init>", "([CIILjava/lang/Void;)V"⟩
abbrev yB : ByteArray := jdk_42_method_149_code
theorem d0 : decode yB 0 = .ok (.aload_n 0, 1) := by decide +kernel
theorem d1 : decode yB 1 = .ok (.invokespecial 1, 3) := by decide +kernel
theorem d4 : decode yB 4 = .ok (.iload_n 3, 1) := by decide +kernel
theorem d5 : decode yB 5 = .ok (.ifCond (.ne) 22, 3) := by decide +kernel
theorem d27 : decode yB 27 = .ok (.getstatic 38, 3) := by decide +kernel
theorem d30 : decode yB 30 = .ok (.ifCond (.eq) 28, 3) := by decide +kernel
theorem d33 : decode yB 33 = .ok (.aload_n 1, 1) := by decide +kernel
theorem d34 : decode yB 34 = .ok (.iload_n 2, 1) := by decide +kernel
theorem d35 : decode yB 35 = .ok (.iload_n 3, 1) := by decide +kernel
theorem d36 : decode yB 36 = .ok (.invokestatic 177, 3) := by decide +kernel
theorem d39 : decode yB 39 = .ok (.astore 5, 2) := by decide +kernel
theorem d41 : decode yB 41 = .ok (.aload_n 0, 1) := by decide +kernel
theorem d42 : decode yB 42 = .ok (.aload 5, 2) := by decide +kernel
theorem d44 : decode yB 44 = .ok (.iload_n 3, 1) := by decide +kernel
theorem d45 : decode yB 45 = .ok (.invokestatic 47, 3) := by decide +kernel
theorem d48 : decode yB 48 = .ok (.putfield 15, 3) := by decide +kernel
theorem d51 : decode yB 51 = .ok (.aload_n 0, 1) := by decide +kernel
theorem d52 : decode yB 52 = .ok (.aload 5, 2) := by decide +kernel
theorem d54 : decode yB 54 = .ok (.putfield 9, 3) := by decide +kernel
theorem d57 : decode yB 57 = .ok (.return_, 1) := by decide +kernel
def site : List Cond := [.fieldLink "java/lang/String" 38 "java/lang/String" "COMPACT_STRINGS" "Z", Cmp3.tab, CodL.tab, .laysFinal "java/lang/String" "java/lang/String" "value" "[B", .fieldLink "java/lang/String" 9 "java/lang/String" "value" "[B", .laysFinal "java/lang/String" "java/lang/String" "coder" "B", .fieldLink "java/lang/String" 15 "java/lang/String" "coder" "B"] ++ objW "java/lang/String" 1 ++ staticW "java/lang/String" 177 Cmp3.yN ++ staticW "java/lang/String" 47 CodL.yN
def tab : Cond := tabOf yN yB 6 none site
def P (a : Addr) (D : Cell) (fV fC : Field) (b : Addr) (A : Cell) (z : Int32) (o len : Nat) (args : Array Value) (s : State) : Prop := args = #[.ref a, .ref b, .int (Int32.ofNat o), .int (Int32.ofNat len), .null] ∧ Blank "java/lang/String" a D s ∧ Found "java/lang/String" "value" "[B" fV s ∧ Found "java/lang/String" "coder" "B" fC s ∧ Ch b A s ∧ StaticIs s "java/lang/String" "COMPACT_STRINGS" "Z" (.int z) ∧ ¬ z = 0 ∧ 0 < len ∧ o + len ≤ A.slots.size ∧ len ≤ 536870912 ∧ ∀ i, i < len → ¬ 255 < cv A (o + i)
def E (a : Addr) (D : Cell) (fV fC : Field) (A : Cell) (o len : Nat) (r : Option Value) (s u : State) : Prop := Got a D fV fC A o len r s u
/-- len > 0, no char of the range above 255: a Latin-1 String of their low bytes -/
theorem law (l : Launch) (a : Addr) (D : Cell) (fV fC : Field) (b : Addr) (A : Cell) (z : Int32) (o len : Nat) : Law l yN 5 4 2 35 yB 6 none site (P a D fV fC b A z o len) (E a D fV fC A o len) [⟨a, fC.slot⟩, ⟨a, fV.slot⟩] 1 len := by
  refine Law.of_walk (plainFor_of_name (by decide +kernel)) (by decide +kernel) (by decide +kernel) (by decide) (fun _ _ h => by rw [h.1]; rfl) (fun _ U U' hal hh h => ⟨h.1, h.2.1.mv hal hh, h.2.2.1.al hal, h.2.2.2.1.al hal, h.2.2.2.2.1.mv hal hh, h.2.2.2.2.2.1.there hal hh, h.2.2.2.2.2.2⟩) (fun r U U' V V' h1 hal h2 h => Got.mv r U U' V V' h1 hal h2 h) ?_
  intro p e s m args below meth c s₁ X0 hexec hbytes hml hret hlk hnm hown hh0 W hP
  obtain ⟨rfl, hB, f1, f2, hA, s1, hz, l0, l1, l2, hp⟩ := hP
  have a31 := hA.1.2.2.2
  have c1 : Steps p.tables e below (s₁.setTop (entryFrame m #[.ref a, .ref b, .int (Int32.ofNat o), .int (Int32.ofNat len), .null] 6)) (s₁.setTop (mkF m 0 #[.val (.ref a), .val (.ref b), .val (.int (Int32.ofNat o)), .val (.int (Int32.ofNat len)), .val .null, .unset] [])) := entry rfl
  have c2 : Steps p.tables e below (s₁.setTop (entryFrame m #[.ref a, .ref b, .int (Int32.ofNat o), .int (Int32.ofNat len), .null] 6)) (s₁.setTop (mkF m 1 #[.val (.ref a), .val (.ref b), .val (.int (Int32.ofNat o)), .val (.int (Int32.ofNat len)), .val .null, .unset] [.ref a])) := c1.trans (by
    refine XS.aloadN X0.here hexec rfl (hb hbytes d0) rfl rfl ?_
    exact Steps.refl _)
  obtain ⟨T3, X3, q3, st3⟩ := X0.oinit hexec hown (wks W (objW "java/lang/String" 1)) (g := (mkF m 1 #[.val (.ref a), .val (.ref b), .val (.int (Int32.ofNat o)), .val (.int (Int32.ofNat len)), .val .null, .unset] [.ref a])) rfl (by rw [hml]; rfl) (rest := []) rfl (hb hbytes d1) (W := 0) (by show 2 * 0 + 0 ≤ _; decide) (Nat.le_of_ble_eq_true rfl) (Nat.le_of_ble_eq_true rfl)
  have hh3 := q3.trans hh0
  have c4 : Steps p.tables e below (s₁.setTop (entryFrame m #[.ref a, .ref b, .int (Int32.ofNat o), .int (Int32.ofNat len), .null] 6)) (T3.setTop (mkF m 27 #[.val (.ref a), .val (.ref b), .val (.int (Int32.ofNat o)), .val (.int (Int32.ofNat len)), .val .null, .unset] [])) := (c2.trans (st3 _ (Steps.refl _))).trans (by
    refine XS.iloadN X3.here hexec rfl (hb hbytes d4) rfl ?_
    refine XS.ifYes X3.here hexec rfl (pc0 := 5) rfl (hb hbytes d5) rfl (i0_ne_t (nz32 (by omega) l0)) (by decide) rfl ?_
    exact Steps.refl _)
  obtain ⟨T5, X5, q5, st5⟩ := X3.sget hexec hown (wk W (.fieldLink "java/lang/String" 38 "java/lang/String" "COMPACT_STRINGS" "Z")) s1 (fun _ _ h => by rw [hh3]; exact h) (g := (mkF m 27 #[.val (.ref a), .val (.ref b), .val (.int (Int32.ofNat o)), .val (.int (Int32.ofNat len)), .val .null, .unset] [])) rfl (hb hbytes d27)
  have hh5 := q5.trans hh3
  have c6 : Steps p.tables e below (s₁.setTop (entryFrame m #[.ref a, .ref b, .int (Int32.ofNat o), .int (Int32.ofNat len), .null] 6)) (T5.setTop (mkF m 30 #[.val (.ref a), .val (.ref b), .val (.int (Int32.ofNat o)), .val (.int (Int32.ofNat len)), .val .null, .unset] [.int z])) := c4.trans (st5 _ (Steps.refl _))
  have c7 : Steps p.tables e below (s₁.setTop (entryFrame m #[.ref a, .ref b, .int (Int32.ofNat o), .int (Int32.ofNat len), .null] 6)) (T5.setTop (mkF m 36 #[.val (.ref a), .val (.ref b), .val (.int (Int32.ofNat o)), .val (.int (Int32.ofNat len)), .val .null, .unset] [.int (Int32.ofNat len), .int (Int32.ofNat o), .ref b])) := c6.trans (by
    refine XS.ifNo X5.here hexec rfl (hb hbytes d30) rfl (i0_eq_f hz) ?_
    refine XS.aloadN X5.here hexec rfl (hb hbytes d33) rfl rfl ?_
    refine XS.iloadN X5.here hexec rfl (hb hbytes d34) rfl ?_
    refine XS.iloadN X5.here hexec rfl (hb hbytes d35) rfl ?_
    exact Steps.refl _)
  obtain ⟨v8, T8, X8, E8, g8⟩ := X5.callS hexec (Cmp3.law l b A o len) hown (wks W (staticW "java/lang/String" 177 Cmp3.yN)) (wk W Cmp3.tab) (W := 0) (Nat.le_of_ble_eq_true rfl) (Nat.le_of_ble_eq_true rfl) (Nat.le_refl _) (by show 0 + len ≤ len; omega) (g := (mkF m 36 #[.val (.ref a), .val (.ref b), .val (.int (Int32.ofNat o)), .val (.int (Int32.ofNat len)), .val .null, .unset] [.int (Int32.ofNat len), .int (Int32.ofNat o), .ref b])) rfl (by rw [hml]; rfl) c7 (argsL := [.ref b, .int (Int32.ofNat o), .int (Int32.ofNat len)]) (rest := []) rfl rfl (by show 2 * 0 + 0 ≤ _; decide) (hb hbytes d36) (⟨rfl, hA.mv X5.warmed.alike hh5, l1, l2, hp⟩)
  obtain ⟨e8, z8⟩ := E8
  obtain ⟨rfl, N, n1, n2, n3, n4, n5, n6⟩ := NewArr.mv _ T5 s _ _ hh5.symm (Vm.Alike.refl _) rfl e8
  rw [hh5] at z8
  have hB1 := hB.keep X8.warmed.alike (n6 _ _ hB.1)
  have hne : s.heap.size ≠ a := (Nat.ne_of_lt (Array.getElem?_eq_some_iff.mp hB.1).1).symm
  have c9 : Steps p.tables e below (s₁.setTop (entryFrame m #[.ref a, .ref b, .int (Int32.ofNat o), .int (Int32.ofNat len), .null] 6)) (T8.setTop (mkF m 39 #[.val (.ref a), .val (.ref b), .val (.int (Int32.ofNat o)), .val (.int (Int32.ofNat len)), .val .null, .unset] [.ref s.heap.size])) := g8
  have c10 : Steps p.tables e below (s₁.setTop (entryFrame m #[.ref a, .ref b, .int (Int32.ofNat o), .int (Int32.ofNat len), .null] 6)) (T8.setTop (mkF m 45 #[.val (.ref a), .val (.ref b), .val (.int (Int32.ofNat o)), .val (.int (Int32.ofNat len)), .val .null, .val (.ref s.heap.size)] [.int (Int32.ofNat N.slots.size), .ref s.heap.size, .ref a])) := by
    have hc : Steps p.tables e below (s₁.setTop (entryFrame m #[.ref a, .ref b, .int (Int32.ofNat o), .int (Int32.ofNat len), .null] 6)) (T8.setTop (mkF m 45 #[.val (.ref a), .val (.ref b), .val (.int (Int32.ofNat o)), .val (.int (Int32.ofNat len)), .val .null, .val (.ref s.heap.size)] [.int (Int32.ofNat len), .ref s.heap.size, .ref a])) := c9.trans (by
      refine XS.astore X8.here hexec rfl (hb hbytes d39) rfl rfl rfl ?_
      refine XS.aloadN X8.here hexec rfl (hb hbytes d41) rfl rfl ?_
      refine XS.aload X8.here hexec rfl (hb hbytes d42) rfl rfl ?_
      refine XS.iloadN X8.here hexec rfl (hb hbytes d44) rfl ?_
      exact Steps.refl _)
    rw [n4]; exact hc
  obtain ⟨v11, T11, X11, E11, g11⟩ := X8.callS hexec (CodL.law l s.heap.size N) hown (wks W (staticW "java/lang/String" 47 CodL.yN)) (wk W CodL.tab) (W := 1) (Nat.le_of_ble_eq_true rfl) (Nat.le_of_ble_eq_true rfl) (Nat.le_refl _) (by show 0 + len + 0 ≤ len; omega) (g := (mkF m 45 #[.val (.ref a), .val (.ref b), .val (.int (Int32.ofNat o)), .val (.int (Int32.ofNat len)), .val .null, .val (.ref s.heap.size)] [.int (Int32.ofNat N.slots.size), .ref s.heap.size, .ref a])) rfl (by rw [hml]; rfl) c10 (argsL := [.ref s.heap.size, .int (Int32.ofNat N.slots.size)]) (rest := [.ref a]) rfl rfl (by show 2 * 0 + (1 + 0) ≤ _; decide) (hb hbytes d45) (⟨rfl, n1⟩)
  obtain ⟨rfl, q11⟩ := E11
  have hB11 := hB1.mv (X8.warmed.alike.symm.trans X11.warmed.alike) q11
  have c12 : Steps p.tables e below (s₁.setTop (entryFrame m #[.ref a, .ref b, .int (Int32.ofNat o), .int (Int32.ofNat len), .null] 6)) (T11.setTop (mkF m 48 #[.val (.ref a), .val (.ref b), .val (.int (Int32.ofNat o)), .val (.int (Int32.ofNat len)), .val .null, .val (.ref s.heap.size)] [.int 0, .ref a])) := g11
  obtain ⟨T13, X13, p13, bl13, sl13, st13⟩ := X11.finit hexec hown (wk W (.fieldLink "java/lang/String" 15 "java/lang/String" "coder" "B")) (Or.inr ⟨_, (wk W (.laysFinal "java/lang/String" "java/lang/String" "coder" "B"))⟩) (Or.inl ⟨rfl, hnm⟩) f2 (Or.inl rfl) hB11 (t := .byte) (by decide +kernel) rfl (g := (mkF m 48 #[.val (.ref a), .val (.ref b), .val (.int (Int32.ofNat o)), .val (.int (Int32.ofNat len)), .val .null, .val (.ref s.heap.size)] [.int 0, .ref a])) rfl (rest := []) rfl (hb hbytes d48)
  have c14 : Steps p.tables e below (s₁.setTop (entryFrame m #[.ref a, .ref b, .int (Int32.ofNat o), .int (Int32.ofNat len), .null] 6)) (T13.setTop (mkF m 54 #[.val (.ref a), .val (.ref b), .val (.int (Int32.ofNat o)), .val (.int (Int32.ofNat len)), .val .null, .val (.ref s.heap.size)] [.ref s.heap.size, .ref a])) := (c12.trans (st13 _ (Steps.refl _))).trans (by
    refine XS.aloadN X13.here hexec rfl (hb hbytes d51) rfl rfl ?_
    refine XS.aload X13.here hexec rfl (hb hbytes d52) rfl rfl ?_
    exact Steps.refl _)
  obtain ⟨T15, X15, p15, bl15, sl15, st15⟩ := X13.finit hexec hown (wk W (.fieldLink "java/lang/String" 9 "java/lang/String" "value" "[B")) (Or.inr ⟨_, (wk W (.laysFinal "java/lang/String" "java/lang/String" "value" "[B"))⟩) (Or.inl ⟨rfl, hnm⟩) f1 (Or.inl rfl) bl13 (t := (.array .byte)) (by decide +kernel) rfl (g := (mkF m 54 #[.val (.ref a), .val (.ref b), .val (.int (Int32.ofNat o)), .val (.int (Int32.ofNat len)), .val .null, .val (.ref s.heap.size)] [.ref s.heap.size, .ref a])) rfl (rest := []) rfl (hb hbytes d54)
  have c16 : Steps p.tables e below (s₁.setTop (entryFrame m #[.ref a, .ref b, .int (Int32.ofNat o), .int (Int32.ofNat len), .null] 6)) (T15.setTop (mkF m 57 #[.val (.ref a), .val (.ref b), .val (.int (Int32.ofNat o)), .val (.int (Int32.ofNat len)), .val .null, .val (.ref s.heap.size)] [])) := c14.trans (st15 _ (Steps.refl _))
  have ap := apart (Or.inr ⟨_, (wk W (.laysFinal "java/lang/String" "java/lang/String" "value" "[B"))⟩) (Or.inr ⟨_, (wk W (.laysFinal "java/lang/String" "java/lang/String" "coder" "B"))⟩) f1 f2 (t₁ := .array .byte) (t₂ := .byte) (by decide +kernel) (by decide +kernel) (by decide)
  have al := X8.warmed.alike.symm.trans X15.warmed.alike
  have n7 : T11.heap[s.heap.size]? = some N := by rw [q11]; exact n1.1
  exact ⟨T15, none, _, _, _, X15, by simp, rfl, by omega, (fun _ => rfl), ⟨rfl, _, N, bl15, ((Same.refl D _).set _ (by simp)).set _ (by simp), sl15, (Cell.slots_setSlot_ne _ ap).trans sl13, n1.keep al (p15.other hne (p13.other hne n7)), n2, by rw [al.findClass]; exact n3, n4, n5, fun y c h1 h2 => p15.other h1 (p13.other h1 (by rw [q11]; exact n6 y c h2)), by rw [p15.2.2, p13.2.2, q11]; exact z8⟩, fun fs hl => c16.trans (X15.returnOut hexec hret (hb hbytes d57) hl)⟩
end New4
namespace New1
def yN : MethodName := ⟨"java/lang/String", "<init>", "([C)V"⟩
abbrev yB : ByteArray := jdk_42_method_3_code
theorem d0 : decode yB 0 = .ok (.aload_n 0, 1) := by decide +kernel
theorem d1 : decode yB 1 = .ok (.aload_n 1, 1) := by decide +kernel
theorem d2 : decode yB 2 = .ok (.iconst 0, 1) := by decide +kernel
theorem d3 : decode yB 3 = .ok (.aload_n 1, 1) := by decide +kernel
theorem d4 : decode yB 4 = .ok (.arraylength, 1) := by decide +kernel
theorem d5 : decode yB 5 = .ok (.aconst_null, 1) := by decide +kernel
theorem d6 : decode yB 6 = .ok (.invokespecial 27, 3) := by decide +kernel
theorem d9 : decode yB 9 = .ok (.return_, 1) := by decide +kernel
def site : List Cond := [New4.tab] ++ initW "java/lang/String" 27 New4.yN
def tab : Cond := tabOf yN yB 2 none site
def P (a : Addr) (D : Cell) (fV fC : Field) (b : Addr) (A : Cell) (z : Int32) (args : Array Value) (s : State) : Prop := args = #[.ref a, .ref b] ∧ Blank "java/lang/String" a D s ∧ Found "java/lang/String" "value" "[B" fV s ∧ Found "java/lang/String" "coder" "B" fC s ∧ Ch b A s ∧ StaticIs s "java/lang/String" "COMPACT_STRINGS" "Z" (.int z) ∧ ¬ z = 0 ∧ 0 < A.slots.size ∧ A.slots.size ≤ 536870912 ∧ ∀ i, i < A.slots.size → ¬ 255 < cv A i
def E (a : Addr) (D : Cell) (fV fC : Field) (A : Cell) (r : Option Value) (s u : State) : Prop := Got a D fV fC A 0 A.slots.size r s u
/-- new String(chars), not empty, no char above 255: a Latin-1 String of their low bytes -/
theorem law (l : Launch) (a : Addr) (D : Cell) (fV fC : Field) (b : Addr) (A : Cell) (z : Int32) : Law l yN 2 1 3 52 yB 2 none site (P a D fV fC b A z) (E a D fV fC A) [⟨a, fC.slot⟩, ⟨a, fV.slot⟩] 1 A.slots.size := by
  refine Law.of_walk (plainFor_of_name (by decide +kernel)) (by decide +kernel) (by decide +kernel) (by decide) (fun _ _ h => by rw [h.1]; rfl) (fun _ U U' hal hh h => ⟨h.1, h.2.1.mv hal hh, h.2.2.1.al hal, h.2.2.2.1.al hal, h.2.2.2.2.1.mv hal hh, h.2.2.2.2.2.1.there hal hh, h.2.2.2.2.2.2⟩) (fun r U U' V V' h1 hal h2 h => Got.mv r U U' V V' h1 hal h2 h) ?_
  intro p e s m args below meth c s₁ X0 hexec hbytes hml hret hlk hnm hown hh0 W hP
  obtain ⟨rfl, hB, f1, f2, hA, s1, hz, l0, l2, hp⟩ := hP
  have c1 : Steps p.tables e below (s₁.setTop (entryFrame m #[.ref a, .ref b] 2)) (s₁.setTop (mkF m 0 #[.val (.ref a), .val (.ref b)] [])) := entry rfl
  have c2 : Steps p.tables e below (s₁.setTop (entryFrame m #[.ref a, .ref b] 2)) (s₁.setTop (mkF m 6 #[.val (.ref a), .val (.ref b)] [.null, .int (Int32.ofNat A.slots.size), .int 0, .ref b, .ref a])) := c1.trans (by
    refine XS.aloadN X0.here hexec rfl (hb hbytes d0) rfl rfl ?_
    refine XS.aloadN X0.here hexec rfl (hb hbytes d1) rfl rfl ?_
    refine iconstV X0.here hexec rfl 0 (hb hbytes d2) (by decide) ?_
    refine XS.aloadN X0.here hexec rfl (hb hbytes d3) rfl rfl ?_
    refine X0.alen hexec (hA.1.mv X0.warmed.alike hh0) rfl rfl (hb hbytes d4) ?_
    refine XS.aconstNull X0.here hexec rfl (hb hbytes d5) ?_
    exact Steps.refl _)
  obtain ⟨v3, T3, X3, E3, g3⟩ := X0.callN hexec (New4.law l a D fV fC b A z 0 A.slots.size) rfl hown (wks W (initW "java/lang/String" 27 New4.yN)) (W New4.tab (by simp only [site, List.mem_cons, List.mem_append, true_or, or_true])) (W := 0) (Nat.le_of_ble_eq_true rfl) (Nat.le_of_ble_eq_true rfl) (Nat.le_refl _) (by show 0 + A.slots.size ≤ A.slots.size; omega) (g := (mkF m 6 #[.val (.ref a), .val (.ref b)] [.null, .int (Int32.ofNat A.slots.size), .int (Int32.ofNat 0), .ref b, .ref a])) rfl (by rw [hml]; rfl) c2 (argsL := [.ref b, .int (Int32.ofNat 0), .int (Int32.ofNat A.slots.size), .null]) (rest := []) rfl rfl (by show 2 * 0 + 0 ≤ _; decide) (hb hbytes d6) (⟨rfl, hB.mv X0.warmed.alike hh0, f1.al X0.warmed.alike, f2.al X0.warmed.alike, hA.mv X0.warmed.alike hh0, s1.there X0.warmed.alike hh0, hz, l0, by omega, l2, fun i hi => by rw [Nat.zero_add]; exact hp i hi⟩)
  have e0 := Got.mv _ s₁ s _ _ hh0.symm (Vm.Alike.refl _) rfl E3
  obtain rfl := e0.1
  have c4 : Steps p.tables e below (s₁.setTop (entryFrame m #[.ref a, .ref b] 2)) (T3.setTop (mkF m 9 #[.val (.ref a), .val (.ref b)] [])) := g3
  exact ⟨T3, none, _, _, _, X3, by simp, rfl, by omega, (fun _ => rfl), e0, fun fs hl => c4.trans (X3.returnOut hexec hret (hb hbytes d9) hl)⟩
theorem pays {l : Launch} {R : Room} {p : Program} {e : Env} {below : List Frame} {s : State} {sargs : Array Value} {len W : Nat} (a : Addr) (D : Cell) (fV fC : Field) (b : Addr) (A : Cell) (z : Int32) (htab : tab.before sargs s = true) (hfr : 4 ≤ R.frames) (hlo : W + 65 ≤ R.locals) :
    Back l R p e below s sargs yN len W (fun A₁ a₁ => A₁.cells + 1 ≤ R.cells ∧ A₁.slots + A.slots.size ≤ R.slots ∧ P a D fV fC b A z a₁ A₁.U) (fun A₁ _ v₁ B₁ => E a D fV fC A v₁ A₁.U B₁.U ∧ B₁.locs = A₁.locs ++ [⟨a, fC.slot⟩, ⟨a, fV.slot⟩] ∧ B₁.cells = A₁.cells + 1 ∧ B₁.slots = A₁.slots + A.slots.size) :=
  (law l a D fV fC b A z).pays htab hfr (by omega)
end New1
end StrChars
namespace StrChars.Road
open Jvm Sem ClassFile Op Lib Jvm.Stand Jvm.Free Jvm.Free.XT
open Jvm.Lib.Cold (StaticIs)
abbrev ST : String := "java/lang/String"
/-- every table word that New1's law asks, flat -/
abbrev words : List Jvm.Cond := [.code New1.yN New1.yB 2 none, .initialized ST, .methodLink ST 27 New4.yN, .instanceMethod New4.yN,
  .code New4.yN New4.yB 6 none, .fieldLink ST 38 ST "COMPACT_STRINGS" "Z", .laysFinal ST ST "value" "[B", .fieldLink ST 9 ST "value" "[B", .laysFinal ST ST "coder" "B", .fieldLink ST 15 ST "coder" "B",
  .methodLink ST 1 Lib.objectInit, .instanceMethod Lib.objectInit, .code Lib.objectInit ⟨#[0xb1]⟩ 1 none, .methodLink ST 177 Cmp3.yN, .static Cmp3.yN, .methodLink ST 47 CodL.yN, .static CodL.yN,
  .code Cmp3.yN Cmp3.yB 6 (some (.array .byte)), .initialized U16, .arrayClass .byte, .methodLink U16 115 Cmp5.yN, .static Cmp5.yN, .code Cmp5.yN Cmp5.yB 7 (some .int), .code CodL.yN CodL.yB 2 (some .byte)]
theorem tab_of {a : Array Value} {s : State} (h : ∀ w ∈ words, w.before a s = true) : New1.tab.before a s = true := by
  have h5 : Cmp5.tab.before a s = true := unparts (wk h (.code Cmp5.yN Cmp5.yB 7 (some .int))) (wks h (.initialized Cmp5.yN.cls :: Cmp5.site))
  have hc : CodL.tab.before a s = true := unparts (wk h (.code CodL.yN CodL.yB 2 (some .byte))) (wks h (.initialized CodL.yN.cls :: CodL.site))
  have q5 : ∀ w ∈ Cmp5.tab :: words, w.before a s = true := fun w hw => (List.mem_cons.mp hw).elim (fun e => e ▸ h5) (h w)
  have h3 : Cmp3.tab.before a s = true := unparts (wk q5 (.code Cmp3.yN Cmp3.yB 6 (some (.array .byte)))) (wks q5 (.initialized Cmp3.yN.cls :: Cmp3.site))
  have q3 : ∀ w ∈ Cmp3.tab :: CodL.tab :: words, w.before a s = true := fun w hw => (List.mem_cons.mp hw).elim (fun e => e ▸ h3) fun hw => (List.mem_cons.mp hw).elim (fun e => e ▸ hc) (h w)
  have h4 : New4.tab.before a s = true := unparts (wk q3 (.code New4.yN New4.yB 6 none)) (wks q3 (.initialized New4.yN.cls :: New4.site))
  have q4 : ∀ w ∈ New4.tab :: words, w.before a s = true := fun w hw => (List.mem_cons.mp hw).elim (fun e => e ▸ h4) (h w)
  exact unparts (wk q4 (.code New1.yN New1.yB 2 none)) (wks q4 (.initialized New1.yN.cls :: New1.site))
/-- the words ride from the start Z to the walk's own state -/
theorem moved {Z s : State} {a0 args : Array Value} (hZ : Z.Warmed39 s.vm) (hw : ∀ d ∈ words, d.before a0 Z = true) : ∀ d ∈ words, d.before args s = true := fun d hd => by
  have q := hw d hd
  have t : ∀ d ∈ words, d = .arrayClass .byte ∨ (d.onTables && d.keepsFace) = true := by decide +kernel
  rcases t d hd with rfl | t
  · exact RoadKit.mvA hZ q
  · exact RoadKit.mv hZ q t
/-- WHAT COMES BACK, over the tables of the start Z: h the heap at the call, h' behind it -/
def Q (Z : State) (x : Addr) (A : Cell) (h : Heap) (v : Option Value) (h' : Heap) (L : List Loc) : Prop := v = none ∧ (∀ y ∈ L, y.base = x) ∧ RoadKit.Keep h h' [x] ∧ h'.size = h.size + 1 ∧ RoadKit.Exa Z h' x ST ∧ RoadKit.Fld Z h' x ST "value" "[B" (.ref h.size) ∧ RoadKit.Fld Z h' x ST "coder" "B" (.int 0) ∧
  (∃ V : Cell, RoadKit.Arr Z h' h.size V .byte ∧ V.vm = .none ∧ Z.vm.findClass "[B" = some V.cls ∧ V.slots.size = A.slots.size ∧ ∀ j, j < A.slots.size → V.slots[j]? = some (.int (lo8 (cv A j)))) ∧
  ∀ (O n d : String) (w : Value), RoadKit.Fld Z h x O n d w → RoadKit.slotOf Z O n d ≠ RoadKit.slotOf Z ST "value" "[B" → RoadKit.slotOf Z O n d ≠ RoadKit.slotOf Z ST "coder" "B" → RoadKit.Fld Z h' x O n d w
/-- **new String(chars) AT A CALL, IN THE ROAD'S FORM**: for specialBack behind newO: x the fresh String, b the char[] with the cell A -/
theorem back {p : Program} {l : Launch} {e : Env} {R : Room} {s : State} {args : Array Value} {below : List Frame} {len W : Nat} {Z : State} {a0 : Array Value} {h : Heap} (hZ : Z.Warmed39 s.vm) (hw : ∀ d ∈ words, d.before a0 Z = true) {kI : Nat} (wi : (Jvm.Cond.instantiable ST kI).before a0 Z = true)
    {x b : Addr} {A : Cell} {z : Int32} {v0 c0 : Value} (E : RoadKit.Exa Z h x ST) (V : RoadKit.Fld Z h x ST "value" "[B" v0) (C : RoadKit.Fld Z h x ST "coder" "B" c0) (K : RoadKit.Arr Z h b A .char) (hty : Typed .char A) (S : RoadKit.Sta Z h ST "COMPACT_STRINGS" "Z" (.int z)) (hz : ¬ z = 0)
    (l0 : 0 < A.slots.size) (l2 : A.slots.size ≤ 536870912) (hp : ∀ i, i < A.slots.size → ¬ 255 < cv A i) (hfr : 4 ≤ R.frames) (hlo : W + 65 ≤ R.locals) :
    Back l R p e below s args New1.yN len W (fun P a => a = #[.ref x, .ref b] ∧ P.U.heap = h ∧ P.cells + 1 ≤ R.cells ∧ P.slots + A.slots.size ≤ R.slots)
      (fun P _ v B => ∃ L, Q Z x A h v B.U.heap L ∧ B.locs = P.locs ++ L ∧ B.cells = P.cells + 1 ∧ B.slots = P.slots + A.slots.size) := by
  intro m meth c P g ig mk a X hg hsize hdg hW hn hp'
  obtain ⟨rfl, rfl, r1, r2⟩ := hp'
  have al : Z.vm.Alike P.U.vm := hZ.alike.trans X.warmed.alike
  obtain ⟨D, cfV, kV, iV, fV, hD, gV, stV, knV, obV, asV, slV⟩ := id V
  obtain ⟨D', cfC, kC, iC, fC, hD', gC, stC, -, -, asC, slC⟩ := id C
  cases hD.symm.trans hD'
  obtain ⟨D2, kD, e1, e2, e3, e4, e5⟩ := id E
  cases hD.symm.trans e1
  obtain ⟨c2, k2, i1, i2, i3, -⟩ := Cond.instantiable_spec wi
  cases e2.symm.trans i1
  cases e3.symm.trans i2
  obtain ⟨kU, u1, u2⟩ := al.2.2 _ _ e3
  have hB : Blank ST x D P.U := ⟨hD, ⟨knV, fun q hq => by rw [hq] at obV; cases obV⟩, by rw [al.findClass]; exact e2, kU, u1, by rw [u2]; exact i3, by rw [u2]; exact e5 i3⟩
  have F1 : Found ST "value" "[B" fV P.U := ⟨SBG.found_only al ⟨cfV, kV, iV, gV⟩, stV⟩
  have F2 : Found ST "coder" "B" fC P.U := ⟨SBG.found_only al ⟨cfC, kC, iC, gC⟩, stC⟩
  have hA : Ch b A P.U := ⟨⟨K.1, State.isArrayOf_alike al K.2.1, K.2.2, by omega⟩, hty⟩
  have hS : StaticIs P.U ST "COMPACT_STRINGS" "Z" (.int z) := by
    obtain ⟨cfS, iS, kS, fS, st, cS, t1, t2, t3, t4, t5, t6, t7⟩ := S
    exact StaticIs.there (s := { Z with heap := P.U.heap }) ⟨cfS, iS, kS, fS, st, cS, t1, t2, t3, t4, t5, (fun q => by rw [q] at t6; cases t6), t7⟩ al rfl
  obtain ⟨v, B, X', ⟨⟨hv, E', V', q1, q2, q3, q4, q5, q6, q7, q8, q9, q10, q11⟩, hl, hc, hs⟩, st⟩ := New1.pays x D fV fC b A z (tab_of (moved hZ hw)) hfr hlo m meth c P g ig mk _ X hg hsize hdg hW hn ⟨r1, r2, rfl, hB, F1, F2, hA, hS, hz, l0, l2, hp⟩
  have al' : Z.vm.Alike B.U.vm := hZ.alike.trans X'.warmed.alike
  have hsz : E'.slots.size = D.slots.size := by
    obtain ⟨-, -, -, kB, w1, w2, w3⟩ := q1
    obtain ⟨kB', y1, y2⟩ := al'.2.2 _ _ e3
    rw [q2.2.1] at w1
    cases w1.symm.trans y1
    rw [w3, e5 i3, y2]
  refine ⟨v, B, X', ⟨_, ⟨hv, ?_, ⟨by omega, fun y cy hy hn' => q10 y cy (by simpa using hn') hy, fun y cy hy => ?_⟩, q11, ⟨E', _, q1.1, by rw [q2.2.1]; exact e2, by rw [q2.2.1]; exact e3, by rw [q2.1]; exact obV, fun _ => by rw [hsz]; exact e5 i3⟩,
    ⟨E', cfV, kV, iV, fV, q1.1, gV, stV, by rw [q2.1]; exact knV, by rw [q2.1]; exact obV, by rw [q2.2.1]; exact asV, q3⟩, ⟨E', cfC, kC, iC, fC, q1.1, gC, stC, by rw [q2.1]; exact knV, by rw [q2.1]; exact obV, by rw [q2.2.1]; exact asC, q4⟩,
    ⟨V', ⟨q5.1, State.isArrayOf_alike al'.symm q5.2.1, q5.2.2.1⟩, q6, by rw [← al'.findClass]; exact q7, q8, fun j hj => by have := q9 j hj; rwa [Nat.zero_add] at this⟩, fun O n d w F n1 n2 => ?_⟩, hl, hc, hs⟩, st⟩
  · intro y hy
    simp only [List.mem_cons, List.not_mem_nil, or_false] at hy
    rcases hy with rfl | rfl <;> rfl
  · by_cases q : y = x
    · subst q
      cases hD.symm.trans hy
      exact ⟨E', q1.1, q2.2.1, q2.1, hsz⟩
    · exact ⟨cy, q10 y cy q hy, rfl, rfl, rfl⟩
  · obtain ⟨D3, cf, k, i, f, g1, g2, g3, g4, g5, g6, g7⟩ := F
    cases hD.symm.trans g1
    simp only [RoadKit.slotOf, g2, gV, gC, Option.map_some, Option.getD_some] at n1 n2
    exact ⟨E', cf, k, i, f, q1.1, g2, g3, by rw [q2.1]; exact g4, by rw [q2.1]; exact g5, by rw [q2.2.1]; exact g6, by rw [q2.2.2 f.slot (by simp [n1, n2])]; exact g7⟩
end StrChars.Road
namespace StrChars.Road
open Jvm Sem ClassFile Op Lib Jvm.Stand Jvm.Free Jvm.Free.XT
/-- WHAT COMES BACK, the byte[] as a list of values -/
def QA (Z : State) (x : Addr) (zn : Int32) (cs : List Int32) (h : Heap) (v : Option Value) (h' : Heap) (L : List Loc) : Prop := v = none ∧ (∀ y ∈ L, y.base = x) ∧ RoadKit.Keep h h' [x] ∧ h'.size = h.size + 1 ∧ RoadKit.Exa Z h' x ST ∧ RoadKit.Fld Z h' x ST "value" "[B" (.ref h.size) ∧ RoadKit.Fld Z h' x ST "coder" "B" (.int 0) ∧
  (∃ kb, Z.vm.findClass "[B" = some kb ∧ RoadKit.Arv Z h' h.size kb .byte zn (cs.map fun c => .int (lo8 c)) (.int 0)) ∧
  ∀ (O n d : String) (w : Value), RoadKit.Fld Z h x O n d w → RoadKit.slotOf Z O n d ≠ RoadKit.slotOf Z ST "value" "[B" → RoadKit.slotOf Z O n d ≠ RoadKit.slotOf Z ST "coder" "B" → RoadKit.Fld Z h' x O n d w
/-- **new String(chars) AT A CALL, THE ARRAYS AS LISTS**: the char[] at b holds cs, not empty, no char above 255 -/
theorem backArv {p : Program} {l : Launch} {e : Env} {R : Room} {s : State} {args : Array Value} {below : List Frame} {len W : Nat} {Z : State} {a0 : Array Value} {h : Heap} (hZ : Z.Warmed39 s.vm) (hw : ∀ d ∈ words, d.before a0 Z = true) {kI : Nat} (wi : (Jvm.Cond.instantiable ST kI).before a0 Z = true)
    {x b : Addr} {k : ClassId} {zn z : Int32} {cs : List Int32} {dv v0 c0 : Value} (E : RoadKit.Exa Z h x ST) (V : RoadKit.Fld Z h x ST "value" "[B" v0) (C : RoadKit.Fld Z h x ST "coder" "B" c0) (K : RoadKit.Arv Z h b k .char zn (cs.map Value.int) dv) (S : RoadKit.Sta Z h ST "COMPACT_STRINGS" "Z" (.int z)) (hz : ¬ z = 0)
    (hlen : zn.toNatClampNeg = cs.length) (h0 : 0 < cs.length) (hbig : cs.length ≤ 536870912) (hall : ∀ c ∈ cs, ¬ 255 < c) (hfr : 4 ≤ R.frames) (hlo : W + 65 ≤ R.locals) :
    Back l R p e below s args New1.yN len W (fun P a => a = #[.ref x, .ref b] ∧ P.U.heap = h ∧ P.cells + 1 ≤ R.cells ∧ P.slots + cs.length ≤ R.slots)
      (fun P _ v B => ∃ L, QA Z x zn cs h v B.U.heap L ∧ B.locs = P.locs ++ L ∧ B.cells = P.cells + 1 ∧ B.slots = P.slots + cs.length) := by
  obtain ⟨A, K1, K2, K3, K4, K5, K6⟩ := K
  have e : A.slots.size = cs.length := K3.trans hlen
  have hat : ∀ (i : Nat) (hi : i < cs.length), A.slots[i]? = some (.int cs[i]) := fun i hi => by rw [K5 i (by omega)]; simp [List.getD_eq_getElem?_getD, hi]
  have hcv : ∀ (i : Nat) (hi : i < cs.length), cv A i = cs[i] := fun i hi => by unfold cv; rw [hat i hi]
  have hty : Typed .char A := fun i v hv => by
    have hi : i < A.slots.size := (Array.getElem?_eq_some_iff.mp hv).1
    have q := K5 i hi
    rw [hv] at q
    rw [Option.some.inj q]
    exact K6 i hi
  refine Back.mono (back hZ hw wi E V C K1 hty S hz (by omega) (by omega) (fun i hi => by rw [hcv i (by omega)]; exact hall _ (List.getElem_mem _)) hfr hlo) (fun P a hp => ⟨hp.1, hp.2.1, hp.2.2.1, by rw [e]; exact hp.2.2.2⟩) (fun P a v B hp hq => ?_)
  obtain ⟨L, ⟨q1, q2, q3, q4, q5, q6, q7, ⟨V', v1, v2, v3, v4, v5⟩, q9⟩, hl, hc, hs⟩ := hq
  refine ⟨L, ⟨q1, q2, q3, q4, q5, q6, q7, ⟨V'.cls, v3, V', v1, rfl, by rw [v4, e, hlen], K4, fun i hi => ?_, fun i hi => ?_⟩, q9⟩, hl, hc, by rw [hs, e]⟩
  · have hi' : i < cs.length := by omega
    rw [v5 i (by omega), hcv i hi']; simp [List.getD_eq_getElem?_getD, hi']
  · have hi' : i < cs.length := by omega
    simp only [List.getD_eq_getElem?_getD, List.getElem?_map, List.getElem?_eq_getElem hi', Option.map_some, Option.getD_some]
    exact fits_lo8 _
end StrChars.Road
namespace StrChars.Road
open Jvm Sem ClassFile Op Lib Jvm.Stand Jvm.Free Jvm.Free.XT
/-- WHAT COMES BACK, in the writer's own shape -/
def QV (Z : State) (x : Addr) (N : Int32) (bs : List Int32) (h : Heap) (n0 : Nat) (v : Option Value) (h' : Heap) (L : List Loc) : Prop := v = none ∧ RoadKit.Fr n0 L ∧ RoadKit.Keep h h' [x] ∧ RoadKit.Exa Z h' x ST ∧ RoadKit.Fld Z h' x ST "coder" "B" (.int 0) ∧
  ∃ (t : Addr) (kb : ClassId), n0 ≤ t ∧ h.size ≤ t ∧ ¬ t = x ∧ RoadKit.Fld Z h' x ST "value" "[B" (.ref t) ∧ RoadKit.Arv Z h' t kb .byte N (bs.map Value.int) (.int 0)
/-- **new String(chars) AT A CALL, FOR THE WRITER**: a char[] of n known ints, each 0 to 255 -/
theorem backV {p : Program} {l : Launch} {e : Env} {R : Room} {s : State} {args : Array Value} {below : List Frame} {len W : Nat} {Z : State} {a0 : Array Value} {h : Heap} (hZ : Z.Warmed39 s.vm) (hw : ∀ d ∈ words, d.before a0 Z = true) {kI : Nat} (wi : (Jvm.Cond.instantiable ST kI).before a0 Z = true)
    {x b : Addr} {kC : ClassId} {cs bs : List Int32} {d v0 c0 : Value} {z N : Int32} {n n0 : Nat} (hx0 : n0 ≤ x) (hh0 : n0 ≤ h.size) (E : RoadKit.Exa Z h x ST) (V : RoadKit.Fld Z h x ST "value" "[B" v0) (C : RoadKit.Fld Z h x ST "coder" "B" c0) (K : RoadKit.Arv Z h b kC .char N (cs.map Value.int) d) (S : RoadKit.Sta Z h ST "COMPACT_STRINGS" "Z" (.int z)) (hz : ¬ z = 0)
    (hn : cs.length = n) (hN : N = Int32.ofNat n) (l0 : 0 < n) (l2 : n ≤ 4000) (hp : ∀ c ∈ cs, ¬ c < 0 ∧ ¬ (255 : Int32) < c) (hb : bs = cs.map (fun c => c.toInt8.toInt32)) (hfr : 4 ≤ R.frames) (hlo : W + 65 ≤ R.locals) :
    Back l R p e below s args (⟨"java/lang/String", "<init>", "([C)V"⟩ : MethodName) len W (fun P a => a = #[.ref x, .ref b] ∧ P.U.heap = h ∧ P.cells + 1 ≤ R.cells ∧ P.slots + n ≤ R.slots)
      (fun P _ v B => ∃ L, QV Z x N bs h n0 v B.U.heap L ∧ B.locs = P.locs ++ L ∧ B.cells = P.cells + 1 ∧ B.slots = P.slots + n) := by
  subst hn hN hb
  refine Back.mono (backArv hZ hw wi E V C K S hz (n32 (by omega)) l0 (by omega) (fun c hc => (hp c hc).2) hfr hlo) (fun P a hp => hp) (fun P a v B hp hq => ?_)
  obtain ⟨L, ⟨q1, q2, q3, q4, q5, q6, q7, ⟨kb, v1, v2⟩, q9⟩, hl, hc, hs⟩ := hq
  exact ⟨L, ⟨q1, fun y hy => by rw [q2 y hy]; exact hx0, q3, q5, q7, h.size, kb, hh0, Nat.le_refl _, Nat.ne_of_gt E.lt, q6, by rw [List.map_map]; exact v2⟩, hl, hc, hs⟩
end StrChars.Road
end Jvm.Pilot.@@N@@
namespace Jvm.Pilot.@@N@@
open Jvm Jvm.ClassFile Sem Op Lib Jvm.Free Jvm.Stand Jvm.LawKit Jvm.RoadKit Bundle Jvm.Pilot.@@N@@.Jvm.D
section OwnGo
/-- from this frame the run ends, and leaves what Q says -/
def Go (p : Program) (e : Env) (below : List Frame) (s : State) (k n : Nat) (Q : Option Value → Heap → List Loc → Prop) (m : MethodId) (T : State) (pc : Nat) (L : Array Slot) (S : List Value) : Prop :=
  ∃ s₂ o, Steps p.tables e below (T.setTop (mkF m pc L S)) s₂ ∧ s₂.status = .running ∧ Ended s₂ below o ∧ ∃ v Ls, o = .returned v ∧ Q v s₂.heap Ls ∧ FrameEnd s o s₂ Ls k n
variable {p : Program} {l : Launch} {e : Env} {R : Room} {s : State} {m : MethodId} {args : Array Value} {below : List Frame} {meth : Method} {c : Code} {T T' : State} {locs : List Loc} {cells slots k n : Nat} {Z : State} {h : Heap} {Q : Option Value → Heap → List Loc → Prop} {pc pc' : Nat} {L L' : Array Slot} {S S' : List Value}
theorem Go.st (h : ∀ t, Steps p.tables e below (T'.setTop (mkF m pc' L' S')) t → Steps p.tables e below (T.setTop (mkF m pc L S)) t) (g : Go p e below s k n Q m T' pc' L' S') : Go p e below s k n Q m T pc L S := by
  obtain ⟨a, b, c, d⟩ := g; exact ⟨a, b, h _ c, d⟩
theorem Go.tr (h : Steps p.tables e below (T.setTop (mkF m pc L S)) (T'.setTop (mkF m pc' L' S'))) (g : Go p e below s k n Q m T' pc' L' S') : Go p e below s k n Q m T pc L S := Go.st (fun _ q => h.trans q) g
theorem Go.retV (X : Stand p l e R s m args below meth c T locs cells slots) (hx : p.tables.exec = Jvm.exec) (hlk : meth.locks = false) (hret : meth.sig.returnType = none) (hd : decode c.code pc = .ok (.return_, 1)) (hk : cells ≤ k) (hn : slots ≤ n) (hq : Q none T.heap locs) : Go p e below s k n Q m T pc L [] := by
  obtain ⟨fs, hr, hrun, hended, hW, hsame⟩ := X.leave (v := none) (fun _ => rfl) hlk
  exact ⟨_, _, X.returnOut hx hret hd hr, hrun, hended, _, _, rfl, hq, ⟨_, rfl⟩, hW, hsame.mono hk hn⟩
theorem Go.retN (X : Stand p l e R s m args below meth c T locs cells slots) (hx : p.tables.exec = Jvm.exec) (hlk : meth.locks = false) {t : FieldType} {z : Int32} {rest : List Value} (hret : meth.sig.returnType = some t) (ht : t = .boolean ∨ t = .byte ∨ t = .char ∨ t = .short) (hd : decode c.code pc = .ok (.ireturn, 1)) (hk : cells ≤ k) (hn : slots ≤ n) (hq : Q (some (.int (nar t z))) T.heap locs) : Go p e below s k n Q m T pc L (.int z :: rest) := by
  obtain ⟨fs, hr, hrun, hended, hW, hsame⟩ := X.leave (v := some (.int (nar t z))) (fun h => by rw [hret] at h; cases h) hlk
  exact ⟨_, _, Jvm.RoadKit.retN X hx hret ht hd hr, hrun, hended, _, _, rfl, hq, ⟨_, rfl⟩, hW, hsame.mono hk hn⟩
theorem Go.retO (X : Stand p l e R s m args below meth c T locs cells slots) (hx : p.tables.exec = Jvm.exec) (hlk : meth.locks = false) {t : FieldType} {w : Value} {i : Instr} {rest : List Value} (hret : meth.sig.returnType = some t) (hw : narrow t w = w) (hi : (i = .ireturn ∧ (t = .int ∨ t = .boolean ∨ t = .byte ∨ t = .char ∨ t = .short) ∧ ∃ z, w = .int z) ∨ (i = .lreturn ∧ t = .long ∧ ∃ z, w = .long z) ∨ (i = .dreturn ∧ t = .double ∧ ∃ z, w = .double z) ∨ (i = .freturn ∧ t = .float ∧ ∃ z, w = .float z) ∨ (i = .areturn ∧ t.isReference = true ∧ w.isRef = true)) (hd : decode c.code pc = .ok (i, 1)) (hk : cells ≤ k) (hn : slots ≤ n) (hq : Q (some w) T.heap locs) : Go p e below s k n Q m T pc L (w :: rest) := by
  obtain ⟨fs, hr, hrun, hended, hW, hsame⟩ := X.leave (v := some w) (fun h => by rw [hret] at h; cases h) hlk
  exact ⟨_, _, retOut X hx hret hw hi hd hr, hrun, hended, _, _, rfl, hq, ⟨_, rfl⟩, hW, hsame.mono hk hn⟩
theorem Stand.up (X : Stand p l e R s m args below meth c T locs cells slots) (hk : cells ≤ k) (hn : slots ≤ n) : Stand p l e R s m args below meth c T locs k n :=
  ⟨X.admits, X.cas, X.clock, X.frames, X.room, X.hears, X.method, X.code, X.here, X.tail, X.warmed, X.limits, X.bytes, X.same.mono hk hn⟩
theorem own_len (X : Stand p l e R s m args below meth c T locs cells slots) (hx : p.tables.exec = Jvm.exec) (hZ : Z.Warmed39 s.vm) (eT : T.heap = h) {a : Addr} {cl : Cell} {ty : FieldType} {z : Int32} (A : Arr Z h a cl ty) (S : cl.slots.size = z.toNatClampNeg) (q : ¬ z < 0) {g : JFrame} (hg : g.method = m) {rest : List Value} (hs : g.stack = .ref a :: rest) (hd : decode c.code g.pc = .ok (.arraylength, 1)) (t : State)
    (k : Steps p.tables e below (T.setTop { g with pc := g.pc + 1, stack := .int z :: rest }) t) : Steps p.tables e below (T.setTop g) t := by
  refine X.arraylength hx (by rw [eT]; exact A.1) (State.isArrayOf_alike hZ.alike A.2.1) (g := g) hg hs hd _ ?_
  rw [len_of S q]; exact k
theorem own_met {l : Launch} {y : MethodName} {bytes : ByteArray} {maxL : Nat} {ret : Option FieldType} {ws : List Jvm.Cond} {rm : Room} {A : Array Value} {Z : State} {h0 : Heap} {Q : Option Value → Heap → List Loc → Prop} {L0 : Array Slot} {K N : Nat} (hpl : plainFor y = true) (hef : ∀ m, entryFrame m A maxL = mkF m 0 L0 [])
    (body : ∀ (p : Program) (e : Env) (s : State) (m : MethodId) (below : List Frame) (meth : Method) (c : Code) (s₁ : State), Stand p l e rm s m A below meth c s₁ [] 0 0 → p.tables.exec = Jvm.exec → c.code = bytes → c.maxLocals = maxL → s.vm.findClass y.cls = some m.cls → meth.name = y.name → meth.sig.returnType = ret → meth.locks = false → Z.Warmed39 s.vm → s₁.heap = h0 → Go p e below s K N Q m s₁ 0 L0 []) :
    MetFree l y (head1 (Jvm.Cond.code y bytes maxL ret :: ws) rm) (fun a U => a = A ∧ Z.Warmed39 U.vm ∧ U.heap = h0) (fun _ _ _ _ _ => True) (fun _ U o U' => ∃ v L, o = .returned v ∧ Q v U'.heap L ∧ FrameEnd U o U' L K N) := by
  refine MetFree.of_bodySF hpl hisR ?_
  intro p e s m args below meth c s₁ Bd hml0 hP hK
  obtain ⟨rfl, hZ, hh⟩ := hP
  obtain ⟨s₂, o, h1, h2⟩ := body p e s m below meth c s₁ (Stand.of_body Bd) Bd.exec Bd.bytes hml0 (findClass_of_methodNamed Bd.named) (name_of_methodNamed Bd.named Bd.method).1 Bd.returns Bd.notSynchronized hZ (by rw [← hh, Bd.state]; rfl)
  exact ⟨s₂, o, castTop (hef m) h1, h2⟩
end OwnGo
theorem own_and255 (x : Int32) : ¬ nar .char ((x &&& (255 : Int32)).toUInt32.toUInt16.toUInt32.toInt32) < 0 ∧ ¬ (255 : Int32) < nar .char ((x &&& (255 : Int32)).toUInt32.toUInt16.toUInt32.toInt32) := by
  have e1 : nar .char ((x &&& (255 : Int32)).toUInt32.toUInt16.toUInt32.toInt32) = x &&& 255 := by simp only [nar, i2c_mask]
  rw [e1]
  have h := c_mask x 255 8 (by decide) (by decide)
  have e0 : (0 : Int32).toInt = 0 := rfl
  have e2 : (255 : Int32).toInt = 255 := rfl
  simp only [Int32.lt_iff_toInt_lt, h, e0, e2]
  omega
theorem own_c255 (x : Int32) : ¬ (x &&& (255 : Int32)).toUInt32.toUInt16.toUInt32.toInt32 < 0 ∧ ¬ (255 : Int32) < (x &&& (255 : Int32)).toUInt32.toUInt16.toUInt32.toInt32 := by
  rw [i2c_mask]
  have h := c_mask x 255 8 (by decide) (by decide)
  have e0 : (0 : Int32).toInt = 0 := rfl
  have e2 : (255 : Int32).toInt = 255 := rfl
  simp only [Int32.lt_iff_toInt_lt, h, e0, e2]
  omega
theorem own_neArv {Z : State} {h : Heap} {a b : Addr} {k k' : ClassId} {ty ty' : FieldType} {z z' : Int32} {vs vs' : List Value} {d d' : Value} (A : Arv Z h a k ty z vs d) (B : Arv Z h b k' ty' z' vs' d') (hz : z.toNatClampNeg ≠ z'.toNatClampNeg) : a ≠ b := fun e => by
  subst e
  obtain ⟨c, A1, -, A2, -⟩ := A
  obtain ⟨c', B1, -, B2, -⟩ := B
  cases A1.1.symm.trans B1.1
  exact hz (A2.symm.trans B2)
theorem own_oneF {Z : State} {h : Heap} {a : Addr} {C n d : String} {v w : Value} (F : Fld Z h a C n d v) (G : Fld Z h a C n d w) : v = w := by
  obtain ⟨c1, _, _, _, _, h1, h2, -, -, -, -, h7⟩ := F
  obtain ⟨c2, _, _, _, _, g1, g2, -, -, -, -, g7⟩ := G
  cases h1.symm.trans g1; cases h2.symm.trans g2; exact Option.some.inj (h7.symm.trans g7)
section OwnGoH
/-- as Go, where String constants may be loaded: the wide frame, and the invariant of the constants held -/
def GoH (Z : State) (EL : List (String × Nat)) (p : Program) (e : Env) (below : List Frame) (s : State) (k n : Nat) (Q : Option Value → Heap → List Loc → Prop) (m : MethodId) (T : State) (pc : Nat) (L : Array Slot) (S : List Value) : Prop :=
  ∃ s₂ o, Steps p.tables e below (T.setTop (mkF m pc L S)) s₂ ∧ s₂.status = .running ∧ Ended s₂ below o ∧ ∃ v Ls, o = .returned v ∧ Q v s₂.heap Ls ∧ CHr Z EL s.vm s.heap s₂.vm s₂.heap ∧ ReturnedEndW s o s₂ Ls k n
variable {p : Program} {l : Launch} {e : Env} {R : Room} {s : State} {m : MethodId} {args : Array Value} {below : List Frame} {meth : Method} {c : Code} {T T' : State} {locs : List Loc} {cells slots k n k0 : Nat} {Z : State} {a0 : Array Value} {h h0 : Heap} {vm0 : Vm} {EL : List (String × Nat)} {Q : Option Value → Heap → List Loc → Prop} {pc pc' : Nat} {L L' : Array Slot} {S S' : List Value}
theorem GoH.st (h : ∀ t, Steps p.tables e below (T'.setTop (mkF m pc' L' S')) t → Steps p.tables e below (T.setTop (mkF m pc L S)) t) (g : GoH Z EL p e below s k n Q m T' pc' L' S') : GoH Z EL p e below s k n Q m T pc L S := by
  obtain ⟨a, b, c, d⟩ := g; exact ⟨a, b, h _ c, d⟩
theorem GoH.tr (h : Steps p.tables e below (T.setTop (mkF m pc L S)) (T'.setTop (mkF m pc' L' S'))) (g : GoH Z EL p e below s k n Q m T' pc' L' S') : GoH Z EL p e below s k n Q m T pc L S := GoH.st (fun _ q => h.trans q) g
theorem own_upW {s t : State} {o : Outcome} {L : List Loc} {k n k' n' : Nat} (h : ReturnedEndW s o t L k n) (hk : k ≤ k') (hn : n ≤ n') : ReturnedEndW s o t L k' n' := ⟨h.1, h.2.1, h.2.2.1, h.2.2.2.mono hk hn⟩
theorem own_chr (X : Stand p l e R (s.setVm vm0) m args below meth c T locs cells slots) (eT : T.heap = h) (hs0 : s.heap = h0) (hZ : Z.Warmed39 vm0) (hEL : EW Z a0 EL) (CR : CHr Z EL s.vm h0 vm0 h) : CHr Z EL s.vm s.heap T.vm T.heap := by
  rw [eT, hs0]; exact CR.trans (CHv.at X hZ hEL CR.1)
theorem GoH.retV (X : Stand p l e R (s.setVm vm0) m args below meth c T locs cells slots) (hx : p.tables.exec = Jvm.exec) (hlk : meth.locks = false) (hret : meth.sig.returnType = none) (hd : decode c.code pc = .ok (.return_, 1)) (hk : cells ≤ k) (hn : slots ≤ n) (hS : s.Since vm0 k0) (hk0 : k0 ≤ h.size) (eT : T.heap = h) (hs0 : s.heap = h0) (hZ : Z.Warmed39 vm0) (hEL : EW Z a0 EL) (CR : CHr Z EL s.vm h0 vm0 h) (hq : Q none T.heap locs) : GoH Z EL p e below s k n Q m T pc L [] := by
  obtain ⟨fs, hr, hrun, hended, hW⟩ := X.leaveW hS (by rw [eT]; exact hk0) (v := none) (fun _ => rfl) hlk
  have hc := own_chr X eT hs0 hZ hEL CR
  exact ⟨_, _, X.returnOut hx hret hd hr, hrun, hended, _, _, rfl, hq, hc, own_upW hW hk hn⟩
theorem GoH.retN (X : Stand p l e R (s.setVm vm0) m args below meth c T locs cells slots) (hx : p.tables.exec = Jvm.exec) (hlk : meth.locks = false) {t : FieldType} {z : Int32} {rest : List Value} (hret : meth.sig.returnType = some t) (ht : t = .boolean ∨ t = .byte ∨ t = .char ∨ t = .short) (hd : decode c.code pc = .ok (.ireturn, 1)) (hk : cells ≤ k) (hn : slots ≤ n) (hS : s.Since vm0 k0) (hk0 : k0 ≤ h.size) (eT : T.heap = h) (hs0 : s.heap = h0) (hZ : Z.Warmed39 vm0) (hEL : EW Z a0 EL) (CR : CHr Z EL s.vm h0 vm0 h) (hq : Q (some (.int (nar t z))) T.heap locs) : GoH Z EL p e below s k n Q m T pc L (.int z :: rest) := by
  obtain ⟨fs, hr, hrun, hended, hW⟩ := X.leaveW hS (by rw [eT]; exact hk0) (v := some (.int (nar t z))) (fun h => by rw [hret] at h; cases h) hlk
  have hc := own_chr X eT hs0 hZ hEL CR
  exact ⟨_, _, Jvm.RoadKit.retN X hx hret ht hd hr, hrun, hended, _, _, rfl, hq, hc, own_upW hW hk hn⟩
theorem GoH.retO (X : Stand p l e R (s.setVm vm0) m args below meth c T locs cells slots) (hx : p.tables.exec = Jvm.exec) (hlk : meth.locks = false) {t : FieldType} {w : Value} {i : Instr} {rest : List Value} (hret : meth.sig.returnType = some t) (hw : narrow t w = w) (hi : (i = .ireturn ∧ (t = .int ∨ t = .boolean ∨ t = .byte ∨ t = .char ∨ t = .short) ∧ ∃ z, w = .int z) ∨ (i = .lreturn ∧ t = .long ∧ ∃ z, w = .long z) ∨ (i = .dreturn ∧ t = .double ∧ ∃ z, w = .double z) ∨ (i = .freturn ∧ t = .float ∧ ∃ z, w = .float z) ∨ (i = .areturn ∧ t.isReference = true ∧ w.isRef = true)) (hd : decode c.code pc = .ok (i, 1)) (hk : cells ≤ k) (hn : slots ≤ n) (hS : s.Since vm0 k0) (hk0 : k0 ≤ h.size) (eT : T.heap = h) (hs0 : s.heap = h0) (hZ : Z.Warmed39 vm0) (hEL : EW Z a0 EL) (CR : CHr Z EL s.vm h0 vm0 h) (hq : Q (some w) T.heap locs) : GoH Z EL p e below s k n Q m T pc L (w :: rest) := by
  obtain ⟨fs, hr, hrun, hended, hW⟩ := X.leaveW hS (by rw [eT]; exact hk0) (v := some w) (fun h => by rw [hret] at h; cases h) hlk
  have hc := own_chr X eT hs0 hZ hEL CR
  exact ⟨_, _, retOut X hx hret hw hi hd hr, hrun, hended, _, _, rfl, hq, hc, own_upW hW hk hn⟩
theorem own_metH {l : Launch} {y : MethodName} {bytes : ByteArray} {maxL : Nat} {ret : Option FieldType} {ws : List Jvm.Cond} {rm : Room} {A : Array Value} {Z : State} {EL : List (String × Nat)} {h0 : Heap} {Q : Option Value → Heap → List Loc → Prop} {L0 : Array Slot} {K N : Nat} (hpl : plainFor y = true) (hef : ∀ m, entryFrame m A maxL = mkF m 0 L0 [])
    (body : ∀ (p : Program) (e : Env) (s : State) (m : MethodId) (below : List Frame) (meth : Method) (c : Code) (s₁ : State), Stand p l e rm (s.setVm s.vm) m A below meth c s₁ [] 0 0 → p.tables.exec = Jvm.exec → c.code = bytes → c.maxLocals = maxL → (s.setVm s.vm).vm.findClass y.cls = some m.cls → meth.name = y.name → meth.sig.returnType = ret → meth.locks = false → Z.Warmed39 (s.setVm s.vm).vm → s₁.heap = h0 → s.heap = h0 → CHr Z EL s.vm h0 s.vm h0 → s.Since s.vm 0 → 0 ≤ h0.size → GoH Z EL p e below s K N Q m s₁ 0 L0 []) :
    MetFree l y (head1 (Jvm.Cond.code y bytes maxL ret :: ws) rm) (fun a U => a = A ∧ Z.Warmed39 U.vm ∧ U.heap = h0 ∧ CHv Z EL U.vm h0) (fun _ _ _ _ _ => True) (fun _ U o U' => ∃ v L, o = .returned v ∧ Q v U'.heap L ∧ CHr Z EL U.vm U.heap U'.vm U'.heap ∧ ReturnedEndW U o U' L K N) := by
  refine MetFree.of_bodySF hpl hisR ?_
  intro p e s m args below meth c s₁ Bd hml0 hP hK
  obtain ⟨rfl, hZ, hh, hC⟩ := hP
  obtain ⟨s₂, o, h1, h2⟩ := body p e s m below meth c s₁ (Stand.of_body Bd) Bd.exec Bd.bytes hml0 (findClass_of_methodNamed Bd.named) (name_of_methodNamed Bd.named Bd.method).1 Bd.returns Bd.notSynchronized hZ (by rw [← hh, Bd.state]; rfl) hh (CHr.refl hC) ((State.WarmedH.refl s).since 0) (Nat.zero_le _)
  exact ⟨s₂, o, castTop (hef m) h1, h2⟩
theorem own_safeV {x : Addr} {kk : ClassId} {ty : FieldType} {z : Int32} {vs : List Value} {dv : Value} (hal : Z.vm.Alike vm0) (V : Arv Z h x kk ty z vs dv) (ht : ty ≠ .byte) : Safe Z EL vm0 h x := by
  obtain ⟨cl, A, -⟩ := V; exact Safe.arr hal A ht
theorem own_safeS {x : Addr} (hal : Z.vm.Alike vm0) (E : Exa Z h x "java/lang/String") (F : Fld Z h x "java/lang/String" "value" "[B" .null) : Safe Z EL vm0 h x := fun B => by
  obtain ⟨cell, kE, e1, e2, e3, -, -⟩ := E
  obtain ⟨cell', cf, kF, iF, f, f1, f2, f3, f4, f5, f6, f7⟩ := F
  cases e1.symm.trans f1
  obtain ⟨p, -, u, a, -, q, -, G, rfl | rfl⟩ := B
  · cases (show h[q.sa]? = some q.sC from G.ha).symm.trans e1
    obtain ⟨cS, ⟨⟨-, -, -, ⟨c1, k1, i1, g1, -⟩, -, -, -, v1, -⟩, -⟩, -⟩ := G
    obtain ⟨k3, g3, -⟩ := State.fieldFound?_setVm (s := Z) (vm' := vm0) hal f2
    have g4 := (show (Wst Z vm0 h).fieldFound? "java/lang/String" "value" "[B" = _ from g3).symm.trans g1
    simp only [Option.some.injEq, Prod.mk.injEq] at g4
    rw [← g4.2.2.2, f7] at v1
    cases v1
  · cases (show h[q.sd]? = some q.SA from G.hd).symm.trans e1
    obtain ⟨cS, -, -, g1, -⟩ := G
    have g2 : vm0.findClass "[B" = some q.SA.cls := g1
    rw [hal.findClass] at g2
    obtain ⟨k1, q1, q2⟩ := Vm.findClass_spec g2
    obtain ⟨k2, q3, q4⟩ := Vm.findClass_spec e2
    cases q1.symm.trans q3
    exact absurd (q2.symm.trans q4) (by decide)
end OwnGoH
theorem own_wS {Z : State} {a0 : Array Value} (hw : ∀ d ∈ tables_1, d.before a0 Z = true) : ∀ a ∈ Bundle.stringAtoms, a.before a0 Z = true := fun d hd => hw d ((by decide +kernel : ∀ d ∈ Bundle.stringAtoms, d ∈ tables_1) d hd)

def EL : List (String × Nat) := [("com/example/placewright/placewright/cli/Option", 23), ("com/example/placewright/placewright/cli/Option", 29), ("com/example/placewright/placewright/cli/Option", 35), ("java/lang/String", 7)]
theorem own_EW {Z : State} {a0 : Array Value} (hw : ∀ d ∈ tables_1, d.before a0 Z = true) : EW Z a0 EL := (EW.cons (hw _ (List.mem_of_getElem? (i := 60) rfl)) (by decide) (EW.cons (hw _ (List.mem_of_getElem? (i := 85) rfl)) (by decide) (EW.cons (hw _ (List.mem_of_getElem? (i := 116) rfl)) (by decide) (EW.cons (hw _ (List.mem_of_getElem? (i := 34) rfl)) (by decide) EW.nil))))
theorem d7_0 : decode jdk_42_method_149_code 0 = .ok (.aload_n 0, 1) := by decide +kernel
theorem d7_1 : decode jdk_42_method_149_code 1 = .ok (.invokespecial 1, 3) := by decide +kernel
theorem d7_4 : decode jdk_42_method_149_code 4 = .ok (.iload_n 3, 1) := by decide +kernel
theorem d7_5 : decode jdk_42_method_149_code 5 = .ok (.ifCond .ne 22, 3) := by decide +kernel
theorem d7_8 : decode jdk_42_method_149_code 8 = .ok (.aload_n 0, 1) := by decide +kernel
theorem d7_9 : decode jdk_42_method_149_code 9 = .ok (.ldc 7, 2) := by decide +kernel
theorem d7_11 : decode jdk_42_method_149_code 11 = .ok (.getfield 9, 3) := by decide +kernel
theorem d7_14 : decode jdk_42_method_149_code 14 = .ok (.putfield 9, 3) := by decide +kernel
theorem d7_17 : decode jdk_42_method_149_code 17 = .ok (.aload_n 0, 1) := by decide +kernel
theorem d7_18 : decode jdk_42_method_149_code 18 = .ok (.ldc 7, 2) := by decide +kernel
theorem d7_20 : decode jdk_42_method_149_code 20 = .ok (.getfield 15, 3) := by decide +kernel
theorem d7_23 : decode jdk_42_method_149_code 23 = .ok (.putfield 15, 3) := by decide +kernel
theorem d7_26 : decode jdk_42_method_149_code 26 = .ok (.return_, 1) := by decide +kernel
theorem pn_0 : plainName "java/lang/String" = true := by first | (simp [plainName, overriddenIn]; done) | decide +kernel
def QE149 (Z : State) (a1 : Addr) (h0 : Heap) (n0 : Nat) (v : Option Value) (h : Heap) (L : List Loc) : Prop := ∃ (t : Addr) (kb : ClassId), v = none ∧ Fr n0 L ∧ Keep h0 h [a1] ∧ Fld Z h a1 "java/lang/String" "coder" "B" (.int 0) ∧ a1 ≠ t ∧ Fld Z h a1 "java/lang/String" "value" "[B" (.ref t) ∧ Arv Z h t kb .byte (0 : Int32) [] (.int (0 : Int32))
def roomE149 : Room := { frames := 1, cells := 4, slots := 8, locals := 12 }
set_option maxRecDepth 65536 in
set_option maxHeartbeats 40000000 in
theorem rmE149 (l : Launch) (Z : State) (a0 : Array Value) (hw : ∀ d ∈ tables_1, d.before a0 Z = true) (ws : List Jvm.Cond) (a1 : Addr) (a2 : Addr) (h0 : Heap) (n0 : Nat) (Z0 : n0 ≤ h0.size) (E_a1 : Exa Z h0 a1 "java/lang/String") (g_a1 : n0 ≤ a1) (F_value : Fld Z h0 a1 "java/lang/String" "value" "[B" .null) (F_coder : Fld Z h0 a1 "java/lang/String" "coder" "B" (.int (0 : Int32))) :
    MetFree l (⟨"java/lang/String", "<init>", "([CIILjava/lang/Void;)V"⟩ : MethodName) (head1 (Jvm.Cond.code (⟨"java/lang/String", "<init>", "([CIILjava/lang/Void;)V"⟩ : MethodName) jdk_42_method_149_code 6 none :: ws) roomE149) (fun aa_ U_ => aa_ = #[(.ref a1), (.ref a2), (.int (0 : Int32)), (.int (0 : Int32)), .null] ∧ Z.Warmed39 U_.vm ∧ U_.heap = h0 ∧ CHv Z EL U_.vm h0) (fun _ _ _ _ _ => True) (fun _ U_ o_ W_ => ∃ v_ L_, o_ = .returned v_ ∧ (QE149 Z a1 h0 n0) v_ W_.heap L_ ∧ CHr Z EL U_.vm U_.heap W_.vm W_.heap ∧ ReturnedEndW U_ o_ W_ L_ roomE149.cells roomE149.slots) := by
  refine own_metH (Q := (QE149 Z a1 h0 n0)) (L0 := #[.val (.ref a1), .val (.ref a2), .val (.int (0 : Int32)), .val (.int (0 : Int32)), .val .null, .unset]) (plainFor_of_name pn_0) (fun m => by first | (simp [entryFrame, mkF, argsToLocals, Value.category]; done) | rfl) ?_
  intro p e s m below meth c T0 X0 hx hby hml hown hnm hret hlk hZ e0 hs0 CR hS hk
  have N0 := Fr.nil n0
  have K0 := Keep.refl h0 [a1]
  have S_a1 : Safe Z EL s.vm h0 a1 := own_safeS hZ.alike E_a1 F_value
  refine GoH.st (T' := T0) (pc' := 1) (L' := #[.val (.ref a1), .val (.ref a2), .val (.int (0 : Int32)), .val (.int (0 : Int32)), .val .null, .unset]) (S' := [(.ref a1)]) (fun t_ k_ => XS.aloadN X0.here hx rfl (hb hby d7_0) rfl rfl  k_) ?_
  obtain ⟨T1, X1, e1, st1⟩ := initO X0 hx hZ hown (hw _ (List.mem_of_getElem? (i := 19) rfl)) (hw _ (List.mem_of_getElem? (i := 20) rfl)) (hw _ (List.mem_of_getElem? (i := 21) rfl)) e0 (g := (mkF m 1 #[.val (.ref a1), .val (.ref a2), .val (.int (0 : Int32)), .val (.int (0 : Int32)), .val .null, .unset] [(.ref a1)])) rfl (by rw [hml]; rfl) rfl (hb hby d7_1) (by decide) (W := 0) (by show 2 * 0 + _ ≤ _; exact Nat.le_of_eq rfl) (by decide)
  refine GoH.st (T' := T1) (pc' := 4) (L' := #[.val (.ref a1), .val (.ref a2), .val (.int (0 : Int32)), .val (.int (0 : Int32)), .val .null, .unset]) (S' := []) st1 ?_
  refine GoH.st (T' := T1) (pc' := 5) (L' := #[.val (.ref a1), .val (.ref a2), .val (.int (0 : Int32)), .val (.int (0 : Int32)), .val .null, .unset]) (S' := [(.int (0 : Int32))]) (fun t_ k_ => XS.iloadN X1.here hx rfl (hb hby d7_4) rfl  k_) ?_
  refine GoH.st (T' := T1) (pc' := 8) (L' := #[.val (.ref a1), .val (.ref a2), .val (.int (0 : Int32)), .val (.int (0 : Int32)), .val .null, .unset]) (S' := []) (fun t_ k_ => XS.ifNo X1.here hx rfl (hb hby d7_5) rfl ((if0 _ _).trans (teq (by decide : ((0 : Int32) = (0 : Int32)))).2) k_) ?_
  refine GoH.st (T' := T1) (pc' := 9) (L' := #[.val (.ref a1), .val (.ref a2), .val (.int (0 : Int32)), .val (.int (0 : Int32)), .val .null, .unset]) (S' := [(.ref a1)]) (fun t_ k_ => XS.aloadN X1.here hx rfl (hb hby d7_8) rfl rfl  k_) ?_
  obtain ⟨a2_, T2, h2, k2, b2_, c2, X2, e2, E2, hS2, hk2, hZ2, ho2, E_a2_, Fc_a2_, Fv_a2_, V_b2_, lta2, ltb2, CR2, -, Sf2, st2⟩ := ldcCH X1 hx hZ hown (hw _ (List.mem_of_getElem? (i := 34) rfl)) (own_wS hw) e1 hS hk (own_EW hw) (by decide : ("java/lang/String", 7) ∈ EL) CR.1 (vs := []) (z := (0 : Int32)) ⟨by decide, by decide⟩ (by decide) rfl (g := (mkF m 9 #[.val (.ref a1), .val (.ref a2), .val (.int (0 : Int32)), .val (.int (0 : Int32)), .val .null, .unset] [(.ref a1)])) rfl (hb hby d7_9) (n := 0) (by decide) (by decide) (by decide) (by decide)
  replace S_a1 := CR2.safe E_a1.lt S_a1
  replace CR := CR.trans CR2
  replace Z0 := Nat.le_trans Z0 E2.1
  replace K0 := K0.ext E2
  replace E_a1 := E_a1.ext E2
  replace F_value := F_value.ext E2
  replace F_coder := F_coder.ext E2
  replace hZ := hZ2
  replace hown := ho2
  replace hS := hS2
  replace hk := hk2
  have ne_a1_a2_ := (Sf2 _ S_a1).1
  have ne_a1_b2_ := (Sf2 _ S_a1).2
  refine GoH.st (T' := T2) (pc' := 11) (L' := #[.val (.ref a1), .val (.ref a2), .val (.int (0 : Int32)), .val (.int (0 : Int32)), .val .null, .unset]) (S' := [(.ref a2_), (.ref a1)]) st2 ?_
  obtain ⟨T3, X3, e3, st3⟩ := getF X2 hx hZ hown (host := "") (Or.inl (hw _ (List.mem_of_getElem? (i := 22) rfl))) Via.refl e2 Fv_a2_ (g := (mkF m 11 #[.val (.ref a1), .val (.ref a2), .val (.int (0 : Int32)), .val (.int (0 : Int32)), .val .null, .unset] [(.ref a2_), (.ref a1)])) rfl rfl (hb hby d7_11)
  refine GoH.st (T' := T3) (pc' := 14) (L' := #[.val (.ref a1), .val (.ref a2), .val (.int (0 : Int32)), .val (.int (0 : Int32)), .val .null, .unset]) (S' := [(.ref b2_), (.ref a1)]) st3 ?_
  obtain ⟨T4, h4, X4, e4, W4, st4⟩ := putF X3 hx hZ hown (host := "") (Or.inl (hw _ (List.mem_of_getElem? (i := 22) rfl))) Via.refl e3 F_value E_a1 (Or.inr ⟨(hw _ (List.mem_of_getElem? (i := 23) rfl)), rfl, hnm⟩) (hw _ (List.mem_of_getElem? (i := 10) rfl)) (ty := (.array .byte)) (by decide) rfl rfl (g := (mkF m 14 #[.val (.ref a1), .val (.ref a2), .val (.int (0 : Int32)), .val (.int (0 : Int32)), .val .null, .unset] [(.ref b2_), (.ref a1)])) rfl rfl (hb hby d7_14)
  have Sw5 : Safe Z EL T2.vm h2 a1 := S_a1
  replace S_a1 := Safe.wr W4 Sw5 CR.1 S_a1
  replace CR := CR.trans (CHr.wr W4 Sw5 CR.1)
  replace hk := Nat.le_trans hk (Keep.of_wr W4).1
  replace Z0 := Nat.le_trans Z0 (Keep.of_wr W4).1
  replace K0 := K0.wr W4 (Or.inl (List.mem_of_getElem? (i := 0) rfl))
  replace E_a1 := E_a1.wr W4
  replace F_coder := F_coder.other W4 (Or.inr (slot_ne (Or.inr (hw _ (List.mem_of_getElem? (i := 25) rfl))) (Or.inr (hw _ (List.mem_of_getElem? (i := 23) rfl))) (by decide) (t := .byte) (t' := (.array .byte)) (by decide) (by decide)))
  replace E_a2_ := E_a2_.wr W4
  replace Fc_a2_ := Fc_a2_.other W4 (Or.inl (Ne.symm ne_a1_a2_))
  replace Fv_a2_ := Fv_a2_.other W4 (Or.inl (Ne.symm ne_a1_a2_))
  replace V_b2_ := V_b2_.other W4 (Ne.symm ne_a1_b2_)
  replace F_value := F_value.same W4
  have N4 := Fr.snoc X4 N0 g_a1
  refine GoH.st (T' := T4) (pc' := 17) (L' := #[.val (.ref a1), .val (.ref a2), .val (.int (0 : Int32)), .val (.int (0 : Int32)), .val .null, .unset]) (S' := []) st4 ?_
  refine GoH.st (T' := T4) (pc' := 18) (L' := #[.val (.ref a1), .val (.ref a2), .val (.int (0 : Int32)), .val (.int (0 : Int32)), .val .null, .unset]) (S' := [(.ref a1)]) (fun t_ k_ => XS.aloadN X4.here hx rfl (hb hby d7_17) rfl rfl  k_) ?_
  obtain ⟨a6_, T6, h6, k6, b6_, c6, X6, e6, E6, hS6, hk6, hZ6, ho6, E_a6_, Fc_a6_, Fv_a6_, V_b6_, lta6, ltb6, CR6, -, Sf6, st6⟩ := ldcCH X4 hx hZ hown (hw _ (List.mem_of_getElem? (i := 34) rfl)) (own_wS hw) e4 hS hk (own_EW hw) (by decide : ("java/lang/String", 7) ∈ EL) CR.1 (vs := []) (z := (0 : Int32)) ⟨by decide, by decide⟩ (by decide) rfl (g := (mkF m 18 #[.val (.ref a1), .val (.ref a2), .val (.int (0 : Int32)), .val (.int (0 : Int32)), .val .null, .unset] [(.ref a1)])) rfl (hb hby d7_18) (n := 0) (by decide) (by decide) (by decide) (by decide)
  replace S_a1 := CR6.safe E_a1.lt S_a1
  replace CR := CR.trans CR6
  replace Z0 := Nat.le_trans Z0 E6.1
  replace K0 := K0.ext E6
  replace E_a1 := E_a1.ext E6
  replace F_value := F_value.ext E6
  replace F_coder := F_coder.ext E6
  replace E_a2_ := E_a2_.ext E6
  replace Fc_a2_ := Fc_a2_.ext E6
  replace Fv_a2_ := Fv_a2_.ext E6
  replace V_b2_ := V_b2_.ext E6
  replace hZ := hZ6
  replace hown := ho6
  replace hS := hS6
  replace hk := hk6
  have ne_a1_a6_ := (Sf6 _ S_a1).1
  have ne_a1_b6_ := (Sf6 _ S_a1).2
  refine GoH.st (T' := T6) (pc' := 20) (L' := #[.val (.ref a1), .val (.ref a2), .val (.int (0 : Int32)), .val (.int (0 : Int32)), .val .null, .unset]) (S' := [(.ref a6_), (.ref a1)]) st6 ?_
  obtain ⟨T7, X7, e7, st7⟩ := getF X6 hx hZ hown (host := "") (Or.inl (hw _ (List.mem_of_getElem? (i := 24) rfl))) Via.refl e6 Fc_a6_ (g := (mkF m 20 #[.val (.ref a1), .val (.ref a2), .val (.int (0 : Int32)), .val (.int (0 : Int32)), .val .null, .unset] [(.ref a6_), (.ref a1)])) rfl rfl (hb hby d7_20)
  refine GoH.st (T' := T7) (pc' := 23) (L' := #[.val (.ref a1), .val (.ref a2), .val (.int (0 : Int32)), .val (.int (0 : Int32)), .val .null, .unset]) (S' := [(.int (0 : Int32)), (.ref a1)]) st7 ?_
  obtain ⟨T8, h8, X8, e8, W8, st8⟩ := putFN X7 hx hZ hown (hw _ (List.mem_of_getElem? (i := 24) rfl)) Via.refl e7 F_coder E_a1 (Or.inr ⟨(hw _ (List.mem_of_getElem? (i := 25) rfl)), rfl, hnm⟩) (hw _ (List.mem_of_getElem? (i := 10) rfl)) (ty := .byte) (v' := (.int (0 : Int32))) (by decide) rfl rfl (g := (mkF m 23 #[.val (.ref a1), .val (.ref a2), .val (.int (0 : Int32)), .val (.int (0 : Int32)), .val .null, .unset] [(.int (0 : Int32)), (.ref a1)])) rfl rfl (hb hby d7_23)
  have Sw9 : Safe Z EL T6.vm h6 a1 := S_a1
  replace S_a1 := Safe.wr W8 Sw9 CR.1 S_a1
  replace CR := CR.trans (CHr.wr W8 Sw9 CR.1)
  replace hk := Nat.le_trans hk (Keep.of_wr W8).1
  replace Z0 := Nat.le_trans Z0 (Keep.of_wr W8).1
  replace K0 := K0.wr W8 (Or.inl (List.mem_of_getElem? (i := 0) rfl))
  replace E_a1 := E_a1.wr W8
  replace F_value := F_value.other W8 (Or.inr (slot_ne (Or.inr (hw _ (List.mem_of_getElem? (i := 23) rfl))) (Or.inr (hw _ (List.mem_of_getElem? (i := 25) rfl))) (by decide) (t := (.array .byte)) (t' := .byte) (by decide) (by decide)))
  replace E_a2_ := E_a2_.wr W8
  replace Fc_a2_ := Fc_a2_.other W8 (Or.inl (Ne.symm ne_a1_a2_))
  replace Fv_a2_ := Fv_a2_.other W8 (Or.inl (Ne.symm ne_a1_a2_))
  replace V_b2_ := V_b2_.other W8 (Ne.symm ne_a1_b2_)
  replace E_a6_ := E_a6_.wr W8
  replace Fc_a6_ := Fc_a6_.other W8 (Or.inl (Ne.symm ne_a1_a6_))
  replace Fv_a6_ := Fv_a6_.other W8 (Or.inl (Ne.symm ne_a1_a6_))
  replace V_b6_ := V_b6_.other W8 (Ne.symm ne_a1_b6_)
  replace F_coder := F_coder.same W8
  have N8 := Fr.snoc X8 N4 g_a1
  refine GoH.st (T' := T8) (pc' := 26) (L' := #[.val (.ref a1), .val (.ref a2), .val (.int (0 : Int32)), .val (.int (0 : Int32)), .val .null, .unset]) (S' := []) st8 ?_
  exact GoH.retV X8 hx hlk hret (hb hby d7_26) (by decide) (by decide) hS hk e8 hs0 hZ (own_EW hw) CR (by rw [e8]; exact ⟨b2_, _, rfl, N8, K0, F_coder, ne_a1_b2_, F_value, V_b2_⟩)
theorem d6_0 : decode jdk_42_method_3_code 0 = .ok (.aload_n 0, 1) := by decide +kernel
theorem d6_1 : decode jdk_42_method_3_code 1 = .ok (.aload_n 1, 1) := by decide +kernel
theorem d6_2 : decode jdk_42_method_3_code 2 = .ok (.iconst 0, 1) := by decide +kernel
theorem d6_3 : decode jdk_42_method_3_code 3 = .ok (.aload_n 1, 1) := by decide +kernel
theorem d6_4 : decode jdk_42_method_3_code 4 = .ok (.arraylength, 1) := by decide +kernel
theorem d6_5 : decode jdk_42_method_3_code 5 = .ok (.aconst_null, 1) := by decide +kernel
theorem d6_6 : decode jdk_42_method_3_code 6 = .ok (.invokespecial 27, 3) := by decide +kernel
theorem d6_9 : decode jdk_42_method_3_code 9 = .ok (.return_, 1) := by decide +kernel
theorem pd_0 : parseMethodDescriptor "([CIILjava/lang/Void;)V" = some ⟨[(.array .char), .int, .int, (.object "java/lang/Void")], none⟩ := by decide +kernel
def QE3 (Z : State) (a1 : Addr) (h0 : Heap) (n0 : Nat) (v : Option Value) (h : Heap) (L : List Loc) : Prop := ∃ (t : Addr) (kb : ClassId), v = none ∧ Fr n0 L ∧ Keep h0 h [a1] ∧ Fld Z h a1 "java/lang/String" "coder" "B" (.int 0) ∧ a1 ≠ t ∧ Fld Z h a1 "java/lang/String" "value" "[B" (.ref t) ∧ Arv Z h t kb .byte (0 : Int32) [] (.int (0 : Int32))
def roomE3 : Room := { frames := 2, cells := 4, slots := 8, locals := 29 }
set_option maxRecDepth 65536 in
set_option maxHeartbeats 40000000 in
theorem rmE3 (l : Launch) (Z : State) (a0 : Array Value) (hw : ∀ d ∈ tables_1, d.before a0 Z = true) (ws : List Jvm.Cond) (a1 : Addr) (a2 : Addr) (ka : ClassId) (h0 : Heap) (n0 : Nat) (Z0 : n0 ≤ h0.size) (E_a1 : Exa Z h0 a1 "java/lang/String") (g_a1 : n0 ≤ a1) (F_value : Fld Z h0 a1 "java/lang/String" "value" "[B" .null) (F_coder : Fld Z h0 a1 "java/lang/String" "coder" "B" (.int (0 : Int32))) (V_a2 : Arv Z h0 a2 ka .char (0 : Int32) [] (.int (0 : Int32))) (ne12 : a1 ≠ a2) :
    MetFree l (⟨"java/lang/String", "<init>", "([C)V"⟩ : MethodName) (head1 (Jvm.Cond.code (⟨"java/lang/String", "<init>", "([C)V"⟩ : MethodName) jdk_42_method_3_code 2 none :: ws) roomE3) (fun aa_ U_ => aa_ = #[(.ref a1), (.ref a2)] ∧ Z.Warmed39 U_.vm ∧ U_.heap = h0 ∧ CHv Z EL U_.vm h0) (fun _ _ _ _ _ => True) (fun _ U_ o_ W_ => ∃ v_ L_, o_ = .returned v_ ∧ (QE3 Z a1 h0 n0) v_ W_.heap L_ ∧ CHr Z EL U_.vm U_.heap W_.vm W_.heap ∧ ReturnedEndW U_ o_ W_ L_ roomE3.cells roomE3.slots) := by
  refine own_metH (Q := (QE3 Z a1 h0 n0)) (L0 := #[.val (.ref a1), .val (.ref a2)]) (plainFor_of_name pn_0) (fun m => by first | (simp [entryFrame, mkF, argsToLocals, Value.category]; done) | rfl) ?_
  intro p e s m below meth c T0 X0 hx hby hml hown hnm hret hlk hZ e0 hs0 CR hS hk
  have N0 := Fr.nil n0
  have K0 := Keep.refl h0 [a1]
  have S_a1 : Safe Z EL s.vm h0 a1 := own_safeS hZ.alike E_a1 F_value
  refine GoH.st (T' := T0) (pc' := 1) (L' := #[.val (.ref a1), .val (.ref a2)]) (S' := [(.ref a1)]) (fun t_ k_ => XS.aloadN X0.here hx rfl (hb hby d6_0) rfl rfl  k_) ?_
  refine GoH.st (T' := T0) (pc' := 2) (L' := #[.val (.ref a1), .val (.ref a2)]) (S' := [(.ref a2), (.ref a1)]) (fun t_ k_ => XS.aloadN X0.here hx rfl (hb hby d6_1) rfl rfl  k_) ?_
  refine GoH.st (T' := T0) (pc' := 3) (L' := #[.val (.ref a1), .val (.ref a2)]) (S' := [(.int (0 : Int32)), (.ref a2), (.ref a1)]) (fun t_ k_ => XS.iconst X0.here hx rfl (hb hby d6_2) k_) ?_
  refine GoH.st (T' := T0) (pc' := 4) (L' := #[.val (.ref a1), .val (.ref a2)]) (S' := [(.ref a2), (.int (0 : Int32)), (.ref a2), (.ref a1)]) (fun t_ k_ => XS.aloadN X0.here hx rfl (hb hby d6_3) rfl rfl  k_) ?_
  obtain ⟨cl1, Ar1, -, q1a, q1b, -, -⟩ := id V_a2
  refine GoH.st (T' := T0) (pc' := 5) (L' := #[.val (.ref a1), .val (.ref a2)]) (S' := [(.int (0 : Int32)), (.int (0 : Int32)), (.ref a2), (.ref a1)]) (fun t_ k_ => own_len X0 hx hZ e0 Ar1 q1a q1b (g := (mkF m 4 #[.val (.ref a1), .val (.ref a2)] [(.ref a2), (.int (0 : Int32)), (.ref a2), (.ref a1)])) rfl rfl (hb hby d6_4) t_ k_) ?_
  refine GoH.st (T' := T0) (pc' := 6) (L' := #[.val (.ref a1), .val (.ref a2)]) (S' := [.null, (.int (0 : Int32)), (.int (0 : Int32)), (.ref a2), (.ref a1)]) (fun t_ k_ => XS.aconstNull X0.here hx rfl (hb hby d6_5) k_) ?_
  obtain ⟨_, _, ⟨T2, L2, k2, n2⟩, -, X2, hS2, hg2, ⟨Lc2, hQ2, l2, y2, z2, CR2⟩, st2⟩ := X0.specialBackS hx (y := (⟨"java/lang/String", "<init>", "([CIILjava/lang/Void;)V"⟩ : MethodName)) rfl hown (mvT hZ (hw _ (List.mem_of_getElem? (i := 31) rfl))) (mvT hZ (hw _ (List.mem_of_getElem? (i := 32) rfl))) (mvT hZ (hw _ (List.mem_of_getElem? (i := 33) rfl))) (by decide) (backOfSH (W := 0) (rmE149 l Z a0 hw [] a1 a2 h0 n0 Z0 E_a1 g_a1 F_value F_coder) hZ (hw _ (List.mem_of_getElem? (i := 33) rfl)) (hw _ (List.mem_of_getElem? (i := 2) rfl)) (by decide) (by decide) (own_EW hw) CR.1) (g := (mkF m 6 #[.val (.ref a1), .val (.ref a2)] [.null, (.int (0 : Int32)), (.int (0 : Int32)), (.ref a2), (.ref a1)])) rfl (by rw [hml]; rfl) (Steps.refl _) (a := a1) (argsL := [(.ref a2), (.int (0 : Int32)), (.int (0 : Int32)), .null]) (rest := []) (lenOf pd_0 rfl) rfl (by show 2 * 0 + _ ≤ _; exact Nat.le_of_eq rfl) (hb hby d6_6) (fun _ _ => ⟨rfl, e0, (by decide : 0 + 4 ≤ _), (by decide : 0 + 8 ≤ _)⟩)
  dsimp only [Pt.U, Pt.locs, Pt.cells, Pt.slots] at X2 l2 y2 z2 st2 hQ2 hS2 hg2 CR2
  subst l2 y2 z2
  replace X2 : Stand p l e _ (s.setVm T2.vm) m _ below meth c T2 _ _ _ := X2
  replace hS := foldS hS (T := T0) (Nat.le_trans hk (Nat.le_of_eq (congrArg Array.size e0.symm))) hS2 hg2
  replace hk := Nat.le_refl T2.heap.size
  replace hZ : Z.Warmed39 (s.setVm T2.vm).vm := State.Warmed39.trans (t := s.setVm s.vm) hZ hS2.1
  replace hown : (s.setVm T2.vm).vm.findClass "java/lang/String" = some m.cls := by rw [show (s.setVm T2.vm).vm = T2.vm from rfl, hS2.1.alike.findClass]; exact hown
  obtain ⟨t2, kb2, rfl, N2q, K2, Co2, nt2, Va2, Ay2⟩ := hQ2
  have N2 := Fr.app N0 N2q
  obtain ⟨h2, e2⟩ : ∃ z, T2.heap = z := ⟨_, rfl⟩
  rw [e2] at K2 Co2 Va2 Ay2 CR2
  replace S_a1 := CR2.safe E_a1.lt S_a1
  replace CR := CR.trans CR2
  replace Z0 := Nat.le_trans Z0 K2.1
  replace K0 := K0.trans K2 (allS (Or.inl (List.mem_of_getElem? (i := 0) rfl)) all0)
  replace E_a1 := E_a1.keep K2
  replace V_a2 := V_a2.keep K2 (ninS (Ne.symm ne12) nin0)
  replace hk : T2.heap.size ≤ h2.size := Nat.le_of_eq (congrArg Array.size e2)
  refine GoH.tr (T' := T2) (pc' := 9) (L' := #[.val (.ref a1), .val (.ref a2)]) (S' := []) st2 ?_
  exact GoH.retV X2 hx hlk hret (hb hby d6_9) (by decide) (by decide) hS hk e2 hs0 hZ (own_EW hw) CR (by rw [e2]; exact ⟨t2, _, rfl, N2, K0, Co2, nt2, Va2, Ay2⟩)
theorem d2_0 : decode jdk_43_method_3_code 0 = .ok (.iload_n 0, 1) := by decide +kernel
theorem d2_1 : decode jdk_43_method_3_code 1 = .ok (.sipush 255, 3) := by decide +kernel
theorem d2_4 : decode jdk_43_method_3_code 4 = .ok (.if_icmp .gt 7, 3) := by decide +kernel
theorem d2_7 : decode jdk_43_method_3_code 7 = .ok (.iconst 1, 1) := by decide +kernel
theorem d2_8 : decode jdk_43_method_3_code 8 = .ok (.goto 4, 3) := by decide +kernel
theorem d2_12 : decode jdk_43_method_3_code 12 = .ok (.ireturn, 1) := by decide +kernel
theorem pn_1 : plainName "java/lang/StringLatin1" = true := by first | (simp [plainName, overriddenIn]; done) | decide +kernel
def Q2 (Z : State) (c1 : Int32) (h0 : Heap) (n0 : Nat) (v : Option Value) (h : Heap) (L : List Loc) : Prop := v = some (.int 1) ∧ Fr n0 L ∧ h = h0
def room2 : Room := { frames := 0, cells := 0, slots := 0, locals := 0 }
set_option maxRecDepth 65536 in
set_option maxHeartbeats 40000000 in
theorem rm2 (l : Launch) (Z : State) (a0 : Array Value) (hw : ∀ d ∈ tables_1, d.before a0 Z = true) (ws : List Jvm.Cond) (c1 : Int32) (h0 : Heap) (n0 : Nat) (Z0 : n0 ≤ h0.size) (hc : ¬ c1 < 0 ∧ ¬ (255 : Int32) < c1) :
    MetFree l (⟨"java/lang/StringLatin1", "canEncode", "(C)Z"⟩ : MethodName) (head1 (Jvm.Cond.code (⟨"java/lang/StringLatin1", "canEncode", "(C)Z"⟩ : MethodName) jdk_43_method_3_code 1 (some .boolean) :: ws) room2) (fun aa_ U_ => aa_ = #[(.int c1)] ∧ Z.Warmed39 U_.vm ∧ U_.heap = h0) (fun _ _ _ _ _ => True) (fun _ U_ o_ W_ => ∃ v_ L_, o_ = .returned v_ ∧ (Q2 Z c1 h0 n0) v_ W_.heap L_ ∧ FrameEnd U_ o_ W_ L_ room2.cells room2.slots) := by
  refine own_met (Q := (Q2 Z c1 h0 n0)) (L0 := #[.val (.int c1)]) (plainFor_of_name pn_1) (fun m => by first | (simp [entryFrame, mkF, argsToLocals, Value.category]; done) | rfl) ?_
  intro p e s m below meth c T0 X0 hx hby hml hown hnm hret hlk hZ e0
  have N0 := Fr.nil n0
  refine Go.st (T' := T0) (pc' := 1) (L' := #[.val (.int c1)]) (S' := [(.int c1)]) (fun t_ k_ => XS.iloadN X0.here hx rfl (hb hby d2_0) rfl  k_) ?_
  refine Go.st (T' := T0) (pc' := 4) (L' := #[.val (.int c1)]) (S' := [(.int (255 : Int32)), (.int c1)]) (fun t_ k_ => XS.sipush X0.here hx rfl (hb hby d2_1) k_) ?_
  refine Go.st (T' := T0) (pc' := 7) (L' := #[.val (.int c1)]) (S' := []) (fun t_ k_ => XS.icmpNo X0.here hx rfl (hb hby d2_4) rfl (flt (hc.2 : ¬ ((255 : Int32) < c1))).2.2.1 k_) ?_
  refine Go.st (T' := T0) (pc' := 8) (L' := #[.val (.int c1)]) (S' := [(.int (1 : Int32))]) (fun t_ k_ => XS.iconst X0.here hx rfl (hb hby d2_7) k_) ?_
  refine Go.st (T' := T0) (pc' := 12) (L' := #[.val (.int c1)]) (S' := [(.int (1 : Int32))]) (fun t_ k_ => XS.goto X0.here hx rfl (pc0 := 8) (pc' := 12) rfl (hb hby d2_8) (by decide) (by decide) k_) ?_
  exact Go.retN X0 hx hlk hret (by simp) (hb hby d2_12) (by decide) (by decide) (by rw [e0]; exact ⟨rfl, N0, rfl⟩)
theorem d3_0 : decode jdk_43_method_46_code 0 = .ok (.iconst 1, 1) := by decide +kernel
theorem d3_1 : decode jdk_43_method_46_code 1 = .ok (.newarray .byte, 2) := by decide +kernel
theorem d3_3 : decode jdk_43_method_46_code 3 = .ok (.dup, 1) := by decide +kernel
theorem d3_4 : decode jdk_43_method_46_code 4 = .ok (.iconst 0, 1) := by decide +kernel
theorem d3_5 : decode jdk_43_method_46_code 5 = .ok (.iload_n 0, 1) := by decide +kernel
theorem d3_6 : decode jdk_43_method_46_code 6 = .ok (.i2b, 1) := by decide +kernel
theorem d3_7 : decode jdk_43_method_46_code 7 = .ok (.bastore, 1) := by decide +kernel
theorem d3_8 : decode jdk_43_method_46_code 8 = .ok (.areturn, 1) := by decide +kernel
def Q3 (Z : State) (c1 : Int32) (h0 : Heap) (n0 : Nat) (v : Option Value) (h : Heap) (L : List Loc) : Prop := ∃ (b : Addr) (kb : ClassId), v = some (.ref b) ∧ Fr n0 L ∧ Keep h0 h [] ∧ n0 ≤ b ∧ h0.size ≤ b ∧ Arv Z h b kb .byte (1 : Int32) [(.int ((c1.toInt8.toInt32).toInt8.toInt32))] (.int (0 : Int32))
def room3 : Room := { frames := 0, cells := 1, slots := 1, locals := 0 }
set_option maxRecDepth 65536 in
set_option maxHeartbeats 40000000 in
theorem rm3 (l : Launch) (Z : State) (a0 : Array Value) (hw : ∀ d ∈ tables_1, d.before a0 Z = true) (ws : List Jvm.Cond) (c1 : Int32) (h0 : Heap) (n0 : Nat) (Z0 : n0 ≤ h0.size)  :
    MetFree l (⟨"java/lang/StringLatin1", "toBytes", "(C)[B"⟩ : MethodName) (head1 (Jvm.Cond.code (⟨"java/lang/StringLatin1", "toBytes", "(C)[B"⟩ : MethodName) jdk_43_method_46_code 1 (some (.array .byte)) :: ws) room3) (fun aa_ U_ => aa_ = #[(.int c1)] ∧ Z.Warmed39 U_.vm ∧ U_.heap = h0) (fun _ _ _ _ _ => True) (fun _ U_ o_ W_ => ∃ v_ L_, o_ = .returned v_ ∧ (Q3 Z c1 h0 n0) v_ W_.heap L_ ∧ FrameEnd U_ o_ W_ L_ room3.cells room3.slots) := by
  refine own_met (Q := (Q3 Z c1 h0 n0)) (L0 := #[.val (.int c1)]) (plainFor_of_name pn_1) (fun m => by first | (simp [entryFrame, mkF, argsToLocals, Value.category]; done) | rfl) ?_
  intro p e s m below meth c T0 X0 hx hby hml hown hnm hret hlk hZ e0
  have N0 := Fr.nil n0
  have K0 := Keep.refl h0 []
  refine Go.st (T' := T0) (pc' := 1) (L' := #[.val (.int c1)]) (S' := [(.int (1 : Int32))]) (fun t_ k_ => XS.iconst X0.here hx rfl (hb hby d3_0) k_) ?_
  obtain ⟨T1, h1, k1, X1, e1, E1, A1, st1⟩ := newP X0 hx hZ (hw _ (List.mem_of_getElem? (i := 14) rfl)) e0 (g := (mkF m 1 #[.val (.int c1)] [(.int (1 : Int32))])) rfl (hb hby d3_1) rfl (by decide) (cap := 1) (by decide) (by decide) (by decide) (by decide)
  obtain ⟨b1, g1⟩ : ∃ z, z = h0.size := ⟨_, rfl⟩
  rw [← g1] at A1 st1
  have g_b1 : n0 ≤ b1 := Nat.le_trans Z0 (Nat.le_of_eq g1.symm)
  have sz_b1 : h0.size ≤ b1 := Nat.le_trans K0.1 (Nat.le_of_eq g1.symm)
  replace Z0 := Nat.le_trans Z0 E1.1
  replace K0 := K0.ext E1
  have V_b1 : Arv Z h1 b1 k1 .byte (1 : Int32) [(.int (0 : Int32))] (.int (0 : Int32)) := (Arv.new A1 (by decide)).pad (pad_rep [] (.int (0 : Int32)) 1)
  refine Go.st (T' := T1) (pc' := 3) (L' := #[.val (.int c1)]) (S' := [(.ref b1)]) st1 ?_
  refine Go.st (T' := T1) (pc' := 4) (L' := #[.val (.int c1)]) (S' := [(.ref b1), (.ref b1)]) (fun t_ k_ => XS.dup X1.here hx rfl (hb hby d3_3) rfl rfl k_) ?_
  refine Go.st (T' := T1) (pc' := 5) (L' := #[.val (.int c1)]) (S' := [(.int (0 : Int32)), (.ref b1), (.ref b1)]) (fun t_ k_ => XS.iconst X1.here hx rfl (hb hby d3_4) k_) ?_
  refine Go.st (T' := T1) (pc' := 6) (L' := #[.val (.int c1)]) (S' := [(.int c1), (.int (0 : Int32)), (.ref b1), (.ref b1)]) (fun t_ k_ => XS.iloadN X1.here hx rfl (hb hby d3_5) rfl  k_) ?_
  refine Go.st (T' := T1) (pc' := 7) (L' := #[.val (.int c1)]) (S' := [(.int (c1.toInt8.toInt32)), (.int (0 : Int32)), (.ref b1), (.ref b1)]) (fun t_ k_ => XS.i2b X1.here hx rfl (hb hby d3_6) rfl k_) ?_
  obtain ⟨cl2, Ar2, q21, q22, q23, q24, q25⟩ := V_b1
  obtain ⟨T2, h2, X2, e2, W2, st2⟩ := stB X1 hx hZ e1 Ar2 (j := (0 : Int32)) (inb_of q22 ⟨by decide, by decide⟩) (g := (mkF m 7 #[.val (.int c1)] [(.int (c1.toInt8.toInt32)), (.int (0 : Int32)), (.ref b1), (.ref b1)])) rfl rfl (hb hby d3_7)
  replace V_b1 := Arv.set Ar2 q21 q22 q23 q24 q25 (fits_nar_byte _) W2 0 rfl (Nat.le_of_ble_eq_true rfl)
  have V_b1 : Arv Z h2 b1 k1 .byte (1 : Int32) [(.int (c1.toInt8.toInt32).toInt8.toInt32)] (.int (0 : Int32)) := V_b1
  replace Z0 := Nat.le_trans Z0 (Keep.of_wr W2).1
  replace K0 := K0.wr W2 (Or.inr sz_b1)
  have N2 := Fr.snoc X2 N0 g_b1
  refine Go.st (T' := T2) (pc' := 8) (L' := #[.val (.int c1)]) (S' := [(.ref b1)]) st2 ?_
  exact Go.retO X2 hx hlk hret rfl (by simp [FieldType.isReference, Value.isRef]) (hb hby d3_8) (by decide) (by decide) (by rw [e2]; exact ⟨b1, _, rfl, N2, K0, g_b1, sz_b1, V_b1⟩)
theorem d4_0 : decode jdk_42_method_151_code 0 = .ok (.aload_n 0, 1) := by decide +kernel
theorem d4_1 : decode jdk_42_method_151_code 1 = .ok (.invokespecial 1, 3) := by decide +kernel
theorem d4_4 : decode jdk_42_method_151_code 4 = .ok (.aload_n 0, 1) := by decide +kernel
theorem d4_5 : decode jdk_42_method_151_code 5 = .ok (.aload_n 1, 1) := by decide +kernel
theorem d4_6 : decode jdk_42_method_151_code 6 = .ok (.putfield 9, 3) := by decide +kernel
theorem d4_9 : decode jdk_42_method_151_code 9 = .ok (.aload_n 0, 1) := by decide +kernel
theorem d4_10 : decode jdk_42_method_151_code 10 = .ok (.iload_n 2, 1) := by decide +kernel
theorem d4_11 : decode jdk_42_method_151_code 11 = .ok (.putfield 15, 3) := by decide +kernel
theorem d4_14 : decode jdk_42_method_151_code 14 = .ok (.return_, 1) := by decide +kernel
def Q4 (Z : State) (a1 : Addr) (a2 : Addr) (h0 : Heap) (n0 : Nat) (v : Option Value) (h : Heap) (L : List Loc) : Prop := v = none ∧ Fr n0 L ∧ Keep h0 h [a1] ∧ Fld Z h a1 "java/lang/String" "value" "[B" (.ref a2) ∧ Fld Z h a1 "java/lang/String" "coder" "B" (.int (0 : Int32))
def room4 : Room := { frames := 1, cells := 0, slots := 0, locals := 12 }
set_option maxRecDepth 65536 in
set_option maxHeartbeats 40000000 in
theorem rm4 (l : Launch) (Z : State) (a0 : Array Value) (hw : ∀ d ∈ tables_1, d.before a0 Z = true) (ws : List Jvm.Cond) (a1 : Addr) (a2 : Addr) (h0 : Heap) (n0 : Nat) (Z0 : n0 ≤ h0.size) (E_a1 : Exa Z h0 a1 "java/lang/String") (g_a1 : n0 ≤ a1) (F_value : Fld Z h0 a1 "java/lang/String" "value" "[B" .null) (F_coder : Fld Z h0 a1 "java/lang/String" "coder" "B" (.int (0 : Int32))) :
    MetFree l (⟨"java/lang/String", "<init>", "([BB)V"⟩ : MethodName) (head1 (Jvm.Cond.code (⟨"java/lang/String", "<init>", "([BB)V"⟩ : MethodName) jdk_42_method_151_code 3 none :: ws) room4) (fun aa_ U_ => aa_ = #[(.ref a1), (.ref a2), (.int (0 : Int32))] ∧ Z.Warmed39 U_.vm ∧ U_.heap = h0) (fun _ _ _ _ _ => True) (fun _ U_ o_ W_ => ∃ v_ L_, o_ = .returned v_ ∧ (Q4 Z a1 a2 h0 n0) v_ W_.heap L_ ∧ FrameEnd U_ o_ W_ L_ room4.cells room4.slots) := by
  refine own_met (Q := (Q4 Z a1 a2 h0 n0)) (L0 := #[.val (.ref a1), .val (.ref a2), .val (.int (0 : Int32))]) (plainFor_of_name pn_0) (fun m => by first | (simp [entryFrame, mkF, argsToLocals, Value.category]; done) | rfl) ?_
  intro p e s m below meth c T0 X0 hx hby hml hown hnm hret hlk hZ e0
  have N0 := Fr.nil n0
  have K0 := Keep.refl h0 [a1]
  refine Go.st (T' := T0) (pc' := 1) (L' := #[.val (.ref a1), .val (.ref a2), .val (.int (0 : Int32))]) (S' := [(.ref a1)]) (fun t_ k_ => XS.aloadN X0.here hx rfl (hb hby d4_0) rfl rfl  k_) ?_
  obtain ⟨T1, X1, e1, st1⟩ := initO X0 hx hZ hown (hw _ (List.mem_of_getElem? (i := 19) rfl)) (hw _ (List.mem_of_getElem? (i := 20) rfl)) (hw _ (List.mem_of_getElem? (i := 21) rfl)) e0 (g := (mkF m 1 #[.val (.ref a1), .val (.ref a2), .val (.int (0 : Int32))] [(.ref a1)])) rfl (by rw [hml]; rfl) rfl (hb hby d4_1) (by decide) (W := 0) (by show 2 * 0 + _ ≤ _; exact Nat.le_of_eq rfl) (by decide)
  refine Go.st (T' := T1) (pc' := 4) (L' := #[.val (.ref a1), .val (.ref a2), .val (.int (0 : Int32))]) (S' := []) st1 ?_
  refine Go.st (T' := T1) (pc' := 5) (L' := #[.val (.ref a1), .val (.ref a2), .val (.int (0 : Int32))]) (S' := [(.ref a1)]) (fun t_ k_ => XS.aloadN X1.here hx rfl (hb hby d4_4) rfl rfl  k_) ?_
  refine Go.st (T' := T1) (pc' := 6) (L' := #[.val (.ref a1), .val (.ref a2), .val (.int (0 : Int32))]) (S' := [(.ref a2), (.ref a1)]) (fun t_ k_ => XS.aloadN X1.here hx rfl (hb hby d4_5) rfl rfl  k_) ?_
  obtain ⟨T2, h2, X2, e2, W2, st2⟩ := putF X1 hx hZ hown (host := "") (Or.inl (hw _ (List.mem_of_getElem? (i := 22) rfl))) Via.refl e1 F_value E_a1 (Or.inr ⟨(hw _ (List.mem_of_getElem? (i := 23) rfl)), rfl, hnm⟩) (hw _ (List.mem_of_getElem? (i := 10) rfl)) (ty := (.array .byte)) (by decide) rfl rfl (g := (mkF m 6 #[.val (.ref a1), .val (.ref a2), .val (.int (0 : Int32))] [(.ref a2), (.ref a1)])) rfl rfl (hb hby d4_6)
  replace Z0 := Nat.le_trans Z0 (Keep.of_wr W2).1
  replace K0 := K0.wr W2 (Or.inl (List.mem_of_getElem? (i := 0) rfl))
  replace E_a1 := E_a1.wr W2
  replace F_coder := F_coder.other W2 (Or.inr (slot_ne (Or.inr (hw _ (List.mem_of_getElem? (i := 25) rfl))) (Or.inr (hw _ (List.mem_of_getElem? (i := 23) rfl))) (by decide) (t := .byte) (t' := (.array .byte)) (by decide) (by decide)))
  replace F_value := F_value.same W2
  have N2 := Fr.snoc X2 N0 g_a1
  refine Go.st (T' := T2) (pc' := 9) (L' := #[.val (.ref a1), .val (.ref a2), .val (.int (0 : Int32))]) (S' := []) st2 ?_
  refine Go.st (T' := T2) (pc' := 10) (L' := #[.val (.ref a1), .val (.ref a2), .val (.int (0 : Int32))]) (S' := [(.ref a1)]) (fun t_ k_ => XS.aloadN X2.here hx rfl (hb hby d4_9) rfl rfl  k_) ?_
  refine Go.st (T' := T2) (pc' := 11) (L' := #[.val (.ref a1), .val (.ref a2), .val (.int (0 : Int32))]) (S' := [(.int (0 : Int32)), (.ref a1)]) (fun t_ k_ => XS.iloadN X2.here hx rfl (hb hby d4_10) rfl  k_) ?_
  obtain ⟨T3, h3, X3, e3, W3, st3⟩ := putFN X2 hx hZ hown (hw _ (List.mem_of_getElem? (i := 24) rfl)) Via.refl e2 F_coder E_a1 (Or.inr ⟨(hw _ (List.mem_of_getElem? (i := 25) rfl)), rfl, hnm⟩) (hw _ (List.mem_of_getElem? (i := 10) rfl)) (ty := .byte) (v' := (.int (0 : Int32))) (by decide) rfl rfl (g := (mkF m 11 #[.val (.ref a1), .val (.ref a2), .val (.int (0 : Int32))] [(.int (0 : Int32)), (.ref a1)])) rfl rfl (hb hby d4_11)
  replace Z0 := Nat.le_trans Z0 (Keep.of_wr W3).1
  replace K0 := K0.wr W3 (Or.inl (List.mem_of_getElem? (i := 0) rfl))
  replace E_a1 := E_a1.wr W3
  replace F_value := F_value.other W3 (Or.inr (slot_ne (Or.inr (hw _ (List.mem_of_getElem? (i := 23) rfl))) (Or.inr (hw _ (List.mem_of_getElem? (i := 25) rfl))) (by decide) (t := (.array .byte)) (t' := .byte) (by decide) (by decide)))
  replace F_coder := F_coder.same W3
  have N3 := Fr.snoc X3 N2 g_a1
  refine Go.st (T' := T3) (pc' := 14) (L' := #[.val (.ref a1), .val (.ref a2), .val (.int (0 : Int32))]) (S' := []) st3 ?_
  exact Go.retV X3 hx hlk hret (hb hby d4_14) (by decide) (by decide) (by rw [e3]; exact ⟨rfl, N3, K0, F_value, F_coder⟩)
theorem d1_0 : decode jdk_42_method_139_code 0 = .ok (.getstatic 38, 3) := by decide +kernel
theorem d1_3 : decode jdk_42_method_139_code 3 = .ok (.ifCond .eq 23, 3) := by decide +kernel
theorem d1_6 : decode jdk_42_method_139_code 6 = .ok (.iload_n 0, 1) := by decide +kernel
theorem d1_7 : decode jdk_42_method_139_code 7 = .ok (.invokestatic 1015, 3) := by decide +kernel
theorem d1_10 : decode jdk_42_method_139_code 10 = .ok (.ifCond .eq 16, 3) := by decide +kernel
theorem d1_13 : decode jdk_42_method_139_code 13 = .ok (.new 10, 3) := by decide +kernel
theorem d1_16 : decode jdk_42_method_139_code 16 = .ok (.dup, 1) := by decide +kernel
theorem d1_17 : decode jdk_42_method_139_code 17 = .ok (.iload_n 0, 1) := by decide +kernel
theorem d1_18 : decode jdk_42_method_139_code 18 = .ok (.invokestatic 1018, 3) := by decide +kernel
theorem d1_21 : decode jdk_42_method_139_code 21 = .ok (.iconst 0, 1) := by decide +kernel
theorem d1_22 : decode jdk_42_method_139_code 22 = .ok (.invokespecial 209, 3) := by decide +kernel
theorem d1_25 : decode jdk_42_method_139_code 25 = .ok (.areturn, 1) := by decide +kernel
theorem pd_1 : parseMethodDescriptor "(C)Z" = some ⟨[.char], some .boolean⟩ := by decide +kernel
theorem pd_2 : parseMethodDescriptor "(C)[B" = some ⟨[.char], some (.array .byte)⟩ := by decide +kernel
theorem pd_3 : parseMethodDescriptor "([BB)V" = some ⟨[(.array .byte), .byte], none⟩ := by decide +kernel
def Q1 (Z : State) (c1 : Int32) (h0 : Heap) (n0 : Nat) (v : Option Value) (h : Heap) (L : List Loc) : Prop := ∃ (b t : Addr) (kb : ClassId), v = some (.ref b) ∧ Fr n0 L ∧ Keep h0 h [] ∧ n0 ≤ b ∧ h0.size ≤ b ∧ Exa Z h b "java/lang/String" ∧ Fld Z h b "java/lang/String" "coder" "B" (.int (0 : Int32)) ∧ Fld Z h b "java/lang/String" "value" "[B" (.ref t) ∧ Arv Z h t kb .byte (1 : Int32) [(.int ((c1.toInt8.toInt32).toInt8.toInt32))] (.int (0 : Int32))
def room1 : Room := { frames := 2, cells := 2, slots := 5, locals := 27 }
set_option maxRecDepth 65536 in
set_option maxHeartbeats 40000000 in
theorem rm1 (l : Launch) (Z : State) (a0 : Array Value) (hw : ∀ d ∈ tables_1, d.before a0 Z = true) (ws : List Jvm.Cond) (c1 : Int32) (gC : Int32) (h0 : Heap) (n0 : Nat) (Z0 : n0 ≤ h0.size) (SC : Sta Z Z.heap "java/lang/String" "COMPACT_STRINGS" "Z" (.int gC)) (PC : ¬ (gC = (0 : Int32))) (O0 : Old Z n0 h0) (hc : ¬ c1 < 0 ∧ ¬ (255 : Int32) < c1) :
    MetFree l (⟨"java/lang/String", "valueOf", "(C)Ljava/lang/String;"⟩ : MethodName) (head1 (Jvm.Cond.code (⟨"java/lang/String", "valueOf", "(C)Ljava/lang/String;"⟩ : MethodName) jdk_42_method_139_code 1 (some (.object "java/lang/String")) :: ws) room1) (fun aa_ U_ => aa_ = #[(.int c1)] ∧ Z.Warmed39 U_.vm ∧ U_.heap = h0) (fun _ _ _ _ _ => True) (fun _ U_ o_ W_ => ∃ v_ L_, o_ = .returned v_ ∧ (Q1 Z c1 h0 n0) v_ W_.heap L_ ∧ FrameEnd U_ o_ W_ L_ room1.cells room1.slots) := by
  refine own_met (Q := (Q1 Z c1 h0 n0)) (L0 := #[.val (.int c1)]) (plainFor_of_name pn_0) (fun m => by first | (simp [entryFrame, mkF, argsToLocals, Value.category]; done) | rfl) ?_
  intro p e s m below meth c T0 X0 hx hby hml hown hnm hret hlk hZ e0
  have N0 := Fr.nil n0
  have K0 := Keep.refl h0 []
  obtain ⟨T1, X1, e1, st1⟩ := getS2 X0 hx hZ hown (host := "") (Or.inl (hw _ (List.mem_of_getElem? (i := 4) rfl))) Via.refl e0 (SC.ext O0.2) (g := (mkF m 0 #[.val (.int c1)] [])) rfl (hb hby d1_0)
  refine Go.st (T' := T1) (pc' := 3) (L' := #[.val (.int c1)]) (S' := [(.int gC)]) st1 ?_
  refine Go.st (T' := T1) (pc' := 6) (L' := #[.val (.int c1)]) (S' := []) (fun t_ k_ => XS.ifNo X1.here hx rfl (hb hby d1_3) rfl ((if0 _ _).trans (feq (PC : ¬ (gC = (0 : Int32)))).1) k_) ?_
  refine Go.st (T' := T1) (pc' := 7) (L' := #[.val (.int c1)]) (S' := [(.int c1)]) (fun t_ k_ => XS.iloadN X1.here hx rfl (hb hby d1_6) rfl  k_) ?_
  obtain ⟨_, _, ⟨T2, L2, k2, n2⟩, -, X2, ⟨Lc2, hQ2, l2, y2, z2⟩, st2⟩ := Jvm.LawKit.callS X1 hx (y := (⟨"java/lang/StringLatin1", "canEncode", "(C)Z"⟩ : MethodName)) hown (mvT hZ (hw _ (List.mem_of_getElem? (i := 5) rfl))) (mvT hZ (hw _ (List.mem_of_getElem? (i := 6) rfl))) (mvT hZ (hw _ (List.mem_of_getElem? (i := 7) rfl))) (mvT hZ (hw _ (List.mem_of_getElem? (i := 8) rfl))) (by decide) (backOf (W := 0) (rm2 l Z a0 hw [] c1 h0 n0 Z0 hc) hZ (hw _ (List.mem_of_getElem? (i := 8) rfl)) (hw _ (List.mem_of_getElem? (i := 7) rfl)) (by decide) (by decide)) (g := (mkF m 7 #[.val (.int c1)] [(.int c1)])) rfl (by rw [hml]; rfl) (argsL := [(.int c1)]) (rest := []) (lenOf pd_1 rfl) rfl (by show 2 * 0 + _ ≤ _; exact Nat.le_of_eq rfl) (hb hby d1_7) (fun _ _ => ⟨rfl, e1, (by decide : 0 + 0 ≤ _), (by decide : 0 + 0 ≤ _)⟩)
  dsimp only [Pt.U, Pt.locs, Pt.cells, Pt.slots] at X2 l2 y2 z2 st2 hQ2
  subst l2 y2 z2
  obtain ⟨rfl, N2q, e2⟩ := hQ2
  have N2 := Fr.app N0 N2q
  refine Go.st (T' := T2) (pc' := 10) (L' := #[.val (.int c1)]) (S' := [(.int (1 : Int32))]) st2 ?_
  refine Go.st (T' := T2) (pc' := 13) (L' := #[.val (.int c1)]) (S' := []) (fun t_ k_ => XS.ifNo X2.here hx rfl (hb hby d1_10) rfl ((if0 _ _).trans (feq (by decide : ¬ ((1 : Int32) = (0 : Int32)))).1) k_) ?_
  obtain ⟨T3, h3, X3, e3, E3, A3, D3, U3, st3⟩ := newO X2 hx hZ hown (hw _ (List.mem_of_getElem? (i := 9) rfl)) (hw _ (List.mem_of_getElem? (i := 10) rfl)) (hw _ (List.mem_of_getElem? (i := 2) rfl)) e2 (g := (mkF m 13 #[.val (.int c1)] [])) rfl (hb hby d1_13) (by decide) (by decide)
  obtain ⟨b3, g3⟩ : ∃ z, z = h0.size := ⟨_, rfl⟩
  rw [← g3] at A3 D3 U3 st3
  have g_b3 : n0 ≤ b3 := Nat.le_trans Z0 (Nat.le_of_eq g3.symm)
  have sz_b3 : h0.size ≤ b3 := Nat.le_trans K0.1 (Nat.le_of_eq g3.symm)
  replace Z0 := Nat.le_trans Z0 E3.1
  replace K0 := K0.ext E3
  replace O0 := O0.ext E3
  have E_b3 := A3
  have F_b3_value : Fld Z h3 b3 "java/lang/String" "value" "[B" .null := D3 (Or.inr (hw _ (List.mem_of_getElem? (i := 23) rfl))) (ty := (.array .byte)) (by decide)
  have F_b3_coder : Fld Z h3 b3 "java/lang/String" "coder" "B" (.int (0 : Int32)) := D3 (Or.inr (hw _ (List.mem_of_getElem? (i := 25) rfl))) (ty := .byte) (by decide)
  refine Go.st (T' := T3) (pc' := 16) (L' := #[.val (.int c1)]) (S' := [(.ref b3)]) st3 ?_
  refine Go.st (T' := T3) (pc' := 17) (L' := #[.val (.int c1)]) (S' := [(.ref b3), (.ref b3)]) (fun t_ k_ => XS.dup X3.here hx rfl (hb hby d1_16) rfl rfl k_) ?_
  refine Go.st (T' := T3) (pc' := 18) (L' := #[.val (.int c1)]) (S' := [(.int c1), (.ref b3), (.ref b3)]) (fun t_ k_ => XS.iloadN X3.here hx rfl (hb hby d1_17) rfl  k_) ?_
  obtain ⟨_, _, ⟨T4, L4, k4, n4⟩, -, X4, ⟨Lc4, hQ4, l4, y4, z4⟩, st4⟩ := Jvm.LawKit.callS X3 hx (y := (⟨"java/lang/StringLatin1", "toBytes", "(C)[B"⟩ : MethodName)) hown (mvT hZ (hw _ (List.mem_of_getElem? (i := 11) rfl))) (mvT hZ (hw _ (List.mem_of_getElem? (i := 12) rfl))) (mvT hZ (hw _ (List.mem_of_getElem? (i := 7) rfl))) (mvT hZ (hw _ (List.mem_of_getElem? (i := 13) rfl))) (by decide) (backOf (W := 2) (rm3 l Z a0 hw [] c1 h3 n0 Z0) hZ (hw _ (List.mem_of_getElem? (i := 13) rfl)) (hw _ (List.mem_of_getElem? (i := 7) rfl)) (by decide) (by decide)) (g := (mkF m 18 #[.val (.int c1)] [(.int c1), (.ref b3), (.ref b3)])) rfl (by rw [hml]; rfl) (argsL := [(.int c1)]) (rest := [(.ref b3), (.ref b3)]) (lenOf pd_2 rfl) rfl (by show 2 * 0 + _ ≤ _; exact Nat.le_of_eq rfl) (hb hby d1_18) (fun _ _ => ⟨rfl, e3, (by decide : 1 + 1 ≤ _), (by decide : 4 + 1 ≤ _)⟩)
  dsimp only [Pt.U, Pt.locs, Pt.cells, Pt.slots] at X4 l4 y4 z4 st4 hQ4
  subst l4 y4 z4
  obtain ⟨b4, kb4, rfl, N4q, K4, g_b4, lt4, V_b4⟩ := hQ4
  have N4 := Fr.app N2 N4q
  have ne_b3_b4 : b3 ≠ b4 := Nat.ne_of_lt (Nat.lt_of_lt_of_le E_b3.lt lt4)
  have sz_b4 : h0.size ≤ b4 := Nat.le_trans K0.1 lt4
  obtain ⟨h4, e4⟩ : ∃ z, T4.heap = z := ⟨_, rfl⟩
  rw [e4] at K4 V_b4
  replace Z0 := Nat.le_trans Z0 K4.1
  replace K0 := K0.trans K4 all0
  replace O0 := O0.keep K4 all0
  replace E_b3 := E_b3.keep K4
  replace F_b3_value := F_b3_value.keep K4 nin0
  replace F_b3_coder := F_b3_coder.keep K4 nin0
  refine Go.st (T' := T4) (pc' := 21) (L' := #[.val (.int c1)]) (S' := [(.ref b4), (.ref b3), (.ref b3)]) st4 ?_
  refine Go.st (T' := T4) (pc' := 22) (L' := #[.val (.int c1)]) (S' := [(.int (0 : Int32)), (.ref b4), (.ref b3), (.ref b3)]) (fun t_ k_ => XS.iconst X4.here hx rfl (hb hby d1_21) k_) ?_
  obtain ⟨_, _, ⟨T5, L5, k5, n5⟩, -, X5, ⟨Lc5, hQ5, l5, y5, z5⟩, st5⟩ := X4.specialBack hx (y := (⟨"java/lang/String", "<init>", "([BB)V"⟩ : MethodName)) rfl hown (mvT hZ (hw _ (List.mem_of_getElem? (i := 15) rfl))) (mvT hZ (hw _ (List.mem_of_getElem? (i := 16) rfl))) (mvT hZ (hw _ (List.mem_of_getElem? (i := 18) rfl))) (by decide) (backOf (W := 1) (rm4 l Z a0 hw [] b3 b4 h4 n0 Z0 E_b3 g_b3 F_b3_value F_b3_coder) hZ (hw _ (List.mem_of_getElem? (i := 18) rfl)) (hw _ (List.mem_of_getElem? (i := 2) rfl)) (by decide) (by decide)) (g := (mkF m 22 #[.val (.int c1)] [(.int (0 : Int32)), (.ref b4), (.ref b3), (.ref b3)])) rfl (by rw [hml]; rfl) (Steps.refl _) (a := b3) (argsL := [(.ref b4), (.int (0 : Int32))]) (rest := [(.ref b3)]) (lenOf pd_3 rfl) rfl (by show 2 * 0 + _ ≤ _; exact Nat.le_of_eq rfl) (hb hby d1_22) (fun _ _ => ⟨rfl, e4, (by decide : 2 + 0 ≤ _), (by decide : 5 + 0 ≤ _)⟩)
  dsimp only [Pt.U, Pt.locs, Pt.cells, Pt.slots] at X5 l5 y5 z5 st5 hQ5
  subst l5 y5 z5
  obtain ⟨rfl, N5q, K5, G5_value, G5_coder⟩ := hQ5
  have N5 := Fr.app N4 N5q
  obtain ⟨h5, e5⟩ : ∃ z, T5.heap = z := ⟨_, rfl⟩
  rw [e5] at K5 G5_value G5_coder
  replace Z0 := Nat.le_trans Z0 K5.1
  replace K0 := K0.trans K5 (allS (Or.inr sz_b3) all0)
  replace O0 := O0.keep K5 (allS g_b3 all0)
  replace E_b3 := E_b3.keep K5
  replace V_b4 := V_b4.keep K5 (ninS (Ne.symm ne_b3_b4) nin0)
  refine Go.tr (T' := T5) (pc' := 25) (L' := #[.val (.int c1)]) (S' := [(.ref b3)]) st5 ?_
  exact Go.retO X5 hx hlk hret rfl (by simp [FieldType.isReference, Value.isRef]) (hb hby d1_25) (by decide) (by decide) (by rw [e5]; exact ⟨b3, b4, _, rfl, N5, K0, g_b3, sz_b3, E_b3, G5_coder, G5_value, V_b4⟩)
theorem own_m255 (x : Int32) : ∃ i : Nat, i < 256 ∧ (x &&& (255 : Int32)).toUInt32.toUInt16.toUInt32.toInt32 = i.toInt32 := by
  have h := c_mask x 255 8 (by decide) (by decide)
  have h1 := c_i2c (x &&& 255)
  refine ⟨(x &&& 255).toInt.toNat, by omega, ?_⟩
  apply Int32.toInt_inj.mp
  rw [len_toInt (n := (x &&& 255).toInt.toNat) (by omega)]; omega
theorem own_byf : ∀ i : Fin 256, (¬ nar .char (Nat.toInt32 i.val) < 0 ∧ ¬ (255 : Int32) < nar .char (Nat.toInt32 i.val)) ∧ (¬ Nat.toInt32 i.val < 0 ∧ ¬ (255 : Int32) < Nat.toInt32 i.val) ∧ (i.val ≠ 45 → ¬ (nar .char (Nat.toInt32 i.val)).toInt8.toInt32 = (45 : Int32) ∧ ¬ ((Nat.toInt32 i.val).toInt8.toInt32).toInt8.toInt32 = (45 : Int32)) ∧ (i.val ≠ 61 → ¬ (nar .char (Nat.toInt32 i.val)).toInt8.toInt32 = (61 : Int32) ∧ ¬ ((Nat.toInt32 i.val).toInt8.toInt32).toInt8.toInt32 = (61 : Int32)) := by decide +kernel
theorem own_n45 : (∀ i : Fin 256, ¬ Nat.toInt32 i.val = (45 : Int32) → i.val ≠ 45) ∧ (∀ i : Fin 256, ¬ Nat.toInt32 i.val = (61 : Int32) → i.val ≠ 61) := by decide +kernel
theorem d9_0 : decode jdk_30_method_1_code 0 = .ok (.aload_n 0, 1) := by decide +kernel
theorem d9_1 : decode jdk_30_method_1_code 1 = .ok (.invokespecial 1, 3) := by decide +kernel
theorem d9_4 : decode jdk_30_method_1_code 4 = .ok (.return_, 1) := by decide +kernel
theorem pn_2 : plainName "java/lang/Record" = true := by first | (simp [plainName, overriddenIn]; done) | decide +kernel
def Q9 (Z : State) (a1 : Addr) (h0 : Heap) (n0 : Nat) (v : Option Value) (h : Heap) (L : List Loc) : Prop := v = none ∧ Fr n0 L ∧ h = h0
def room9 : Room := { frames := 1, cells := 0, slots := 0, locals := 12 }
set_option maxRecDepth 65536 in
set_option maxHeartbeats 40000000 in
theorem rm9 (l : Launch) (Z : State) (a0 : Array Value) (hw : ∀ d ∈ tables_1, d.before a0 Z = true) (ws : List Jvm.Cond) (a1 : Addr) (h0 : Heap) (n0 : Nat) (Z0 : n0 ≤ h0.size)  :
    MetFree l (⟨"java/lang/Record", "<init>", "()V"⟩ : MethodName) (head1 (Jvm.Cond.code (⟨"java/lang/Record", "<init>", "()V"⟩ : MethodName) jdk_30_method_1_code 1 none :: ws) room9) (fun aa_ U_ => aa_ = #[(.ref a1)] ∧ Z.Warmed39 U_.vm ∧ U_.heap = h0) (fun _ _ _ _ _ => True) (fun _ U_ o_ W_ => ∃ v_ L_, o_ = .returned v_ ∧ (Q9 Z a1 h0 n0) v_ W_.heap L_ ∧ FrameEnd U_ o_ W_ L_ room9.cells room9.slots) := by
  refine own_met (Q := (Q9 Z a1 h0 n0)) (L0 := #[.val (.ref a1)]) (plainFor_of_name pn_2) (fun m => by first | (simp [entryFrame, mkF, argsToLocals, Value.category]; done) | rfl) ?_
  intro p e s m below meth c T0 X0 hx hby hml hown hnm hret hlk hZ e0
  have N0 := Fr.nil n0
  refine Go.st (T' := T0) (pc' := 1) (L' := #[.val (.ref a1)]) (S' := [(.ref a1)]) (fun t_ k_ => XS.aloadN X0.here hx rfl (hb hby d9_0) rfl rfl  k_) ?_
  obtain ⟨T1, X1, e1, st1⟩ := initO X0 hx hZ hown (hw _ (List.mem_of_getElem? (i := 48) rfl)) (hw _ (List.mem_of_getElem? (i := 20) rfl)) (hw _ (List.mem_of_getElem? (i := 21) rfl)) e0 (g := (mkF m 1 #[.val (.ref a1)] [(.ref a1)])) rfl (by rw [hml]; rfl) rfl (hb hby d9_1) (by decide) (W := 0) (by show 2 * 0 + _ ≤ _; exact Nat.le_of_eq rfl) (by decide)
  refine Go.st (T' := T1) (pc' := 4) (L' := #[.val (.ref a1)]) (S' := []) st1 ?_
  exact Go.retV X1 hx hlk hret (hb hby d9_4) (by decide) (by decide) (by rw [e1]; exact ⟨rfl, N0, rfl⟩)
theorem d10_0 : decode jdk_31_method_11_code 0 = .ok (.aload_n 0, 1) := by decide +kernel
theorem d10_1 : decode jdk_31_method_11_code 1 = .ok (.ifnonnull 12, 3) := by decide +kernel
theorem d10_13 : decode jdk_31_method_11_code 13 = .ok (.aload_n 0, 1) := by decide +kernel
theorem d10_14 : decode jdk_31_method_11_code 14 = .ok (.areturn, 1) := by decide +kernel
theorem pn_3 : plainName "java/util/Objects" = true := by first | (simp [plainName, overriddenIn]; done) | decide +kernel
def Q10 (Z : State) (x1 : Addr) (x2 : Addr) (h0 : Heap) (n0 : Nat) (v : Option Value) (h : Heap) (L : List Loc) : Prop := v = some (.ref x1) ∧ Fr n0 L ∧ h = h0
def room10 : Room := { frames := 0, cells := 0, slots := 0, locals := 0 }
set_option maxRecDepth 65536 in
set_option maxHeartbeats 40000000 in
theorem rm10 (l : Launch) (Z : State) (a0 : Array Value) (hw : ∀ d ∈ tables_1, d.before a0 Z = true) (ws : List Jvm.Cond) (x1 : Addr) (x2 : Addr) (h0 : Heap) (n0 : Nat) (Z0 : n0 ≤ h0.size)  :
    MetFree l (⟨"java/util/Objects", "requireNonNull", "(Ljava/lang/Object;Ljava/lang/String;)Ljava/lang/Object;"⟩ : MethodName) (head1 (Jvm.Cond.code (⟨"java/util/Objects", "requireNonNull", "(Ljava/lang/Object;Ljava/lang/String;)Ljava/lang/Object;"⟩ : MethodName) jdk_31_method_11_code 2 (some (.object "java/lang/Object")) :: ws) room10) (fun aa_ U_ => aa_ = #[(.ref x1), (.ref x2)] ∧ Z.Warmed39 U_.vm ∧ U_.heap = h0) (fun _ _ _ _ _ => True) (fun _ U_ o_ W_ => ∃ v_ L_, o_ = .returned v_ ∧ (Q10 Z x1 x2 h0 n0) v_ W_.heap L_ ∧ FrameEnd U_ o_ W_ L_ room10.cells room10.slots) := by
  refine own_met (Q := (Q10 Z x1 x2 h0 n0)) (L0 := #[.val (.ref x1), .val (.ref x2)]) (plainFor_of_name pn_3) (fun m => by first | (simp [entryFrame, mkF, argsToLocals, Value.category]; done) | rfl) ?_
  intro p e s m below meth c T0 X0 hx hby hml hown hnm hret hlk hZ e0
  have N0 := Fr.nil n0
  refine Go.st (T' := T0) (pc' := 1) (L' := #[.val (.ref x1), .val (.ref x2)]) (S' := [(.ref x1)]) (fun t_ k_ => XS.aloadN X0.here hx rfl (hb hby d10_0) rfl rfl  k_) ?_
  refine Go.st (T' := T0) (pc' := 13) (L' := #[.val (.ref x1), .val (.ref x2)]) (S' := []) (fun t_ k_ => XS.ifnonnullYes X0.here hx rfl (pc0 := 1) (pc' := 13) rfl (hb hby d10_1) rfl (by decide) (by decide) k_) ?_
  refine Go.st (T' := T0) (pc' := 14) (L' := #[.val (.ref x1), .val (.ref x2)]) (S' := [(.ref x1)]) (fun t_ k_ => XS.aloadN X0.here hx rfl (hb hby d10_13) rfl rfl  k_) ?_
  exact Go.retO X0 hx hlk hret rfl (by simp [FieldType.isReference, Value.isRef]) (hb hby d10_14) (by decide) (by decide) (by rw [e0]; exact ⟨rfl, N0, rfl⟩)
theorem d11_0 : decode jdk_42_method_55_code 0 = .ok (.aload_n 0, 1) := by decide +kernel
theorem d11_1 : decode jdk_42_method_55_code 1 = .ok (.getfield 9, 3) := by decide +kernel
theorem d11_4 : decode jdk_42_method_55_code 4 = .ok (.arraylength, 1) := by decide +kernel
theorem d11_5 : decode jdk_42_method_55_code 5 = .ok (.ifCond .ne 7, 3) := by decide +kernel
theorem d11_12 : decode jdk_42_method_55_code 12 = .ok (.iconst 0, 1) := by decide +kernel
theorem d11_13 : decode jdk_42_method_55_code 13 = .ok (.ireturn, 1) := by decide +kernel
theorem pd_4 : parseMethodDescriptor "()V" = some ⟨[], none⟩ := by decide +kernel
theorem pd_5 : parseMethodDescriptor "(Ljava/lang/Object;Ljava/lang/String;)Ljava/lang/Object;" = some ⟨[(.object "java/lang/Object"), (.object "java/lang/String")], some (.object "java/lang/Object")⟩ := by decide +kernel
def Qemp1 (Z : State) (a1 : Addr) (t1 : Addr) (k1 : ClassId) (gC : Int32) (x0 : Int32) (h0 : Heap) (n0 : Nat) (v : Option Value) (h : Heap) (L : List Loc) : Prop := v = some (.int 0) ∧ Fr n0 L ∧ h = h0
def roomemp1 : Room := { frames := 0, cells := 0, slots := 0, locals := 0 }
set_option maxRecDepth 65536 in
set_option maxHeartbeats 40000000 in
theorem rmemp1 (l : Launch) (Z : State) (a0 : Array Value) (hw : ∀ d ∈ tables_1, d.before a0 Z = true) (ws : List Jvm.Cond) (a1 : Addr) (t1 : Addr) (k1 : ClassId) (gC : Int32) (x0 : Int32) (h0 : Heap) (n0 : Nat) (Z0 : n0 ≤ h0.size) (SC : Sta Z Z.heap "java/lang/String" "COMPACT_STRINGS" "Z" (.int gC)) (PC : ¬ (gC = (0 : Int32))) (O0 : Old Z n0 h0) (E_a1 : Exa Z h0 a1 "java/lang/String") (Fc_a1 : Fld Z h0 a1 "java/lang/String" "coder" "B" (.int (0 : Int32))) (Fv_a1 : Fld Z h0 a1 "java/lang/String" "value" "[B" (.ref t1)) (V_t1 : Arv Z h0 t1 k1 .byte (1 : Int32) [(.int x0)] (.int (0 : Int32))) :
    MetFree l (⟨"java/lang/String", "isEmpty", "()Z"⟩ : MethodName) (head1 (Jvm.Cond.code (⟨"java/lang/String", "isEmpty", "()Z"⟩ : MethodName) jdk_42_method_55_code 1 (some .boolean) :: ws) roomemp1) (fun aa_ U_ => aa_ = #[(.ref a1)] ∧ Z.Warmed39 U_.vm ∧ U_.heap = h0) (fun _ _ _ _ _ => True) (fun _ U_ o_ W_ => ∃ v_ L_, o_ = .returned v_ ∧ (Qemp1 Z a1 t1 k1 gC x0 h0 n0) v_ W_.heap L_ ∧ FrameEnd U_ o_ W_ L_ roomemp1.cells roomemp1.slots) := by
  refine own_met (Q := (Qemp1 Z a1 t1 k1 gC x0 h0 n0)) (L0 := #[.val (.ref a1)]) (plainFor_of_name pn_0) (fun m => by first | (simp [entryFrame, mkF, argsToLocals, Value.category]; done) | rfl) ?_
  intro p e s m below meth c T0 X0 hx hby hml hown hnm hret hlk hZ e0
  have N0 := Fr.nil n0
  refine Go.st (T' := T0) (pc' := 1) (L' := #[.val (.ref a1)]) (S' := [(.ref a1)]) (fun t_ k_ => XS.aloadN X0.here hx rfl (hb hby d11_0) rfl rfl  k_) ?_
  obtain ⟨T1, X1, e1, st1⟩ := getF X0 hx hZ hown (host := "") (Or.inl (hw _ (List.mem_of_getElem? (i := 22) rfl))) Via.refl e0 Fv_a1 (g := (mkF m 1 #[.val (.ref a1)] [(.ref a1)])) rfl rfl (hb hby d11_1)
  refine Go.st (T' := T1) (pc' := 4) (L' := #[.val (.ref a1)]) (S' := [(.ref t1)]) st1 ?_
  obtain ⟨cl2, Ar2, -, q2a, q2b, -, -⟩ := id V_t1
  refine Go.st (T' := T1) (pc' := 5) (L' := #[.val (.ref a1)]) (S' := [(.int (1 : Int32))]) (fun t_ k_ => own_len X1 hx hZ e1 Ar2 q2a q2b (g := (mkF m 4 #[.val (.ref a1)] [(.ref t1)])) rfl rfl (hb hby d11_4) t_ k_) ?_
  refine Go.st (T' := T1) (pc' := 12) (L' := #[.val (.ref a1)]) (S' := []) (fun t_ k_ => XS.ifYes X1.here hx rfl (pc0 := 5) (pc' := 12) rfl (hb hby d11_5) rfl ((if0 _ _).trans (feq (by decide : ¬ ((1 : Int32) = (0 : Int32)))).2) (by decide) (by decide) k_) ?_
  refine Go.st (T' := T1) (pc' := 13) (L' := #[.val (.ref a1)]) (S' := [(.int (0 : Int32))]) (fun t_ k_ => XS.iconst X1.here hx rfl (hb hby d11_12) k_) ?_
  exact Go.retN X1 hx hlk hret (by simp) (hb hby d11_13) (by decide) (by decide) (by rw [e1]; exact ⟨rfl, N0, rfl⟩)
theorem d15_0 : decode jdk_42_method_152_code 0 = .ok (.getstatic 38, 3) := by decide +kernel
theorem d15_3 : decode jdk_42_method_152_code 3 = .ok (.ifCond .eq 10, 3) := by decide +kernel
theorem d15_6 : decode jdk_42_method_152_code 6 = .ok (.aload_n 0, 1) := by decide +kernel
theorem d15_7 : decode jdk_42_method_152_code 7 = .ok (.getfield 15, 3) := by decide +kernel
theorem d15_10 : decode jdk_42_method_152_code 10 = .ok (.goto 4, 3) := by decide +kernel
theorem d15_14 : decode jdk_42_method_152_code 14 = .ok (.ireturn, 1) := by decide +kernel
theorem pd_6 : parseMethodDescriptor "()Z" = some ⟨[], some .boolean⟩ := by decide +kernel
def Q15 (Z : State) (a1 : Addr) (gC : Int32) (h0 : Heap) (n0 : Nat) (v : Option Value) (h : Heap) (L : List Loc) : Prop := v = some (.int 0) ∧ Fr n0 L ∧ h = h0
def room15 : Room := { frames := 0, cells := 0, slots := 0, locals := 0 }
set_option maxRecDepth 65536 in
set_option maxHeartbeats 40000000 in
theorem rm15 (l : Launch) (Z : State) (a0 : Array Value) (hw : ∀ d ∈ tables_1, d.before a0 Z = true) (ws : List Jvm.Cond) (a1 : Addr) (gC : Int32) (h0 : Heap) (n0 : Nat) (Z0 : n0 ≤ h0.size) (SC : Sta Z Z.heap "java/lang/String" "COMPACT_STRINGS" "Z" (.int gC)) (PC : ¬ (gC = (0 : Int32))) (O0 : Old Z n0 h0) (Fc : Fld Z h0 a1 "java/lang/String" "coder" "B" (.int (0 : Int32))) :
    MetFree l (⟨"java/lang/String", "coder", "()B"⟩ : MethodName) (head1 (Jvm.Cond.code (⟨"java/lang/String", "coder", "()B"⟩ : MethodName) jdk_42_method_152_code 1 (some .byte) :: ws) room15) (fun aa_ U_ => aa_ = #[(.ref a1)] ∧ Z.Warmed39 U_.vm ∧ U_.heap = h0) (fun _ _ _ _ _ => True) (fun _ U_ o_ W_ => ∃ v_ L_, o_ = .returned v_ ∧ (Q15 Z a1 gC h0 n0) v_ W_.heap L_ ∧ FrameEnd U_ o_ W_ L_ room15.cells room15.slots) := by
  refine own_met (Q := (Q15 Z a1 gC h0 n0)) (L0 := #[.val (.ref a1)]) (plainFor_of_name pn_0) (fun m => by first | (simp [entryFrame, mkF, argsToLocals, Value.category]; done) | rfl) ?_
  intro p e s m below meth c T0 X0 hx hby hml hown hnm hret hlk hZ e0
  have N0 := Fr.nil n0
  obtain ⟨T1, X1, e1, st1⟩ := getS2 X0 hx hZ hown (host := "") (Or.inl (hw _ (List.mem_of_getElem? (i := 4) rfl))) Via.refl e0 (SC.ext O0.2) (g := (mkF m 0 #[.val (.ref a1)] [])) rfl (hb hby d15_0)
  refine Go.st (T' := T1) (pc' := 3) (L' := #[.val (.ref a1)]) (S' := [(.int gC)]) st1 ?_
  refine Go.st (T' := T1) (pc' := 6) (L' := #[.val (.ref a1)]) (S' := []) (fun t_ k_ => XS.ifNo X1.here hx rfl (hb hby d15_3) rfl ((if0 _ _).trans (feq (PC : ¬ (gC = (0 : Int32)))).1) k_) ?_
  refine Go.st (T' := T1) (pc' := 7) (L' := #[.val (.ref a1)]) (S' := [(.ref a1)]) (fun t_ k_ => XS.aloadN X1.here hx rfl (hb hby d15_6) rfl rfl  k_) ?_
  obtain ⟨T2, X2, e2, st2⟩ := getF X1 hx hZ hown (host := "") (Or.inl (hw _ (List.mem_of_getElem? (i := 24) rfl))) Via.refl e1 Fc (g := (mkF m 7 #[.val (.ref a1)] [(.ref a1)])) rfl rfl (hb hby d15_7)
  refine Go.st (T' := T2) (pc' := 10) (L' := #[.val (.ref a1)]) (S' := [(.int (0 : Int32))]) st2 ?_
  refine Go.st (T' := T2) (pc' := 14) (L' := #[.val (.ref a1)]) (S' := [(.int (0 : Int32))]) (fun t_ k_ => XS.goto X2.here hx rfl (pc0 := 10) (pc' := 14) rfl (hb hby d15_10) (by decide) (by decide) k_) ?_
  exact Go.retN X2 hx hlk hret (by simp) (hb hby d15_14) (by decide) (by decide) (by rw [e2]; exact ⟨rfl, N0, rfl⟩)
theorem d14_0 : decode jdk_42_method_54_code 0 = .ok (.aload_n 0, 1) := by decide +kernel
theorem d14_1 : decode jdk_42_method_54_code 1 = .ok (.getfield 9, 3) := by decide +kernel
theorem d14_4 : decode jdk_42_method_54_code 4 = .ok (.arraylength, 1) := by decide +kernel
theorem d14_5 : decode jdk_42_method_54_code 5 = .ok (.aload_n 0, 1) := by decide +kernel
theorem d14_6 : decode jdk_42_method_54_code 6 = .ok (.invokevirtual 335, 3) := by decide +kernel
theorem d14_9 : decode jdk_42_method_54_code 9 = .ok (.ishr, 1) := by decide +kernel
theorem d14_10 : decode jdk_42_method_54_code 10 = .ok (.ireturn, 1) := by decide +kernel
theorem pd_7 : parseMethodDescriptor "()B" = some ⟨[], some .byte⟩ := by decide +kernel
def Qlen1 (Z : State) (a1 : Addr) (t1 : Addr) (k1 : ClassId) (gC : Int32) (x0 : Int32) (h0 : Heap) (n0 : Nat) (v : Option Value) (h : Heap) (L : List Loc) : Prop := v = some (.int 1) ∧ Fr n0 L ∧ h = h0
def roomlen1 : Room := { frames := 1, cells := 0, slots := 0, locals := 13 }
set_option maxRecDepth 65536 in
set_option maxHeartbeats 40000000 in
theorem rmlen1 (l : Launch) (Z : State) (a0 : Array Value) (hw : ∀ d ∈ tables_1, d.before a0 Z = true) (ws : List Jvm.Cond) (a1 : Addr) (t1 : Addr) (k1 : ClassId) (gC : Int32) (x0 : Int32) (h0 : Heap) (n0 : Nat) (Z0 : n0 ≤ h0.size) (SC : Sta Z Z.heap "java/lang/String" "COMPACT_STRINGS" "Z" (.int gC)) (PC : ¬ (gC = (0 : Int32))) (O0 : Old Z n0 h0) (E_a1 : Exa Z h0 a1 "java/lang/String") (Fc_a1 : Fld Z h0 a1 "java/lang/String" "coder" "B" (.int (0 : Int32))) (Fv_a1 : Fld Z h0 a1 "java/lang/String" "value" "[B" (.ref t1)) (V_t1 : Arv Z h0 t1 k1 .byte (1 : Int32) [(.int x0)] (.int (0 : Int32))) :
    MetFree l (⟨"java/lang/String", "length", "()I"⟩ : MethodName) (head1 (Jvm.Cond.code (⟨"java/lang/String", "length", "()I"⟩ : MethodName) jdk_42_method_54_code 1 (some .int) :: ws) roomlen1) (fun aa_ U_ => aa_ = #[(.ref a1)] ∧ Z.Warmed39 U_.vm ∧ U_.heap = h0) (fun _ _ _ _ _ => True) (fun _ U_ o_ W_ => ∃ v_ L_, o_ = .returned v_ ∧ (Qlen1 Z a1 t1 k1 gC x0 h0 n0) v_ W_.heap L_ ∧ FrameEnd U_ o_ W_ L_ roomlen1.cells roomlen1.slots) := by
  refine own_met (Q := (Qlen1 Z a1 t1 k1 gC x0 h0 n0)) (L0 := #[.val (.ref a1)]) (plainFor_of_name pn_0) (fun m => by first | (simp [entryFrame, mkF, argsToLocals, Value.category]; done) | rfl) ?_
  intro p e s m below meth c T0 X0 hx hby hml hown hnm hret hlk hZ e0
  have N0 := Fr.nil n0
  refine Go.st (T' := T0) (pc' := 1) (L' := #[.val (.ref a1)]) (S' := [(.ref a1)]) (fun t_ k_ => XS.aloadN X0.here hx rfl (hb hby d14_0) rfl rfl  k_) ?_
  obtain ⟨T1, X1, e1, st1⟩ := getF X0 hx hZ hown (host := "") (Or.inl (hw _ (List.mem_of_getElem? (i := 22) rfl))) Via.refl e0 Fv_a1 (g := (mkF m 1 #[.val (.ref a1)] [(.ref a1)])) rfl rfl (hb hby d14_1)
  refine Go.st (T' := T1) (pc' := 4) (L' := #[.val (.ref a1)]) (S' := [(.ref t1)]) st1 ?_
  obtain ⟨cl2, Ar2, -, q2a, q2b, -, -⟩ := id V_t1
  refine Go.st (T' := T1) (pc' := 5) (L' := #[.val (.ref a1)]) (S' := [(.int (1 : Int32))]) (fun t_ k_ => own_len X1 hx hZ e1 Ar2 q2a q2b (g := (mkF m 4 #[.val (.ref a1)] [(.ref t1)])) rfl rfl (hb hby d14_4) t_ k_) ?_
  refine Go.st (T' := T1) (pc' := 6) (L' := #[.val (.ref a1)]) (S' := [(.ref a1), (.int (1 : Int32))]) (fun t_ k_ => XS.aloadN X1.here hx rfl (hb hby d14_5) rfl rfl  k_) ?_
  obtain ⟨cq3, kq3, q3a, q3b, q3c⟩ := isOf hZ e1 E_a1
  obtain ⟨_, _, ⟨T3, L3, k3, n3⟩, -, X3, ⟨Lc3, hQ3, l3, y3, z3⟩, st3⟩ := X1.virtualBack hx (y := (⟨"java/lang/String", "coder", "()B"⟩ : MethodName)) (z := (⟨"java/lang/String", "coder", "()B"⟩ : MethodName)) hown (mvT hZ (hw _ (List.mem_of_getElem? (i := 76) rfl))) (mvT hZ (hw _ (List.mem_of_getElem? (i := 77) rfl))) (notFace_of_selects (args := #[]) (mvT hZ (hw _ (List.mem_of_getElem? (i := 79) rfl)))) (mvT hZ (hw _ (List.mem_of_getElem? (i := 79) rfl))) (mvT hZ (hw _ (List.mem_of_getElem? (i := 78) rfl))) (by decide) (backOf (W := 1) (rm15 l Z a0 hw [] a1 gC h0 n0 Z0 SC PC O0 Fc_a1) hZ (hw _ (List.mem_of_getElem? (i := 80) rfl)) (hw _ (List.mem_of_getElem? (i := 2) rfl)) (by decide) (by decide)) q3a q3c (g := (mkF m 6 #[.val (.ref a1)] [(.ref a1), (.int (1 : Int32))])) rfl (by rw [hml]; rfl) (Steps.refl _) (argsL := []) (rest := [(.int (1 : Int32))]) (lenOf pd_7 rfl) rfl (by show 2 * 0 + _ ≤ _; exact Nat.le_of_eq rfl) (hb hby d14_6) (fun _ _ => ⟨rfl, e1, (by decide : 0 + 0 ≤ _), (by decide : 0 + 0 ≤ _)⟩)
  dsimp only [Pt.U, Pt.locs, Pt.cells, Pt.slots] at X3 l3 y3 z3 st3 hQ3
  subst l3 y3 z3
  obtain ⟨rfl, N3q, e3⟩ := hQ3
  have N3 := Fr.app N0 N3q
  refine Go.tr (T' := T3) (pc' := 9) (L' := #[.val (.ref a1)]) (S' := [(.int (0 : Int32)), (.int (1 : Int32))]) st3 ?_
  refine Go.st (T' := T3) (pc' := 10) (L' := #[.val (.ref a1)]) (S' := [(.int ((1 : Int32) >>> ((0 : Int32) &&& 31)))]) (fun t_ k_ => XS.ishr X3.here hx rfl (hb hby d14_9) rfl k_) ?_
  rw [show ((1 : Int32) >>> ((0 : Int32) &&& 31)) = (1 : Int32) from by decide]
  exact Go.retO X3 hx hlk hret rfl (by simp [FieldType.isReference, Value.isRef]) (hb hby d14_10) (by decide) (by decide) (by rw [e3]; exact ⟨rfl, N3, rfl⟩)
theorem d16_0 : decode jdk_48_method_14_code 0 = .ok (.iconst 0, 1) := by decide +kernel
theorem d16_1 : decode jdk_48_method_14_code 1 = .ok (.istore 5, 2) := by decide +kernel
theorem d16_3 : decode jdk_48_method_14_code 3 = .ok (.iload 4, 2) := by decide +kernel
theorem d16_5 : decode jdk_48_method_14_code 5 = .ok (.bipush 7, 2) := by decide +kernel
theorem d16_7 : decode jdk_48_method_14_code 7 = .ok (.if_icmp .le 63, 3) := by decide +kernel
theorem d16_70 : decode jdk_48_method_14_code 70 = .ok (.iload 5, 2) := by decide +kernel
theorem d16_72 : decode jdk_48_method_14_code 72 = .ok (.iload 4, 2) := by decide +kernel
theorem d16_74 : decode jdk_48_method_14_code 74 = .ok (.if_icmp .ge 27, 3) := by decide +kernel
theorem d16_77 : decode jdk_48_method_14_code 77 = .ok (.aload_n 0, 1) := by decide +kernel
theorem d16_78 : decode jdk_48_method_14_code 78 = .ok (.iload_n 1, 1) := by decide +kernel
theorem d16_79 : decode jdk_48_method_14_code 79 = .ok (.iload 5, 2) := by decide +kernel
theorem d16_81 : decode jdk_48_method_14_code 81 = .ok (.iadd, 1) := by decide +kernel
theorem d16_82 : decode jdk_48_method_14_code 82 = .ok (.baload, 1) := by decide +kernel
theorem d16_83 : decode jdk_48_method_14_code 83 = .ok (.aload_n 2, 1) := by decide +kernel
theorem d16_84 : decode jdk_48_method_14_code 84 = .ok (.iload_n 3, 1) := by decide +kernel
theorem d16_85 : decode jdk_48_method_14_code 85 = .ok (.iload 5, 2) := by decide +kernel
theorem d16_87 : decode jdk_48_method_14_code 87 = .ok (.iadd, 1) := by decide +kernel
theorem d16_88 : decode jdk_48_method_14_code 88 = .ok (.baload, 1) := by decide +kernel
theorem d16_89 : decode jdk_48_method_14_code 89 = .ok (.if_icmp .eq 6, 3) := by decide +kernel
theorem d16_92 : decode jdk_48_method_14_code 92 = .ok (.iload 5, 2) := by decide +kernel
theorem d16_94 : decode jdk_48_method_14_code 94 = .ok (.ireturn, 1) := by decide +kernel
theorem pd_8 : parseMethodDescriptor "()I" = some ⟨[], some .int⟩ := by decide +kernel
theorem pn_4 : plainName "jdk/internal/util/ArraysSupport" = true := by first | (simp [plainName, overriddenIn]; done) | decide +kernel
def Qmis1_45 (Z : State) (t1 : Addr) (t2 : Addr) (k1 : ClassId) (k2 : ClassId) (gC : Int32) (x0 : Int32) (h0 : Heap) (n0 : Nat) (v : Option Value) (h : Heap) (L : List Loc) : Prop := v = some (.int 0) ∧ Fr n0 L ∧ h = h0
def roommis1_45 : Room := { frames := 0, cells := 0, slots := 0, locals := 0 }
set_option maxRecDepth 65536 in
set_option maxHeartbeats 40000000 in
theorem rmmis1_45 (l : Launch) (Z : State) (a0 : Array Value) (hw : ∀ d ∈ tables_1, d.before a0 Z = true) (ws : List Jvm.Cond) (t1 : Addr) (t2 : Addr) (k1 : ClassId) (k2 : ClassId) (gC : Int32) (x0 : Int32) (h0 : Heap) (n0 : Nat) (Z0 : n0 ≤ h0.size) (SC : Sta Z Z.heap "java/lang/String" "COMPACT_STRINGS" "Z" (.int gC)) (PC : ¬ (gC = (0 : Int32))) (O0 : Old Z n0 h0) (V_t1 : Arv Z h0 t1 k1 .byte (1 : Int32) [(.int x0)] (.int (0 : Int32))) (V_t2 : Arv Z h0 t2 k2 .byte (1 : Int32) [(.int (45 : Int32))] (.int (0 : Int32))) (hd : ¬ x0 = (45 : Int32)) :
    MetFree l (⟨"jdk/internal/util/ArraysSupport", "mismatch", "([BI[BII)I"⟩ : MethodName) (head1 (Jvm.Cond.code (⟨"jdk/internal/util/ArraysSupport", "mismatch", "([BI[BII)I"⟩ : MethodName) jdk_48_method_14_code 8 (some .int) :: ws) roommis1_45) (fun aa_ U_ => aa_ = #[(.ref t1), (.int (0 : Int32)), (.ref t2), (.int (0 : Int32)), (.int (1 : Int32))] ∧ Z.Warmed39 U_.vm ∧ U_.heap = h0) (fun _ _ _ _ _ => True) (fun _ U_ o_ W_ => ∃ v_ L_, o_ = .returned v_ ∧ (Qmis1_45 Z t1 t2 k1 k2 gC x0 h0 n0) v_ W_.heap L_ ∧ FrameEnd U_ o_ W_ L_ roommis1_45.cells roommis1_45.slots) := by
  refine own_met (Q := (Qmis1_45 Z t1 t2 k1 k2 gC x0 h0 n0)) (L0 := #[.val (.ref t1), .val (.int (0 : Int32)), .val (.ref t2), .val (.int (0 : Int32)), .val (.int (1 : Int32)), .unset, .unset, .unset]) (plainFor_of_name pn_4) (fun m => by first | (simp [entryFrame, mkF, argsToLocals, Value.category]; done) | rfl) ?_
  intro p e s m below meth c T0 X0 hx hby hml hown hnm hret hlk hZ e0
  have N0 := Fr.nil n0
  refine Go.st (T' := T0) (pc' := 1) (L' := #[.val (.ref t1), .val (.int (0 : Int32)), .val (.ref t2), .val (.int (0 : Int32)), .val (.int (1 : Int32)), .unset, .unset, .unset]) (S' := [(.int (0 : Int32))]) (fun t_ k_ => XS.iconst X0.here hx rfl (hb hby d16_0) k_) ?_
  refine Go.st (T' := T0) (pc' := 3) (L' := #[.val (.ref t1), .val (.int (0 : Int32)), .val (.ref t2), .val (.int (0 : Int32)), .val (.int (1 : Int32)), .val (.int (0 : Int32)), .unset, .unset]) (S' := []) (fun t_ k_ => XS.istore X0.here hx rfl (hb hby d16_1) rfl (l' := #[.val (.ref t1), .val (.int (0 : Int32)), .val (.ref t2), .val (.int (0 : Int32)), .val (.int (1 : Int32)), .val (.int (0 : Int32)), .unset, .unset]) rfl k_) ?_
  refine Go.st (T' := T0) (pc' := 5) (L' := #[.val (.ref t1), .val (.int (0 : Int32)), .val (.ref t2), .val (.int (0 : Int32)), .val (.int (1 : Int32)), .val (.int (0 : Int32)), .unset, .unset]) (S' := [(.int (1 : Int32))]) (fun t_ k_ => XS.iload X0.here hx rfl (hb hby d16_3) rfl  k_) ?_
  refine Go.st (T' := T0) (pc' := 7) (L' := #[.val (.ref t1), .val (.int (0 : Int32)), .val (.ref t2), .val (.int (0 : Int32)), .val (.int (1 : Int32)), .val (.int (0 : Int32)), .unset, .unset]) (S' := [(.int (7 : Int32)), (.int (1 : Int32))]) (fun t_ k_ => XS.bipush X0.here hx rfl (hb hby d16_5) k_) ?_
  refine Go.st (T' := T0) (pc' := 70) (L' := #[.val (.ref t1), .val (.int (0 : Int32)), .val (.ref t2), .val (.int (0 : Int32)), .val (.int (1 : Int32)), .val (.int (0 : Int32)), .unset, .unset]) (S' := []) (fun t_ k_ => XS.icmpYes X0.here hx rfl (pc0 := 7) (pc' := 70) rfl (hb hby d16_7) rfl (flt (by decide : ¬ ((7 : Int32) < (1 : Int32)))).2.2.2 (by decide) (by decide) k_) ?_
  refine Go.st (T' := T0) (pc' := 72) (L' := #[.val (.ref t1), .val (.int (0 : Int32)), .val (.ref t2), .val (.int (0 : Int32)), .val (.int (1 : Int32)), .val (.int (0 : Int32)), .unset, .unset]) (S' := [(.int (0 : Int32))]) (fun t_ k_ => XS.iload X0.here hx rfl (hb hby d16_70) rfl  k_) ?_
  refine Go.st (T' := T0) (pc' := 74) (L' := #[.val (.ref t1), .val (.int (0 : Int32)), .val (.ref t2), .val (.int (0 : Int32)), .val (.int (1 : Int32)), .val (.int (0 : Int32)), .unset, .unset]) (S' := [(.int (1 : Int32)), (.int (0 : Int32))]) (fun t_ k_ => XS.iload X0.here hx rfl (hb hby d16_72) rfl  k_) ?_
  refine Go.st (T' := T0) (pc' := 77) (L' := #[.val (.ref t1), .val (.int (0 : Int32)), .val (.ref t2), .val (.int (0 : Int32)), .val (.int (1 : Int32)), .val (.int (0 : Int32)), .unset, .unset]) (S' := []) (fun t_ k_ => XS.icmpNo X0.here hx rfl (hb hby d16_74) rfl (tlt (by decide : ((0 : Int32) < (1 : Int32)))).2.1 k_) ?_
  refine Go.st (T' := T0) (pc' := 78) (L' := #[.val (.ref t1), .val (.int (0 : Int32)), .val (.ref t2), .val (.int (0 : Int32)), .val (.int (1 : Int32)), .val (.int (0 : Int32)), .unset, .unset]) (S' := [(.ref t1)]) (fun t_ k_ => XS.aloadN X0.here hx rfl (hb hby d16_77) rfl rfl  k_) ?_
  refine Go.st (T' := T0) (pc' := 79) (L' := #[.val (.ref t1), .val (.int (0 : Int32)), .val (.ref t2), .val (.int (0 : Int32)), .val (.int (1 : Int32)), .val (.int (0 : Int32)), .unset, .unset]) (S' := [(.int (0 : Int32)), (.ref t1)]) (fun t_ k_ => XS.iloadN X0.here hx rfl (hb hby d16_78) rfl  k_) ?_
  refine Go.st (T' := T0) (pc' := 81) (L' := #[.val (.ref t1), .val (.int (0 : Int32)), .val (.ref t2), .val (.int (0 : Int32)), .val (.int (1 : Int32)), .val (.int (0 : Int32)), .unset, .unset]) (S' := [(.int (0 : Int32)), (.int (0 : Int32)), (.ref t1)]) (fun t_ k_ => XS.iload X0.here hx rfl (hb hby d16_79) rfl  k_) ?_
  refine Go.st (T' := T0) (pc' := 82) (L' := #[.val (.ref t1), .val (.int (0 : Int32)), .val (.ref t2), .val (.int (0 : Int32)), .val (.int (1 : Int32)), .val (.int (0 : Int32)), .unset, .unset]) (S' := [(.int ((0 : Int32) + (0 : Int32))), (.ref t1)]) (fun t_ k_ => XS.iadd X0.here hx rfl (hb hby d16_81) rfl k_) ?_
  rw [show ((0 : Int32) + (0 : Int32)) = (0 : Int32) from by decide]
  obtain ⟨cl1, Ar1, -, q1a, q1b, q1c, q1d⟩ := id V_t1
  refine Go.st (T' := T0) (pc' := 83) (L' := #[.val (.ref t1), .val (.int (0 : Int32)), .val (.ref t2), .val (.int (0 : Int32)), .val (.int (1 : Int32)), .val (.int (0 : Int32)), .unset, .unset]) (S' := [(.int x0)]) (fun t_ k_ => X0.baloadBytes hx (j := (0 : Int32)) (v := (.int x0)) (by rw [e0]; exact Ar1.1) (State.isArrayOf_alike hZ.alike Ar1.2.1) Ar1.2.2 (inb_of q1a ⟨by decide, by decide⟩) (q1c.at (inb_of q1a ⟨by decide, by decide⟩) rfl) (g := (mkF m 82 #[.val (.ref t1), .val (.int (0 : Int32)), .val (.ref t2), .val (.int (0 : Int32)), .val (.int (1 : Int32)), .val (.int (0 : Int32)), .unset, .unset] [(.int (0 : Int32)), (.ref t1)])) rfl rfl (hb hby d16_82) t_ k_) ?_
  refine Go.st (T' := T0) (pc' := 84) (L' := #[.val (.ref t1), .val (.int (0 : Int32)), .val (.ref t2), .val (.int (0 : Int32)), .val (.int (1 : Int32)), .val (.int (0 : Int32)), .unset, .unset]) (S' := [(.ref t2), (.int x0)]) (fun t_ k_ => XS.aloadN X0.here hx rfl (hb hby d16_83) rfl rfl  k_) ?_
  refine Go.st (T' := T0) (pc' := 85) (L' := #[.val (.ref t1), .val (.int (0 : Int32)), .val (.ref t2), .val (.int (0 : Int32)), .val (.int (1 : Int32)), .val (.int (0 : Int32)), .unset, .unset]) (S' := [(.int (0 : Int32)), (.ref t2), (.int x0)]) (fun t_ k_ => XS.iloadN X0.here hx rfl (hb hby d16_84) rfl  k_) ?_
  refine Go.st (T' := T0) (pc' := 87) (L' := #[.val (.ref t1), .val (.int (0 : Int32)), .val (.ref t2), .val (.int (0 : Int32)), .val (.int (1 : Int32)), .val (.int (0 : Int32)), .unset, .unset]) (S' := [(.int (0 : Int32)), (.int (0 : Int32)), (.ref t2), (.int x0)]) (fun t_ k_ => XS.iload X0.here hx rfl (hb hby d16_85) rfl  k_) ?_
  refine Go.st (T' := T0) (pc' := 88) (L' := #[.val (.ref t1), .val (.int (0 : Int32)), .val (.ref t2), .val (.int (0 : Int32)), .val (.int (1 : Int32)), .val (.int (0 : Int32)), .unset, .unset]) (S' := [(.int ((0 : Int32) + (0 : Int32))), (.ref t2), (.int x0)]) (fun t_ k_ => XS.iadd X0.here hx rfl (hb hby d16_87) rfl k_) ?_
  rw [show ((0 : Int32) + (0 : Int32)) = (0 : Int32) from by decide]
  obtain ⟨cl2, Ar2, -, q2a, q2b, q2c, q2d⟩ := id V_t2
  refine Go.st (T' := T0) (pc' := 89) (L' := #[.val (.ref t1), .val (.int (0 : Int32)), .val (.ref t2), .val (.int (0 : Int32)), .val (.int (1 : Int32)), .val (.int (0 : Int32)), .unset, .unset]) (S' := [(.int (45 : Int32)), (.int x0)]) (fun t_ k_ => X0.baloadBytes hx (j := (0 : Int32)) (v := (.int (45 : Int32))) (by rw [e0]; exact Ar2.1) (State.isArrayOf_alike hZ.alike Ar2.2.1) Ar2.2.2 (inb_of q2a ⟨by decide, by decide⟩) (q2c.at (inb_of q2a ⟨by decide, by decide⟩) rfl) (g := (mkF m 88 #[.val (.ref t1), .val (.int (0 : Int32)), .val (.ref t2), .val (.int (0 : Int32)), .val (.int (1 : Int32)), .val (.int (0 : Int32)), .unset, .unset] [(.int (0 : Int32)), (.ref t2), (.int x0)])) rfl rfl (hb hby d16_88) t_ k_) ?_
  refine Go.st (T' := T0) (pc' := 92) (L' := #[.val (.ref t1), .val (.int (0 : Int32)), .val (.ref t2), .val (.int (0 : Int32)), .val (.int (1 : Int32)), .val (.int (0 : Int32)), .unset, .unset]) (S' := []) (fun t_ k_ => XS.icmpNo X0.here hx rfl (hb hby d16_89) rfl (feq (hd : ¬ (x0 = (45 : Int32)))).1 k_) ?_
  refine Go.st (T' := T0) (pc' := 94) (L' := #[.val (.ref t1), .val (.int (0 : Int32)), .val (.ref t2), .val (.int (0 : Int32)), .val (.int (1 : Int32)), .val (.int (0 : Int32)), .unset, .unset]) (S' := [(.int (0 : Int32))]) (fun t_ k_ => XS.iload X0.here hx rfl (hb hby d16_92) rfl  k_) ?_
  exact Go.retO X0 hx hlk hret rfl (by simp [FieldType.isReference, Value.isRef]) (hb hby d16_94) (by decide) (by decide) (by rw [e0]; exact ⟨rfl, N0, rfl⟩)
theorem d13_0 : decode jdk_42_method_75_code 0 = .ok (.iload_n 2, 1) := by decide +kernel
theorem d13_1 : decode jdk_42_method_75_code 1 = .ok (.ifCond .lt 16, 3) := by decide +kernel
theorem d13_4 : decode jdk_42_method_75_code 4 = .ok (.iload_n 2, 1) := by decide +kernel
theorem d13_5 : decode jdk_42_method_75_code 5 = .ok (.aload_n 0, 1) := by decide +kernel
theorem d13_6 : decode jdk_42_method_75_code 6 = .ok (.invokevirtual 505, 3) := by decide +kernel
theorem d13_9 : decode jdk_42_method_75_code 9 = .ok (.aload_n 1, 1) := by decide +kernel
theorem d13_10 : decode jdk_42_method_75_code 10 = .ok (.invokevirtual 505, 3) := by decide +kernel
theorem d13_13 : decode jdk_42_method_75_code 13 = .ok (.isub, 1) := by decide +kernel
theorem d13_14 : decode jdk_42_method_75_code 14 = .ok (.if_icmp .le 5, 3) := by decide +kernel
theorem d13_19 : decode jdk_42_method_75_code 19 = .ok (.aload_n 0, 1) := by decide +kernel
theorem d13_20 : decode jdk_42_method_75_code 20 = .ok (.getfield 9, 3) := by decide +kernel
theorem d13_23 : decode jdk_42_method_75_code 23 = .ok (.astore_n 3, 1) := by decide +kernel
theorem d13_24 : decode jdk_42_method_75_code 24 = .ok (.aload_n 1, 1) := by decide +kernel
theorem d13_25 : decode jdk_42_method_75_code 25 = .ok (.getfield 9, 3) := by decide +kernel
theorem d13_28 : decode jdk_42_method_75_code 28 = .ok (.astore 4, 2) := by decide +kernel
theorem d13_30 : decode jdk_42_method_75_code 30 = .ok (.iconst 0, 1) := by decide +kernel
theorem d13_31 : decode jdk_42_method_75_code 31 = .ok (.istore 5, 2) := by decide +kernel
theorem d13_33 : decode jdk_42_method_75_code 33 = .ok (.aload 4, 2) := by decide +kernel
theorem d13_35 : decode jdk_42_method_75_code 35 = .ok (.arraylength, 1) := by decide +kernel
theorem d13_36 : decode jdk_42_method_75_code 36 = .ok (.istore 6, 2) := by decide +kernel
theorem d13_38 : decode jdk_42_method_75_code 38 = .ok (.aload_n 0, 1) := by decide +kernel
theorem d13_39 : decode jdk_42_method_75_code 39 = .ok (.invokevirtual 335, 3) := by decide +kernel
theorem d13_42 : decode jdk_42_method_75_code 42 = .ok (.istore 7, 2) := by decide +kernel
theorem d13_44 : decode jdk_42_method_75_code 44 = .ok (.iload 7, 2) := by decide +kernel
theorem d13_46 : decode jdk_42_method_75_code 46 = .ok (.aload_n 1, 1) := by decide +kernel
theorem d13_47 : decode jdk_42_method_75_code 47 = .ok (.invokevirtual 335, 3) := by decide +kernel
theorem d13_50 : decode jdk_42_method_75_code 50 = .ok (.if_icmp .ne 32, 3) := by decide +kernel
theorem d13_53 : decode jdk_42_method_75_code 53 = .ok (.iload 7, 2) := by decide +kernel
theorem d13_55 : decode jdk_42_method_75_code 55 = .ok (.iconst 1, 1) := by decide +kernel
theorem d13_56 : decode jdk_42_method_75_code 56 = .ok (.if_icmp .ne 7, 3) := by decide +kernel
theorem d13_63 : decode jdk_42_method_75_code 63 = .ok (.aload_n 3, 1) := by decide +kernel
theorem d13_64 : decode jdk_42_method_75_code 64 = .ok (.iload_n 2, 1) := by decide +kernel
theorem d13_65 : decode jdk_42_method_75_code 65 = .ok (.aload 4, 2) := by decide +kernel
theorem d13_67 : decode jdk_42_method_75_code 67 = .ok (.iconst 0, 1) := by decide +kernel
theorem d13_68 : decode jdk_42_method_75_code 68 = .ok (.iload 6, 2) := by decide +kernel
theorem d13_70 : decode jdk_42_method_75_code 70 = .ok (.invokestatic 607, 3) := by decide +kernel
theorem d13_73 : decode jdk_42_method_75_code 73 = .ok (.ifCond .ge 7, 3) := by decide +kernel
theorem d13_80 : decode jdk_42_method_75_code 80 = .ok (.iconst 0, 1) := by decide +kernel
theorem d13_81 : decode jdk_42_method_75_code 81 = .ok (.ireturn, 1) := by decide +kernel
theorem pd_9 : parseMethodDescriptor "([BI[BII)I" = some ⟨[(.array .byte), .int, (.array .byte), .int, .int], some .int⟩ := by decide +kernel
def Qstx1_45 (Z : State) (a1 : Addr) (a2 : Addr) (t1 : Addr) (t2 : Addr) (k1 : ClassId) (k2 : ClassId) (gC : Int32) (x0 : Int32) (h0 : Heap) (n0 : Nat) (v : Option Value) (h : Heap) (L : List Loc) : Prop := v = some (.int 0) ∧ Fr n0 L ∧ h = h0
def roomstx1_45 : Room := { frames := 2, cells := 0, slots := 0, locals := 27 }
set_option maxRecDepth 65536 in
set_option maxHeartbeats 40000000 in
theorem rmstx1_45 (l : Launch) (Z : State) (a0 : Array Value) (hw : ∀ d ∈ tables_1, d.before a0 Z = true) (ws : List Jvm.Cond) (a1 : Addr) (a2 : Addr) (t1 : Addr) (t2 : Addr) (k1 : ClassId) (k2 : ClassId) (gC : Int32) (x0 : Int32) (h0 : Heap) (n0 : Nat) (Z0 : n0 ≤ h0.size) (SC : Sta Z Z.heap "java/lang/String" "COMPACT_STRINGS" "Z" (.int gC)) (PC : ¬ (gC = (0 : Int32))) (O0 : Old Z n0 h0) (E_a1 : Exa Z h0 a1 "java/lang/String") (Fc_a1 : Fld Z h0 a1 "java/lang/String" "coder" "B" (.int (0 : Int32))) (Fv_a1 : Fld Z h0 a1 "java/lang/String" "value" "[B" (.ref t1)) (V_t1 : Arv Z h0 t1 k1 .byte (1 : Int32) [(.int x0)] (.int (0 : Int32))) (E_a2 : Exa Z h0 a2 "java/lang/String") (Fc_a2 : Fld Z h0 a2 "java/lang/String" "coder" "B" (.int (0 : Int32))) (Fv_a2 : Fld Z h0 a2 "java/lang/String" "value" "[B" (.ref t2)) (V_t2 : Arv Z h0 t2 k2 .byte (1 : Int32) [(.int (45 : Int32))] (.int (0 : Int32))) (hd : ¬ x0 = (45 : Int32)) :
    MetFree l (⟨"java/lang/String", "startsWith", "(Ljava/lang/String;I)Z"⟩ : MethodName) (head1 (Jvm.Cond.code (⟨"java/lang/String", "startsWith", "(Ljava/lang/String;I)Z"⟩ : MethodName) jdk_42_method_75_code 8 (some .boolean) :: ws) roomstx1_45) (fun aa_ U_ => aa_ = #[(.ref a1), (.ref a2), (.int (0 : Int32))] ∧ Z.Warmed39 U_.vm ∧ U_.heap = h0) (fun _ _ _ _ _ => True) (fun _ U_ o_ W_ => ∃ v_ L_, o_ = .returned v_ ∧ (Qstx1_45 Z a1 a2 t1 t2 k1 k2 gC x0 h0 n0) v_ W_.heap L_ ∧ FrameEnd U_ o_ W_ L_ roomstx1_45.cells roomstx1_45.slots) := by
  refine own_met (Q := (Qstx1_45 Z a1 a2 t1 t2 k1 k2 gC x0 h0 n0)) (L0 := #[.val (.ref a1), .val (.ref a2), .val (.int (0 : Int32)), .unset, .unset, .unset, .unset, .unset]) (plainFor_of_name pn_0) (fun m => by first | (simp [entryFrame, mkF, argsToLocals, Value.category]; done) | rfl) ?_
  intro p e s m below meth c T0 X0 hx hby hml hown hnm hret hlk hZ e0
  have N0 := Fr.nil n0
  refine Go.st (T' := T0) (pc' := 1) (L' := #[.val (.ref a1), .val (.ref a2), .val (.int (0 : Int32)), .unset, .unset, .unset, .unset, .unset]) (S' := [(.int (0 : Int32))]) (fun t_ k_ => XS.iloadN X0.here hx rfl (hb hby d13_0) rfl  k_) ?_
  refine Go.st (T' := T0) (pc' := 4) (L' := #[.val (.ref a1), .val (.ref a2), .val (.int (0 : Int32)), .unset, .unset, .unset, .unset, .unset]) (S' := []) (fun t_ k_ => XS.ifNo X0.here hx rfl (hb hby d13_1) rfl ((if0 _ _).trans (flt (by decide : ¬ ((0 : Int32) < (0 : Int32)))).1) k_) ?_
  refine Go.st (T' := T0) (pc' := 5) (L' := #[.val (.ref a1), .val (.ref a2), .val (.int (0 : Int32)), .unset, .unset, .unset, .unset, .unset]) (S' := [(.int (0 : Int32))]) (fun t_ k_ => XS.iloadN X0.here hx rfl (hb hby d13_4) rfl  k_) ?_
  refine Go.st (T' := T0) (pc' := 6) (L' := #[.val (.ref a1), .val (.ref a2), .val (.int (0 : Int32)), .unset, .unset, .unset, .unset, .unset]) (S' := [(.ref a1), (.int (0 : Int32))]) (fun t_ k_ => XS.aloadN X0.here hx rfl (hb hby d13_5) rfl rfl  k_) ?_
  obtain ⟨cq1, kq1, q1a, q1b, q1c⟩ := isOf hZ e0 E_a1
  obtain ⟨_, _, ⟨T1, L1, k1, n1⟩, -, X1, ⟨Lc1, hQ1, l1, y1, z1⟩, st1⟩ := X0.virtualBack hx (y := (⟨"java/lang/String", "length", "()I"⟩ : MethodName)) (z := (⟨"java/lang/String", "length", "()I"⟩ : MethodName)) hown (mvT hZ (hw _ (List.mem_of_getElem? (i := 71) rfl))) (mvT hZ (hw _ (List.mem_of_getElem? (i := 72) rfl))) (notFace_of_selects (args := #[]) (mvT hZ (hw _ (List.mem_of_getElem? (i := 74) rfl)))) (mvT hZ (hw _ (List.mem_of_getElem? (i := 74) rfl))) (mvT hZ (hw _ (List.mem_of_getElem? (i := 73) rfl))) (by decide) (backOf (W := 1) (rmlen1 l Z a0 hw [] a1 t1 _ gC (x0) h0 n0 Z0 SC PC O0 E_a1 Fc_a1 Fv_a1 V_t1) hZ (hw _ (List.mem_of_getElem? (i := 75) rfl)) (hw _ (List.mem_of_getElem? (i := 2) rfl)) (by decide) (by decide)) q1a q1c (g := (mkF m 6 #[.val (.ref a1), .val (.ref a2), .val (.int (0 : Int32)), .unset, .unset, .unset, .unset, .unset] [(.ref a1), (.int (0 : Int32))])) rfl (by rw [hml]; rfl) (Steps.refl _) (argsL := []) (rest := [(.int (0 : Int32))]) (lenOf pd_8 rfl) rfl (by show 2 * 0 + _ ≤ _; exact Nat.le_of_eq rfl) (hb hby d13_6) (fun _ _ => ⟨rfl, e0, (by decide : 0 + 0 ≤ _), (by decide : 0 + 0 ≤ _)⟩)
  dsimp only [Pt.U, Pt.locs, Pt.cells, Pt.slots] at X1 l1 y1 z1 st1 hQ1
  subst l1 y1 z1
  obtain ⟨rfl, N1q, e1⟩ := hQ1
  have N1 := Fr.app N0 N1q
  refine Go.tr (T' := T1) (pc' := 9) (L' := #[.val (.ref a1), .val (.ref a2), .val (.int (0 : Int32)), .unset, .unset, .unset, .unset, .unset]) (S' := [(.int (1 : Int32)), (.int (0 : Int32))]) st1 ?_
  refine Go.st (T' := T1) (pc' := 10) (L' := #[.val (.ref a1), .val (.ref a2), .val (.int (0 : Int32)), .unset, .unset, .unset, .unset, .unset]) (S' := [(.ref a2), (.int (1 : Int32)), (.int (0 : Int32))]) (fun t_ k_ => XS.aloadN X1.here hx rfl (hb hby d13_9) rfl rfl  k_) ?_
  obtain ⟨cq2, kq2, q2a, q2b, q2c⟩ := isOf hZ e1 E_a2
  obtain ⟨_, _, ⟨T2, L2, k2, n2⟩, -, X2, ⟨Lc2, hQ2, l2, y2, z2⟩, st2⟩ := X1.virtualBack hx (y := (⟨"java/lang/String", "length", "()I"⟩ : MethodName)) (z := (⟨"java/lang/String", "length", "()I"⟩ : MethodName)) hown (mvT hZ (hw _ (List.mem_of_getElem? (i := 71) rfl))) (mvT hZ (hw _ (List.mem_of_getElem? (i := 72) rfl))) (notFace_of_selects (args := #[]) (mvT hZ (hw _ (List.mem_of_getElem? (i := 74) rfl)))) (mvT hZ (hw _ (List.mem_of_getElem? (i := 74) rfl))) (mvT hZ (hw _ (List.mem_of_getElem? (i := 73) rfl))) (by decide) (backOf (W := 2) (rmlen1 l Z a0 hw [] a2 t2 _ gC ((45 : Int32)) h0 n0 Z0 SC PC O0 E_a2 Fc_a2 Fv_a2 V_t2) hZ (hw _ (List.mem_of_getElem? (i := 75) rfl)) (hw _ (List.mem_of_getElem? (i := 2) rfl)) (by decide) (by decide)) q2a q2c (g := (mkF m 10 #[.val (.ref a1), .val (.ref a2), .val (.int (0 : Int32)), .unset, .unset, .unset, .unset, .unset] [(.ref a2), (.int (1 : Int32)), (.int (0 : Int32))])) rfl (by rw [hml]; rfl) (Steps.refl _) (argsL := []) (rest := [(.int (1 : Int32)), (.int (0 : Int32))]) (lenOf pd_8 rfl) rfl (by show 2 * 0 + _ ≤ _; exact Nat.le_of_eq rfl) (hb hby d13_10) (fun _ _ => ⟨rfl, e1, (by decide : 0 + 0 ≤ _), (by decide : 0 + 0 ≤ _)⟩)
  dsimp only [Pt.U, Pt.locs, Pt.cells, Pt.slots] at X2 l2 y2 z2 st2 hQ2
  subst l2 y2 z2
  obtain ⟨rfl, N2q, e2⟩ := hQ2
  have N2 := Fr.app N1 N2q
  refine Go.tr (T' := T2) (pc' := 13) (L' := #[.val (.ref a1), .val (.ref a2), .val (.int (0 : Int32)), .unset, .unset, .unset, .unset, .unset]) (S' := [(.int (1 : Int32)), (.int (1 : Int32)), (.int (0 : Int32))]) st2 ?_
  refine Go.st (T' := T2) (pc' := 14) (L' := #[.val (.ref a1), .val (.ref a2), .val (.int (0 : Int32)), .unset, .unset, .unset, .unset, .unset]) (S' := [(.int ((1 : Int32) - (1 : Int32))), (.int (0 : Int32))]) (fun t_ k_ => XS.isub X2.here hx rfl (hb hby d13_13) rfl k_) ?_
  rw [show ((1 : Int32) - (1 : Int32)) = (0 : Int32) from by decide]
  refine Go.st (T' := T2) (pc' := 19) (L' := #[.val (.ref a1), .val (.ref a2), .val (.int (0 : Int32)), .unset, .unset, .unset, .unset, .unset]) (S' := []) (fun t_ k_ => XS.icmpYes X2.here hx rfl (pc0 := 14) (pc' := 19) rfl (hb hby d13_14) rfl (flt (by decide : ¬ ((0 : Int32) < (0 : Int32)))).2.2.2 (by decide) (by decide) k_) ?_
  refine Go.st (T' := T2) (pc' := 20) (L' := #[.val (.ref a1), .val (.ref a2), .val (.int (0 : Int32)), .unset, .unset, .unset, .unset, .unset]) (S' := [(.ref a1)]) (fun t_ k_ => XS.aloadN X2.here hx rfl (hb hby d13_19) rfl rfl  k_) ?_
  obtain ⟨T3, X3, e3, st3⟩ := getF X2 hx hZ hown (host := "") (Or.inl (hw _ (List.mem_of_getElem? (i := 22) rfl))) Via.refl e2 Fv_a1 (g := (mkF m 20 #[.val (.ref a1), .val (.ref a2), .val (.int (0 : Int32)), .unset, .unset, .unset, .unset, .unset] [(.ref a1)])) rfl rfl (hb hby d13_20)
  refine Go.st (T' := T3) (pc' := 23) (L' := #[.val (.ref a1), .val (.ref a2), .val (.int (0 : Int32)), .unset, .unset, .unset, .unset, .unset]) (S' := [(.ref t1)]) st3 ?_
  refine Go.st (T' := T3) (pc' := 24) (L' := #[.val (.ref a1), .val (.ref a2), .val (.int (0 : Int32)), .val (.ref t1), .unset, .unset, .unset, .unset]) (S' := []) (fun t_ k_ => XS.astoreN X3.here hx rfl (hb hby d13_23) rfl rfl (l' := #[.val (.ref a1), .val (.ref a2), .val (.int (0 : Int32)), .val (.ref t1), .unset, .unset, .unset, .unset]) rfl k_) ?_
  refine Go.st (T' := T3) (pc' := 25) (L' := #[.val (.ref a1), .val (.ref a2), .val (.int (0 : Int32)), .val (.ref t1), .unset, .unset, .unset, .unset]) (S' := [(.ref a2)]) (fun t_ k_ => XS.aloadN X3.here hx rfl (hb hby d13_24) rfl rfl  k_) ?_
  obtain ⟨T4, X4, e4, st4⟩ := getF X3 hx hZ hown (host := "") (Or.inl (hw _ (List.mem_of_getElem? (i := 22) rfl))) Via.refl e3 Fv_a2 (g := (mkF m 25 #[.val (.ref a1), .val (.ref a2), .val (.int (0 : Int32)), .val (.ref t1), .unset, .unset, .unset, .unset] [(.ref a2)])) rfl rfl (hb hby d13_25)
  refine Go.st (T' := T4) (pc' := 28) (L' := #[.val (.ref a1), .val (.ref a2), .val (.int (0 : Int32)), .val (.ref t1), .unset, .unset, .unset, .unset]) (S' := [(.ref t2)]) st4 ?_
  refine Go.st (T' := T4) (pc' := 30) (L' := #[.val (.ref a1), .val (.ref a2), .val (.int (0 : Int32)), .val (.ref t1), .val (.ref t2), .unset, .unset, .unset]) (S' := []) (fun t_ k_ => XS.astore X4.here hx rfl (hb hby d13_28) rfl rfl (l' := #[.val (.ref a1), .val (.ref a2), .val (.int (0 : Int32)), .val (.ref t1), .val (.ref t2), .unset, .unset, .unset]) rfl k_) ?_
  refine Go.st (T' := T4) (pc' := 31) (L' := #[.val (.ref a1), .val (.ref a2), .val (.int (0 : Int32)), .val (.ref t1), .val (.ref t2), .unset, .unset, .unset]) (S' := [(.int (0 : Int32))]) (fun t_ k_ => XS.iconst X4.here hx rfl (hb hby d13_30) k_) ?_
  refine Go.st (T' := T4) (pc' := 33) (L' := #[.val (.ref a1), .val (.ref a2), .val (.int (0 : Int32)), .val (.ref t1), .val (.ref t2), .val (.int (0 : Int32)), .unset, .unset]) (S' := []) (fun t_ k_ => XS.istore X4.here hx rfl (hb hby d13_31) rfl (l' := #[.val (.ref a1), .val (.ref a2), .val (.int (0 : Int32)), .val (.ref t1), .val (.ref t2), .val (.int (0 : Int32)), .unset, .unset]) rfl k_) ?_
  refine Go.st (T' := T4) (pc' := 35) (L' := #[.val (.ref a1), .val (.ref a2), .val (.int (0 : Int32)), .val (.ref t1), .val (.ref t2), .val (.int (0 : Int32)), .unset, .unset]) (S' := [(.ref t2)]) (fun t_ k_ => XS.aload X4.here hx rfl (hb hby d13_33) rfl rfl  k_) ?_
  obtain ⟨cl5, Ar5, -, q5a, q5b, -, -⟩ := id V_t2
  refine Go.st (T' := T4) (pc' := 36) (L' := #[.val (.ref a1), .val (.ref a2), .val (.int (0 : Int32)), .val (.ref t1), .val (.ref t2), .val (.int (0 : Int32)), .unset, .unset]) (S' := [(.int (1 : Int32))]) (fun t_ k_ => own_len X4 hx hZ e4 Ar5 q5a q5b (g := (mkF m 35 #[.val (.ref a1), .val (.ref a2), .val (.int (0 : Int32)), .val (.ref t1), .val (.ref t2), .val (.int (0 : Int32)), .unset, .unset] [(.ref t2)])) rfl rfl (hb hby d13_35) t_ k_) ?_
  refine Go.st (T' := T4) (pc' := 38) (L' := #[.val (.ref a1), .val (.ref a2), .val (.int (0 : Int32)), .val (.ref t1), .val (.ref t2), .val (.int (0 : Int32)), .val (.int (1 : Int32)), .unset]) (S' := []) (fun t_ k_ => XS.istore X4.here hx rfl (hb hby d13_36) rfl (l' := #[.val (.ref a1), .val (.ref a2), .val (.int (0 : Int32)), .val (.ref t1), .val (.ref t2), .val (.int (0 : Int32)), .val (.int (1 : Int32)), .unset]) rfl k_) ?_
  refine Go.st (T' := T4) (pc' := 39) (L' := #[.val (.ref a1), .val (.ref a2), .val (.int (0 : Int32)), .val (.ref t1), .val (.ref t2), .val (.int (0 : Int32)), .val (.int (1 : Int32)), .unset]) (S' := [(.ref a1)]) (fun t_ k_ => XS.aloadN X4.here hx rfl (hb hby d13_38) rfl rfl  k_) ?_
  obtain ⟨cq6, kq6, q6a, q6b, q6c⟩ := isOf hZ e4 E_a1
  obtain ⟨_, _, ⟨T6, L6, k6, n6⟩, -, X6, ⟨Lc6, hQ6, l6, y6, z6⟩, st6⟩ := X4.virtualBack hx (y := (⟨"java/lang/String", "coder", "()B"⟩ : MethodName)) (z := (⟨"java/lang/String", "coder", "()B"⟩ : MethodName)) hown (mvT hZ (hw _ (List.mem_of_getElem? (i := 76) rfl))) (mvT hZ (hw _ (List.mem_of_getElem? (i := 77) rfl))) (notFace_of_selects (args := #[]) (mvT hZ (hw _ (List.mem_of_getElem? (i := 79) rfl)))) (mvT hZ (hw _ (List.mem_of_getElem? (i := 79) rfl))) (mvT hZ (hw _ (List.mem_of_getElem? (i := 78) rfl))) (by decide) (backOf (W := 0) (rm15 l Z a0 hw [] a1 gC h0 n0 Z0 SC PC O0 Fc_a1) hZ (hw _ (List.mem_of_getElem? (i := 80) rfl)) (hw _ (List.mem_of_getElem? (i := 2) rfl)) (by decide) (by decide)) q6a q6c (g := (mkF m 39 #[.val (.ref a1), .val (.ref a2), .val (.int (0 : Int32)), .val (.ref t1), .val (.ref t2), .val (.int (0 : Int32)), .val (.int (1 : Int32)), .unset] [(.ref a1)])) rfl (by rw [hml]; rfl) (Steps.refl _) (argsL := []) (rest := []) (lenOf pd_7 rfl) rfl (by show 2 * 0 + _ ≤ _; exact Nat.le_of_eq rfl) (hb hby d13_39) (fun _ _ => ⟨rfl, e4, (by decide : 0 + 0 ≤ _), (by decide : 0 + 0 ≤ _)⟩)
  dsimp only [Pt.U, Pt.locs, Pt.cells, Pt.slots] at X6 l6 y6 z6 st6 hQ6
  subst l6 y6 z6
  obtain ⟨rfl, N6q, e6⟩ := hQ6
  have N6 := Fr.app N2 N6q
  refine Go.tr (T' := T6) (pc' := 42) (L' := #[.val (.ref a1), .val (.ref a2), .val (.int (0 : Int32)), .val (.ref t1), .val (.ref t2), .val (.int (0 : Int32)), .val (.int (1 : Int32)), .unset]) (S' := [(.int (0 : Int32))]) st6 ?_
  refine Go.st (T' := T6) (pc' := 44) (L' := #[.val (.ref a1), .val (.ref a2), .val (.int (0 : Int32)), .val (.ref t1), .val (.ref t2), .val (.int (0 : Int32)), .val (.int (1 : Int32)), .val (.int (0 : Int32))]) (S' := []) (fun t_ k_ => XS.istore X6.here hx rfl (hb hby d13_42) rfl (l' := #[.val (.ref a1), .val (.ref a2), .val (.int (0 : Int32)), .val (.ref t1), .val (.ref t2), .val (.int (0 : Int32)), .val (.int (1 : Int32)), .val (.int (0 : Int32))]) rfl k_) ?_
  refine Go.st (T' := T6) (pc' := 46) (L' := #[.val (.ref a1), .val (.ref a2), .val (.int (0 : Int32)), .val (.ref t1), .val (.ref t2), .val (.int (0 : Int32)), .val (.int (1 : Int32)), .val (.int (0 : Int32))]) (S' := [(.int (0 : Int32))]) (fun t_ k_ => XS.iload X6.here hx rfl (hb hby d13_44) rfl  k_) ?_
  refine Go.st (T' := T6) (pc' := 47) (L' := #[.val (.ref a1), .val (.ref a2), .val (.int (0 : Int32)), .val (.ref t1), .val (.ref t2), .val (.int (0 : Int32)), .val (.int (1 : Int32)), .val (.int (0 : Int32))]) (S' := [(.ref a2), (.int (0 : Int32))]) (fun t_ k_ => XS.aloadN X6.here hx rfl (hb hby d13_46) rfl rfl  k_) ?_
  obtain ⟨cq7, kq7, q7a, q7b, q7c⟩ := isOf hZ e6 E_a2
  obtain ⟨_, _, ⟨T7, L7, k7, n7⟩, -, X7, ⟨Lc7, hQ7, l7, y7, z7⟩, st7⟩ := X6.virtualBack hx (y := (⟨"java/lang/String", "coder", "()B"⟩ : MethodName)) (z := (⟨"java/lang/String", "coder", "()B"⟩ : MethodName)) hown (mvT hZ (hw _ (List.mem_of_getElem? (i := 76) rfl))) (mvT hZ (hw _ (List.mem_of_getElem? (i := 77) rfl))) (notFace_of_selects (args := #[]) (mvT hZ (hw _ (List.mem_of_getElem? (i := 79) rfl)))) (mvT hZ (hw _ (List.mem_of_getElem? (i := 79) rfl))) (mvT hZ (hw _ (List.mem_of_getElem? (i := 78) rfl))) (by decide) (backOf (W := 1) (rm15 l Z a0 hw [] a2 gC h0 n0 Z0 SC PC O0 Fc_a2) hZ (hw _ (List.mem_of_getElem? (i := 80) rfl)) (hw _ (List.mem_of_getElem? (i := 2) rfl)) (by decide) (by decide)) q7a q7c (g := (mkF m 47 #[.val (.ref a1), .val (.ref a2), .val (.int (0 : Int32)), .val (.ref t1), .val (.ref t2), .val (.int (0 : Int32)), .val (.int (1 : Int32)), .val (.int (0 : Int32))] [(.ref a2), (.int (0 : Int32))])) rfl (by rw [hml]; rfl) (Steps.refl _) (argsL := []) (rest := [(.int (0 : Int32))]) (lenOf pd_7 rfl) rfl (by show 2 * 0 + _ ≤ _; exact Nat.le_of_eq rfl) (hb hby d13_47) (fun _ _ => ⟨rfl, e6, (by decide : 0 + 0 ≤ _), (by decide : 0 + 0 ≤ _)⟩)
  dsimp only [Pt.U, Pt.locs, Pt.cells, Pt.slots] at X7 l7 y7 z7 st7 hQ7
  subst l7 y7 z7
  obtain ⟨rfl, N7q, e7⟩ := hQ7
  have N7 := Fr.app N6 N7q
  refine Go.tr (T' := T7) (pc' := 50) (L' := #[.val (.ref a1), .val (.ref a2), .val (.int (0 : Int32)), .val (.ref t1), .val (.ref t2), .val (.int (0 : Int32)), .val (.int (1 : Int32)), .val (.int (0 : Int32))]) (S' := [(.int (0 : Int32)), (.int (0 : Int32))]) st7 ?_
  refine Go.st (T' := T7) (pc' := 53) (L' := #[.val (.ref a1), .val (.ref a2), .val (.int (0 : Int32)), .val (.ref t1), .val (.ref t2), .val (.int (0 : Int32)), .val (.int (1 : Int32)), .val (.int (0 : Int32))]) (S' := []) (fun t_ k_ => XS.icmpNo X7.here hx rfl (hb hby d13_50) rfl (teq (by decide : ((0 : Int32) = (0 : Int32)))).2 k_) ?_
  refine Go.st (T' := T7) (pc' := 55) (L' := #[.val (.ref a1), .val (.ref a2), .val (.int (0 : Int32)), .val (.ref t1), .val (.ref t2), .val (.int (0 : Int32)), .val (.int (1 : Int32)), .val (.int (0 : Int32))]) (S' := [(.int (0 : Int32))]) (fun t_ k_ => XS.iload X7.here hx rfl (hb hby d13_53) rfl  k_) ?_
  refine Go.st (T' := T7) (pc' := 56) (L' := #[.val (.ref a1), .val (.ref a2), .val (.int (0 : Int32)), .val (.ref t1), .val (.ref t2), .val (.int (0 : Int32)), .val (.int (1 : Int32)), .val (.int (0 : Int32))]) (S' := [(.int (1 : Int32)), (.int (0 : Int32))]) (fun t_ k_ => XS.iconst X7.here hx rfl (hb hby d13_55) k_) ?_
  refine Go.st (T' := T7) (pc' := 63) (L' := #[.val (.ref a1), .val (.ref a2), .val (.int (0 : Int32)), .val (.ref t1), .val (.ref t2), .val (.int (0 : Int32)), .val (.int (1 : Int32)), .val (.int (0 : Int32))]) (S' := []) (fun t_ k_ => XS.icmpYes X7.here hx rfl (pc0 := 56) (pc' := 63) rfl (hb hby d13_56) rfl (feq (by decide : ¬ ((0 : Int32) = (1 : Int32)))).2 (by decide) (by decide) k_) ?_
  refine Go.st (T' := T7) (pc' := 64) (L' := #[.val (.ref a1), .val (.ref a2), .val (.int (0 : Int32)), .val (.ref t1), .val (.ref t2), .val (.int (0 : Int32)), .val (.int (1 : Int32)), .val (.int (0 : Int32))]) (S' := [(.ref t1)]) (fun t_ k_ => XS.aloadN X7.here hx rfl (hb hby d13_63) rfl rfl  k_) ?_
  refine Go.st (T' := T7) (pc' := 65) (L' := #[.val (.ref a1), .val (.ref a2), .val (.int (0 : Int32)), .val (.ref t1), .val (.ref t2), .val (.int (0 : Int32)), .val (.int (1 : Int32)), .val (.int (0 : Int32))]) (S' := [(.int (0 : Int32)), (.ref t1)]) (fun t_ k_ => XS.iloadN X7.here hx rfl (hb hby d13_64) rfl  k_) ?_
  refine Go.st (T' := T7) (pc' := 67) (L' := #[.val (.ref a1), .val (.ref a2), .val (.int (0 : Int32)), .val (.ref t1), .val (.ref t2), .val (.int (0 : Int32)), .val (.int (1 : Int32)), .val (.int (0 : Int32))]) (S' := [(.ref t2), (.int (0 : Int32)), (.ref t1)]) (fun t_ k_ => XS.aload X7.here hx rfl (hb hby d13_65) rfl rfl  k_) ?_
  refine Go.st (T' := T7) (pc' := 68) (L' := #[.val (.ref a1), .val (.ref a2), .val (.int (0 : Int32)), .val (.ref t1), .val (.ref t2), .val (.int (0 : Int32)), .val (.int (1 : Int32)), .val (.int (0 : Int32))]) (S' := [(.int (0 : Int32)), (.ref t2), (.int (0 : Int32)), (.ref t1)]) (fun t_ k_ => XS.iconst X7.here hx rfl (hb hby d13_67) k_) ?_
  refine Go.st (T' := T7) (pc' := 70) (L' := #[.val (.ref a1), .val (.ref a2), .val (.int (0 : Int32)), .val (.ref t1), .val (.ref t2), .val (.int (0 : Int32)), .val (.int (1 : Int32)), .val (.int (0 : Int32))]) (S' := [(.int (1 : Int32)), (.int (0 : Int32)), (.ref t2), (.int (0 : Int32)), (.ref t1)]) (fun t_ k_ => XS.iload X7.here hx rfl (hb hby d13_68) rfl  k_) ?_
  obtain ⟨_, _, ⟨T8, L8, k8, n8⟩, -, X8, ⟨Lc8, hQ8, l8, y8, z8⟩, st8⟩ := Jvm.LawKit.callS X7 hx (y := (⟨"jdk/internal/util/ArraysSupport", "mismatch", "([BI[BII)I"⟩ : MethodName)) hown (mvT hZ (hw _ (List.mem_of_getElem? (i := 81) rfl))) (mvT hZ (hw _ (List.mem_of_getElem? (i := 82) rfl))) (mvT hZ (hw _ (List.mem_of_getElem? (i := 83) rfl))) (mvT hZ (hw _ (List.mem_of_getElem? (i := 84) rfl))) (by decide) (backOf (W := 0) (rmmis1_45 l Z a0 hw [] t1 t2 _ _ gC (x0) h0 n0 Z0 SC PC O0 V_t1 V_t2 hd) hZ (hw _ (List.mem_of_getElem? (i := 84) rfl)) (hw _ (List.mem_of_getElem? (i := 83) rfl)) (by decide) (by decide)) (g := (mkF m 70 #[.val (.ref a1), .val (.ref a2), .val (.int (0 : Int32)), .val (.ref t1), .val (.ref t2), .val (.int (0 : Int32)), .val (.int (1 : Int32)), .val (.int (0 : Int32))] [(.int (1 : Int32)), (.int (0 : Int32)), (.ref t2), (.int (0 : Int32)), (.ref t1)])) rfl (by rw [hml]; rfl) (argsL := [(.ref t1), (.int (0 : Int32)), (.ref t2), (.int (0 : Int32)), (.int (1 : Int32))]) (rest := []) (lenOf pd_9 rfl) rfl (by show 2 * 0 + _ ≤ _; exact Nat.le_of_eq rfl) (hb hby d13_70) (fun _ _ => ⟨rfl, e7, (by decide : 0 + 0 ≤ _), (by decide : 0 + 0 ≤ _)⟩)
  dsimp only [Pt.U, Pt.locs, Pt.cells, Pt.slots] at X8 l8 y8 z8 st8 hQ8
  subst l8 y8 z8
  obtain ⟨rfl, N8q, e8⟩ := hQ8
  have N8 := Fr.app N7 N8q
  refine Go.st (T' := T8) (pc' := 73) (L' := #[.val (.ref a1), .val (.ref a2), .val (.int (0 : Int32)), .val (.ref t1), .val (.ref t2), .val (.int (0 : Int32)), .val (.int (1 : Int32)), .val (.int (0 : Int32))]) (S' := [(.int (0 : Int32))]) st8 ?_
  refine Go.st (T' := T8) (pc' := 80) (L' := #[.val (.ref a1), .val (.ref a2), .val (.int (0 : Int32)), .val (.ref t1), .val (.ref t2), .val (.int (0 : Int32)), .val (.int (1 : Int32)), .val (.int (0 : Int32))]) (S' := []) (fun t_ k_ => XS.ifYes X8.here hx rfl (pc0 := 73) (pc' := 80) rfl (hb hby d13_73) rfl ((if0 _ _).trans (flt (by decide : ¬ ((0 : Int32) < (0 : Int32)))).2.1) (by decide) (by decide) k_) ?_
  refine Go.st (T' := T8) (pc' := 81) (L' := #[.val (.ref a1), .val (.ref a2), .val (.int (0 : Int32)), .val (.ref t1), .val (.ref t2), .val (.int (0 : Int32)), .val (.int (1 : Int32)), .val (.int (0 : Int32))]) (S' := [(.int (0 : Int32))]) (fun t_ k_ => XS.iconst X8.here hx rfl (hb hby d13_80) k_) ?_
  exact Go.retN X8 hx hlk hret (by simp) (hb hby d13_81) (by decide) (by decide) (by rw [e8]; exact ⟨rfl, N8, rfl⟩)
theorem d12_0 : decode jdk_42_method_76_code 0 = .ok (.aload_n 0, 1) := by decide +kernel
theorem d12_1 : decode jdk_42_method_76_code 1 = .ok (.aload_n 1, 1) := by decide +kernel
theorem d12_2 : decode jdk_42_method_76_code 2 = .ok (.iconst 0, 1) := by decide +kernel
theorem d12_3 : decode jdk_42_method_76_code 3 = .ok (.invokevirtual 624, 3) := by decide +kernel
theorem d12_6 : decode jdk_42_method_76_code 6 = .ok (.ireturn, 1) := by decide +kernel
theorem pd_10 : parseMethodDescriptor "(Ljava/lang/String;I)Z" = some ⟨[(.object "java/lang/String"), .int], some .boolean⟩ := by decide +kernel
def Qstw1_45 (Z : State) (a1 : Addr) (a2 : Addr) (t1 : Addr) (t2 : Addr) (k1 : ClassId) (k2 : ClassId) (gC : Int32) (x0 : Int32) (h0 : Heap) (n0 : Nat) (v : Option Value) (h : Heap) (L : List Loc) : Prop := v = some (.int 0) ∧ Fr n0 L ∧ h = h0
def roomstw1_45 : Room := { frames := 3, cells := 0, slots := 0, locals := 46 }
set_option maxRecDepth 65536 in
set_option maxHeartbeats 40000000 in
theorem rmstw1_45 (l : Launch) (Z : State) (a0 : Array Value) (hw : ∀ d ∈ tables_1, d.before a0 Z = true) (ws : List Jvm.Cond) (a1 : Addr) (a2 : Addr) (t1 : Addr) (t2 : Addr) (k1 : ClassId) (k2 : ClassId) (gC : Int32) (x0 : Int32) (h0 : Heap) (n0 : Nat) (Z0 : n0 ≤ h0.size) (SC : Sta Z Z.heap "java/lang/String" "COMPACT_STRINGS" "Z" (.int gC)) (PC : ¬ (gC = (0 : Int32))) (O0 : Old Z n0 h0) (E_a1 : Exa Z h0 a1 "java/lang/String") (Fc_a1 : Fld Z h0 a1 "java/lang/String" "coder" "B" (.int (0 : Int32))) (Fv_a1 : Fld Z h0 a1 "java/lang/String" "value" "[B" (.ref t1)) (V_t1 : Arv Z h0 t1 k1 .byte (1 : Int32) [(.int x0)] (.int (0 : Int32))) (E_a2 : Exa Z h0 a2 "java/lang/String") (Fc_a2 : Fld Z h0 a2 "java/lang/String" "coder" "B" (.int (0 : Int32))) (Fv_a2 : Fld Z h0 a2 "java/lang/String" "value" "[B" (.ref t2)) (V_t2 : Arv Z h0 t2 k2 .byte (1 : Int32) [(.int (45 : Int32))] (.int (0 : Int32))) (hd : ¬ x0 = (45 : Int32)) :
    MetFree l (⟨"java/lang/String", "startsWith", "(Ljava/lang/String;)Z"⟩ : MethodName) (head1 (Jvm.Cond.code (⟨"java/lang/String", "startsWith", "(Ljava/lang/String;)Z"⟩ : MethodName) jdk_42_method_76_code 2 (some .boolean) :: ws) roomstw1_45) (fun aa_ U_ => aa_ = #[(.ref a1), (.ref a2)] ∧ Z.Warmed39 U_.vm ∧ U_.heap = h0) (fun _ _ _ _ _ => True) (fun _ U_ o_ W_ => ∃ v_ L_, o_ = .returned v_ ∧ (Qstw1_45 Z a1 a2 t1 t2 k1 k2 gC x0 h0 n0) v_ W_.heap L_ ∧ FrameEnd U_ o_ W_ L_ roomstw1_45.cells roomstw1_45.slots) := by
  refine own_met (Q := (Qstw1_45 Z a1 a2 t1 t2 k1 k2 gC x0 h0 n0)) (L0 := #[.val (.ref a1), .val (.ref a2)]) (plainFor_of_name pn_0) (fun m => by first | (simp [entryFrame, mkF, argsToLocals, Value.category]; done) | rfl) ?_
  intro p e s m below meth c T0 X0 hx hby hml hown hnm hret hlk hZ e0
  have N0 := Fr.nil n0
  refine Go.st (T' := T0) (pc' := 1) (L' := #[.val (.ref a1), .val (.ref a2)]) (S' := [(.ref a1)]) (fun t_ k_ => XS.aloadN X0.here hx rfl (hb hby d12_0) rfl rfl  k_) ?_
  refine Go.st (T' := T0) (pc' := 2) (L' := #[.val (.ref a1), .val (.ref a2)]) (S' := [(.ref a2), (.ref a1)]) (fun t_ k_ => XS.aloadN X0.here hx rfl (hb hby d12_1) rfl rfl  k_) ?_
  refine Go.st (T' := T0) (pc' := 3) (L' := #[.val (.ref a1), .val (.ref a2)]) (S' := [(.int (0 : Int32)), (.ref a2), (.ref a1)]) (fun t_ k_ => XS.iconst X0.here hx rfl (hb hby d12_2) k_) ?_
  obtain ⟨cq1, kq1, q1a, q1b, q1c⟩ := isOf hZ e0 E_a1
  obtain ⟨_, _, ⟨T1, L1, k1, n1⟩, -, X1, ⟨Lc1, hQ1, l1, y1, z1⟩, st1⟩ := X0.virtualBack hx (y := (⟨"java/lang/String", "startsWith", "(Ljava/lang/String;I)Z"⟩ : MethodName)) (z := (⟨"java/lang/String", "startsWith", "(Ljava/lang/String;I)Z"⟩ : MethodName)) hown (mvT hZ (hw _ (List.mem_of_getElem? (i := 66) rfl))) (mvT hZ (hw _ (List.mem_of_getElem? (i := 67) rfl))) (notFace_of_selects (args := #[]) (mvT hZ (hw _ (List.mem_of_getElem? (i := 69) rfl)))) (mvT hZ (hw _ (List.mem_of_getElem? (i := 69) rfl))) (mvT hZ (hw _ (List.mem_of_getElem? (i := 68) rfl))) (by decide) (backOf (W := 0) (rmstx1_45 l Z a0 hw [] a1 a2 t1 t2 _ _ gC (x0) h0 n0 Z0 SC PC O0 E_a1 Fc_a1 Fv_a1 V_t1 E_a2 Fc_a2 Fv_a2 V_t2 hd) hZ (hw _ (List.mem_of_getElem? (i := 70) rfl)) (hw _ (List.mem_of_getElem? (i := 2) rfl)) (by decide) (by decide)) q1a q1c (g := (mkF m 3 #[.val (.ref a1), .val (.ref a2)] [(.int (0 : Int32)), (.ref a2), (.ref a1)])) rfl (by rw [hml]; rfl) (Steps.refl _) (argsL := [(.ref a2), (.int (0 : Int32))]) (rest := []) (lenOf pd_10 rfl) rfl (by show 2 * 0 + _ ≤ _; exact Nat.le_of_eq rfl) (hb hby d12_3) (fun _ _ => ⟨rfl, e0, (by decide : 0 + 0 ≤ _), (by decide : 0 + 0 ≤ _)⟩)
  dsimp only [Pt.U, Pt.locs, Pt.cells, Pt.slots] at X1 l1 y1 z1 st1 hQ1
  subst l1 y1 z1
  obtain ⟨rfl, N1q, e1⟩ := hQ1
  have N1 := Fr.app N0 N1q
  refine Go.tr (T' := T1) (pc' := 6) (L' := #[.val (.ref a1), .val (.ref a2)]) (S' := [(.int (0 : Int32))]) st1 ?_
  exact Go.retN X1 hx hlk hret (by simp) (hb hby d12_6) (by decide) (by decide) (by rw [e1]; exact ⟨rfl, N1, rfl⟩)
theorem d18_0 : decode jdk_42_method_126_code 0 = .ok (.aload_n 0, 1) := by decide +kernel
theorem d18_1 : decode jdk_42_method_126_code 1 = .ok (.areturn, 1) := by decide +kernel
theorem pd_11 : parseMethodDescriptor "(Ljava/lang/String;)Z" = some ⟨[(.object "java/lang/String")], some .boolean⟩ := by decide +kernel
def Qtostr (Z : State) (a1 : Addr) (h0 : Heap) (n0 : Nat) (v : Option Value) (h : Heap) (L : List Loc) : Prop := v = some (.ref a1) ∧ Fr n0 L ∧ h = h0
def roomtostr : Room := { frames := 0, cells := 0, slots := 0, locals := 0 }
set_option maxRecDepth 65536 in
set_option maxHeartbeats 40000000 in
theorem rmtostr (l : Launch) (Z : State) (a0 : Array Value) (hw : ∀ d ∈ tables_1, d.before a0 Z = true) (ws : List Jvm.Cond) (a1 : Addr) (h0 : Heap) (n0 : Nat) (Z0 : n0 ≤ h0.size)  :
    MetFree l (⟨"java/lang/String", "toString", "()Ljava/lang/String;"⟩ : MethodName) (head1 (Jvm.Cond.code (⟨"java/lang/String", "toString", "()Ljava/lang/String;"⟩ : MethodName) jdk_42_method_126_code 1 (some (.object "java/lang/String")) :: ws) roomtostr) (fun aa_ U_ => aa_ = #[(.ref a1)] ∧ Z.Warmed39 U_.vm ∧ U_.heap = h0) (fun _ _ _ _ _ => True) (fun _ U_ o_ W_ => ∃ v_ L_, o_ = .returned v_ ∧ (Qtostr Z a1 h0 n0) v_ W_.heap L_ ∧ FrameEnd U_ o_ W_ L_ roomtostr.cells roomtostr.slots) := by
  refine own_met (Q := (Qtostr Z a1 h0 n0)) (L0 := #[.val (.ref a1)]) (plainFor_of_name pn_0) (fun m => by first | (simp [entryFrame, mkF, argsToLocals, Value.category]; done) | rfl) ?_
  intro p e s m below meth c T0 X0 hx hby hml hown hnm hret hlk hZ e0
  have N0 := Fr.nil n0
  refine Go.st (T' := T0) (pc' := 1) (L' := #[.val (.ref a1)]) (S' := [(.ref a1)]) (fun t_ k_ => XS.aloadN X0.here hx rfl (hb hby d18_0) rfl rfl  k_) ?_
  exact Go.retO X0 hx hlk hret rfl (by simp [FieldType.isReference, Value.isRef]) (hb hby d18_1) (by decide) (by decide) (by rw [e0]; exact ⟨rfl, N0, rfl⟩)
theorem d20_0 : decode jdk_42_method_154_code 0 = .ok (.getstatic 38, 3) := by decide +kernel
theorem d20_3 : decode jdk_42_method_154_code 3 = .ok (.ifCond .eq 14, 3) := by decide +kernel
theorem d20_6 : decode jdk_42_method_154_code 6 = .ok (.aload_n 0, 1) := by decide +kernel
theorem d20_7 : decode jdk_42_method_154_code 7 = .ok (.getfield 15, 3) := by decide +kernel
theorem d20_10 : decode jdk_42_method_154_code 10 = .ok (.ifCond .ne 7, 3) := by decide +kernel
theorem d20_13 : decode jdk_42_method_154_code 13 = .ok (.iconst 1, 1) := by decide +kernel
theorem d20_14 : decode jdk_42_method_154_code 14 = .ok (.goto 4, 3) := by decide +kernel
theorem d20_18 : decode jdk_42_method_154_code 18 = .ok (.ireturn, 1) := by decide +kernel
theorem pd_12 : parseMethodDescriptor "()Ljava/lang/String;" = some ⟨[], some (.object "java/lang/String")⟩ := by decide +kernel
def Q20 (Z : State) (a1 : Addr) (gC : Int32) (h0 : Heap) (n0 : Nat) (v : Option Value) (h : Heap) (L : List Loc) : Prop := v = some (.int 1) ∧ Fr n0 L ∧ h = h0
def room20 : Room := { frames := 0, cells := 0, slots := 0, locals := 0 }
set_option maxRecDepth 65536 in
set_option maxHeartbeats 40000000 in
theorem rm20 (l : Launch) (Z : State) (a0 : Array Value) (hw : ∀ d ∈ tables_1, d.before a0 Z = true) (ws : List Jvm.Cond) (a1 : Addr) (gC : Int32) (h0 : Heap) (n0 : Nat) (Z0 : n0 ≤ h0.size) (SC : Sta Z Z.heap "java/lang/String" "COMPACT_STRINGS" "Z" (.int gC)) (PC : ¬ (gC = (0 : Int32))) (O0 : Old Z n0 h0) (Fc : Fld Z h0 a1 "java/lang/String" "coder" "B" (.int (0 : Int32))) :
    MetFree l (⟨"java/lang/String", "isLatin1", "()Z"⟩ : MethodName) (head1 (Jvm.Cond.code (⟨"java/lang/String", "isLatin1", "()Z"⟩ : MethodName) jdk_42_method_154_code 1 (some .boolean) :: ws) room20) (fun aa_ U_ => aa_ = #[(.ref a1)] ∧ Z.Warmed39 U_.vm ∧ U_.heap = h0) (fun _ _ _ _ _ => True) (fun _ U_ o_ W_ => ∃ v_ L_, o_ = .returned v_ ∧ (Q20 Z a1 gC h0 n0) v_ W_.heap L_ ∧ FrameEnd U_ o_ W_ L_ room20.cells room20.slots) := by
  refine own_met (Q := (Q20 Z a1 gC h0 n0)) (L0 := #[.val (.ref a1)]) (plainFor_of_name pn_0) (fun m => by first | (simp [entryFrame, mkF, argsToLocals, Value.category]; done) | rfl) ?_
  intro p e s m below meth c T0 X0 hx hby hml hown hnm hret hlk hZ e0
  have N0 := Fr.nil n0
  obtain ⟨T1, X1, e1, st1⟩ := getS2 X0 hx hZ hown (host := "") (Or.inl (hw _ (List.mem_of_getElem? (i := 4) rfl))) Via.refl e0 (SC.ext O0.2) (g := (mkF m 0 #[.val (.ref a1)] [])) rfl (hb hby d20_0)
  refine Go.st (T' := T1) (pc' := 3) (L' := #[.val (.ref a1)]) (S' := [(.int gC)]) st1 ?_
  refine Go.st (T' := T1) (pc' := 6) (L' := #[.val (.ref a1)]) (S' := []) (fun t_ k_ => XS.ifNo X1.here hx rfl (hb hby d20_3) rfl ((if0 _ _).trans (feq (PC : ¬ (gC = (0 : Int32)))).1) k_) ?_
  refine Go.st (T' := T1) (pc' := 7) (L' := #[.val (.ref a1)]) (S' := [(.ref a1)]) (fun t_ k_ => XS.aloadN X1.here hx rfl (hb hby d20_6) rfl rfl  k_) ?_
  obtain ⟨T2, X2, e2, st2⟩ := getF X1 hx hZ hown (host := "") (Or.inl (hw _ (List.mem_of_getElem? (i := 24) rfl))) Via.refl e1 Fc (g := (mkF m 7 #[.val (.ref a1)] [(.ref a1)])) rfl rfl (hb hby d20_7)
  refine Go.st (T' := T2) (pc' := 10) (L' := #[.val (.ref a1)]) (S' := [(.int (0 : Int32))]) st2 ?_
  refine Go.st (T' := T2) (pc' := 13) (L' := #[.val (.ref a1)]) (S' := []) (fun t_ k_ => XS.ifNo X2.here hx rfl (hb hby d20_10) rfl ((if0 _ _).trans (teq (by decide : ((0 : Int32) = (0 : Int32)))).2) k_) ?_
  refine Go.st (T' := T2) (pc' := 14) (L' := #[.val (.ref a1)]) (S' := [(.int (1 : Int32))]) (fun t_ k_ => XS.iconst X2.here hx rfl (hb hby d20_13) k_) ?_
  refine Go.st (T' := T2) (pc' := 18) (L' := #[.val (.ref a1)]) (S' := [(.int (1 : Int32))]) (fun t_ k_ => XS.goto X2.here hx rfl (pc0 := 14) (pc' := 18) rfl (hb hby d20_14) (by decide) (by decide) k_) ?_
  exact Go.retN X2 hx hlk hret (by simp) (hb hby d20_18) (by decide) (by decide) (by rw [e2]; exact ⟨rfl, N0, rfl⟩)
theorem d22_0 : decode jdk_43_method_25_code 0 = .ok (.aload_n 2, 1) := by decide +kernel
theorem d22_1 : decode jdk_43_method_25_code 1 = .ok (.iconst 0, 1) := by decide +kernel
theorem d22_2 : decode jdk_43_method_25_code 2 = .ok (.baload, 1) := by decide +kernel
theorem d22_3 : decode jdk_43_method_25_code 3 = .ok (.istore 5, 2) := by decide +kernel
theorem d22_5 : decode jdk_43_method_25_code 5 = .ok (.iload_n 1, 1) := by decide +kernel
theorem d22_6 : decode jdk_43_method_25_code 6 = .ok (.iload_n 3, 1) := by decide +kernel
theorem d22_7 : decode jdk_43_method_25_code 7 = .ok (.isub, 1) := by decide +kernel
theorem d22_8 : decode jdk_43_method_25_code 8 = .ok (.istore 6, 2) := by decide +kernel
theorem d22_10 : decode jdk_43_method_25_code 10 = .ok (.iload 4, 2) := by decide +kernel
theorem d22_12 : decode jdk_43_method_25_code 12 = .ok (.istore 7, 2) := by decide +kernel
theorem d22_14 : decode jdk_43_method_25_code 14 = .ok (.iload 7, 2) := by decide +kernel
theorem d22_16 : decode jdk_43_method_25_code 16 = .ok (.iload 6, 2) := by decide +kernel
theorem d22_18 : decode jdk_43_method_25_code 18 = .ok (.if_icmp .gt 101, 3) := by decide +kernel
theorem d22_21 : decode jdk_43_method_25_code 21 = .ok (.aload_n 0, 1) := by decide +kernel
theorem d22_22 : decode jdk_43_method_25_code 22 = .ok (.iload 7, 2) := by decide +kernel
theorem d22_24 : decode jdk_43_method_25_code 24 = .ok (.baload, 1) := by decide +kernel
theorem d22_25 : decode jdk_43_method_25_code 25 = .ok (.iload 5, 2) := by decide +kernel
theorem d22_27 : decode jdk_43_method_25_code 27 = .ok (.if_icmp .eq 25, 3) := by decide +kernel
theorem d22_30 : decode jdk_43_method_25_code 30 = .ok (.iinc 7 1, 3) := by decide +kernel
theorem d22_33 : decode jdk_43_method_25_code 33 = .ok (.iload 7, 2) := by decide +kernel
theorem d22_35 : decode jdk_43_method_25_code 35 = .ok (.iload 6, 2) := by decide +kernel
theorem d22_37 : decode jdk_43_method_25_code 37 = .ok (.if_icmp .gt 15, 3) := by decide +kernel
theorem d22_52 : decode jdk_43_method_25_code 52 = .ok (.iload 7, 2) := by decide +kernel
theorem d22_54 : decode jdk_43_method_25_code 54 = .ok (.iload 6, 2) := by decide +kernel
theorem d22_56 : decode jdk_43_method_25_code 56 = .ok (.if_icmp .gt 57, 3) := by decide +kernel
theorem d22_113 : decode jdk_43_method_25_code 113 = .ok (.iinc 7 1, 3) := by decide +kernel
theorem d22_116 : decode jdk_43_method_25_code 116 = .ok (.goto (-102), 3) := by decide +kernel
theorem d22_119 : decode jdk_43_method_25_code 119 = .ok (.iconst (-1), 1) := by decide +kernel
theorem d22_120 : decode jdk_43_method_25_code 120 = .ok (.ireturn, 1) := by decide +kernel
def Qix51_61 (Z : State) (t1 : Addr) (t2 : Addr) (k1 : ClassId) (k2 : ClassId) (gC : Int32) (x0 : Int32) (h0 : Heap) (n0 : Nat) (v : Option Value) (h : Heap) (L : List Loc) : Prop := v = some (.int (-1)) ∧ Fr n0 L ∧ h = h0
def roomix51_61 : Room := { frames := 0, cells := 0, slots := 0, locals := 0 }
set_option maxRecDepth 65536 in
set_option maxHeartbeats 40000000 in
theorem rmix51_61 (l : Launch) (Z : State) (a0 : Array Value) (hw : ∀ d ∈ tables_1, d.before a0 Z = true) (ws : List Jvm.Cond) (t1 : Addr) (t2 : Addr) (k1 : ClassId) (k2 : ClassId) (gC : Int32) (x0 : Int32) (h0 : Heap) (n0 : Nat) (Z0 : n0 ≤ h0.size) (SC : Sta Z Z.heap "java/lang/String" "COMPACT_STRINGS" "Z" (.int gC)) (PC : ¬ (gC = (0 : Int32))) (O0 : Old Z n0 h0) (V_t1 : Arv Z h0 t1 k1 .byte (1 : Int32) [(.int x0)] (.int (0 : Int32))) (V_t2 : Arv Z h0 t2 k2 .byte (1 : Int32) [(.int (61 : Int32))] (.int (0 : Int32))) (hd : ¬ x0 = (61 : Int32)) :
    MetFree l (⟨"java/lang/StringLatin1", "indexOf", "([BI[BII)I"⟩ : MethodName) (head1 (Jvm.Cond.code (⟨"java/lang/StringLatin1", "indexOf", "([BI[BII)I"⟩ : MethodName) jdk_43_method_25_code 11 (some .int) :: ws) roomix51_61) (fun aa_ U_ => aa_ = #[(.ref t1), (.int (1 : Int32)), (.ref t2), (.int (1 : Int32)), (.int (0 : Int32))] ∧ Z.Warmed39 U_.vm ∧ U_.heap = h0) (fun _ _ _ _ _ => True) (fun _ U_ o_ W_ => ∃ v_ L_, o_ = .returned v_ ∧ (Qix51_61 Z t1 t2 k1 k2 gC x0 h0 n0) v_ W_.heap L_ ∧ FrameEnd U_ o_ W_ L_ roomix51_61.cells roomix51_61.slots) := by
  refine own_met (Q := (Qix51_61 Z t1 t2 k1 k2 gC x0 h0 n0)) (L0 := #[.val (.ref t1), .val (.int (1 : Int32)), .val (.ref t2), .val (.int (1 : Int32)), .val (.int (0 : Int32)), .unset, .unset, .unset, .unset, .unset, .unset]) (plainFor_of_name pn_1) (fun m => by first | (simp [entryFrame, mkF, argsToLocals, Value.category]; done) | rfl) ?_
  intro p e s m below meth c T0 X0 hx hby hml hown hnm hret hlk hZ e0
  have N0 := Fr.nil n0
  refine Go.st (T' := T0) (pc' := 1) (L' := #[.val (.ref t1), .val (.int (1 : Int32)), .val (.ref t2), .val (.int (1 : Int32)), .val (.int (0 : Int32)), .unset, .unset, .unset, .unset, .unset, .unset]) (S' := [(.ref t2)]) (fun t_ k_ => XS.aloadN X0.here hx rfl (hb hby d22_0) rfl rfl  k_) ?_
  refine Go.st (T' := T0) (pc' := 2) (L' := #[.val (.ref t1), .val (.int (1 : Int32)), .val (.ref t2), .val (.int (1 : Int32)), .val (.int (0 : Int32)), .unset, .unset, .unset, .unset, .unset, .unset]) (S' := [(.int (0 : Int32)), (.ref t2)]) (fun t_ k_ => XS.iconst X0.here hx rfl (hb hby d22_1) k_) ?_
  obtain ⟨cl1, Ar1, -, q1a, q1b, q1c, q1d⟩ := id V_t2
  refine Go.st (T' := T0) (pc' := 3) (L' := #[.val (.ref t1), .val (.int (1 : Int32)), .val (.ref t2), .val (.int (1 : Int32)), .val (.int (0 : Int32)), .unset, .unset, .unset, .unset, .unset, .unset]) (S' := [(.int (61 : Int32))]) (fun t_ k_ => X0.baloadBytes hx (j := (0 : Int32)) (v := (.int (61 : Int32))) (by rw [e0]; exact Ar1.1) (State.isArrayOf_alike hZ.alike Ar1.2.1) Ar1.2.2 (inb_of q1a ⟨by decide, by decide⟩) (q1c.at (inb_of q1a ⟨by decide, by decide⟩) rfl) (g := (mkF m 2 #[.val (.ref t1), .val (.int (1 : Int32)), .val (.ref t2), .val (.int (1 : Int32)), .val (.int (0 : Int32)), .unset, .unset, .unset, .unset, .unset, .unset] [(.int (0 : Int32)), (.ref t2)])) rfl rfl (hb hby d22_2) t_ k_) ?_
  refine Go.st (T' := T0) (pc' := 5) (L' := #[.val (.ref t1), .val (.int (1 : Int32)), .val (.ref t2), .val (.int (1 : Int32)), .val (.int (0 : Int32)), .val (.int (61 : Int32)), .unset, .unset, .unset, .unset, .unset]) (S' := []) (fun t_ k_ => XS.istore X0.here hx rfl (hb hby d22_3) rfl (l' := #[.val (.ref t1), .val (.int (1 : Int32)), .val (.ref t2), .val (.int (1 : Int32)), .val (.int (0 : Int32)), .val (.int (61 : Int32)), .unset, .unset, .unset, .unset, .unset]) rfl k_) ?_
  refine Go.st (T' := T0) (pc' := 6) (L' := #[.val (.ref t1), .val (.int (1 : Int32)), .val (.ref t2), .val (.int (1 : Int32)), .val (.int (0 : Int32)), .val (.int (61 : Int32)), .unset, .unset, .unset, .unset, .unset]) (S' := [(.int (1 : Int32))]) (fun t_ k_ => XS.iloadN X0.here hx rfl (hb hby d22_5) rfl  k_) ?_
  refine Go.st (T' := T0) (pc' := 7) (L' := #[.val (.ref t1), .val (.int (1 : Int32)), .val (.ref t2), .val (.int (1 : Int32)), .val (.int (0 : Int32)), .val (.int (61 : Int32)), .unset, .unset, .unset, .unset, .unset]) (S' := [(.int (1 : Int32)), (.int (1 : Int32))]) (fun t_ k_ => XS.iloadN X0.here hx rfl (hb hby d22_6) rfl  k_) ?_
  refine Go.st (T' := T0) (pc' := 8) (L' := #[.val (.ref t1), .val (.int (1 : Int32)), .val (.ref t2), .val (.int (1 : Int32)), .val (.int (0 : Int32)), .val (.int (61 : Int32)), .unset, .unset, .unset, .unset, .unset]) (S' := [(.int ((1 : Int32) - (1 : Int32)))]) (fun t_ k_ => XS.isub X0.here hx rfl (hb hby d22_7) rfl k_) ?_
  rw [show ((1 : Int32) - (1 : Int32)) = (0 : Int32) from by decide]
  refine Go.st (T' := T0) (pc' := 10) (L' := #[.val (.ref t1), .val (.int (1 : Int32)), .val (.ref t2), .val (.int (1 : Int32)), .val (.int (0 : Int32)), .val (.int (61 : Int32)), .val (.int (0 : Int32)), .unset, .unset, .unset, .unset]) (S' := []) (fun t_ k_ => XS.istore X0.here hx rfl (hb hby d22_8) rfl (l' := #[.val (.ref t1), .val (.int (1 : Int32)), .val (.ref t2), .val (.int (1 : Int32)), .val (.int (0 : Int32)), .val (.int (61 : Int32)), .val (.int (0 : Int32)), .unset, .unset, .unset, .unset]) rfl k_) ?_
  refine Go.st (T' := T0) (pc' := 12) (L' := #[.val (.ref t1), .val (.int (1 : Int32)), .val (.ref t2), .val (.int (1 : Int32)), .val (.int (0 : Int32)), .val (.int (61 : Int32)), .val (.int (0 : Int32)), .unset, .unset, .unset, .unset]) (S' := [(.int (0 : Int32))]) (fun t_ k_ => XS.iload X0.here hx rfl (hb hby d22_10) rfl  k_) ?_
  refine Go.st (T' := T0) (pc' := 14) (L' := #[.val (.ref t1), .val (.int (1 : Int32)), .val (.ref t2), .val (.int (1 : Int32)), .val (.int (0 : Int32)), .val (.int (61 : Int32)), .val (.int (0 : Int32)), .val (.int (0 : Int32)), .unset, .unset, .unset]) (S' := []) (fun t_ k_ => XS.istore X0.here hx rfl (hb hby d22_12) rfl (l' := #[.val (.ref t1), .val (.int (1 : Int32)), .val (.ref t2), .val (.int (1 : Int32)), .val (.int (0 : Int32)), .val (.int (61 : Int32)), .val (.int (0 : Int32)), .val (.int (0 : Int32)), .unset, .unset, .unset]) rfl k_) ?_
  refine Go.st (T' := T0) (pc' := 16) (L' := #[.val (.ref t1), .val (.int (1 : Int32)), .val (.ref t2), .val (.int (1 : Int32)), .val (.int (0 : Int32)), .val (.int (61 : Int32)), .val (.int (0 : Int32)), .val (.int (0 : Int32)), .unset, .unset, .unset]) (S' := [(.int (0 : Int32))]) (fun t_ k_ => XS.iload X0.here hx rfl (hb hby d22_14) rfl  k_) ?_
  refine Go.st (T' := T0) (pc' := 18) (L' := #[.val (.ref t1), .val (.int (1 : Int32)), .val (.ref t2), .val (.int (1 : Int32)), .val (.int (0 : Int32)), .val (.int (61 : Int32)), .val (.int (0 : Int32)), .val (.int (0 : Int32)), .unset, .unset, .unset]) (S' := [(.int (0 : Int32)), (.int (0 : Int32))]) (fun t_ k_ => XS.iload X0.here hx rfl (hb hby d22_16) rfl  k_) ?_
  refine Go.st (T' := T0) (pc' := 21) (L' := #[.val (.ref t1), .val (.int (1 : Int32)), .val (.ref t2), .val (.int (1 : Int32)), .val (.int (0 : Int32)), .val (.int (61 : Int32)), .val (.int (0 : Int32)), .val (.int (0 : Int32)), .unset, .unset, .unset]) (S' := []) (fun t_ k_ => XS.icmpNo X0.here hx rfl (hb hby d22_18) rfl (flt (by decide : ¬ ((0 : Int32) < (0 : Int32)))).2.2.1 k_) ?_
  refine Go.st (T' := T0) (pc' := 22) (L' := #[.val (.ref t1), .val (.int (1 : Int32)), .val (.ref t2), .val (.int (1 : Int32)), .val (.int (0 : Int32)), .val (.int (61 : Int32)), .val (.int (0 : Int32)), .val (.int (0 : Int32)), .unset, .unset, .unset]) (S' := [(.ref t1)]) (fun t_ k_ => XS.aloadN X0.here hx rfl (hb hby d22_21) rfl rfl  k_) ?_
  refine Go.st (T' := T0) (pc' := 24) (L' := #[.val (.ref t1), .val (.int (1 : Int32)), .val (.ref t2), .val (.int (1 : Int32)), .val (.int (0 : Int32)), .val (.int (61 : Int32)), .val (.int (0 : Int32)), .val (.int (0 : Int32)), .unset, .unset, .unset]) (S' := [(.int (0 : Int32)), (.ref t1)]) (fun t_ k_ => XS.iload X0.here hx rfl (hb hby d22_22) rfl  k_) ?_
  obtain ⟨cl2, Ar2, -, q2a, q2b, q2c, q2d⟩ := id V_t1
  refine Go.st (T' := T0) (pc' := 25) (L' := #[.val (.ref t1), .val (.int (1 : Int32)), .val (.ref t2), .val (.int (1 : Int32)), .val (.int (0 : Int32)), .val (.int (61 : Int32)), .val (.int (0 : Int32)), .val (.int (0 : Int32)), .unset, .unset, .unset]) (S' := [(.int x0)]) (fun t_ k_ => X0.baloadBytes hx (j := (0 : Int32)) (v := (.int x0)) (by rw [e0]; exact Ar2.1) (State.isArrayOf_alike hZ.alike Ar2.2.1) Ar2.2.2 (inb_of q2a ⟨by decide, by decide⟩) (q2c.at (inb_of q2a ⟨by decide, by decide⟩) rfl) (g := (mkF m 24 #[.val (.ref t1), .val (.int (1 : Int32)), .val (.ref t2), .val (.int (1 : Int32)), .val (.int (0 : Int32)), .val (.int (61 : Int32)), .val (.int (0 : Int32)), .val (.int (0 : Int32)), .unset, .unset, .unset] [(.int (0 : Int32)), (.ref t1)])) rfl rfl (hb hby d22_24) t_ k_) ?_
  refine Go.st (T' := T0) (pc' := 27) (L' := #[.val (.ref t1), .val (.int (1 : Int32)), .val (.ref t2), .val (.int (1 : Int32)), .val (.int (0 : Int32)), .val (.int (61 : Int32)), .val (.int (0 : Int32)), .val (.int (0 : Int32)), .unset, .unset, .unset]) (S' := [(.int (61 : Int32)), (.int x0)]) (fun t_ k_ => XS.iload X0.here hx rfl (hb hby d22_25) rfl  k_) ?_
  refine Go.st (T' := T0) (pc' := 30) (L' := #[.val (.ref t1), .val (.int (1 : Int32)), .val (.ref t2), .val (.int (1 : Int32)), .val (.int (0 : Int32)), .val (.int (61 : Int32)), .val (.int (0 : Int32)), .val (.int (0 : Int32)), .unset, .unset, .unset]) (S' := []) (fun t_ k_ => XS.icmpNo X0.here hx rfl (hb hby d22_27) rfl (feq (hd : ¬ (x0 = (61 : Int32)))).1 k_) ?_
  refine Go.st (T' := T0) (pc' := 33) (L' := #[.val (.ref t1), .val (.int (1 : Int32)), .val (.ref t2), .val (.int (1 : Int32)), .val (.int (0 : Int32)), .val (.int (61 : Int32)), .val (.int (0 : Int32)), .val (.int ((0 : Int32) + (1 : Int32))), .unset, .unset, .unset]) (S' := []) (fun t_ k_ => XS.iinc X0.here hx rfl (hb hby d22_30) rfl (l' := #[.val (.ref t1), .val (.int (1 : Int32)), .val (.ref t2), .val (.int (1 : Int32)), .val (.int (0 : Int32)), .val (.int (61 : Int32)), .val (.int (0 : Int32)), .val (.int ((0 : Int32) + (1 : Int32))), .unset, .unset, .unset]) rfl k_) ?_
  rw [show ((0 : Int32) + (1 : Int32)) = (1 : Int32) from by decide]
  refine Go.st (T' := T0) (pc' := 35) (L' := #[.val (.ref t1), .val (.int (1 : Int32)), .val (.ref t2), .val (.int (1 : Int32)), .val (.int (0 : Int32)), .val (.int (61 : Int32)), .val (.int (0 : Int32)), .val (.int (1 : Int32)), .unset, .unset, .unset]) (S' := [(.int (1 : Int32))]) (fun t_ k_ => XS.iload X0.here hx rfl (hb hby d22_33) rfl  k_) ?_
  refine Go.st (T' := T0) (pc' := 37) (L' := #[.val (.ref t1), .val (.int (1 : Int32)), .val (.ref t2), .val (.int (1 : Int32)), .val (.int (0 : Int32)), .val (.int (61 : Int32)), .val (.int (0 : Int32)), .val (.int (1 : Int32)), .unset, .unset, .unset]) (S' := [(.int (0 : Int32)), (.int (1 : Int32))]) (fun t_ k_ => XS.iload X0.here hx rfl (hb hby d22_35) rfl  k_) ?_
  refine Go.st (T' := T0) (pc' := 52) (L' := #[.val (.ref t1), .val (.int (1 : Int32)), .val (.ref t2), .val (.int (1 : Int32)), .val (.int (0 : Int32)), .val (.int (61 : Int32)), .val (.int (0 : Int32)), .val (.int (1 : Int32)), .unset, .unset, .unset]) (S' := []) (fun t_ k_ => XS.icmpYes X0.here hx rfl (pc0 := 37) (pc' := 52) rfl (hb hby d22_37) rfl (tlt (by decide : ((0 : Int32) < (1 : Int32)))).2.2.1 (by decide) (by decide) k_) ?_
  refine Go.st (T' := T0) (pc' := 54) (L' := #[.val (.ref t1), .val (.int (1 : Int32)), .val (.ref t2), .val (.int (1 : Int32)), .val (.int (0 : Int32)), .val (.int (61 : Int32)), .val (.int (0 : Int32)), .val (.int (1 : Int32)), .unset, .unset, .unset]) (S' := [(.int (1 : Int32))]) (fun t_ k_ => XS.iload X0.here hx rfl (hb hby d22_52) rfl  k_) ?_
  refine Go.st (T' := T0) (pc' := 56) (L' := #[.val (.ref t1), .val (.int (1 : Int32)), .val (.ref t2), .val (.int (1 : Int32)), .val (.int (0 : Int32)), .val (.int (61 : Int32)), .val (.int (0 : Int32)), .val (.int (1 : Int32)), .unset, .unset, .unset]) (S' := [(.int (0 : Int32)), (.int (1 : Int32))]) (fun t_ k_ => XS.iload X0.here hx rfl (hb hby d22_54) rfl  k_) ?_
  refine Go.st (T' := T0) (pc' := 113) (L' := #[.val (.ref t1), .val (.int (1 : Int32)), .val (.ref t2), .val (.int (1 : Int32)), .val (.int (0 : Int32)), .val (.int (61 : Int32)), .val (.int (0 : Int32)), .val (.int (1 : Int32)), .unset, .unset, .unset]) (S' := []) (fun t_ k_ => XS.icmpYes X0.here hx rfl (pc0 := 56) (pc' := 113) rfl (hb hby d22_56) rfl (tlt (by decide : ((0 : Int32) < (1 : Int32)))).2.2.1 (by decide) (by decide) k_) ?_
  refine Go.st (T' := T0) (pc' := 116) (L' := #[.val (.ref t1), .val (.int (1 : Int32)), .val (.ref t2), .val (.int (1 : Int32)), .val (.int (0 : Int32)), .val (.int (61 : Int32)), .val (.int (0 : Int32)), .val (.int ((1 : Int32) + (1 : Int32))), .unset, .unset, .unset]) (S' := []) (fun t_ k_ => XS.iinc X0.here hx rfl (hb hby d22_113) rfl (l' := #[.val (.ref t1), .val (.int (1 : Int32)), .val (.ref t2), .val (.int (1 : Int32)), .val (.int (0 : Int32)), .val (.int (61 : Int32)), .val (.int (0 : Int32)), .val (.int ((1 : Int32) + (1 : Int32))), .unset, .unset, .unset]) rfl k_) ?_
  rw [show ((1 : Int32) + (1 : Int32)) = (2 : Int32) from by decide]
  refine Go.st (T' := T0) (pc' := 14) (L' := #[.val (.ref t1), .val (.int (1 : Int32)), .val (.ref t2), .val (.int (1 : Int32)), .val (.int (0 : Int32)), .val (.int (61 : Int32)), .val (.int (0 : Int32)), .val (.int (2 : Int32)), .unset, .unset, .unset]) (S' := []) (fun t_ k_ => XS.goto X0.here hx rfl (pc0 := 116) (pc' := 14) rfl (hb hby d22_116) (by decide) (by decide) k_) ?_
  refine Go.st (T' := T0) (pc' := 16) (L' := #[.val (.ref t1), .val (.int (1 : Int32)), .val (.ref t2), .val (.int (1 : Int32)), .val (.int (0 : Int32)), .val (.int (61 : Int32)), .val (.int (0 : Int32)), .val (.int (2 : Int32)), .unset, .unset, .unset]) (S' := [(.int (2 : Int32))]) (fun t_ k_ => XS.iload X0.here hx rfl (hb hby d22_14) rfl  k_) ?_
  refine Go.st (T' := T0) (pc' := 18) (L' := #[.val (.ref t1), .val (.int (1 : Int32)), .val (.ref t2), .val (.int (1 : Int32)), .val (.int (0 : Int32)), .val (.int (61 : Int32)), .val (.int (0 : Int32)), .val (.int (2 : Int32)), .unset, .unset, .unset]) (S' := [(.int (0 : Int32)), (.int (2 : Int32))]) (fun t_ k_ => XS.iload X0.here hx rfl (hb hby d22_16) rfl  k_) ?_
  refine Go.st (T' := T0) (pc' := 119) (L' := #[.val (.ref t1), .val (.int (1 : Int32)), .val (.ref t2), .val (.int (1 : Int32)), .val (.int (0 : Int32)), .val (.int (61 : Int32)), .val (.int (0 : Int32)), .val (.int (2 : Int32)), .unset, .unset, .unset]) (S' := []) (fun t_ k_ => XS.icmpYes X0.here hx rfl (pc0 := 18) (pc' := 119) rfl (hb hby d22_18) rfl (tlt (by decide : ((0 : Int32) < (2 : Int32)))).2.2.1 (by decide) (by decide) k_) ?_
  refine Go.st (T' := T0) (pc' := 120) (L' := #[.val (.ref t1), .val (.int (1 : Int32)), .val (.ref t2), .val (.int (1 : Int32)), .val (.int (0 : Int32)), .val (.int (61 : Int32)), .val (.int (0 : Int32)), .val (.int (2 : Int32)), .unset, .unset, .unset]) (S' := [(.int (-1 : Int32))]) (fun t_ k_ => XS.iconst X0.here hx rfl (hb hby d22_119) k_) ?_
  exact Go.retO X0 hx hlk hret rfl (by simp [FieldType.isReference, Value.isRef]) (hb hby d22_120) (by decide) (by decide) (by rw [e0]; exact ⟨rfl, N0, rfl⟩)
theorem d21_0 : decode jdk_43_method_24_code 0 = .ok (.aload_n 1, 1) := by decide +kernel
theorem d21_1 : decode jdk_43_method_24_code 1 = .ok (.arraylength, 1) := by decide +kernel
theorem d21_2 : decode jdk_43_method_24_code 2 = .ok (.ifCond .ne 5, 3) := by decide +kernel
theorem d21_7 : decode jdk_43_method_24_code 7 = .ok (.aload_n 0, 1) := by decide +kernel
theorem d21_8 : decode jdk_43_method_24_code 8 = .ok (.arraylength, 1) := by decide +kernel
theorem d21_9 : decode jdk_43_method_24_code 9 = .ok (.ifCond .ne 5, 3) := by decide +kernel
theorem d21_14 : decode jdk_43_method_24_code 14 = .ok (.aload_n 0, 1) := by decide +kernel
theorem d21_15 : decode jdk_43_method_24_code 15 = .ok (.aload_n 0, 1) := by decide +kernel
theorem d21_16 : decode jdk_43_method_24_code 16 = .ok (.arraylength, 1) := by decide +kernel
theorem d21_17 : decode jdk_43_method_24_code 17 = .ok (.aload_n 1, 1) := by decide +kernel
theorem d21_18 : decode jdk_43_method_24_code 18 = .ok (.aload_n 1, 1) := by decide +kernel
theorem d21_19 : decode jdk_43_method_24_code 19 = .ok (.arraylength, 1) := by decide +kernel
theorem d21_20 : decode jdk_43_method_24_code 20 = .ok (.iconst 0, 1) := by decide +kernel
theorem d21_21 : decode jdk_43_method_24_code 21 = .ok (.invokestatic 99, 3) := by decide +kernel
theorem d21_24 : decode jdk_43_method_24_code 24 = .ok (.ireturn, 1) := by decide +kernel
def Qix21_61 (Z : State) (t1 : Addr) (t2 : Addr) (k1 : ClassId) (k2 : ClassId) (gC : Int32) (x0 : Int32) (h0 : Heap) (n0 : Nat) (v : Option Value) (h : Heap) (L : List Loc) : Prop := v = some (.int (-1)) ∧ Fr n0 L ∧ h = h0
def roomix21_61 : Room := { frames := 1, cells := 0, slots := 0, locals := 22 }
set_option maxRecDepth 65536 in
set_option maxHeartbeats 40000000 in
theorem rmix21_61 (l : Launch) (Z : State) (a0 : Array Value) (hw : ∀ d ∈ tables_1, d.before a0 Z = true) (ws : List Jvm.Cond) (t1 : Addr) (t2 : Addr) (k1 : ClassId) (k2 : ClassId) (gC : Int32) (x0 : Int32) (h0 : Heap) (n0 : Nat) (Z0 : n0 ≤ h0.size) (SC : Sta Z Z.heap "java/lang/String" "COMPACT_STRINGS" "Z" (.int gC)) (PC : ¬ (gC = (0 : Int32))) (O0 : Old Z n0 h0) (V_t1 : Arv Z h0 t1 k1 .byte (1 : Int32) [(.int x0)] (.int (0 : Int32))) (V_t2 : Arv Z h0 t2 k2 .byte (1 : Int32) [(.int (61 : Int32))] (.int (0 : Int32))) (hd : ¬ x0 = (61 : Int32)) :
    MetFree l (⟨"java/lang/StringLatin1", "indexOf", "([B[B)I"⟩ : MethodName) (head1 (Jvm.Cond.code (⟨"java/lang/StringLatin1", "indexOf", "([B[B)I"⟩ : MethodName) jdk_43_method_24_code 2 (some .int) :: ws) roomix21_61) (fun aa_ U_ => aa_ = #[(.ref t1), (.ref t2)] ∧ Z.Warmed39 U_.vm ∧ U_.heap = h0) (fun _ _ _ _ _ => True) (fun _ U_ o_ W_ => ∃ v_ L_, o_ = .returned v_ ∧ (Qix21_61 Z t1 t2 k1 k2 gC x0 h0 n0) v_ W_.heap L_ ∧ FrameEnd U_ o_ W_ L_ roomix21_61.cells roomix21_61.slots) := by
  refine own_met (Q := (Qix21_61 Z t1 t2 k1 k2 gC x0 h0 n0)) (L0 := #[.val (.ref t1), .val (.ref t2)]) (plainFor_of_name pn_1) (fun m => by first | (simp [entryFrame, mkF, argsToLocals, Value.category]; done) | rfl) ?_
  intro p e s m below meth c T0 X0 hx hby hml hown hnm hret hlk hZ e0
  have N0 := Fr.nil n0
  refine Go.st (T' := T0) (pc' := 1) (L' := #[.val (.ref t1), .val (.ref t2)]) (S' := [(.ref t2)]) (fun t_ k_ => XS.aloadN X0.here hx rfl (hb hby d21_0) rfl rfl  k_) ?_
  obtain ⟨cl1, Ar1, -, q1a, q1b, -, -⟩ := id V_t2
  refine Go.st (T' := T0) (pc' := 2) (L' := #[.val (.ref t1), .val (.ref t2)]) (S' := [(.int (1 : Int32))]) (fun t_ k_ => own_len X0 hx hZ e0 Ar1 q1a q1b (g := (mkF m 1 #[.val (.ref t1), .val (.ref t2)] [(.ref t2)])) rfl rfl (hb hby d21_1) t_ k_) ?_
  refine Go.st (T' := T0) (pc' := 7) (L' := #[.val (.ref t1), .val (.ref t2)]) (S' := []) (fun t_ k_ => XS.ifYes X0.here hx rfl (pc0 := 2) (pc' := 7) rfl (hb hby d21_2) rfl ((if0 _ _).trans (feq (by decide : ¬ ((1 : Int32) = (0 : Int32)))).2) (by decide) (by decide) k_) ?_
  refine Go.st (T' := T0) (pc' := 8) (L' := #[.val (.ref t1), .val (.ref t2)]) (S' := [(.ref t1)]) (fun t_ k_ => XS.aloadN X0.here hx rfl (hb hby d21_7) rfl rfl  k_) ?_
  obtain ⟨cl2, Ar2, -, q2a, q2b, -, -⟩ := id V_t1
  refine Go.st (T' := T0) (pc' := 9) (L' := #[.val (.ref t1), .val (.ref t2)]) (S' := [(.int (1 : Int32))]) (fun t_ k_ => own_len X0 hx hZ e0 Ar2 q2a q2b (g := (mkF m 8 #[.val (.ref t1), .val (.ref t2)] [(.ref t1)])) rfl rfl (hb hby d21_8) t_ k_) ?_
  refine Go.st (T' := T0) (pc' := 14) (L' := #[.val (.ref t1), .val (.ref t2)]) (S' := []) (fun t_ k_ => XS.ifYes X0.here hx rfl (pc0 := 9) (pc' := 14) rfl (hb hby d21_9) rfl ((if0 _ _).trans (feq (by decide : ¬ ((1 : Int32) = (0 : Int32)))).2) (by decide) (by decide) k_) ?_
  refine Go.st (T' := T0) (pc' := 15) (L' := #[.val (.ref t1), .val (.ref t2)]) (S' := [(.ref t1)]) (fun t_ k_ => XS.aloadN X0.here hx rfl (hb hby d21_14) rfl rfl  k_) ?_
  refine Go.st (T' := T0) (pc' := 16) (L' := #[.val (.ref t1), .val (.ref t2)]) (S' := [(.ref t1), (.ref t1)]) (fun t_ k_ => XS.aloadN X0.here hx rfl (hb hby d21_15) rfl rfl  k_) ?_
  obtain ⟨cl3, Ar3, -, q3a, q3b, -, -⟩ := id V_t1
  refine Go.st (T' := T0) (pc' := 17) (L' := #[.val (.ref t1), .val (.ref t2)]) (S' := [(.int (1 : Int32)), (.ref t1)]) (fun t_ k_ => own_len X0 hx hZ e0 Ar3 q3a q3b (g := (mkF m 16 #[.val (.ref t1), .val (.ref t2)] [(.ref t1), (.ref t1)])) rfl rfl (hb hby d21_16) t_ k_) ?_
  refine Go.st (T' := T0) (pc' := 18) (L' := #[.val (.ref t1), .val (.ref t2)]) (S' := [(.ref t2), (.int (1 : Int32)), (.ref t1)]) (fun t_ k_ => XS.aloadN X0.here hx rfl (hb hby d21_17) rfl rfl  k_) ?_
  refine Go.st (T' := T0) (pc' := 19) (L' := #[.val (.ref t1), .val (.ref t2)]) (S' := [(.ref t2), (.ref t2), (.int (1 : Int32)), (.ref t1)]) (fun t_ k_ => XS.aloadN X0.here hx rfl (hb hby d21_18) rfl rfl  k_) ?_
  obtain ⟨cl4, Ar4, -, q4a, q4b, -, -⟩ := id V_t2
  refine Go.st (T' := T0) (pc' := 20) (L' := #[.val (.ref t1), .val (.ref t2)]) (S' := [(.int (1 : Int32)), (.ref t2), (.int (1 : Int32)), (.ref t1)]) (fun t_ k_ => own_len X0 hx hZ e0 Ar4 q4a q4b (g := (mkF m 19 #[.val (.ref t1), .val (.ref t2)] [(.ref t2), (.ref t2), (.int (1 : Int32)), (.ref t1)])) rfl rfl (hb hby d21_19) t_ k_) ?_
  refine Go.st (T' := T0) (pc' := 21) (L' := #[.val (.ref t1), .val (.ref t2)]) (S' := [(.int (0 : Int32)), (.int (1 : Int32)), (.ref t2), (.int (1 : Int32)), (.ref t1)]) (fun t_ k_ => XS.iconst X0.here hx rfl (hb hby d21_20) k_) ?_
  obtain ⟨_, _, ⟨T5, L5, k5, n5⟩, -, X5, ⟨Lc5, hQ5, l5, y5, z5⟩, st5⟩ := Jvm.LawKit.callS X0 hx (y := (⟨"java/lang/StringLatin1", "indexOf", "([BI[BII)I"⟩ : MethodName)) hown (mvT hZ (hw _ (List.mem_of_getElem? (i := 113) rfl))) (mvT hZ (hw _ (List.mem_of_getElem? (i := 114) rfl))) (mvT hZ (hw _ (List.mem_of_getElem? (i := 7) rfl))) (mvT hZ (hw _ (List.mem_of_getElem? (i := 115) rfl))) (by decide) (backOf (W := 0) (rmix51_61 l Z a0 hw [] t1 t2 _ _ gC (x0) h0 n0 Z0 SC PC O0 V_t1 V_t2 hd) hZ (hw _ (List.mem_of_getElem? (i := 115) rfl)) (hw _ (List.mem_of_getElem? (i := 7) rfl)) (by decide) (by decide)) (g := (mkF m 21 #[.val (.ref t1), .val (.ref t2)] [(.int (0 : Int32)), (.int (1 : Int32)), (.ref t2), (.int (1 : Int32)), (.ref t1)])) rfl (by rw [hml]; rfl) (argsL := [(.ref t1), (.int (1 : Int32)), (.ref t2), (.int (1 : Int32)), (.int (0 : Int32))]) (rest := []) (lenOf pd_9 rfl) rfl (by show 2 * 0 + _ ≤ _; exact Nat.le_of_eq rfl) (hb hby d21_21) (fun _ _ => ⟨rfl, e0, (by decide : 0 + 0 ≤ _), (by decide : 0 + 0 ≤ _)⟩)
  dsimp only [Pt.U, Pt.locs, Pt.cells, Pt.slots] at X5 l5 y5 z5 st5 hQ5
  subst l5 y5 z5
  obtain ⟨rfl, N5q, e5⟩ := hQ5
  have N5 := Fr.app N0 N5q
  refine Go.st (T' := T5) (pc' := 24) (L' := #[.val (.ref t1), .val (.ref t2)]) (S' := [(.int (-1 : Int32))]) st5 ?_
  exact Go.retO X5 hx hlk hret rfl (by simp [FieldType.isReference, Value.isRef]) (hb hby d21_24) (by decide) (by decide) (by rw [e5]; exact ⟨rfl, N5, rfl⟩)
theorem d19_0 : decode jdk_42_method_84_code 0 = .ok (.aload_n 0, 1) := by decide +kernel
theorem d19_1 : decode jdk_42_method_84_code 1 = .ok (.invokevirtual 335, 3) := by decide +kernel
theorem d19_4 : decode jdk_42_method_84_code 4 = .ok (.istore_n 2, 1) := by decide +kernel
theorem d19_5 : decode jdk_42_method_84_code 5 = .ok (.iload_n 2, 1) := by decide +kernel
theorem d19_6 : decode jdk_42_method_84_code 6 = .ok (.aload_n 1, 1) := by decide +kernel
theorem d19_7 : decode jdk_42_method_84_code 7 = .ok (.invokevirtual 335, 3) := by decide +kernel
theorem d19_10 : decode jdk_42_method_84_code 10 = .ok (.if_icmp .ne 36, 3) := by decide +kernel
theorem d19_13 : decode jdk_42_method_84_code 13 = .ok (.aload_n 0, 1) := by decide +kernel
theorem d19_14 : decode jdk_42_method_84_code 14 = .ok (.invokevirtual 492, 3) := by decide +kernel
theorem d19_17 : decode jdk_42_method_84_code 17 = .ok (.ifCond .eq 17, 3) := by decide +kernel
theorem d19_20 : decode jdk_42_method_84_code 20 = .ok (.aload_n 0, 1) := by decide +kernel
theorem d19_21 : decode jdk_42_method_84_code 21 = .ok (.getfield 9, 3) := by decide +kernel
theorem d19_24 : decode jdk_42_method_84_code 24 = .ok (.aload_n 1, 1) := by decide +kernel
theorem d19_25 : decode jdk_42_method_84_code 25 = .ok (.getfield 9, 3) := by decide +kernel
theorem d19_28 : decode jdk_42_method_84_code 28 = .ok (.invokestatic 647, 3) := by decide +kernel
theorem d19_31 : decode jdk_42_method_84_code 31 = .ok (.goto 14, 3) := by decide +kernel
theorem d19_45 : decode jdk_42_method_84_code 45 = .ok (.ireturn, 1) := by decide +kernel
theorem pd_13 : parseMethodDescriptor "([B[B)I" = some ⟨[(.array .byte), (.array .byte)], some .int⟩ := by decide +kernel
def Qixs1_61 (Z : State) (a1 : Addr) (a2 : Addr) (t1 : Addr) (t2 : Addr) (k1 : ClassId) (k2 : ClassId) (gC : Int32) (x0 : Int32) (h0 : Heap) (n0 : Nat) (v : Option Value) (h : Heap) (L : List Loc) : Prop := v = some (.int (-1)) ∧ Fr n0 L ∧ h = h0
def roomixs1_61 : Room := { frames := 2, cells := 0, slots := 0, locals := 35 }
set_option maxRecDepth 65536 in
set_option maxHeartbeats 40000000 in
theorem rmixs1_61 (l : Launch) (Z : State) (a0 : Array Value) (hw : ∀ d ∈ tables_1, d.before a0 Z = true) (ws : List Jvm.Cond) (a1 : Addr) (a2 : Addr) (t1 : Addr) (t2 : Addr) (k1 : ClassId) (k2 : ClassId) (gC : Int32) (x0 : Int32) (h0 : Heap) (n0 : Nat) (Z0 : n0 ≤ h0.size) (SC : Sta Z Z.heap "java/lang/String" "COMPACT_STRINGS" "Z" (.int gC)) (PC : ¬ (gC = (0 : Int32))) (O0 : Old Z n0 h0) (E_a1 : Exa Z h0 a1 "java/lang/String") (Fc_a1 : Fld Z h0 a1 "java/lang/String" "coder" "B" (.int (0 : Int32))) (Fv_a1 : Fld Z h0 a1 "java/lang/String" "value" "[B" (.ref t1)) (V_t1 : Arv Z h0 t1 k1 .byte (1 : Int32) [(.int x0)] (.int (0 : Int32))) (E_a2 : Exa Z h0 a2 "java/lang/String") (Fc_a2 : Fld Z h0 a2 "java/lang/String" "coder" "B" (.int (0 : Int32))) (Fv_a2 : Fld Z h0 a2 "java/lang/String" "value" "[B" (.ref t2)) (V_t2 : Arv Z h0 t2 k2 .byte (1 : Int32) [(.int (61 : Int32))] (.int (0 : Int32))) (hd : ¬ x0 = (61 : Int32)) :
    MetFree l (⟨"java/lang/String", "indexOf", "(Ljava/lang/String;)I"⟩ : MethodName) (head1 (Jvm.Cond.code (⟨"java/lang/String", "indexOf", "(Ljava/lang/String;)I"⟩ : MethodName) jdk_42_method_84_code 3 (some .int) :: ws) roomixs1_61) (fun aa_ U_ => aa_ = #[(.ref a1), (.ref a2)] ∧ Z.Warmed39 U_.vm ∧ U_.heap = h0) (fun _ _ _ _ _ => True) (fun _ U_ o_ W_ => ∃ v_ L_, o_ = .returned v_ ∧ (Qixs1_61 Z a1 a2 t1 t2 k1 k2 gC x0 h0 n0) v_ W_.heap L_ ∧ FrameEnd U_ o_ W_ L_ roomixs1_61.cells roomixs1_61.slots) := by
  refine own_met (Q := (Qixs1_61 Z a1 a2 t1 t2 k1 k2 gC x0 h0 n0)) (L0 := #[.val (.ref a1), .val (.ref a2), .unset]) (plainFor_of_name pn_0) (fun m => by first | (simp [entryFrame, mkF, argsToLocals, Value.category]; done) | rfl) ?_
  intro p e s m below meth c T0 X0 hx hby hml hown hnm hret hlk hZ e0
  have N0 := Fr.nil n0
  refine Go.st (T' := T0) (pc' := 1) (L' := #[.val (.ref a1), .val (.ref a2), .unset]) (S' := [(.ref a1)]) (fun t_ k_ => XS.aloadN X0.here hx rfl (hb hby d19_0) rfl rfl  k_) ?_
  obtain ⟨cq1, kq1, q1a, q1b, q1c⟩ := isOf hZ e0 E_a1
  obtain ⟨_, _, ⟨T1, L1, k1, n1⟩, -, X1, ⟨Lc1, hQ1, l1, y1, z1⟩, st1⟩ := X0.virtualBack hx (y := (⟨"java/lang/String", "coder", "()B"⟩ : MethodName)) (z := (⟨"java/lang/String", "coder", "()B"⟩ : MethodName)) hown (mvT hZ (hw _ (List.mem_of_getElem? (i := 76) rfl))) (mvT hZ (hw _ (List.mem_of_getElem? (i := 77) rfl))) (notFace_of_selects (args := #[]) (mvT hZ (hw _ (List.mem_of_getElem? (i := 79) rfl)))) (mvT hZ (hw _ (List.mem_of_getElem? (i := 79) rfl))) (mvT hZ (hw _ (List.mem_of_getElem? (i := 78) rfl))) (by decide) (backOf (W := 0) (rm15 l Z a0 hw [] a1 gC h0 n0 Z0 SC PC O0 Fc_a1) hZ (hw _ (List.mem_of_getElem? (i := 80) rfl)) (hw _ (List.mem_of_getElem? (i := 2) rfl)) (by decide) (by decide)) q1a q1c (g := (mkF m 1 #[.val (.ref a1), .val (.ref a2), .unset] [(.ref a1)])) rfl (by rw [hml]; rfl) (Steps.refl _) (argsL := []) (rest := []) (lenOf pd_7 rfl) rfl (by show 2 * 0 + _ ≤ _; exact Nat.le_of_eq rfl) (hb hby d19_1) (fun _ _ => ⟨rfl, e0, (by decide : 0 + 0 ≤ _), (by decide : 0 + 0 ≤ _)⟩)
  dsimp only [Pt.U, Pt.locs, Pt.cells, Pt.slots] at X1 l1 y1 z1 st1 hQ1
  subst l1 y1 z1
  obtain ⟨rfl, N1q, e1⟩ := hQ1
  have N1 := Fr.app N0 N1q
  refine Go.tr (T' := T1) (pc' := 4) (L' := #[.val (.ref a1), .val (.ref a2), .unset]) (S' := [(.int (0 : Int32))]) st1 ?_
  refine Go.st (T' := T1) (pc' := 5) (L' := #[.val (.ref a1), .val (.ref a2), .val (.int (0 : Int32))]) (S' := []) (fun t_ k_ => XS.istoreN X1.here hx rfl (hb hby d19_4) rfl (l' := #[.val (.ref a1), .val (.ref a2), .val (.int (0 : Int32))]) rfl k_) ?_
  refine Go.st (T' := T1) (pc' := 6) (L' := #[.val (.ref a1), .val (.ref a2), .val (.int (0 : Int32))]) (S' := [(.int (0 : Int32))]) (fun t_ k_ => XS.iloadN X1.here hx rfl (hb hby d19_5) rfl  k_) ?_
  refine Go.st (T' := T1) (pc' := 7) (L' := #[.val (.ref a1), .val (.ref a2), .val (.int (0 : Int32))]) (S' := [(.ref a2), (.int (0 : Int32))]) (fun t_ k_ => XS.aloadN X1.here hx rfl (hb hby d19_6) rfl rfl  k_) ?_
  obtain ⟨cq2, kq2, q2a, q2b, q2c⟩ := isOf hZ e1 E_a2
  obtain ⟨_, _, ⟨T2, L2, k2, n2⟩, -, X2, ⟨Lc2, hQ2, l2, y2, z2⟩, st2⟩ := X1.virtualBack hx (y := (⟨"java/lang/String", "coder", "()B"⟩ : MethodName)) (z := (⟨"java/lang/String", "coder", "()B"⟩ : MethodName)) hown (mvT hZ (hw _ (List.mem_of_getElem? (i := 76) rfl))) (mvT hZ (hw _ (List.mem_of_getElem? (i := 77) rfl))) (notFace_of_selects (args := #[]) (mvT hZ (hw _ (List.mem_of_getElem? (i := 79) rfl)))) (mvT hZ (hw _ (List.mem_of_getElem? (i := 79) rfl))) (mvT hZ (hw _ (List.mem_of_getElem? (i := 78) rfl))) (by decide) (backOf (W := 1) (rm15 l Z a0 hw [] a2 gC h0 n0 Z0 SC PC O0 Fc_a2) hZ (hw _ (List.mem_of_getElem? (i := 80) rfl)) (hw _ (List.mem_of_getElem? (i := 2) rfl)) (by decide) (by decide)) q2a q2c (g := (mkF m 7 #[.val (.ref a1), .val (.ref a2), .val (.int (0 : Int32))] [(.ref a2), (.int (0 : Int32))])) rfl (by rw [hml]; rfl) (Steps.refl _) (argsL := []) (rest := [(.int (0 : Int32))]) (lenOf pd_7 rfl) rfl (by show 2 * 0 + _ ≤ _; exact Nat.le_of_eq rfl) (hb hby d19_7) (fun _ _ => ⟨rfl, e1, (by decide : 0 + 0 ≤ _), (by decide : 0 + 0 ≤ _)⟩)
  dsimp only [Pt.U, Pt.locs, Pt.cells, Pt.slots] at X2 l2 y2 z2 st2 hQ2
  subst l2 y2 z2
  obtain ⟨rfl, N2q, e2⟩ := hQ2
  have N2 := Fr.app N1 N2q
  refine Go.tr (T' := T2) (pc' := 10) (L' := #[.val (.ref a1), .val (.ref a2), .val (.int (0 : Int32))]) (S' := [(.int (0 : Int32)), (.int (0 : Int32))]) st2 ?_
  refine Go.st (T' := T2) (pc' := 13) (L' := #[.val (.ref a1), .val (.ref a2), .val (.int (0 : Int32))]) (S' := []) (fun t_ k_ => XS.icmpNo X2.here hx rfl (hb hby d19_10) rfl (teq (by decide : ((0 : Int32) = (0 : Int32)))).2 k_) ?_
  refine Go.st (T' := T2) (pc' := 14) (L' := #[.val (.ref a1), .val (.ref a2), .val (.int (0 : Int32))]) (S' := [(.ref a1)]) (fun t_ k_ => XS.aloadN X2.here hx rfl (hb hby d19_13) rfl rfl  k_) ?_
  obtain ⟨cq3, kq3, q3a, q3b, q3c⟩ := isOf hZ e2 E_a1
  obtain ⟨_, _, ⟨T3, L3, k3, n3⟩, -, X3, ⟨Lc3, hQ3, l3, y3, z3⟩, st3⟩ := X2.virtualBack hx (y := (⟨"java/lang/String", "isLatin1", "()Z"⟩ : MethodName)) (z := (⟨"java/lang/String", "isLatin1", "()Z"⟩ : MethodName)) hown (mvT hZ (hw _ (List.mem_of_getElem? (i := 105) rfl))) (mvT hZ (hw _ (List.mem_of_getElem? (i := 106) rfl))) (notFace_of_selects (args := #[]) (mvT hZ (hw _ (List.mem_of_getElem? (i := 108) rfl)))) (mvT hZ (hw _ (List.mem_of_getElem? (i := 108) rfl))) (mvT hZ (hw _ (List.mem_of_getElem? (i := 107) rfl))) (by decide) (backOf (W := 0) (rm20 l Z a0 hw [] a1 gC h0 n0 Z0 SC PC O0 Fc_a1) hZ (hw _ (List.mem_of_getElem? (i := 109) rfl)) (hw _ (List.mem_of_getElem? (i := 2) rfl)) (by decide) (by decide)) q3a q3c (g := (mkF m 14 #[.val (.ref a1), .val (.ref a2), .val (.int (0 : Int32))] [(.ref a1)])) rfl (by rw [hml]; rfl) (Steps.refl _) (argsL := []) (rest := []) (lenOf pd_6 rfl) rfl (by show 2 * 0 + _ ≤ _; exact Nat.le_of_eq rfl) (hb hby d19_14) (fun _ _ => ⟨rfl, e2, (by decide : 0 + 0 ≤ _), (by decide : 0 + 0 ≤ _)⟩)
  dsimp only [Pt.U, Pt.locs, Pt.cells, Pt.slots] at X3 l3 y3 z3 st3 hQ3
  subst l3 y3 z3
  obtain ⟨rfl, N3q, e3⟩ := hQ3
  have N3 := Fr.app N2 N3q
  refine Go.tr (T' := T3) (pc' := 17) (L' := #[.val (.ref a1), .val (.ref a2), .val (.int (0 : Int32))]) (S' := [(.int (1 : Int32))]) st3 ?_
  refine Go.st (T' := T3) (pc' := 20) (L' := #[.val (.ref a1), .val (.ref a2), .val (.int (0 : Int32))]) (S' := []) (fun t_ k_ => XS.ifNo X3.here hx rfl (hb hby d19_17) rfl ((if0 _ _).trans (feq (by decide : ¬ ((1 : Int32) = (0 : Int32)))).1) k_) ?_
  refine Go.st (T' := T3) (pc' := 21) (L' := #[.val (.ref a1), .val (.ref a2), .val (.int (0 : Int32))]) (S' := [(.ref a1)]) (fun t_ k_ => XS.aloadN X3.here hx rfl (hb hby d19_20) rfl rfl  k_) ?_
  obtain ⟨T4, X4, e4, st4⟩ := getF X3 hx hZ hown (host := "") (Or.inl (hw _ (List.mem_of_getElem? (i := 22) rfl))) Via.refl e3 Fv_a1 (g := (mkF m 21 #[.val (.ref a1), .val (.ref a2), .val (.int (0 : Int32))] [(.ref a1)])) rfl rfl (hb hby d19_21)
  refine Go.st (T' := T4) (pc' := 24) (L' := #[.val (.ref a1), .val (.ref a2), .val (.int (0 : Int32))]) (S' := [(.ref t1)]) st4 ?_
  refine Go.st (T' := T4) (pc' := 25) (L' := #[.val (.ref a1), .val (.ref a2), .val (.int (0 : Int32))]) (S' := [(.ref a2), (.ref t1)]) (fun t_ k_ => XS.aloadN X4.here hx rfl (hb hby d19_24) rfl rfl  k_) ?_
  obtain ⟨T5, X5, e5, st5⟩ := getF X4 hx hZ hown (host := "") (Or.inl (hw _ (List.mem_of_getElem? (i := 22) rfl))) Via.refl e4 Fv_a2 (g := (mkF m 25 #[.val (.ref a1), .val (.ref a2), .val (.int (0 : Int32))] [(.ref a2), (.ref t1)])) rfl rfl (hb hby d19_25)
  refine Go.st (T' := T5) (pc' := 28) (L' := #[.val (.ref a1), .val (.ref a2), .val (.int (0 : Int32))]) (S' := [(.ref t2), (.ref t1)]) st5 ?_
  obtain ⟨_, _, ⟨T6, L6, k6, n6⟩, -, X6, ⟨Lc6, hQ6, l6, y6, z6⟩, st6⟩ := Jvm.LawKit.callS X5 hx (y := (⟨"java/lang/StringLatin1", "indexOf", "([B[B)I"⟩ : MethodName)) hown (mvT hZ (hw _ (List.mem_of_getElem? (i := 110) rfl))) (mvT hZ (hw _ (List.mem_of_getElem? (i := 111) rfl))) (mvT hZ (hw _ (List.mem_of_getElem? (i := 7) rfl))) (mvT hZ (hw _ (List.mem_of_getElem? (i := 112) rfl))) (by decide) (backOf (W := 0) (rmix21_61 l Z a0 hw [] t1 t2 _ _ gC (x0) h0 n0 Z0 SC PC O0 V_t1 V_t2 hd) hZ (hw _ (List.mem_of_getElem? (i := 112) rfl)) (hw _ (List.mem_of_getElem? (i := 7) rfl)) (by decide) (by decide)) (g := (mkF m 28 #[.val (.ref a1), .val (.ref a2), .val (.int (0 : Int32))] [(.ref t2), (.ref t1)])) rfl (by rw [hml]; rfl) (argsL := [(.ref t1), (.ref t2)]) (rest := []) (lenOf pd_13 rfl) rfl (by show 2 * 0 + _ ≤ _; exact Nat.le_of_eq rfl) (hb hby d19_28) (fun _ _ => ⟨rfl, e5, (by decide : 0 + 0 ≤ _), (by decide : 0 + 0 ≤ _)⟩)
  dsimp only [Pt.U, Pt.locs, Pt.cells, Pt.slots] at X6 l6 y6 z6 st6 hQ6
  subst l6 y6 z6
  obtain ⟨rfl, N6q, e6⟩ := hQ6
  have N6 := Fr.app N3 N6q
  refine Go.st (T' := T6) (pc' := 31) (L' := #[.val (.ref a1), .val (.ref a2), .val (.int (0 : Int32))]) (S' := [(.int (-1 : Int32))]) st6 ?_
  refine Go.st (T' := T6) (pc' := 45) (L' := #[.val (.ref a1), .val (.ref a2), .val (.int (0 : Int32))]) (S' := [(.int (-1 : Int32))]) (fun t_ k_ => XS.goto X6.here hx rfl (pc0 := 31) (pc' := 45) rfl (hb hby d19_31) (by decide) (by decide) k_) ?_
  exact Go.retO X6 hx hlk hret rfl (by simp [FieldType.isReference, Value.isRef]) (hb hby d19_45) (by decide) (by decide) (by rw [e6]; exact ⟨rfl, N6, rfl⟩)
theorem d17_0 : decode jdk_42_method_97_code 0 = .ok (.aload_n 0, 1) := by decide +kernel
theorem d17_1 : decode jdk_42_method_97_code 1 = .ok (.aload_n 1, 1) := by decide +kernel
theorem d17_2 : decode jdk_42_method_97_code 2 = .ok (.invokeinterface 710 1, 5) := by decide +kernel
theorem d17_7 : decode jdk_42_method_97_code 7 = .ok (.invokevirtual 711, 3) := by decide +kernel
theorem d17_10 : decode jdk_42_method_97_code 10 = .ok (.ifCond .lt 7, 3) := by decide +kernel
theorem d17_17 : decode jdk_42_method_97_code 17 = .ok (.iconst 0, 1) := by decide +kernel
theorem d17_18 : decode jdk_42_method_97_code 18 = .ok (.ireturn, 1) := by decide +kernel
theorem pd_14 : parseMethodDescriptor "(Ljava/lang/String;)I" = some ⟨[(.object "java/lang/String")], some .int⟩ := by decide +kernel
def Qcnt1_61 (Z : State) (a1 : Addr) (a2 : Addr) (t1 : Addr) (t2 : Addr) (k1 : ClassId) (k2 : ClassId) (gC : Int32) (x0 : Int32) (h0 : Heap) (n0 : Nat) (v : Option Value) (h : Heap) (L : List Loc) : Prop := v = some (.int 0) ∧ Fr n0 L ∧ h = h0
def roomcnt1_61 : Room := { frames := 3, cells := 0, slots := 0, locals := 49 }
set_option maxRecDepth 65536 in
set_option maxHeartbeats 40000000 in
theorem rmcnt1_61 (l : Launch) (Z : State) (a0 : Array Value) (hw : ∀ d ∈ tables_1, d.before a0 Z = true) (ws : List Jvm.Cond) (a1 : Addr) (a2 : Addr) (t1 : Addr) (t2 : Addr) (k1 : ClassId) (k2 : ClassId) (gC : Int32) (x0 : Int32) (h0 : Heap) (n0 : Nat) (Z0 : n0 ≤ h0.size) (SC : Sta Z Z.heap "java/lang/String" "COMPACT_STRINGS" "Z" (.int gC)) (PC : ¬ (gC = (0 : Int32))) (O0 : Old Z n0 h0) (E_a1 : Exa Z h0 a1 "java/lang/String") (Fc_a1 : Fld Z h0 a1 "java/lang/String" "coder" "B" (.int (0 : Int32))) (Fv_a1 : Fld Z h0 a1 "java/lang/String" "value" "[B" (.ref t1)) (V_t1 : Arv Z h0 t1 k1 .byte (1 : Int32) [(.int x0)] (.int (0 : Int32))) (E_a2 : Exa Z h0 a2 "java/lang/String") (Fc_a2 : Fld Z h0 a2 "java/lang/String" "coder" "B" (.int (0 : Int32))) (Fv_a2 : Fld Z h0 a2 "java/lang/String" "value" "[B" (.ref t2)) (V_t2 : Arv Z h0 t2 k2 .byte (1 : Int32) [(.int (61 : Int32))] (.int (0 : Int32))) (hd : ¬ x0 = (61 : Int32)) :
    MetFree l (⟨"java/lang/String", "contains", "(Ljava/lang/CharSequence;)Z"⟩ : MethodName) (head1 (Jvm.Cond.code (⟨"java/lang/String", "contains", "(Ljava/lang/CharSequence;)Z"⟩ : MethodName) jdk_42_method_97_code 2 (some .boolean) :: ws) roomcnt1_61) (fun aa_ U_ => aa_ = #[(.ref a1), (.ref a2)] ∧ Z.Warmed39 U_.vm ∧ U_.heap = h0) (fun _ _ _ _ _ => True) (fun _ U_ o_ W_ => ∃ v_ L_, o_ = .returned v_ ∧ (Qcnt1_61 Z a1 a2 t1 t2 k1 k2 gC x0 h0 n0) v_ W_.heap L_ ∧ FrameEnd U_ o_ W_ L_ roomcnt1_61.cells roomcnt1_61.slots) := by
  refine own_met (Q := (Qcnt1_61 Z a1 a2 t1 t2 k1 k2 gC x0 h0 n0)) (L0 := #[.val (.ref a1), .val (.ref a2)]) (plainFor_of_name pn_0) (fun m => by first | (simp [entryFrame, mkF, argsToLocals, Value.category]; done) | rfl) ?_
  intro p e s m below meth c T0 X0 hx hby hml hown hnm hret hlk hZ e0
  have N0 := Fr.nil n0
  refine Go.st (T' := T0) (pc' := 1) (L' := #[.val (.ref a1), .val (.ref a2)]) (S' := [(.ref a1)]) (fun t_ k_ => XS.aloadN X0.here hx rfl (hb hby d17_0) rfl rfl  k_) ?_
  refine Go.st (T' := T0) (pc' := 2) (L' := #[.val (.ref a1), .val (.ref a2)]) (S' := [(.ref a2), (.ref a1)]) (fun t_ k_ => XS.aloadN X0.here hx rfl (hb hby d17_1) rfl rfl  k_) ?_
  obtain ⟨cq1, kq1, q1a, q1b, q1c⟩ := isOf hZ e0 E_a2
  obtain ⟨_, _, ⟨T1, L1, k1, n1⟩, -, X1, ⟨Lc1, hQ1, l1, y1, z1⟩, st1⟩ := X0.interfaceBack hx (xi := (⟨"java/lang/CharSequence", "toString", "()Ljava/lang/String;"⟩ : MethodName)) (y := (⟨"java/lang/String", "toString", "()Ljava/lang/String;"⟩ : MethodName)) hown (mvT hZ (hw _ (List.mem_of_getElem? (i := 91) rfl))) (mvT hZ (hw _ (List.mem_of_getElem? (i := 92) rfl))) (mvT hZ (hw _ (List.mem_of_getElem? (i := 93) rfl))) (mvT hZ (hw _ (List.mem_of_getElem? (i := 94) rfl))) (mvT hZ (hw _ (List.mem_of_getElem? (i := 95) rfl))) (mvT hZ (hw _ (List.mem_of_getElem? (i := 96) rfl))) (mvT hZ (hw _ (List.mem_of_getElem? (i := 97) rfl))) (mvT hZ (hw _ (List.mem_of_getElem? (i := 98) rfl))) (by decide) (backOf (W := 1) (rmtostr l Z a0 hw [] a2 h0 n0 Z0) hZ (hw _ (List.mem_of_getElem? (i := 99) rfl)) (hw _ (List.mem_of_getElem? (i := 2) rfl)) (by decide) (by decide)) q1a q1b q1c (g := (mkF m 2 #[.val (.ref a1), .val (.ref a2)] [(.ref a2), (.ref a1)])) rfl (by rw [hml]; rfl) (Steps.refl _) (argsL := []) (rest := [(.ref a1)]) (lenOf pd_12 rfl) rfl (by show 2 * 0 + _ ≤ _; exact Nat.le_of_eq rfl) (hb hby d17_2) (fun _ _ => ⟨rfl, e0, (by decide : 0 + 0 ≤ _), (by decide : 0 + 0 ≤ _)⟩)
  dsimp only [Pt.U, Pt.locs, Pt.cells, Pt.slots] at X1 l1 y1 z1 st1 hQ1
  subst l1 y1 z1
  obtain ⟨rfl, N1q, e1⟩ := hQ1
  have N1 := Fr.app N0 N1q
  refine Go.tr (T' := T1) (pc' := 7) (L' := #[.val (.ref a1), .val (.ref a2)]) (S' := [(.ref a2), (.ref a1)]) st1 ?_
  obtain ⟨cq2, kq2, q2a, q2b, q2c⟩ := isOf hZ e1 E_a1
  obtain ⟨_, _, ⟨T2, L2, k2, n2⟩, -, X2, ⟨Lc2, hQ2, l2, y2, z2⟩, st2⟩ := X1.virtualBack hx (y := (⟨"java/lang/String", "indexOf", "(Ljava/lang/String;)I"⟩ : MethodName)) (z := (⟨"java/lang/String", "indexOf", "(Ljava/lang/String;)I"⟩ : MethodName)) hown (mvT hZ (hw _ (List.mem_of_getElem? (i := 100) rfl))) (mvT hZ (hw _ (List.mem_of_getElem? (i := 101) rfl))) (notFace_of_selects (args := #[]) (mvT hZ (hw _ (List.mem_of_getElem? (i := 103) rfl)))) (mvT hZ (hw _ (List.mem_of_getElem? (i := 103) rfl))) (mvT hZ (hw _ (List.mem_of_getElem? (i := 102) rfl))) (by decide) (backOf (W := 0) (rmixs1_61 l Z a0 hw [] a1 a2 t1 t2 _ _ gC (x0) h0 n0 Z0 SC PC O0 E_a1 Fc_a1 Fv_a1 V_t1 E_a2 Fc_a2 Fv_a2 V_t2 hd) hZ (hw _ (List.mem_of_getElem? (i := 104) rfl)) (hw _ (List.mem_of_getElem? (i := 2) rfl)) (by decide) (by decide)) q2a q2c (g := (mkF m 7 #[.val (.ref a1), .val (.ref a2)] [(.ref a2), (.ref a1)])) rfl (by rw [hml]; rfl) (Steps.refl _) (argsL := [(.ref a2)]) (rest := []) (lenOf pd_14 rfl) rfl (by show 2 * 0 + _ ≤ _; exact Nat.le_of_eq rfl) (hb hby d17_7) (fun _ _ => ⟨rfl, e1, (by decide : 0 + 0 ≤ _), (by decide : 0 + 0 ≤ _)⟩)
  dsimp only [Pt.U, Pt.locs, Pt.cells, Pt.slots] at X2 l2 y2 z2 st2 hQ2
  subst l2 y2 z2
  obtain ⟨rfl, N2q, e2⟩ := hQ2
  have N2 := Fr.app N1 N2q
  refine Go.tr (T' := T2) (pc' := 10) (L' := #[.val (.ref a1), .val (.ref a2)]) (S' := [(.int (-1 : Int32))]) st2 ?_
  refine Go.st (T' := T2) (pc' := 17) (L' := #[.val (.ref a1), .val (.ref a2)]) (S' := []) (fun t_ k_ => XS.ifYes X2.here hx rfl (pc0 := 10) (pc' := 17) rfl (hb hby d17_10) rfl ((if0 _ _).trans (tlt (by decide : ((-1 : Int32) < (0 : Int32)))).1) (by decide) (by decide) k_) ?_
  refine Go.st (T' := T2) (pc' := 18) (L' := #[.val (.ref a1), .val (.ref a2)]) (S' := [(.int (0 : Int32))]) (fun t_ k_ => XS.iconst X2.here hx rfl (hb hby d17_17) k_) ?_
  exact Go.retN X2 hx hlk hret (by simp) (hb hby d17_18) (by decide) (by decide) (by rw [e2]; exact ⟨rfl, N2, rfl⟩)
theorem d24_0 : decode jdk_43_method_13_code 0 = .ok (.aload_n 0, 1) := by decide +kernel
theorem d24_1 : decode jdk_43_method_13_code 1 = .ok (.arraylength, 1) := by decide +kernel
theorem d24_2 : decode jdk_43_method_13_code 2 = .ok (.aload_n 1, 1) := by decide +kernel
theorem d24_3 : decode jdk_43_method_13_code 3 = .ok (.arraylength, 1) := by decide +kernel
theorem d24_4 : decode jdk_43_method_13_code 4 = .ok (.if_icmp .ne 30, 3) := by decide +kernel
theorem d24_34 : decode jdk_43_method_13_code 34 = .ok (.iconst 0, 1) := by decide +kernel
theorem d24_35 : decode jdk_43_method_13_code 35 = .ok (.ireturn, 1) := by decide +kernel
theorem pd_15 : parseMethodDescriptor "(Ljava/lang/CharSequence;)Z" = some ⟨[(.object "java/lang/CharSequence")], some .boolean⟩ := by decide +kernel
def Qeq11_104_101_108_112 (Z : State) (t1 : Addr) (t2 : Addr) (k1 : ClassId) (k2 : ClassId) (gC : Int32) (x0 : Int32) (h0 : Heap) (n0 : Nat) (v : Option Value) (h : Heap) (L : List Loc) : Prop := v = some (.int 0) ∧ Fr n0 L ∧ h = h0
def roomeq11_104_101_108_112 : Room := { frames := 0, cells := 0, slots := 0, locals := 0 }
set_option maxRecDepth 65536 in
set_option maxHeartbeats 40000000 in
theorem rmeq11_104_101_108_112 (l : Launch) (Z : State) (a0 : Array Value) (hw : ∀ d ∈ tables_1, d.before a0 Z = true) (ws : List Jvm.Cond) (t1 : Addr) (t2 : Addr) (k1 : ClassId) (k2 : ClassId) (gC : Int32) (x0 : Int32) (h0 : Heap) (n0 : Nat) (Z0 : n0 ≤ h0.size) (SC : Sta Z Z.heap "java/lang/String" "COMPACT_STRINGS" "Z" (.int gC)) (PC : ¬ (gC = (0 : Int32))) (O0 : Old Z n0 h0) (V_t1 : Arv Z h0 t1 k1 .byte (1 : Int32) [(.int x0)] (.int (0 : Int32))) (V_t2 : Arv Z h0 t2 k2 .byte (4 : Int32) [(.int (104 : Int32)), (.int (101 : Int32)), (.int (108 : Int32)), (.int (112 : Int32))] (.int (0 : Int32))) (hd : True) :
    MetFree l (⟨"java/lang/StringLatin1", "equals", "([B[B)Z"⟩ : MethodName) (head1 (Jvm.Cond.code (⟨"java/lang/StringLatin1", "equals", "([B[B)Z"⟩ : MethodName) jdk_43_method_13_code 3 (some .boolean) :: ws) roomeq11_104_101_108_112) (fun aa_ U_ => aa_ = #[(.ref t1), (.ref t2)] ∧ Z.Warmed39 U_.vm ∧ U_.heap = h0) (fun _ _ _ _ _ => True) (fun _ U_ o_ W_ => ∃ v_ L_, o_ = .returned v_ ∧ (Qeq11_104_101_108_112 Z t1 t2 k1 k2 gC x0 h0 n0) v_ W_.heap L_ ∧ FrameEnd U_ o_ W_ L_ roomeq11_104_101_108_112.cells roomeq11_104_101_108_112.slots) := by
  refine own_met (Q := (Qeq11_104_101_108_112 Z t1 t2 k1 k2 gC x0 h0 n0)) (L0 := #[.val (.ref t1), .val (.ref t2), .unset]) (plainFor_of_name pn_1) (fun m => by first | (simp [entryFrame, mkF, argsToLocals, Value.category]; done) | rfl) ?_
  intro p e s m below meth c T0 X0 hx hby hml hown hnm hret hlk hZ e0
  have N0 := Fr.nil n0
  refine Go.st (T' := T0) (pc' := 1) (L' := #[.val (.ref t1), .val (.ref t2), .unset]) (S' := [(.ref t1)]) (fun t_ k_ => XS.aloadN X0.here hx rfl (hb hby d24_0) rfl rfl  k_) ?_
  obtain ⟨cl1, Ar1, -, q1a, q1b, -, -⟩ := id V_t1
  refine Go.st (T' := T0) (pc' := 2) (L' := #[.val (.ref t1), .val (.ref t2), .unset]) (S' := [(.int (1 : Int32))]) (fun t_ k_ => own_len X0 hx hZ e0 Ar1 q1a q1b (g := (mkF m 1 #[.val (.ref t1), .val (.ref t2), .unset] [(.ref t1)])) rfl rfl (hb hby d24_1) t_ k_) ?_
  refine Go.st (T' := T0) (pc' := 3) (L' := #[.val (.ref t1), .val (.ref t2), .unset]) (S' := [(.ref t2), (.int (1 : Int32))]) (fun t_ k_ => XS.aloadN X0.here hx rfl (hb hby d24_2) rfl rfl  k_) ?_
  obtain ⟨cl2, Ar2, -, q2a, q2b, -, -⟩ := id V_t2
  refine Go.st (T' := T0) (pc' := 4) (L' := #[.val (.ref t1), .val (.ref t2), .unset]) (S' := [(.int (4 : Int32)), (.int (1 : Int32))]) (fun t_ k_ => own_len X0 hx hZ e0 Ar2 q2a q2b (g := (mkF m 3 #[.val (.ref t1), .val (.ref t2), .unset] [(.ref t2), (.int (1 : Int32))])) rfl rfl (hb hby d24_3) t_ k_) ?_
  refine Go.st (T' := T0) (pc' := 34) (L' := #[.val (.ref t1), .val (.ref t2), .unset]) (S' := []) (fun t_ k_ => XS.icmpYes X0.here hx rfl (pc0 := 4) (pc' := 34) rfl (hb hby d24_4) rfl (feq (by decide : ¬ ((1 : Int32) = (4 : Int32)))).2 (by decide) (by decide) k_) ?_
  refine Go.st (T' := T0) (pc' := 35) (L' := #[.val (.ref t1), .val (.ref t2), .unset]) (S' := [(.int (0 : Int32))]) (fun t_ k_ => XS.iconst X0.here hx rfl (hb hby d24_34) k_) ?_
  exact Go.retN X0 hx hlk hret (by simp) (hb hby d24_35) (by decide) (by decide) (by rw [e0]; exact ⟨rfl, N0, rfl⟩)
theorem d23_0 : decode jdk_42_method_66_code 0 = .ok (.aload_n 0, 1) := by decide +kernel
theorem d23_1 : decode jdk_42_method_66_code 1 = .ok (.aload_n 1, 1) := by decide +kernel
theorem d23_2 : decode jdk_42_method_66_code 2 = .ok (.if_acmp .ne 5, 3) := by decide +kernel
theorem d23_7 : decode jdk_42_method_66_code 7 = .ok (.aload_n 1, 1) := by decide +kernel
theorem d23_8 : decode jdk_42_method_66_code 8 = .ok (.instanceof 10, 3) := by decide +kernel
theorem d23_11 : decode jdk_42_method_66_code 11 = .ok (.ifCond .eq 43, 3) := by decide +kernel
theorem d23_14 : decode jdk_42_method_66_code 14 = .ok (.aload_n 1, 1) := by decide +kernel
theorem d23_15 : decode jdk_42_method_66_code 15 = .ok (.checkcast 10, 3) := by decide +kernel
theorem d23_18 : decode jdk_42_method_66_code 18 = .ok (.astore_n 2, 1) := by decide +kernel
theorem d23_19 : decode jdk_42_method_66_code 19 = .ok (.getstatic 38, 3) := by decide +kernel
theorem d23_22 : decode jdk_42_method_66_code 22 = .ok (.ifCond .eq 14, 3) := by decide +kernel
theorem d23_25 : decode jdk_42_method_66_code 25 = .ok (.aload_n 0, 1) := by decide +kernel
theorem d23_26 : decode jdk_42_method_66_code 26 = .ok (.getfield 15, 3) := by decide +kernel
theorem d23_29 : decode jdk_42_method_66_code 29 = .ok (.aload_n 2, 1) := by decide +kernel
theorem d23_30 : decode jdk_42_method_66_code 30 = .ok (.getfield 15, 3) := by decide +kernel
theorem d23_33 : decode jdk_42_method_66_code 33 = .ok (.if_icmp .ne 21, 3) := by decide +kernel
theorem d23_36 : decode jdk_42_method_66_code 36 = .ok (.aload_n 0, 1) := by decide +kernel
theorem d23_37 : decode jdk_42_method_66_code 37 = .ok (.getfield 9, 3) := by decide +kernel
theorem d23_40 : decode jdk_42_method_66_code 40 = .ok (.aload_n 2, 1) := by decide +kernel
theorem d23_41 : decode jdk_42_method_66_code 41 = .ok (.getfield 9, 3) := by decide +kernel
theorem d23_44 : decode jdk_42_method_66_code 44 = .ok (.invokestatic 541, 3) := by decide +kernel
theorem d23_47 : decode jdk_42_method_66_code 47 = .ok (.ifCond .eq 7, 3) := by decide +kernel
theorem d23_54 : decode jdk_42_method_66_code 54 = .ok (.iconst 0, 1) := by decide +kernel
theorem d23_55 : decode jdk_42_method_66_code 55 = .ok (.ireturn, 1) := by decide +kernel
theorem pd_16 : parseMethodDescriptor "([B[B)Z" = some ⟨[(.array .byte), (.array .byte)], some .boolean⟩ := by decide +kernel
def Qeqs1_104_101_108_112 (Z : State) (a1 : Addr) (a2 : Addr) (t1 : Addr) (t2 : Addr) (k1 : ClassId) (k2 : ClassId) (gC : Int32) (x0 : Int32) (h0 : Heap) (n0 : Nat) (v : Option Value) (h : Heap) (L : List Loc) : Prop := v = some (.int 0) ∧ Fr n0 L ∧ h = h0
def roomeqs1_104_101_108_112 : Room := { frames := 1, cells := 0, slots := 0, locals := 14 }
set_option maxRecDepth 65536 in
set_option maxHeartbeats 40000000 in
theorem rmeqs1_104_101_108_112 (l : Launch) (Z : State) (a0 : Array Value) (hw : ∀ d ∈ tables_1, d.before a0 Z = true) (ws : List Jvm.Cond) (a1 : Addr) (a2 : Addr) (t1 : Addr) (t2 : Addr) (k1 : ClassId) (k2 : ClassId) (gC : Int32) (x0 : Int32) (h0 : Heap) (n0 : Nat) (Z0 : n0 ≤ h0.size) (SC : Sta Z Z.heap "java/lang/String" "COMPACT_STRINGS" "Z" (.int gC)) (PC : ¬ (gC = (0 : Int32))) (O0 : Old Z n0 h0) (E_a1 : Exa Z h0 a1 "java/lang/String") (Fc_a1 : Fld Z h0 a1 "java/lang/String" "coder" "B" (.int (0 : Int32))) (Fv_a1 : Fld Z h0 a1 "java/lang/String" "value" "[B" (.ref t1)) (V_t1 : Arv Z h0 t1 k1 .byte (1 : Int32) [(.int x0)] (.int (0 : Int32))) (E_a2 : Exa Z h0 a2 "java/lang/String") (Fc_a2 : Fld Z h0 a2 "java/lang/String" "coder" "B" (.int (0 : Int32))) (Fv_a2 : Fld Z h0 a2 "java/lang/String" "value" "[B" (.ref t2)) (V_t2 : Arv Z h0 t2 k2 .byte (4 : Int32) [(.int (104 : Int32)), (.int (101 : Int32)), (.int (108 : Int32)), (.int (112 : Int32))] (.int (0 : Int32))) (hd : True) :
    MetFree l (⟨"java/lang/String", "equals", "(Ljava/lang/Object;)Z"⟩ : MethodName) (head1 (Jvm.Cond.code (⟨"java/lang/String", "equals", "(Ljava/lang/Object;)Z"⟩ : MethodName) jdk_42_method_66_code 3 (some .boolean) :: ws) roomeqs1_104_101_108_112) (fun aa_ U_ => aa_ = #[(.ref a1), (.ref a2)] ∧ Z.Warmed39 U_.vm ∧ U_.heap = h0) (fun _ _ _ _ _ => True) (fun _ U_ o_ W_ => ∃ v_ L_, o_ = .returned v_ ∧ (Qeqs1_104_101_108_112 Z a1 a2 t1 t2 k1 k2 gC x0 h0 n0) v_ W_.heap L_ ∧ FrameEnd U_ o_ W_ L_ roomeqs1_104_101_108_112.cells roomeqs1_104_101_108_112.slots) := by
  refine own_met (Q := (Qeqs1_104_101_108_112 Z a1 a2 t1 t2 k1 k2 gC x0 h0 n0)) (L0 := #[.val (.ref a1), .val (.ref a2), .unset]) (plainFor_of_name pn_0) (fun m => by first | (simp [entryFrame, mkF, argsToLocals, Value.category]; done) | rfl) ?_
  intro p e s m below meth c T0 X0 hx hby hml hown hnm hret hlk hZ e0
  have N0 := Fr.nil n0
  refine Go.st (T' := T0) (pc' := 1) (L' := #[.val (.ref a1), .val (.ref a2), .unset]) (S' := [(.ref a1)]) (fun t_ k_ => XS.aloadN X0.here hx rfl (hb hby d23_0) rfl rfl  k_) ?_
  refine Go.st (T' := T0) (pc' := 2) (L' := #[.val (.ref a1), .val (.ref a2), .unset]) (S' := [(.ref a2), (.ref a1)]) (fun t_ k_ => XS.aloadN X0.here hx rfl (hb hby d23_1) rfl rfl  k_) ?_
  refine Go.st (T' := T0) (pc' := 7) (L' := #[.val (.ref a1), .val (.ref a2), .unset]) (S' := []) (fun t_ k_ => Jvm.RoadKit.acmp (g := (mkF m 2 #[.val (.ref a1), .val (.ref a2), .unset] [(.ref a2), (.ref a1)])) X0 hx rfl rfl rfl (pc0 := 2) (pc' := 7) (same := false) rfl (hb hby d23_2) rfl (decide_eq_false (fun q => own_neArv V_t1 V_t2 (by decide) (Value.ref.inj (own_oneF Fv_a1 (Value.ref.inj q ▸ Fv_a2))))) (by decide) (by decide) k_) ?_
  refine Go.st (T' := T0) (pc' := 8) (L' := #[.val (.ref a1), .val (.ref a2), .unset]) (S' := [(.ref a2)]) (fun t_ k_ => XS.aloadN X0.here hx rfl (hb hby d23_7) rfl rfl  k_) ?_
  obtain ⟨T1, X1, e1, st1⟩ := instY X0 hx hZ hown (hw _ (List.mem_of_getElem? (i := 9) rfl)) e0 (Ins.self E_a2) (g := (mkF m 8 #[.val (.ref a1), .val (.ref a2), .unset] [(.ref a2)])) rfl rfl (hb hby d23_8)
  refine Go.st (T' := T1) (pc' := 11) (L' := #[.val (.ref a1), .val (.ref a2), .unset]) (S' := [(.int (1 : Int32))]) st1 ?_
  refine Go.st (T' := T1) (pc' := 14) (L' := #[.val (.ref a1), .val (.ref a2), .unset]) (S' := []) (fun t_ k_ => XS.ifNo X1.here hx rfl (hb hby d23_11) rfl ((if0 _ _).trans (feq (by decide : ¬ ((1 : Int32) = (0 : Int32)))).1) k_) ?_
  refine Go.st (T' := T1) (pc' := 15) (L' := #[.val (.ref a1), .val (.ref a2), .unset]) (S' := [(.ref a2)]) (fun t_ k_ => XS.aloadN X1.here hx rfl (hb hby d23_14) rfl rfl  k_) ?_
  obtain ⟨T2, X2, e2, st2⟩ := castY X1 hx hZ hown (hw _ (List.mem_of_getElem? (i := 9) rfl)) e1 (Ins.self E_a2) (g := (mkF m 15 #[.val (.ref a1), .val (.ref a2), .unset] [(.ref a2)])) rfl rfl (hb hby d23_15)
  refine Go.st (T' := T2) (pc' := 18) (L' := #[.val (.ref a1), .val (.ref a2), .unset]) (S' := [(.ref a2)]) st2 ?_
  refine Go.st (T' := T2) (pc' := 19) (L' := #[.val (.ref a1), .val (.ref a2), .val (.ref a2)]) (S' := []) (fun t_ k_ => XS.astoreN X2.here hx rfl (hb hby d23_18) rfl rfl (l' := #[.val (.ref a1), .val (.ref a2), .val (.ref a2)]) rfl k_) ?_
  obtain ⟨T3, X3, e3, st3⟩ := getS2 X2 hx hZ hown (host := "") (Or.inl (hw _ (List.mem_of_getElem? (i := 4) rfl))) Via.refl e2 (SC.ext O0.2) (g := (mkF m 19 #[.val (.ref a1), .val (.ref a2), .val (.ref a2)] [])) rfl (hb hby d23_19)
  refine Go.st (T' := T3) (pc' := 22) (L' := #[.val (.ref a1), .val (.ref a2), .val (.ref a2)]) (S' := [(.int gC)]) st3 ?_
  refine Go.st (T' := T3) (pc' := 25) (L' := #[.val (.ref a1), .val (.ref a2), .val (.ref a2)]) (S' := []) (fun t_ k_ => XS.ifNo X3.here hx rfl (hb hby d23_22) rfl ((if0 _ _).trans (feq (PC : ¬ (gC = (0 : Int32)))).1) k_) ?_
  refine Go.st (T' := T3) (pc' := 26) (L' := #[.val (.ref a1), .val (.ref a2), .val (.ref a2)]) (S' := [(.ref a1)]) (fun t_ k_ => XS.aloadN X3.here hx rfl (hb hby d23_25) rfl rfl  k_) ?_
  obtain ⟨T4, X4, e4, st4⟩ := getF X3 hx hZ hown (host := "") (Or.inl (hw _ (List.mem_of_getElem? (i := 24) rfl))) Via.refl e3 Fc_a1 (g := (mkF m 26 #[.val (.ref a1), .val (.ref a2), .val (.ref a2)] [(.ref a1)])) rfl rfl (hb hby d23_26)
  refine Go.st (T' := T4) (pc' := 29) (L' := #[.val (.ref a1), .val (.ref a2), .val (.ref a2)]) (S' := [(.int (0 : Int32))]) st4 ?_
  refine Go.st (T' := T4) (pc' := 30) (L' := #[.val (.ref a1), .val (.ref a2), .val (.ref a2)]) (S' := [(.ref a2), (.int (0 : Int32))]) (fun t_ k_ => XS.aloadN X4.here hx rfl (hb hby d23_29) rfl rfl  k_) ?_
  obtain ⟨T5, X5, e5, st5⟩ := getF X4 hx hZ hown (host := "") (Or.inl (hw _ (List.mem_of_getElem? (i := 24) rfl))) Via.refl e4 Fc_a2 (g := (mkF m 30 #[.val (.ref a1), .val (.ref a2), .val (.ref a2)] [(.ref a2), (.int (0 : Int32))])) rfl rfl (hb hby d23_30)
  refine Go.st (T' := T5) (pc' := 33) (L' := #[.val (.ref a1), .val (.ref a2), .val (.ref a2)]) (S' := [(.int (0 : Int32)), (.int (0 : Int32))]) st5 ?_
  refine Go.st (T' := T5) (pc' := 36) (L' := #[.val (.ref a1), .val (.ref a2), .val (.ref a2)]) (S' := []) (fun t_ k_ => XS.icmpNo X5.here hx rfl (hb hby d23_33) rfl (teq (by decide : ((0 : Int32) = (0 : Int32)))).2 k_) ?_
  refine Go.st (T' := T5) (pc' := 37) (L' := #[.val (.ref a1), .val (.ref a2), .val (.ref a2)]) (S' := [(.ref a1)]) (fun t_ k_ => XS.aloadN X5.here hx rfl (hb hby d23_36) rfl rfl  k_) ?_
  obtain ⟨T6, X6, e6, st6⟩ := getF X5 hx hZ hown (host := "") (Or.inl (hw _ (List.mem_of_getElem? (i := 22) rfl))) Via.refl e5 Fv_a1 (g := (mkF m 37 #[.val (.ref a1), .val (.ref a2), .val (.ref a2)] [(.ref a1)])) rfl rfl (hb hby d23_37)
  refine Go.st (T' := T6) (pc' := 40) (L' := #[.val (.ref a1), .val (.ref a2), .val (.ref a2)]) (S' := [(.ref t1)]) st6 ?_
  refine Go.st (T' := T6) (pc' := 41) (L' := #[.val (.ref a1), .val (.ref a2), .val (.ref a2)]) (S' := [(.ref a2), (.ref t1)]) (fun t_ k_ => XS.aloadN X6.here hx rfl (hb hby d23_40) rfl rfl  k_) ?_
  obtain ⟨T7, X7, e7, st7⟩ := getF X6 hx hZ hown (host := "") (Or.inl (hw _ (List.mem_of_getElem? (i := 22) rfl))) Via.refl e6 Fv_a2 (g := (mkF m 41 #[.val (.ref a1), .val (.ref a2), .val (.ref a2)] [(.ref a2), (.ref t1)])) rfl rfl (hb hby d23_41)
  refine Go.st (T' := T7) (pc' := 44) (L' := #[.val (.ref a1), .val (.ref a2), .val (.ref a2)]) (S' := [(.ref t2), (.ref t1)]) st7 ?_
  obtain ⟨_, _, ⟨T8, L8, k8, n8⟩, -, X8, ⟨Lc8, hQ8, l8, y8, z8⟩, st8⟩ := Jvm.LawKit.callS X7 hx (y := (⟨"java/lang/StringLatin1", "equals", "([B[B)Z"⟩ : MethodName)) hown (mvT hZ (hw _ (List.mem_of_getElem? (i := 122) rfl))) (mvT hZ (hw _ (List.mem_of_getElem? (i := 123) rfl))) (mvT hZ (hw _ (List.mem_of_getElem? (i := 7) rfl))) (mvT hZ (hw _ (List.mem_of_getElem? (i := 124) rfl))) (by decide) (backOf (W := 0) (rmeq11_104_101_108_112 l Z a0 hw [] t1 t2 _ _ gC (x0) h0 n0 Z0 SC PC O0 V_t1 V_t2 hd) hZ (hw _ (List.mem_of_getElem? (i := 124) rfl)) (hw _ (List.mem_of_getElem? (i := 7) rfl)) (by decide) (by decide)) (g := (mkF m 44 #[.val (.ref a1), .val (.ref a2), .val (.ref a2)] [(.ref t2), (.ref t1)])) rfl (by rw [hml]; rfl) (argsL := [(.ref t1), (.ref t2)]) (rest := []) (lenOf pd_16 rfl) rfl (by show 2 * 0 + _ ≤ _; exact Nat.le_of_eq rfl) (hb hby d23_44) (fun _ _ => ⟨rfl, e7, (by decide : 0 + 0 ≤ _), (by decide : 0 + 0 ≤ _)⟩)
  dsimp only [Pt.U, Pt.locs, Pt.cells, Pt.slots] at X8 l8 y8 z8 st8 hQ8
  subst l8 y8 z8
  obtain ⟨rfl, N8q, e8⟩ := hQ8
  have N8 := Fr.app N0 N8q
  refine Go.st (T' := T8) (pc' := 47) (L' := #[.val (.ref a1), .val (.ref a2), .val (.ref a2)]) (S' := [(.int (0 : Int32))]) st8 ?_
  refine Go.st (T' := T8) (pc' := 54) (L' := #[.val (.ref a1), .val (.ref a2), .val (.ref a2)]) (S' := []) (fun t_ k_ => XS.ifYes X8.here hx rfl (pc0 := 47) (pc' := 54) rfl (hb hby d23_47) rfl ((if0 _ _).trans (teq (by decide : ((0 : Int32) = (0 : Int32)))).1) (by decide) (by decide) k_) ?_
  refine Go.st (T' := T8) (pc' := 55) (L' := #[.val (.ref a1), .val (.ref a2), .val (.ref a2)]) (S' := [(.int (0 : Int32))]) (fun t_ k_ => XS.iconst X8.here hx rfl (hb hby d23_54) k_) ?_
  exact Go.retN X8 hx hlk hret (by simp) (hb hby d23_55) (by decide) (by decide) (by rw [e8]; exact ⟨rfl, N8, rfl⟩)
theorem d8_0 : decode prog_71_method_1_code 0 = .ok (.aload_n 0, 1) := by decide +kernel
theorem d8_1 : decode prog_71_method_1_code 1 = .ok (.invokespecial 1, 3) := by decide +kernel
theorem d8_4 : decode prog_71_method_1_code 4 = .ok (.aload_n 1, 1) := by decide +kernel
theorem d8_5 : decode prog_71_method_1_code 5 = .ok (.ldc 7, 2) := by decide +kernel
theorem d8_7 : decode prog_71_method_1_code 7 = .ok (.invokestatic 9, 3) := by decide +kernel
theorem d8_10 : decode prog_71_method_1_code 10 = .ok (.pop, 1) := by decide +kernel
theorem d8_11 : decode prog_71_method_1_code 11 = .ok (.aload 5, 2) := by decide +kernel
theorem d8_13 : decode prog_71_method_1_code 13 = .ok (.ldc 15, 2) := by decide +kernel
theorem d8_15 : decode prog_71_method_1_code 15 = .ok (.invokestatic 9, 3) := by decide +kernel
theorem d8_18 : decode prog_71_method_1_code 18 = .ok (.pop, 1) := by decide +kernel
theorem d8_19 : decode prog_71_method_1_code 19 = .ok (.aload_n 1, 1) := by decide +kernel
theorem d8_20 : decode prog_71_method_1_code 20 = .ok (.invokevirtual 17, 3) := by decide +kernel
theorem d8_23 : decode prog_71_method_1_code 23 = .ok (.ifCond .ne 30, 3) := by decide +kernel
theorem d8_26 : decode prog_71_method_1_code 26 = .ok (.aload_n 1, 1) := by decide +kernel
theorem d8_27 : decode prog_71_method_1_code 27 = .ok (.ldc 23, 2) := by decide +kernel
theorem d8_29 : decode prog_71_method_1_code 29 = .ok (.invokevirtual 25, 3) := by decide +kernel
theorem d8_32 : decode prog_71_method_1_code 32 = .ok (.ifCond .ne 21, 3) := by decide +kernel
theorem d8_35 : decode prog_71_method_1_code 35 = .ok (.aload_n 1, 1) := by decide +kernel
theorem d8_36 : decode prog_71_method_1_code 36 = .ok (.ldc 29, 2) := by decide +kernel
theorem d8_38 : decode prog_71_method_1_code 38 = .ok (.invokevirtual 31, 3) := by decide +kernel
theorem d8_41 : decode prog_71_method_1_code 41 = .ok (.ifCond .ne 12, 3) := by decide +kernel
theorem d8_44 : decode prog_71_method_1_code 44 = .ok (.aload_n 1, 1) := by decide +kernel
theorem d8_45 : decode prog_71_method_1_code 45 = .ok (.ldc 35, 2) := by decide +kernel
theorem d8_47 : decode prog_71_method_1_code 47 = .ok (.invokevirtual 37, 3) := by decide +kernel
theorem d8_50 : decode prog_71_method_1_code 50 = .ok (.ifCond .eq 17, 3) := by decide +kernel
theorem d8_67 : decode prog_71_method_1_code 67 = .ok (.aload_n 2, 1) := by decide +kernel
theorem d8_68 : decode prog_71_method_1_code 68 = .ok (.ifnonnull 21, 3) := by decide +kernel
theorem d8_71 : decode prog_71_method_1_code 71 = .ok (.iload_n 3, 1) := by decide +kernel
theorem d8_72 : decode prog_71_method_1_code 72 = .ok (.ifCond .eq 17, 3) := by decide +kernel
theorem d8_89 : decode prog_71_method_1_code 89 = .ok (.aload_n 2, 1) := by decide +kernel
theorem d8_90 : decode prog_71_method_1_code 90 = .ok (.ifnonnull 22, 3) := by decide +kernel
theorem d8_93 : decode prog_71_method_1_code 93 = .ok (.iload 4, 2) := by decide +kernel
theorem d8_95 : decode prog_71_method_1_code 95 = .ok (.ifCond .eq 17, 3) := by decide +kernel
theorem d8_112 : decode prog_71_method_1_code 112 = .ok (.aload_n 0, 1) := by decide +kernel
theorem d8_113 : decode prog_71_method_1_code 113 = .ok (.aload_n 1, 1) := by decide +kernel
theorem d8_114 : decode prog_71_method_1_code 114 = .ok (.putfield 52, 3) := by decide +kernel
theorem d8_117 : decode prog_71_method_1_code 117 = .ok (.aload_n 0, 1) := by decide +kernel
theorem d8_118 : decode prog_71_method_1_code 118 = .ok (.aload_n 2, 1) := by decide +kernel
theorem d8_119 : decode prog_71_method_1_code 119 = .ok (.putfield 57, 3) := by decide +kernel
theorem d8_122 : decode prog_71_method_1_code 122 = .ok (.aload_n 0, 1) := by decide +kernel
theorem d8_123 : decode prog_71_method_1_code 123 = .ok (.iload_n 3, 1) := by decide +kernel
theorem d8_124 : decode prog_71_method_1_code 124 = .ok (.putfield 60, 3) := by decide +kernel
theorem d8_127 : decode prog_71_method_1_code 127 = .ok (.aload_n 0, 1) := by decide +kernel
theorem d8_128 : decode prog_71_method_1_code 128 = .ok (.iload 4, 2) := by decide +kernel
theorem d8_130 : decode prog_71_method_1_code 130 = .ok (.putfield 64, 3) := by decide +kernel
theorem d8_133 : decode prog_71_method_1_code 133 = .ok (.aload_n 0, 1) := by decide +kernel
theorem d8_134 : decode prog_71_method_1_code 134 = .ok (.aload 5, 2) := by decide +kernel
theorem d8_136 : decode prog_71_method_1_code 136 = .ok (.putfield 67, 3) := by decide +kernel
theorem d8_139 : decode prog_71_method_1_code 139 = .ok (.return_, 1) := by decide +kernel
theorem pd_17 : parseMethodDescriptor "(Ljava/lang/Object;)Z" = some ⟨[(.object "java/lang/Object")], some .boolean⟩ := by decide +kernel
theorem pn_5 : plainName "com/example/placewright/placewright/cli/Option" = true := by first | (simp [plainName, overriddenIn]; done) | decide +kernel
def Qop1n (Z : State) (a1 : Addr) (h0 : Heap) (n0 : Nat) (v : Option Value) (h : Heap) (L : List Loc) : Prop := v = none ∧ Fr n0 L ∧ Keep h0 h [a1] ∧ Fld Z h a1 "com/example/placewright/placewright/cli/Option" "valueName" "Ljava/lang/String;" .null
def roomop1n : Room := { frames := 4, cells := 10, slots := 104, locals := 62 }
set_option maxRecDepth 65536 in
set_option maxHeartbeats 40000000 in
theorem rmop1n (l : Launch) (Z : State) (a0 : Array Value) (hw : ∀ d ∈ tables_1, d.before a0 Z = true) (ws : List Jvm.Cond) (a1 : Addr) (nm : Addr) (t1 : Addr) (k1 : ClassId) (ds : Addr) (gC : Int32) (x0 : Int32) (h0 : Heap) (n0 : Nat) (Z0 : n0 ≤ h0.size) (SC : Sta Z Z.heap "java/lang/String" "COMPACT_STRINGS" "Z" (.int gC)) (PC : ¬ (gC = (0 : Int32))) (O0 : Old Z n0 h0) (E_a1 : Exa Z h0 a1 "com/example/placewright/placewright/cli/Option") (g_a1 : n0 ≤ a1) (net : a1 ≠ t1) (F_name : Fld Z h0 a1 "com/example/placewright/placewright/cli/Option" "name" "Ljava/lang/String;" .null) (F_valueName : Fld Z h0 a1 "com/example/placewright/placewright/cli/Option" "valueName" "Ljava/lang/String;" .null) (F_required : Fld Z h0 a1 "com/example/placewright/placewright/cli/Option" "required" "Z" (.int (0 : Int32))) (F_repeated : Fld Z h0 a1 "com/example/placewright/placewright/cli/Option" "repeated" "Z" (.int (0 : Int32))) (F_description : Fld Z h0 a1 "com/example/placewright/placewright/cli/Option" "description" "Ljava/lang/String;" .null) (E_nm : Exa Z h0 nm "java/lang/String") (Fc_nm : Fld Z h0 nm "java/lang/String" "coder" "B" (.int (0 : Int32))) (Fv_nm : Fld Z h0 nm "java/lang/String" "value" "[B" (.ref t1)) (V_t1 : Arv Z h0 t1 k1 .byte (1 : Int32) [(.int x0)] (.int (0 : Int32))) (hA : ¬ x0 = (45 : Int32)) (hB : ¬ x0 = (61 : Int32)) :
    MetFree l (⟨"com/example/placewright/placewright/cli/Option", "<init>", "(Ljava/lang/String;Ljava/lang/String;ZZLjava/lang/String;)V"⟩ : MethodName) (head1 (Jvm.Cond.code (⟨"com/example/placewright/placewright/cli/Option", "<init>", "(Ljava/lang/String;Ljava/lang/String;ZZLjava/lang/String;)V"⟩ : MethodName) prog_71_method_1_code 6 none :: ws) roomop1n) (fun aa_ U_ => aa_ = #[(.ref a1), (.ref nm), .null, (.int (0 : Int32)), (.int (0 : Int32)), (.ref ds)] ∧ Z.Warmed39 U_.vm ∧ U_.heap = h0 ∧ CHv Z EL U_.vm h0) (fun _ _ _ _ _ => True) (fun _ U_ o_ W_ => ∃ v_ L_, o_ = .returned v_ ∧ (Qop1n Z a1 h0 n0) v_ W_.heap L_ ∧ CHr Z EL U_.vm U_.heap W_.vm W_.heap ∧ ReturnedEndW U_ o_ W_ L_ roomop1n.cells roomop1n.slots) := by
  refine own_metH (Q := (Qop1n Z a1 h0 n0)) (L0 := #[.val (.ref a1), .val (.ref nm), .val .null, .val (.int (0 : Int32)), .val (.int (0 : Int32)), .val (.ref ds)]) (plainFor_of_name pn_5) (fun m => by first | (simp [entryFrame, mkF, argsToLocals, Value.category]; done) | rfl) ?_
  intro p e s m below meth c T0 X0 hx hby hml hown hnm hret hlk hZ e0 hs0 CR hS hk
  have N0 := Fr.nil n0
  have K0 := Keep.refl h0 [a1]
  have ne_a1_nm : a1 ≠ nm := Exa.ne E_a1 E_nm (by decide)
  have S_a1 : Safe Z EL s.vm h0 a1 := Safe.exa hZ.alike E_a1 (by decide) (by decide)
  refine GoH.st (T' := T0) (pc' := 1) (L' := #[.val (.ref a1), .val (.ref nm), .val .null, .val (.int (0 : Int32)), .val (.int (0 : Int32)), .val (.ref ds)]) (S' := [(.ref a1)]) (fun t_ k_ => XS.aloadN X0.here hx rfl (hb hby d8_0) rfl rfl  k_) ?_
  obtain ⟨_, _, ⟨T1, L1, k1, n1⟩, -, X1, ⟨Lc1, hQ1, l1, y1, z1⟩, st1⟩ := X0.specialBack hx (y := (⟨"java/lang/Record", "<init>", "()V"⟩ : MethodName)) rfl hown (mvT hZ (hw _ (List.mem_of_getElem? (i := 43) rfl))) (mvT hZ (hw _ (List.mem_of_getElem? (i := 44) rfl))) (mvT hZ (hw _ (List.mem_of_getElem? (i := 47) rfl))) (by decide) (backOf (W := 0) (rm9 l Z a0 hw [] a1 h0 n0 Z0) hZ (hw _ (List.mem_of_getElem? (i := 47) rfl)) (hw _ (List.mem_of_getElem? (i := 46) rfl)) (by decide) (by decide)) (g := (mkF m 1 #[.val (.ref a1), .val (.ref nm), .val .null, .val (.int (0 : Int32)), .val (.int (0 : Int32)), .val (.ref ds)] [(.ref a1)])) rfl (by rw [hml]; rfl) (Steps.refl _) (a := a1) (argsL := []) (rest := []) (lenOf pd_4 rfl) rfl (by show 2 * 0 + _ ≤ _; exact Nat.le_of_eq rfl) (hb hby d8_1) (fun _ _ => ⟨rfl, e0, (by decide : 0 + 0 ≤ _), (by decide : 0 + 0 ≤ _)⟩)
  dsimp only [Pt.U, Pt.locs, Pt.cells, Pt.slots] at X1 l1 y1 z1 st1 hQ1
  subst l1 y1 z1
  obtain ⟨rfl, N1q, e1⟩ := hQ1
  have N1 := Fr.app N0 N1q
  refine GoH.tr (T' := T1) (pc' := 4) (L' := #[.val (.ref a1), .val (.ref nm), .val .null, .val (.int (0 : Int32)), .val (.int (0 : Int32)), .val (.ref ds)]) (S' := []) st1 ?_
  refine GoH.st (T' := T1) (pc' := 5) (L' := #[.val (.ref a1), .val (.ref nm), .val .null, .val (.int (0 : Int32)), .val (.int (0 : Int32)), .val (.ref ds)]) (S' := [(.ref nm)]) (fun t_ k_ => XS.aloadN X1.here hx rfl (hb hby d8_4) rfl rfl  k_) ?_
  obtain ⟨a2_, T2, h2, k2, X2, e2, E2, hS2, hk2, hZ2, ho2, CR2, -, st2⟩ := ldcOH X1 hx hZ hown (hw _ (List.mem_of_getElem? (i := 49) rfl)) (own_wS hw) e1 hS hk (own_EW hw) CR.1 (g := (mkF m 5 #[.val (.ref a1), .val (.ref nm), .val .null, .val (.int (0 : Int32)), .val (.int (0 : Int32)), .val (.ref ds)] [(.ref nm)])) rfl (hb hby d8_5) (n := 16) (by decide) (by decide) (by decide) (by decide)
  replace S_a1 := CR2.safe E_a1.lt S_a1
  replace CR := CR.trans CR2
  replace Z0 := Nat.le_trans Z0 E2.1
  replace K0 := K0.ext E2
  replace E_a1 := E_a1.ext E2
  replace O0 := O0.ext E2
  replace F_name := F_name.ext E2
  replace F_valueName := F_valueName.ext E2
  replace F_required := F_required.ext E2
  replace F_repeated := F_repeated.ext E2
  replace F_description := F_description.ext E2
  replace E_nm := E_nm.ext E2
  replace Fc_nm := Fc_nm.ext E2
  replace Fv_nm := Fv_nm.ext E2
  replace V_t1 := V_t1.ext E2
  replace hZ := hZ2
  replace hown := ho2
  replace hS := hS2
  replace hk := hk2
  refine GoH.st (T' := T2) (pc' := 7) (L' := #[.val (.ref a1), .val (.ref nm), .val .null, .val (.int (0 : Int32)), .val (.int (0 : Int32)), .val (.ref ds)]) (S' := [(.ref a2_), (.ref nm)]) st2 ?_
  obtain ⟨_, _, ⟨T3, L3, k3, n3⟩, -, X3, ⟨Lc3, hQ3, l3, y3, z3⟩, st3⟩ := Jvm.LawKit.callS X2 hx (y := (⟨"java/util/Objects", "requireNonNull", "(Ljava/lang/Object;Ljava/lang/String;)Ljava/lang/Object;"⟩ : MethodName)) hown (mvT hZ (hw _ (List.mem_of_getElem? (i := 50) rfl))) (mvT hZ (hw _ (List.mem_of_getElem? (i := 51) rfl))) (mvT hZ (hw _ (List.mem_of_getElem? (i := 52) rfl))) (mvT hZ (hw _ (List.mem_of_getElem? (i := 53) rfl))) (by decide) (backOf (W := 0) (rm10 l Z a0 hw [] nm a2_ h2 n0 Z0) hZ (hw _ (List.mem_of_getElem? (i := 53) rfl)) (hw _ (List.mem_of_getElem? (i := 52) rfl)) (by decide) (by decide)) (g := (mkF m 7 #[.val (.ref a1), .val (.ref nm), .val .null, .val (.int (0 : Int32)), .val (.int (0 : Int32)), .val (.ref ds)] [(.ref a2_), (.ref nm)])) rfl (by rw [hml]; rfl) (argsL := [(.ref nm), (.ref a2_)]) (rest := []) (lenOf pd_5 rfl) rfl (by show 2 * 0 + _ ≤ _; exact Nat.le_of_eq rfl) (hb hby d8_7) (fun _ _ => ⟨rfl, e2, (by decide : 2 + 0 ≤ _), (by decide : 20 + 0 ≤ _)⟩)
  dsimp only [Pt.U, Pt.locs, Pt.cells, Pt.slots] at X3 l3 y3 z3 st3 hQ3
  subst l3 y3 z3
  obtain ⟨rfl, N3q, e3⟩ := hQ3
  have N3 := Fr.app N1 N3q
  refine GoH.st (T' := T3) (pc' := 10) (L' := #[.val (.ref a1), .val (.ref nm), .val .null, .val (.int (0 : Int32)), .val (.int (0 : Int32)), .val (.ref ds)]) (S' := [(.ref nm)]) st3 ?_
  refine GoH.st (T' := T3) (pc' := 11) (L' := #[.val (.ref a1), .val (.ref nm), .val .null, .val (.int (0 : Int32)), .val (.int (0 : Int32)), .val (.ref ds)]) (S' := []) (fun t_ k_ => XS.pop X3.here hx rfl (hb hby d8_10) rfl rfl k_) ?_
  refine GoH.st (T' := T3) (pc' := 13) (L' := #[.val (.ref a1), .val (.ref nm), .val .null, .val (.int (0 : Int32)), .val (.int (0 : Int32)), .val (.ref ds)]) (S' := [(.ref ds)]) (fun t_ k_ => XS.aload X3.here hx rfl (hb hby d8_11) rfl rfl  k_) ?_
  obtain ⟨a4_, T4, h4, k4, X4, e4, E4, hS4, hk4, hZ4, ho4, CR4, -, st4⟩ := ldcOH X3 hx hZ hown (hw _ (List.mem_of_getElem? (i := 54) rfl)) (own_wS hw) e3 hS hk (own_EW hw) CR.1 (g := (mkF m 13 #[.val (.ref a1), .val (.ref nm), .val .null, .val (.int (0 : Int32)), .val (.int (0 : Int32)), .val (.ref ds)] [(.ref ds)])) rfl (hb hby d8_13) (n := 44) (by decide) (by decide) (by decide) (by decide)
  replace S_a1 := CR4.safe E_a1.lt S_a1
  replace CR := CR.trans CR4
  replace Z0 := Nat.le_trans Z0 E4.1
  replace K0 := K0.ext E4
  replace E_a1 := E_a1.ext E4
  replace O0 := O0.ext E4
  replace F_name := F_name.ext E4
  replace F_valueName := F_valueName.ext E4
  replace F_required := F_required.ext E4
  replace F_repeated := F_repeated.ext E4
  replace F_description := F_description.ext E4
  replace E_nm := E_nm.ext E4
  replace Fc_nm := Fc_nm.ext E4
  replace Fv_nm := Fv_nm.ext E4
  replace V_t1 := V_t1.ext E4
  replace hZ := hZ4
  replace hown := ho4
  replace hS := hS4
  replace hk := hk4
  refine GoH.st (T' := T4) (pc' := 15) (L' := #[.val (.ref a1), .val (.ref nm), .val .null, .val (.int (0 : Int32)), .val (.int (0 : Int32)), .val (.ref ds)]) (S' := [(.ref a4_), (.ref ds)]) st4 ?_
  obtain ⟨_, _, ⟨T5, L5, k5, n5⟩, -, X5, ⟨Lc5, hQ5, l5, y5, z5⟩, st5⟩ := Jvm.LawKit.callS X4 hx (y := (⟨"java/util/Objects", "requireNonNull", "(Ljava/lang/Object;Ljava/lang/String;)Ljava/lang/Object;"⟩ : MethodName)) hown (mvT hZ (hw _ (List.mem_of_getElem? (i := 50) rfl))) (mvT hZ (hw _ (List.mem_of_getElem? (i := 51) rfl))) (mvT hZ (hw _ (List.mem_of_getElem? (i := 52) rfl))) (mvT hZ (hw _ (List.mem_of_getElem? (i := 53) rfl))) (by decide) (backOf (W := 0) (rm10 l Z a0 hw [] ds a4_ h4 n0 Z0) hZ (hw _ (List.mem_of_getElem? (i := 53) rfl)) (hw _ (List.mem_of_getElem? (i := 52) rfl)) (by decide) (by decide)) (g := (mkF m 15 #[.val (.ref a1), .val (.ref nm), .val .null, .val (.int (0 : Int32)), .val (.int (0 : Int32)), .val (.ref ds)] [(.ref a4_), (.ref ds)])) rfl (by rw [hml]; rfl) (argsL := [(.ref ds), (.ref a4_)]) (rest := []) (lenOf pd_5 rfl) rfl (by show 2 * 0 + _ ≤ _; exact Nat.le_of_eq rfl) (hb hby d8_15) (fun _ _ => ⟨rfl, e4, (by decide : 4 + 0 ≤ _), (by decide : 68 + 0 ≤ _)⟩)
  dsimp only [Pt.U, Pt.locs, Pt.cells, Pt.slots] at X5 l5 y5 z5 st5 hQ5
  subst l5 y5 z5
  obtain ⟨rfl, N5q, e5⟩ := hQ5
  have N5 := Fr.app N3 N5q
  refine GoH.st (T' := T5) (pc' := 18) (L' := #[.val (.ref a1), .val (.ref nm), .val .null, .val (.int (0 : Int32)), .val (.int (0 : Int32)), .val (.ref ds)]) (S' := [(.ref ds)]) st5 ?_
  refine GoH.st (T' := T5) (pc' := 19) (L' := #[.val (.ref a1), .val (.ref nm), .val .null, .val (.int (0 : Int32)), .val (.int (0 : Int32)), .val (.ref ds)]) (S' := []) (fun t_ k_ => XS.pop X5.here hx rfl (hb hby d8_18) rfl rfl k_) ?_
  refine GoH.st (T' := T5) (pc' := 20) (L' := #[.val (.ref a1), .val (.ref nm), .val .null, .val (.int (0 : Int32)), .val (.int (0 : Int32)), .val (.ref ds)]) (S' := [(.ref nm)]) (fun t_ k_ => XS.aloadN X5.here hx rfl (hb hby d8_19) rfl rfl  k_) ?_
  obtain ⟨cq6, kq6, q6a, q6b, q6c⟩ := isOf hZ e5 E_nm
  obtain ⟨_, _, ⟨T6, L6, k6, n6⟩, -, X6, ⟨Lc6, hQ6, l6, y6, z6⟩, st6⟩ := X5.virtualBack hx (y := (⟨"java/lang/String", "isEmpty", "()Z"⟩ : MethodName)) (z := (⟨"java/lang/String", "isEmpty", "()Z"⟩ : MethodName)) hown (mvT hZ (hw _ (List.mem_of_getElem? (i := 55) rfl))) (mvT hZ (hw _ (List.mem_of_getElem? (i := 56) rfl))) (notFace_of_selects (args := #[]) (mvT hZ (hw _ (List.mem_of_getElem? (i := 58) rfl)))) (mvT hZ (hw _ (List.mem_of_getElem? (i := 58) rfl))) (mvT hZ (hw _ (List.mem_of_getElem? (i := 57) rfl))) (by decide) (backOf (W := 0) (rmemp1 l Z a0 hw [] nm t1 _ gC (x0) h4 n0 Z0 SC PC O0 E_nm Fc_nm Fv_nm V_t1) hZ (hw _ (List.mem_of_getElem? (i := 59) rfl)) (hw _ (List.mem_of_getElem? (i := 2) rfl)) (by decide) (by decide)) q6a q6c (g := (mkF m 20 #[.val (.ref a1), .val (.ref nm), .val .null, .val (.int (0 : Int32)), .val (.int (0 : Int32)), .val (.ref ds)] [(.ref nm)])) rfl (by rw [hml]; rfl) (Steps.refl _) (argsL := []) (rest := []) (lenOf pd_6 rfl) rfl (by show 2 * 0 + _ ≤ _; exact Nat.le_of_eq rfl) (hb hby d8_20) (fun _ _ => ⟨rfl, e5, (by decide : 4 + 0 ≤ _), (by decide : 68 + 0 ≤ _)⟩)
  dsimp only [Pt.U, Pt.locs, Pt.cells, Pt.slots] at X6 l6 y6 z6 st6 hQ6
  subst l6 y6 z6
  obtain ⟨rfl, N6q, e6⟩ := hQ6
  have N6 := Fr.app N5 N6q
  refine GoH.tr (T' := T6) (pc' := 23) (L' := #[.val (.ref a1), .val (.ref nm), .val .null, .val (.int (0 : Int32)), .val (.int (0 : Int32)), .val (.ref ds)]) (S' := [(.int (0 : Int32))]) st6 ?_
  refine GoH.st (T' := T6) (pc' := 26) (L' := #[.val (.ref a1), .val (.ref nm), .val .null, .val (.int (0 : Int32)), .val (.int (0 : Int32)), .val (.ref ds)]) (S' := []) (fun t_ k_ => XS.ifNo X6.here hx rfl (hb hby d8_23) rfl ((if0 _ _).trans (teq (by decide : ((0 : Int32) = (0 : Int32)))).2) k_) ?_
  refine GoH.st (T' := T6) (pc' := 27) (L' := #[.val (.ref a1), .val (.ref nm), .val .null, .val (.int (0 : Int32)), .val (.int (0 : Int32)), .val (.ref ds)]) (S' := [(.ref nm)]) (fun t_ k_ => XS.aloadN X6.here hx rfl (hb hby d8_26) rfl rfl  k_) ?_
  obtain ⟨a7_, T7, h7, k7, b7_, c7, X7, e7, E7, hS7, hk7, hZ7, ho7, E_a7_, Fc_a7_, Fv_a7_, V_b7_, lta7, ltb7, CR7, -, Sf7, st7⟩ := ldcCH X6 hx hZ hown (hw _ (List.mem_of_getElem? (i := 60) rfl)) (own_wS hw) e6 hS hk (own_EW hw) (by decide : ("com/example/placewright/placewright/cli/Option", 23) ∈ EL) CR.1 (vs := [(.int (45 : Int32))]) (z := (1 : Int32)) ⟨by decide, by decide⟩ (by decide) rfl (g := (mkF m 27 #[.val (.ref a1), .val (.ref nm), .val .null, .val (.int (0 : Int32)), .val (.int (0 : Int32)), .val (.ref ds)] [(.ref nm)])) rfl (hb hby d8_27) (n := 4) (by decide) (by decide) (by decide) (by decide)
  replace S_a1 := CR7.safe E_a1.lt S_a1
  replace CR := CR.trans CR7
  replace Z0 := Nat.le_trans Z0 E7.1
  replace K0 := K0.ext E7
  replace E_a1 := E_a1.ext E7
  replace O0 := O0.ext E7
  replace F_name := F_name.ext E7
  replace F_valueName := F_valueName.ext E7
  replace F_required := F_required.ext E7
  replace F_repeated := F_repeated.ext E7
  replace F_description := F_description.ext E7
  replace E_nm := E_nm.ext E7
  replace Fc_nm := Fc_nm.ext E7
  replace Fv_nm := Fv_nm.ext E7
  replace V_t1 := V_t1.ext E7
  replace hZ := hZ7
  replace hown := ho7
  replace hS := hS7
  replace hk := hk7
  have ne_a1_a7_ := (Sf7 _ S_a1).1
  have ne_a1_b7_ := (Sf7 _ S_a1).2
  refine GoH.st (T' := T7) (pc' := 29) (L' := #[.val (.ref a1), .val (.ref nm), .val .null, .val (.int (0 : Int32)), .val (.int (0 : Int32)), .val (.ref ds)]) (S' := [(.ref a7_), (.ref nm)]) st7 ?_
  obtain ⟨cq8, kq8, q8a, q8b, q8c⟩ := isOf hZ e7 E_nm
  obtain ⟨_, _, ⟨T8, L8, k8, n8⟩, -, X8, ⟨Lc8, hQ8, l8, y8, z8⟩, st8⟩ := X7.virtualBack hx (y := (⟨"java/lang/String", "startsWith", "(Ljava/lang/String;)Z"⟩ : MethodName)) (z := (⟨"java/lang/String", "startsWith", "(Ljava/lang/String;)Z"⟩ : MethodName)) hown (mvT hZ (hw _ (List.mem_of_getElem? (i := 61) rfl))) (mvT hZ (hw _ (List.mem_of_getElem? (i := 62) rfl))) (notFace_of_selects (args := #[]) (mvT hZ (hw _ (List.mem_of_getElem? (i := 64) rfl)))) (mvT hZ (hw _ (List.mem_of_getElem? (i := 64) rfl))) (mvT hZ (hw _ (List.mem_of_getElem? (i := 63) rfl))) (by decide) (backOf (W := 0) (rmstw1_45 l Z a0 hw [] nm a7_ t1 b7_ _ _ gC (x0) h7 n0 Z0 SC PC O0 E_nm Fc_nm Fv_nm V_t1 E_a7_ Fc_a7_ Fv_a7_ V_b7_ hA) hZ (hw _ (List.mem_of_getElem? (i := 65) rfl)) (hw _ (List.mem_of_getElem? (i := 2) rfl)) (by decide) (by decide)) q8a q8c (g := (mkF m 29 #[.val (.ref a1), .val (.ref nm), .val .null, .val (.int (0 : Int32)), .val (.int (0 : Int32)), .val (.ref ds)] [(.ref a7_), (.ref nm)])) rfl (by rw [hml]; rfl) (Steps.refl _) (argsL := [(.ref a7_)]) (rest := []) (lenOf pd_11 rfl) rfl (by show 2 * 0 + _ ≤ _; exact Nat.le_of_eq rfl) (hb hby d8_29) (fun _ _ => ⟨rfl, e7, (by decide : 6 + 0 ≤ _), (by decide : 76 + 0 ≤ _)⟩)
  dsimp only [Pt.U, Pt.locs, Pt.cells, Pt.slots] at X8 l8 y8 z8 st8 hQ8
  subst l8 y8 z8
  obtain ⟨rfl, N8q, e8⟩ := hQ8
  have N8 := Fr.app N6 N8q
  refine GoH.tr (T' := T8) (pc' := 32) (L' := #[.val (.ref a1), .val (.ref nm), .val .null, .val (.int (0 : Int32)), .val (.int (0 : Int32)), .val (.ref ds)]) (S' := [(.int (0 : Int32))]) st8 ?_
  refine GoH.st (T' := T8) (pc' := 35) (L' := #[.val (.ref a1), .val (.ref nm), .val .null, .val (.int (0 : Int32)), .val (.int (0 : Int32)), .val (.ref ds)]) (S' := []) (fun t_ k_ => XS.ifNo X8.here hx rfl (hb hby d8_32) rfl ((if0 _ _).trans (teq (by decide : ((0 : Int32) = (0 : Int32)))).2) k_) ?_
  refine GoH.st (T' := T8) (pc' := 36) (L' := #[.val (.ref a1), .val (.ref nm), .val .null, .val (.int (0 : Int32)), .val (.int (0 : Int32)), .val (.ref ds)]) (S' := [(.ref nm)]) (fun t_ k_ => XS.aloadN X8.here hx rfl (hb hby d8_35) rfl rfl  k_) ?_
  obtain ⟨a9_, T9, h9, k9, b9_, c9, X9, e9, E9, hS9, hk9, hZ9, ho9, E_a9_, Fc_a9_, Fv_a9_, V_b9_, lta9, ltb9, CR9, -, Sf9, st9⟩ := ldcCH X8 hx hZ hown (hw _ (List.mem_of_getElem? (i := 85) rfl)) (own_wS hw) e8 hS hk (own_EW hw) (by decide : ("com/example/placewright/placewright/cli/Option", 29) ∈ EL) CR.1 (vs := [(.int (61 : Int32))]) (z := (1 : Int32)) ⟨by decide, by decide⟩ (by decide) rfl (g := (mkF m 36 #[.val (.ref a1), .val (.ref nm), .val .null, .val (.int (0 : Int32)), .val (.int (0 : Int32)), .val (.ref ds)] [(.ref nm)])) rfl (hb hby d8_36) (n := 4) (by decide) (by decide) (by decide) (by decide)
  replace S_a1 := CR9.safe E_a1.lt S_a1
  replace CR := CR.trans CR9
  replace Z0 := Nat.le_trans Z0 E9.1
  replace K0 := K0.ext E9
  replace E_a1 := E_a1.ext E9
  replace O0 := O0.ext E9
  replace F_name := F_name.ext E9
  replace F_valueName := F_valueName.ext E9
  replace F_required := F_required.ext E9
  replace F_repeated := F_repeated.ext E9
  replace F_description := F_description.ext E9
  replace E_nm := E_nm.ext E9
  replace Fc_nm := Fc_nm.ext E9
  replace Fv_nm := Fv_nm.ext E9
  replace V_t1 := V_t1.ext E9
  replace E_a7_ := E_a7_.ext E9
  replace Fc_a7_ := Fc_a7_.ext E9
  replace Fv_a7_ := Fv_a7_.ext E9
  replace V_b7_ := V_b7_.ext E9
  replace hZ := hZ9
  replace hown := ho9
  replace hS := hS9
  replace hk := hk9
  have ne_a1_a9_ := (Sf9 _ S_a1).1
  have ne_a1_b9_ := (Sf9 _ S_a1).2
  refine GoH.st (T' := T9) (pc' := 38) (L' := #[.val (.ref a1), .val (.ref nm), .val .null, .val (.int (0 : Int32)), .val (.int (0 : Int32)), .val (.ref ds)]) (S' := [(.ref a9_), (.ref nm)]) st9 ?_
  obtain ⟨cq10, kq10, q10a, q10b, q10c⟩ := isOf hZ e9 E_nm
  obtain ⟨_, _, ⟨T10, L10, k10, n10⟩, -, X10, ⟨Lc10, hQ10, l10, y10, z10⟩, st10⟩ := X9.virtualBack hx (y := (⟨"java/lang/String", "contains", "(Ljava/lang/CharSequence;)Z"⟩ : MethodName)) (z := (⟨"java/lang/String", "contains", "(Ljava/lang/CharSequence;)Z"⟩ : MethodName)) hown (mvT hZ (hw _ (List.mem_of_getElem? (i := 86) rfl))) (mvT hZ (hw _ (List.mem_of_getElem? (i := 87) rfl))) (notFace_of_selects (args := #[]) (mvT hZ (hw _ (List.mem_of_getElem? (i := 89) rfl)))) (mvT hZ (hw _ (List.mem_of_getElem? (i := 89) rfl))) (mvT hZ (hw _ (List.mem_of_getElem? (i := 88) rfl))) (by decide) (backOf (W := 0) (rmcnt1_61 l Z a0 hw [] nm a9_ t1 b9_ _ _ gC (x0) h9 n0 Z0 SC PC O0 E_nm Fc_nm Fv_nm V_t1 E_a9_ Fc_a9_ Fv_a9_ V_b9_ hB) hZ (hw _ (List.mem_of_getElem? (i := 90) rfl)) (hw _ (List.mem_of_getElem? (i := 2) rfl)) (by decide) (by decide)) q10a q10c (g := (mkF m 38 #[.val (.ref a1), .val (.ref nm), .val .null, .val (.int (0 : Int32)), .val (.int (0 : Int32)), .val (.ref ds)] [(.ref a9_), (.ref nm)])) rfl (by rw [hml]; rfl) (Steps.refl _) (argsL := [(.ref a9_)]) (rest := []) (lenOf pd_15 rfl) rfl (by show 2 * 0 + _ ≤ _; exact Nat.le_of_eq rfl) (hb hby d8_38) (fun _ _ => ⟨rfl, e9, (by decide : 8 + 0 ≤ _), (by decide : 84 + 0 ≤ _)⟩)
  dsimp only [Pt.U, Pt.locs, Pt.cells, Pt.slots] at X10 l10 y10 z10 st10 hQ10
  subst l10 y10 z10
  obtain ⟨rfl, N10q, e10⟩ := hQ10
  have N10 := Fr.app N8 N10q
  refine GoH.tr (T' := T10) (pc' := 41) (L' := #[.val (.ref a1), .val (.ref nm), .val .null, .val (.int (0 : Int32)), .val (.int (0 : Int32)), .val (.ref ds)]) (S' := [(.int (0 : Int32))]) st10 ?_
  refine GoH.st (T' := T10) (pc' := 44) (L' := #[.val (.ref a1), .val (.ref nm), .val .null, .val (.int (0 : Int32)), .val (.int (0 : Int32)), .val (.ref ds)]) (S' := []) (fun t_ k_ => XS.ifNo X10.here hx rfl (hb hby d8_41) rfl ((if0 _ _).trans (teq (by decide : ((0 : Int32) = (0 : Int32)))).2) k_) ?_
  refine GoH.st (T' := T10) (pc' := 45) (L' := #[.val (.ref a1), .val (.ref nm), .val .null, .val (.int (0 : Int32)), .val (.int (0 : Int32)), .val (.ref ds)]) (S' := [(.ref nm)]) (fun t_ k_ => XS.aloadN X10.here hx rfl (hb hby d8_44) rfl rfl  k_) ?_
  obtain ⟨a11_, T11, h11, k11, b11_, c11, X11, e11, E11, hS11, hk11, hZ11, ho11, E_a11_, Fc_a11_, Fv_a11_, V_b11_, lta11, ltb11, CR11, -, Sf11, st11⟩ := ldcCH X10 hx hZ hown (hw _ (List.mem_of_getElem? (i := 116) rfl)) (own_wS hw) e10 hS hk (own_EW hw) (by decide : ("com/example/placewright/placewright/cli/Option", 35) ∈ EL) CR.1 (vs := [(.int (104 : Int32)), (.int (101 : Int32)), (.int (108 : Int32)), (.int (112 : Int32))]) (z := (4 : Int32)) ⟨by decide, by decide⟩ (by decide) rfl (g := (mkF m 45 #[.val (.ref a1), .val (.ref nm), .val .null, .val (.int (0 : Int32)), .val (.int (0 : Int32)), .val (.ref ds)] [(.ref nm)])) rfl (hb hby d8_45) (n := 16) (by decide) (by decide) (by decide) (by decide)
  replace S_a1 := CR11.safe E_a1.lt S_a1
  replace CR := CR.trans CR11
  replace Z0 := Nat.le_trans Z0 E11.1
  replace K0 := K0.ext E11
  replace E_a1 := E_a1.ext E11
  replace O0 := O0.ext E11
  replace F_name := F_name.ext E11
  replace F_valueName := F_valueName.ext E11
  replace F_required := F_required.ext E11
  replace F_repeated := F_repeated.ext E11
  replace F_description := F_description.ext E11
  replace E_nm := E_nm.ext E11
  replace Fc_nm := Fc_nm.ext E11
  replace Fv_nm := Fv_nm.ext E11
  replace V_t1 := V_t1.ext E11
  replace E_a7_ := E_a7_.ext E11
  replace Fc_a7_ := Fc_a7_.ext E11
  replace Fv_a7_ := Fv_a7_.ext E11
  replace V_b7_ := V_b7_.ext E11
  replace E_a9_ := E_a9_.ext E11
  replace Fc_a9_ := Fc_a9_.ext E11
  replace Fv_a9_ := Fv_a9_.ext E11
  replace V_b9_ := V_b9_.ext E11
  replace hZ := hZ11
  replace hown := ho11
  replace hS := hS11
  replace hk := hk11
  have ne_a1_a11_ := (Sf11 _ S_a1).1
  have ne_a1_b11_ := (Sf11 _ S_a1).2
  refine GoH.st (T' := T11) (pc' := 47) (L' := #[.val (.ref a1), .val (.ref nm), .val .null, .val (.int (0 : Int32)), .val (.int (0 : Int32)), .val (.ref ds)]) (S' := [(.ref a11_), (.ref nm)]) st11 ?_
  obtain ⟨cq12, kq12, q12a, q12b, q12c⟩ := isOf hZ e11 E_nm
  obtain ⟨_, _, ⟨T12, L12, k12, n12⟩, -, X12, ⟨Lc12, hQ12, l12, y12, z12⟩, st12⟩ := X11.virtualBack hx (y := (⟨"java/lang/String", "equals", "(Ljava/lang/Object;)Z"⟩ : MethodName)) (z := (⟨"java/lang/String", "equals", "(Ljava/lang/Object;)Z"⟩ : MethodName)) hown (mvT hZ (hw _ (List.mem_of_getElem? (i := 117) rfl))) (mvT hZ (hw _ (List.mem_of_getElem? (i := 118) rfl))) (notFace_of_selects (args := #[]) (mvT hZ (hw _ (List.mem_of_getElem? (i := 120) rfl)))) (mvT hZ (hw _ (List.mem_of_getElem? (i := 120) rfl))) (mvT hZ (hw _ (List.mem_of_getElem? (i := 119) rfl))) (by decide) (backOf (W := 0) (rmeqs1_104_101_108_112 l Z a0 hw [] nm a11_ t1 b11_ _ _ gC (x0) h11 n0 Z0 SC PC O0 E_nm Fc_nm Fv_nm V_t1 E_a11_ Fc_a11_ Fv_a11_ V_b11_ trivial) hZ (hw _ (List.mem_of_getElem? (i := 121) rfl)) (hw _ (List.mem_of_getElem? (i := 2) rfl)) (by decide) (by decide)) q12a q12c (g := (mkF m 47 #[.val (.ref a1), .val (.ref nm), .val .null, .val (.int (0 : Int32)), .val (.int (0 : Int32)), .val (.ref ds)] [(.ref a11_), (.ref nm)])) rfl (by rw [hml]; rfl) (Steps.refl _) (argsL := [(.ref a11_)]) (rest := []) (lenOf pd_17 rfl) rfl (by show 2 * 0 + _ ≤ _; exact Nat.le_of_eq rfl) (hb hby d8_47) (fun _ _ => ⟨rfl, e11, (by decide : 10 + 0 ≤ _), (by decide : 104 + 0 ≤ _)⟩)
  dsimp only [Pt.U, Pt.locs, Pt.cells, Pt.slots] at X12 l12 y12 z12 st12 hQ12
  subst l12 y12 z12
  obtain ⟨rfl, N12q, e12⟩ := hQ12
  have N12 := Fr.app N10 N12q
  refine GoH.tr (T' := T12) (pc' := 50) (L' := #[.val (.ref a1), .val (.ref nm), .val .null, .val (.int (0 : Int32)), .val (.int (0 : Int32)), .val (.ref ds)]) (S' := [(.int (0 : Int32))]) st12 ?_
  refine GoH.st (T' := T12) (pc' := 67) (L' := #[.val (.ref a1), .val (.ref nm), .val .null, .val (.int (0 : Int32)), .val (.int (0 : Int32)), .val (.ref ds)]) (S' := []) (fun t_ k_ => XS.ifYes X12.here hx rfl (pc0 := 50) (pc' := 67) rfl (hb hby d8_50) rfl ((if0 _ _).trans (teq (by decide : ((0 : Int32) = (0 : Int32)))).1) (by decide) (by decide) k_) ?_
  refine GoH.st (T' := T12) (pc' := 68) (L' := #[.val (.ref a1), .val (.ref nm), .val .null, .val (.int (0 : Int32)), .val (.int (0 : Int32)), .val (.ref ds)]) (S' := [.null]) (fun t_ k_ => XS.aloadN X12.here hx rfl (hb hby d8_67) rfl rfl  k_) ?_
  refine GoH.st (T' := T12) (pc' := 71) (L' := #[.val (.ref a1), .val (.ref nm), .val .null, .val (.int (0 : Int32)), .val (.int (0 : Int32)), .val (.ref ds)]) (S' := []) (fun t_ k_ => XS.ifnonnullNo X12.here hx rfl (hb hby d8_68) rfl k_) ?_
  refine GoH.st (T' := T12) (pc' := 72) (L' := #[.val (.ref a1), .val (.ref nm), .val .null, .val (.int (0 : Int32)), .val (.int (0 : Int32)), .val (.ref ds)]) (S' := [(.int (0 : Int32))]) (fun t_ k_ => XS.iloadN X12.here hx rfl (hb hby d8_71) rfl  k_) ?_
  refine GoH.st (T' := T12) (pc' := 89) (L' := #[.val (.ref a1), .val (.ref nm), .val .null, .val (.int (0 : Int32)), .val (.int (0 : Int32)), .val (.ref ds)]) (S' := []) (fun t_ k_ => XS.ifYes X12.here hx rfl (pc0 := 72) (pc' := 89) rfl (hb hby d8_72) rfl ((if0 _ _).trans (teq (by decide : ((0 : Int32) = (0 : Int32)))).1) (by decide) (by decide) k_) ?_
  refine GoH.st (T' := T12) (pc' := 90) (L' := #[.val (.ref a1), .val (.ref nm), .val .null, .val (.int (0 : Int32)), .val (.int (0 : Int32)), .val (.ref ds)]) (S' := [.null]) (fun t_ k_ => XS.aloadN X12.here hx rfl (hb hby d8_89) rfl rfl  k_) ?_
  refine GoH.st (T' := T12) (pc' := 93) (L' := #[.val (.ref a1), .val (.ref nm), .val .null, .val (.int (0 : Int32)), .val (.int (0 : Int32)), .val (.ref ds)]) (S' := []) (fun t_ k_ => XS.ifnonnullNo X12.here hx rfl (hb hby d8_90) rfl k_) ?_
  refine GoH.st (T' := T12) (pc' := 95) (L' := #[.val (.ref a1), .val (.ref nm), .val .null, .val (.int (0 : Int32)), .val (.int (0 : Int32)), .val (.ref ds)]) (S' := [(.int (0 : Int32))]) (fun t_ k_ => XS.iload X12.here hx rfl (hb hby d8_93) rfl  k_) ?_
  refine GoH.st (T' := T12) (pc' := 112) (L' := #[.val (.ref a1), .val (.ref nm), .val .null, .val (.int (0 : Int32)), .val (.int (0 : Int32)), .val (.ref ds)]) (S' := []) (fun t_ k_ => XS.ifYes X12.here hx rfl (pc0 := 95) (pc' := 112) rfl (hb hby d8_95) rfl ((if0 _ _).trans (teq (by decide : ((0 : Int32) = (0 : Int32)))).1) (by decide) (by decide) k_) ?_
  refine GoH.st (T' := T12) (pc' := 113) (L' := #[.val (.ref a1), .val (.ref nm), .val .null, .val (.int (0 : Int32)), .val (.int (0 : Int32)), .val (.ref ds)]) (S' := [(.ref a1)]) (fun t_ k_ => XS.aloadN X12.here hx rfl (hb hby d8_112) rfl rfl  k_) ?_
  refine GoH.st (T' := T12) (pc' := 114) (L' := #[.val (.ref a1), .val (.ref nm), .val .null, .val (.int (0 : Int32)), .val (.int (0 : Int32)), .val (.ref ds)]) (S' := [(.ref nm), (.ref a1)]) (fun t_ k_ => XS.aloadN X12.here hx rfl (hb hby d8_113) rfl rfl  k_) ?_
  obtain ⟨T13, h13, X13, e13, W13, st13⟩ := putF X12 hx hZ hown (host := "") (Or.inl (hw _ (List.mem_of_getElem? (i := 125) rfl))) Via.refl e12 F_name E_a1 (Or.inr ⟨(hw _ (List.mem_of_getElem? (i := 126) rfl)), rfl, hnm⟩) (hw _ (List.mem_of_getElem? (i := 38) rfl)) (ty := (.object "java/lang/String")) (by decide) rfl rfl (g := (mkF m 114 #[.val (.ref a1), .val (.ref nm), .val .null, .val (.int (0 : Int32)), .val (.int (0 : Int32)), .val (.ref ds)] [(.ref nm), (.ref a1)])) rfl rfl (hb hby d8_114)
  have Sw14 : Safe Z EL T11.vm h11 a1 := S_a1
  replace S_a1 := Safe.wr W13 Sw14 CR.1 S_a1
  replace CR := CR.trans (CHr.wr W13 Sw14 CR.1)
  replace hk := Nat.le_trans hk (Keep.of_wr W13).1
  replace Z0 := Nat.le_trans Z0 (Keep.of_wr W13).1
  replace K0 := K0.wr W13 (Or.inl (List.mem_of_getElem? (i := 0) rfl))
  replace E_a1 := E_a1.wr W13
  replace O0 := O0.wr W13 g_a1
  replace F_valueName := F_valueName.other W13 (Or.inr (slot_ne (Or.inr (hw _ (List.mem_of_getElem? (i := 128) rfl))) (Or.inr (hw _ (List.mem_of_getElem? (i := 126) rfl))) (by decide) (t := (.object "java/lang/String")) (t' := (.object "java/lang/String")) (by decide) (by decide)))
  replace F_required := F_required.other W13 (Or.inr (slot_ne (Or.inr (hw _ (List.mem_of_getElem? (i := 130) rfl))) (Or.inr (hw _ (List.mem_of_getElem? (i := 126) rfl))) (by decide) (t := .boolean) (t' := (.object "java/lang/String")) (by decide) (by decide)))
  replace F_repeated := F_repeated.other W13 (Or.inr (slot_ne (Or.inr (hw _ (List.mem_of_getElem? (i := 132) rfl))) (Or.inr (hw _ (List.mem_of_getElem? (i := 126) rfl))) (by decide) (t := .boolean) (t' := (.object "java/lang/String")) (by decide) (by decide)))
  replace F_description := F_description.other W13 (Or.inr (slot_ne (Or.inr (hw _ (List.mem_of_getElem? (i := 134) rfl))) (Or.inr (hw _ (List.mem_of_getElem? (i := 126) rfl))) (by decide) (t := (.object "java/lang/String")) (t' := (.object "java/lang/String")) (by decide) (by decide)))
  replace E_nm := E_nm.wr W13
  replace Fc_nm := Fc_nm.other W13 (Or.inl (Ne.symm ne_a1_nm))
  replace Fv_nm := Fv_nm.other W13 (Or.inl (Ne.symm ne_a1_nm))
  replace V_t1 := V_t1.other W13 (Ne.symm net)
  replace E_a7_ := E_a7_.wr W13
  replace Fc_a7_ := Fc_a7_.other W13 (Or.inl (Ne.symm ne_a1_a7_))
  replace Fv_a7_ := Fv_a7_.other W13 (Or.inl (Ne.symm ne_a1_a7_))
  replace V_b7_ := V_b7_.other W13 (Ne.symm ne_a1_b7_)
  replace E_a9_ := E_a9_.wr W13
  replace Fc_a9_ := Fc_a9_.other W13 (Or.inl (Ne.symm ne_a1_a9_))
  replace Fv_a9_ := Fv_a9_.other W13 (Or.inl (Ne.symm ne_a1_a9_))
  replace V_b9_ := V_b9_.other W13 (Ne.symm ne_a1_b9_)
  replace E_a11_ := E_a11_.wr W13
  replace Fc_a11_ := Fc_a11_.other W13 (Or.inl (Ne.symm ne_a1_a11_))
  replace Fv_a11_ := Fv_a11_.other W13 (Or.inl (Ne.symm ne_a1_a11_))
  replace V_b11_ := V_b11_.other W13 (Ne.symm ne_a1_b11_)
  replace F_name := F_name.same W13
  have N13 := Fr.snoc X13 N12 g_a1
  refine GoH.st (T' := T13) (pc' := 117) (L' := #[.val (.ref a1), .val (.ref nm), .val .null, .val (.int (0 : Int32)), .val (.int (0 : Int32)), .val (.ref ds)]) (S' := []) st13 ?_
  refine GoH.st (T' := T13) (pc' := 118) (L' := #[.val (.ref a1), .val (.ref nm), .val .null, .val (.int (0 : Int32)), .val (.int (0 : Int32)), .val (.ref ds)]) (S' := [(.ref a1)]) (fun t_ k_ => XS.aloadN X13.here hx rfl (hb hby d8_117) rfl rfl  k_) ?_
  refine GoH.st (T' := T13) (pc' := 119) (L' := #[.val (.ref a1), .val (.ref nm), .val .null, .val (.int (0 : Int32)), .val (.int (0 : Int32)), .val (.ref ds)]) (S' := [.null, (.ref a1)]) (fun t_ k_ => XS.aloadN X13.here hx rfl (hb hby d8_118) rfl rfl  k_) ?_
  obtain ⟨T15, h15, X15, e15, W15, st15⟩ := putF X13 hx hZ hown (host := "") (Or.inl (hw _ (List.mem_of_getElem? (i := 127) rfl))) Via.refl e13 F_valueName E_a1 (Or.inr ⟨(hw _ (List.mem_of_getElem? (i := 128) rfl)), rfl, hnm⟩) (hw _ (List.mem_of_getElem? (i := 38) rfl)) (ty := (.object "java/lang/String")) (by decide) rfl rfl (g := (mkF m 119 #[.val (.ref a1), .val (.ref nm), .val .null, .val (.int (0 : Int32)), .val (.int (0 : Int32)), .val (.ref ds)] [.null, (.ref a1)])) rfl rfl (hb hby d8_119)
  have Sw16 : Safe Z EL T11.vm h13 a1 := S_a1
  replace S_a1 := Safe.wr W15 Sw16 CR.1 S_a1
  replace CR := CR.trans (CHr.wr W15 Sw16 CR.1)
  replace hk := Nat.le_trans hk (Keep.of_wr W15).1
  replace Z0 := Nat.le_trans Z0 (Keep.of_wr W15).1
  replace K0 := K0.wr W15 (Or.inl (List.mem_of_getElem? (i := 0) rfl))
  replace E_a1 := E_a1.wr W15
  replace O0 := O0.wr W15 g_a1
  replace F_name := F_name.other W15 (Or.inr (slot_ne (Or.inr (hw _ (List.mem_of_getElem? (i := 126) rfl))) (Or.inr (hw _ (List.mem_of_getElem? (i := 128) rfl))) (by decide) (t := (.object "java/lang/String")) (t' := (.object "java/lang/String")) (by decide) (by decide)))
  replace F_required := F_required.other W15 (Or.inr (slot_ne (Or.inr (hw _ (List.mem_of_getElem? (i := 130) rfl))) (Or.inr (hw _ (List.mem_of_getElem? (i := 128) rfl))) (by decide) (t := .boolean) (t' := (.object "java/lang/String")) (by decide) (by decide)))
  replace F_repeated := F_repeated.other W15 (Or.inr (slot_ne (Or.inr (hw _ (List.mem_of_getElem? (i := 132) rfl))) (Or.inr (hw _ (List.mem_of_getElem? (i := 128) rfl))) (by decide) (t := .boolean) (t' := (.object "java/lang/String")) (by decide) (by decide)))
  replace F_description := F_description.other W15 (Or.inr (slot_ne (Or.inr (hw _ (List.mem_of_getElem? (i := 134) rfl))) (Or.inr (hw _ (List.mem_of_getElem? (i := 128) rfl))) (by decide) (t := (.object "java/lang/String")) (t' := (.object "java/lang/String")) (by decide) (by decide)))
  replace E_nm := E_nm.wr W15
  replace Fc_nm := Fc_nm.other W15 (Or.inl (Ne.symm ne_a1_nm))
  replace Fv_nm := Fv_nm.other W15 (Or.inl (Ne.symm ne_a1_nm))
  replace V_t1 := V_t1.other W15 (Ne.symm net)
  replace E_a7_ := E_a7_.wr W15
  replace Fc_a7_ := Fc_a7_.other W15 (Or.inl (Ne.symm ne_a1_a7_))
  replace Fv_a7_ := Fv_a7_.other W15 (Or.inl (Ne.symm ne_a1_a7_))
  replace V_b7_ := V_b7_.other W15 (Ne.symm ne_a1_b7_)
  replace E_a9_ := E_a9_.wr W15
  replace Fc_a9_ := Fc_a9_.other W15 (Or.inl (Ne.symm ne_a1_a9_))
  replace Fv_a9_ := Fv_a9_.other W15 (Or.inl (Ne.symm ne_a1_a9_))
  replace V_b9_ := V_b9_.other W15 (Ne.symm ne_a1_b9_)
  replace E_a11_ := E_a11_.wr W15
  replace Fc_a11_ := Fc_a11_.other W15 (Or.inl (Ne.symm ne_a1_a11_))
  replace Fv_a11_ := Fv_a11_.other W15 (Or.inl (Ne.symm ne_a1_a11_))
  replace V_b11_ := V_b11_.other W15 (Ne.symm ne_a1_b11_)
  replace F_valueName := F_valueName.same W15
  have N15 := Fr.snoc X15 N13 g_a1
  refine GoH.st (T' := T15) (pc' := 122) (L' := #[.val (.ref a1), .val (.ref nm), .val .null, .val (.int (0 : Int32)), .val (.int (0 : Int32)), .val (.ref ds)]) (S' := []) st15 ?_
  refine GoH.st (T' := T15) (pc' := 123) (L' := #[.val (.ref a1), .val (.ref nm), .val .null, .val (.int (0 : Int32)), .val (.int (0 : Int32)), .val (.ref ds)]) (S' := [(.ref a1)]) (fun t_ k_ => XS.aloadN X15.here hx rfl (hb hby d8_122) rfl rfl  k_) ?_
  refine GoH.st (T' := T15) (pc' := 124) (L' := #[.val (.ref a1), .val (.ref nm), .val .null, .val (.int (0 : Int32)), .val (.int (0 : Int32)), .val (.ref ds)]) (S' := [(.int (0 : Int32)), (.ref a1)]) (fun t_ k_ => XS.iloadN X15.here hx rfl (hb hby d8_123) rfl  k_) ?_
  obtain ⟨T17, h17, X17, e17, W17, st17⟩ := putFN X15 hx hZ hown (hw _ (List.mem_of_getElem? (i := 129) rfl)) Via.refl e15 F_required E_a1 (Or.inr ⟨(hw _ (List.mem_of_getElem? (i := 130) rfl)), rfl, hnm⟩) (hw _ (List.mem_of_getElem? (i := 38) rfl)) (ty := .boolean) (v' := (.int (0 : Int32))) (by decide) rfl rfl (g := (mkF m 124 #[.val (.ref a1), .val (.ref nm), .val .null, .val (.int (0 : Int32)), .val (.int (0 : Int32)), .val (.ref ds)] [(.int (0 : Int32)), (.ref a1)])) rfl rfl (hb hby d8_124)
  have Sw18 : Safe Z EL T11.vm h15 a1 := S_a1
  replace S_a1 := Safe.wr W17 Sw18 CR.1 S_a1
  replace CR := CR.trans (CHr.wr W17 Sw18 CR.1)
  replace hk := Nat.le_trans hk (Keep.of_wr W17).1
  replace Z0 := Nat.le_trans Z0 (Keep.of_wr W17).1
  replace K0 := K0.wr W17 (Or.inl (List.mem_of_getElem? (i := 0) rfl))
  replace E_a1 := E_a1.wr W17
  replace O0 := O0.wr W17 g_a1
  replace F_name := F_name.other W17 (Or.inr (slot_ne (Or.inr (hw _ (List.mem_of_getElem? (i := 126) rfl))) (Or.inr (hw _ (List.mem_of_getElem? (i := 130) rfl))) (by decide) (t := (.object "java/lang/String")) (t' := .boolean) (by decide) (by decide)))
  replace F_valueName := F_valueName.other W17 (Or.inr (slot_ne (Or.inr (hw _ (List.mem_of_getElem? (i := 128) rfl))) (Or.inr (hw _ (List.mem_of_getElem? (i := 130) rfl))) (by decide) (t := (.object "java/lang/String")) (t' := .boolean) (by decide) (by decide)))
  replace F_repeated := F_repeated.other W17 (Or.inr (slot_ne (Or.inr (hw _ (List.mem_of_getElem? (i := 132) rfl))) (Or.inr (hw _ (List.mem_of_getElem? (i := 130) rfl))) (by decide) (t := .boolean) (t' := .boolean) (by decide) (by decide)))
  replace F_description := F_description.other W17 (Or.inr (slot_ne (Or.inr (hw _ (List.mem_of_getElem? (i := 134) rfl))) (Or.inr (hw _ (List.mem_of_getElem? (i := 130) rfl))) (by decide) (t := (.object "java/lang/String")) (t' := .boolean) (by decide) (by decide)))
  replace E_nm := E_nm.wr W17
  replace Fc_nm := Fc_nm.other W17 (Or.inl (Ne.symm ne_a1_nm))
  replace Fv_nm := Fv_nm.other W17 (Or.inl (Ne.symm ne_a1_nm))
  replace V_t1 := V_t1.other W17 (Ne.symm net)
  replace E_a7_ := E_a7_.wr W17
  replace Fc_a7_ := Fc_a7_.other W17 (Or.inl (Ne.symm ne_a1_a7_))
  replace Fv_a7_ := Fv_a7_.other W17 (Or.inl (Ne.symm ne_a1_a7_))
  replace V_b7_ := V_b7_.other W17 (Ne.symm ne_a1_b7_)
  replace E_a9_ := E_a9_.wr W17
  replace Fc_a9_ := Fc_a9_.other W17 (Or.inl (Ne.symm ne_a1_a9_))
  replace Fv_a9_ := Fv_a9_.other W17 (Or.inl (Ne.symm ne_a1_a9_))
  replace V_b9_ := V_b9_.other W17 (Ne.symm ne_a1_b9_)
  replace E_a11_ := E_a11_.wr W17
  replace Fc_a11_ := Fc_a11_.other W17 (Or.inl (Ne.symm ne_a1_a11_))
  replace Fv_a11_ := Fv_a11_.other W17 (Or.inl (Ne.symm ne_a1_a11_))
  replace V_b11_ := V_b11_.other W17 (Ne.symm ne_a1_b11_)
  replace F_required := F_required.same W17
  have N17 := Fr.snoc X17 N15 g_a1
  refine GoH.st (T' := T17) (pc' := 127) (L' := #[.val (.ref a1), .val (.ref nm), .val .null, .val (.int (0 : Int32)), .val (.int (0 : Int32)), .val (.ref ds)]) (S' := []) st17 ?_
  refine GoH.st (T' := T17) (pc' := 128) (L' := #[.val (.ref a1), .val (.ref nm), .val .null, .val (.int (0 : Int32)), .val (.int (0 : Int32)), .val (.ref ds)]) (S' := [(.ref a1)]) (fun t_ k_ => XS.aloadN X17.here hx rfl (hb hby d8_127) rfl rfl  k_) ?_
  refine GoH.st (T' := T17) (pc' := 130) (L' := #[.val (.ref a1), .val (.ref nm), .val .null, .val (.int (0 : Int32)), .val (.int (0 : Int32)), .val (.ref ds)]) (S' := [(.int (0 : Int32)), (.ref a1)]) (fun t_ k_ => XS.iload X17.here hx rfl (hb hby d8_128) rfl  k_) ?_
  obtain ⟨T19, h19, X19, e19, W19, st19⟩ := putFN X17 hx hZ hown (hw _ (List.mem_of_getElem? (i := 131) rfl)) Via.refl e17 F_repeated E_a1 (Or.inr ⟨(hw _ (List.mem_of_getElem? (i := 132) rfl)), rfl, hnm⟩) (hw _ (List.mem_of_getElem? (i := 38) rfl)) (ty := .boolean) (v' := (.int (0 : Int32))) (by decide) rfl rfl (g := (mkF m 130 #[.val (.ref a1), .val (.ref nm), .val .null, .val (.int (0 : Int32)), .val (.int (0 : Int32)), .val (.ref ds)] [(.int (0 : Int32)), (.ref a1)])) rfl rfl (hb hby d8_130)
  have Sw20 : Safe Z EL T11.vm h17 a1 := S_a1
  replace S_a1 := Safe.wr W19 Sw20 CR.1 S_a1
  replace CR := CR.trans (CHr.wr W19 Sw20 CR.1)
  replace hk := Nat.le_trans hk (Keep.of_wr W19).1
  replace Z0 := Nat.le_trans Z0 (Keep.of_wr W19).1
  replace K0 := K0.wr W19 (Or.inl (List.mem_of_getElem? (i := 0) rfl))
  replace E_a1 := E_a1.wr W19
  replace O0 := O0.wr W19 g_a1
  replace F_name := F_name.other W19 (Or.inr (slot_ne (Or.inr (hw _ (List.mem_of_getElem? (i := 126) rfl))) (Or.inr (hw _ (List.mem_of_getElem? (i := 132) rfl))) (by decide) (t := (.object "java/lang/String")) (t' := .boolean) (by decide) (by decide)))
  replace F_valueName := F_valueName.other W19 (Or.inr (slot_ne (Or.inr (hw _ (List.mem_of_getElem? (i := 128) rfl))) (Or.inr (hw _ (List.mem_of_getElem? (i := 132) rfl))) (by decide) (t := (.object "java/lang/String")) (t' := .boolean) (by decide) (by decide)))
  replace F_required := F_required.other W19 (Or.inr (slot_ne (Or.inr (hw _ (List.mem_of_getElem? (i := 130) rfl))) (Or.inr (hw _ (List.mem_of_getElem? (i := 132) rfl))) (by decide) (t := .boolean) (t' := .boolean) (by decide) (by decide)))
  replace F_description := F_description.other W19 (Or.inr (slot_ne (Or.inr (hw _ (List.mem_of_getElem? (i := 134) rfl))) (Or.inr (hw _ (List.mem_of_getElem? (i := 132) rfl))) (by decide) (t := (.object "java/lang/String")) (t' := .boolean) (by decide) (by decide)))
  replace E_nm := E_nm.wr W19
  replace Fc_nm := Fc_nm.other W19 (Or.inl (Ne.symm ne_a1_nm))
  replace Fv_nm := Fv_nm.other W19 (Or.inl (Ne.symm ne_a1_nm))
  replace V_t1 := V_t1.other W19 (Ne.symm net)
  replace E_a7_ := E_a7_.wr W19
  replace Fc_a7_ := Fc_a7_.other W19 (Or.inl (Ne.symm ne_a1_a7_))
  replace Fv_a7_ := Fv_a7_.other W19 (Or.inl (Ne.symm ne_a1_a7_))
  replace V_b7_ := V_b7_.other W19 (Ne.symm ne_a1_b7_)
  replace E_a9_ := E_a9_.wr W19
  replace Fc_a9_ := Fc_a9_.other W19 (Or.inl (Ne.symm ne_a1_a9_))
  replace Fv_a9_ := Fv_a9_.other W19 (Or.inl (Ne.symm ne_a1_a9_))
  replace V_b9_ := V_b9_.other W19 (Ne.symm ne_a1_b9_)
  replace E_a11_ := E_a11_.wr W19
  replace Fc_a11_ := Fc_a11_.other W19 (Or.inl (Ne.symm ne_a1_a11_))
  replace Fv_a11_ := Fv_a11_.other W19 (Or.inl (Ne.symm ne_a1_a11_))
  replace V_b11_ := V_b11_.other W19 (Ne.symm ne_a1_b11_)
  replace F_repeated := F_repeated.same W19
  have N19 := Fr.snoc X19 N17 g_a1
  refine GoH.st (T' := T19) (pc' := 133) (L' := #[.val (.ref a1), .val (.ref nm), .val .null, .val (.int (0 : Int32)), .val (.int (0 : Int32)), .val (.ref ds)]) (S' := []) st19 ?_
  refine GoH.st (T' := T19) (pc' := 134) (L' := #[.val (.ref a1), .val (.ref nm), .val .null, .val (.int (0 : Int32)), .val (.int (0 : Int32)), .val (.ref ds)]) (S' := [(.ref a1)]) (fun t_ k_ => XS.aloadN X19.here hx rfl (hb hby d8_133) rfl rfl  k_) ?_
  refine GoH.st (T' := T19) (pc' := 136) (L' := #[.val (.ref a1), .val (.ref nm), .val .null, .val (.int (0 : Int32)), .val (.int (0 : Int32)), .val (.ref ds)]) (S' := [(.ref ds), (.ref a1)]) (fun t_ k_ => XS.aload X19.here hx rfl (hb hby d8_134) rfl rfl  k_) ?_
  obtain ⟨T21, h21, X21, e21, W21, st21⟩ := putF X19 hx hZ hown (host := "") (Or.inl (hw _ (List.mem_of_getElem? (i := 133) rfl))) Via.refl e19 F_description E_a1 (Or.inr ⟨(hw _ (List.mem_of_getElem? (i := 134) rfl)), rfl, hnm⟩) (hw _ (List.mem_of_getElem? (i := 38) rfl)) (ty := (.object "java/lang/String")) (by decide) rfl rfl (g := (mkF m 136 #[.val (.ref a1), .val (.ref nm), .val .null, .val (.int (0 : Int32)), .val (.int (0 : Int32)), .val (.ref ds)] [(.ref ds), (.ref a1)])) rfl rfl (hb hby d8_136)
  have Sw22 : Safe Z EL T11.vm h19 a1 := S_a1
  replace S_a1 := Safe.wr W21 Sw22 CR.1 S_a1
  replace CR := CR.trans (CHr.wr W21 Sw22 CR.1)
  replace hk := Nat.le_trans hk (Keep.of_wr W21).1
  replace Z0 := Nat.le_trans Z0 (Keep.of_wr W21).1
  replace K0 := K0.wr W21 (Or.inl (List.mem_of_getElem? (i := 0) rfl))
  replace E_a1 := E_a1.wr W21
  replace O0 := O0.wr W21 g_a1
  replace F_name := F_name.other W21 (Or.inr (slot_ne (Or.inr (hw _ (List.mem_of_getElem? (i := 126) rfl))) (Or.inr (hw _ (List.mem_of_getElem? (i := 134) rfl))) (by decide) (t := (.object "java/lang/String")) (t' := (.object "java/lang/String")) (by decide) (by decide)))
  replace F_valueName := F_valueName.other W21 (Or.inr (slot_ne (Or.inr (hw _ (List.mem_of_getElem? (i := 128) rfl))) (Or.inr (hw _ (List.mem_of_getElem? (i := 134) rfl))) (by decide) (t := (.object "java/lang/String")) (t' := (.object "java/lang/String")) (by decide) (by decide)))
  replace F_required := F_required.other W21 (Or.inr (slot_ne (Or.inr (hw _ (List.mem_of_getElem? (i := 130) rfl))) (Or.inr (hw _ (List.mem_of_getElem? (i := 134) rfl))) (by decide) (t := .boolean) (t' := (.object "java/lang/String")) (by decide) (by decide)))
  replace F_repeated := F_repeated.other W21 (Or.inr (slot_ne (Or.inr (hw _ (List.mem_of_getElem? (i := 132) rfl))) (Or.inr (hw _ (List.mem_of_getElem? (i := 134) rfl))) (by decide) (t := .boolean) (t' := (.object "java/lang/String")) (by decide) (by decide)))
  replace E_nm := E_nm.wr W21
  replace Fc_nm := Fc_nm.other W21 (Or.inl (Ne.symm ne_a1_nm))
  replace Fv_nm := Fv_nm.other W21 (Or.inl (Ne.symm ne_a1_nm))
  replace V_t1 := V_t1.other W21 (Ne.symm net)
  replace E_a7_ := E_a7_.wr W21
  replace Fc_a7_ := Fc_a7_.other W21 (Or.inl (Ne.symm ne_a1_a7_))
  replace Fv_a7_ := Fv_a7_.other W21 (Or.inl (Ne.symm ne_a1_a7_))
  replace V_b7_ := V_b7_.other W21 (Ne.symm ne_a1_b7_)
  replace E_a9_ := E_a9_.wr W21
  replace Fc_a9_ := Fc_a9_.other W21 (Or.inl (Ne.symm ne_a1_a9_))
  replace Fv_a9_ := Fv_a9_.other W21 (Or.inl (Ne.symm ne_a1_a9_))
  replace V_b9_ := V_b9_.other W21 (Ne.symm ne_a1_b9_)
  replace E_a11_ := E_a11_.wr W21
  replace Fc_a11_ := Fc_a11_.other W21 (Or.inl (Ne.symm ne_a1_a11_))
  replace Fv_a11_ := Fv_a11_.other W21 (Or.inl (Ne.symm ne_a1_a11_))
  replace V_b11_ := V_b11_.other W21 (Ne.symm ne_a1_b11_)
  replace F_description := F_description.same W21
  have N21 := Fr.snoc X21 N19 g_a1
  refine GoH.st (T' := T21) (pc' := 139) (L' := #[.val (.ref a1), .val (.ref nm), .val .null, .val (.int (0 : Int32)), .val (.int (0 : Int32)), .val (.ref ds)]) (S' := []) st21 ?_
  exact GoH.retV X21 hx hlk hret (hb hby d8_139) (by decide) (by decide) hS hk e21 hs0 hZ (own_EW hw) CR (by rw [e21]; exact ⟨rfl, N21, K0, F_valueName⟩)

def Qop1v (Z : State) (a1 : Addr) (vn : Addr) (h0 : Heap) (n0 : Nat) (v : Option Value) (h : Heap) (L : List Loc) : Prop := v = none ∧ Fr n0 L ∧ Keep h0 h [a1] ∧ Fld Z h a1 "com/example/placewright/placewright/cli/Option" "valueName" "Ljava/lang/String;" (.ref vn)
def roomop1v : Room := { frames := 4, cells := 10, slots := 104, locals := 62 }
set_option maxRecDepth 65536 in
set_option maxHeartbeats 40000000 in
theorem rmop1v (l : Launch) (Z : State) (a0 : Array Value) (hw : ∀ d ∈ tables_1, d.before a0 Z = true) (ws : List Jvm.Cond) (a1 : Addr) (nm : Addr) (t1 : Addr) (k1 : ClassId) (ds : Addr) (gC : Int32) (vn : Addr) (r3 : Int32) (r4 : Int32) (x0 : Int32) (h0 : Heap) (n0 : Nat) (Z0 : n0 ≤ h0.size) (SC : Sta Z Z.heap "java/lang/String" "COMPACT_STRINGS" "Z" (.int gC)) (PC : ¬ (gC = (0 : Int32))) (O0 : Old Z n0 h0) (E_a1 : Exa Z h0 a1 "com/example/placewright/placewright/cli/Option") (g_a1 : n0 ≤ a1) (net : a1 ≠ t1) (F_name : Fld Z h0 a1 "com/example/placewright/placewright/cli/Option" "name" "Ljava/lang/String;" .null) (F_valueName : Fld Z h0 a1 "com/example/placewright/placewright/cli/Option" "valueName" "Ljava/lang/String;" .null) (F_required : Fld Z h0 a1 "com/example/placewright/placewright/cli/Option" "required" "Z" (.int (0 : Int32))) (F_repeated : Fld Z h0 a1 "com/example/placewright/placewright/cli/Option" "repeated" "Z" (.int (0 : Int32))) (F_description : Fld Z h0 a1 "com/example/placewright/placewright/cli/Option" "description" "Ljava/lang/String;" .null) (E_nm : Exa Z h0 nm "java/lang/String") (Fc_nm : Fld Z h0 nm "java/lang/String" "coder" "B" (.int (0 : Int32))) (Fv_nm : Fld Z h0 nm "java/lang/String" "value" "[B" (.ref t1)) (V_t1 : Arv Z h0 t1 k1 .byte (1 : Int32) [(.int x0)] (.int (0 : Int32))) (hA : ¬ x0 = (45 : Int32)) (hB : ¬ x0 = (61 : Int32)) :
    MetFree l (⟨"com/example/placewright/placewright/cli/Option", "<init>", "(Ljava/lang/String;Ljava/lang/String;ZZLjava/lang/String;)V"⟩ : MethodName) (head1 (Jvm.Cond.code (⟨"com/example/placewright/placewright/cli/Option", "<init>", "(Ljava/lang/String;Ljava/lang/String;ZZLjava/lang/String;)V"⟩ : MethodName) prog_71_method_1_code 6 none :: ws) roomop1v) (fun aa_ U_ => aa_ = #[(.ref a1), (.ref nm), (.ref vn), (.int r3), (.int r4), (.ref ds)] ∧ Z.Warmed39 U_.vm ∧ U_.heap = h0 ∧ CHv Z EL U_.vm h0) (fun _ _ _ _ _ => True) (fun _ U_ o_ W_ => ∃ v_ L_, o_ = .returned v_ ∧ (Qop1v Z a1 vn h0 n0) v_ W_.heap L_ ∧ CHr Z EL U_.vm U_.heap W_.vm W_.heap ∧ ReturnedEndW U_ o_ W_ L_ roomop1v.cells roomop1v.slots) := by
  refine own_metH (Q := (Qop1v Z a1 vn h0 n0)) (L0 := #[.val (.ref a1), .val (.ref nm), .val (.ref vn), .val (.int r3), .val (.int r4), .val (.ref ds)]) (plainFor_of_name pn_5) (fun m => by first | (simp [entryFrame, mkF, argsToLocals, Value.category]; done) | rfl) ?_
  intro p e s m below meth c T0 X0 hx hby hml hown hnm hret hlk hZ e0 hs0 CR hS hk
  have N0 := Fr.nil n0
  have K0 := Keep.refl h0 [a1]
  have ne_a1_nm : a1 ≠ nm := Exa.ne E_a1 E_nm (by decide)
  have S_a1 : Safe Z EL s.vm h0 a1 := Safe.exa hZ.alike E_a1 (by decide) (by decide)
  refine GoH.st (T' := T0) (pc' := 1) (L' := #[.val (.ref a1), .val (.ref nm), .val (.ref vn), .val (.int r3), .val (.int r4), .val (.ref ds)]) (S' := [(.ref a1)]) (fun t_ k_ => XS.aloadN X0.here hx rfl (hb hby d8_0) rfl rfl  k_) ?_
  obtain ⟨_, _, ⟨T1, L1, k1, n1⟩, -, X1, ⟨Lc1, hQ1, l1, y1, z1⟩, st1⟩ := X0.specialBack hx (y := (⟨"java/lang/Record", "<init>", "()V"⟩ : MethodName)) rfl hown (mvT hZ (hw _ (List.mem_of_getElem? (i := 43) rfl))) (mvT hZ (hw _ (List.mem_of_getElem? (i := 44) rfl))) (mvT hZ (hw _ (List.mem_of_getElem? (i := 47) rfl))) (by decide) (backOf (W := 0) (rm9 l Z a0 hw [] a1 h0 n0 Z0) hZ (hw _ (List.mem_of_getElem? (i := 47) rfl)) (hw _ (List.mem_of_getElem? (i := 46) rfl)) (by decide) (by decide)) (g := (mkF m 1 #[.val (.ref a1), .val (.ref nm), .val (.ref vn), .val (.int r3), .val (.int r4), .val (.ref ds)] [(.ref a1)])) rfl (by rw [hml]; rfl) (Steps.refl _) (a := a1) (argsL := []) (rest := []) (lenOf pd_4 rfl) rfl (by show 2 * 0 + _ ≤ _; exact Nat.le_of_eq rfl) (hb hby d8_1) (fun _ _ => ⟨rfl, e0, (by decide : 0 + 0 ≤ _), (by decide : 0 + 0 ≤ _)⟩)
  dsimp only [Pt.U, Pt.locs, Pt.cells, Pt.slots] at X1 l1 y1 z1 st1 hQ1
  subst l1 y1 z1
  obtain ⟨rfl, N1q, e1⟩ := hQ1
  have N1 := Fr.app N0 N1q
  refine GoH.tr (T' := T1) (pc' := 4) (L' := #[.val (.ref a1), .val (.ref nm), .val (.ref vn), .val (.int r3), .val (.int r4), .val (.ref ds)]) (S' := []) st1 ?_
  refine GoH.st (T' := T1) (pc' := 5) (L' := #[.val (.ref a1), .val (.ref nm), .val (.ref vn), .val (.int r3), .val (.int r4), .val (.ref ds)]) (S' := [(.ref nm)]) (fun t_ k_ => XS.aloadN X1.here hx rfl (hb hby d8_4) rfl rfl  k_) ?_
  obtain ⟨a2_, T2, h2, k2, X2, e2, E2, hS2, hk2, hZ2, ho2, CR2, -, st2⟩ := ldcOH X1 hx hZ hown (hw _ (List.mem_of_getElem? (i := 49) rfl)) (own_wS hw) e1 hS hk (own_EW hw) CR.1 (g := (mkF m 5 #[.val (.ref a1), .val (.ref nm), .val (.ref vn), .val (.int r3), .val (.int r4), .val (.ref ds)] [(.ref nm)])) rfl (hb hby d8_5) (n := 16) (by decide) (by decide) (by decide) (by decide)
  replace S_a1 := CR2.safe E_a1.lt S_a1
  replace CR := CR.trans CR2
  replace Z0 := Nat.le_trans Z0 E2.1
  replace K0 := K0.ext E2
  replace E_a1 := E_a1.ext E2
  replace O0 := O0.ext E2
  replace F_name := F_name.ext E2
  replace F_valueName := F_valueName.ext E2
  replace F_required := F_required.ext E2
  replace F_repeated := F_repeated.ext E2
  replace F_description := F_description.ext E2
  replace E_nm := E_nm.ext E2
  replace Fc_nm := Fc_nm.ext E2
  replace Fv_nm := Fv_nm.ext E2
  replace V_t1 := V_t1.ext E2
  replace hZ := hZ2
  replace hown := ho2
  replace hS := hS2
  replace hk := hk2
  refine GoH.st (T' := T2) (pc' := 7) (L' := #[.val (.ref a1), .val (.ref nm), .val (.ref vn), .val (.int r3), .val (.int r4), .val (.ref ds)]) (S' := [(.ref a2_), (.ref nm)]) st2 ?_
  obtain ⟨_, _, ⟨T3, L3, k3, n3⟩, -, X3, ⟨Lc3, hQ3, l3, y3, z3⟩, st3⟩ := Jvm.LawKit.callS X2 hx (y := (⟨"java/util/Objects", "requireNonNull", "(Ljava/lang/Object;Ljava/lang/String;)Ljava/lang/Object;"⟩ : MethodName)) hown (mvT hZ (hw _ (List.mem_of_getElem? (i := 50) rfl))) (mvT hZ (hw _ (List.mem_of_getElem? (i := 51) rfl))) (mvT hZ (hw _ (List.mem_of_getElem? (i := 52) rfl))) (mvT hZ (hw _ (List.mem_of_getElem? (i := 53) rfl))) (by decide) (backOf (W := 0) (rm10 l Z a0 hw [] nm a2_ h2 n0 Z0) hZ (hw _ (List.mem_of_getElem? (i := 53) rfl)) (hw _ (List.mem_of_getElem? (i := 52) rfl)) (by decide) (by decide)) (g := (mkF m 7 #[.val (.ref a1), .val (.ref nm), .val (.ref vn), .val (.int r3), .val (.int r4), .val (.ref ds)] [(.ref a2_), (.ref nm)])) rfl (by rw [hml]; rfl) (argsL := [(.ref nm), (.ref a2_)]) (rest := []) (lenOf pd_5 rfl) rfl (by show 2 * 0 + _ ≤ _; exact Nat.le_of_eq rfl) (hb hby d8_7) (fun _ _ => ⟨rfl, e2, (by decide : 2 + 0 ≤ _), (by decide : 20 + 0 ≤ _)⟩)
  dsimp only [Pt.U, Pt.locs, Pt.cells, Pt.slots] at X3 l3 y3 z3 st3 hQ3
  subst l3 y3 z3
  obtain ⟨rfl, N3q, e3⟩ := hQ3
  have N3 := Fr.app N1 N3q
  refine GoH.st (T' := T3) (pc' := 10) (L' := #[.val (.ref a1), .val (.ref nm), .val (.ref vn), .val (.int r3), .val (.int r4), .val (.ref ds)]) (S' := [(.ref nm)]) st3 ?_
  refine GoH.st (T' := T3) (pc' := 11) (L' := #[.val (.ref a1), .val (.ref nm), .val (.ref vn), .val (.int r3), .val (.int r4), .val (.ref ds)]) (S' := []) (fun t_ k_ => XS.pop X3.here hx rfl (hb hby d8_10) rfl rfl k_) ?_
  refine GoH.st (T' := T3) (pc' := 13) (L' := #[.val (.ref a1), .val (.ref nm), .val (.ref vn), .val (.int r3), .val (.int r4), .val (.ref ds)]) (S' := [(.ref ds)]) (fun t_ k_ => XS.aload X3.here hx rfl (hb hby d8_11) rfl rfl  k_) ?_
  obtain ⟨a4_, T4, h4, k4, X4, e4, E4, hS4, hk4, hZ4, ho4, CR4, -, st4⟩ := ldcOH X3 hx hZ hown (hw _ (List.mem_of_getElem? (i := 54) rfl)) (own_wS hw) e3 hS hk (own_EW hw) CR.1 (g := (mkF m 13 #[.val (.ref a1), .val (.ref nm), .val (.ref vn), .val (.int r3), .val (.int r4), .val (.ref ds)] [(.ref ds)])) rfl (hb hby d8_13) (n := 44) (by decide) (by decide) (by decide) (by decide)
  replace S_a1 := CR4.safe E_a1.lt S_a1
  replace CR := CR.trans CR4
  replace Z0 := Nat.le_trans Z0 E4.1
  replace K0 := K0.ext E4
  replace E_a1 := E_a1.ext E4
  replace O0 := O0.ext E4
  replace F_name := F_name.ext E4
  replace F_valueName := F_valueName.ext E4
  replace F_required := F_required.ext E4
  replace F_repeated := F_repeated.ext E4
  replace F_description := F_description.ext E4
  replace E_nm := E_nm.ext E4
  replace Fc_nm := Fc_nm.ext E4
  replace Fv_nm := Fv_nm.ext E4
  replace V_t1 := V_t1.ext E4
  replace hZ := hZ4
  replace hown := ho4
  replace hS := hS4
  replace hk := hk4
  refine GoH.st (T' := T4) (pc' := 15) (L' := #[.val (.ref a1), .val (.ref nm), .val (.ref vn), .val (.int r3), .val (.int r4), .val (.ref ds)]) (S' := [(.ref a4_), (.ref ds)]) st4 ?_
  obtain ⟨_, _, ⟨T5, L5, k5, n5⟩, -, X5, ⟨Lc5, hQ5, l5, y5, z5⟩, st5⟩ := Jvm.LawKit.callS X4 hx (y := (⟨"java/util/Objects", "requireNonNull", "(Ljava/lang/Object;Ljava/lang/String;)Ljava/lang/Object;"⟩ : MethodName)) hown (mvT hZ (hw _ (List.mem_of_getElem? (i := 50) rfl))) (mvT hZ (hw _ (List.mem_of_getElem? (i := 51) rfl))) (mvT hZ (hw _ (List.mem_of_getElem? (i := 52) rfl))) (mvT hZ (hw _ (List.mem_of_getElem? (i := 53) rfl))) (by decide) (backOf (W := 0) (rm10 l Z a0 hw [] ds a4_ h4 n0 Z0) hZ (hw _ (List.mem_of_getElem? (i := 53) rfl)) (hw _ (List.mem_of_getElem? (i := 52) rfl)) (by decide) (by decide)) (g := (mkF m 15 #[.val (.ref a1), .val (.ref nm), .val (.ref vn), .val (.int r3), .val (.int r4), .val (.ref ds)] [(.ref a4_), (.ref ds)])) rfl (by rw [hml]; rfl) (argsL := [(.ref ds), (.ref a4_)]) (rest := []) (lenOf pd_5 rfl) rfl (by show 2 * 0 + _ ≤ _; exact Nat.le_of_eq rfl) (hb hby d8_15) (fun _ _ => ⟨rfl, e4, (by decide : 4 + 0 ≤ _), (by decide : 68 + 0 ≤ _)⟩)
  dsimp only [Pt.U, Pt.locs, Pt.cells, Pt.slots] at X5 l5 y5 z5 st5 hQ5
  subst l5 y5 z5
  obtain ⟨rfl, N5q, e5⟩ := hQ5
  have N5 := Fr.app N3 N5q
  refine GoH.st (T' := T5) (pc' := 18) (L' := #[.val (.ref a1), .val (.ref nm), .val (.ref vn), .val (.int r3), .val (.int r4), .val (.ref ds)]) (S' := [(.ref ds)]) st5 ?_
  refine GoH.st (T' := T5) (pc' := 19) (L' := #[.val (.ref a1), .val (.ref nm), .val (.ref vn), .val (.int r3), .val (.int r4), .val (.ref ds)]) (S' := []) (fun t_ k_ => XS.pop X5.here hx rfl (hb hby d8_18) rfl rfl k_) ?_
  refine GoH.st (T' := T5) (pc' := 20) (L' := #[.val (.ref a1), .val (.ref nm), .val (.ref vn), .val (.int r3), .val (.int r4), .val (.ref ds)]) (S' := [(.ref nm)]) (fun t_ k_ => XS.aloadN X5.here hx rfl (hb hby d8_19) rfl rfl  k_) ?_
  obtain ⟨cq6, kq6, q6a, q6b, q6c⟩ := isOf hZ e5 E_nm
  obtain ⟨_, _, ⟨T6, L6, k6, n6⟩, -, X6, ⟨Lc6, hQ6, l6, y6, z6⟩, st6⟩ := X5.virtualBack hx (y := (⟨"java/lang/String", "isEmpty", "()Z"⟩ : MethodName)) (z := (⟨"java/lang/String", "isEmpty", "()Z"⟩ : MethodName)) hown (mvT hZ (hw _ (List.mem_of_getElem? (i := 55) rfl))) (mvT hZ (hw _ (List.mem_of_getElem? (i := 56) rfl))) (notFace_of_selects (args := #[]) (mvT hZ (hw _ (List.mem_of_getElem? (i := 58) rfl)))) (mvT hZ (hw _ (List.mem_of_getElem? (i := 58) rfl))) (mvT hZ (hw _ (List.mem_of_getElem? (i := 57) rfl))) (by decide) (backOf (W := 0) (rmemp1 l Z a0 hw [] nm t1 _ gC (x0) h4 n0 Z0 SC PC O0 E_nm Fc_nm Fv_nm V_t1) hZ (hw _ (List.mem_of_getElem? (i := 59) rfl)) (hw _ (List.mem_of_getElem? (i := 2) rfl)) (by decide) (by decide)) q6a q6c (g := (mkF m 20 #[.val (.ref a1), .val (.ref nm), .val (.ref vn), .val (.int r3), .val (.int r4), .val (.ref ds)] [(.ref nm)])) rfl (by rw [hml]; rfl) (Steps.refl _) (argsL := []) (rest := []) (lenOf pd_6 rfl) rfl (by show 2 * 0 + _ ≤ _; exact Nat.le_of_eq rfl) (hb hby d8_20) (fun _ _ => ⟨rfl, e5, (by decide : 4 + 0 ≤ _), (by decide : 68 + 0 ≤ _)⟩)
  dsimp only [Pt.U, Pt.locs, Pt.cells, Pt.slots] at X6 l6 y6 z6 st6 hQ6
  subst l6 y6 z6
  obtain ⟨rfl, N6q, e6⟩ := hQ6
  have N6 := Fr.app N5 N6q
  refine GoH.tr (T' := T6) (pc' := 23) (L' := #[.val (.ref a1), .val (.ref nm), .val (.ref vn), .val (.int r3), .val (.int r4), .val (.ref ds)]) (S' := [(.int (0 : Int32))]) st6 ?_
  refine GoH.st (T' := T6) (pc' := 26) (L' := #[.val (.ref a1), .val (.ref nm), .val (.ref vn), .val (.int r3), .val (.int r4), .val (.ref ds)]) (S' := []) (fun t_ k_ => XS.ifNo X6.here hx rfl (hb hby d8_23) rfl ((if0 _ _).trans (teq (by decide : ((0 : Int32) = (0 : Int32)))).2) k_) ?_
  refine GoH.st (T' := T6) (pc' := 27) (L' := #[.val (.ref a1), .val (.ref nm), .val (.ref vn), .val (.int r3), .val (.int r4), .val (.ref ds)]) (S' := [(.ref nm)]) (fun t_ k_ => XS.aloadN X6.here hx rfl (hb hby d8_26) rfl rfl  k_) ?_
  obtain ⟨a7_, T7, h7, k7, b7_, c7, X7, e7, E7, hS7, hk7, hZ7, ho7, E_a7_, Fc_a7_, Fv_a7_, V_b7_, lta7, ltb7, CR7, -, Sf7, st7⟩ := ldcCH X6 hx hZ hown (hw _ (List.mem_of_getElem? (i := 60) rfl)) (own_wS hw) e6 hS hk (own_EW hw) (by decide : ("com/example/placewright/placewright/cli/Option", 23) ∈ EL) CR.1 (vs := [(.int (45 : Int32))]) (z := (1 : Int32)) ⟨by decide, by decide⟩ (by decide) rfl (g := (mkF m 27 #[.val (.ref a1), .val (.ref nm), .val (.ref vn), .val (.int r3), .val (.int r4), .val (.ref ds)] [(.ref nm)])) rfl (hb hby d8_27) (n := 4) (by decide) (by decide) (by decide) (by decide)
  replace S_a1 := CR7.safe E_a1.lt S_a1
  replace CR := CR.trans CR7
  replace Z0 := Nat.le_trans Z0 E7.1
  replace K0 := K0.ext E7
  replace E_a1 := E_a1.ext E7
  replace O0 := O0.ext E7
  replace F_name := F_name.ext E7
  replace F_valueName := F_valueName.ext E7
  replace F_required := F_required.ext E7
  replace F_repeated := F_repeated.ext E7
  replace F_description := F_description.ext E7
  replace E_nm := E_nm.ext E7
  replace Fc_nm := Fc_nm.ext E7
  replace Fv_nm := Fv_nm.ext E7
  replace V_t1 := V_t1.ext E7
  replace hZ := hZ7
  replace hown := ho7
  replace hS := hS7
  replace hk := hk7
  have ne_a1_a7_ := (Sf7 _ S_a1).1
  have ne_a1_b7_ := (Sf7 _ S_a1).2
  refine GoH.st (T' := T7) (pc' := 29) (L' := #[.val (.ref a1), .val (.ref nm), .val (.ref vn), .val (.int r3), .val (.int r4), .val (.ref ds)]) (S' := [(.ref a7_), (.ref nm)]) st7 ?_
  obtain ⟨cq8, kq8, q8a, q8b, q8c⟩ := isOf hZ e7 E_nm
  obtain ⟨_, _, ⟨T8, L8, k8, n8⟩, -, X8, ⟨Lc8, hQ8, l8, y8, z8⟩, st8⟩ := X7.virtualBack hx (y := (⟨"java/lang/String", "startsWith", "(Ljava/lang/String;)Z"⟩ : MethodName)) (z := (⟨"java/lang/String", "startsWith", "(Ljava/lang/String;)Z"⟩ : MethodName)) hown (mvT hZ (hw _ (List.mem_of_getElem? (i := 61) rfl))) (mvT hZ (hw _ (List.mem_of_getElem? (i := 62) rfl))) (notFace_of_selects (args := #[]) (mvT hZ (hw _ (List.mem_of_getElem? (i := 64) rfl)))) (mvT hZ (hw _ (List.mem_of_getElem? (i := 64) rfl))) (mvT hZ (hw _ (List.mem_of_getElem? (i := 63) rfl))) (by decide) (backOf (W := 0) (rmstw1_45 l Z a0 hw [] nm a7_ t1 b7_ _ _ gC (x0) h7 n0 Z0 SC PC O0 E_nm Fc_nm Fv_nm V_t1 E_a7_ Fc_a7_ Fv_a7_ V_b7_ hA) hZ (hw _ (List.mem_of_getElem? (i := 65) rfl)) (hw _ (List.mem_of_getElem? (i := 2) rfl)) (by decide) (by decide)) q8a q8c (g := (mkF m 29 #[.val (.ref a1), .val (.ref nm), .val (.ref vn), .val (.int r3), .val (.int r4), .val (.ref ds)] [(.ref a7_), (.ref nm)])) rfl (by rw [hml]; rfl) (Steps.refl _) (argsL := [(.ref a7_)]) (rest := []) (lenOf pd_11 rfl) rfl (by show 2 * 0 + _ ≤ _; exact Nat.le_of_eq rfl) (hb hby d8_29) (fun _ _ => ⟨rfl, e7, (by decide : 6 + 0 ≤ _), (by decide : 76 + 0 ≤ _)⟩)
  dsimp only [Pt.U, Pt.locs, Pt.cells, Pt.slots] at X8 l8 y8 z8 st8 hQ8
  subst l8 y8 z8
  obtain ⟨rfl, N8q, e8⟩ := hQ8
  have N8 := Fr.app N6 N8q
  refine GoH.tr (T' := T8) (pc' := 32) (L' := #[.val (.ref a1), .val (.ref nm), .val (.ref vn), .val (.int r3), .val (.int r4), .val (.ref ds)]) (S' := [(.int (0 : Int32))]) st8 ?_
  refine GoH.st (T' := T8) (pc' := 35) (L' := #[.val (.ref a1), .val (.ref nm), .val (.ref vn), .val (.int r3), .val (.int r4), .val (.ref ds)]) (S' := []) (fun t_ k_ => XS.ifNo X8.here hx rfl (hb hby d8_32) rfl ((if0 _ _).trans (teq (by decide : ((0 : Int32) = (0 : Int32)))).2) k_) ?_
  refine GoH.st (T' := T8) (pc' := 36) (L' := #[.val (.ref a1), .val (.ref nm), .val (.ref vn), .val (.int r3), .val (.int r4), .val (.ref ds)]) (S' := [(.ref nm)]) (fun t_ k_ => XS.aloadN X8.here hx rfl (hb hby d8_35) rfl rfl  k_) ?_
  obtain ⟨a9_, T9, h9, k9, b9_, c9, X9, e9, E9, hS9, hk9, hZ9, ho9, E_a9_, Fc_a9_, Fv_a9_, V_b9_, lta9, ltb9, CR9, -, Sf9, st9⟩ := ldcCH X8 hx hZ hown (hw _ (List.mem_of_getElem? (i := 85) rfl)) (own_wS hw) e8 hS hk (own_EW hw) (by decide : ("com/example/placewright/placewright/cli/Option", 29) ∈ EL) CR.1 (vs := [(.int (61 : Int32))]) (z := (1 : Int32)) ⟨by decide, by decide⟩ (by decide) rfl (g := (mkF m 36 #[.val (.ref a1), .val (.ref nm), .val (.ref vn), .val (.int r3), .val (.int r4), .val (.ref ds)] [(.ref nm)])) rfl (hb hby d8_36) (n := 4) (by decide) (by decide) (by decide) (by decide)
  replace S_a1 := CR9.safe E_a1.lt S_a1
  replace CR := CR.trans CR9
  replace Z0 := Nat.le_trans Z0 E9.1
  replace K0 := K0.ext E9
  replace E_a1 := E_a1.ext E9
  replace O0 := O0.ext E9
  replace F_name := F_name.ext E9
  replace F_valueName := F_valueName.ext E9
  replace F_required := F_required.ext E9
  replace F_repeated := F_repeated.ext E9
  replace F_description := F_description.ext E9
  replace E_nm := E_nm.ext E9
  replace Fc_nm := Fc_nm.ext E9
  replace Fv_nm := Fv_nm.ext E9
  replace V_t1 := V_t1.ext E9
  replace E_a7_ := E_a7_.ext E9
  replace Fc_a7_ := Fc_a7_.ext E9
  replace Fv_a7_ := Fv_a7_.ext E9
  replace V_b7_ := V_b7_.ext E9
  replace hZ := hZ9
  replace hown := ho9
  replace hS := hS9
  replace hk := hk9
  have ne_a1_a9_ := (Sf9 _ S_a1).1
  have ne_a1_b9_ := (Sf9 _ S_a1).2
  refine GoH.st (T' := T9) (pc' := 38) (L' := #[.val (.ref a1), .val (.ref nm), .val (.ref vn), .val (.int r3), .val (.int r4), .val (.ref ds)]) (S' := [(.ref a9_), (.ref nm)]) st9 ?_
  obtain ⟨cq10, kq10, q10a, q10b, q10c⟩ := isOf hZ e9 E_nm
  obtain ⟨_, _, ⟨T10, L10, k10, n10⟩, -, X10, ⟨Lc10, hQ10, l10, y10, z10⟩, st10⟩ := X9.virtualBack hx (y := (⟨"java/lang/String", "contains", "(Ljava/lang/CharSequence;)Z"⟩ : MethodName)) (z := (⟨"java/lang/String", "contains", "(Ljava/lang/CharSequence;)Z"⟩ : MethodName)) hown (mvT hZ (hw _ (List.mem_of_getElem? (i := 86) rfl))) (mvT hZ (hw _ (List.mem_of_getElem? (i := 87) rfl))) (notFace_of_selects (args := #[]) (mvT hZ (hw _ (List.mem_of_getElem? (i := 89) rfl)))) (mvT hZ (hw _ (List.mem_of_getElem? (i := 89) rfl))) (mvT hZ (hw _ (List.mem_of_getElem? (i := 88) rfl))) (by decide) (backOf (W := 0) (rmcnt1_61 l Z a0 hw [] nm a9_ t1 b9_ _ _ gC (x0) h9 n0 Z0 SC PC O0 E_nm Fc_nm Fv_nm V_t1 E_a9_ Fc_a9_ Fv_a9_ V_b9_ hB) hZ (hw _ (List.mem_of_getElem? (i := 90) rfl)) (hw _ (List.mem_of_getElem? (i := 2) rfl)) (by decide) (by decide)) q10a q10c (g := (mkF m 38 #[.val (.ref a1), .val (.ref nm), .val (.ref vn), .val (.int r3), .val (.int r4), .val (.ref ds)] [(.ref a9_), (.ref nm)])) rfl (by rw [hml]; rfl) (Steps.refl _) (argsL := [(.ref a9_)]) (rest := []) (lenOf pd_15 rfl) rfl (by show 2 * 0 + _ ≤ _; exact Nat.le_of_eq rfl) (hb hby d8_38) (fun _ _ => ⟨rfl, e9, (by decide : 8 + 0 ≤ _), (by decide : 84 + 0 ≤ _)⟩)
  dsimp only [Pt.U, Pt.locs, Pt.cells, Pt.slots] at X10 l10 y10 z10 st10 hQ10
  subst l10 y10 z10
  obtain ⟨rfl, N10q, e10⟩ := hQ10
  have N10 := Fr.app N8 N10q
  refine GoH.tr (T' := T10) (pc' := 41) (L' := #[.val (.ref a1), .val (.ref nm), .val (.ref vn), .val (.int r3), .val (.int r4), .val (.ref ds)]) (S' := [(.int (0 : Int32))]) st10 ?_
  refine GoH.st (T' := T10) (pc' := 44) (L' := #[.val (.ref a1), .val (.ref nm), .val (.ref vn), .val (.int r3), .val (.int r4), .val (.ref ds)]) (S' := []) (fun t_ k_ => XS.ifNo X10.here hx rfl (hb hby d8_41) rfl ((if0 _ _).trans (teq (by decide : ((0 : Int32) = (0 : Int32)))).2) k_) ?_
  refine GoH.st (T' := T10) (pc' := 45) (L' := #[.val (.ref a1), .val (.ref nm), .val (.ref vn), .val (.int r3), .val (.int r4), .val (.ref ds)]) (S' := [(.ref nm)]) (fun t_ k_ => XS.aloadN X10.here hx rfl (hb hby d8_44) rfl rfl  k_) ?_
  obtain ⟨a11_, T11, h11, k11, b11_, c11, X11, e11, E11, hS11, hk11, hZ11, ho11, E_a11_, Fc_a11_, Fv_a11_, V_b11_, lta11, ltb11, CR11, -, Sf11, st11⟩ := ldcCH X10 hx hZ hown (hw _ (List.mem_of_getElem? (i := 116) rfl)) (own_wS hw) e10 hS hk (own_EW hw) (by decide : ("com/example/placewright/placewright/cli/Option", 35) ∈ EL) CR.1 (vs := [(.int (104 : Int32)), (.int (101 : Int32)), (.int (108 : Int32)), (.int (112 : Int32))]) (z := (4 : Int32)) ⟨by decide, by decide⟩ (by decide) rfl (g := (mkF m 45 #[.val (.ref a1), .val (.ref nm), .val (.ref vn), .val (.int r3), .val (.int r4), .val (.ref ds)] [(.ref nm)])) rfl (hb hby d8_45) (n := 16) (by decide) (by decide) (by decide) (by decide)
  replace S_a1 := CR11.safe E_a1.lt S_a1
  replace CR := CR.trans CR11
  replace Z0 := Nat.le_trans Z0 E11.1
  replace K0 := K0.ext E11
  replace E_a1 := E_a1.ext E11
  replace O0 := O0.ext E11
  replace F_name := F_name.ext E11
  replace F_valueName := F_valueName.ext E11
  replace F_required := F_required.ext E11
  replace F_repeated := F_repeated.ext E11
  replace F_description := F_description.ext E11
  replace E_nm := E_nm.ext E11
  replace Fc_nm := Fc_nm.ext E11
  replace Fv_nm := Fv_nm.ext E11
  replace V_t1 := V_t1.ext E11
  replace E_a7_ := E_a7_.ext E11
  replace Fc_a7_ := Fc_a7_.ext E11
  replace Fv_a7_ := Fv_a7_.ext E11
  replace V_b7_ := V_b7_.ext E11
  replace E_a9_ := E_a9_.ext E11
  replace Fc_a9_ := Fc_a9_.ext E11
  replace Fv_a9_ := Fv_a9_.ext E11
  replace V_b9_ := V_b9_.ext E11
  replace hZ := hZ11
  replace hown := ho11
  replace hS := hS11
  replace hk := hk11
  have ne_a1_a11_ := (Sf11 _ S_a1).1
  have ne_a1_b11_ := (Sf11 _ S_a1).2
  refine GoH.st (T' := T11) (pc' := 47) (L' := #[.val (.ref a1), .val (.ref nm), .val (.ref vn), .val (.int r3), .val (.int r4), .val (.ref ds)]) (S' := [(.ref a11_), (.ref nm)]) st11 ?_
  obtain ⟨cq12, kq12, q12a, q12b, q12c⟩ := isOf hZ e11 E_nm
  obtain ⟨_, _, ⟨T12, L12, k12, n12⟩, -, X12, ⟨Lc12, hQ12, l12, y12, z12⟩, st12⟩ := X11.virtualBack hx (y := (⟨"java/lang/String", "equals", "(Ljava/lang/Object;)Z"⟩ : MethodName)) (z := (⟨"java/lang/String", "equals", "(Ljava/lang/Object;)Z"⟩ : MethodName)) hown (mvT hZ (hw _ (List.mem_of_getElem? (i := 117) rfl))) (mvT hZ (hw _ (List.mem_of_getElem? (i := 118) rfl))) (notFace_of_selects (args := #[]) (mvT hZ (hw _ (List.mem_of_getElem? (i := 120) rfl)))) (mvT hZ (hw _ (List.mem_of_getElem? (i := 120) rfl))) (mvT hZ (hw _ (List.mem_of_getElem? (i := 119) rfl))) (by decide) (backOf (W := 0) (rmeqs1_104_101_108_112 l Z a0 hw [] nm a11_ t1 b11_ _ _ gC (x0) h11 n0 Z0 SC PC O0 E_nm Fc_nm Fv_nm V_t1 E_a11_ Fc_a11_ Fv_a11_ V_b11_ trivial) hZ (hw _ (List.mem_of_getElem? (i := 121) rfl)) (hw _ (List.mem_of_getElem? (i := 2) rfl)) (by decide) (by decide)) q12a q12c (g := (mkF m 47 #[.val (.ref a1), .val (.ref nm), .val (.ref vn), .val (.int r3), .val (.int r4), .val (.ref ds)] [(.ref a11_), (.ref nm)])) rfl (by rw [hml]; rfl) (Steps.refl _) (argsL := [(.ref a11_)]) (rest := []) (lenOf pd_17 rfl) rfl (by show 2 * 0 + _ ≤ _; exact Nat.le_of_eq rfl) (hb hby d8_47) (fun _ _ => ⟨rfl, e11, (by decide : 10 + 0 ≤ _), (by decide : 104 + 0 ≤ _)⟩)
  dsimp only [Pt.U, Pt.locs, Pt.cells, Pt.slots] at X12 l12 y12 z12 st12 hQ12
  subst l12 y12 z12
  obtain ⟨rfl, N12q, e12⟩ := hQ12
  have N12 := Fr.app N10 N12q
  refine GoH.tr (T' := T12) (pc' := 50) (L' := #[.val (.ref a1), .val (.ref nm), .val (.ref vn), .val (.int r3), .val (.int r4), .val (.ref ds)]) (S' := [(.int (0 : Int32))]) st12 ?_
  refine GoH.st (T' := T12) (pc' := 67) (L' := #[.val (.ref a1), .val (.ref nm), .val (.ref vn), .val (.int r3), .val (.int r4), .val (.ref ds)]) (S' := []) (fun t_ k_ => XS.ifYes X12.here hx rfl (pc0 := 50) (pc' := 67) rfl (hb hby d8_50) rfl ((if0 _ _).trans (teq (by decide : ((0 : Int32) = (0 : Int32)))).1) (by decide) (by decide) k_) ?_
  refine GoH.st (T' := T12) (pc' := 68) (L' := #[.val (.ref a1), .val (.ref nm), .val (.ref vn), .val (.int r3), .val (.int r4), .val (.ref ds)]) (S' := [(.ref vn)]) (fun t_ k_ => XS.aloadN X12.here hx rfl (hb hby d8_67) rfl rfl  k_) ?_
  refine GoH.st (T' := T12) (pc' := 89) (L' := #[.val (.ref a1), .val (.ref nm), .val (.ref vn), .val (.int r3), .val (.int r4), .val (.ref ds)]) (S' := []) (fun t_ k_ => XS.ifnonnullYes X12.here hx rfl (pc0 := 68) (pc' := 89) rfl (hb hby d8_68) rfl (by decide) (by decide) k_) ?_
  refine GoH.st (T' := T12) (pc' := 90) (L' := #[.val (.ref a1), .val (.ref nm), .val (.ref vn), .val (.int r3), .val (.int r4), .val (.ref ds)]) (S' := [(.ref vn)]) (fun t_ k_ => XS.aloadN X12.here hx rfl (hb hby d8_89) rfl rfl  k_) ?_
  refine GoH.st (T' := T12) (pc' := 112) (L' := #[.val (.ref a1), .val (.ref nm), .val (.ref vn), .val (.int r3), .val (.int r4), .val (.ref ds)]) (S' := []) (fun t_ k_ => XS.ifnonnullYes X12.here hx rfl (pc0 := 90) (pc' := 112) rfl (hb hby d8_90) rfl (by decide) (by decide) k_) ?_
  refine GoH.st (T' := T12) (pc' := 113) (L' := #[.val (.ref a1), .val (.ref nm), .val (.ref vn), .val (.int r3), .val (.int r4), .val (.ref ds)]) (S' := [(.ref a1)]) (fun t_ k_ => XS.aloadN X12.here hx rfl (hb hby d8_112) rfl rfl  k_) ?_
  refine GoH.st (T' := T12) (pc' := 114) (L' := #[.val (.ref a1), .val (.ref nm), .val (.ref vn), .val (.int r3), .val (.int r4), .val (.ref ds)]) (S' := [(.ref nm), (.ref a1)]) (fun t_ k_ => XS.aloadN X12.here hx rfl (hb hby d8_113) rfl rfl  k_) ?_
  obtain ⟨T13, h13, X13, e13, W13, st13⟩ := putF X12 hx hZ hown (host := "") (Or.inl (hw _ (List.mem_of_getElem? (i := 125) rfl))) Via.refl e12 F_name E_a1 (Or.inr ⟨(hw _ (List.mem_of_getElem? (i := 126) rfl)), rfl, hnm⟩) (hw _ (List.mem_of_getElem? (i := 38) rfl)) (ty := (.object "java/lang/String")) (by decide) rfl rfl (g := (mkF m 114 #[.val (.ref a1), .val (.ref nm), .val (.ref vn), .val (.int r3), .val (.int r4), .val (.ref ds)] [(.ref nm), (.ref a1)])) rfl rfl (hb hby d8_114)
  have Sw14 : Safe Z EL T11.vm h11 a1 := S_a1
  replace S_a1 := Safe.wr W13 Sw14 CR.1 S_a1
  replace CR := CR.trans (CHr.wr W13 Sw14 CR.1)
  replace hk := Nat.le_trans hk (Keep.of_wr W13).1
  replace Z0 := Nat.le_trans Z0 (Keep.of_wr W13).1
  replace K0 := K0.wr W13 (Or.inl (List.mem_of_getElem? (i := 0) rfl))
  replace E_a1 := E_a1.wr W13
  replace O0 := O0.wr W13 g_a1
  replace F_valueName := F_valueName.other W13 (Or.inr (slot_ne (Or.inr (hw _ (List.mem_of_getElem? (i := 128) rfl))) (Or.inr (hw _ (List.mem_of_getElem? (i := 126) rfl))) (by decide) (t := (.object "java/lang/String")) (t' := (.object "java/lang/String")) (by decide) (by decide)))
  replace F_required := F_required.other W13 (Or.inr (slot_ne (Or.inr (hw _ (List.mem_of_getElem? (i := 130) rfl))) (Or.inr (hw _ (List.mem_of_getElem? (i := 126) rfl))) (by decide) (t := .boolean) (t' := (.object "java/lang/String")) (by decide) (by decide)))
  replace F_repeated := F_repeated.other W13 (Or.inr (slot_ne (Or.inr (hw _ (List.mem_of_getElem? (i := 132) rfl))) (Or.inr (hw _ (List.mem_of_getElem? (i := 126) rfl))) (by decide) (t := .boolean) (t' := (.object "java/lang/String")) (by decide) (by decide)))
  replace F_description := F_description.other W13 (Or.inr (slot_ne (Or.inr (hw _ (List.mem_of_getElem? (i := 134) rfl))) (Or.inr (hw _ (List.mem_of_getElem? (i := 126) rfl))) (by decide) (t := (.object "java/lang/String")) (t' := (.object "java/lang/String")) (by decide) (by decide)))
  replace E_nm := E_nm.wr W13
  replace Fc_nm := Fc_nm.other W13 (Or.inl (Ne.symm ne_a1_nm))
  replace Fv_nm := Fv_nm.other W13 (Or.inl (Ne.symm ne_a1_nm))
  replace V_t1 := V_t1.other W13 (Ne.symm net)
  replace E_a7_ := E_a7_.wr W13
  replace Fc_a7_ := Fc_a7_.other W13 (Or.inl (Ne.symm ne_a1_a7_))
  replace Fv_a7_ := Fv_a7_.other W13 (Or.inl (Ne.symm ne_a1_a7_))
  replace V_b7_ := V_b7_.other W13 (Ne.symm ne_a1_b7_)
  replace E_a9_ := E_a9_.wr W13
  replace Fc_a9_ := Fc_a9_.other W13 (Or.inl (Ne.symm ne_a1_a9_))
  replace Fv_a9_ := Fv_a9_.other W13 (Or.inl (Ne.symm ne_a1_a9_))
  replace V_b9_ := V_b9_.other W13 (Ne.symm ne_a1_b9_)
  replace E_a11_ := E_a11_.wr W13
  replace Fc_a11_ := Fc_a11_.other W13 (Or.inl (Ne.symm ne_a1_a11_))
  replace Fv_a11_ := Fv_a11_.other W13 (Or.inl (Ne.symm ne_a1_a11_))
  replace V_b11_ := V_b11_.other W13 (Ne.symm ne_a1_b11_)
  replace F_name := F_name.same W13
  have N13 := Fr.snoc X13 N12 g_a1
  refine GoH.st (T' := T13) (pc' := 117) (L' := #[.val (.ref a1), .val (.ref nm), .val (.ref vn), .val (.int r3), .val (.int r4), .val (.ref ds)]) (S' := []) st13 ?_
  refine GoH.st (T' := T13) (pc' := 118) (L' := #[.val (.ref a1), .val (.ref nm), .val (.ref vn), .val (.int r3), .val (.int r4), .val (.ref ds)]) (S' := [(.ref a1)]) (fun t_ k_ => XS.aloadN X13.here hx rfl (hb hby d8_117) rfl rfl  k_) ?_
  refine GoH.st (T' := T13) (pc' := 119) (L' := #[.val (.ref a1), .val (.ref nm), .val (.ref vn), .val (.int r3), .val (.int r4), .val (.ref ds)]) (S' := [(.ref vn), (.ref a1)]) (fun t_ k_ => XS.aloadN X13.here hx rfl (hb hby d8_118) rfl rfl  k_) ?_
  obtain ⟨T15, h15, X15, e15, W15, st15⟩ := putF X13 hx hZ hown (host := "") (Or.inl (hw _ (List.mem_of_getElem? (i := 127) rfl))) Via.refl e13 F_valueName E_a1 (Or.inr ⟨(hw _ (List.mem_of_getElem? (i := 128) rfl)), rfl, hnm⟩) (hw _ (List.mem_of_getElem? (i := 38) rfl)) (ty := (.object "java/lang/String")) (by decide) rfl rfl (g := (mkF m 119 #[.val (.ref a1), .val (.ref nm), .val (.ref vn), .val (.int r3), .val (.int r4), .val (.ref ds)] [(.ref vn), (.ref a1)])) rfl rfl (hb hby d8_119)
  have Sw16 : Safe Z EL T11.vm h13 a1 := S_a1
  replace S_a1 := Safe.wr W15 Sw16 CR.1 S_a1
  replace CR := CR.trans (CHr.wr W15 Sw16 CR.1)
  replace hk := Nat.le_trans hk (Keep.of_wr W15).1
  replace Z0 := Nat.le_trans Z0 (Keep.of_wr W15).1
  replace K0 := K0.wr W15 (Or.inl (List.mem_of_getElem? (i := 0) rfl))
  replace E_a1 := E_a1.wr W15
  replace O0 := O0.wr W15 g_a1
  replace F_name := F_name.other W15 (Or.inr (slot_ne (Or.inr (hw _ (List.mem_of_getElem? (i := 126) rfl))) (Or.inr (hw _ (List.mem_of_getElem? (i := 128) rfl))) (by decide) (t := (.object "java/lang/String")) (t' := (.object "java/lang/String")) (by decide) (by decide)))
  replace F_required := F_required.other W15 (Or.inr (slot_ne (Or.inr (hw _ (List.mem_of_getElem? (i := 130) rfl))) (Or.inr (hw _ (List.mem_of_getElem? (i := 128) rfl))) (by decide) (t := .boolean) (t' := (.object "java/lang/String")) (by decide) (by decide)))
  replace F_repeated := F_repeated.other W15 (Or.inr (slot_ne (Or.inr (hw _ (List.mem_of_getElem? (i := 132) rfl))) (Or.inr (hw _ (List.mem_of_getElem? (i := 128) rfl))) (by decide) (t := .boolean) (t' := (.object "java/lang/String")) (by decide) (by decide)))
  replace F_description := F_description.other W15 (Or.inr (slot_ne (Or.inr (hw _ (List.mem_of_getElem? (i := 134) rfl))) (Or.inr (hw _ (List.mem_of_getElem? (i := 128) rfl))) (by decide) (t := (.object "java/lang/String")) (t' := (.object "java/lang/String")) (by decide) (by decide)))
  replace E_nm := E_nm.wr W15
  replace Fc_nm := Fc_nm.other W15 (Or.inl (Ne.symm ne_a1_nm))
  replace Fv_nm := Fv_nm.other W15 (Or.inl (Ne.symm ne_a1_nm))
  replace V_t1 := V_t1.other W15 (Ne.symm net)
  replace E_a7_ := E_a7_.wr W15
  replace Fc_a7_ := Fc_a7_.other W15 (Or.inl (Ne.symm ne_a1_a7_))
  replace Fv_a7_ := Fv_a7_.other W15 (Or.inl (Ne.symm ne_a1_a7_))
  replace V_b7_ := V_b7_.other W15 (Ne.symm ne_a1_b7_)
  replace E_a9_ := E_a9_.wr W15
  replace Fc_a9_ := Fc_a9_.other W15 (Or.inl (Ne.symm ne_a1_a9_))
  replace Fv_a9_ := Fv_a9_.other W15 (Or.inl (Ne.symm ne_a1_a9_))
  replace V_b9_ := V_b9_.other W15 (Ne.symm ne_a1_b9_)
  replace E_a11_ := E_a11_.wr W15
  replace Fc_a11_ := Fc_a11_.other W15 (Or.inl (Ne.symm ne_a1_a11_))
  replace Fv_a11_ := Fv_a11_.other W15 (Or.inl (Ne.symm ne_a1_a11_))
  replace V_b11_ := V_b11_.other W15 (Ne.symm ne_a1_b11_)
  replace F_valueName := F_valueName.same W15
  have N15 := Fr.snoc X15 N13 g_a1
  refine GoH.st (T' := T15) (pc' := 122) (L' := #[.val (.ref a1), .val (.ref nm), .val (.ref vn), .val (.int r3), .val (.int r4), .val (.ref ds)]) (S' := []) st15 ?_
  refine GoH.st (T' := T15) (pc' := 123) (L' := #[.val (.ref a1), .val (.ref nm), .val (.ref vn), .val (.int r3), .val (.int r4), .val (.ref ds)]) (S' := [(.ref a1)]) (fun t_ k_ => XS.aloadN X15.here hx rfl (hb hby d8_122) rfl rfl  k_) ?_
  refine GoH.st (T' := T15) (pc' := 124) (L' := #[.val (.ref a1), .val (.ref nm), .val (.ref vn), .val (.int r3), .val (.int r4), .val (.ref ds)]) (S' := [(.int r3), (.ref a1)]) (fun t_ k_ => XS.iloadN X15.here hx rfl (hb hby d8_123) rfl  k_) ?_
  obtain ⟨T17, h17, X17, e17, W17, st17⟩ := putFN X15 hx hZ hown (hw _ (List.mem_of_getElem? (i := 129) rfl)) Via.refl e15 F_required E_a1 (Or.inr ⟨(hw _ (List.mem_of_getElem? (i := 130) rfl)), rfl, hnm⟩) (hw _ (List.mem_of_getElem? (i := 38) rfl)) (ty := .boolean) (v' := (.int (nar .boolean r3))) (by decide) rfl (fits_nar_bool _) (g := (mkF m 124 #[.val (.ref a1), .val (.ref nm), .val (.ref vn), .val (.int r3), .val (.int r4), .val (.ref ds)] [(.int r3), (.ref a1)])) rfl rfl (hb hby d8_124)
  have Sw18 : Safe Z EL T11.vm h15 a1 := S_a1
  replace S_a1 := Safe.wr W17 Sw18 CR.1 S_a1
  replace CR := CR.trans (CHr.wr W17 Sw18 CR.1)
  replace hk := Nat.le_trans hk (Keep.of_wr W17).1
  replace Z0 := Nat.le_trans Z0 (Keep.of_wr W17).1
  replace K0 := K0.wr W17 (Or.inl (List.mem_of_getElem? (i := 0) rfl))
  replace E_a1 := E_a1.wr W17
  replace O0 := O0.wr W17 g_a1
  replace F_name := F_name.other W17 (Or.inr (slot_ne (Or.inr (hw _ (List.mem_of_getElem? (i := 126) rfl))) (Or.inr (hw _ (List.mem_of_getElem? (i := 130) rfl))) (by decide) (t := (.object "java/lang/String")) (t' := .boolean) (by decide) (by decide)))
  replace F_valueName := F_valueName.other W17 (Or.inr (slot_ne (Or.inr (hw _ (List.mem_of_getElem? (i := 128) rfl))) (Or.inr (hw _ (List.mem_of_getElem? (i := 130) rfl))) (by decide) (t := (.object "java/lang/String")) (t' := .boolean) (by decide) (by decide)))
  replace F_repeated := F_repeated.other W17 (Or.inr (slot_ne (Or.inr (hw _ (List.mem_of_getElem? (i := 132) rfl))) (Or.inr (hw _ (List.mem_of_getElem? (i := 130) rfl))) (by decide) (t := .boolean) (t' := .boolean) (by decide) (by decide)))
  replace F_description := F_description.other W17 (Or.inr (slot_ne (Or.inr (hw _ (List.mem_of_getElem? (i := 134) rfl))) (Or.inr (hw _ (List.mem_of_getElem? (i := 130) rfl))) (by decide) (t := (.object "java/lang/String")) (t' := .boolean) (by decide) (by decide)))
  replace E_nm := E_nm.wr W17
  replace Fc_nm := Fc_nm.other W17 (Or.inl (Ne.symm ne_a1_nm))
  replace Fv_nm := Fv_nm.other W17 (Or.inl (Ne.symm ne_a1_nm))
  replace V_t1 := V_t1.other W17 (Ne.symm net)
  replace E_a7_ := E_a7_.wr W17
  replace Fc_a7_ := Fc_a7_.other W17 (Or.inl (Ne.symm ne_a1_a7_))
  replace Fv_a7_ := Fv_a7_.other W17 (Or.inl (Ne.symm ne_a1_a7_))
  replace V_b7_ := V_b7_.other W17 (Ne.symm ne_a1_b7_)
  replace E_a9_ := E_a9_.wr W17
  replace Fc_a9_ := Fc_a9_.other W17 (Or.inl (Ne.symm ne_a1_a9_))
  replace Fv_a9_ := Fv_a9_.other W17 (Or.inl (Ne.symm ne_a1_a9_))
  replace V_b9_ := V_b9_.other W17 (Ne.symm ne_a1_b9_)
  replace E_a11_ := E_a11_.wr W17
  replace Fc_a11_ := Fc_a11_.other W17 (Or.inl (Ne.symm ne_a1_a11_))
  replace Fv_a11_ := Fv_a11_.other W17 (Or.inl (Ne.symm ne_a1_a11_))
  replace V_b11_ := V_b11_.other W17 (Ne.symm ne_a1_b11_)
  replace F_required := F_required.same W17
  have N17 := Fr.snoc X17 N15 g_a1
  refine GoH.st (T' := T17) (pc' := 127) (L' := #[.val (.ref a1), .val (.ref nm), .val (.ref vn), .val (.int r3), .val (.int r4), .val (.ref ds)]) (S' := []) st17 ?_
  refine GoH.st (T' := T17) (pc' := 128) (L' := #[.val (.ref a1), .val (.ref nm), .val (.ref vn), .val (.int r3), .val (.int r4), .val (.ref ds)]) (S' := [(.ref a1)]) (fun t_ k_ => XS.aloadN X17.here hx rfl (hb hby d8_127) rfl rfl  k_) ?_
  refine GoH.st (T' := T17) (pc' := 130) (L' := #[.val (.ref a1), .val (.ref nm), .val (.ref vn), .val (.int r3), .val (.int r4), .val (.ref ds)]) (S' := [(.int r4), (.ref a1)]) (fun t_ k_ => XS.iload X17.here hx rfl (hb hby d8_128) rfl  k_) ?_
  obtain ⟨T19, h19, X19, e19, W19, st19⟩ := putFN X17 hx hZ hown (hw _ (List.mem_of_getElem? (i := 131) rfl)) Via.refl e17 F_repeated E_a1 (Or.inr ⟨(hw _ (List.mem_of_getElem? (i := 132) rfl)), rfl, hnm⟩) (hw _ (List.mem_of_getElem? (i := 38) rfl)) (ty := .boolean) (v' := (.int (nar .boolean r4))) (by decide) rfl (fits_nar_bool _) (g := (mkF m 130 #[.val (.ref a1), .val (.ref nm), .val (.ref vn), .val (.int r3), .val (.int r4), .val (.ref ds)] [(.int r4), (.ref a1)])) rfl rfl (hb hby d8_130)
  have Sw20 : Safe Z EL T11.vm h17 a1 := S_a1
  replace S_a1 := Safe.wr W19 Sw20 CR.1 S_a1
  replace CR := CR.trans (CHr.wr W19 Sw20 CR.1)
  replace hk := Nat.le_trans hk (Keep.of_wr W19).1
  replace Z0 := Nat.le_trans Z0 (Keep.of_wr W19).1
  replace K0 := K0.wr W19 (Or.inl (List.mem_of_getElem? (i := 0) rfl))
  replace E_a1 := E_a1.wr W19
  replace O0 := O0.wr W19 g_a1
  replace F_name := F_name.other W19 (Or.inr (slot_ne (Or.inr (hw _ (List.mem_of_getElem? (i := 126) rfl))) (Or.inr (hw _ (List.mem_of_getElem? (i := 132) rfl))) (by decide) (t := (.object "java/lang/String")) (t' := .boolean) (by decide) (by decide)))
  replace F_valueName := F_valueName.other W19 (Or.inr (slot_ne (Or.inr (hw _ (List.mem_of_getElem? (i := 128) rfl))) (Or.inr (hw _ (List.mem_of_getElem? (i := 132) rfl))) (by decide) (t := (.object "java/lang/String")) (t' := .boolean) (by decide) (by decide)))
  replace F_required := F_required.other W19 (Or.inr (slot_ne (Or.inr (hw _ (List.mem_of_getElem? (i := 130) rfl))) (Or.inr (hw _ (List.mem_of_getElem? (i := 132) rfl))) (by decide) (t := .boolean) (t' := .boolean) (by decide) (by decide)))
  replace F_description := F_description.other W19 (Or.inr (slot_ne (Or.inr (hw _ (List.mem_of_getElem? (i := 134) rfl))) (Or.inr (hw _ (List.mem_of_getElem? (i := 132) rfl))) (by decide) (t := (.object "java/lang/String")) (t' := .boolean) (by decide) (by decide)))
  replace E_nm := E_nm.wr W19
  replace Fc_nm := Fc_nm.other W19 (Or.inl (Ne.symm ne_a1_nm))
  replace Fv_nm := Fv_nm.other W19 (Or.inl (Ne.symm ne_a1_nm))
  replace V_t1 := V_t1.other W19 (Ne.symm net)
  replace E_a7_ := E_a7_.wr W19
  replace Fc_a7_ := Fc_a7_.other W19 (Or.inl (Ne.symm ne_a1_a7_))
  replace Fv_a7_ := Fv_a7_.other W19 (Or.inl (Ne.symm ne_a1_a7_))
  replace V_b7_ := V_b7_.other W19 (Ne.symm ne_a1_b7_)
  replace E_a9_ := E_a9_.wr W19
  replace Fc_a9_ := Fc_a9_.other W19 (Or.inl (Ne.symm ne_a1_a9_))
  replace Fv_a9_ := Fv_a9_.other W19 (Or.inl (Ne.symm ne_a1_a9_))
  replace V_b9_ := V_b9_.other W19 (Ne.symm ne_a1_b9_)
  replace E_a11_ := E_a11_.wr W19
  replace Fc_a11_ := Fc_a11_.other W19 (Or.inl (Ne.symm ne_a1_a11_))
  replace Fv_a11_ := Fv_a11_.other W19 (Or.inl (Ne.symm ne_a1_a11_))
  replace V_b11_ := V_b11_.other W19 (Ne.symm ne_a1_b11_)
  replace F_repeated := F_repeated.same W19
  have N19 := Fr.snoc X19 N17 g_a1
  refine GoH.st (T' := T19) (pc' := 133) (L' := #[.val (.ref a1), .val (.ref nm), .val (.ref vn), .val (.int r3), .val (.int r4), .val (.ref ds)]) (S' := []) st19 ?_
  refine GoH.st (T' := T19) (pc' := 134) (L' := #[.val (.ref a1), .val (.ref nm), .val (.ref vn), .val (.int r3), .val (.int r4), .val (.ref ds)]) (S' := [(.ref a1)]) (fun t_ k_ => XS.aloadN X19.here hx rfl (hb hby d8_133) rfl rfl  k_) ?_
  refine GoH.st (T' := T19) (pc' := 136) (L' := #[.val (.ref a1), .val (.ref nm), .val (.ref vn), .val (.int r3), .val (.int r4), .val (.ref ds)]) (S' := [(.ref ds), (.ref a1)]) (fun t_ k_ => XS.aload X19.here hx rfl (hb hby d8_134) rfl rfl  k_) ?_
  obtain ⟨T21, h21, X21, e21, W21, st21⟩ := putF X19 hx hZ hown (host := "") (Or.inl (hw _ (List.mem_of_getElem? (i := 133) rfl))) Via.refl e19 F_description E_a1 (Or.inr ⟨(hw _ (List.mem_of_getElem? (i := 134) rfl)), rfl, hnm⟩) (hw _ (List.mem_of_getElem? (i := 38) rfl)) (ty := (.object "java/lang/String")) (by decide) rfl rfl (g := (mkF m 136 #[.val (.ref a1), .val (.ref nm), .val (.ref vn), .val (.int r3), .val (.int r4), .val (.ref ds)] [(.ref ds), (.ref a1)])) rfl rfl (hb hby d8_136)
  have Sw22 : Safe Z EL T11.vm h19 a1 := S_a1
  replace S_a1 := Safe.wr W21 Sw22 CR.1 S_a1
  replace CR := CR.trans (CHr.wr W21 Sw22 CR.1)
  replace hk := Nat.le_trans hk (Keep.of_wr W21).1
  replace Z0 := Nat.le_trans Z0 (Keep.of_wr W21).1
  replace K0 := K0.wr W21 (Or.inl (List.mem_of_getElem? (i := 0) rfl))
  replace E_a1 := E_a1.wr W21
  replace O0 := O0.wr W21 g_a1
  replace F_name := F_name.other W21 (Or.inr (slot_ne (Or.inr (hw _ (List.mem_of_getElem? (i := 126) rfl))) (Or.inr (hw _ (List.mem_of_getElem? (i := 134) rfl))) (by decide) (t := (.object "java/lang/String")) (t' := (.object "java/lang/String")) (by decide) (by decide)))
  replace F_valueName := F_valueName.other W21 (Or.inr (slot_ne (Or.inr (hw _ (List.mem_of_getElem? (i := 128) rfl))) (Or.inr (hw _ (List.mem_of_getElem? (i := 134) rfl))) (by decide) (t := (.object "java/lang/String")) (t' := (.object "java/lang/String")) (by decide) (by decide)))
  replace F_required := F_required.other W21 (Or.inr (slot_ne (Or.inr (hw _ (List.mem_of_getElem? (i := 130) rfl))) (Or.inr (hw _ (List.mem_of_getElem? (i := 134) rfl))) (by decide) (t := .boolean) (t' := (.object "java/lang/String")) (by decide) (by decide)))
  replace F_repeated := F_repeated.other W21 (Or.inr (slot_ne (Or.inr (hw _ (List.mem_of_getElem? (i := 132) rfl))) (Or.inr (hw _ (List.mem_of_getElem? (i := 134) rfl))) (by decide) (t := .boolean) (t' := (.object "java/lang/String")) (by decide) (by decide)))
  replace E_nm := E_nm.wr W21
  replace Fc_nm := Fc_nm.other W21 (Or.inl (Ne.symm ne_a1_nm))
  replace Fv_nm := Fv_nm.other W21 (Or.inl (Ne.symm ne_a1_nm))
  replace V_t1 := V_t1.other W21 (Ne.symm net)
  replace E_a7_ := E_a7_.wr W21
  replace Fc_a7_ := Fc_a7_.other W21 (Or.inl (Ne.symm ne_a1_a7_))
  replace Fv_a7_ := Fv_a7_.other W21 (Or.inl (Ne.symm ne_a1_a7_))
  replace V_b7_ := V_b7_.other W21 (Ne.symm ne_a1_b7_)
  replace E_a9_ := E_a9_.wr W21
  replace Fc_a9_ := Fc_a9_.other W21 (Or.inl (Ne.symm ne_a1_a9_))
  replace Fv_a9_ := Fv_a9_.other W21 (Or.inl (Ne.symm ne_a1_a9_))
  replace V_b9_ := V_b9_.other W21 (Ne.symm ne_a1_b9_)
  replace E_a11_ := E_a11_.wr W21
  replace Fc_a11_ := Fc_a11_.other W21 (Or.inl (Ne.symm ne_a1_a11_))
  replace Fv_a11_ := Fv_a11_.other W21 (Or.inl (Ne.symm ne_a1_a11_))
  replace V_b11_ := V_b11_.other W21 (Ne.symm ne_a1_b11_)
  replace F_description := F_description.same W21
  have N21 := Fr.snoc X21 N19 g_a1
  refine GoH.st (T' := T21) (pc' := 139) (L' := #[.val (.ref a1), .val (.ref nm), .val (.ref vn), .val (.int r3), .val (.int r4), .val (.ref ds)]) (S' := []) st21 ?_
  exact GoH.retV X21 hx hlk hret (hb hby d8_139) (by decide) (by decide) hS hk e21 hs0 hZ (own_EW hw) CR (by rw [e21]; exact ⟨rfl, N21, K0, F_valueName⟩)

def Qemp2 (Z : State) (a1 : Addr) (t1 : Addr) (k1 : ClassId) (gC : Int32) (x0 : Int32) (x1 : Int32) (h0 : Heap) (n0 : Nat) (v : Option Value) (h : Heap) (L : List Loc) : Prop := v = some (.int 0) ∧ Fr n0 L ∧ h = h0
def roomemp2 : Room := { frames := 0, cells := 0, slots := 0, locals := 0 }
set_option maxRecDepth 65536 in
set_option maxHeartbeats 40000000 in
theorem rmemp2 (l : Launch) (Z : State) (a0 : Array Value) (hw : ∀ d ∈ tables_1, d.before a0 Z = true) (ws : List Jvm.Cond) (a1 : Addr) (t1 : Addr) (k1 : ClassId) (gC : Int32) (x0 : Int32) (x1 : Int32) (h0 : Heap) (n0 : Nat) (Z0 : n0 ≤ h0.size) (SC : Sta Z Z.heap "java/lang/String" "COMPACT_STRINGS" "Z" (.int gC)) (PC : ¬ (gC = (0 : Int32))) (O0 : Old Z n0 h0) (E_a1 : Exa Z h0 a1 "java/lang/String") (Fc_a1 : Fld Z h0 a1 "java/lang/String" "coder" "B" (.int (0 : Int32))) (Fv_a1 : Fld Z h0 a1 "java/lang/String" "value" "[B" (.ref t1)) (V_t1 : Arv Z h0 t1 k1 .byte (2 : Int32) [(.int x0), (.int x1)] (.int (0 : Int32))) :
    MetFree l (⟨"java/lang/String", "isEmpty", "()Z"⟩ : MethodName) (head1 (Jvm.Cond.code (⟨"java/lang/String", "isEmpty", "()Z"⟩ : MethodName) jdk_42_method_55_code 1 (some .boolean) :: ws) roomemp2) (fun aa_ U_ => aa_ = #[(.ref a1)] ∧ Z.Warmed39 U_.vm ∧ U_.heap = h0) (fun _ _ _ _ _ => True) (fun _ U_ o_ W_ => ∃ v_ L_, o_ = .returned v_ ∧ (Qemp2 Z a1 t1 k1 gC x0 x1 h0 n0) v_ W_.heap L_ ∧ FrameEnd U_ o_ W_ L_ roomemp2.cells roomemp2.slots) := by
  refine own_met (Q := (Qemp2 Z a1 t1 k1 gC x0 x1 h0 n0)) (L0 := #[.val (.ref a1)]) (plainFor_of_name pn_0) (fun m => by first | (simp [entryFrame, mkF, argsToLocals, Value.category]; done) | rfl) ?_
  intro p e s m below meth c T0 X0 hx hby hml hown hnm hret hlk hZ e0
  have N0 := Fr.nil n0
  refine Go.st (T' := T0) (pc' := 1) (L' := #[.val (.ref a1)]) (S' := [(.ref a1)]) (fun t_ k_ => XS.aloadN X0.here hx rfl (hb hby d11_0) rfl rfl  k_) ?_
  obtain ⟨T1, X1, e1, st1⟩ := getF X0 hx hZ hown (host := "") (Or.inl (hw _ (List.mem_of_getElem? (i := 22) rfl))) Via.refl e0 Fv_a1 (g := (mkF m 1 #[.val (.ref a1)] [(.ref a1)])) rfl rfl (hb hby d11_1)
  refine Go.st (T' := T1) (pc' := 4) (L' := #[.val (.ref a1)]) (S' := [(.ref t1)]) st1 ?_
  obtain ⟨cl2, Ar2, -, q2a, q2b, -, -⟩ := id V_t1
  refine Go.st (T' := T1) (pc' := 5) (L' := #[.val (.ref a1)]) (S' := [(.int (2 : Int32))]) (fun t_ k_ => own_len X1 hx hZ e1 Ar2 q2a q2b (g := (mkF m 4 #[.val (.ref a1)] [(.ref t1)])) rfl rfl (hb hby d11_4) t_ k_) ?_
  refine Go.st (T' := T1) (pc' := 12) (L' := #[.val (.ref a1)]) (S' := []) (fun t_ k_ => XS.ifYes X1.here hx rfl (pc0 := 5) (pc' := 12) rfl (hb hby d11_5) rfl ((if0 _ _).trans (feq (by decide : ¬ ((2 : Int32) = (0 : Int32)))).2) (by decide) (by decide) k_) ?_
  refine Go.st (T' := T1) (pc' := 13) (L' := #[.val (.ref a1)]) (S' := [(.int (0 : Int32))]) (fun t_ k_ => XS.iconst X1.here hx rfl (hb hby d11_12) k_) ?_
  exact Go.retN X1 hx hlk hret (by simp) (hb hby d11_13) (by decide) (by decide) (by rw [e1]; exact ⟨rfl, N0, rfl⟩)

def Qlen2 (Z : State) (a1 : Addr) (t1 : Addr) (k1 : ClassId) (gC : Int32) (x0 : Int32) (x1 : Int32) (h0 : Heap) (n0 : Nat) (v : Option Value) (h : Heap) (L : List Loc) : Prop := v = some (.int 2) ∧ Fr n0 L ∧ h = h0
def roomlen2 : Room := { frames := 1, cells := 0, slots := 0, locals := 13 }
set_option maxRecDepth 65536 in
set_option maxHeartbeats 40000000 in
theorem rmlen2 (l : Launch) (Z : State) (a0 : Array Value) (hw : ∀ d ∈ tables_1, d.before a0 Z = true) (ws : List Jvm.Cond) (a1 : Addr) (t1 : Addr) (k1 : ClassId) (gC : Int32) (x0 : Int32) (x1 : Int32) (h0 : Heap) (n0 : Nat) (Z0 : n0 ≤ h0.size) (SC : Sta Z Z.heap "java/lang/String" "COMPACT_STRINGS" "Z" (.int gC)) (PC : ¬ (gC = (0 : Int32))) (O0 : Old Z n0 h0) (E_a1 : Exa Z h0 a1 "java/lang/String") (Fc_a1 : Fld Z h0 a1 "java/lang/String" "coder" "B" (.int (0 : Int32))) (Fv_a1 : Fld Z h0 a1 "java/lang/String" "value" "[B" (.ref t1)) (V_t1 : Arv Z h0 t1 k1 .byte (2 : Int32) [(.int x0), (.int x1)] (.int (0 : Int32))) :
    MetFree l (⟨"java/lang/String", "length", "()I"⟩ : MethodName) (head1 (Jvm.Cond.code (⟨"java/lang/String", "length", "()I"⟩ : MethodName) jdk_42_method_54_code 1 (some .int) :: ws) roomlen2) (fun aa_ U_ => aa_ = #[(.ref a1)] ∧ Z.Warmed39 U_.vm ∧ U_.heap = h0) (fun _ _ _ _ _ => True) (fun _ U_ o_ W_ => ∃ v_ L_, o_ = .returned v_ ∧ (Qlen2 Z a1 t1 k1 gC x0 x1 h0 n0) v_ W_.heap L_ ∧ FrameEnd U_ o_ W_ L_ roomlen2.cells roomlen2.slots) := by
  refine own_met (Q := (Qlen2 Z a1 t1 k1 gC x0 x1 h0 n0)) (L0 := #[.val (.ref a1)]) (plainFor_of_name pn_0) (fun m => by first | (simp [entryFrame, mkF, argsToLocals, Value.category]; done) | rfl) ?_
  intro p e s m below meth c T0 X0 hx hby hml hown hnm hret hlk hZ e0
  have N0 := Fr.nil n0
  refine Go.st (T' := T0) (pc' := 1) (L' := #[.val (.ref a1)]) (S' := [(.ref a1)]) (fun t_ k_ => XS.aloadN X0.here hx rfl (hb hby d14_0) rfl rfl  k_) ?_
  obtain ⟨T1, X1, e1, st1⟩ := getF X0 hx hZ hown (host := "") (Or.inl (hw _ (List.mem_of_getElem? (i := 22) rfl))) Via.refl e0 Fv_a1 (g := (mkF m 1 #[.val (.ref a1)] [(.ref a1)])) rfl rfl (hb hby d14_1)
  refine Go.st (T' := T1) (pc' := 4) (L' := #[.val (.ref a1)]) (S' := [(.ref t1)]) st1 ?_
  obtain ⟨cl2, Ar2, -, q2a, q2b, -, -⟩ := id V_t1
  refine Go.st (T' := T1) (pc' := 5) (L' := #[.val (.ref a1)]) (S' := [(.int (2 : Int32))]) (fun t_ k_ => own_len X1 hx hZ e1 Ar2 q2a q2b (g := (mkF m 4 #[.val (.ref a1)] [(.ref t1)])) rfl rfl (hb hby d14_4) t_ k_) ?_
  refine Go.st (T' := T1) (pc' := 6) (L' := #[.val (.ref a1)]) (S' := [(.ref a1), (.int (2 : Int32))]) (fun t_ k_ => XS.aloadN X1.here hx rfl (hb hby d14_5) rfl rfl  k_) ?_
  obtain ⟨cq3, kq3, q3a, q3b, q3c⟩ := isOf hZ e1 E_a1
  obtain ⟨_, _, ⟨T3, L3, k3, n3⟩, -, X3, ⟨Lc3, hQ3, l3, y3, z3⟩, st3⟩ := X1.virtualBack hx (y := (⟨"java/lang/String", "coder", "()B"⟩ : MethodName)) (z := (⟨"java/lang/String", "coder", "()B"⟩ : MethodName)) hown (mvT hZ (hw _ (List.mem_of_getElem? (i := 76) rfl))) (mvT hZ (hw _ (List.mem_of_getElem? (i := 77) rfl))) (notFace_of_selects (args := #[]) (mvT hZ (hw _ (List.mem_of_getElem? (i := 79) rfl)))) (mvT hZ (hw _ (List.mem_of_getElem? (i := 79) rfl))) (mvT hZ (hw _ (List.mem_of_getElem? (i := 78) rfl))) (by decide) (backOf (W := 1) (rm15 l Z a0 hw [] a1 gC h0 n0 Z0 SC PC O0 Fc_a1) hZ (hw _ (List.mem_of_getElem? (i := 80) rfl)) (hw _ (List.mem_of_getElem? (i := 2) rfl)) (by decide) (by decide)) q3a q3c (g := (mkF m 6 #[.val (.ref a1)] [(.ref a1), (.int (2 : Int32))])) rfl (by rw [hml]; rfl) (Steps.refl _) (argsL := []) (rest := [(.int (2 : Int32))]) (lenOf pd_7 rfl) rfl (by show 2 * 0 + _ ≤ _; exact Nat.le_of_eq rfl) (hb hby d14_6) (fun _ _ => ⟨rfl, e1, (by decide : 0 + 0 ≤ _), (by decide : 0 + 0 ≤ _)⟩)
  dsimp only [Pt.U, Pt.locs, Pt.cells, Pt.slots] at X3 l3 y3 z3 st3 hQ3
  subst l3 y3 z3
  obtain ⟨rfl, N3q, e3⟩ := hQ3
  have N3 := Fr.app N0 N3q
  refine Go.tr (T' := T3) (pc' := 9) (L' := #[.val (.ref a1)]) (S' := [(.int (0 : Int32)), (.int (2 : Int32))]) st3 ?_
  refine Go.st (T' := T3) (pc' := 10) (L' := #[.val (.ref a1)]) (S' := [(.int ((2 : Int32) >>> ((0 : Int32) &&& 31)))]) (fun t_ k_ => XS.ishr X3.here hx rfl (hb hby d14_9) rfl k_) ?_
  rw [show ((2 : Int32) >>> ((0 : Int32) &&& 31)) = (2 : Int32) from by decide]
  exact Go.retO X3 hx hlk hret rfl (by simp [FieldType.isReference, Value.isRef]) (hb hby d14_10) (by decide) (by decide) (by rw [e3]; exact ⟨rfl, N3, rfl⟩)

def Qmis2_45 (Z : State) (t1 : Addr) (t2 : Addr) (k1 : ClassId) (k2 : ClassId) (gC : Int32) (x0 : Int32) (x1 : Int32) (h0 : Heap) (n0 : Nat) (v : Option Value) (h : Heap) (L : List Loc) : Prop := v = some (.int 0) ∧ Fr n0 L ∧ h = h0
def roommis2_45 : Room := { frames := 0, cells := 0, slots := 0, locals := 0 }
set_option maxRecDepth 65536 in
set_option maxHeartbeats 40000000 in
theorem rmmis2_45 (l : Launch) (Z : State) (a0 : Array Value) (hw : ∀ d ∈ tables_1, d.before a0 Z = true) (ws : List Jvm.Cond) (t1 : Addr) (t2 : Addr) (k1 : ClassId) (k2 : ClassId) (gC : Int32) (x0 : Int32) (x1 : Int32) (h0 : Heap) (n0 : Nat) (Z0 : n0 ≤ h0.size) (SC : Sta Z Z.heap "java/lang/String" "COMPACT_STRINGS" "Z" (.int gC)) (PC : ¬ (gC = (0 : Int32))) (O0 : Old Z n0 h0) (V_t1 : Arv Z h0 t1 k1 .byte (2 : Int32) [(.int x0), (.int x1)] (.int (0 : Int32))) (V_t2 : Arv Z h0 t2 k2 .byte (1 : Int32) [(.int (45 : Int32))] (.int (0 : Int32))) (hd : ¬ x0 = (45 : Int32)) :
    MetFree l (⟨"jdk/internal/util/ArraysSupport", "mismatch", "([BI[BII)I"⟩ : MethodName) (head1 (Jvm.Cond.code (⟨"jdk/internal/util/ArraysSupport", "mismatch", "([BI[BII)I"⟩ : MethodName) jdk_48_method_14_code 8 (some .int) :: ws) roommis2_45) (fun aa_ U_ => aa_ = #[(.ref t1), (.int (0 : Int32)), (.ref t2), (.int (0 : Int32)), (.int (1 : Int32))] ∧ Z.Warmed39 U_.vm ∧ U_.heap = h0) (fun _ _ _ _ _ => True) (fun _ U_ o_ W_ => ∃ v_ L_, o_ = .returned v_ ∧ (Qmis2_45 Z t1 t2 k1 k2 gC x0 x1 h0 n0) v_ W_.heap L_ ∧ FrameEnd U_ o_ W_ L_ roommis2_45.cells roommis2_45.slots) := by
  refine own_met (Q := (Qmis2_45 Z t1 t2 k1 k2 gC x0 x1 h0 n0)) (L0 := #[.val (.ref t1), .val (.int (0 : Int32)), .val (.ref t2), .val (.int (0 : Int32)), .val (.int (1 : Int32)), .unset, .unset, .unset]) (plainFor_of_name pn_4) (fun m => by first | (simp [entryFrame, mkF, argsToLocals, Value.category]; done) | rfl) ?_
  intro p e s m below meth c T0 X0 hx hby hml hown hnm hret hlk hZ e0
  have N0 := Fr.nil n0
  refine Go.st (T' := T0) (pc' := 1) (L' := #[.val (.ref t1), .val (.int (0 : Int32)), .val (.ref t2), .val (.int (0 : Int32)), .val (.int (1 : Int32)), .unset, .unset, .unset]) (S' := [(.int (0 : Int32))]) (fun t_ k_ => XS.iconst X0.here hx rfl (hb hby d16_0) k_) ?_
  refine Go.st (T' := T0) (pc' := 3) (L' := #[.val (.ref t1), .val (.int (0 : Int32)), .val (.ref t2), .val (.int (0 : Int32)), .val (.int (1 : Int32)), .val (.int (0 : Int32)), .unset, .unset]) (S' := []) (fun t_ k_ => XS.istore X0.here hx rfl (hb hby d16_1) rfl (l' := #[.val (.ref t1), .val (.int (0 : Int32)), .val (.ref t2), .val (.int (0 : Int32)), .val (.int (1 : Int32)), .val (.int (0 : Int32)), .unset, .unset]) rfl k_) ?_
  refine Go.st (T' := T0) (pc' := 5) (L' := #[.val (.ref t1), .val (.int (0 : Int32)), .val (.ref t2), .val (.int (0 : Int32)), .val (.int (1 : Int32)), .val (.int (0 : Int32)), .unset, .unset]) (S' := [(.int (1 : Int32))]) (fun t_ k_ => XS.iload X0.here hx rfl (hb hby d16_3) rfl  k_) ?_
  refine Go.st (T' := T0) (pc' := 7) (L' := #[.val (.ref t1), .val (.int (0 : Int32)), .val (.ref t2), .val (.int (0 : Int32)), .val (.int (1 : Int32)), .val (.int (0 : Int32)), .unset, .unset]) (S' := [(.int (7 : Int32)), (.int (1 : Int32))]) (fun t_ k_ => XS.bipush X0.here hx rfl (hb hby d16_5) k_) ?_
  refine Go.st (T' := T0) (pc' := 70) (L' := #[.val (.ref t1), .val (.int (0 : Int32)), .val (.ref t2), .val (.int (0 : Int32)), .val (.int (1 : Int32)), .val (.int (0 : Int32)), .unset, .unset]) (S' := []) (fun t_ k_ => XS.icmpYes X0.here hx rfl (pc0 := 7) (pc' := 70) rfl (hb hby d16_7) rfl (flt (by decide : ¬ ((7 : Int32) < (1 : Int32)))).2.2.2 (by decide) (by decide) k_) ?_
  refine Go.st (T' := T0) (pc' := 72) (L' := #[.val (.ref t1), .val (.int (0 : Int32)), .val (.ref t2), .val (.int (0 : Int32)), .val (.int (1 : Int32)), .val (.int (0 : Int32)), .unset, .unset]) (S' := [(.int (0 : Int32))]) (fun t_ k_ => XS.iload X0.here hx rfl (hb hby d16_70) rfl  k_) ?_
  refine Go.st (T' := T0) (pc' := 74) (L' := #[.val (.ref t1), .val (.int (0 : Int32)), .val (.ref t2), .val (.int (0 : Int32)), .val (.int (1 : Int32)), .val (.int (0 : Int32)), .unset, .unset]) (S' := [(.int (1 : Int32)), (.int (0 : Int32))]) (fun t_ k_ => XS.iload X0.here hx rfl (hb hby d16_72) rfl  k_) ?_
  refine Go.st (T' := T0) (pc' := 77) (L' := #[.val (.ref t1), .val (.int (0 : Int32)), .val (.ref t2), .val (.int (0 : Int32)), .val (.int (1 : Int32)), .val (.int (0 : Int32)), .unset, .unset]) (S' := []) (fun t_ k_ => XS.icmpNo X0.here hx rfl (hb hby d16_74) rfl (tlt (by decide : ((0 : Int32) < (1 : Int32)))).2.1 k_) ?_
  refine Go.st (T' := T0) (pc' := 78) (L' := #[.val (.ref t1), .val (.int (0 : Int32)), .val (.ref t2), .val (.int (0 : Int32)), .val (.int (1 : Int32)), .val (.int (0 : Int32)), .unset, .unset]) (S' := [(.ref t1)]) (fun t_ k_ => XS.aloadN X0.here hx rfl (hb hby d16_77) rfl rfl  k_) ?_
  refine Go.st (T' := T0) (pc' := 79) (L' := #[.val (.ref t1), .val (.int (0 : Int32)), .val (.ref t2), .val (.int (0 : Int32)), .val (.int (1 : Int32)), .val (.int (0 : Int32)), .unset, .unset]) (S' := [(.int (0 : Int32)), (.ref t1)]) (fun t_ k_ => XS.iloadN X0.here hx rfl (hb hby d16_78) rfl  k_) ?_
  refine Go.st (T' := T0) (pc' := 81) (L' := #[.val (.ref t1), .val (.int (0 : Int32)), .val (.ref t2), .val (.int (0 : Int32)), .val (.int (1 : Int32)), .val (.int (0 : Int32)), .unset, .unset]) (S' := [(.int (0 : Int32)), (.int (0 : Int32)), (.ref t1)]) (fun t_ k_ => XS.iload X0.here hx rfl (hb hby d16_79) rfl  k_) ?_
  refine Go.st (T' := T0) (pc' := 82) (L' := #[.val (.ref t1), .val (.int (0 : Int32)), .val (.ref t2), .val (.int (0 : Int32)), .val (.int (1 : Int32)), .val (.int (0 : Int32)), .unset, .unset]) (S' := [(.int ((0 : Int32) + (0 : Int32))), (.ref t1)]) (fun t_ k_ => XS.iadd X0.here hx rfl (hb hby d16_81) rfl k_) ?_
  rw [show ((0 : Int32) + (0 : Int32)) = (0 : Int32) from by decide]
  obtain ⟨cl1, Ar1, -, q1a, q1b, q1c, q1d⟩ := id V_t1
  refine Go.st (T' := T0) (pc' := 83) (L' := #[.val (.ref t1), .val (.int (0 : Int32)), .val (.ref t2), .val (.int (0 : Int32)), .val (.int (1 : Int32)), .val (.int (0 : Int32)), .unset, .unset]) (S' := [(.int x0)]) (fun t_ k_ => X0.baloadBytes hx (j := (0 : Int32)) (v := (.int x0)) (by rw [e0]; exact Ar1.1) (State.isArrayOf_alike hZ.alike Ar1.2.1) Ar1.2.2 (inb_of q1a ⟨by decide, by decide⟩) (q1c.at (inb_of q1a ⟨by decide, by decide⟩) rfl) (g := (mkF m 82 #[.val (.ref t1), .val (.int (0 : Int32)), .val (.ref t2), .val (.int (0 : Int32)), .val (.int (1 : Int32)), .val (.int (0 : Int32)), .unset, .unset] [(.int (0 : Int32)), (.ref t1)])) rfl rfl (hb hby d16_82) t_ k_) ?_
  refine Go.st (T' := T0) (pc' := 84) (L' := #[.val (.ref t1), .val (.int (0 : Int32)), .val (.ref t2), .val (.int (0 : Int32)), .val (.int (1 : Int32)), .val (.int (0 : Int32)), .unset, .unset]) (S' := [(.ref t2), (.int x0)]) (fun t_ k_ => XS.aloadN X0.here hx rfl (hb hby d16_83) rfl rfl  k_) ?_
  refine Go.st (T' := T0) (pc' := 85) (L' := #[.val (.ref t1), .val (.int (0 : Int32)), .val (.ref t2), .val (.int (0 : Int32)), .val (.int (1 : Int32)), .val (.int (0 : Int32)), .unset, .unset]) (S' := [(.int (0 : Int32)), (.ref t2), (.int x0)]) (fun t_ k_ => XS.iloadN X0.here hx rfl (hb hby d16_84) rfl  k_) ?_
  refine Go.st (T' := T0) (pc' := 87) (L' := #[.val (.ref t1), .val (.int (0 : Int32)), .val (.ref t2), .val (.int (0 : Int32)), .val (.int (1 : Int32)), .val (.int (0 : Int32)), .unset, .unset]) (S' := [(.int (0 : Int32)), (.int (0 : Int32)), (.ref t2), (.int x0)]) (fun t_ k_ => XS.iload X0.here hx rfl (hb hby d16_85) rfl  k_) ?_
  refine Go.st (T' := T0) (pc' := 88) (L' := #[.val (.ref t1), .val (.int (0 : Int32)), .val (.ref t2), .val (.int (0 : Int32)), .val (.int (1 : Int32)), .val (.int (0 : Int32)), .unset, .unset]) (S' := [(.int ((0 : Int32) + (0 : Int32))), (.ref t2), (.int x0)]) (fun t_ k_ => XS.iadd X0.here hx rfl (hb hby d16_87) rfl k_) ?_
  rw [show ((0 : Int32) + (0 : Int32)) = (0 : Int32) from by decide]
  obtain ⟨cl2, Ar2, -, q2a, q2b, q2c, q2d⟩ := id V_t2
  refine Go.st (T' := T0) (pc' := 89) (L' := #[.val (.ref t1), .val (.int (0 : Int32)), .val (.ref t2), .val (.int (0 : Int32)), .val (.int (1 : Int32)), .val (.int (0 : Int32)), .unset, .unset]) (S' := [(.int (45 : Int32)), (.int x0)]) (fun t_ k_ => X0.baloadBytes hx (j := (0 : Int32)) (v := (.int (45 : Int32))) (by rw [e0]; exact Ar2.1) (State.isArrayOf_alike hZ.alike Ar2.2.1) Ar2.2.2 (inb_of q2a ⟨by decide, by decide⟩) (q2c.at (inb_of q2a ⟨by decide, by decide⟩) rfl) (g := (mkF m 88 #[.val (.ref t1), .val (.int (0 : Int32)), .val (.ref t2), .val (.int (0 : Int32)), .val (.int (1 : Int32)), .val (.int (0 : Int32)), .unset, .unset] [(.int (0 : Int32)), (.ref t2), (.int x0)])) rfl rfl (hb hby d16_88) t_ k_) ?_
  refine Go.st (T' := T0) (pc' := 92) (L' := #[.val (.ref t1), .val (.int (0 : Int32)), .val (.ref t2), .val (.int (0 : Int32)), .val (.int (1 : Int32)), .val (.int (0 : Int32)), .unset, .unset]) (S' := []) (fun t_ k_ => XS.icmpNo X0.here hx rfl (hb hby d16_89) rfl (feq (hd : ¬ (x0 = (45 : Int32)))).1 k_) ?_
  refine Go.st (T' := T0) (pc' := 94) (L' := #[.val (.ref t1), .val (.int (0 : Int32)), .val (.ref t2), .val (.int (0 : Int32)), .val (.int (1 : Int32)), .val (.int (0 : Int32)), .unset, .unset]) (S' := [(.int (0 : Int32))]) (fun t_ k_ => XS.iload X0.here hx rfl (hb hby d16_92) rfl  k_) ?_
  exact Go.retO X0 hx hlk hret rfl (by simp [FieldType.isReference, Value.isRef]) (hb hby d16_94) (by decide) (by decide) (by rw [e0]; exact ⟨rfl, N0, rfl⟩)

def Qstx2_45 (Z : State) (a1 : Addr) (a2 : Addr) (t1 : Addr) (t2 : Addr) (k1 : ClassId) (k2 : ClassId) (gC : Int32) (x0 : Int32) (x1 : Int32) (h0 : Heap) (n0 : Nat) (v : Option Value) (h : Heap) (L : List Loc) : Prop := v = some (.int 0) ∧ Fr n0 L ∧ h = h0
def roomstx2_45 : Room := { frames := 2, cells := 0, slots := 0, locals := 27 }
set_option maxRecDepth 65536 in
set_option maxHeartbeats 40000000 in
theorem rmstx2_45 (l : Launch) (Z : State) (a0 : Array Value) (hw : ∀ d ∈ tables_1, d.before a0 Z = true) (ws : List Jvm.Cond) (a1 : Addr) (a2 : Addr) (t1 : Addr) (t2 : Addr) (k1 : ClassId) (k2 : ClassId) (gC : Int32) (x0 : Int32) (x1 : Int32) (h0 : Heap) (n0 : Nat) (Z0 : n0 ≤ h0.size) (SC : Sta Z Z.heap "java/lang/String" "COMPACT_STRINGS" "Z" (.int gC)) (PC : ¬ (gC = (0 : Int32))) (O0 : Old Z n0 h0) (E_a1 : Exa Z h0 a1 "java/lang/String") (Fc_a1 : Fld Z h0 a1 "java/lang/String" "coder" "B" (.int (0 : Int32))) (Fv_a1 : Fld Z h0 a1 "java/lang/String" "value" "[B" (.ref t1)) (V_t1 : Arv Z h0 t1 k1 .byte (2 : Int32) [(.int x0), (.int x1)] (.int (0 : Int32))) (E_a2 : Exa Z h0 a2 "java/lang/String") (Fc_a2 : Fld Z h0 a2 "java/lang/String" "coder" "B" (.int (0 : Int32))) (Fv_a2 : Fld Z h0 a2 "java/lang/String" "value" "[B" (.ref t2)) (V_t2 : Arv Z h0 t2 k2 .byte (1 : Int32) [(.int (45 : Int32))] (.int (0 : Int32))) (hd : ¬ x0 = (45 : Int32)) :
    MetFree l (⟨"java/lang/String", "startsWith", "(Ljava/lang/String;I)Z"⟩ : MethodName) (head1 (Jvm.Cond.code (⟨"java/lang/String", "startsWith", "(Ljava/lang/String;I)Z"⟩ : MethodName) jdk_42_method_75_code 8 (some .boolean) :: ws) roomstx2_45) (fun aa_ U_ => aa_ = #[(.ref a1), (.ref a2), (.int (0 : Int32))] ∧ Z.Warmed39 U_.vm ∧ U_.heap = h0) (fun _ _ _ _ _ => True) (fun _ U_ o_ W_ => ∃ v_ L_, o_ = .returned v_ ∧ (Qstx2_45 Z a1 a2 t1 t2 k1 k2 gC x0 x1 h0 n0) v_ W_.heap L_ ∧ FrameEnd U_ o_ W_ L_ roomstx2_45.cells roomstx2_45.slots) := by
  refine own_met (Q := (Qstx2_45 Z a1 a2 t1 t2 k1 k2 gC x0 x1 h0 n0)) (L0 := #[.val (.ref a1), .val (.ref a2), .val (.int (0 : Int32)), .unset, .unset, .unset, .unset, .unset]) (plainFor_of_name pn_0) (fun m => by first | (simp [entryFrame, mkF, argsToLocals, Value.category]; done) | rfl) ?_
  intro p e s m below meth c T0 X0 hx hby hml hown hnm hret hlk hZ e0
  have N0 := Fr.nil n0
  refine Go.st (T' := T0) (pc' := 1) (L' := #[.val (.ref a1), .val (.ref a2), .val (.int (0 : Int32)), .unset, .unset, .unset, .unset, .unset]) (S' := [(.int (0 : Int32))]) (fun t_ k_ => XS.iloadN X0.here hx rfl (hb hby d13_0) rfl  k_) ?_
  refine Go.st (T' := T0) (pc' := 4) (L' := #[.val (.ref a1), .val (.ref a2), .val (.int (0 : Int32)), .unset, .unset, .unset, .unset, .unset]) (S' := []) (fun t_ k_ => XS.ifNo X0.here hx rfl (hb hby d13_1) rfl ((if0 _ _).trans (flt (by decide : ¬ ((0 : Int32) < (0 : Int32)))).1) k_) ?_
  refine Go.st (T' := T0) (pc' := 5) (L' := #[.val (.ref a1), .val (.ref a2), .val (.int (0 : Int32)), .unset, .unset, .unset, .unset, .unset]) (S' := [(.int (0 : Int32))]) (fun t_ k_ => XS.iloadN X0.here hx rfl (hb hby d13_4) rfl  k_) ?_
  refine Go.st (T' := T0) (pc' := 6) (L' := #[.val (.ref a1), .val (.ref a2), .val (.int (0 : Int32)), .unset, .unset, .unset, .unset, .unset]) (S' := [(.ref a1), (.int (0 : Int32))]) (fun t_ k_ => XS.aloadN X0.here hx rfl (hb hby d13_5) rfl rfl  k_) ?_
  obtain ⟨cq1, kq1, q1a, q1b, q1c⟩ := isOf hZ e0 E_a1
  obtain ⟨_, _, ⟨T1, L1, k1, n1⟩, -, X1, ⟨Lc1, hQ1, l1, y1, z1⟩, st1⟩ := X0.virtualBack hx (y := (⟨"java/lang/String", "length", "()I"⟩ : MethodName)) (z := (⟨"java/lang/String", "length", "()I"⟩ : MethodName)) hown (mvT hZ (hw _ (List.mem_of_getElem? (i := 71) rfl))) (mvT hZ (hw _ (List.mem_of_getElem? (i := 72) rfl))) (notFace_of_selects (args := #[]) (mvT hZ (hw _ (List.mem_of_getElem? (i := 74) rfl)))) (mvT hZ (hw _ (List.mem_of_getElem? (i := 74) rfl))) (mvT hZ (hw _ (List.mem_of_getElem? (i := 73) rfl))) (by decide) (backOf (W := 1) (rmlen2 l Z a0 hw [] a1 t1 _ gC (x0) (x1) h0 n0 Z0 SC PC O0 E_a1 Fc_a1 Fv_a1 V_t1) hZ (hw _ (List.mem_of_getElem? (i := 75) rfl)) (hw _ (List.mem_of_getElem? (i := 2) rfl)) (by decide) (by decide)) q1a q1c (g := (mkF m 6 #[.val (.ref a1), .val (.ref a2), .val (.int (0 : Int32)), .unset, .unset, .unset, .unset, .unset] [(.ref a1), (.int (0 : Int32))])) rfl (by rw [hml]; rfl) (Steps.refl _) (argsL := []) (rest := [(.int (0 : Int32))]) (lenOf pd_8 rfl) rfl (by show 2 * 0 + _ ≤ _; exact Nat.le_of_eq rfl) (hb hby d13_6) (fun _ _ => ⟨rfl, e0, (by decide : 0 + 0 ≤ _), (by decide : 0 + 0 ≤ _)⟩)
  dsimp only [Pt.U, Pt.locs, Pt.cells, Pt.slots] at X1 l1 y1 z1 st1 hQ1
  subst l1 y1 z1
  obtain ⟨rfl, N1q, e1⟩ := hQ1
  have N1 := Fr.app N0 N1q
  refine Go.tr (T' := T1) (pc' := 9) (L' := #[.val (.ref a1), .val (.ref a2), .val (.int (0 : Int32)), .unset, .unset, .unset, .unset, .unset]) (S' := [(.int (2 : Int32)), (.int (0 : Int32))]) st1 ?_
  refine Go.st (T' := T1) (pc' := 10) (L' := #[.val (.ref a1), .val (.ref a2), .val (.int (0 : Int32)), .unset, .unset, .unset, .unset, .unset]) (S' := [(.ref a2), (.int (2 : Int32)), (.int (0 : Int32))]) (fun t_ k_ => XS.aloadN X1.here hx rfl (hb hby d13_9) rfl rfl  k_) ?_
  obtain ⟨cq2, kq2, q2a, q2b, q2c⟩ := isOf hZ e1 E_a2
  obtain ⟨_, _, ⟨T2, L2, k2, n2⟩, -, X2, ⟨Lc2, hQ2, l2, y2, z2⟩, st2⟩ := X1.virtualBack hx (y := (⟨"java/lang/String", "length", "()I"⟩ : MethodName)) (z := (⟨"java/lang/String", "length", "()I"⟩ : MethodName)) hown (mvT hZ (hw _ (List.mem_of_getElem? (i := 71) rfl))) (mvT hZ (hw _ (List.mem_of_getElem? (i := 72) rfl))) (notFace_of_selects (args := #[]) (mvT hZ (hw _ (List.mem_of_getElem? (i := 74) rfl)))) (mvT hZ (hw _ (List.mem_of_getElem? (i := 74) rfl))) (mvT hZ (hw _ (List.mem_of_getElem? (i := 73) rfl))) (by decide) (backOf (W := 2) (rmlen1 l Z a0 hw [] a2 t2 _ gC ((45 : Int32)) h0 n0 Z0 SC PC O0 E_a2 Fc_a2 Fv_a2 V_t2) hZ (hw _ (List.mem_of_getElem? (i := 75) rfl)) (hw _ (List.mem_of_getElem? (i := 2) rfl)) (by decide) (by decide)) q2a q2c (g := (mkF m 10 #[.val (.ref a1), .val (.ref a2), .val (.int (0 : Int32)), .unset, .unset, .unset, .unset, .unset] [(.ref a2), (.int (2 : Int32)), (.int (0 : Int32))])) rfl (by rw [hml]; rfl) (Steps.refl _) (argsL := []) (rest := [(.int (2 : Int32)), (.int (0 : Int32))]) (lenOf pd_8 rfl) rfl (by show 2 * 0 + _ ≤ _; exact Nat.le_of_eq rfl) (hb hby d13_10) (fun _ _ => ⟨rfl, e1, (by decide : 0 + 0 ≤ _), (by decide : 0 + 0 ≤ _)⟩)
  dsimp only [Pt.U, Pt.locs, Pt.cells, Pt.slots] at X2 l2 y2 z2 st2 hQ2
  subst l2 y2 z2
  obtain ⟨rfl, N2q, e2⟩ := hQ2
  have N2 := Fr.app N1 N2q
  refine Go.tr (T' := T2) (pc' := 13) (L' := #[.val (.ref a1), .val (.ref a2), .val (.int (0 : Int32)), .unset, .unset, .unset, .unset, .unset]) (S' := [(.int (1 : Int32)), (.int (2 : Int32)), (.int (0 : Int32))]) st2 ?_
  refine Go.st (T' := T2) (pc' := 14) (L' := #[.val (.ref a1), .val (.ref a2), .val (.int (0 : Int32)), .unset, .unset, .unset, .unset, .unset]) (S' := [(.int ((2 : Int32) - (1 : Int32))), (.int (0 : Int32))]) (fun t_ k_ => XS.isub X2.here hx rfl (hb hby d13_13) rfl k_) ?_
  rw [show ((2 : Int32) - (1 : Int32)) = (1 : Int32) from by decide]
  refine Go.st (T' := T2) (pc' := 19) (L' := #[.val (.ref a1), .val (.ref a2), .val (.int (0 : Int32)), .unset, .unset, .unset, .unset, .unset]) (S' := []) (fun t_ k_ => XS.icmpYes X2.here hx rfl (pc0 := 14) (pc' := 19) rfl (hb hby d13_14) rfl (flt (by decide : ¬ ((1 : Int32) < (0 : Int32)))).2.2.2 (by decide) (by decide) k_) ?_
  refine Go.st (T' := T2) (pc' := 20) (L' := #[.val (.ref a1), .val (.ref a2), .val (.int (0 : Int32)), .unset, .unset, .unset, .unset, .unset]) (S' := [(.ref a1)]) (fun t_ k_ => XS.aloadN X2.here hx rfl (hb hby d13_19) rfl rfl  k_) ?_
  obtain ⟨T3, X3, e3, st3⟩ := getF X2 hx hZ hown (host := "") (Or.inl (hw _ (List.mem_of_getElem? (i := 22) rfl))) Via.refl e2 Fv_a1 (g := (mkF m 20 #[.val (.ref a1), .val (.ref a2), .val (.int (0 : Int32)), .unset, .unset, .unset, .unset, .unset] [(.ref a1)])) rfl rfl (hb hby d13_20)
  refine Go.st (T' := T3) (pc' := 23) (L' := #[.val (.ref a1), .val (.ref a2), .val (.int (0 : Int32)), .unset, .unset, .unset, .unset, .unset]) (S' := [(.ref t1)]) st3 ?_
  refine Go.st (T' := T3) (pc' := 24) (L' := #[.val (.ref a1), .val (.ref a2), .val (.int (0 : Int32)), .val (.ref t1), .unset, .unset, .unset, .unset]) (S' := []) (fun t_ k_ => XS.astoreN X3.here hx rfl (hb hby d13_23) rfl rfl (l' := #[.val (.ref a1), .val (.ref a2), .val (.int (0 : Int32)), .val (.ref t1), .unset, .unset, .unset, .unset]) rfl k_) ?_
  refine Go.st (T' := T3) (pc' := 25) (L' := #[.val (.ref a1), .val (.ref a2), .val (.int (0 : Int32)), .val (.ref t1), .unset, .unset, .unset, .unset]) (S' := [(.ref a2)]) (fun t_ k_ => XS.aloadN X3.here hx rfl (hb hby d13_24) rfl rfl  k_) ?_
  obtain ⟨T4, X4, e4, st4⟩ := getF X3 hx hZ hown (host := "") (Or.inl (hw _ (List.mem_of_getElem? (i := 22) rfl))) Via.refl e3 Fv_a2 (g := (mkF m 25 #[.val (.ref a1), .val (.ref a2), .val (.int (0 : Int32)), .val (.ref t1), .unset, .unset, .unset, .unset] [(.ref a2)])) rfl rfl (hb hby d13_25)
  refine Go.st (T' := T4) (pc' := 28) (L' := #[.val (.ref a1), .val (.ref a2), .val (.int (0 : Int32)), .val (.ref t1), .unset, .unset, .unset, .unset]) (S' := [(.ref t2)]) st4 ?_
  refine Go.st (T' := T4) (pc' := 30) (L' := #[.val (.ref a1), .val (.ref a2), .val (.int (0 : Int32)), .val (.ref t1), .val (.ref t2), .unset, .unset, .unset]) (S' := []) (fun t_ k_ => XS.astore X4.here hx rfl (hb hby d13_28) rfl rfl (l' := #[.val (.ref a1), .val (.ref a2), .val (.int (0 : Int32)), .val (.ref t1), .val (.ref t2), .unset, .unset, .unset]) rfl k_) ?_
  refine Go.st (T' := T4) (pc' := 31) (L' := #[.val (.ref a1), .val (.ref a2), .val (.int (0 : Int32)), .val (.ref t1), .val (.ref t2), .unset, .unset, .unset]) (S' := [(.int (0 : Int32))]) (fun t_ k_ => XS.iconst X4.here hx rfl (hb hby d13_30) k_) ?_
  refine Go.st (T' := T4) (pc' := 33) (L' := #[.val (.ref a1), .val (.ref a2), .val (.int (0 : Int32)), .val (.ref t1), .val (.ref t2), .val (.int (0 : Int32)), .unset, .unset]) (S' := []) (fun t_ k_ => XS.istore X4.here hx rfl (hb hby d13_31) rfl (l' := #[.val (.ref a1), .val (.ref a2), .val (.int (0 : Int32)), .val (.ref t1), .val (.ref t2), .val (.int (0 : Int32)), .unset, .unset]) rfl k_) ?_
  refine Go.st (T' := T4) (pc' := 35) (L' := #[.val (.ref a1), .val (.ref a2), .val (.int (0 : Int32)), .val (.ref t1), .val (.ref t2), .val (.int (0 : Int32)), .unset, .unset]) (S' := [(.ref t2)]) (fun t_ k_ => XS.aload X4.here hx rfl (hb hby d13_33) rfl rfl  k_) ?_
  obtain ⟨cl5, Ar5, -, q5a, q5b, -, -⟩ := id V_t2
  refine Go.st (T' := T4) (pc' := 36) (L' := #[.val (.ref a1), .val (.ref a2), .val (.int (0 : Int32)), .val (.ref t1), .val (.ref t2), .val (.int (0 : Int32)), .unset, .unset]) (S' := [(.int (1 : Int32))]) (fun t_ k_ => own_len X4 hx hZ e4 Ar5 q5a q5b (g := (mkF m 35 #[.val (.ref a1), .val (.ref a2), .val (.int (0 : Int32)), .val (.ref t1), .val (.ref t2), .val (.int (0 : Int32)), .unset, .unset] [(.ref t2)])) rfl rfl (hb hby d13_35) t_ k_) ?_
  refine Go.st (T' := T4) (pc' := 38) (L' := #[.val (.ref a1), .val (.ref a2), .val (.int (0 : Int32)), .val (.ref t1), .val (.ref t2), .val (.int (0 : Int32)), .val (.int (1 : Int32)), .unset]) (S' := []) (fun t_ k_ => XS.istore X4.here hx rfl (hb hby d13_36) rfl (l' := #[.val (.ref a1), .val (.ref a2), .val (.int (0 : Int32)), .val (.ref t1), .val (.ref t2), .val (.int (0 : Int32)), .val (.int (1 : Int32)), .unset]) rfl k_) ?_
  refine Go.st (T' := T4) (pc' := 39) (L' := #[.val (.ref a1), .val (.ref a2), .val (.int (0 : Int32)), .val (.ref t1), .val (.ref t2), .val (.int (0 : Int32)), .val (.int (1 : Int32)), .unset]) (S' := [(.ref a1)]) (fun t_ k_ => XS.aloadN X4.here hx rfl (hb hby d13_38) rfl rfl  k_) ?_
  obtain ⟨cq6, kq6, q6a, q6b, q6c⟩ := isOf hZ e4 E_a1
  obtain ⟨_, _, ⟨T6, L6, k6, n6⟩, -, X6, ⟨Lc6, hQ6, l6, y6, z6⟩, st6⟩ := X4.virtualBack hx (y := (⟨"java/lang/String", "coder", "()B"⟩ : MethodName)) (z := (⟨"java/lang/String", "coder", "()B"⟩ : MethodName)) hown (mvT hZ (hw _ (List.mem_of_getElem? (i := 76) rfl))) (mvT hZ (hw _ (List.mem_of_getElem? (i := 77) rfl))) (notFace_of_selects (args := #[]) (mvT hZ (hw _ (List.mem_of_getElem? (i := 79) rfl)))) (mvT hZ (hw _ (List.mem_of_getElem? (i := 79) rfl))) (mvT hZ (hw _ (List.mem_of_getElem? (i := 78) rfl))) (by decide) (backOf (W := 0) (rm15 l Z a0 hw [] a1 gC h0 n0 Z0 SC PC O0 Fc_a1) hZ (hw _ (List.mem_of_getElem? (i := 80) rfl)) (hw _ (List.mem_of_getElem? (i := 2) rfl)) (by decide) (by decide)) q6a q6c (g := (mkF m 39 #[.val (.ref a1), .val (.ref a2), .val (.int (0 : Int32)), .val (.ref t1), .val (.ref t2), .val (.int (0 : Int32)), .val (.int (1 : Int32)), .unset] [(.ref a1)])) rfl (by rw [hml]; rfl) (Steps.refl _) (argsL := []) (rest := []) (lenOf pd_7 rfl) rfl (by show 2 * 0 + _ ≤ _; exact Nat.le_of_eq rfl) (hb hby d13_39) (fun _ _ => ⟨rfl, e4, (by decide : 0 + 0 ≤ _), (by decide : 0 + 0 ≤ _)⟩)
  dsimp only [Pt.U, Pt.locs, Pt.cells, Pt.slots] at X6 l6 y6 z6 st6 hQ6
  subst l6 y6 z6
  obtain ⟨rfl, N6q, e6⟩ := hQ6
  have N6 := Fr.app N2 N6q
  refine Go.tr (T' := T6) (pc' := 42) (L' := #[.val (.ref a1), .val (.ref a2), .val (.int (0 : Int32)), .val (.ref t1), .val (.ref t2), .val (.int (0 : Int32)), .val (.int (1 : Int32)), .unset]) (S' := [(.int (0 : Int32))]) st6 ?_
  refine Go.st (T' := T6) (pc' := 44) (L' := #[.val (.ref a1), .val (.ref a2), .val (.int (0 : Int32)), .val (.ref t1), .val (.ref t2), .val (.int (0 : Int32)), .val (.int (1 : Int32)), .val (.int (0 : Int32))]) (S' := []) (fun t_ k_ => XS.istore X6.here hx rfl (hb hby d13_42) rfl (l' := #[.val (.ref a1), .val (.ref a2), .val (.int (0 : Int32)), .val (.ref t1), .val (.ref t2), .val (.int (0 : Int32)), .val (.int (1 : Int32)), .val (.int (0 : Int32))]) rfl k_) ?_
  refine Go.st (T' := T6) (pc' := 46) (L' := #[.val (.ref a1), .val (.ref a2), .val (.int (0 : Int32)), .val (.ref t1), .val (.ref t2), .val (.int (0 : Int32)), .val (.int (1 : Int32)), .val (.int (0 : Int32))]) (S' := [(.int (0 : Int32))]) (fun t_ k_ => XS.iload X6.here hx rfl (hb hby d13_44) rfl  k_) ?_
  refine Go.st (T' := T6) (pc' := 47) (L' := #[.val (.ref a1), .val (.ref a2), .val (.int (0 : Int32)), .val (.ref t1), .val (.ref t2), .val (.int (0 : Int32)), .val (.int (1 : Int32)), .val (.int (0 : Int32))]) (S' := [(.ref a2), (.int (0 : Int32))]) (fun t_ k_ => XS.aloadN X6.here hx rfl (hb hby d13_46) rfl rfl  k_) ?_
  obtain ⟨cq7, kq7, q7a, q7b, q7c⟩ := isOf hZ e6 E_a2
  obtain ⟨_, _, ⟨T7, L7, k7, n7⟩, -, X7, ⟨Lc7, hQ7, l7, y7, z7⟩, st7⟩ := X6.virtualBack hx (y := (⟨"java/lang/String", "coder", "()B"⟩ : MethodName)) (z := (⟨"java/lang/String", "coder", "()B"⟩ : MethodName)) hown (mvT hZ (hw _ (List.mem_of_getElem? (i := 76) rfl))) (mvT hZ (hw _ (List.mem_of_getElem? (i := 77) rfl))) (notFace_of_selects (args := #[]) (mvT hZ (hw _ (List.mem_of_getElem? (i := 79) rfl)))) (mvT hZ (hw _ (List.mem_of_getElem? (i := 79) rfl))) (mvT hZ (hw _ (List.mem_of_getElem? (i := 78) rfl))) (by decide) (backOf (W := 1) (rm15 l Z a0 hw [] a2 gC h0 n0 Z0 SC PC O0 Fc_a2) hZ (hw _ (List.mem_of_getElem? (i := 80) rfl)) (hw _ (List.mem_of_getElem? (i := 2) rfl)) (by decide) (by decide)) q7a q7c (g := (mkF m 47 #[.val (.ref a1), .val (.ref a2), .val (.int (0 : Int32)), .val (.ref t1), .val (.ref t2), .val (.int (0 : Int32)), .val (.int (1 : Int32)), .val (.int (0 : Int32))] [(.ref a2), (.int (0 : Int32))])) rfl (by rw [hml]; rfl) (Steps.refl _) (argsL := []) (rest := [(.int (0 : Int32))]) (lenOf pd_7 rfl) rfl (by show 2 * 0 + _ ≤ _; exact Nat.le_of_eq rfl) (hb hby d13_47) (fun _ _ => ⟨rfl, e6, (by decide : 0 + 0 ≤ _), (by decide : 0 + 0 ≤ _)⟩)
  dsimp only [Pt.U, Pt.locs, Pt.cells, Pt.slots] at X7 l7 y7 z7 st7 hQ7
  subst l7 y7 z7
  obtain ⟨rfl, N7q, e7⟩ := hQ7
  have N7 := Fr.app N6 N7q
  refine Go.tr (T' := T7) (pc' := 50) (L' := #[.val (.ref a1), .val (.ref a2), .val (.int (0 : Int32)), .val (.ref t1), .val (.ref t2), .val (.int (0 : Int32)), .val (.int (1 : Int32)), .val (.int (0 : Int32))]) (S' := [(.int (0 : Int32)), (.int (0 : Int32))]) st7 ?_
  refine Go.st (T' := T7) (pc' := 53) (L' := #[.val (.ref a1), .val (.ref a2), .val (.int (0 : Int32)), .val (.ref t1), .val (.ref t2), .val (.int (0 : Int32)), .val (.int (1 : Int32)), .val (.int (0 : Int32))]) (S' := []) (fun t_ k_ => XS.icmpNo X7.here hx rfl (hb hby d13_50) rfl (teq (by decide : ((0 : Int32) = (0 : Int32)))).2 k_) ?_
  refine Go.st (T' := T7) (pc' := 55) (L' := #[.val (.ref a1), .val (.ref a2), .val (.int (0 : Int32)), .val (.ref t1), .val (.ref t2), .val (.int (0 : Int32)), .val (.int (1 : Int32)), .val (.int (0 : Int32))]) (S' := [(.int (0 : Int32))]) (fun t_ k_ => XS.iload X7.here hx rfl (hb hby d13_53) rfl  k_) ?_
  refine Go.st (T' := T7) (pc' := 56) (L' := #[.val (.ref a1), .val (.ref a2), .val (.int (0 : Int32)), .val (.ref t1), .val (.ref t2), .val (.int (0 : Int32)), .val (.int (1 : Int32)), .val (.int (0 : Int32))]) (S' := [(.int (1 : Int32)), (.int (0 : Int32))]) (fun t_ k_ => XS.iconst X7.here hx rfl (hb hby d13_55) k_) ?_
  refine Go.st (T' := T7) (pc' := 63) (L' := #[.val (.ref a1), .val (.ref a2), .val (.int (0 : Int32)), .val (.ref t1), .val (.ref t2), .val (.int (0 : Int32)), .val (.int (1 : Int32)), .val (.int (0 : Int32))]) (S' := []) (fun t_ k_ => XS.icmpYes X7.here hx rfl (pc0 := 56) (pc' := 63) rfl (hb hby d13_56) rfl (feq (by decide : ¬ ((0 : Int32) = (1 : Int32)))).2 (by decide) (by decide) k_) ?_
  refine Go.st (T' := T7) (pc' := 64) (L' := #[.val (.ref a1), .val (.ref a2), .val (.int (0 : Int32)), .val (.ref t1), .val (.ref t2), .val (.int (0 : Int32)), .val (.int (1 : Int32)), .val (.int (0 : Int32))]) (S' := [(.ref t1)]) (fun t_ k_ => XS.aloadN X7.here hx rfl (hb hby d13_63) rfl rfl  k_) ?_
  refine Go.st (T' := T7) (pc' := 65) (L' := #[.val (.ref a1), .val (.ref a2), .val (.int (0 : Int32)), .val (.ref t1), .val (.ref t2), .val (.int (0 : Int32)), .val (.int (1 : Int32)), .val (.int (0 : Int32))]) (S' := [(.int (0 : Int32)), (.ref t1)]) (fun t_ k_ => XS.iloadN X7.here hx rfl (hb hby d13_64) rfl  k_) ?_
  refine Go.st (T' := T7) (pc' := 67) (L' := #[.val (.ref a1), .val (.ref a2), .val (.int (0 : Int32)), .val (.ref t1), .val (.ref t2), .val (.int (0 : Int32)), .val (.int (1 : Int32)), .val (.int (0 : Int32))]) (S' := [(.ref t2), (.int (0 : Int32)), (.ref t1)]) (fun t_ k_ => XS.aload X7.here hx rfl (hb hby d13_65) rfl rfl  k_) ?_
  refine Go.st (T' := T7) (pc' := 68) (L' := #[.val (.ref a1), .val (.ref a2), .val (.int (0 : Int32)), .val (.ref t1), .val (.ref t2), .val (.int (0 : Int32)), .val (.int (1 : Int32)), .val (.int (0 : Int32))]) (S' := [(.int (0 : Int32)), (.ref t2), (.int (0 : Int32)), (.ref t1)]) (fun t_ k_ => XS.iconst X7.here hx rfl (hb hby d13_67) k_) ?_
  refine Go.st (T' := T7) (pc' := 70) (L' := #[.val (.ref a1), .val (.ref a2), .val (.int (0 : Int32)), .val (.ref t1), .val (.ref t2), .val (.int (0 : Int32)), .val (.int (1 : Int32)), .val (.int (0 : Int32))]) (S' := [(.int (1 : Int32)), (.int (0 : Int32)), (.ref t2), (.int (0 : Int32)), (.ref t1)]) (fun t_ k_ => XS.iload X7.here hx rfl (hb hby d13_68) rfl  k_) ?_
  obtain ⟨_, _, ⟨T8, L8, k8, n8⟩, -, X8, ⟨Lc8, hQ8, l8, y8, z8⟩, st8⟩ := Jvm.LawKit.callS X7 hx (y := (⟨"jdk/internal/util/ArraysSupport", "mismatch", "([BI[BII)I"⟩ : MethodName)) hown (mvT hZ (hw _ (List.mem_of_getElem? (i := 81) rfl))) (mvT hZ (hw _ (List.mem_of_getElem? (i := 82) rfl))) (mvT hZ (hw _ (List.mem_of_getElem? (i := 83) rfl))) (mvT hZ (hw _ (List.mem_of_getElem? (i := 84) rfl))) (by decide) (backOf (W := 0) (rmmis2_45 l Z a0 hw [] t1 t2 _ _ gC (x0) (x1) h0 n0 Z0 SC PC O0 V_t1 V_t2 hd) hZ (hw _ (List.mem_of_getElem? (i := 84) rfl)) (hw _ (List.mem_of_getElem? (i := 83) rfl)) (by decide) (by decide)) (g := (mkF m 70 #[.val (.ref a1), .val (.ref a2), .val (.int (0 : Int32)), .val (.ref t1), .val (.ref t2), .val (.int (0 : Int32)), .val (.int (1 : Int32)), .val (.int (0 : Int32))] [(.int (1 : Int32)), (.int (0 : Int32)), (.ref t2), (.int (0 : Int32)), (.ref t1)])) rfl (by rw [hml]; rfl) (argsL := [(.ref t1), (.int (0 : Int32)), (.ref t2), (.int (0 : Int32)), (.int (1 : Int32))]) (rest := []) (lenOf pd_9 rfl) rfl (by show 2 * 0 + _ ≤ _; exact Nat.le_of_eq rfl) (hb hby d13_70) (fun _ _ => ⟨rfl, e7, (by decide : 0 + 0 ≤ _), (by decide : 0 + 0 ≤ _)⟩)
  dsimp only [Pt.U, Pt.locs, Pt.cells, Pt.slots] at X8 l8 y8 z8 st8 hQ8
  subst l8 y8 z8
  obtain ⟨rfl, N8q, e8⟩ := hQ8
  have N8 := Fr.app N7 N8q
  refine Go.st (T' := T8) (pc' := 73) (L' := #[.val (.ref a1), .val (.ref a2), .val (.int (0 : Int32)), .val (.ref t1), .val (.ref t2), .val (.int (0 : Int32)), .val (.int (1 : Int32)), .val (.int (0 : Int32))]) (S' := [(.int (0 : Int32))]) st8 ?_
  refine Go.st (T' := T8) (pc' := 80) (L' := #[.val (.ref a1), .val (.ref a2), .val (.int (0 : Int32)), .val (.ref t1), .val (.ref t2), .val (.int (0 : Int32)), .val (.int (1 : Int32)), .val (.int (0 : Int32))]) (S' := []) (fun t_ k_ => XS.ifYes X8.here hx rfl (pc0 := 73) (pc' := 80) rfl (hb hby d13_73) rfl ((if0 _ _).trans (flt (by decide : ¬ ((0 : Int32) < (0 : Int32)))).2.1) (by decide) (by decide) k_) ?_
  refine Go.st (T' := T8) (pc' := 81) (L' := #[.val (.ref a1), .val (.ref a2), .val (.int (0 : Int32)), .val (.ref t1), .val (.ref t2), .val (.int (0 : Int32)), .val (.int (1 : Int32)), .val (.int (0 : Int32))]) (S' := [(.int (0 : Int32))]) (fun t_ k_ => XS.iconst X8.here hx rfl (hb hby d13_80) k_) ?_
  exact Go.retN X8 hx hlk hret (by simp) (hb hby d13_81) (by decide) (by decide) (by rw [e8]; exact ⟨rfl, N8, rfl⟩)

def Qstw2_45 (Z : State) (a1 : Addr) (a2 : Addr) (t1 : Addr) (t2 : Addr) (k1 : ClassId) (k2 : ClassId) (gC : Int32) (x0 : Int32) (x1 : Int32) (h0 : Heap) (n0 : Nat) (v : Option Value) (h : Heap) (L : List Loc) : Prop := v = some (.int 0) ∧ Fr n0 L ∧ h = h0
def roomstw2_45 : Room := { frames := 3, cells := 0, slots := 0, locals := 46 }
set_option maxRecDepth 65536 in
set_option maxHeartbeats 40000000 in
theorem rmstw2_45 (l : Launch) (Z : State) (a0 : Array Value) (hw : ∀ d ∈ tables_1, d.before a0 Z = true) (ws : List Jvm.Cond) (a1 : Addr) (a2 : Addr) (t1 : Addr) (t2 : Addr) (k1 : ClassId) (k2 : ClassId) (gC : Int32) (x0 : Int32) (x1 : Int32) (h0 : Heap) (n0 : Nat) (Z0 : n0 ≤ h0.size) (SC : Sta Z Z.heap "java/lang/String" "COMPACT_STRINGS" "Z" (.int gC)) (PC : ¬ (gC = (0 : Int32))) (O0 : Old Z n0 h0) (E_a1 : Exa Z h0 a1 "java/lang/String") (Fc_a1 : Fld Z h0 a1 "java/lang/String" "coder" "B" (.int (0 : Int32))) (Fv_a1 : Fld Z h0 a1 "java/lang/String" "value" "[B" (.ref t1)) (V_t1 : Arv Z h0 t1 k1 .byte (2 : Int32) [(.int x0), (.int x1)] (.int (0 : Int32))) (E_a2 : Exa Z h0 a2 "java/lang/String") (Fc_a2 : Fld Z h0 a2 "java/lang/String" "coder" "B" (.int (0 : Int32))) (Fv_a2 : Fld Z h0 a2 "java/lang/String" "value" "[B" (.ref t2)) (V_t2 : Arv Z h0 t2 k2 .byte (1 : Int32) [(.int (45 : Int32))] (.int (0 : Int32))) (hd : ¬ x0 = (45 : Int32)) :
    MetFree l (⟨"java/lang/String", "startsWith", "(Ljava/lang/String;)Z"⟩ : MethodName) (head1 (Jvm.Cond.code (⟨"java/lang/String", "startsWith", "(Ljava/lang/String;)Z"⟩ : MethodName) jdk_42_method_76_code 2 (some .boolean) :: ws) roomstw2_45) (fun aa_ U_ => aa_ = #[(.ref a1), (.ref a2)] ∧ Z.Warmed39 U_.vm ∧ U_.heap = h0) (fun _ _ _ _ _ => True) (fun _ U_ o_ W_ => ∃ v_ L_, o_ = .returned v_ ∧ (Qstw2_45 Z a1 a2 t1 t2 k1 k2 gC x0 x1 h0 n0) v_ W_.heap L_ ∧ FrameEnd U_ o_ W_ L_ roomstw2_45.cells roomstw2_45.slots) := by
  refine own_met (Q := (Qstw2_45 Z a1 a2 t1 t2 k1 k2 gC x0 x1 h0 n0)) (L0 := #[.val (.ref a1), .val (.ref a2)]) (plainFor_of_name pn_0) (fun m => by first | (simp [entryFrame, mkF, argsToLocals, Value.category]; done) | rfl) ?_
  intro p e s m below meth c T0 X0 hx hby hml hown hnm hret hlk hZ e0
  have N0 := Fr.nil n0
  refine Go.st (T' := T0) (pc' := 1) (L' := #[.val (.ref a1), .val (.ref a2)]) (S' := [(.ref a1)]) (fun t_ k_ => XS.aloadN X0.here hx rfl (hb hby d12_0) rfl rfl  k_) ?_
  refine Go.st (T' := T0) (pc' := 2) (L' := #[.val (.ref a1), .val (.ref a2)]) (S' := [(.ref a2), (.ref a1)]) (fun t_ k_ => XS.aloadN X0.here hx rfl (hb hby d12_1) rfl rfl  k_) ?_
  refine Go.st (T' := T0) (pc' := 3) (L' := #[.val (.ref a1), .val (.ref a2)]) (S' := [(.int (0 : Int32)), (.ref a2), (.ref a1)]) (fun t_ k_ => XS.iconst X0.here hx rfl (hb hby d12_2) k_) ?_
  obtain ⟨cq1, kq1, q1a, q1b, q1c⟩ := isOf hZ e0 E_a1
  obtain ⟨_, _, ⟨T1, L1, k1, n1⟩, -, X1, ⟨Lc1, hQ1, l1, y1, z1⟩, st1⟩ := X0.virtualBack hx (y := (⟨"java/lang/String", "startsWith", "(Ljava/lang/String;I)Z"⟩ : MethodName)) (z := (⟨"java/lang/String", "startsWith", "(Ljava/lang/String;I)Z"⟩ : MethodName)) hown (mvT hZ (hw _ (List.mem_of_getElem? (i := 66) rfl))) (mvT hZ (hw _ (List.mem_of_getElem? (i := 67) rfl))) (notFace_of_selects (args := #[]) (mvT hZ (hw _ (List.mem_of_getElem? (i := 69) rfl)))) (mvT hZ (hw _ (List.mem_of_getElem? (i := 69) rfl))) (mvT hZ (hw _ (List.mem_of_getElem? (i := 68) rfl))) (by decide) (backOf (W := 0) (rmstx2_45 l Z a0 hw [] a1 a2 t1 t2 _ _ gC (x0) (x1) h0 n0 Z0 SC PC O0 E_a1 Fc_a1 Fv_a1 V_t1 E_a2 Fc_a2 Fv_a2 V_t2 hd) hZ (hw _ (List.mem_of_getElem? (i := 70) rfl)) (hw _ (List.mem_of_getElem? (i := 2) rfl)) (by decide) (by decide)) q1a q1c (g := (mkF m 3 #[.val (.ref a1), .val (.ref a2)] [(.int (0 : Int32)), (.ref a2), (.ref a1)])) rfl (by rw [hml]; rfl) (Steps.refl _) (argsL := [(.ref a2), (.int (0 : Int32))]) (rest := []) (lenOf pd_10 rfl) rfl (by show 2 * 0 + _ ≤ _; exact Nat.le_of_eq rfl) (hb hby d12_3) (fun _ _ => ⟨rfl, e0, (by decide : 0 + 0 ≤ _), (by decide : 0 + 0 ≤ _)⟩)
  dsimp only [Pt.U, Pt.locs, Pt.cells, Pt.slots] at X1 l1 y1 z1 st1 hQ1
  subst l1 y1 z1
  obtain ⟨rfl, N1q, e1⟩ := hQ1
  have N1 := Fr.app N0 N1q
  refine Go.tr (T' := T1) (pc' := 6) (L' := #[.val (.ref a1), .val (.ref a2)]) (S' := [(.int (0 : Int32))]) st1 ?_
  exact Go.retN X1 hx hlk hret (by simp) (hb hby d12_6) (by decide) (by decide) (by rw [e1]; exact ⟨rfl, N1, rfl⟩)
theorem d22_40 : decode jdk_43_method_25_code 40 = .ok (.aload_n 0, 1) := by decide +kernel
theorem d22_41 : decode jdk_43_method_25_code 41 = .ok (.iload 7, 2) := by decide +kernel
theorem d22_43 : decode jdk_43_method_25_code 43 = .ok (.baload, 1) := by decide +kernel
theorem d22_44 : decode jdk_43_method_25_code 44 = .ok (.iload 5, 2) := by decide +kernel
theorem d22_46 : decode jdk_43_method_25_code 46 = .ok (.if_icmp .eq 6, 3) := by decide +kernel
theorem d22_49 : decode jdk_43_method_25_code 49 = .ok (.goto (-19), 3) := by decide +kernel
def Qix52_61 (Z : State) (t1 : Addr) (t2 : Addr) (k1 : ClassId) (k2 : ClassId) (gC : Int32) (x0 : Int32) (x1 : Int32) (h0 : Heap) (n0 : Nat) (v : Option Value) (h : Heap) (L : List Loc) : Prop := v = some (.int (-1)) ∧ Fr n0 L ∧ h = h0
def roomix52_61 : Room := { frames := 0, cells := 0, slots := 0, locals := 0 }
set_option maxRecDepth 65536 in
set_option maxHeartbeats 40000000 in
theorem rmix52_61 (l : Launch) (Z : State) (a0 : Array Value) (hw : ∀ d ∈ tables_1, d.before a0 Z = true) (ws : List Jvm.Cond) (t1 : Addr) (t2 : Addr) (k1 : ClassId) (k2 : ClassId) (gC : Int32) (x0 : Int32) (x1 : Int32) (h0 : Heap) (n0 : Nat) (Z0 : n0 ≤ h0.size) (SC : Sta Z Z.heap "java/lang/String" "COMPACT_STRINGS" "Z" (.int gC)) (PC : ¬ (gC = (0 : Int32))) (O0 : Old Z n0 h0) (V_t1 : Arv Z h0 t1 k1 .byte (2 : Int32) [(.int x0), (.int x1)] (.int (0 : Int32))) (V_t2 : Arv Z h0 t2 k2 .byte (1 : Int32) [(.int (61 : Int32))] (.int (0 : Int32))) (hd : ¬ x0 = (61 : Int32) ∧ ¬ x1 = (61 : Int32)) :
    MetFree l (⟨"java/lang/StringLatin1", "indexOf", "([BI[BII)I"⟩ : MethodName) (head1 (Jvm.Cond.code (⟨"java/lang/StringLatin1", "indexOf", "([BI[BII)I"⟩ : MethodName) jdk_43_method_25_code 11 (some .int) :: ws) roomix52_61) (fun aa_ U_ => aa_ = #[(.ref t1), (.int (2 : Int32)), (.ref t2), (.int (1 : Int32)), (.int (0 : Int32))] ∧ Z.Warmed39 U_.vm ∧ U_.heap = h0) (fun _ _ _ _ _ => True) (fun _ U_ o_ W_ => ∃ v_ L_, o_ = .returned v_ ∧ (Qix52_61 Z t1 t2 k1 k2 gC x0 x1 h0 n0) v_ W_.heap L_ ∧ FrameEnd U_ o_ W_ L_ roomix52_61.cells roomix52_61.slots) := by
  refine own_met (Q := (Qix52_61 Z t1 t2 k1 k2 gC x0 x1 h0 n0)) (L0 := #[.val (.ref t1), .val (.int (2 : Int32)), .val (.ref t2), .val (.int (1 : Int32)), .val (.int (0 : Int32)), .unset, .unset, .unset, .unset, .unset, .unset]) (plainFor_of_name pn_1) (fun m => by first | (simp [entryFrame, mkF, argsToLocals, Value.category]; done) | rfl) ?_
  intro p e s m below meth c T0 X0 hx hby hml hown hnm hret hlk hZ e0
  have N0 := Fr.nil n0
  refine Go.st (T' := T0) (pc' := 1) (L' := #[.val (.ref t1), .val (.int (2 : Int32)), .val (.ref t2), .val (.int (1 : Int32)), .val (.int (0 : Int32)), .unset, .unset, .unset, .unset, .unset, .unset]) (S' := [(.ref t2)]) (fun t_ k_ => XS.aloadN X0.here hx rfl (hb hby d22_0) rfl rfl  k_) ?_
  refine Go.st (T' := T0) (pc' := 2) (L' := #[.val (.ref t1), .val (.int (2 : Int32)), .val (.ref t2), .val (.int (1 : Int32)), .val (.int (0 : Int32)), .unset, .unset, .unset, .unset, .unset, .unset]) (S' := [(.int (0 : Int32)), (.ref t2)]) (fun t_ k_ => XS.iconst X0.here hx rfl (hb hby d22_1) k_) ?_
  obtain ⟨cl1, Ar1, -, q1a, q1b, q1c, q1d⟩ := id V_t2
  refine Go.st (T' := T0) (pc' := 3) (L' := #[.val (.ref t1), .val (.int (2 : Int32)), .val (.ref t2), .val (.int (1 : Int32)), .val (.int (0 : Int32)), .unset, .unset, .unset, .unset, .unset, .unset]) (S' := [(.int (61 : Int32))]) (fun t_ k_ => X0.baloadBytes hx (j := (0 : Int32)) (v := (.int (61 : Int32))) (by rw [e0]; exact Ar1.1) (State.isArrayOf_alike hZ.alike Ar1.2.1) Ar1.2.2 (inb_of q1a ⟨by decide, by decide⟩) (q1c.at (inb_of q1a ⟨by decide, by decide⟩) rfl) (g := (mkF m 2 #[.val (.ref t1), .val (.int (2 : Int32)), .val (.ref t2), .val (.int (1 : Int32)), .val (.int (0 : Int32)), .unset, .unset, .unset, .unset, .unset, .unset] [(.int (0 : Int32)), (.ref t2)])) rfl rfl (hb hby d22_2) t_ k_) ?_
  refine Go.st (T' := T0) (pc' := 5) (L' := #[.val (.ref t1), .val (.int (2 : Int32)), .val (.ref t2), .val (.int (1 : Int32)), .val (.int (0 : Int32)), .val (.int (61 : Int32)), .unset, .unset, .unset, .unset, .unset]) (S' := []) (fun t_ k_ => XS.istore X0.here hx rfl (hb hby d22_3) rfl (l' := #[.val (.ref t1), .val (.int (2 : Int32)), .val (.ref t2), .val (.int (1 : Int32)), .val (.int (0 : Int32)), .val (.int (61 : Int32)), .unset, .unset, .unset, .unset, .unset]) rfl k_) ?_
  refine Go.st (T' := T0) (pc' := 6) (L' := #[.val (.ref t1), .val (.int (2 : Int32)), .val (.ref t2), .val (.int (1 : Int32)), .val (.int (0 : Int32)), .val (.int (61 : Int32)), .unset, .unset, .unset, .unset, .unset]) (S' := [(.int (2 : Int32))]) (fun t_ k_ => XS.iloadN X0.here hx rfl (hb hby d22_5) rfl  k_) ?_
  refine Go.st (T' := T0) (pc' := 7) (L' := #[.val (.ref t1), .val (.int (2 : Int32)), .val (.ref t2), .val (.int (1 : Int32)), .val (.int (0 : Int32)), .val (.int (61 : Int32)), .unset, .unset, .unset, .unset, .unset]) (S' := [(.int (1 : Int32)), (.int (2 : Int32))]) (fun t_ k_ => XS.iloadN X0.here hx rfl (hb hby d22_6) rfl  k_) ?_
  refine Go.st (T' := T0) (pc' := 8) (L' := #[.val (.ref t1), .val (.int (2 : Int32)), .val (.ref t2), .val (.int (1 : Int32)), .val (.int (0 : Int32)), .val (.int (61 : Int32)), .unset, .unset, .unset, .unset, .unset]) (S' := [(.int ((2 : Int32) - (1 : Int32)))]) (fun t_ k_ => XS.isub X0.here hx rfl (hb hby d22_7) rfl k_) ?_
  rw [show ((2 : Int32) - (1 : Int32)) = (1 : Int32) from by decide]
  refine Go.st (T' := T0) (pc' := 10) (L' := #[.val (.ref t1), .val (.int (2 : Int32)), .val (.ref t2), .val (.int (1 : Int32)), .val (.int (0 : Int32)), .val (.int (61 : Int32)), .val (.int (1 : Int32)), .unset, .unset, .unset, .unset]) (S' := []) (fun t_ k_ => XS.istore X0.here hx rfl (hb hby d22_8) rfl (l' := #[.val (.ref t1), .val (.int (2 : Int32)), .val (.ref t2), .val (.int (1 : Int32)), .val (.int (0 : Int32)), .val (.int (61 : Int32)), .val (.int (1 : Int32)), .unset, .unset, .unset, .unset]) rfl k_) ?_
  refine Go.st (T' := T0) (pc' := 12) (L' := #[.val (.ref t1), .val (.int (2 : Int32)), .val (.ref t2), .val (.int (1 : Int32)), .val (.int (0 : Int32)), .val (.int (61 : Int32)), .val (.int (1 : Int32)), .unset, .unset, .unset, .unset]) (S' := [(.int (0 : Int32))]) (fun t_ k_ => XS.iload X0.here hx rfl (hb hby d22_10) rfl  k_) ?_
  refine Go.st (T' := T0) (pc' := 14) (L' := #[.val (.ref t1), .val (.int (2 : Int32)), .val (.ref t2), .val (.int (1 : Int32)), .val (.int (0 : Int32)), .val (.int (61 : Int32)), .val (.int (1 : Int32)), .val (.int (0 : Int32)), .unset, .unset, .unset]) (S' := []) (fun t_ k_ => XS.istore X0.here hx rfl (hb hby d22_12) rfl (l' := #[.val (.ref t1), .val (.int (2 : Int32)), .val (.ref t2), .val (.int (1 : Int32)), .val (.int (0 : Int32)), .val (.int (61 : Int32)), .val (.int (1 : Int32)), .val (.int (0 : Int32)), .unset, .unset, .unset]) rfl k_) ?_
  refine Go.st (T' := T0) (pc' := 16) (L' := #[.val (.ref t1), .val (.int (2 : Int32)), .val (.ref t2), .val (.int (1 : Int32)), .val (.int (0 : Int32)), .val (.int (61 : Int32)), .val (.int (1 : Int32)), .val (.int (0 : Int32)), .unset, .unset, .unset]) (S' := [(.int (0 : Int32))]) (fun t_ k_ => XS.iload X0.here hx rfl (hb hby d22_14) rfl  k_) ?_
  refine Go.st (T' := T0) (pc' := 18) (L' := #[.val (.ref t1), .val (.int (2 : Int32)), .val (.ref t2), .val (.int (1 : Int32)), .val (.int (0 : Int32)), .val (.int (61 : Int32)), .val (.int (1 : Int32)), .val (.int (0 : Int32)), .unset, .unset, .unset]) (S' := [(.int (1 : Int32)), (.int (0 : Int32))]) (fun t_ k_ => XS.iload X0.here hx rfl (hb hby d22_16) rfl  k_) ?_
  refine Go.st (T' := T0) (pc' := 21) (L' := #[.val (.ref t1), .val (.int (2 : Int32)), .val (.ref t2), .val (.int (1 : Int32)), .val (.int (0 : Int32)), .val (.int (61 : Int32)), .val (.int (1 : Int32)), .val (.int (0 : Int32)), .unset, .unset, .unset]) (S' := []) (fun t_ k_ => XS.icmpNo X0.here hx rfl (hb hby d22_18) rfl (flt (by decide : ¬ ((1 : Int32) < (0 : Int32)))).2.2.1 k_) ?_
  refine Go.st (T' := T0) (pc' := 22) (L' := #[.val (.ref t1), .val (.int (2 : Int32)), .val (.ref t2), .val (.int (1 : Int32)), .val (.int (0 : Int32)), .val (.int (61 : Int32)), .val (.int (1 : Int32)), .val (.int (0 : Int32)), .unset, .unset, .unset]) (S' := [(.ref t1)]) (fun t_ k_ => XS.aloadN X0.here hx rfl (hb hby d22_21) rfl rfl  k_) ?_
  refine Go.st (T' := T0) (pc' := 24) (L' := #[.val (.ref t1), .val (.int (2 : Int32)), .val (.ref t2), .val (.int (1 : Int32)), .val (.int (0 : Int32)), .val (.int (61 : Int32)), .val (.int (1 : Int32)), .val (.int (0 : Int32)), .unset, .unset, .unset]) (S' := [(.int (0 : Int32)), (.ref t1)]) (fun t_ k_ => XS.iload X0.here hx rfl (hb hby d22_22) rfl  k_) ?_
  obtain ⟨cl2, Ar2, -, q2a, q2b, q2c, q2d⟩ := id V_t1
  refine Go.st (T' := T0) (pc' := 25) (L' := #[.val (.ref t1), .val (.int (2 : Int32)), .val (.ref t2), .val (.int (1 : Int32)), .val (.int (0 : Int32)), .val (.int (61 : Int32)), .val (.int (1 : Int32)), .val (.int (0 : Int32)), .unset, .unset, .unset]) (S' := [(.int x0)]) (fun t_ k_ => X0.baloadBytes hx (j := (0 : Int32)) (v := (.int x0)) (by rw [e0]; exact Ar2.1) (State.isArrayOf_alike hZ.alike Ar2.2.1) Ar2.2.2 (inb_of q2a ⟨by decide, by decide⟩) (q2c.at (inb_of q2a ⟨by decide, by decide⟩) rfl) (g := (mkF m 24 #[.val (.ref t1), .val (.int (2 : Int32)), .val (.ref t2), .val (.int (1 : Int32)), .val (.int (0 : Int32)), .val (.int (61 : Int32)), .val (.int (1 : Int32)), .val (.int (0 : Int32)), .unset, .unset, .unset] [(.int (0 : Int32)), (.ref t1)])) rfl rfl (hb hby d22_24) t_ k_) ?_
  refine Go.st (T' := T0) (pc' := 27) (L' := #[.val (.ref t1), .val (.int (2 : Int32)), .val (.ref t2), .val (.int (1 : Int32)), .val (.int (0 : Int32)), .val (.int (61 : Int32)), .val (.int (1 : Int32)), .val (.int (0 : Int32)), .unset, .unset, .unset]) (S' := [(.int (61 : Int32)), (.int x0)]) (fun t_ k_ => XS.iload X0.here hx rfl (hb hby d22_25) rfl  k_) ?_
  refine Go.st (T' := T0) (pc' := 30) (L' := #[.val (.ref t1), .val (.int (2 : Int32)), .val (.ref t2), .val (.int (1 : Int32)), .val (.int (0 : Int32)), .val (.int (61 : Int32)), .val (.int (1 : Int32)), .val (.int (0 : Int32)), .unset, .unset, .unset]) (S' := []) (fun t_ k_ => XS.icmpNo X0.here hx rfl (hb hby d22_27) rfl (feq (hd.1 : ¬ (x0 = (61 : Int32)))).1 k_) ?_
  refine Go.st (T' := T0) (pc' := 33) (L' := #[.val (.ref t1), .val (.int (2 : Int32)), .val (.ref t2), .val (.int (1 : Int32)), .val (.int (0 : Int32)), .val (.int (61 : Int32)), .val (.int (1 : Int32)), .val (.int ((0 : Int32) + (1 : Int32))), .unset, .unset, .unset]) (S' := []) (fun t_ k_ => XS.iinc X0.here hx rfl (hb hby d22_30) rfl (l' := #[.val (.ref t1), .val (.int (2 : Int32)), .val (.ref t2), .val (.int (1 : Int32)), .val (.int (0 : Int32)), .val (.int (61 : Int32)), .val (.int (1 : Int32)), .val (.int ((0 : Int32) + (1 : Int32))), .unset, .unset, .unset]) rfl k_) ?_
  rw [show ((0 : Int32) + (1 : Int32)) = (1 : Int32) from by decide]
  refine Go.st (T' := T0) (pc' := 35) (L' := #[.val (.ref t1), .val (.int (2 : Int32)), .val (.ref t2), .val (.int (1 : Int32)), .val (.int (0 : Int32)), .val (.int (61 : Int32)), .val (.int (1 : Int32)), .val (.int (1 : Int32)), .unset, .unset, .unset]) (S' := [(.int (1 : Int32))]) (fun t_ k_ => XS.iload X0.here hx rfl (hb hby d22_33) rfl  k_) ?_
  refine Go.st (T' := T0) (pc' := 37) (L' := #[.val (.ref t1), .val (.int (2 : Int32)), .val (.ref t2), .val (.int (1 : Int32)), .val (.int (0 : Int32)), .val (.int (61 : Int32)), .val (.int (1 : Int32)), .val (.int (1 : Int32)), .unset, .unset, .unset]) (S' := [(.int (1 : Int32)), (.int (1 : Int32))]) (fun t_ k_ => XS.iload X0.here hx rfl (hb hby d22_35) rfl  k_) ?_
  refine Go.st (T' := T0) (pc' := 40) (L' := #[.val (.ref t1), .val (.int (2 : Int32)), .val (.ref t2), .val (.int (1 : Int32)), .val (.int (0 : Int32)), .val (.int (61 : Int32)), .val (.int (1 : Int32)), .val (.int (1 : Int32)), .unset, .unset, .unset]) (S' := []) (fun t_ k_ => XS.icmpNo X0.here hx rfl (hb hby d22_37) rfl (flt (by decide : ¬ ((1 : Int32) < (1 : Int32)))).2.2.1 k_) ?_
  refine Go.st (T' := T0) (pc' := 41) (L' := #[.val (.ref t1), .val (.int (2 : Int32)), .val (.ref t2), .val (.int (1 : Int32)), .val (.int (0 : Int32)), .val (.int (61 : Int32)), .val (.int (1 : Int32)), .val (.int (1 : Int32)), .unset, .unset, .unset]) (S' := [(.ref t1)]) (fun t_ k_ => XS.aloadN X0.here hx rfl (hb hby d22_40) rfl rfl  k_) ?_
  refine Go.st (T' := T0) (pc' := 43) (L' := #[.val (.ref t1), .val (.int (2 : Int32)), .val (.ref t2), .val (.int (1 : Int32)), .val (.int (0 : Int32)), .val (.int (61 : Int32)), .val (.int (1 : Int32)), .val (.int (1 : Int32)), .unset, .unset, .unset]) (S' := [(.int (1 : Int32)), (.ref t1)]) (fun t_ k_ => XS.iload X0.here hx rfl (hb hby d22_41) rfl  k_) ?_
  obtain ⟨cl3, Ar3, -, q3a, q3b, q3c, q3d⟩ := id V_t1
  refine Go.st (T' := T0) (pc' := 44) (L' := #[.val (.ref t1), .val (.int (2 : Int32)), .val (.ref t2), .val (.int (1 : Int32)), .val (.int (0 : Int32)), .val (.int (61 : Int32)), .val (.int (1 : Int32)), .val (.int (1 : Int32)), .unset, .unset, .unset]) (S' := [(.int x1)]) (fun t_ k_ => X0.baloadBytes hx (j := (1 : Int32)) (v := (.int x1)) (by rw [e0]; exact Ar3.1) (State.isArrayOf_alike hZ.alike Ar3.2.1) Ar3.2.2 (inb_of q3a ⟨by decide, by decide⟩) (q3c.at (inb_of q3a ⟨by decide, by decide⟩) rfl) (g := (mkF m 43 #[.val (.ref t1), .val (.int (2 : Int32)), .val (.ref t2), .val (.int (1 : Int32)), .val (.int (0 : Int32)), .val (.int (61 : Int32)), .val (.int (1 : Int32)), .val (.int (1 : Int32)), .unset, .unset, .unset] [(.int (1 : Int32)), (.ref t1)])) rfl rfl (hb hby d22_43) t_ k_) ?_
  refine Go.st (T' := T0) (pc' := 46) (L' := #[.val (.ref t1), .val (.int (2 : Int32)), .val (.ref t2), .val (.int (1 : Int32)), .val (.int (0 : Int32)), .val (.int (61 : Int32)), .val (.int (1 : Int32)), .val (.int (1 : Int32)), .unset, .unset, .unset]) (S' := [(.int (61 : Int32)), (.int x1)]) (fun t_ k_ => XS.iload X0.here hx rfl (hb hby d22_44) rfl  k_) ?_
  refine Go.st (T' := T0) (pc' := 49) (L' := #[.val (.ref t1), .val (.int (2 : Int32)), .val (.ref t2), .val (.int (1 : Int32)), .val (.int (0 : Int32)), .val (.int (61 : Int32)), .val (.int (1 : Int32)), .val (.int (1 : Int32)), .unset, .unset, .unset]) (S' := []) (fun t_ k_ => XS.icmpNo X0.here hx rfl (hb hby d22_46) rfl (feq (hd.2 : ¬ (x1 = (61 : Int32)))).1 k_) ?_
  refine Go.st (T' := T0) (pc' := 30) (L' := #[.val (.ref t1), .val (.int (2 : Int32)), .val (.ref t2), .val (.int (1 : Int32)), .val (.int (0 : Int32)), .val (.int (61 : Int32)), .val (.int (1 : Int32)), .val (.int (1 : Int32)), .unset, .unset, .unset]) (S' := []) (fun t_ k_ => XS.goto X0.here hx rfl (pc0 := 49) (pc' := 30) rfl (hb hby d22_49) (by decide) (by decide) k_) ?_
  refine Go.st (T' := T0) (pc' := 33) (L' := #[.val (.ref t1), .val (.int (2 : Int32)), .val (.ref t2), .val (.int (1 : Int32)), .val (.int (0 : Int32)), .val (.int (61 : Int32)), .val (.int (1 : Int32)), .val (.int ((1 : Int32) + (1 : Int32))), .unset, .unset, .unset]) (S' := []) (fun t_ k_ => XS.iinc X0.here hx rfl (hb hby d22_30) rfl (l' := #[.val (.ref t1), .val (.int (2 : Int32)), .val (.ref t2), .val (.int (1 : Int32)), .val (.int (0 : Int32)), .val (.int (61 : Int32)), .val (.int (1 : Int32)), .val (.int ((1 : Int32) + (1 : Int32))), .unset, .unset, .unset]) rfl k_) ?_
  rw [show ((1 : Int32) + (1 : Int32)) = (2 : Int32) from by decide]
  refine Go.st (T' := T0) (pc' := 35) (L' := #[.val (.ref t1), .val (.int (2 : Int32)), .val (.ref t2), .val (.int (1 : Int32)), .val (.int (0 : Int32)), .val (.int (61 : Int32)), .val (.int (1 : Int32)), .val (.int (2 : Int32)), .unset, .unset, .unset]) (S' := [(.int (2 : Int32))]) (fun t_ k_ => XS.iload X0.here hx rfl (hb hby d22_33) rfl  k_) ?_
  refine Go.st (T' := T0) (pc' := 37) (L' := #[.val (.ref t1), .val (.int (2 : Int32)), .val (.ref t2), .val (.int (1 : Int32)), .val (.int (0 : Int32)), .val (.int (61 : Int32)), .val (.int (1 : Int32)), .val (.int (2 : Int32)), .unset, .unset, .unset]) (S' := [(.int (1 : Int32)), (.int (2 : Int32))]) (fun t_ k_ => XS.iload X0.here hx rfl (hb hby d22_35) rfl  k_) ?_
  refine Go.st (T' := T0) (pc' := 52) (L' := #[.val (.ref t1), .val (.int (2 : Int32)), .val (.ref t2), .val (.int (1 : Int32)), .val (.int (0 : Int32)), .val (.int (61 : Int32)), .val (.int (1 : Int32)), .val (.int (2 : Int32)), .unset, .unset, .unset]) (S' := []) (fun t_ k_ => XS.icmpYes X0.here hx rfl (pc0 := 37) (pc' := 52) rfl (hb hby d22_37) rfl (tlt (by decide : ((1 : Int32) < (2 : Int32)))).2.2.1 (by decide) (by decide) k_) ?_
  refine Go.st (T' := T0) (pc' := 54) (L' := #[.val (.ref t1), .val (.int (2 : Int32)), .val (.ref t2), .val (.int (1 : Int32)), .val (.int (0 : Int32)), .val (.int (61 : Int32)), .val (.int (1 : Int32)), .val (.int (2 : Int32)), .unset, .unset, .unset]) (S' := [(.int (2 : Int32))]) (fun t_ k_ => XS.iload X0.here hx rfl (hb hby d22_52) rfl  k_) ?_
  refine Go.st (T' := T0) (pc' := 56) (L' := #[.val (.ref t1), .val (.int (2 : Int32)), .val (.ref t2), .val (.int (1 : Int32)), .val (.int (0 : Int32)), .val (.int (61 : Int32)), .val (.int (1 : Int32)), .val (.int (2 : Int32)), .unset, .unset, .unset]) (S' := [(.int (1 : Int32)), (.int (2 : Int32))]) (fun t_ k_ => XS.iload X0.here hx rfl (hb hby d22_54) rfl  k_) ?_
  refine Go.st (T' := T0) (pc' := 113) (L' := #[.val (.ref t1), .val (.int (2 : Int32)), .val (.ref t2), .val (.int (1 : Int32)), .val (.int (0 : Int32)), .val (.int (61 : Int32)), .val (.int (1 : Int32)), .val (.int (2 : Int32)), .unset, .unset, .unset]) (S' := []) (fun t_ k_ => XS.icmpYes X0.here hx rfl (pc0 := 56) (pc' := 113) rfl (hb hby d22_56) rfl (tlt (by decide : ((1 : Int32) < (2 : Int32)))).2.2.1 (by decide) (by decide) k_) ?_
  refine Go.st (T' := T0) (pc' := 116) (L' := #[.val (.ref t1), .val (.int (2 : Int32)), .val (.ref t2), .val (.int (1 : Int32)), .val (.int (0 : Int32)), .val (.int (61 : Int32)), .val (.int (1 : Int32)), .val (.int ((2 : Int32) + (1 : Int32))), .unset, .unset, .unset]) (S' := []) (fun t_ k_ => XS.iinc X0.here hx rfl (hb hby d22_113) rfl (l' := #[.val (.ref t1), .val (.int (2 : Int32)), .val (.ref t2), .val (.int (1 : Int32)), .val (.int (0 : Int32)), .val (.int (61 : Int32)), .val (.int (1 : Int32)), .val (.int ((2 : Int32) + (1 : Int32))), .unset, .unset, .unset]) rfl k_) ?_
  rw [show ((2 : Int32) + (1 : Int32)) = (3 : Int32) from by decide]
  refine Go.st (T' := T0) (pc' := 14) (L' := #[.val (.ref t1), .val (.int (2 : Int32)), .val (.ref t2), .val (.int (1 : Int32)), .val (.int (0 : Int32)), .val (.int (61 : Int32)), .val (.int (1 : Int32)), .val (.int (3 : Int32)), .unset, .unset, .unset]) (S' := []) (fun t_ k_ => XS.goto X0.here hx rfl (pc0 := 116) (pc' := 14) rfl (hb hby d22_116) (by decide) (by decide) k_) ?_
  refine Go.st (T' := T0) (pc' := 16) (L' := #[.val (.ref t1), .val (.int (2 : Int32)), .val (.ref t2), .val (.int (1 : Int32)), .val (.int (0 : Int32)), .val (.int (61 : Int32)), .val (.int (1 : Int32)), .val (.int (3 : Int32)), .unset, .unset, .unset]) (S' := [(.int (3 : Int32))]) (fun t_ k_ => XS.iload X0.here hx rfl (hb hby d22_14) rfl  k_) ?_
  refine Go.st (T' := T0) (pc' := 18) (L' := #[.val (.ref t1), .val (.int (2 : Int32)), .val (.ref t2), .val (.int (1 : Int32)), .val (.int (0 : Int32)), .val (.int (61 : Int32)), .val (.int (1 : Int32)), .val (.int (3 : Int32)), .unset, .unset, .unset]) (S' := [(.int (1 : Int32)), (.int (3 : Int32))]) (fun t_ k_ => XS.iload X0.here hx rfl (hb hby d22_16) rfl  k_) ?_
  refine Go.st (T' := T0) (pc' := 119) (L' := #[.val (.ref t1), .val (.int (2 : Int32)), .val (.ref t2), .val (.int (1 : Int32)), .val (.int (0 : Int32)), .val (.int (61 : Int32)), .val (.int (1 : Int32)), .val (.int (3 : Int32)), .unset, .unset, .unset]) (S' := []) (fun t_ k_ => XS.icmpYes X0.here hx rfl (pc0 := 18) (pc' := 119) rfl (hb hby d22_18) rfl (tlt (by decide : ((1 : Int32) < (3 : Int32)))).2.2.1 (by decide) (by decide) k_) ?_
  refine Go.st (T' := T0) (pc' := 120) (L' := #[.val (.ref t1), .val (.int (2 : Int32)), .val (.ref t2), .val (.int (1 : Int32)), .val (.int (0 : Int32)), .val (.int (61 : Int32)), .val (.int (1 : Int32)), .val (.int (3 : Int32)), .unset, .unset, .unset]) (S' := [(.int (-1 : Int32))]) (fun t_ k_ => XS.iconst X0.here hx rfl (hb hby d22_119) k_) ?_
  exact Go.retO X0 hx hlk hret rfl (by simp [FieldType.isReference, Value.isRef]) (hb hby d22_120) (by decide) (by decide) (by rw [e0]; exact ⟨rfl, N0, rfl⟩)

def Qix22_61 (Z : State) (t1 : Addr) (t2 : Addr) (k1 : ClassId) (k2 : ClassId) (gC : Int32) (x0 : Int32) (x1 : Int32) (h0 : Heap) (n0 : Nat) (v : Option Value) (h : Heap) (L : List Loc) : Prop := v = some (.int (-1)) ∧ Fr n0 L ∧ h = h0
def roomix22_61 : Room := { frames := 1, cells := 0, slots := 0, locals := 22 }
set_option maxRecDepth 65536 in
set_option maxHeartbeats 40000000 in
theorem rmix22_61 (l : Launch) (Z : State) (a0 : Array Value) (hw : ∀ d ∈ tables_1, d.before a0 Z = true) (ws : List Jvm.Cond) (t1 : Addr) (t2 : Addr) (k1 : ClassId) (k2 : ClassId) (gC : Int32) (x0 : Int32) (x1 : Int32) (h0 : Heap) (n0 : Nat) (Z0 : n0 ≤ h0.size) (SC : Sta Z Z.heap "java/lang/String" "COMPACT_STRINGS" "Z" (.int gC)) (PC : ¬ (gC = (0 : Int32))) (O0 : Old Z n0 h0) (V_t1 : Arv Z h0 t1 k1 .byte (2 : Int32) [(.int x0), (.int x1)] (.int (0 : Int32))) (V_t2 : Arv Z h0 t2 k2 .byte (1 : Int32) [(.int (61 : Int32))] (.int (0 : Int32))) (hd : ¬ x0 = (61 : Int32) ∧ ¬ x1 = (61 : Int32)) :
    MetFree l (⟨"java/lang/StringLatin1", "indexOf", "([B[B)I"⟩ : MethodName) (head1 (Jvm.Cond.code (⟨"java/lang/StringLatin1", "indexOf", "([B[B)I"⟩ : MethodName) jdk_43_method_24_code 2 (some .int) :: ws) roomix22_61) (fun aa_ U_ => aa_ = #[(.ref t1), (.ref t2)] ∧ Z.Warmed39 U_.vm ∧ U_.heap = h0) (fun _ _ _ _ _ => True) (fun _ U_ o_ W_ => ∃ v_ L_, o_ = .returned v_ ∧ (Qix22_61 Z t1 t2 k1 k2 gC x0 x1 h0 n0) v_ W_.heap L_ ∧ FrameEnd U_ o_ W_ L_ roomix22_61.cells roomix22_61.slots) := by
  refine own_met (Q := (Qix22_61 Z t1 t2 k1 k2 gC x0 x1 h0 n0)) (L0 := #[.val (.ref t1), .val (.ref t2)]) (plainFor_of_name pn_1) (fun m => by first | (simp [entryFrame, mkF, argsToLocals, Value.category]; done) | rfl) ?_
  intro p e s m below meth c T0 X0 hx hby hml hown hnm hret hlk hZ e0
  have N0 := Fr.nil n0
  refine Go.st (T' := T0) (pc' := 1) (L' := #[.val (.ref t1), .val (.ref t2)]) (S' := [(.ref t2)]) (fun t_ k_ => XS.aloadN X0.here hx rfl (hb hby d21_0) rfl rfl  k_) ?_
  obtain ⟨cl1, Ar1, -, q1a, q1b, -, -⟩ := id V_t2
  refine Go.st (T' := T0) (pc' := 2) (L' := #[.val (.ref t1), .val (.ref t2)]) (S' := [(.int (1 : Int32))]) (fun t_ k_ => own_len X0 hx hZ e0 Ar1 q1a q1b (g := (mkF m 1 #[.val (.ref t1), .val (.ref t2)] [(.ref t2)])) rfl rfl (hb hby d21_1) t_ k_) ?_
  refine Go.st (T' := T0) (pc' := 7) (L' := #[.val (.ref t1), .val (.ref t2)]) (S' := []) (fun t_ k_ => XS.ifYes X0.here hx rfl (pc0 := 2) (pc' := 7) rfl (hb hby d21_2) rfl ((if0 _ _).trans (feq (by decide : ¬ ((1 : Int32) = (0 : Int32)))).2) (by decide) (by decide) k_) ?_
  refine Go.st (T' := T0) (pc' := 8) (L' := #[.val (.ref t1), .val (.ref t2)]) (S' := [(.ref t1)]) (fun t_ k_ => XS.aloadN X0.here hx rfl (hb hby d21_7) rfl rfl  k_) ?_
  obtain ⟨cl2, Ar2, -, q2a, q2b, -, -⟩ := id V_t1
  refine Go.st (T' := T0) (pc' := 9) (L' := #[.val (.ref t1), .val (.ref t2)]) (S' := [(.int (2 : Int32))]) (fun t_ k_ => own_len X0 hx hZ e0 Ar2 q2a q2b (g := (mkF m 8 #[.val (.ref t1), .val (.ref t2)] [(.ref t1)])) rfl rfl (hb hby d21_8) t_ k_) ?_
  refine Go.st (T' := T0) (pc' := 14) (L' := #[.val (.ref t1), .val (.ref t2)]) (S' := []) (fun t_ k_ => XS.ifYes X0.here hx rfl (pc0 := 9) (pc' := 14) rfl (hb hby d21_9) rfl ((if0 _ _).trans (feq (by decide : ¬ ((2 : Int32) = (0 : Int32)))).2) (by decide) (by decide) k_) ?_
  refine Go.st (T' := T0) (pc' := 15) (L' := #[.val (.ref t1), .val (.ref t2)]) (S' := [(.ref t1)]) (fun t_ k_ => XS.aloadN X0.here hx rfl (hb hby d21_14) rfl rfl  k_) ?_
  refine Go.st (T' := T0) (pc' := 16) (L' := #[.val (.ref t1), .val (.ref t2)]) (S' := [(.ref t1), (.ref t1)]) (fun t_ k_ => XS.aloadN X0.here hx rfl (hb hby d21_15) rfl rfl  k_) ?_
  obtain ⟨cl3, Ar3, -, q3a, q3b, -, -⟩ := id V_t1
  refine Go.st (T' := T0) (pc' := 17) (L' := #[.val (.ref t1), .val (.ref t2)]) (S' := [(.int (2 : Int32)), (.ref t1)]) (fun t_ k_ => own_len X0 hx hZ e0 Ar3 q3a q3b (g := (mkF m 16 #[.val (.ref t1), .val (.ref t2)] [(.ref t1), (.ref t1)])) rfl rfl (hb hby d21_16) t_ k_) ?_
  refine Go.st (T' := T0) (pc' := 18) (L' := #[.val (.ref t1), .val (.ref t2)]) (S' := [(.ref t2), (.int (2 : Int32)), (.ref t1)]) (fun t_ k_ => XS.aloadN X0.here hx rfl (hb hby d21_17) rfl rfl  k_) ?_
  refine Go.st (T' := T0) (pc' := 19) (L' := #[.val (.ref t1), .val (.ref t2)]) (S' := [(.ref t2), (.ref t2), (.int (2 : Int32)), (.ref t1)]) (fun t_ k_ => XS.aloadN X0.here hx rfl (hb hby d21_18) rfl rfl  k_) ?_
  obtain ⟨cl4, Ar4, -, q4a, q4b, -, -⟩ := id V_t2
  refine Go.st (T' := T0) (pc' := 20) (L' := #[.val (.ref t1), .val (.ref t2)]) (S' := [(.int (1 : Int32)), (.ref t2), (.int (2 : Int32)), (.ref t1)]) (fun t_ k_ => own_len X0 hx hZ e0 Ar4 q4a q4b (g := (mkF m 19 #[.val (.ref t1), .val (.ref t2)] [(.ref t2), (.ref t2), (.int (2 : Int32)), (.ref t1)])) rfl rfl (hb hby d21_19) t_ k_) ?_
  refine Go.st (T' := T0) (pc' := 21) (L' := #[.val (.ref t1), .val (.ref t2)]) (S' := [(.int (0 : Int32)), (.int (1 : Int32)), (.ref t2), (.int (2 : Int32)), (.ref t1)]) (fun t_ k_ => XS.iconst X0.here hx rfl (hb hby d21_20) k_) ?_
  obtain ⟨_, _, ⟨T5, L5, k5, n5⟩, -, X5, ⟨Lc5, hQ5, l5, y5, z5⟩, st5⟩ := Jvm.LawKit.callS X0 hx (y := (⟨"java/lang/StringLatin1", "indexOf", "([BI[BII)I"⟩ : MethodName)) hown (mvT hZ (hw _ (List.mem_of_getElem? (i := 113) rfl))) (mvT hZ (hw _ (List.mem_of_getElem? (i := 114) rfl))) (mvT hZ (hw _ (List.mem_of_getElem? (i := 7) rfl))) (mvT hZ (hw _ (List.mem_of_getElem? (i := 115) rfl))) (by decide) (backOf (W := 0) (rmix52_61 l Z a0 hw [] t1 t2 _ _ gC (x0) (x1) h0 n0 Z0 SC PC O0 V_t1 V_t2 hd) hZ (hw _ (List.mem_of_getElem? (i := 115) rfl)) (hw _ (List.mem_of_getElem? (i := 7) rfl)) (by decide) (by decide)) (g := (mkF m 21 #[.val (.ref t1), .val (.ref t2)] [(.int (0 : Int32)), (.int (1 : Int32)), (.ref t2), (.int (2 : Int32)), (.ref t1)])) rfl (by rw [hml]; rfl) (argsL := [(.ref t1), (.int (2 : Int32)), (.ref t2), (.int (1 : Int32)), (.int (0 : Int32))]) (rest := []) (lenOf pd_9 rfl) rfl (by show 2 * 0 + _ ≤ _; exact Nat.le_of_eq rfl) (hb hby d21_21) (fun _ _ => ⟨rfl, e0, (by decide : 0 + 0 ≤ _), (by decide : 0 + 0 ≤ _)⟩)
  dsimp only [Pt.U, Pt.locs, Pt.cells, Pt.slots] at X5 l5 y5 z5 st5 hQ5
  subst l5 y5 z5
  obtain ⟨rfl, N5q, e5⟩ := hQ5
  have N5 := Fr.app N0 N5q
  refine Go.st (T' := T5) (pc' := 24) (L' := #[.val (.ref t1), .val (.ref t2)]) (S' := [(.int (-1 : Int32))]) st5 ?_
  exact Go.retO X5 hx hlk hret rfl (by simp [FieldType.isReference, Value.isRef]) (hb hby d21_24) (by decide) (by decide) (by rw [e5]; exact ⟨rfl, N5, rfl⟩)

def Qixs2_61 (Z : State) (a1 : Addr) (a2 : Addr) (t1 : Addr) (t2 : Addr) (k1 : ClassId) (k2 : ClassId) (gC : Int32) (x0 : Int32) (x1 : Int32) (h0 : Heap) (n0 : Nat) (v : Option Value) (h : Heap) (L : List Loc) : Prop := v = some (.int (-1)) ∧ Fr n0 L ∧ h = h0
def roomixs2_61 : Room := { frames := 2, cells := 0, slots := 0, locals := 35 }
set_option maxRecDepth 65536 in
set_option maxHeartbeats 40000000 in
theorem rmixs2_61 (l : Launch) (Z : State) (a0 : Array Value) (hw : ∀ d ∈ tables_1, d.before a0 Z = true) (ws : List Jvm.Cond) (a1 : Addr) (a2 : Addr) (t1 : Addr) (t2 : Addr) (k1 : ClassId) (k2 : ClassId) (gC : Int32) (x0 : Int32) (x1 : Int32) (h0 : Heap) (n0 : Nat) (Z0 : n0 ≤ h0.size) (SC : Sta Z Z.heap "java/lang/String" "COMPACT_STRINGS" "Z" (.int gC)) (PC : ¬ (gC = (0 : Int32))) (O0 : Old Z n0 h0) (E_a1 : Exa Z h0 a1 "java/lang/String") (Fc_a1 : Fld Z h0 a1 "java/lang/String" "coder" "B" (.int (0 : Int32))) (Fv_a1 : Fld Z h0 a1 "java/lang/String" "value" "[B" (.ref t1)) (V_t1 : Arv Z h0 t1 k1 .byte (2 : Int32) [(.int x0), (.int x1)] (.int (0 : Int32))) (E_a2 : Exa Z h0 a2 "java/lang/String") (Fc_a2 : Fld Z h0 a2 "java/lang/String" "coder" "B" (.int (0 : Int32))) (Fv_a2 : Fld Z h0 a2 "java/lang/String" "value" "[B" (.ref t2)) (V_t2 : Arv Z h0 t2 k2 .byte (1 : Int32) [(.int (61 : Int32))] (.int (0 : Int32))) (hd : ¬ x0 = (61 : Int32) ∧ ¬ x1 = (61 : Int32)) :
    MetFree l (⟨"java/lang/String", "indexOf", "(Ljava/lang/String;)I"⟩ : MethodName) (head1 (Jvm.Cond.code (⟨"java/lang/String", "indexOf", "(Ljava/lang/String;)I"⟩ : MethodName) jdk_42_method_84_code 3 (some .int) :: ws) roomixs2_61) (fun aa_ U_ => aa_ = #[(.ref a1), (.ref a2)] ∧ Z.Warmed39 U_.vm ∧ U_.heap = h0) (fun _ _ _ _ _ => True) (fun _ U_ o_ W_ => ∃ v_ L_, o_ = .returned v_ ∧ (Qixs2_61 Z a1 a2 t1 t2 k1 k2 gC x0 x1 h0 n0) v_ W_.heap L_ ∧ FrameEnd U_ o_ W_ L_ roomixs2_61.cells roomixs2_61.slots) := by
  refine own_met (Q := (Qixs2_61 Z a1 a2 t1 t2 k1 k2 gC x0 x1 h0 n0)) (L0 := #[.val (.ref a1), .val (.ref a2), .unset]) (plainFor_of_name pn_0) (fun m => by first | (simp [entryFrame, mkF, argsToLocals, Value.category]; done) | rfl) ?_
  intro p e s m below meth c T0 X0 hx hby hml hown hnm hret hlk hZ e0
  have N0 := Fr.nil n0
  refine Go.st (T' := T0) (pc' := 1) (L' := #[.val (.ref a1), .val (.ref a2), .unset]) (S' := [(.ref a1)]) (fun t_ k_ => XS.aloadN X0.here hx rfl (hb hby d19_0) rfl rfl  k_) ?_
  obtain ⟨cq1, kq1, q1a, q1b, q1c⟩ := isOf hZ e0 E_a1
  obtain ⟨_, _, ⟨T1, L1, k1, n1⟩, -, X1, ⟨Lc1, hQ1, l1, y1, z1⟩, st1⟩ := X0.virtualBack hx (y := (⟨"java/lang/String", "coder", "()B"⟩ : MethodName)) (z := (⟨"java/lang/String", "coder", "()B"⟩ : MethodName)) hown (mvT hZ (hw _ (List.mem_of_getElem? (i := 76) rfl))) (mvT hZ (hw _ (List.mem_of_getElem? (i := 77) rfl))) (notFace_of_selects (args := #[]) (mvT hZ (hw _ (List.mem_of_getElem? (i := 79) rfl)))) (mvT hZ (hw _ (List.mem_of_getElem? (i := 79) rfl))) (mvT hZ (hw _ (List.mem_of_getElem? (i := 78) rfl))) (by decide) (backOf (W := 0) (rm15 l Z a0 hw [] a1 gC h0 n0 Z0 SC PC O0 Fc_a1) hZ (hw _ (List.mem_of_getElem? (i := 80) rfl)) (hw _ (List.mem_of_getElem? (i := 2) rfl)) (by decide) (by decide)) q1a q1c (g := (mkF m 1 #[.val (.ref a1), .val (.ref a2), .unset] [(.ref a1)])) rfl (by rw [hml]; rfl) (Steps.refl _) (argsL := []) (rest := []) (lenOf pd_7 rfl) rfl (by show 2 * 0 + _ ≤ _; exact Nat.le_of_eq rfl) (hb hby d19_1) (fun _ _ => ⟨rfl, e0, (by decide : 0 + 0 ≤ _), (by decide : 0 + 0 ≤ _)⟩)
  dsimp only [Pt.U, Pt.locs, Pt.cells, Pt.slots] at X1 l1 y1 z1 st1 hQ1
  subst l1 y1 z1
  obtain ⟨rfl, N1q, e1⟩ := hQ1
  have N1 := Fr.app N0 N1q
  refine Go.tr (T' := T1) (pc' := 4) (L' := #[.val (.ref a1), .val (.ref a2), .unset]) (S' := [(.int (0 : Int32))]) st1 ?_
  refine Go.st (T' := T1) (pc' := 5) (L' := #[.val (.ref a1), .val (.ref a2), .val (.int (0 : Int32))]) (S' := []) (fun t_ k_ => XS.istoreN X1.here hx rfl (hb hby d19_4) rfl (l' := #[.val (.ref a1), .val (.ref a2), .val (.int (0 : Int32))]) rfl k_) ?_
  refine Go.st (T' := T1) (pc' := 6) (L' := #[.val (.ref a1), .val (.ref a2), .val (.int (0 : Int32))]) (S' := [(.int (0 : Int32))]) (fun t_ k_ => XS.iloadN X1.here hx rfl (hb hby d19_5) rfl  k_) ?_
  refine Go.st (T' := T1) (pc' := 7) (L' := #[.val (.ref a1), .val (.ref a2), .val (.int (0 : Int32))]) (S' := [(.ref a2), (.int (0 : Int32))]) (fun t_ k_ => XS.aloadN X1.here hx rfl (hb hby d19_6) rfl rfl  k_) ?_
  obtain ⟨cq2, kq2, q2a, q2b, q2c⟩ := isOf hZ e1 E_a2
  obtain ⟨_, _, ⟨T2, L2, k2, n2⟩, -, X2, ⟨Lc2, hQ2, l2, y2, z2⟩, st2⟩ := X1.virtualBack hx (y := (⟨"java/lang/String", "coder", "()B"⟩ : MethodName)) (z := (⟨"java/lang/String", "coder", "()B"⟩ : MethodName)) hown (mvT hZ (hw _ (List.mem_of_getElem? (i := 76) rfl))) (mvT hZ (hw _ (List.mem_of_getElem? (i := 77) rfl))) (notFace_of_selects (args := #[]) (mvT hZ (hw _ (List.mem_of_getElem? (i := 79) rfl)))) (mvT hZ (hw _ (List.mem_of_getElem? (i := 79) rfl))) (mvT hZ (hw _ (List.mem_of_getElem? (i := 78) rfl))) (by decide) (backOf (W := 1) (rm15 l Z a0 hw [] a2 gC h0 n0 Z0 SC PC O0 Fc_a2) hZ (hw _ (List.mem_of_getElem? (i := 80) rfl)) (hw _ (List.mem_of_getElem? (i := 2) rfl)) (by decide) (by decide)) q2a q2c (g := (mkF m 7 #[.val (.ref a1), .val (.ref a2), .val (.int (0 : Int32))] [(.ref a2), (.int (0 : Int32))])) rfl (by rw [hml]; rfl) (Steps.refl _) (argsL := []) (rest := [(.int (0 : Int32))]) (lenOf pd_7 rfl) rfl (by show 2 * 0 + _ ≤ _; exact Nat.le_of_eq rfl) (hb hby d19_7) (fun _ _ => ⟨rfl, e1, (by decide : 0 + 0 ≤ _), (by decide : 0 + 0 ≤ _)⟩)
  dsimp only [Pt.U, Pt.locs, Pt.cells, Pt.slots] at X2 l2 y2 z2 st2 hQ2
  subst l2 y2 z2
  obtain ⟨rfl, N2q, e2⟩ := hQ2
  have N2 := Fr.app N1 N2q
  refine Go.tr (T' := T2) (pc' := 10) (L' := #[.val (.ref a1), .val (.ref a2), .val (.int (0 : Int32))]) (S' := [(.int (0 : Int32)), (.int (0 : Int32))]) st2 ?_
  refine Go.st (T' := T2) (pc' := 13) (L' := #[.val (.ref a1), .val (.ref a2), .val (.int (0 : Int32))]) (S' := []) (fun t_ k_ => XS.icmpNo X2.here hx rfl (hb hby d19_10) rfl (teq (by decide : ((0 : Int32) = (0 : Int32)))).2 k_) ?_
  refine Go.st (T' := T2) (pc' := 14) (L' := #[.val (.ref a1), .val (.ref a2), .val (.int (0 : Int32))]) (S' := [(.ref a1)]) (fun t_ k_ => XS.aloadN X2.here hx rfl (hb hby d19_13) rfl rfl  k_) ?_
  obtain ⟨cq3, kq3, q3a, q3b, q3c⟩ := isOf hZ e2 E_a1
  obtain ⟨_, _, ⟨T3, L3, k3, n3⟩, -, X3, ⟨Lc3, hQ3, l3, y3, z3⟩, st3⟩ := X2.virtualBack hx (y := (⟨"java/lang/String", "isLatin1", "()Z"⟩ : MethodName)) (z := (⟨"java/lang/String", "isLatin1", "()Z"⟩ : MethodName)) hown (mvT hZ (hw _ (List.mem_of_getElem? (i := 105) rfl))) (mvT hZ (hw _ (List.mem_of_getElem? (i := 106) rfl))) (notFace_of_selects (args := #[]) (mvT hZ (hw _ (List.mem_of_getElem? (i := 108) rfl)))) (mvT hZ (hw _ (List.mem_of_getElem? (i := 108) rfl))) (mvT hZ (hw _ (List.mem_of_getElem? (i := 107) rfl))) (by decide) (backOf (W := 0) (rm20 l Z a0 hw [] a1 gC h0 n0 Z0 SC PC O0 Fc_a1) hZ (hw _ (List.mem_of_getElem? (i := 109) rfl)) (hw _ (List.mem_of_getElem? (i := 2) rfl)) (by decide) (by decide)) q3a q3c (g := (mkF m 14 #[.val (.ref a1), .val (.ref a2), .val (.int (0 : Int32))] [(.ref a1)])) rfl (by rw [hml]; rfl) (Steps.refl _) (argsL := []) (rest := []) (lenOf pd_6 rfl) rfl (by show 2 * 0 + _ ≤ _; exact Nat.le_of_eq rfl) (hb hby d19_14) (fun _ _ => ⟨rfl, e2, (by decide : 0 + 0 ≤ _), (by decide : 0 + 0 ≤ _)⟩)
  dsimp only [Pt.U, Pt.locs, Pt.cells, Pt.slots] at X3 l3 y3 z3 st3 hQ3
  subst l3 y3 z3
  obtain ⟨rfl, N3q, e3⟩ := hQ3
  have N3 := Fr.app N2 N3q
  refine Go.tr (T' := T3) (pc' := 17) (L' := #[.val (.ref a1), .val (.ref a2), .val (.int (0 : Int32))]) (S' := [(.int (1 : Int32))]) st3 ?_
  refine Go.st (T' := T3) (pc' := 20) (L' := #[.val (.ref a1), .val (.ref a2), .val (.int (0 : Int32))]) (S' := []) (fun t_ k_ => XS.ifNo X3.here hx rfl (hb hby d19_17) rfl ((if0 _ _).trans (feq (by decide : ¬ ((1 : Int32) = (0 : Int32)))).1) k_) ?_
  refine Go.st (T' := T3) (pc' := 21) (L' := #[.val (.ref a1), .val (.ref a2), .val (.int (0 : Int32))]) (S' := [(.ref a1)]) (fun t_ k_ => XS.aloadN X3.here hx rfl (hb hby d19_20) rfl rfl  k_) ?_
  obtain ⟨T4, X4, e4, st4⟩ := getF X3 hx hZ hown (host := "") (Or.inl (hw _ (List.mem_of_getElem? (i := 22) rfl))) Via.refl e3 Fv_a1 (g := (mkF m 21 #[.val (.ref a1), .val (.ref a2), .val (.int (0 : Int32))] [(.ref a1)])) rfl rfl (hb hby d19_21)
  refine Go.st (T' := T4) (pc' := 24) (L' := #[.val (.ref a1), .val (.ref a2), .val (.int (0 : Int32))]) (S' := [(.ref t1)]) st4 ?_
  refine Go.st (T' := T4) (pc' := 25) (L' := #[.val (.ref a1), .val (.ref a2), .val (.int (0 : Int32))]) (S' := [(.ref a2), (.ref t1)]) (fun t_ k_ => XS.aloadN X4.here hx rfl (hb hby d19_24) rfl rfl  k_) ?_
  obtain ⟨T5, X5, e5, st5⟩ := getF X4 hx hZ hown (host := "") (Or.inl (hw _ (List.mem_of_getElem? (i := 22) rfl))) Via.refl e4 Fv_a2 (g := (mkF m 25 #[.val (.ref a1), .val (.ref a2), .val (.int (0 : Int32))] [(.ref a2), (.ref t1)])) rfl rfl (hb hby d19_25)
  refine Go.st (T' := T5) (pc' := 28) (L' := #[.val (.ref a1), .val (.ref a2), .val (.int (0 : Int32))]) (S' := [(.ref t2), (.ref t1)]) st5 ?_
  obtain ⟨_, _, ⟨T6, L6, k6, n6⟩, -, X6, ⟨Lc6, hQ6, l6, y6, z6⟩, st6⟩ := Jvm.LawKit.callS X5 hx (y := (⟨"java/lang/StringLatin1", "indexOf", "([B[B)I"⟩ : MethodName)) hown (mvT hZ (hw _ (List.mem_of_getElem? (i := 110) rfl))) (mvT hZ (hw _ (List.mem_of_getElem? (i := 111) rfl))) (mvT hZ (hw _ (List.mem_of_getElem? (i := 7) rfl))) (mvT hZ (hw _ (List.mem_of_getElem? (i := 112) rfl))) (by decide) (backOf (W := 0) (rmix22_61 l Z a0 hw [] t1 t2 _ _ gC (x0) (x1) h0 n0 Z0 SC PC O0 V_t1 V_t2 hd) hZ (hw _ (List.mem_of_getElem? (i := 112) rfl)) (hw _ (List.mem_of_getElem? (i := 7) rfl)) (by decide) (by decide)) (g := (mkF m 28 #[.val (.ref a1), .val (.ref a2), .val (.int (0 : Int32))] [(.ref t2), (.ref t1)])) rfl (by rw [hml]; rfl) (argsL := [(.ref t1), (.ref t2)]) (rest := []) (lenOf pd_13 rfl) rfl (by show 2 * 0 + _ ≤ _; exact Nat.le_of_eq rfl) (hb hby d19_28) (fun _ _ => ⟨rfl, e5, (by decide : 0 + 0 ≤ _), (by decide : 0 + 0 ≤ _)⟩)
  dsimp only [Pt.U, Pt.locs, Pt.cells, Pt.slots] at X6 l6 y6 z6 st6 hQ6
  subst l6 y6 z6
  obtain ⟨rfl, N6q, e6⟩ := hQ6
  have N6 := Fr.app N3 N6q
  refine Go.st (T' := T6) (pc' := 31) (L' := #[.val (.ref a1), .val (.ref a2), .val (.int (0 : Int32))]) (S' := [(.int (-1 : Int32))]) st6 ?_
  refine Go.st (T' := T6) (pc' := 45) (L' := #[.val (.ref a1), .val (.ref a2), .val (.int (0 : Int32))]) (S' := [(.int (-1 : Int32))]) (fun t_ k_ => XS.goto X6.here hx rfl (pc0 := 31) (pc' := 45) rfl (hb hby d19_31) (by decide) (by decide) k_) ?_
  exact Go.retO X6 hx hlk hret rfl (by simp [FieldType.isReference, Value.isRef]) (hb hby d19_45) (by decide) (by decide) (by rw [e6]; exact ⟨rfl, N6, rfl⟩)

def Qcnt2_61 (Z : State) (a1 : Addr) (a2 : Addr) (t1 : Addr) (t2 : Addr) (k1 : ClassId) (k2 : ClassId) (gC : Int32) (x0 : Int32) (x1 : Int32) (h0 : Heap) (n0 : Nat) (v : Option Value) (h : Heap) (L : List Loc) : Prop := v = some (.int 0) ∧ Fr n0 L ∧ h = h0
def roomcnt2_61 : Room := { frames := 3, cells := 0, slots := 0, locals := 49 }
set_option maxRecDepth 65536 in
set_option maxHeartbeats 40000000 in
theorem rmcnt2_61 (l : Launch) (Z : State) (a0 : Array Value) (hw : ∀ d ∈ tables_1, d.before a0 Z = true) (ws : List Jvm.Cond) (a1 : Addr) (a2 : Addr) (t1 : Addr) (t2 : Addr) (k1 : ClassId) (k2 : ClassId) (gC : Int32) (x0 : Int32) (x1 : Int32) (h0 : Heap) (n0 : Nat) (Z0 : n0 ≤ h0.size) (SC : Sta Z Z.heap "java/lang/String" "COMPACT_STRINGS" "Z" (.int gC)) (PC : ¬ (gC = (0 : Int32))) (O0 : Old Z n0 h0) (E_a1 : Exa Z h0 a1 "java/lang/String") (Fc_a1 : Fld Z h0 a1 "java/lang/String" "coder" "B" (.int (0 : Int32))) (Fv_a1 : Fld Z h0 a1 "java/lang/String" "value" "[B" (.ref t1)) (V_t1 : Arv Z h0 t1 k1 .byte (2 : Int32) [(.int x0), (.int x1)] (.int (0 : Int32))) (E_a2 : Exa Z h0 a2 "java/lang/String") (Fc_a2 : Fld Z h0 a2 "java/lang/String" "coder" "B" (.int (0 : Int32))) (Fv_a2 : Fld Z h0 a2 "java/lang/String" "value" "[B" (.ref t2)) (V_t2 : Arv Z h0 t2 k2 .byte (1 : Int32) [(.int (61 : Int32))] (.int (0 : Int32))) (hd : ¬ x0 = (61 : Int32) ∧ ¬ x1 = (61 : Int32)) :
    MetFree l (⟨"java/lang/String", "contains", "(Ljava/lang/CharSequence;)Z"⟩ : MethodName) (head1 (Jvm.Cond.code (⟨"java/lang/String", "contains", "(Ljava/lang/CharSequence;)Z"⟩ : MethodName) jdk_42_method_97_code 2 (some .boolean) :: ws) roomcnt2_61) (fun aa_ U_ => aa_ = #[(.ref a1), (.ref a2)] ∧ Z.Warmed39 U_.vm ∧ U_.heap = h0) (fun _ _ _ _ _ => True) (fun _ U_ o_ W_ => ∃ v_ L_, o_ = .returned v_ ∧ (Qcnt2_61 Z a1 a2 t1 t2 k1 k2 gC x0 x1 h0 n0) v_ W_.heap L_ ∧ FrameEnd U_ o_ W_ L_ roomcnt2_61.cells roomcnt2_61.slots) := by
  refine own_met (Q := (Qcnt2_61 Z a1 a2 t1 t2 k1 k2 gC x0 x1 h0 n0)) (L0 := #[.val (.ref a1), .val (.ref a2)]) (plainFor_of_name pn_0) (fun m => by first | (simp [entryFrame, mkF, argsToLocals, Value.category]; done) | rfl) ?_
  intro p e s m below meth c T0 X0 hx hby hml hown hnm hret hlk hZ e0
  have N0 := Fr.nil n0
  refine Go.st (T' := T0) (pc' := 1) (L' := #[.val (.ref a1), .val (.ref a2)]) (S' := [(.ref a1)]) (fun t_ k_ => XS.aloadN X0.here hx rfl (hb hby d17_0) rfl rfl  k_) ?_
  refine Go.st (T' := T0) (pc' := 2) (L' := #[.val (.ref a1), .val (.ref a2)]) (S' := [(.ref a2), (.ref a1)]) (fun t_ k_ => XS.aloadN X0.here hx rfl (hb hby d17_1) rfl rfl  k_) ?_
  obtain ⟨cq1, kq1, q1a, q1b, q1c⟩ := isOf hZ e0 E_a2
  obtain ⟨_, _, ⟨T1, L1, k1, n1⟩, -, X1, ⟨Lc1, hQ1, l1, y1, z1⟩, st1⟩ := X0.interfaceBack hx (xi := (⟨"java/lang/CharSequence", "toString", "()Ljava/lang/String;"⟩ : MethodName)) (y := (⟨"java/lang/String", "toString", "()Ljava/lang/String;"⟩ : MethodName)) hown (mvT hZ (hw _ (List.mem_of_getElem? (i := 91) rfl))) (mvT hZ (hw _ (List.mem_of_getElem? (i := 92) rfl))) (mvT hZ (hw _ (List.mem_of_getElem? (i := 93) rfl))) (mvT hZ (hw _ (List.mem_of_getElem? (i := 94) rfl))) (mvT hZ (hw _ (List.mem_of_getElem? (i := 95) rfl))) (mvT hZ (hw _ (List.mem_of_getElem? (i := 96) rfl))) (mvT hZ (hw _ (List.mem_of_getElem? (i := 97) rfl))) (mvT hZ (hw _ (List.mem_of_getElem? (i := 98) rfl))) (by decide) (backOf (W := 1) (rmtostr l Z a0 hw [] a2 h0 n0 Z0) hZ (hw _ (List.mem_of_getElem? (i := 99) rfl)) (hw _ (List.mem_of_getElem? (i := 2) rfl)) (by decide) (by decide)) q1a q1b q1c (g := (mkF m 2 #[.val (.ref a1), .val (.ref a2)] [(.ref a2), (.ref a1)])) rfl (by rw [hml]; rfl) (Steps.refl _) (argsL := []) (rest := [(.ref a1)]) (lenOf pd_12 rfl) rfl (by show 2 * 0 + _ ≤ _; exact Nat.le_of_eq rfl) (hb hby d17_2) (fun _ _ => ⟨rfl, e0, (by decide : 0 + 0 ≤ _), (by decide : 0 + 0 ≤ _)⟩)
  dsimp only [Pt.U, Pt.locs, Pt.cells, Pt.slots] at X1 l1 y1 z1 st1 hQ1
  subst l1 y1 z1
  obtain ⟨rfl, N1q, e1⟩ := hQ1
  have N1 := Fr.app N0 N1q
  refine Go.tr (T' := T1) (pc' := 7) (L' := #[.val (.ref a1), .val (.ref a2)]) (S' := [(.ref a2), (.ref a1)]) st1 ?_
  obtain ⟨cq2, kq2, q2a, q2b, q2c⟩ := isOf hZ e1 E_a1
  obtain ⟨_, _, ⟨T2, L2, k2, n2⟩, -, X2, ⟨Lc2, hQ2, l2, y2, z2⟩, st2⟩ := X1.virtualBack hx (y := (⟨"java/lang/String", "indexOf", "(Ljava/lang/String;)I"⟩ : MethodName)) (z := (⟨"java/lang/String", "indexOf", "(Ljava/lang/String;)I"⟩ : MethodName)) hown (mvT hZ (hw _ (List.mem_of_getElem? (i := 100) rfl))) (mvT hZ (hw _ (List.mem_of_getElem? (i := 101) rfl))) (notFace_of_selects (args := #[]) (mvT hZ (hw _ (List.mem_of_getElem? (i := 103) rfl)))) (mvT hZ (hw _ (List.mem_of_getElem? (i := 103) rfl))) (mvT hZ (hw _ (List.mem_of_getElem? (i := 102) rfl))) (by decide) (backOf (W := 0) (rmixs2_61 l Z a0 hw [] a1 a2 t1 t2 _ _ gC (x0) (x1) h0 n0 Z0 SC PC O0 E_a1 Fc_a1 Fv_a1 V_t1 E_a2 Fc_a2 Fv_a2 V_t2 hd) hZ (hw _ (List.mem_of_getElem? (i := 104) rfl)) (hw _ (List.mem_of_getElem? (i := 2) rfl)) (by decide) (by decide)) q2a q2c (g := (mkF m 7 #[.val (.ref a1), .val (.ref a2)] [(.ref a2), (.ref a1)])) rfl (by rw [hml]; rfl) (Steps.refl _) (argsL := [(.ref a2)]) (rest := []) (lenOf pd_14 rfl) rfl (by show 2 * 0 + _ ≤ _; exact Nat.le_of_eq rfl) (hb hby d17_7) (fun _ _ => ⟨rfl, e1, (by decide : 0 + 0 ≤ _), (by decide : 0 + 0 ≤ _)⟩)
  dsimp only [Pt.U, Pt.locs, Pt.cells, Pt.slots] at X2 l2 y2 z2 st2 hQ2
  subst l2 y2 z2
  obtain ⟨rfl, N2q, e2⟩ := hQ2
  have N2 := Fr.app N1 N2q
  refine Go.tr (T' := T2) (pc' := 10) (L' := #[.val (.ref a1), .val (.ref a2)]) (S' := [(.int (-1 : Int32))]) st2 ?_
  refine Go.st (T' := T2) (pc' := 17) (L' := #[.val (.ref a1), .val (.ref a2)]) (S' := []) (fun t_ k_ => XS.ifYes X2.here hx rfl (pc0 := 10) (pc' := 17) rfl (hb hby d17_10) rfl ((if0 _ _).trans (tlt (by decide : ((-1 : Int32) < (0 : Int32)))).1) (by decide) (by decide) k_) ?_
  refine Go.st (T' := T2) (pc' := 18) (L' := #[.val (.ref a1), .val (.ref a2)]) (S' := [(.int (0 : Int32))]) (fun t_ k_ => XS.iconst X2.here hx rfl (hb hby d17_17) k_) ?_
  exact Go.retN X2 hx hlk hret (by simp) (hb hby d17_18) (by decide) (by decide) (by rw [e2]; exact ⟨rfl, N2, rfl⟩)

def Qeq12_104_101_108_112 (Z : State) (t1 : Addr) (t2 : Addr) (k1 : ClassId) (k2 : ClassId) (gC : Int32) (x0 : Int32) (x1 : Int32) (h0 : Heap) (n0 : Nat) (v : Option Value) (h : Heap) (L : List Loc) : Prop := v = some (.int 0) ∧ Fr n0 L ∧ h = h0
def roomeq12_104_101_108_112 : Room := { frames := 0, cells := 0, slots := 0, locals := 0 }
set_option maxRecDepth 65536 in
set_option maxHeartbeats 40000000 in
theorem rmeq12_104_101_108_112 (l : Launch) (Z : State) (a0 : Array Value) (hw : ∀ d ∈ tables_1, d.before a0 Z = true) (ws : List Jvm.Cond) (t1 : Addr) (t2 : Addr) (k1 : ClassId) (k2 : ClassId) (gC : Int32) (x0 : Int32) (x1 : Int32) (h0 : Heap) (n0 : Nat) (Z0 : n0 ≤ h0.size) (SC : Sta Z Z.heap "java/lang/String" "COMPACT_STRINGS" "Z" (.int gC)) (PC : ¬ (gC = (0 : Int32))) (O0 : Old Z n0 h0) (V_t1 : Arv Z h0 t1 k1 .byte (2 : Int32) [(.int x0), (.int x1)] (.int (0 : Int32))) (V_t2 : Arv Z h0 t2 k2 .byte (4 : Int32) [(.int (104 : Int32)), (.int (101 : Int32)), (.int (108 : Int32)), (.int (112 : Int32))] (.int (0 : Int32))) (hd : True) :
    MetFree l (⟨"java/lang/StringLatin1", "equals", "([B[B)Z"⟩ : MethodName) (head1 (Jvm.Cond.code (⟨"java/lang/StringLatin1", "equals", "([B[B)Z"⟩ : MethodName) jdk_43_method_13_code 3 (some .boolean) :: ws) roomeq12_104_101_108_112) (fun aa_ U_ => aa_ = #[(.ref t1), (.ref t2)] ∧ Z.Warmed39 U_.vm ∧ U_.heap = h0) (fun _ _ _ _ _ => True) (fun _ U_ o_ W_ => ∃ v_ L_, o_ = .returned v_ ∧ (Qeq12_104_101_108_112 Z t1 t2 k1 k2 gC x0 x1 h0 n0) v_ W_.heap L_ ∧ FrameEnd U_ o_ W_ L_ roomeq12_104_101_108_112.cells roomeq12_104_101_108_112.slots) := by
  refine own_met (Q := (Qeq12_104_101_108_112 Z t1 t2 k1 k2 gC x0 x1 h0 n0)) (L0 := #[.val (.ref t1), .val (.ref t2), .unset]) (plainFor_of_name pn_1) (fun m => by first | (simp [entryFrame, mkF, argsToLocals, Value.category]; done) | rfl) ?_
  intro p e s m below meth c T0 X0 hx hby hml hown hnm hret hlk hZ e0
  have N0 := Fr.nil n0
  refine Go.st (T' := T0) (pc' := 1) (L' := #[.val (.ref t1), .val (.ref t2), .unset]) (S' := [(.ref t1)]) (fun t_ k_ => XS.aloadN X0.here hx rfl (hb hby d24_0) rfl rfl  k_) ?_
  obtain ⟨cl1, Ar1, -, q1a, q1b, -, -⟩ := id V_t1
  refine Go.st (T' := T0) (pc' := 2) (L' := #[.val (.ref t1), .val (.ref t2), .unset]) (S' := [(.int (2 : Int32))]) (fun t_ k_ => own_len X0 hx hZ e0 Ar1 q1a q1b (g := (mkF m 1 #[.val (.ref t1), .val (.ref t2), .unset] [(.ref t1)])) rfl rfl (hb hby d24_1) t_ k_) ?_
  refine Go.st (T' := T0) (pc' := 3) (L' := #[.val (.ref t1), .val (.ref t2), .unset]) (S' := [(.ref t2), (.int (2 : Int32))]) (fun t_ k_ => XS.aloadN X0.here hx rfl (hb hby d24_2) rfl rfl  k_) ?_
  obtain ⟨cl2, Ar2, -, q2a, q2b, -, -⟩ := id V_t2
  refine Go.st (T' := T0) (pc' := 4) (L' := #[.val (.ref t1), .val (.ref t2), .unset]) (S' := [(.int (4 : Int32)), (.int (2 : Int32))]) (fun t_ k_ => own_len X0 hx hZ e0 Ar2 q2a q2b (g := (mkF m 3 #[.val (.ref t1), .val (.ref t2), .unset] [(.ref t2), (.int (2 : Int32))])) rfl rfl (hb hby d24_3) t_ k_) ?_
  refine Go.st (T' := T0) (pc' := 34) (L' := #[.val (.ref t1), .val (.ref t2), .unset]) (S' := []) (fun t_ k_ => XS.icmpYes X0.here hx rfl (pc0 := 4) (pc' := 34) rfl (hb hby d24_4) rfl (feq (by decide : ¬ ((2 : Int32) = (4 : Int32)))).2 (by decide) (by decide) k_) ?_
  refine Go.st (T' := T0) (pc' := 35) (L' := #[.val (.ref t1), .val (.ref t2), .unset]) (S' := [(.int (0 : Int32))]) (fun t_ k_ => XS.iconst X0.here hx rfl (hb hby d24_34) k_) ?_
  exact Go.retN X0 hx hlk hret (by simp) (hb hby d24_35) (by decide) (by decide) (by rw [e0]; exact ⟨rfl, N0, rfl⟩)

def Qeqs2_104_101_108_112 (Z : State) (a1 : Addr) (a2 : Addr) (t1 : Addr) (t2 : Addr) (k1 : ClassId) (k2 : ClassId) (gC : Int32) (x0 : Int32) (x1 : Int32) (h0 : Heap) (n0 : Nat) (v : Option Value) (h : Heap) (L : List Loc) : Prop := v = some (.int 0) ∧ Fr n0 L ∧ h = h0
def roomeqs2_104_101_108_112 : Room := { frames := 1, cells := 0, slots := 0, locals := 14 }
set_option maxRecDepth 65536 in
set_option maxHeartbeats 40000000 in
theorem rmeqs2_104_101_108_112 (l : Launch) (Z : State) (a0 : Array Value) (hw : ∀ d ∈ tables_1, d.before a0 Z = true) (ws : List Jvm.Cond) (a1 : Addr) (a2 : Addr) (t1 : Addr) (t2 : Addr) (k1 : ClassId) (k2 : ClassId) (gC : Int32) (x0 : Int32) (x1 : Int32) (h0 : Heap) (n0 : Nat) (Z0 : n0 ≤ h0.size) (SC : Sta Z Z.heap "java/lang/String" "COMPACT_STRINGS" "Z" (.int gC)) (PC : ¬ (gC = (0 : Int32))) (O0 : Old Z n0 h0) (E_a1 : Exa Z h0 a1 "java/lang/String") (Fc_a1 : Fld Z h0 a1 "java/lang/String" "coder" "B" (.int (0 : Int32))) (Fv_a1 : Fld Z h0 a1 "java/lang/String" "value" "[B" (.ref t1)) (V_t1 : Arv Z h0 t1 k1 .byte (2 : Int32) [(.int x0), (.int x1)] (.int (0 : Int32))) (E_a2 : Exa Z h0 a2 "java/lang/String") (Fc_a2 : Fld Z h0 a2 "java/lang/String" "coder" "B" (.int (0 : Int32))) (Fv_a2 : Fld Z h0 a2 "java/lang/String" "value" "[B" (.ref t2)) (V_t2 : Arv Z h0 t2 k2 .byte (4 : Int32) [(.int (104 : Int32)), (.int (101 : Int32)), (.int (108 : Int32)), (.int (112 : Int32))] (.int (0 : Int32))) (hd : True) :
    MetFree l (⟨"java/lang/String", "equals", "(Ljava/lang/Object;)Z"⟩ : MethodName) (head1 (Jvm.Cond.code (⟨"java/lang/String", "equals", "(Ljava/lang/Object;)Z"⟩ : MethodName) jdk_42_method_66_code 3 (some .boolean) :: ws) roomeqs2_104_101_108_112) (fun aa_ U_ => aa_ = #[(.ref a1), (.ref a2)] ∧ Z.Warmed39 U_.vm ∧ U_.heap = h0) (fun _ _ _ _ _ => True) (fun _ U_ o_ W_ => ∃ v_ L_, o_ = .returned v_ ∧ (Qeqs2_104_101_108_112 Z a1 a2 t1 t2 k1 k2 gC x0 x1 h0 n0) v_ W_.heap L_ ∧ FrameEnd U_ o_ W_ L_ roomeqs2_104_101_108_112.cells roomeqs2_104_101_108_112.slots) := by
  refine own_met (Q := (Qeqs2_104_101_108_112 Z a1 a2 t1 t2 k1 k2 gC x0 x1 h0 n0)) (L0 := #[.val (.ref a1), .val (.ref a2), .unset]) (plainFor_of_name pn_0) (fun m => by first | (simp [entryFrame, mkF, argsToLocals, Value.category]; done) | rfl) ?_
  intro p e s m below meth c T0 X0 hx hby hml hown hnm hret hlk hZ e0
  have N0 := Fr.nil n0
  refine Go.st (T' := T0) (pc' := 1) (L' := #[.val (.ref a1), .val (.ref a2), .unset]) (S' := [(.ref a1)]) (fun t_ k_ => XS.aloadN X0.here hx rfl (hb hby d23_0) rfl rfl  k_) ?_
  refine Go.st (T' := T0) (pc' := 2) (L' := #[.val (.ref a1), .val (.ref a2), .unset]) (S' := [(.ref a2), (.ref a1)]) (fun t_ k_ => XS.aloadN X0.here hx rfl (hb hby d23_1) rfl rfl  k_) ?_
  refine Go.st (T' := T0) (pc' := 7) (L' := #[.val (.ref a1), .val (.ref a2), .unset]) (S' := []) (fun t_ k_ => Jvm.RoadKit.acmp (g := (mkF m 2 #[.val (.ref a1), .val (.ref a2), .unset] [(.ref a2), (.ref a1)])) X0 hx rfl rfl rfl (pc0 := 2) (pc' := 7) (same := false) rfl (hb hby d23_2) rfl (decide_eq_false (fun q => own_neArv V_t1 V_t2 (by decide) (Value.ref.inj (own_oneF Fv_a1 (Value.ref.inj q ▸ Fv_a2))))) (by decide) (by decide) k_) ?_
  refine Go.st (T' := T0) (pc' := 8) (L' := #[.val (.ref a1), .val (.ref a2), .unset]) (S' := [(.ref a2)]) (fun t_ k_ => XS.aloadN X0.here hx rfl (hb hby d23_7) rfl rfl  k_) ?_
  obtain ⟨T1, X1, e1, st1⟩ := instY X0 hx hZ hown (hw _ (List.mem_of_getElem? (i := 9) rfl)) e0 (Ins.self E_a2) (g := (mkF m 8 #[.val (.ref a1), .val (.ref a2), .unset] [(.ref a2)])) rfl rfl (hb hby d23_8)
  refine Go.st (T' := T1) (pc' := 11) (L' := #[.val (.ref a1), .val (.ref a2), .unset]) (S' := [(.int (1 : Int32))]) st1 ?_
  refine Go.st (T' := T1) (pc' := 14) (L' := #[.val (.ref a1), .val (.ref a2), .unset]) (S' := []) (fun t_ k_ => XS.ifNo X1.here hx rfl (hb hby d23_11) rfl ((if0 _ _).trans (feq (by decide : ¬ ((1 : Int32) = (0 : Int32)))).1) k_) ?_
  refine Go.st (T' := T1) (pc' := 15) (L' := #[.val (.ref a1), .val (.ref a2), .unset]) (S' := [(.ref a2)]) (fun t_ k_ => XS.aloadN X1.here hx rfl (hb hby d23_14) rfl rfl  k_) ?_
  obtain ⟨T2, X2, e2, st2⟩ := castY X1 hx hZ hown (hw _ (List.mem_of_getElem? (i := 9) rfl)) e1 (Ins.self E_a2) (g := (mkF m 15 #[.val (.ref a1), .val (.ref a2), .unset] [(.ref a2)])) rfl rfl (hb hby d23_15)
  refine Go.st (T' := T2) (pc' := 18) (L' := #[.val (.ref a1), .val (.ref a2), .unset]) (S' := [(.ref a2)]) st2 ?_
  refine Go.st (T' := T2) (pc' := 19) (L' := #[.val (.ref a1), .val (.ref a2), .val (.ref a2)]) (S' := []) (fun t_ k_ => XS.astoreN X2.here hx rfl (hb hby d23_18) rfl rfl (l' := #[.val (.ref a1), .val (.ref a2), .val (.ref a2)]) rfl k_) ?_
  obtain ⟨T3, X3, e3, st3⟩ := getS2 X2 hx hZ hown (host := "") (Or.inl (hw _ (List.mem_of_getElem? (i := 4) rfl))) Via.refl e2 (SC.ext O0.2) (g := (mkF m 19 #[.val (.ref a1), .val (.ref a2), .val (.ref a2)] [])) rfl (hb hby d23_19)
  refine Go.st (T' := T3) (pc' := 22) (L' := #[.val (.ref a1), .val (.ref a2), .val (.ref a2)]) (S' := [(.int gC)]) st3 ?_
  refine Go.st (T' := T3) (pc' := 25) (L' := #[.val (.ref a1), .val (.ref a2), .val (.ref a2)]) (S' := []) (fun t_ k_ => XS.ifNo X3.here hx rfl (hb hby d23_22) rfl ((if0 _ _).trans (feq (PC : ¬ (gC = (0 : Int32)))).1) k_) ?_
  refine Go.st (T' := T3) (pc' := 26) (L' := #[.val (.ref a1), .val (.ref a2), .val (.ref a2)]) (S' := [(.ref a1)]) (fun t_ k_ => XS.aloadN X3.here hx rfl (hb hby d23_25) rfl rfl  k_) ?_
  obtain ⟨T4, X4, e4, st4⟩ := getF X3 hx hZ hown (host := "") (Or.inl (hw _ (List.mem_of_getElem? (i := 24) rfl))) Via.refl e3 Fc_a1 (g := (mkF m 26 #[.val (.ref a1), .val (.ref a2), .val (.ref a2)] [(.ref a1)])) rfl rfl (hb hby d23_26)
  refine Go.st (T' := T4) (pc' := 29) (L' := #[.val (.ref a1), .val (.ref a2), .val (.ref a2)]) (S' := [(.int (0 : Int32))]) st4 ?_
  refine Go.st (T' := T4) (pc' := 30) (L' := #[.val (.ref a1), .val (.ref a2), .val (.ref a2)]) (S' := [(.ref a2), (.int (0 : Int32))]) (fun t_ k_ => XS.aloadN X4.here hx rfl (hb hby d23_29) rfl rfl  k_) ?_
  obtain ⟨T5, X5, e5, st5⟩ := getF X4 hx hZ hown (host := "") (Or.inl (hw _ (List.mem_of_getElem? (i := 24) rfl))) Via.refl e4 Fc_a2 (g := (mkF m 30 #[.val (.ref a1), .val (.ref a2), .val (.ref a2)] [(.ref a2), (.int (0 : Int32))])) rfl rfl (hb hby d23_30)
  refine Go.st (T' := T5) (pc' := 33) (L' := #[.val (.ref a1), .val (.ref a2), .val (.ref a2)]) (S' := [(.int (0 : Int32)), (.int (0 : Int32))]) st5 ?_
  refine Go.st (T' := T5) (pc' := 36) (L' := #[.val (.ref a1), .val (.ref a2), .val (.ref a2)]) (S' := []) (fun t_ k_ => XS.icmpNo X5.here hx rfl (hb hby d23_33) rfl (teq (by decide : ((0 : Int32) = (0 : Int32)))).2 k_) ?_
  refine Go.st (T' := T5) (pc' := 37) (L' := #[.val (.ref a1), .val (.ref a2), .val (.ref a2)]) (S' := [(.ref a1)]) (fun t_ k_ => XS.aloadN X5.here hx rfl (hb hby d23_36) rfl rfl  k_) ?_
  obtain ⟨T6, X6, e6, st6⟩ := getF X5 hx hZ hown (host := "") (Or.inl (hw _ (List.mem_of_getElem? (i := 22) rfl))) Via.refl e5 Fv_a1 (g := (mkF m 37 #[.val (.ref a1), .val (.ref a2), .val (.ref a2)] [(.ref a1)])) rfl rfl (hb hby d23_37)
  refine Go.st (T' := T6) (pc' := 40) (L' := #[.val (.ref a1), .val (.ref a2), .val (.ref a2)]) (S' := [(.ref t1)]) st6 ?_
  refine Go.st (T' := T6) (pc' := 41) (L' := #[.val (.ref a1), .val (.ref a2), .val (.ref a2)]) (S' := [(.ref a2), (.ref t1)]) (fun t_ k_ => XS.aloadN X6.here hx rfl (hb hby d23_40) rfl rfl  k_) ?_
  obtain ⟨T7, X7, e7, st7⟩ := getF X6 hx hZ hown (host := "") (Or.inl (hw _ (List.mem_of_getElem? (i := 22) rfl))) Via.refl e6 Fv_a2 (g := (mkF m 41 #[.val (.ref a1), .val (.ref a2), .val (.ref a2)] [(.ref a2), (.ref t1)])) rfl rfl (hb hby d23_41)
  refine Go.st (T' := T7) (pc' := 44) (L' := #[.val (.ref a1), .val (.ref a2), .val (.ref a2)]) (S' := [(.ref t2), (.ref t1)]) st7 ?_
  obtain ⟨_, _, ⟨T8, L8, k8, n8⟩, -, X8, ⟨Lc8, hQ8, l8, y8, z8⟩, st8⟩ := Jvm.LawKit.callS X7 hx (y := (⟨"java/lang/StringLatin1", "equals", "([B[B)Z"⟩ : MethodName)) hown (mvT hZ (hw _ (List.mem_of_getElem? (i := 122) rfl))) (mvT hZ (hw _ (List.mem_of_getElem? (i := 123) rfl))) (mvT hZ (hw _ (List.mem_of_getElem? (i := 7) rfl))) (mvT hZ (hw _ (List.mem_of_getElem? (i := 124) rfl))) (by decide) (backOf (W := 0) (rmeq12_104_101_108_112 l Z a0 hw [] t1 t2 _ _ gC (x0) (x1) h0 n0 Z0 SC PC O0 V_t1 V_t2 hd) hZ (hw _ (List.mem_of_getElem? (i := 124) rfl)) (hw _ (List.mem_of_getElem? (i := 7) rfl)) (by decide) (by decide)) (g := (mkF m 44 #[.val (.ref a1), .val (.ref a2), .val (.ref a2)] [(.ref t2), (.ref t1)])) rfl (by rw [hml]; rfl) (argsL := [(.ref t1), (.ref t2)]) (rest := []) (lenOf pd_16 rfl) rfl (by show 2 * 0 + _ ≤ _; exact Nat.le_of_eq rfl) (hb hby d23_44) (fun _ _ => ⟨rfl, e7, (by decide : 0 + 0 ≤ _), (by decide : 0 + 0 ≤ _)⟩)
  dsimp only [Pt.U, Pt.locs, Pt.cells, Pt.slots] at X8 l8 y8 z8 st8 hQ8
  subst l8 y8 z8
  obtain ⟨rfl, N8q, e8⟩ := hQ8
  have N8 := Fr.app N0 N8q
  refine Go.st (T' := T8) (pc' := 47) (L' := #[.val (.ref a1), .val (.ref a2), .val (.ref a2)]) (S' := [(.int (0 : Int32))]) st8 ?_
  refine Go.st (T' := T8) (pc' := 54) (L' := #[.val (.ref a1), .val (.ref a2), .val (.ref a2)]) (S' := []) (fun t_ k_ => XS.ifYes X8.here hx rfl (pc0 := 47) (pc' := 54) rfl (hb hby d23_47) rfl ((if0 _ _).trans (teq (by decide : ((0 : Int32) = (0 : Int32)))).1) (by decide) (by decide) k_) ?_
  refine Go.st (T' := T8) (pc' := 55) (L' := #[.val (.ref a1), .val (.ref a2), .val (.ref a2)]) (S' := [(.int (0 : Int32))]) (fun t_ k_ => XS.iconst X8.here hx rfl (hb hby d23_54) k_) ?_
  exact Go.retN X8 hx hlk hret (by simp) (hb hby d23_55) (by decide) (by decide) (by rw [e8]; exact ⟨rfl, N8, rfl⟩)

def Qop2n (Z : State) (a1 : Addr) (h0 : Heap) (n0 : Nat) (v : Option Value) (h : Heap) (L : List Loc) : Prop := v = none ∧ Fr n0 L ∧ Keep h0 h [a1] ∧ Fld Z h a1 "com/example/placewright/placewright/cli/Option" "valueName" "Ljava/lang/String;" .null
def roomop2n : Room := { frames := 4, cells := 10, slots := 104, locals := 62 }
set_option maxRecDepth 65536 in
set_option maxHeartbeats 40000000 in
theorem rmop2n (l : Launch) (Z : State) (a0 : Array Value) (hw : ∀ d ∈ tables_1, d.before a0 Z = true) (ws : List Jvm.Cond) (a1 : Addr) (nm : Addr) (t1 : Addr) (k1 : ClassId) (ds : Addr) (gC : Int32) (x0 : Int32) (x1 : Int32) (h0 : Heap) (n0 : Nat) (Z0 : n0 ≤ h0.size) (SC : Sta Z Z.heap "java/lang/String" "COMPACT_STRINGS" "Z" (.int gC)) (PC : ¬ (gC = (0 : Int32))) (O0 : Old Z n0 h0) (E_a1 : Exa Z h0 a1 "com/example/placewright/placewright/cli/Option") (g_a1 : n0 ≤ a1) (net : a1 ≠ t1) (F_name : Fld Z h0 a1 "com/example/placewright/placewright/cli/Option" "name" "Ljava/lang/String;" .null) (F_valueName : Fld Z h0 a1 "com/example/placewright/placewright/cli/Option" "valueName" "Ljava/lang/String;" .null) (F_required : Fld Z h0 a1 "com/example/placewright/placewright/cli/Option" "required" "Z" (.int (0 : Int32))) (F_repeated : Fld Z h0 a1 "com/example/placewright/placewright/cli/Option" "repeated" "Z" (.int (0 : Int32))) (F_description : Fld Z h0 a1 "com/example/placewright/placewright/cli/Option" "description" "Ljava/lang/String;" .null) (E_nm : Exa Z h0 nm "java/lang/String") (Fc_nm : Fld Z h0 nm "java/lang/String" "coder" "B" (.int (0 : Int32))) (Fv_nm : Fld Z h0 nm "java/lang/String" "value" "[B" (.ref t1)) (V_t1 : Arv Z h0 t1 k1 .byte (2 : Int32) [(.int x0), (.int x1)] (.int (0 : Int32))) (hA : ¬ x0 = (45 : Int32)) (hB : ¬ x0 = (61 : Int32) ∧ ¬ x1 = (61 : Int32)) :
    MetFree l (⟨"com/example/placewright/placewright/cli/Option", "<init>", "(Ljava/lang/String;Ljava/lang/String;ZZLjava/lang/String;)V"⟩ : MethodName) (head1 (Jvm.Cond.code (⟨"com/example/placewright/placewright/cli/Option", "<init>", "(Ljava/lang/String;Ljava/lang/String;ZZLjava/lang/String;)V"⟩ : MethodName) prog_71_method_1_code 6 none :: ws) roomop2n) (fun aa_ U_ => aa_ = #[(.ref a1), (.ref nm), .null, (.int (0 : Int32)), (.int (0 : Int32)), (.ref ds)] ∧ Z.Warmed39 U_.vm ∧ U_.heap = h0 ∧ CHv Z EL U_.vm h0) (fun _ _ _ _ _ => True) (fun _ U_ o_ W_ => ∃ v_ L_, o_ = .returned v_ ∧ (Qop2n Z a1 h0 n0) v_ W_.heap L_ ∧ CHr Z EL U_.vm U_.heap W_.vm W_.heap ∧ ReturnedEndW U_ o_ W_ L_ roomop2n.cells roomop2n.slots) := by
  refine own_metH (Q := (Qop2n Z a1 h0 n0)) (L0 := #[.val (.ref a1), .val (.ref nm), .val .null, .val (.int (0 : Int32)), .val (.int (0 : Int32)), .val (.ref ds)]) (plainFor_of_name pn_5) (fun m => by first | (simp [entryFrame, mkF, argsToLocals, Value.category]; done) | rfl) ?_
  intro p e s m below meth c T0 X0 hx hby hml hown hnm hret hlk hZ e0 hs0 CR hS hk
  have N0 := Fr.nil n0
  have K0 := Keep.refl h0 [a1]
  have ne_a1_nm : a1 ≠ nm := Exa.ne E_a1 E_nm (by decide)
  have S_a1 : Safe Z EL s.vm h0 a1 := Safe.exa hZ.alike E_a1 (by decide) (by decide)
  refine GoH.st (T' := T0) (pc' := 1) (L' := #[.val (.ref a1), .val (.ref nm), .val .null, .val (.int (0 : Int32)), .val (.int (0 : Int32)), .val (.ref ds)]) (S' := [(.ref a1)]) (fun t_ k_ => XS.aloadN X0.here hx rfl (hb hby d8_0) rfl rfl  k_) ?_
  obtain ⟨_, _, ⟨T1, L1, k1, n1⟩, -, X1, ⟨Lc1, hQ1, l1, y1, z1⟩, st1⟩ := X0.specialBack hx (y := (⟨"java/lang/Record", "<init>", "()V"⟩ : MethodName)) rfl hown (mvT hZ (hw _ (List.mem_of_getElem? (i := 43) rfl))) (mvT hZ (hw _ (List.mem_of_getElem? (i := 44) rfl))) (mvT hZ (hw _ (List.mem_of_getElem? (i := 47) rfl))) (by decide) (backOf (W := 0) (rm9 l Z a0 hw [] a1 h0 n0 Z0) hZ (hw _ (List.mem_of_getElem? (i := 47) rfl)) (hw _ (List.mem_of_getElem? (i := 46) rfl)) (by decide) (by decide)) (g := (mkF m 1 #[.val (.ref a1), .val (.ref nm), .val .null, .val (.int (0 : Int32)), .val (.int (0 : Int32)), .val (.ref ds)] [(.ref a1)])) rfl (by rw [hml]; rfl) (Steps.refl _) (a := a1) (argsL := []) (rest := []) (lenOf pd_4 rfl) rfl (by show 2 * 0 + _ ≤ _; exact Nat.le_of_eq rfl) (hb hby d8_1) (fun _ _ => ⟨rfl, e0, (by decide : 0 + 0 ≤ _), (by decide : 0 + 0 ≤ _)⟩)
  dsimp only [Pt.U, Pt.locs, Pt.cells, Pt.slots] at X1 l1 y1 z1 st1 hQ1
  subst l1 y1 z1
  obtain ⟨rfl, N1q, e1⟩ := hQ1
  have N1 := Fr.app N0 N1q
  refine GoH.tr (T' := T1) (pc' := 4) (L' := #[.val (.ref a1), .val (.ref nm), .val .null, .val (.int (0 : Int32)), .val (.int (0 : Int32)), .val (.ref ds)]) (S' := []) st1 ?_
  refine GoH.st (T' := T1) (pc' := 5) (L' := #[.val (.ref a1), .val (.ref nm), .val .null, .val (.int (0 : Int32)), .val (.int (0 : Int32)), .val (.ref ds)]) (S' := [(.ref nm)]) (fun t_ k_ => XS.aloadN X1.here hx rfl (hb hby d8_4) rfl rfl  k_) ?_
  obtain ⟨a2_, T2, h2, k2, X2, e2, E2, hS2, hk2, hZ2, ho2, CR2, -, st2⟩ := ldcOH X1 hx hZ hown (hw _ (List.mem_of_getElem? (i := 49) rfl)) (own_wS hw) e1 hS hk (own_EW hw) CR.1 (g := (mkF m 5 #[.val (.ref a1), .val (.ref nm), .val .null, .val (.int (0 : Int32)), .val (.int (0 : Int32)), .val (.ref ds)] [(.ref nm)])) rfl (hb hby d8_5) (n := 16) (by decide) (by decide) (by decide) (by decide)
  replace S_a1 := CR2.safe E_a1.lt S_a1
  replace CR := CR.trans CR2
  replace Z0 := Nat.le_trans Z0 E2.1
  replace K0 := K0.ext E2
  replace E_a1 := E_a1.ext E2
  replace O0 := O0.ext E2
  replace F_name := F_name.ext E2
  replace F_valueName := F_valueName.ext E2
  replace F_required := F_required.ext E2
  replace F_repeated := F_repeated.ext E2
  replace F_description := F_description.ext E2
  replace E_nm := E_nm.ext E2
  replace Fc_nm := Fc_nm.ext E2
  replace Fv_nm := Fv_nm.ext E2
  replace V_t1 := V_t1.ext E2
  replace hZ := hZ2
  replace hown := ho2
  replace hS := hS2
  replace hk := hk2
  refine GoH.st (T' := T2) (pc' := 7) (L' := #[.val (.ref a1), .val (.ref nm), .val .null, .val (.int (0 : Int32)), .val (.int (0 : Int32)), .val (.ref ds)]) (S' := [(.ref a2_), (.ref nm)]) st2 ?_
  obtain ⟨_, _, ⟨T3, L3, k3, n3⟩, -, X3, ⟨Lc3, hQ3, l3, y3, z3⟩, st3⟩ := Jvm.LawKit.callS X2 hx (y := (⟨"java/util/Objects", "requireNonNull", "(Ljava/lang/Object;Ljava/lang/String;)Ljava/lang/Object;"⟩ : MethodName)) hown (mvT hZ (hw _ (List.mem_of_getElem? (i := 50) rfl))) (mvT hZ (hw _ (List.mem_of_getElem? (i := 51) rfl))) (mvT hZ (hw _ (List.mem_of_getElem? (i := 52) rfl))) (mvT hZ (hw _ (List.mem_of_getElem? (i := 53) rfl))) (by decide) (backOf (W := 0) (rm10 l Z a0 hw [] nm a2_ h2 n0 Z0) hZ (hw _ (List.mem_of_getElem? (i := 53) rfl)) (hw _ (List.mem_of_getElem? (i := 52) rfl)) (by decide) (by decide)) (g := (mkF m 7 #[.val (.ref a1), .val (.ref nm), .val .null, .val (.int (0 : Int32)), .val (.int (0 : Int32)), .val (.ref ds)] [(.ref a2_), (.ref nm)])) rfl (by rw [hml]; rfl) (argsL := [(.ref nm), (.ref a2_)]) (rest := []) (lenOf pd_5 rfl) rfl (by show 2 * 0 + _ ≤ _; exact Nat.le_of_eq rfl) (hb hby d8_7) (fun _ _ => ⟨rfl, e2, (by decide : 2 + 0 ≤ _), (by decide : 20 + 0 ≤ _)⟩)
  dsimp only [Pt.U, Pt.locs, Pt.cells, Pt.slots] at X3 l3 y3 z3 st3 hQ3
  subst l3 y3 z3
  obtain ⟨rfl, N3q, e3⟩ := hQ3
  have N3 := Fr.app N1 N3q
  refine GoH.st (T' := T3) (pc' := 10) (L' := #[.val (.ref a1), .val (.ref nm), .val .null, .val (.int (0 : Int32)), .val (.int (0 : Int32)), .val (.ref ds)]) (S' := [(.ref nm)]) st3 ?_
  refine GoH.st (T' := T3) (pc' := 11) (L' := #[.val (.ref a1), .val (.ref nm), .val .null, .val (.int (0 : Int32)), .val (.int (0 : Int32)), .val (.ref ds)]) (S' := []) (fun t_ k_ => XS.pop X3.here hx rfl (hb hby d8_10) rfl rfl k_) ?_
  refine GoH.st (T' := T3) (pc' := 13) (L' := #[.val (.ref a1), .val (.ref nm), .val .null, .val (.int (0 : Int32)), .val (.int (0 : Int32)), .val (.ref ds)]) (S' := [(.ref ds)]) (fun t_ k_ => XS.aload X3.here hx rfl (hb hby d8_11) rfl rfl  k_) ?_
  obtain ⟨a4_, T4, h4, k4, X4, e4, E4, hS4, hk4, hZ4, ho4, CR4, -, st4⟩ := ldcOH X3 hx hZ hown (hw _ (List.mem_of_getElem? (i := 54) rfl)) (own_wS hw) e3 hS hk (own_EW hw) CR.1 (g := (mkF m 13 #[.val (.ref a1), .val (.ref nm), .val .null, .val (.int (0 : Int32)), .val (.int (0 : Int32)), .val (.ref ds)] [(.ref ds)])) rfl (hb hby d8_13) (n := 44) (by decide) (by decide) (by decide) (by decide)
  replace S_a1 := CR4.safe E_a1.lt S_a1
  replace CR := CR.trans CR4
  replace Z0 := Nat.le_trans Z0 E4.1
  replace K0 := K0.ext E4
  replace E_a1 := E_a1.ext E4
  replace O0 := O0.ext E4
  replace F_name := F_name.ext E4
  replace F_valueName := F_valueName.ext E4
  replace F_required := F_required.ext E4
  replace F_repeated := F_repeated.ext E4
  replace F_description := F_description.ext E4
  replace E_nm := E_nm.ext E4
  replace Fc_nm := Fc_nm.ext E4
  replace Fv_nm := Fv_nm.ext E4
  replace V_t1 := V_t1.ext E4
  replace hZ := hZ4
  replace hown := ho4
  replace hS := hS4
  replace hk := hk4
  refine GoH.st (T' := T4) (pc' := 15) (L' := #[.val (.ref a1), .val (.ref nm), .val .null, .val (.int (0 : Int32)), .val (.int (0 : Int32)), .val (.ref ds)]) (S' := [(.ref a4_), (.ref ds)]) st4 ?_
  obtain ⟨_, _, ⟨T5, L5, k5, n5⟩, -, X5, ⟨Lc5, hQ5, l5, y5, z5⟩, st5⟩ := Jvm.LawKit.callS X4 hx (y := (⟨"java/util/Objects", "requireNonNull", "(Ljava/lang/Object;Ljava/lang/String;)Ljava/lang/Object;"⟩ : MethodName)) hown (mvT hZ (hw _ (List.mem_of_getElem? (i := 50) rfl))) (mvT hZ (hw _ (List.mem_of_getElem? (i := 51) rfl))) (mvT hZ (hw _ (List.mem_of_getElem? (i := 52) rfl))) (mvT hZ (hw _ (List.mem_of_getElem? (i := 53) rfl))) (by decide) (backOf (W := 0) (rm10 l Z a0 hw [] ds a4_ h4 n0 Z0) hZ (hw _ (List.mem_of_getElem? (i := 53) rfl)) (hw _ (List.mem_of_getElem? (i := 52) rfl)) (by decide) (by decide)) (g := (mkF m 15 #[.val (.ref a1), .val (.ref nm), .val .null, .val (.int (0 : Int32)), .val (.int (0 : Int32)), .val (.ref ds)] [(.ref a4_), (.ref ds)])) rfl (by rw [hml]; rfl) (argsL := [(.ref ds), (.ref a4_)]) (rest := []) (lenOf pd_5 rfl) rfl (by show 2 * 0 + _ ≤ _; exact Nat.le_of_eq rfl) (hb hby d8_15) (fun _ _ => ⟨rfl, e4, (by decide : 4 + 0 ≤ _), (by decide : 68 + 0 ≤ _)⟩)
  dsimp only [Pt.U, Pt.locs, Pt.cells, Pt.slots] at X5 l5 y5 z5 st5 hQ5
  subst l5 y5 z5
  obtain ⟨rfl, N5q, e5⟩ := hQ5
  have N5 := Fr.app N3 N5q
  refine GoH.st (T' := T5) (pc' := 18) (L' := #[.val (.ref a1), .val (.ref nm), .val .null, .val (.int (0 : Int32)), .val (.int (0 : Int32)), .val (.ref ds)]) (S' := [(.ref ds)]) st5 ?_
  refine GoH.st (T' := T5) (pc' := 19) (L' := #[.val (.ref a1), .val (.ref nm), .val .null, .val (.int (0 : Int32)), .val (.int (0 : Int32)), .val (.ref ds)]) (S' := []) (fun t_ k_ => XS.pop X5.here hx rfl (hb hby d8_18) rfl rfl k_) ?_
  refine GoH.st (T' := T5) (pc' := 20) (L' := #[.val (.ref a1), .val (.ref nm), .val .null, .val (.int (0 : Int32)), .val (.int (0 : Int32)), .val (.ref ds)]) (S' := [(.ref nm)]) (fun t_ k_ => XS.aloadN X5.here hx rfl (hb hby d8_19) rfl rfl  k_) ?_
  obtain ⟨cq6, kq6, q6a, q6b, q6c⟩ := isOf hZ e5 E_nm
  obtain ⟨_, _, ⟨T6, L6, k6, n6⟩, -, X6, ⟨Lc6, hQ6, l6, y6, z6⟩, st6⟩ := X5.virtualBack hx (y := (⟨"java/lang/String", "isEmpty", "()Z"⟩ : MethodName)) (z := (⟨"java/lang/String", "isEmpty", "()Z"⟩ : MethodName)) hown (mvT hZ (hw _ (List.mem_of_getElem? (i := 55) rfl))) (mvT hZ (hw _ (List.mem_of_getElem? (i := 56) rfl))) (notFace_of_selects (args := #[]) (mvT hZ (hw _ (List.mem_of_getElem? (i := 58) rfl)))) (mvT hZ (hw _ (List.mem_of_getElem? (i := 58) rfl))) (mvT hZ (hw _ (List.mem_of_getElem? (i := 57) rfl))) (by decide) (backOf (W := 0) (rmemp2 l Z a0 hw [] nm t1 _ gC (x0) (x1) h4 n0 Z0 SC PC O0 E_nm Fc_nm Fv_nm V_t1) hZ (hw _ (List.mem_of_getElem? (i := 59) rfl)) (hw _ (List.mem_of_getElem? (i := 2) rfl)) (by decide) (by decide)) q6a q6c (g := (mkF m 20 #[.val (.ref a1), .val (.ref nm), .val .null, .val (.int (0 : Int32)), .val (.int (0 : Int32)), .val (.ref ds)] [(.ref nm)])) rfl (by rw [hml]; rfl) (Steps.refl _) (argsL := []) (rest := []) (lenOf pd_6 rfl) rfl (by show 2 * 0 + _ ≤ _; exact Nat.le_of_eq rfl) (hb hby d8_20) (fun _ _ => ⟨rfl, e5, (by decide : 4 + 0 ≤ _), (by decide : 68 + 0 ≤ _)⟩)
  dsimp only [Pt.U, Pt.locs, Pt.cells, Pt.slots] at X6 l6 y6 z6 st6 hQ6
  subst l6 y6 z6
  obtain ⟨rfl, N6q, e6⟩ := hQ6
  have N6 := Fr.app N5 N6q
  refine GoH.tr (T' := T6) (pc' := 23) (L' := #[.val (.ref a1), .val (.ref nm), .val .null, .val (.int (0 : Int32)), .val (.int (0 : Int32)), .val (.ref ds)]) (S' := [(.int (0 : Int32))]) st6 ?_
  refine GoH.st (T' := T6) (pc' := 26) (L' := #[.val (.ref a1), .val (.ref nm), .val .null, .val (.int (0 : Int32)), .val (.int (0 : Int32)), .val (.ref ds)]) (S' := []) (fun t_ k_ => XS.ifNo X6.here hx rfl (hb hby d8_23) rfl ((if0 _ _).trans (teq (by decide : ((0 : Int32) = (0 : Int32)))).2) k_) ?_
  refine GoH.st (T' := T6) (pc' := 27) (L' := #[.val (.ref a1), .val (.ref nm), .val .null, .val (.int (0 : Int32)), .val (.int (0 : Int32)), .val (.ref ds)]) (S' := [(.ref nm)]) (fun t_ k_ => XS.aloadN X6.here hx rfl (hb hby d8_26) rfl rfl  k_) ?_
  obtain ⟨a7_, T7, h7, k7, b7_, c7, X7, e7, E7, hS7, hk7, hZ7, ho7, E_a7_, Fc_a7_, Fv_a7_, V_b7_, lta7, ltb7, CR7, -, Sf7, st7⟩ := ldcCH X6 hx hZ hown (hw _ (List.mem_of_getElem? (i := 60) rfl)) (own_wS hw) e6 hS hk (own_EW hw) (by decide : ("com/example/placewright/placewright/cli/Option", 23) ∈ EL) CR.1 (vs := [(.int (45 : Int32))]) (z := (1 : Int32)) ⟨by decide, by decide⟩ (by decide) rfl (g := (mkF m 27 #[.val (.ref a1), .val (.ref nm), .val .null, .val (.int (0 : Int32)), .val (.int (0 : Int32)), .val (.ref ds)] [(.ref nm)])) rfl (hb hby d8_27) (n := 4) (by decide) (by decide) (by decide) (by decide)
  replace S_a1 := CR7.safe E_a1.lt S_a1
  replace CR := CR.trans CR7
  replace Z0 := Nat.le_trans Z0 E7.1
  replace K0 := K0.ext E7
  replace E_a1 := E_a1.ext E7
  replace O0 := O0.ext E7
  replace F_name := F_name.ext E7
  replace F_valueName := F_valueName.ext E7
  replace F_required := F_required.ext E7
  replace F_repeated := F_repeated.ext E7
  replace F_description := F_description.ext E7
  replace E_nm := E_nm.ext E7
  replace Fc_nm := Fc_nm.ext E7
  replace Fv_nm := Fv_nm.ext E7
  replace V_t1 := V_t1.ext E7
  replace hZ := hZ7
  replace hown := ho7
  replace hS := hS7
  replace hk := hk7
  have ne_a1_a7_ := (Sf7 _ S_a1).1
  have ne_a1_b7_ := (Sf7 _ S_a1).2
  refine GoH.st (T' := T7) (pc' := 29) (L' := #[.val (.ref a1), .val (.ref nm), .val .null, .val (.int (0 : Int32)), .val (.int (0 : Int32)), .val (.ref ds)]) (S' := [(.ref a7_), (.ref nm)]) st7 ?_
  obtain ⟨cq8, kq8, q8a, q8b, q8c⟩ := isOf hZ e7 E_nm
  obtain ⟨_, _, ⟨T8, L8, k8, n8⟩, -, X8, ⟨Lc8, hQ8, l8, y8, z8⟩, st8⟩ := X7.virtualBack hx (y := (⟨"java/lang/String", "startsWith", "(Ljava/lang/String;)Z"⟩ : MethodName)) (z := (⟨"java/lang/String", "startsWith", "(Ljava/lang/String;)Z"⟩ : MethodName)) hown (mvT hZ (hw _ (List.mem_of_getElem? (i := 61) rfl))) (mvT hZ (hw _ (List.mem_of_getElem? (i := 62) rfl))) (notFace_of_selects (args := #[]) (mvT hZ (hw _ (List.mem_of_getElem? (i := 64) rfl)))) (mvT hZ (hw _ (List.mem_of_getElem? (i := 64) rfl))) (mvT hZ (hw _ (List.mem_of_getElem? (i := 63) rfl))) (by decide) (backOf (W := 0) (rmstw2_45 l Z a0 hw [] nm a7_ t1 b7_ _ _ gC (x0) (x1) h7 n0 Z0 SC PC O0 E_nm Fc_nm Fv_nm V_t1 E_a7_ Fc_a7_ Fv_a7_ V_b7_ hA) hZ (hw _ (List.mem_of_getElem? (i := 65) rfl)) (hw _ (List.mem_of_getElem? (i := 2) rfl)) (by decide) (by decide)) q8a q8c (g := (mkF m 29 #[.val (.ref a1), .val (.ref nm), .val .null, .val (.int (0 : Int32)), .val (.int (0 : Int32)), .val (.ref ds)] [(.ref a7_), (.ref nm)])) rfl (by rw [hml]; rfl) (Steps.refl _) (argsL := [(.ref a7_)]) (rest := []) (lenOf pd_11 rfl) rfl (by show 2 * 0 + _ ≤ _; exact Nat.le_of_eq rfl) (hb hby d8_29) (fun _ _ => ⟨rfl, e7, (by decide : 6 + 0 ≤ _), (by decide : 76 + 0 ≤ _)⟩)
  dsimp only [Pt.U, Pt.locs, Pt.cells, Pt.slots] at X8 l8 y8 z8 st8 hQ8
  subst l8 y8 z8
  obtain ⟨rfl, N8q, e8⟩ := hQ8
  have N8 := Fr.app N6 N8q
  refine GoH.tr (T' := T8) (pc' := 32) (L' := #[.val (.ref a1), .val (.ref nm), .val .null, .val (.int (0 : Int32)), .val (.int (0 : Int32)), .val (.ref ds)]) (S' := [(.int (0 : Int32))]) st8 ?_
  refine GoH.st (T' := T8) (pc' := 35) (L' := #[.val (.ref a1), .val (.ref nm), .val .null, .val (.int (0 : Int32)), .val (.int (0 : Int32)), .val (.ref ds)]) (S' := []) (fun t_ k_ => XS.ifNo X8.here hx rfl (hb hby d8_32) rfl ((if0 _ _).trans (teq (by decide : ((0 : Int32) = (0 : Int32)))).2) k_) ?_
  refine GoH.st (T' := T8) (pc' := 36) (L' := #[.val (.ref a1), .val (.ref nm), .val .null, .val (.int (0 : Int32)), .val (.int (0 : Int32)), .val (.ref ds)]) (S' := [(.ref nm)]) (fun t_ k_ => XS.aloadN X8.here hx rfl (hb hby d8_35) rfl rfl  k_) ?_
  obtain ⟨a9_, T9, h9, k9, b9_, c9, X9, e9, E9, hS9, hk9, hZ9, ho9, E_a9_, Fc_a9_, Fv_a9_, V_b9_, lta9, ltb9, CR9, -, Sf9, st9⟩ := ldcCH X8 hx hZ hown (hw _ (List.mem_of_getElem? (i := 85) rfl)) (own_wS hw) e8 hS hk (own_EW hw) (by decide : ("com/example/placewright/placewright/cli/Option", 29) ∈ EL) CR.1 (vs := [(.int (61 : Int32))]) (z := (1 : Int32)) ⟨by decide, by decide⟩ (by decide) rfl (g := (mkF m 36 #[.val (.ref a1), .val (.ref nm), .val .null, .val (.int (0 : Int32)), .val (.int (0 : Int32)), .val (.ref ds)] [(.ref nm)])) rfl (hb hby d8_36) (n := 4) (by decide) (by decide) (by decide) (by decide)
  replace S_a1 := CR9.safe E_a1.lt S_a1
  replace CR := CR.trans CR9
  replace Z0 := Nat.le_trans Z0 E9.1
  replace K0 := K0.ext E9
  replace E_a1 := E_a1.ext E9
  replace O0 := O0.ext E9
  replace F_name := F_name.ext E9
  replace F_valueName := F_valueName.ext E9
  replace F_required := F_required.ext E9
  replace F_repeated := F_repeated.ext E9
  replace F_description := F_description.ext E9
  replace E_nm := E_nm.ext E9
  replace Fc_nm := Fc_nm.ext E9
  replace Fv_nm := Fv_nm.ext E9
  replace V_t1 := V_t1.ext E9
  replace E_a7_ := E_a7_.ext E9
  replace Fc_a7_ := Fc_a7_.ext E9
  replace Fv_a7_ := Fv_a7_.ext E9
  replace V_b7_ := V_b7_.ext E9
  replace hZ := hZ9
  replace hown := ho9
  replace hS := hS9
  replace hk := hk9
  have ne_a1_a9_ := (Sf9 _ S_a1).1
  have ne_a1_b9_ := (Sf9 _ S_a1).2
  refine GoH.st (T' := T9) (pc' := 38) (L' := #[.val (.ref a1), .val (.ref nm), .val .null, .val (.int (0 : Int32)), .val (.int (0 : Int32)), .val (.ref ds)]) (S' := [(.ref a9_), (.ref nm)]) st9 ?_
  obtain ⟨cq10, kq10, q10a, q10b, q10c⟩ := isOf hZ e9 E_nm
  obtain ⟨_, _, ⟨T10, L10, k10, n10⟩, -, X10, ⟨Lc10, hQ10, l10, y10, z10⟩, st10⟩ := X9.virtualBack hx (y := (⟨"java/lang/String", "contains", "(Ljava/lang/CharSequence;)Z"⟩ : MethodName)) (z := (⟨"java/lang/String", "contains", "(Ljava/lang/CharSequence;)Z"⟩ : MethodName)) hown (mvT hZ (hw _ (List.mem_of_getElem? (i := 86) rfl))) (mvT hZ (hw _ (List.mem_of_getElem? (i := 87) rfl))) (notFace_of_selects (args := #[]) (mvT hZ (hw _ (List.mem_of_getElem? (i := 89) rfl)))) (mvT hZ (hw _ (List.mem_of_getElem? (i := 89) rfl))) (mvT hZ (hw _ (List.mem_of_getElem? (i := 88) rfl))) (by decide) (backOf (W := 0) (rmcnt2_61 l Z a0 hw [] nm a9_ t1 b9_ _ _ gC (x0) (x1) h9 n0 Z0 SC PC O0 E_nm Fc_nm Fv_nm V_t1 E_a9_ Fc_a9_ Fv_a9_ V_b9_ hB) hZ (hw _ (List.mem_of_getElem? (i := 90) rfl)) (hw _ (List.mem_of_getElem? (i := 2) rfl)) (by decide) (by decide)) q10a q10c (g := (mkF m 38 #[.val (.ref a1), .val (.ref nm), .val .null, .val (.int (0 : Int32)), .val (.int (0 : Int32)), .val (.ref ds)] [(.ref a9_), (.ref nm)])) rfl (by rw [hml]; rfl) (Steps.refl _) (argsL := [(.ref a9_)]) (rest := []) (lenOf pd_15 rfl) rfl (by show 2 * 0 + _ ≤ _; exact Nat.le_of_eq rfl) (hb hby d8_38) (fun _ _ => ⟨rfl, e9, (by decide : 8 + 0 ≤ _), (by decide : 84 + 0 ≤ _)⟩)
  dsimp only [Pt.U, Pt.locs, Pt.cells, Pt.slots] at X10 l10 y10 z10 st10 hQ10
  subst l10 y10 z10
  obtain ⟨rfl, N10q, e10⟩ := hQ10
  have N10 := Fr.app N8 N10q
  refine GoH.tr (T' := T10) (pc' := 41) (L' := #[.val (.ref a1), .val (.ref nm), .val .null, .val (.int (0 : Int32)), .val (.int (0 : Int32)), .val (.ref ds)]) (S' := [(.int (0 : Int32))]) st10 ?_
  refine GoH.st (T' := T10) (pc' := 44) (L' := #[.val (.ref a1), .val (.ref nm), .val .null, .val (.int (0 : Int32)), .val (.int (0 : Int32)), .val (.ref ds)]) (S' := []) (fun t_ k_ => XS.ifNo X10.here hx rfl (hb hby d8_41) rfl ((if0 _ _).trans (teq (by decide : ((0 : Int32) = (0 : Int32)))).2) k_) ?_
  refine GoH.st (T' := T10) (pc' := 45) (L' := #[.val (.ref a1), .val (.ref nm), .val .null, .val (.int (0 : Int32)), .val (.int (0 : Int32)), .val (.ref ds)]) (S' := [(.ref nm)]) (fun t_ k_ => XS.aloadN X10.here hx rfl (hb hby d8_44) rfl rfl  k_) ?_
  obtain ⟨a11_, T11, h11, k11, b11_, c11, X11, e11, E11, hS11, hk11, hZ11, ho11, E_a11_, Fc_a11_, Fv_a11_, V_b11_, lta11, ltb11, CR11, -, Sf11, st11⟩ := ldcCH X10 hx hZ hown (hw _ (List.mem_of_getElem? (i := 116) rfl)) (own_wS hw) e10 hS hk (own_EW hw) (by decide : ("com/example/placewright/placewright/cli/Option", 35) ∈ EL) CR.1 (vs := [(.int (104 : Int32)), (.int (101 : Int32)), (.int (108 : Int32)), (.int (112 : Int32))]) (z := (4 : Int32)) ⟨by decide, by decide⟩ (by decide) rfl (g := (mkF m 45 #[.val (.ref a1), .val (.ref nm), .val .null, .val (.int (0 : Int32)), .val (.int (0 : Int32)), .val (.ref ds)] [(.ref nm)])) rfl (hb hby d8_45) (n := 16) (by decide) (by decide) (by decide) (by decide)
  replace S_a1 := CR11.safe E_a1.lt S_a1
  replace CR := CR.trans CR11
  replace Z0 := Nat.le_trans Z0 E11.1
  replace K0 := K0.ext E11
  replace E_a1 := E_a1.ext E11
  replace O0 := O0.ext E11
  replace F_name := F_name.ext E11
  replace F_valueName := F_valueName.ext E11
  replace F_required := F_required.ext E11
  replace F_repeated := F_repeated.ext E11
  replace F_description := F_description.ext E11
  replace E_nm := E_nm.ext E11
  replace Fc_nm := Fc_nm.ext E11
  replace Fv_nm := Fv_nm.ext E11
  replace V_t1 := V_t1.ext E11
  replace E_a7_ := E_a7_.ext E11
  replace Fc_a7_ := Fc_a7_.ext E11
  replace Fv_a7_ := Fv_a7_.ext E11
  replace V_b7_ := V_b7_.ext E11
  replace E_a9_ := E_a9_.ext E11
  replace Fc_a9_ := Fc_a9_.ext E11
  replace Fv_a9_ := Fv_a9_.ext E11
  replace V_b9_ := V_b9_.ext E11
  replace hZ := hZ11
  replace hown := ho11
  replace hS := hS11
  replace hk := hk11
  have ne_a1_a11_ := (Sf11 _ S_a1).1
  have ne_a1_b11_ := (Sf11 _ S_a1).2
  refine GoH.st (T' := T11) (pc' := 47) (L' := #[.val (.ref a1), .val (.ref nm), .val .null, .val (.int (0 : Int32)), .val (.int (0 : Int32)), .val (.ref ds)]) (S' := [(.ref a11_), (.ref nm)]) st11 ?_
  obtain ⟨cq12, kq12, q12a, q12b, q12c⟩ := isOf hZ e11 E_nm
  obtain ⟨_, _, ⟨T12, L12, k12, n12⟩, -, X12, ⟨Lc12, hQ12, l12, y12, z12⟩, st12⟩ := X11.virtualBack hx (y := (⟨"java/lang/String", "equals", "(Ljava/lang/Object;)Z"⟩ : MethodName)) (z := (⟨"java/lang/String", "equals", "(Ljava/lang/Object;)Z"⟩ : MethodName)) hown (mvT hZ (hw _ (List.mem_of_getElem? (i := 117) rfl))) (mvT hZ (hw _ (List.mem_of_getElem? (i := 118) rfl))) (notFace_of_selects (args := #[]) (mvT hZ (hw _ (List.mem_of_getElem? (i := 120) rfl)))) (mvT hZ (hw _ (List.mem_of_getElem? (i := 120) rfl))) (mvT hZ (hw _ (List.mem_of_getElem? (i := 119) rfl))) (by decide) (backOf (W := 0) (rmeqs2_104_101_108_112 l Z a0 hw [] nm a11_ t1 b11_ _ _ gC (x0) (x1) h11 n0 Z0 SC PC O0 E_nm Fc_nm Fv_nm V_t1 E_a11_ Fc_a11_ Fv_a11_ V_b11_ trivial) hZ (hw _ (List.mem_of_getElem? (i := 121) rfl)) (hw _ (List.mem_of_getElem? (i := 2) rfl)) (by decide) (by decide)) q12a q12c (g := (mkF m 47 #[.val (.ref a1), .val (.ref nm), .val .null, .val (.int (0 : Int32)), .val (.int (0 : Int32)), .val (.ref ds)] [(.ref a11_), (.ref nm)])) rfl (by rw [hml]; rfl) (Steps.refl _) (argsL := [(.ref a11_)]) (rest := []) (lenOf pd_17 rfl) rfl (by show 2 * 0 + _ ≤ _; exact Nat.le_of_eq rfl) (hb hby d8_47) (fun _ _ => ⟨rfl, e11, (by decide : 10 + 0 ≤ _), (by decide : 104 + 0 ≤ _)⟩)
  dsimp only [Pt.U, Pt.locs, Pt.cells, Pt.slots] at X12 l12 y12 z12 st12 hQ12
  subst l12 y12 z12
  obtain ⟨rfl, N12q, e12⟩ := hQ12
  have N12 := Fr.app N10 N12q
  refine GoH.tr (T' := T12) (pc' := 50) (L' := #[.val (.ref a1), .val (.ref nm), .val .null, .val (.int (0 : Int32)), .val (.int (0 : Int32)), .val (.ref ds)]) (S' := [(.int (0 : Int32))]) st12 ?_
  refine GoH.st (T' := T12) (pc' := 67) (L' := #[.val (.ref a1), .val (.ref nm), .val .null, .val (.int (0 : Int32)), .val (.int (0 : Int32)), .val (.ref ds)]) (S' := []) (fun t_ k_ => XS.ifYes X12.here hx rfl (pc0 := 50) (pc' := 67) rfl (hb hby d8_50) rfl ((if0 _ _).trans (teq (by decide : ((0 : Int32) = (0 : Int32)))).1) (by decide) (by decide) k_) ?_
  refine GoH.st (T' := T12) (pc' := 68) (L' := #[.val (.ref a1), .val (.ref nm), .val .null, .val (.int (0 : Int32)), .val (.int (0 : Int32)), .val (.ref ds)]) (S' := [.null]) (fun t_ k_ => XS.aloadN X12.here hx rfl (hb hby d8_67) rfl rfl  k_) ?_
  refine GoH.st (T' := T12) (pc' := 71) (L' := #[.val (.ref a1), .val (.ref nm), .val .null, .val (.int (0 : Int32)), .val (.int (0 : Int32)), .val (.ref ds)]) (S' := []) (fun t_ k_ => XS.ifnonnullNo X12.here hx rfl (hb hby d8_68) rfl k_) ?_
  refine GoH.st (T' := T12) (pc' := 72) (L' := #[.val (.ref a1), .val (.ref nm), .val .null, .val (.int (0 : Int32)), .val (.int (0 : Int32)), .val (.ref ds)]) (S' := [(.int (0 : Int32))]) (fun t_ k_ => XS.iloadN X12.here hx rfl (hb hby d8_71) rfl  k_) ?_
  refine GoH.st (T' := T12) (pc' := 89) (L' := #[.val (.ref a1), .val (.ref nm), .val .null, .val (.int (0 : Int32)), .val (.int (0 : Int32)), .val (.ref ds)]) (S' := []) (fun t_ k_ => XS.ifYes X12.here hx rfl (pc0 := 72) (pc' := 89) rfl (hb hby d8_72) rfl ((if0 _ _).trans (teq (by decide : ((0 : Int32) = (0 : Int32)))).1) (by decide) (by decide) k_) ?_
  refine GoH.st (T' := T12) (pc' := 90) (L' := #[.val (.ref a1), .val (.ref nm), .val .null, .val (.int (0 : Int32)), .val (.int (0 : Int32)), .val (.ref ds)]) (S' := [.null]) (fun t_ k_ => XS.aloadN X12.here hx rfl (hb hby d8_89) rfl rfl  k_) ?_
  refine GoH.st (T' := T12) (pc' := 93) (L' := #[.val (.ref a1), .val (.ref nm), .val .null, .val (.int (0 : Int32)), .val (.int (0 : Int32)), .val (.ref ds)]) (S' := []) (fun t_ k_ => XS.ifnonnullNo X12.here hx rfl (hb hby d8_90) rfl k_) ?_
  refine GoH.st (T' := T12) (pc' := 95) (L' := #[.val (.ref a1), .val (.ref nm), .val .null, .val (.int (0 : Int32)), .val (.int (0 : Int32)), .val (.ref ds)]) (S' := [(.int (0 : Int32))]) (fun t_ k_ => XS.iload X12.here hx rfl (hb hby d8_93) rfl  k_) ?_
  refine GoH.st (T' := T12) (pc' := 112) (L' := #[.val (.ref a1), .val (.ref nm), .val .null, .val (.int (0 : Int32)), .val (.int (0 : Int32)), .val (.ref ds)]) (S' := []) (fun t_ k_ => XS.ifYes X12.here hx rfl (pc0 := 95) (pc' := 112) rfl (hb hby d8_95) rfl ((if0 _ _).trans (teq (by decide : ((0 : Int32) = (0 : Int32)))).1) (by decide) (by decide) k_) ?_
  refine GoH.st (T' := T12) (pc' := 113) (L' := #[.val (.ref a1), .val (.ref nm), .val .null, .val (.int (0 : Int32)), .val (.int (0 : Int32)), .val (.ref ds)]) (S' := [(.ref a1)]) (fun t_ k_ => XS.aloadN X12.here hx rfl (hb hby d8_112) rfl rfl  k_) ?_
  refine GoH.st (T' := T12) (pc' := 114) (L' := #[.val (.ref a1), .val (.ref nm), .val .null, .val (.int (0 : Int32)), .val (.int (0 : Int32)), .val (.ref ds)]) (S' := [(.ref nm), (.ref a1)]) (fun t_ k_ => XS.aloadN X12.here hx rfl (hb hby d8_113) rfl rfl  k_) ?_
  obtain ⟨T13, h13, X13, e13, W13, st13⟩ := putF X12 hx hZ hown (host := "") (Or.inl (hw _ (List.mem_of_getElem? (i := 125) rfl))) Via.refl e12 F_name E_a1 (Or.inr ⟨(hw _ (List.mem_of_getElem? (i := 126) rfl)), rfl, hnm⟩) (hw _ (List.mem_of_getElem? (i := 38) rfl)) (ty := (.object "java/lang/String")) (by decide) rfl rfl (g := (mkF m 114 #[.val (.ref a1), .val (.ref nm), .val .null, .val (.int (0 : Int32)), .val (.int (0 : Int32)), .val (.ref ds)] [(.ref nm), (.ref a1)])) rfl rfl (hb hby d8_114)
  have Sw14 : Safe Z EL T11.vm h11 a1 := S_a1
  replace S_a1 := Safe.wr W13 Sw14 CR.1 S_a1
  replace CR := CR.trans (CHr.wr W13 Sw14 CR.1)
  replace hk := Nat.le_trans hk (Keep.of_wr W13).1
  replace Z0 := Nat.le_trans Z0 (Keep.of_wr W13).1
  replace K0 := K0.wr W13 (Or.inl (List.mem_of_getElem? (i := 0) rfl))
  replace E_a1 := E_a1.wr W13
  replace O0 := O0.wr W13 g_a1
  replace F_valueName := F_valueName.other W13 (Or.inr (slot_ne (Or.inr (hw _ (List.mem_of_getElem? (i := 128) rfl))) (Or.inr (hw _ (List.mem_of_getElem? (i := 126) rfl))) (by decide) (t := (.object "java/lang/String")) (t' := (.object "java/lang/String")) (by decide) (by decide)))
  replace F_required := F_required.other W13 (Or.inr (slot_ne (Or.inr (hw _ (List.mem_of_getElem? (i := 130) rfl))) (Or.inr (hw _ (List.mem_of_getElem? (i := 126) rfl))) (by decide) (t := .boolean) (t' := (.object "java/lang/String")) (by decide) (by decide)))
  replace F_repeated := F_repeated.other W13 (Or.inr (slot_ne (Or.inr (hw _ (List.mem_of_getElem? (i := 132) rfl))) (Or.inr (hw _ (List.mem_of_getElem? (i := 126) rfl))) (by decide) (t := .boolean) (t' := (.object "java/lang/String")) (by decide) (by decide)))
  replace F_description := F_description.other W13 (Or.inr (slot_ne (Or.inr (hw _ (List.mem_of_getElem? (i := 134) rfl))) (Or.inr (hw _ (List.mem_of_getElem? (i := 126) rfl))) (by decide) (t := (.object "java/lang/String")) (t' := (.object "java/lang/String")) (by decide) (by decide)))
  replace E_nm := E_nm.wr W13
  replace Fc_nm := Fc_nm.other W13 (Or.inl (Ne.symm ne_a1_nm))
  replace Fv_nm := Fv_nm.other W13 (Or.inl (Ne.symm ne_a1_nm))
  replace V_t1 := V_t1.other W13 (Ne.symm net)
  replace E_a7_ := E_a7_.wr W13
  replace Fc_a7_ := Fc_a7_.other W13 (Or.inl (Ne.symm ne_a1_a7_))
  replace Fv_a7_ := Fv_a7_.other W13 (Or.inl (Ne.symm ne_a1_a7_))
  replace V_b7_ := V_b7_.other W13 (Ne.symm ne_a1_b7_)
  replace E_a9_ := E_a9_.wr W13
  replace Fc_a9_ := Fc_a9_.other W13 (Or.inl (Ne.symm ne_a1_a9_))
  replace Fv_a9_ := Fv_a9_.other W13 (Or.inl (Ne.symm ne_a1_a9_))
  replace V_b9_ := V_b9_.other W13 (Ne.symm ne_a1_b9_)
  replace E_a11_ := E_a11_.wr W13
  replace Fc_a11_ := Fc_a11_.other W13 (Or.inl (Ne.symm ne_a1_a11_))
  replace Fv_a11_ := Fv_a11_.other W13 (Or.inl (Ne.symm ne_a1_a11_))
  replace V_b11_ := V_b11_.other W13 (Ne.symm ne_a1_b11_)
  replace F_name := F_name.same W13
  have N13 := Fr.snoc X13 N12 g_a1
  refine GoH.st (T' := T13) (pc' := 117) (L' := #[.val (.ref a1), .val (.ref nm), .val .null, .val (.int (0 : Int32)), .val (.int (0 : Int32)), .val (.ref ds)]) (S' := []) st13 ?_
  refine GoH.st (T' := T13) (pc' := 118) (L' := #[.val (.ref a1), .val (.ref nm), .val .null, .val (.int (0 : Int32)), .val (.int (0 : Int32)), .val (.ref ds)]) (S' := [(.ref a1)]) (fun t_ k_ => XS.aloadN X13.here hx rfl (hb hby d8_117) rfl rfl  k_) ?_
  refine GoH.st (T' := T13) (pc' := 119) (L' := #[.val (.ref a1), .val (.ref nm), .val .null, .val (.int (0 : Int32)), .val (.int (0 : Int32)), .val (.ref ds)]) (S' := [.null, (.ref a1)]) (fun t_ k_ => XS.aloadN X13.here hx rfl (hb hby d8_118) rfl rfl  k_) ?_
  obtain ⟨T15, h15, X15, e15, W15, st15⟩ := putF X13 hx hZ hown (host := "") (Or.inl (hw _ (List.mem_of_getElem? (i := 127) rfl))) Via.refl e13 F_valueName E_a1 (Or.inr ⟨(hw _ (List.mem_of_getElem? (i := 128) rfl)), rfl, hnm⟩) (hw _ (List.mem_of_getElem? (i := 38) rfl)) (ty := (.object "java/lang/String")) (by decide) rfl rfl (g := (mkF m 119 #[.val (.ref a1), .val (.ref nm), .val .null, .val (.int (0 : Int32)), .val (.int (0 : Int32)), .val (.ref ds)] [.null, (.ref a1)])) rfl rfl (hb hby d8_119)
  have Sw16 : Safe Z EL T11.vm h13 a1 := S_a1
  replace S_a1 := Safe.wr W15 Sw16 CR.1 S_a1
  replace CR := CR.trans (CHr.wr W15 Sw16 CR.1)
  replace hk := Nat.le_trans hk (Keep.of_wr W15).1
  replace Z0 := Nat.le_trans Z0 (Keep.of_wr W15).1
  replace K0 := K0.wr W15 (Or.inl (List.mem_of_getElem? (i := 0) rfl))
  replace E_a1 := E_a1.wr W15
  replace O0 := O0.wr W15 g_a1
  replace F_name := F_name.other W15 (Or.inr (slot_ne (Or.inr (hw _ (List.mem_of_getElem? (i := 126) rfl))) (Or.inr (hw _ (List.mem_of_getElem? (i := 128) rfl))) (by decide) (t := (.object "java/lang/String")) (t' := (.object "java/lang/String")) (by decide) (by decide)))
  replace F_required := F_required.other W15 (Or.inr (slot_ne (Or.inr (hw _ (List.mem_of_getElem? (i := 130) rfl))) (Or.inr (hw _ (List.mem_of_getElem? (i := 128) rfl))) (by decide) (t := .boolean) (t' := (.object "java/lang/String")) (by decide) (by decide)))
  replace F_repeated := F_repeated.other W15 (Or.inr (slot_ne (Or.inr (hw _ (List.mem_of_getElem? (i := 132) rfl))) (Or.inr (hw _ (List.mem_of_getElem? (i := 128) rfl))) (by decide) (t := .boolean) (t' := (.object "java/lang/String")) (by decide) (by decide)))
  replace F_description := F_description.other W15 (Or.inr (slot_ne (Or.inr (hw _ (List.mem_of_getElem? (i := 134) rfl))) (Or.inr (hw _ (List.mem_of_getElem? (i := 128) rfl))) (by decide) (t := (.object "java/lang/String")) (t' := (.object "java/lang/String")) (by decide) (by decide)))
  replace E_nm := E_nm.wr W15
  replace Fc_nm := Fc_nm.other W15 (Or.inl (Ne.symm ne_a1_nm))
  replace Fv_nm := Fv_nm.other W15 (Or.inl (Ne.symm ne_a1_nm))
  replace V_t1 := V_t1.other W15 (Ne.symm net)
  replace E_a7_ := E_a7_.wr W15
  replace Fc_a7_ := Fc_a7_.other W15 (Or.inl (Ne.symm ne_a1_a7_))
  replace Fv_a7_ := Fv_a7_.other W15 (Or.inl (Ne.symm ne_a1_a7_))
  replace V_b7_ := V_b7_.other W15 (Ne.symm ne_a1_b7_)
  replace E_a9_ := E_a9_.wr W15
  replace Fc_a9_ := Fc_a9_.other W15 (Or.inl (Ne.symm ne_a1_a9_))
  replace Fv_a9_ := Fv_a9_.other W15 (Or.inl (Ne.symm ne_a1_a9_))
  replace V_b9_ := V_b9_.other W15 (Ne.symm ne_a1_b9_)
  replace E_a11_ := E_a11_.wr W15
  replace Fc_a11_ := Fc_a11_.other W15 (Or.inl (Ne.symm ne_a1_a11_))
  replace Fv_a11_ := Fv_a11_.other W15 (Or.inl (Ne.symm ne_a1_a11_))
  replace V_b11_ := V_b11_.other W15 (Ne.symm ne_a1_b11_)
  replace F_valueName := F_valueName.same W15
  have N15 := Fr.snoc X15 N13 g_a1
  refine GoH.st (T' := T15) (pc' := 122) (L' := #[.val (.ref a1), .val (.ref nm), .val .null, .val (.int (0 : Int32)), .val (.int (0 : Int32)), .val (.ref ds)]) (S' := []) st15 ?_
  refine GoH.st (T' := T15) (pc' := 123) (L' := #[.val (.ref a1), .val (.ref nm), .val .null, .val (.int (0 : Int32)), .val (.int (0 : Int32)), .val (.ref ds)]) (S' := [(.ref a1)]) (fun t_ k_ => XS.aloadN X15.here hx rfl (hb hby d8_122) rfl rfl  k_) ?_
  refine GoH.st (T' := T15) (pc' := 124) (L' := #[.val (.ref a1), .val (.ref nm), .val .null, .val (.int (0 : Int32)), .val (.int (0 : Int32)), .val (.ref ds)]) (S' := [(.int (0 : Int32)), (.ref a1)]) (fun t_ k_ => XS.iloadN X15.here hx rfl (hb hby d8_123) rfl  k_) ?_
  obtain ⟨T17, h17, X17, e17, W17, st17⟩ := putFN X15 hx hZ hown (hw _ (List.mem_of_getElem? (i := 129) rfl)) Via.refl e15 F_required E_a1 (Or.inr ⟨(hw _ (List.mem_of_getElem? (i := 130) rfl)), rfl, hnm⟩) (hw _ (List.mem_of_getElem? (i := 38) rfl)) (ty := .boolean) (v' := (.int (0 : Int32))) (by decide) rfl rfl (g := (mkF m 124 #[.val (.ref a1), .val (.ref nm), .val .null, .val (.int (0 : Int32)), .val (.int (0 : Int32)), .val (.ref ds)] [(.int (0 : Int32)), (.ref a1)])) rfl rfl (hb hby d8_124)
  have Sw18 : Safe Z EL T11.vm h15 a1 := S_a1
  replace S_a1 := Safe.wr W17 Sw18 CR.1 S_a1
  replace CR := CR.trans (CHr.wr W17 Sw18 CR.1)
  replace hk := Nat.le_trans hk (Keep.of_wr W17).1
  replace Z0 := Nat.le_trans Z0 (Keep.of_wr W17).1
  replace K0 := K0.wr W17 (Or.inl (List.mem_of_getElem? (i := 0) rfl))
  replace E_a1 := E_a1.wr W17
  replace O0 := O0.wr W17 g_a1
  replace F_name := F_name.other W17 (Or.inr (slot_ne (Or.inr (hw _ (List.mem_of_getElem? (i := 126) rfl))) (Or.inr (hw _ (List.mem_of_getElem? (i := 130) rfl))) (by decide) (t := (.object "java/lang/String")) (t' := .boolean) (by decide) (by decide)))
  replace F_valueName := F_valueName.other W17 (Or.inr (slot_ne (Or.inr (hw _ (List.mem_of_getElem? (i := 128) rfl))) (Or.inr (hw _ (List.mem_of_getElem? (i := 130) rfl))) (by decide) (t := (.object "java/lang/String")) (t' := .boolean) (by decide) (by decide)))
  replace F_repeated := F_repeated.other W17 (Or.inr (slot_ne (Or.inr (hw _ (List.mem_of_getElem? (i := 132) rfl))) (Or.inr (hw _ (List.mem_of_getElem? (i := 130) rfl))) (by decide) (t := .boolean) (t' := .boolean) (by decide) (by decide)))
  replace F_description := F_description.other W17 (Or.inr (slot_ne (Or.inr (hw _ (List.mem_of_getElem? (i := 134) rfl))) (Or.inr (hw _ (List.mem_of_getElem? (i := 130) rfl))) (by decide) (t := (.object "java/lang/String")) (t' := .boolean) (by decide) (by decide)))
  replace E_nm := E_nm.wr W17
  replace Fc_nm := Fc_nm.other W17 (Or.inl (Ne.symm ne_a1_nm))
  replace Fv_nm := Fv_nm.other W17 (Or.inl (Ne.symm ne_a1_nm))
  replace V_t1 := V_t1.other W17 (Ne.symm net)
  replace E_a7_ := E_a7_.wr W17
  replace Fc_a7_ := Fc_a7_.other W17 (Or.inl (Ne.symm ne_a1_a7_))
  replace Fv_a7_ := Fv_a7_.other W17 (Or.inl (Ne.symm ne_a1_a7_))
  replace V_b7_ := V_b7_.other W17 (Ne.symm ne_a1_b7_)
  replace E_a9_ := E_a9_.wr W17
  replace Fc_a9_ := Fc_a9_.other W17 (Or.inl (Ne.symm ne_a1_a9_))
  replace Fv_a9_ := Fv_a9_.other W17 (Or.inl (Ne.symm ne_a1_a9_))
  replace V_b9_ := V_b9_.other W17 (Ne.symm ne_a1_b9_)
  replace E_a11_ := E_a11_.wr W17
  replace Fc_a11_ := Fc_a11_.other W17 (Or.inl (Ne.symm ne_a1_a11_))
  replace Fv_a11_ := Fv_a11_.other W17 (Or.inl (Ne.symm ne_a1_a11_))
  replace V_b11_ := V_b11_.other W17 (Ne.symm ne_a1_b11_)
  replace F_required := F_required.same W17
  have N17 := Fr.snoc X17 N15 g_a1
  refine GoH.st (T' := T17) (pc' := 127) (L' := #[.val (.ref a1), .val (.ref nm), .val .null, .val (.int (0 : Int32)), .val (.int (0 : Int32)), .val (.ref ds)]) (S' := []) st17 ?_
  refine GoH.st (T' := T17) (pc' := 128) (L' := #[.val (.ref a1), .val (.ref nm), .val .null, .val (.int (0 : Int32)), .val (.int (0 : Int32)), .val (.ref ds)]) (S' := [(.ref a1)]) (fun t_ k_ => XS.aloadN X17.here hx rfl (hb hby d8_127) rfl rfl  k_) ?_
  refine GoH.st (T' := T17) (pc' := 130) (L' := #[.val (.ref a1), .val (.ref nm), .val .null, .val (.int (0 : Int32)), .val (.int (0 : Int32)), .val (.ref ds)]) (S' := [(.int (0 : Int32)), (.ref a1)]) (fun t_ k_ => XS.iload X17.here hx rfl (hb hby d8_128) rfl  k_) ?_
  obtain ⟨T19, h19, X19, e19, W19, st19⟩ := putFN X17 hx hZ hown (hw _ (List.mem_of_getElem? (i := 131) rfl)) Via.refl e17 F_repeated E_a1 (Or.inr ⟨(hw _ (List.mem_of_getElem? (i := 132) rfl)), rfl, hnm⟩) (hw _ (List.mem_of_getElem? (i := 38) rfl)) (ty := .boolean) (v' := (.int (0 : Int32))) (by decide) rfl rfl (g := (mkF m 130 #[.val (.ref a1), .val (.ref nm), .val .null, .val (.int (0 : Int32)), .val (.int (0 : Int32)), .val (.ref ds)] [(.int (0 : Int32)), (.ref a1)])) rfl rfl (hb hby d8_130)
  have Sw20 : Safe Z EL T11.vm h17 a1 := S_a1
  replace S_a1 := Safe.wr W19 Sw20 CR.1 S_a1
  replace CR := CR.trans (CHr.wr W19 Sw20 CR.1)
  replace hk := Nat.le_trans hk (Keep.of_wr W19).1
  replace Z0 := Nat.le_trans Z0 (Keep.of_wr W19).1
  replace K0 := K0.wr W19 (Or.inl (List.mem_of_getElem? (i := 0) rfl))
  replace E_a1 := E_a1.wr W19
  replace O0 := O0.wr W19 g_a1
  replace F_name := F_name.other W19 (Or.inr (slot_ne (Or.inr (hw _ (List.mem_of_getElem? (i := 126) rfl))) (Or.inr (hw _ (List.mem_of_getElem? (i := 132) rfl))) (by decide) (t := (.object "java/lang/String")) (t' := .boolean) (by decide) (by decide)))
  replace F_valueName := F_valueName.other W19 (Or.inr (slot_ne (Or.inr (hw _ (List.mem_of_getElem? (i := 128) rfl))) (Or.inr (hw _ (List.mem_of_getElem? (i := 132) rfl))) (by decide) (t := (.object "java/lang/String")) (t' := .boolean) (by decide) (by decide)))
  replace F_required := F_required.other W19 (Or.inr (slot_ne (Or.inr (hw _ (List.mem_of_getElem? (i := 130) rfl))) (Or.inr (hw _ (List.mem_of_getElem? (i := 132) rfl))) (by decide) (t := .boolean) (t' := .boolean) (by decide) (by decide)))
  replace F_description := F_description.other W19 (Or.inr (slot_ne (Or.inr (hw _ (List.mem_of_getElem? (i := 134) rfl))) (Or.inr (hw _ (List.mem_of_getElem? (i := 132) rfl))) (by decide) (t := (.object "java/lang/String")) (t' := .boolean) (by decide) (by decide)))
  replace E_nm := E_nm.wr W19
  replace Fc_nm := Fc_nm.other W19 (Or.inl (Ne.symm ne_a1_nm))
  replace Fv_nm := Fv_nm.other W19 (Or.inl (Ne.symm ne_a1_nm))
  replace V_t1 := V_t1.other W19 (Ne.symm net)
  replace E_a7_ := E_a7_.wr W19
  replace Fc_a7_ := Fc_a7_.other W19 (Or.inl (Ne.symm ne_a1_a7_))
  replace Fv_a7_ := Fv_a7_.other W19 (Or.inl (Ne.symm ne_a1_a7_))
  replace V_b7_ := V_b7_.other W19 (Ne.symm ne_a1_b7_)
  replace E_a9_ := E_a9_.wr W19
  replace Fc_a9_ := Fc_a9_.other W19 (Or.inl (Ne.symm ne_a1_a9_))
  replace Fv_a9_ := Fv_a9_.other W19 (Or.inl (Ne.symm ne_a1_a9_))
  replace V_b9_ := V_b9_.other W19 (Ne.symm ne_a1_b9_)
  replace E_a11_ := E_a11_.wr W19
  replace Fc_a11_ := Fc_a11_.other W19 (Or.inl (Ne.symm ne_a1_a11_))
  replace Fv_a11_ := Fv_a11_.other W19 (Or.inl (Ne.symm ne_a1_a11_))
  replace V_b11_ := V_b11_.other W19 (Ne.symm ne_a1_b11_)
  replace F_repeated := F_repeated.same W19
  have N19 := Fr.snoc X19 N17 g_a1
  refine GoH.st (T' := T19) (pc' := 133) (L' := #[.val (.ref a1), .val (.ref nm), .val .null, .val (.int (0 : Int32)), .val (.int (0 : Int32)), .val (.ref ds)]) (S' := []) st19 ?_
  refine GoH.st (T' := T19) (pc' := 134) (L' := #[.val (.ref a1), .val (.ref nm), .val .null, .val (.int (0 : Int32)), .val (.int (0 : Int32)), .val (.ref ds)]) (S' := [(.ref a1)]) (fun t_ k_ => XS.aloadN X19.here hx rfl (hb hby d8_133) rfl rfl  k_) ?_
  refine GoH.st (T' := T19) (pc' := 136) (L' := #[.val (.ref a1), .val (.ref nm), .val .null, .val (.int (0 : Int32)), .val (.int (0 : Int32)), .val (.ref ds)]) (S' := [(.ref ds), (.ref a1)]) (fun t_ k_ => XS.aload X19.here hx rfl (hb hby d8_134) rfl rfl  k_) ?_
  obtain ⟨T21, h21, X21, e21, W21, st21⟩ := putF X19 hx hZ hown (host := "") (Or.inl (hw _ (List.mem_of_getElem? (i := 133) rfl))) Via.refl e19 F_description E_a1 (Or.inr ⟨(hw _ (List.mem_of_getElem? (i := 134) rfl)), rfl, hnm⟩) (hw _ (List.mem_of_getElem? (i := 38) rfl)) (ty := (.object "java/lang/String")) (by decide) rfl rfl (g := (mkF m 136 #[.val (.ref a1), .val (.ref nm), .val .null, .val (.int (0 : Int32)), .val (.int (0 : Int32)), .val (.ref ds)] [(.ref ds), (.ref a1)])) rfl rfl (hb hby d8_136)
  have Sw22 : Safe Z EL T11.vm h19 a1 := S_a1
  replace S_a1 := Safe.wr W21 Sw22 CR.1 S_a1
  replace CR := CR.trans (CHr.wr W21 Sw22 CR.1)
  replace hk := Nat.le_trans hk (Keep.of_wr W21).1
  replace Z0 := Nat.le_trans Z0 (Keep.of_wr W21).1
  replace K0 := K0.wr W21 (Or.inl (List.mem_of_getElem? (i := 0) rfl))
  replace E_a1 := E_a1.wr W21
  replace O0 := O0.wr W21 g_a1
  replace F_name := F_name.other W21 (Or.inr (slot_ne (Or.inr (hw _ (List.mem_of_getElem? (i := 126) rfl))) (Or.inr (hw _ (List.mem_of_getElem? (i := 134) rfl))) (by decide) (t := (.object "java/lang/String")) (t' := (.object "java/lang/String")) (by decide) (by decide)))
  replace F_valueName := F_valueName.other W21 (Or.inr (slot_ne (Or.inr (hw _ (List.mem_of_getElem? (i := 128) rfl))) (Or.inr (hw _ (List.mem_of_getElem? (i := 134) rfl))) (by decide) (t := (.object "java/lang/String")) (t' := (.object "java/lang/String")) (by decide) (by decide)))
  replace F_required := F_required.other W21 (Or.inr (slot_ne (Or.inr (hw _ (List.mem_of_getElem? (i := 130) rfl))) (Or.inr (hw _ (List.mem_of_getElem? (i := 134) rfl))) (by decide) (t := .boolean) (t' := (.object "java/lang/String")) (by decide) (by decide)))
  replace F_repeated := F_repeated.other W21 (Or.inr (slot_ne (Or.inr (hw _ (List.mem_of_getElem? (i := 132) rfl))) (Or.inr (hw _ (List.mem_of_getElem? (i := 134) rfl))) (by decide) (t := .boolean) (t' := (.object "java/lang/String")) (by decide) (by decide)))
  replace E_nm := E_nm.wr W21
  replace Fc_nm := Fc_nm.other W21 (Or.inl (Ne.symm ne_a1_nm))
  replace Fv_nm := Fv_nm.other W21 (Or.inl (Ne.symm ne_a1_nm))
  replace V_t1 := V_t1.other W21 (Ne.symm net)
  replace E_a7_ := E_a7_.wr W21
  replace Fc_a7_ := Fc_a7_.other W21 (Or.inl (Ne.symm ne_a1_a7_))
  replace Fv_a7_ := Fv_a7_.other W21 (Or.inl (Ne.symm ne_a1_a7_))
  replace V_b7_ := V_b7_.other W21 (Ne.symm ne_a1_b7_)
  replace E_a9_ := E_a9_.wr W21
  replace Fc_a9_ := Fc_a9_.other W21 (Or.inl (Ne.symm ne_a1_a9_))
  replace Fv_a9_ := Fv_a9_.other W21 (Or.inl (Ne.symm ne_a1_a9_))
  replace V_b9_ := V_b9_.other W21 (Ne.symm ne_a1_b9_)
  replace E_a11_ := E_a11_.wr W21
  replace Fc_a11_ := Fc_a11_.other W21 (Or.inl (Ne.symm ne_a1_a11_))
  replace Fv_a11_ := Fv_a11_.other W21 (Or.inl (Ne.symm ne_a1_a11_))
  replace V_b11_ := V_b11_.other W21 (Ne.symm ne_a1_b11_)
  replace F_description := F_description.same W21
  have N21 := Fr.snoc X21 N19 g_a1
  refine GoH.st (T' := T21) (pc' := 139) (L' := #[.val (.ref a1), .val (.ref nm), .val .null, .val (.int (0 : Int32)), .val (.int (0 : Int32)), .val (.ref ds)]) (S' := []) st21 ?_
  exact GoH.retV X21 hx hlk hret (hb hby d8_139) (by decide) (by decide) hS hk e21 hs0 hZ (own_EW hw) CR (by rw [e21]; exact ⟨rfl, N21, K0, F_valueName⟩)

def Qop2v (Z : State) (a1 : Addr) (vn : Addr) (h0 : Heap) (n0 : Nat) (v : Option Value) (h : Heap) (L : List Loc) : Prop := v = none ∧ Fr n0 L ∧ Keep h0 h [a1] ∧ Fld Z h a1 "com/example/placewright/placewright/cli/Option" "valueName" "Ljava/lang/String;" (.ref vn)
def roomop2v : Room := { frames := 4, cells := 10, slots := 104, locals := 62 }
set_option maxRecDepth 65536 in
set_option maxHeartbeats 40000000 in
theorem rmop2v (l : Launch) (Z : State) (a0 : Array Value) (hw : ∀ d ∈ tables_1, d.before a0 Z = true) (ws : List Jvm.Cond) (a1 : Addr) (nm : Addr) (t1 : Addr) (k1 : ClassId) (ds : Addr) (gC : Int32) (vn : Addr) (r3 : Int32) (r4 : Int32) (x0 : Int32) (x1 : Int32) (h0 : Heap) (n0 : Nat) (Z0 : n0 ≤ h0.size) (SC : Sta Z Z.heap "java/lang/String" "COMPACT_STRINGS" "Z" (.int gC)) (PC : ¬ (gC = (0 : Int32))) (O0 : Old Z n0 h0) (E_a1 : Exa Z h0 a1 "com/example/placewright/placewright/cli/Option") (g_a1 : n0 ≤ a1) (net : a1 ≠ t1) (F_name : Fld Z h0 a1 "com/example/placewright/placewright/cli/Option" "name" "Ljava/lang/String;" .null) (F_valueName : Fld Z h0 a1 "com/example/placewright/placewright/cli/Option" "valueName" "Ljava/lang/String;" .null) (F_required : Fld Z h0 a1 "com/example/placewright/placewright/cli/Option" "required" "Z" (.int (0 : Int32))) (F_repeated : Fld Z h0 a1 "com/example/placewright/placewright/cli/Option" "repeated" "Z" (.int (0 : Int32))) (F_description : Fld Z h0 a1 "com/example/placewright/placewright/cli/Option" "description" "Ljava/lang/String;" .null) (E_nm : Exa Z h0 nm "java/lang/String") (Fc_nm : Fld Z h0 nm "java/lang/String" "coder" "B" (.int (0 : Int32))) (Fv_nm : Fld Z h0 nm "java/lang/String" "value" "[B" (.ref t1)) (V_t1 : Arv Z h0 t1 k1 .byte (2 : Int32) [(.int x0), (.int x1)] (.int (0 : Int32))) (hA : ¬ x0 = (45 : Int32)) (hB : ¬ x0 = (61 : Int32) ∧ ¬ x1 = (61 : Int32)) :
    MetFree l (⟨"com/example/placewright/placewright/cli/Option", "<init>", "(Ljava/lang/String;Ljava/lang/String;ZZLjava/lang/String;)V"⟩ : MethodName) (head1 (Jvm.Cond.code (⟨"com/example/placewright/placewright/cli/Option", "<init>", "(Ljava/lang/String;Ljava/lang/String;ZZLjava/lang/String;)V"⟩ : MethodName) prog_71_method_1_code 6 none :: ws) roomop2v) (fun aa_ U_ => aa_ = #[(.ref a1), (.ref nm), (.ref vn), (.int r3), (.int r4), (.ref ds)] ∧ Z.Warmed39 U_.vm ∧ U_.heap = h0 ∧ CHv Z EL U_.vm h0) (fun _ _ _ _ _ => True) (fun _ U_ o_ W_ => ∃ v_ L_, o_ = .returned v_ ∧ (Qop2v Z a1 vn h0 n0) v_ W_.heap L_ ∧ CHr Z EL U_.vm U_.heap W_.vm W_.heap ∧ ReturnedEndW U_ o_ W_ L_ roomop2v.cells roomop2v.slots) := by
  refine own_metH (Q := (Qop2v Z a1 vn h0 n0)) (L0 := #[.val (.ref a1), .val (.ref nm), .val (.ref vn), .val (.int r3), .val (.int r4), .val (.ref ds)]) (plainFor_of_name pn_5) (fun m => by first | (simp [entryFrame, mkF, argsToLocals, Value.category]; done) | rfl) ?_
  intro p e s m below meth c T0 X0 hx hby hml hown hnm hret hlk hZ e0 hs0 CR hS hk
  have N0 := Fr.nil n0
  have K0 := Keep.refl h0 [a1]
  have ne_a1_nm : a1 ≠ nm := Exa.ne E_a1 E_nm (by decide)
  have S_a1 : Safe Z EL s.vm h0 a1 := Safe.exa hZ.alike E_a1 (by decide) (by decide)
  refine GoH.st (T' := T0) (pc' := 1) (L' := #[.val (.ref a1), .val (.ref nm), .val (.ref vn), .val (.int r3), .val (.int r4), .val (.ref ds)]) (S' := [(.ref a1)]) (fun t_ k_ => XS.aloadN X0.here hx rfl (hb hby d8_0) rfl rfl  k_) ?_
  obtain ⟨_, _, ⟨T1, L1, k1, n1⟩, -, X1, ⟨Lc1, hQ1, l1, y1, z1⟩, st1⟩ := X0.specialBack hx (y := (⟨"java/lang/Record", "<init>", "()V"⟩ : MethodName)) rfl hown (mvT hZ (hw _ (List.mem_of_getElem? (i := 43) rfl))) (mvT hZ (hw _ (List.mem_of_getElem? (i := 44) rfl))) (mvT hZ (hw _ (List.mem_of_getElem? (i := 47) rfl))) (by decide) (backOf (W := 0) (rm9 l Z a0 hw [] a1 h0 n0 Z0) hZ (hw _ (List.mem_of_getElem? (i := 47) rfl)) (hw _ (List.mem_of_getElem? (i := 46) rfl)) (by decide) (by decide)) (g := (mkF m 1 #[.val (.ref a1), .val (.ref nm), .val (.ref vn), .val (.int r3), .val (.int r4), .val (.ref ds)] [(.ref a1)])) rfl (by rw [hml]; rfl) (Steps.refl _) (a := a1) (argsL := []) (rest := []) (lenOf pd_4 rfl) rfl (by show 2 * 0 + _ ≤ _; exact Nat.le_of_eq rfl) (hb hby d8_1) (fun _ _ => ⟨rfl, e0, (by decide : 0 + 0 ≤ _), (by decide : 0 + 0 ≤ _)⟩)
  dsimp only [Pt.U, Pt.locs, Pt.cells, Pt.slots] at X1 l1 y1 z1 st1 hQ1
  subst l1 y1 z1
  obtain ⟨rfl, N1q, e1⟩ := hQ1
  have N1 := Fr.app N0 N1q
  refine GoH.tr (T' := T1) (pc' := 4) (L' := #[.val (.ref a1), .val (.ref nm), .val (.ref vn), .val (.int r3), .val (.int r4), .val (.ref ds)]) (S' := []) st1 ?_
  refine GoH.st (T' := T1) (pc' := 5) (L' := #[.val (.ref a1), .val (.ref nm), .val (.ref vn), .val (.int r3), .val (.int r4), .val (.ref ds)]) (S' := [(.ref nm)]) (fun t_ k_ => XS.aloadN X1.here hx rfl (hb hby d8_4) rfl rfl  k_) ?_
  obtain ⟨a2_, T2, h2, k2, X2, e2, E2, hS2, hk2, hZ2, ho2, CR2, -, st2⟩ := ldcOH X1 hx hZ hown (hw _ (List.mem_of_getElem? (i := 49) rfl)) (own_wS hw) e1 hS hk (own_EW hw) CR.1 (g := (mkF m 5 #[.val (.ref a1), .val (.ref nm), .val (.ref vn), .val (.int r3), .val (.int r4), .val (.ref ds)] [(.ref nm)])) rfl (hb hby d8_5) (n := 16) (by decide) (by decide) (by decide) (by decide)
  replace S_a1 := CR2.safe E_a1.lt S_a1
  replace CR := CR.trans CR2
  replace Z0 := Nat.le_trans Z0 E2.1
  replace K0 := K0.ext E2
  replace E_a1 := E_a1.ext E2
  replace O0 := O0.ext E2
  replace F_name := F_name.ext E2
  replace F_valueName := F_valueName.ext E2
  replace F_required := F_required.ext E2
  replace F_repeated := F_repeated.ext E2
  replace F_description := F_description.ext E2
  replace E_nm := E_nm.ext E2
  replace Fc_nm := Fc_nm.ext E2
  replace Fv_nm := Fv_nm.ext E2
  replace V_t1 := V_t1.ext E2
  replace hZ := hZ2
  replace hown := ho2
  replace hS := hS2
  replace hk := hk2
  refine GoH.st (T' := T2) (pc' := 7) (L' := #[.val (.ref a1), .val (.ref nm), .val (.ref vn), .val (.int r3), .val (.int r4), .val (.ref ds)]) (S' := [(.ref a2_), (.ref nm)]) st2 ?_
  obtain ⟨_, _, ⟨T3, L3, k3, n3⟩, -, X3, ⟨Lc3, hQ3, l3, y3, z3⟩, st3⟩ := Jvm.LawKit.callS X2 hx (y := (⟨"java/util/Objects", "requireNonNull", "(Ljava/lang/Object;Ljava/lang/String;)Ljava/lang/Object;"⟩ : MethodName)) hown (mvT hZ (hw _ (List.mem_of_getElem? (i := 50) rfl))) (mvT hZ (hw _ (List.mem_of_getElem? (i := 51) rfl))) (mvT hZ (hw _ (List.mem_of_getElem? (i := 52) rfl))) (mvT hZ (hw _ (List.mem_of_getElem? (i := 53) rfl))) (by decide) (backOf (W := 0) (rm10 l Z a0 hw [] nm a2_ h2 n0 Z0) hZ (hw _ (List.mem_of_getElem? (i := 53) rfl)) (hw _ (List.mem_of_getElem? (i := 52) rfl)) (by decide) (by decide)) (g := (mkF m 7 #[.val (.ref a1), .val (.ref nm), .val (.ref vn), .val (.int r3), .val (.int r4), .val (.ref ds)] [(.ref a2_), (.ref nm)])) rfl (by rw [hml]; rfl) (argsL := [(.ref nm), (.ref a2_)]) (rest := []) (lenOf pd_5 rfl) rfl (by show 2 * 0 + _ ≤ _; exact Nat.le_of_eq rfl) (hb hby d8_7) (fun _ _ => ⟨rfl, e2, (by decide : 2 + 0 ≤ _), (by decide : 20 + 0 ≤ _)⟩)
  dsimp only [Pt.U, Pt.locs, Pt.cells, Pt.slots] at X3 l3 y3 z3 st3 hQ3
  subst l3 y3 z3
  obtain ⟨rfl, N3q, e3⟩ := hQ3
  have N3 := Fr.app N1 N3q
  refine GoH.st (T' := T3) (pc' := 10) (L' := #[.val (.ref a1), .val (.ref nm), .val (.ref vn), .val (.int r3), .val (.int r4), .val (.ref ds)]) (S' := [(.ref nm)]) st3 ?_
  refine GoH.st (T' := T3) (pc' := 11) (L' := #[.val (.ref a1), .val (.ref nm), .val (.ref vn), .val (.int r3), .val (.int r4), .val (.ref ds)]) (S' := []) (fun t_ k_ => XS.pop X3.here hx rfl (hb hby d8_10) rfl rfl k_) ?_
  refine GoH.st (T' := T3) (pc' := 13) (L' := #[.val (.ref a1), .val (.ref nm), .val (.ref vn), .val (.int r3), .val (.int r4), .val (.ref ds)]) (S' := [(.ref ds)]) (fun t_ k_ => XS.aload X3.here hx rfl (hb hby d8_11) rfl rfl  k_) ?_
  obtain ⟨a4_, T4, h4, k4, X4, e4, E4, hS4, hk4, hZ4, ho4, CR4, -, st4⟩ := ldcOH X3 hx hZ hown (hw _ (List.mem_of_getElem? (i := 54) rfl)) (own_wS hw) e3 hS hk (own_EW hw) CR.1 (g := (mkF m 13 #[.val (.ref a1), .val (.ref nm), .val (.ref vn), .val (.int r3), .val (.int r4), .val (.ref ds)] [(.ref ds)])) rfl (hb hby d8_13) (n := 44) (by decide) (by decide) (by decide) (by decide)
  replace S_a1 := CR4.safe E_a1.lt S_a1
  replace CR := CR.trans CR4
  replace Z0 := Nat.le_trans Z0 E4.1
  replace K0 := K0.ext E4
  replace E_a1 := E_a1.ext E4
  replace O0 := O0.ext E4
  replace F_name := F_name.ext E4
  replace F_valueName := F_valueName.ext E4
  replace F_required := F_required.ext E4
  replace F_repeated := F_repeated.ext E4
  replace F_description := F_description.ext E4
  replace E_nm := E_nm.ext E4
  replace Fc_nm := Fc_nm.ext E4
  replace Fv_nm := Fv_nm.ext E4
  replace V_t1 := V_t1.ext E4
  replace hZ := hZ4
  replace hown := ho4
  replace hS := hS4
  replace hk := hk4
  refine GoH.st (T' := T4) (pc' := 15) (L' := #[.val (.ref a1), .val (.ref nm), .val (.ref vn), .val (.int r3), .val (.int r4), .val (.ref ds)]) (S' := [(.ref a4_), (.ref ds)]) st4 ?_
  obtain ⟨_, _, ⟨T5, L5, k5, n5⟩, -, X5, ⟨Lc5, hQ5, l5, y5, z5⟩, st5⟩ := Jvm.LawKit.callS X4 hx (y := (⟨"java/util/Objects", "requireNonNull", "(Ljava/lang/Object;Ljava/lang/String;)Ljava/lang/Object;"⟩ : MethodName)) hown (mvT hZ (hw _ (List.mem_of_getElem? (i := 50) rfl))) (mvT hZ (hw _ (List.mem_of_getElem? (i := 51) rfl))) (mvT hZ (hw _ (List.mem_of_getElem? (i := 52) rfl))) (mvT hZ (hw _ (List.mem_of_getElem? (i := 53) rfl))) (by decide) (backOf (W := 0) (rm10 l Z a0 hw [] ds a4_ h4 n0 Z0) hZ (hw _ (List.mem_of_getElem? (i := 53) rfl)) (hw _ (List.mem_of_getElem? (i := 52) rfl)) (by decide) (by decide)) (g := (mkF m 15 #[.val (.ref a1), .val (.ref nm), .val (.ref vn), .val (.int r3), .val (.int r4), .val (.ref ds)] [(.ref a4_), (.ref ds)])) rfl (by rw [hml]; rfl) (argsL := [(.ref ds), (.ref a4_)]) (rest := []) (lenOf pd_5 rfl) rfl (by show 2 * 0 + _ ≤ _; exact Nat.le_of_eq rfl) (hb hby d8_15) (fun _ _ => ⟨rfl, e4, (by decide : 4 + 0 ≤ _), (by decide : 68 + 0 ≤ _)⟩)
  dsimp only [Pt.U, Pt.locs, Pt.cells, Pt.slots] at X5 l5 y5 z5 st5 hQ5
  subst l5 y5 z5
  obtain ⟨rfl, N5q, e5⟩ := hQ5
  have N5 := Fr.app N3 N5q
  refine GoH.st (T' := T5) (pc' := 18) (L' := #[.val (.ref a1), .val (.ref nm), .val (.ref vn), .val (.int r3), .val (.int r4), .val (.ref ds)]) (S' := [(.ref ds)]) st5 ?_
  refine GoH.st (T' := T5) (pc' := 19) (L' := #[.val (.ref a1), .val (.ref nm), .val (.ref vn), .val (.int r3), .val (.int r4), .val (.ref ds)]) (S' := []) (fun t_ k_ => XS.pop X5.here hx rfl (hb hby d8_18) rfl rfl k_) ?_
  refine GoH.st (T' := T5) (pc' := 20) (L' := #[.val (.ref a1), .val (.ref nm), .val (.ref vn), .val (.int r3), .val (.int r4), .val (.ref ds)]) (S' := [(.ref nm)]) (fun t_ k_ => XS.aloadN X5.here hx rfl (hb hby d8_19) rfl rfl  k_) ?_
  obtain ⟨cq6, kq6, q6a, q6b, q6c⟩ := isOf hZ e5 E_nm
  obtain ⟨_, _, ⟨T6, L6, k6, n6⟩, -, X6, ⟨Lc6, hQ6, l6, y6, z6⟩, st6⟩ := X5.virtualBack hx (y := (⟨"java/lang/String", "isEmpty", "()Z"⟩ : MethodName)) (z := (⟨"java/lang/String", "isEmpty", "()Z"⟩ : MethodName)) hown (mvT hZ (hw _ (List.mem_of_getElem? (i := 55) rfl))) (mvT hZ (hw _ (List.mem_of_getElem? (i := 56) rfl))) (notFace_of_selects (args := #[]) (mvT hZ (hw _ (List.mem_of_getElem? (i := 58) rfl)))) (mvT hZ (hw _ (List.mem_of_getElem? (i := 58) rfl))) (mvT hZ (hw _ (List.mem_of_getElem? (i := 57) rfl))) (by decide) (backOf (W := 0) (rmemp2 l Z a0 hw [] nm t1 _ gC (x0) (x1) h4 n0 Z0 SC PC O0 E_nm Fc_nm Fv_nm V_t1) hZ (hw _ (List.mem_of_getElem? (i := 59) rfl)) (hw _ (List.mem_of_getElem? (i := 2) rfl)) (by decide) (by decide)) q6a q6c (g := (mkF m 20 #[.val (.ref a1), .val (.ref nm), .val (.ref vn), .val (.int r3), .val (.int r4), .val (.ref ds)] [(.ref nm)])) rfl (by rw [hml]; rfl) (Steps.refl _) (argsL := []) (rest := []) (lenOf pd_6 rfl) rfl (by show 2 * 0 + _ ≤ _; exact Nat.le_of_eq rfl) (hb hby d8_20) (fun _ _ => ⟨rfl, e5, (by decide : 4 + 0 ≤ _), (by decide : 68 + 0 ≤ _)⟩)
  dsimp only [Pt.U, Pt.locs, Pt.cells, Pt.slots] at X6 l6 y6 z6 st6 hQ6
  subst l6 y6 z6
  obtain ⟨rfl, N6q, e6⟩ := hQ6
  have N6 := Fr.app N5 N6q
  refine GoH.tr (T' := T6) (pc' := 23) (L' := #[.val (.ref a1), .val (.ref nm), .val (.ref vn), .val (.int r3), .val (.int r4), .val (.ref ds)]) (S' := [(.int (0 : Int32))]) st6 ?_
  refine GoH.st (T' := T6) (pc' := 26) (L' := #[.val (.ref a1), .val (.ref nm), .val (.ref vn), .val (.int r3), .val (.int r4), .val (.ref ds)]) (S' := []) (fun t_ k_ => XS.ifNo X6.here hx rfl (hb hby d8_23) rfl ((if0 _ _).trans (teq (by decide : ((0 : Int32) = (0 : Int32)))).2) k_) ?_
  refine GoH.st (T' := T6) (pc' := 27) (L' := #[.val (.ref a1), .val (.ref nm), .val (.ref vn), .val (.int r3), .val (.int r4), .val (.ref ds)]) (S' := [(.ref nm)]) (fun t_ k_ => XS.aloadN X6.here hx rfl (hb hby d8_26) rfl rfl  k_) ?_
  obtain ⟨a7_, T7, h7, k7, b7_, c7, X7, e7, E7, hS7, hk7, hZ7, ho7, E_a7_, Fc_a7_, Fv_a7_, V_b7_, lta7, ltb7, CR7, -, Sf7, st7⟩ := ldcCH X6 hx hZ hown (hw _ (List.mem_of_getElem? (i := 60) rfl)) (own_wS hw) e6 hS hk (own_EW hw) (by decide : ("com/example/placewright/placewright/cli/Option", 23) ∈ EL) CR.1 (vs := [(.int (45 : Int32))]) (z := (1 : Int32)) ⟨by decide, by decide⟩ (by decide) rfl (g := (mkF m 27 #[.val (.ref a1), .val (.ref nm), .val (.ref vn), .val (.int r3), .val (.int r4), .val (.ref ds)] [(.ref nm)])) rfl (hb hby d8_27) (n := 4) (by decide) (by decide) (by decide) (by decide)
  replace S_a1 := CR7.safe E_a1.lt S_a1
  replace CR := CR.trans CR7
  replace Z0 := Nat.le_trans Z0 E7.1
  replace K0 := K0.ext E7
  replace E_a1 := E_a1.ext E7
  replace O0 := O0.ext E7
  replace F_name := F_name.ext E7
  replace F_valueName := F_valueName.ext E7
  replace F_required := F_required.ext E7
  replace F_repeated := F_repeated.ext E7
  replace F_description := F_description.ext E7
  replace E_nm := E_nm.ext E7
  replace Fc_nm := Fc_nm.ext E7
  replace Fv_nm := Fv_nm.ext E7
  replace V_t1 := V_t1.ext E7
  replace hZ := hZ7
  replace hown := ho7
  replace hS := hS7
  replace hk := hk7
  have ne_a1_a7_ := (Sf7 _ S_a1).1
  have ne_a1_b7_ := (Sf7 _ S_a1).2
  refine GoH.st (T' := T7) (pc' := 29) (L' := #[.val (.ref a1), .val (.ref nm), .val (.ref vn), .val (.int r3), .val (.int r4), .val (.ref ds)]) (S' := [(.ref a7_), (.ref nm)]) st7 ?_
  obtain ⟨cq8, kq8, q8a, q8b, q8c⟩ := isOf hZ e7 E_nm
  obtain ⟨_, _, ⟨T8, L8, k8, n8⟩, -, X8, ⟨Lc8, hQ8, l8, y8, z8⟩, st8⟩ := X7.virtualBack hx (y := (⟨"java/lang/String", "startsWith", "(Ljava/lang/String;)Z"⟩ : MethodName)) (z := (⟨"java/lang/String", "startsWith", "(Ljava/lang/String;)Z"⟩ : MethodName)) hown (mvT hZ (hw _ (List.mem_of_getElem? (i := 61) rfl))) (mvT hZ (hw _ (List.mem_of_getElem? (i := 62) rfl))) (notFace_of_selects (args := #[]) (mvT hZ (hw _ (List.mem_of_getElem? (i := 64) rfl)))) (mvT hZ (hw _ (List.mem_of_getElem? (i := 64) rfl))) (mvT hZ (hw _ (List.mem_of_getElem? (i := 63) rfl))) (by decide) (backOf (W := 0) (rmstw2_45 l Z a0 hw [] nm a7_ t1 b7_ _ _ gC (x0) (x1) h7 n0 Z0 SC PC O0 E_nm Fc_nm Fv_nm V_t1 E_a7_ Fc_a7_ Fv_a7_ V_b7_ hA) hZ (hw _ (List.mem_of_getElem? (i := 65) rfl)) (hw _ (List.mem_of_getElem? (i := 2) rfl)) (by decide) (by decide)) q8a q8c (g := (mkF m 29 #[.val (.ref a1), .val (.ref nm), .val (.ref vn), .val (.int r3), .val (.int r4), .val (.ref ds)] [(.ref a7_), (.ref nm)])) rfl (by rw [hml]; rfl) (Steps.refl _) (argsL := [(.ref a7_)]) (rest := []) (lenOf pd_11 rfl) rfl (by show 2 * 0 + _ ≤ _; exact Nat.le_of_eq rfl) (hb hby d8_29) (fun _ _ => ⟨rfl, e7, (by decide : 6 + 0 ≤ _), (by decide : 76 + 0 ≤ _)⟩)
  dsimp only [Pt.U, Pt.locs, Pt.cells, Pt.slots] at X8 l8 y8 z8 st8 hQ8
  subst l8 y8 z8
  obtain ⟨rfl, N8q, e8⟩ := hQ8
  have N8 := Fr.app N6 N8q
  refine GoH.tr (T' := T8) (pc' := 32) (L' := #[.val (.ref a1), .val (.ref nm), .val (.ref vn), .val (.int r3), .val (.int r4), .val (.ref ds)]) (S' := [(.int (0 : Int32))]) st8 ?_
  refine GoH.st (T' := T8) (pc' := 35) (L' := #[.val (.ref a1), .val (.ref nm), .val (.ref vn), .val (.int r3), .val (.int r4), .val (.ref ds)]) (S' := []) (fun t_ k_ => XS.ifNo X8.here hx rfl (hb hby d8_32) rfl ((if0 _ _).trans (teq (by decide : ((0 : Int32) = (0 : Int32)))).2) k_) ?_
  refine GoH.st (T' := T8) (pc' := 36) (L' := #[.val (.ref a1), .val (.ref nm), .val (.ref vn), .val (.int r3), .val (.int r4), .val (.ref ds)]) (S' := [(.ref nm)]) (fun t_ k_ => XS.aloadN X8.here hx rfl (hb hby d8_35) rfl rfl  k_) ?_
  obtain ⟨a9_, T9, h9, k9, b9_, c9, X9, e9, E9, hS9, hk9, hZ9, ho9, E_a9_, Fc_a9_, Fv_a9_, V_b9_, lta9, ltb9, CR9, -, Sf9, st9⟩ := ldcCH X8 hx hZ hown (hw _ (List.mem_of_getElem? (i := 85) rfl)) (own_wS hw) e8 hS hk (own_EW hw) (by decide : ("com/example/placewright/placewright/cli/Option", 29) ∈ EL) CR.1 (vs := [(.int (61 : Int32))]) (z := (1 : Int32)) ⟨by decide, by decide⟩ (by decide) rfl (g := (mkF m 36 #[.val (.ref a1), .val (.ref nm), .val (.ref vn), .val (.int r3), .val (.int r4), .val (.ref ds)] [(.ref nm)])) rfl (hb hby d8_36) (n := 4) (by decide) (by decide) (by decide) (by decide)
  replace S_a1 := CR9.safe E_a1.lt S_a1
  replace CR := CR.trans CR9
  replace Z0 := Nat.le_trans Z0 E9.1
  replace K0 := K0.ext E9
  replace E_a1 := E_a1.ext E9
  replace O0 := O0.ext E9
  replace F_name := F_name.ext E9
  replace F_valueName := F_valueName.ext E9
  replace F_required := F_required.ext E9
  replace F_repeated := F_repeated.ext E9
  replace F_description := F_description.ext E9
  replace E_nm := E_nm.ext E9
  replace Fc_nm := Fc_nm.ext E9
  replace Fv_nm := Fv_nm.ext E9
  replace V_t1 := V_t1.ext E9
  replace E_a7_ := E_a7_.ext E9
  replace Fc_a7_ := Fc_a7_.ext E9
  replace Fv_a7_ := Fv_a7_.ext E9
  replace V_b7_ := V_b7_.ext E9
  replace hZ := hZ9
  replace hown := ho9
  replace hS := hS9
  replace hk := hk9
  have ne_a1_a9_ := (Sf9 _ S_a1).1
  have ne_a1_b9_ := (Sf9 _ S_a1).2
  refine GoH.st (T' := T9) (pc' := 38) (L' := #[.val (.ref a1), .val (.ref nm), .val (.ref vn), .val (.int r3), .val (.int r4), .val (.ref ds)]) (S' := [(.ref a9_), (.ref nm)]) st9 ?_
  obtain ⟨cq10, kq10, q10a, q10b, q10c⟩ := isOf hZ e9 E_nm
  obtain ⟨_, _, ⟨T10, L10, k10, n10⟩, -, X10, ⟨Lc10, hQ10, l10, y10, z10⟩, st10⟩ := X9.virtualBack hx (y := (⟨"java/lang/String", "contains", "(Ljava/lang/CharSequence;)Z"⟩ : MethodName)) (z := (⟨"java/lang/String", "contains", "(Ljava/lang/CharSequence;)Z"⟩ : MethodName)) hown (mvT hZ (hw _ (List.mem_of_getElem? (i := 86) rfl))) (mvT hZ (hw _ (List.mem_of_getElem? (i := 87) rfl))) (notFace_of_selects (args := #[]) (mvT hZ (hw _ (List.mem_of_getElem? (i := 89) rfl)))) (mvT hZ (hw _ (List.mem_of_getElem? (i := 89) rfl))) (mvT hZ (hw _ (List.mem_of_getElem? (i := 88) rfl))) (by decide) (backOf (W := 0) (rmcnt2_61 l Z a0 hw [] nm a9_ t1 b9_ _ _ gC (x0) (x1) h9 n0 Z0 SC PC O0 E_nm Fc_nm Fv_nm V_t1 E_a9_ Fc_a9_ Fv_a9_ V_b9_ hB) hZ (hw _ (List.mem_of_getElem? (i := 90) rfl)) (hw _ (List.mem_of_getElem? (i := 2) rfl)) (by decide) (by decide)) q10a q10c (g := (mkF m 38 #[.val (.ref a1), .val (.ref nm), .val (.ref vn), .val (.int r3), .val (.int r4), .val (.ref ds)] [(.ref a9_), (.ref nm)])) rfl (by rw [hml]; rfl) (Steps.refl _) (argsL := [(.ref a9_)]) (rest := []) (lenOf pd_15 rfl) rfl (by show 2 * 0 + _ ≤ _; exact Nat.le_of_eq rfl) (hb hby d8_38) (fun _ _ => ⟨rfl, e9, (by decide : 8 + 0 ≤ _), (by decide : 84 + 0 ≤ _)⟩)
  dsimp only [Pt.U, Pt.locs, Pt.cells, Pt.slots] at X10 l10 y10 z10 st10 hQ10
  subst l10 y10 z10
  obtain ⟨rfl, N10q, e10⟩ := hQ10
  have N10 := Fr.app N8 N10q
  refine GoH.tr (T' := T10) (pc' := 41) (L' := #[.val (.ref a1), .val (.ref nm), .val (.ref vn), .val (.int r3), .val (.int r4), .val (.ref ds)]) (S' := [(.int (0 : Int32))]) st10 ?_
  refine GoH.st (T' := T10) (pc' := 44) (L' := #[.val (.ref a1), .val (.ref nm), .val (.ref vn), .val (.int r3), .val (.int r4), .val (.ref ds)]) (S' := []) (fun t_ k_ => XS.ifNo X10.here hx rfl (hb hby d8_41) rfl ((if0 _ _).trans (teq (by decide : ((0 : Int32) = (0 : Int32)))).2) k_) ?_
  refine GoH.st (T' := T10) (pc' := 45) (L' := #[.val (.ref a1), .val (.ref nm), .val (.ref vn), .val (.int r3), .val (.int r4), .val (.ref ds)]) (S' := [(.ref nm)]) (fun t_ k_ => XS.aloadN X10.here hx rfl (hb hby d8_44) rfl rfl  k_) ?_
  obtain ⟨a11_, T11, h11, k11, b11_, c11, X11, e11, E11, hS11, hk11, hZ11, ho11, E_a11_, Fc_a11_, Fv_a11_, V_b11_, lta11, ltb11, CR11, -, Sf11, st11⟩ := ldcCH X10 hx hZ hown (hw _ (List.mem_of_getElem? (i := 116) rfl)) (own_wS hw) e10 hS hk (own_EW hw) (by decide : ("com/example/placewright/placewright/cli/Option", 35) ∈ EL) CR.1 (vs := [(.int (104 : Int32)), (.int (101 : Int32)), (.int (108 : Int32)), (.int (112 : Int32))]) (z := (4 : Int32)) ⟨by decide, by decide⟩ (by decide) rfl (g := (mkF m 45 #[.val (.ref a1), .val (.ref nm), .val (.ref vn), .val (.int r3), .val (.int r4), .val (.ref ds)] [(.ref nm)])) rfl (hb hby d8_45) (n := 16) (by decide) (by decide) (by decide) (by decide)
  replace S_a1 := CR11.safe E_a1.lt S_a1
  replace CR := CR.trans CR11
  replace Z0 := Nat.le_trans Z0 E11.1
  replace K0 := K0.ext E11
  replace E_a1 := E_a1.ext E11
  replace O0 := O0.ext E11
  replace F_name := F_name.ext E11
  replace F_valueName := F_valueName.ext E11
  replace F_required := F_required.ext E11
  replace F_repeated := F_repeated.ext E11
  replace F_description := F_description.ext E11
  replace E_nm := E_nm.ext E11
  replace Fc_nm := Fc_nm.ext E11
  replace Fv_nm := Fv_nm.ext E11
  replace V_t1 := V_t1.ext E11
  replace E_a7_ := E_a7_.ext E11
  replace Fc_a7_ := Fc_a7_.ext E11
  replace Fv_a7_ := Fv_a7_.ext E11
  replace V_b7_ := V_b7_.ext E11
  replace E_a9_ := E_a9_.ext E11
  replace Fc_a9_ := Fc_a9_.ext E11
  replace Fv_a9_ := Fv_a9_.ext E11
  replace V_b9_ := V_b9_.ext E11
  replace hZ := hZ11
  replace hown := ho11
  replace hS := hS11
  replace hk := hk11
  have ne_a1_a11_ := (Sf11 _ S_a1).1
  have ne_a1_b11_ := (Sf11 _ S_a1).2
  refine GoH.st (T' := T11) (pc' := 47) (L' := #[.val (.ref a1), .val (.ref nm), .val (.ref vn), .val (.int r3), .val (.int r4), .val (.ref ds)]) (S' := [(.ref a11_), (.ref nm)]) st11 ?_
  obtain ⟨cq12, kq12, q12a, q12b, q12c⟩ := isOf hZ e11 E_nm
  obtain ⟨_, _, ⟨T12, L12, k12, n12⟩, -, X12, ⟨Lc12, hQ12, l12, y12, z12⟩, st12⟩ := X11.virtualBack hx (y := (⟨"java/lang/String", "equals", "(Ljava/lang/Object;)Z"⟩ : MethodName)) (z := (⟨"java/lang/String", "equals", "(Ljava/lang/Object;)Z"⟩ : MethodName)) hown (mvT hZ (hw _ (List.mem_of_getElem? (i := 117) rfl))) (mvT hZ (hw _ (List.mem_of_getElem? (i := 118) rfl))) (notFace_of_selects (args := #[]) (mvT hZ (hw _ (List.mem_of_getElem? (i := 120) rfl)))) (mvT hZ (hw _ (List.mem_of_getElem? (i := 120) rfl))) (mvT hZ (hw _ (List.mem_of_getElem? (i := 119) rfl))) (by decide) (backOf (W := 0) (rmeqs2_104_101_108_112 l Z a0 hw [] nm a11_ t1 b11_ _ _ gC (x0) (x1) h11 n0 Z0 SC PC O0 E_nm Fc_nm Fv_nm V_t1 E_a11_ Fc_a11_ Fv_a11_ V_b11_ trivial) hZ (hw _ (List.mem_of_getElem? (i := 121) rfl)) (hw _ (List.mem_of_getElem? (i := 2) rfl)) (by decide) (by decide)) q12a q12c (g := (mkF m 47 #[.val (.ref a1), .val (.ref nm), .val (.ref vn), .val (.int r3), .val (.int r4), .val (.ref ds)] [(.ref a11_), (.ref nm)])) rfl (by rw [hml]; rfl) (Steps.refl _) (argsL := [(.ref a11_)]) (rest := []) (lenOf pd_17 rfl) rfl (by show 2 * 0 + _ ≤ _; exact Nat.le_of_eq rfl) (hb hby d8_47) (fun _ _ => ⟨rfl, e11, (by decide : 10 + 0 ≤ _), (by decide : 104 + 0 ≤ _)⟩)
  dsimp only [Pt.U, Pt.locs, Pt.cells, Pt.slots] at X12 l12 y12 z12 st12 hQ12
  subst l12 y12 z12
  obtain ⟨rfl, N12q, e12⟩ := hQ12
  have N12 := Fr.app N10 N12q
  refine GoH.tr (T' := T12) (pc' := 50) (L' := #[.val (.ref a1), .val (.ref nm), .val (.ref vn), .val (.int r3), .val (.int r4), .val (.ref ds)]) (S' := [(.int (0 : Int32))]) st12 ?_
  refine GoH.st (T' := T12) (pc' := 67) (L' := #[.val (.ref a1), .val (.ref nm), .val (.ref vn), .val (.int r3), .val (.int r4), .val (.ref ds)]) (S' := []) (fun t_ k_ => XS.ifYes X12.here hx rfl (pc0 := 50) (pc' := 67) rfl (hb hby d8_50) rfl ((if0 _ _).trans (teq (by decide : ((0 : Int32) = (0 : Int32)))).1) (by decide) (by decide) k_) ?_
  refine GoH.st (T' := T12) (pc' := 68) (L' := #[.val (.ref a1), .val (.ref nm), .val (.ref vn), .val (.int r3), .val (.int r4), .val (.ref ds)]) (S' := [(.ref vn)]) (fun t_ k_ => XS.aloadN X12.here hx rfl (hb hby d8_67) rfl rfl  k_) ?_
  refine GoH.st (T' := T12) (pc' := 89) (L' := #[.val (.ref a1), .val (.ref nm), .val (.ref vn), .val (.int r3), .val (.int r4), .val (.ref ds)]) (S' := []) (fun t_ k_ => XS.ifnonnullYes X12.here hx rfl (pc0 := 68) (pc' := 89) rfl (hb hby d8_68) rfl (by decide) (by decide) k_) ?_
  refine GoH.st (T' := T12) (pc' := 90) (L' := #[.val (.ref a1), .val (.ref nm), .val (.ref vn), .val (.int r3), .val (.int r4), .val (.ref ds)]) (S' := [(.ref vn)]) (fun t_ k_ => XS.aloadN X12.here hx rfl (hb hby d8_89) rfl rfl  k_) ?_
  refine GoH.st (T' := T12) (pc' := 112) (L' := #[.val (.ref a1), .val (.ref nm), .val (.ref vn), .val (.int r3), .val (.int r4), .val (.ref ds)]) (S' := []) (fun t_ k_ => XS.ifnonnullYes X12.here hx rfl (pc0 := 90) (pc' := 112) rfl (hb hby d8_90) rfl (by decide) (by decide) k_) ?_
  refine GoH.st (T' := T12) (pc' := 113) (L' := #[.val (.ref a1), .val (.ref nm), .val (.ref vn), .val (.int r3), .val (.int r4), .val (.ref ds)]) (S' := [(.ref a1)]) (fun t_ k_ => XS.aloadN X12.here hx rfl (hb hby d8_112) rfl rfl  k_) ?_
  refine GoH.st (T' := T12) (pc' := 114) (L' := #[.val (.ref a1), .val (.ref nm), .val (.ref vn), .val (.int r3), .val (.int r4), .val (.ref ds)]) (S' := [(.ref nm), (.ref a1)]) (fun t_ k_ => XS.aloadN X12.here hx rfl (hb hby d8_113) rfl rfl  k_) ?_
  obtain ⟨T13, h13, X13, e13, W13, st13⟩ := putF X12 hx hZ hown (host := "") (Or.inl (hw _ (List.mem_of_getElem? (i := 125) rfl))) Via.refl e12 F_name E_a1 (Or.inr ⟨(hw _ (List.mem_of_getElem? (i := 126) rfl)), rfl, hnm⟩) (hw _ (List.mem_of_getElem? (i := 38) rfl)) (ty := (.object "java/lang/String")) (by decide) rfl rfl (g := (mkF m 114 #[.val (.ref a1), .val (.ref nm), .val (.ref vn), .val (.int r3), .val (.int r4), .val (.ref ds)] [(.ref nm), (.ref a1)])) rfl rfl (hb hby d8_114)
  have Sw14 : Safe Z EL T11.vm h11 a1 := S_a1
  replace S_a1 := Safe.wr W13 Sw14 CR.1 S_a1
  replace CR := CR.trans (CHr.wr W13 Sw14 CR.1)
  replace hk := Nat.le_trans hk (Keep.of_wr W13).1
  replace Z0 := Nat.le_trans Z0 (Keep.of_wr W13).1
  replace K0 := K0.wr W13 (Or.inl (List.mem_of_getElem? (i := 0) rfl))
  replace E_a1 := E_a1.wr W13
  replace O0 := O0.wr W13 g_a1
  replace F_valueName := F_valueName.other W13 (Or.inr (slot_ne (Or.inr (hw _ (List.mem_of_getElem? (i := 128) rfl))) (Or.inr (hw _ (List.mem_of_getElem? (i := 126) rfl))) (by decide) (t := (.object "java/lang/String")) (t' := (.object "java/lang/String")) (by decide) (by decide)))
  replace F_required := F_required.other W13 (Or.inr (slot_ne (Or.inr (hw _ (List.mem_of_getElem? (i := 130) rfl))) (Or.inr (hw _ (List.mem_of_getElem? (i := 126) rfl))) (by decide) (t := .boolean) (t' := (.object "java/lang/String")) (by decide) (by decide)))
  replace F_repeated := F_repeated.other W13 (Or.inr (slot_ne (Or.inr (hw _ (List.mem_of_getElem? (i := 132) rfl))) (Or.inr (hw _ (List.mem_of_getElem? (i := 126) rfl))) (by decide) (t := .boolean) (t' := (.object "java/lang/String")) (by decide) (by decide)))
  replace F_description := F_description.other W13 (Or.inr (slot_ne (Or.inr (hw _ (List.mem_of_getElem? (i := 134) rfl))) (Or.inr (hw _ (List.mem_of_getElem? (i := 126) rfl))) (by decide) (t := (.object "java/lang/String")) (t' := (.object "java/lang/String")) (by decide) (by decide)))
  replace E_nm := E_nm.wr W13
  replace Fc_nm := Fc_nm.other W13 (Or.inl (Ne.symm ne_a1_nm))
  replace Fv_nm := Fv_nm.other W13 (Or.inl (Ne.symm ne_a1_nm))
  replace V_t1 := V_t1.other W13 (Ne.symm net)
  replace E_a7_ := E_a7_.wr W13
  replace Fc_a7_ := Fc_a7_.other W13 (Or.inl (Ne.symm ne_a1_a7_))
  replace Fv_a7_ := Fv_a7_.other W13 (Or.inl (Ne.symm ne_a1_a7_))
  replace V_b7_ := V_b7_.other W13 (Ne.symm ne_a1_b7_)
  replace E_a9_ := E_a9_.wr W13
  replace Fc_a9_ := Fc_a9_.other W13 (Or.inl (Ne.symm ne_a1_a9_))
  replace Fv_a9_ := Fv_a9_.other W13 (Or.inl (Ne.symm ne_a1_a9_))
  replace V_b9_ := V_b9_.other W13 (Ne.symm ne_a1_b9_)
  replace E_a11_ := E_a11_.wr W13
  replace Fc_a11_ := Fc_a11_.other W13 (Or.inl (Ne.symm ne_a1_a11_))
  replace Fv_a11_ := Fv_a11_.other W13 (Or.inl (Ne.symm ne_a1_a11_))
  replace V_b11_ := V_b11_.other W13 (Ne.symm ne_a1_b11_)
  replace F_name := F_name.same W13
  have N13 := Fr.snoc X13 N12 g_a1
  refine GoH.st (T' := T13) (pc' := 117) (L' := #[.val (.ref a1), .val (.ref nm), .val (.ref vn), .val (.int r3), .val (.int r4), .val (.ref ds)]) (S' := []) st13 ?_
  refine GoH.st (T' := T13) (pc' := 118) (L' := #[.val (.ref a1), .val (.ref nm), .val (.ref vn), .val (.int r3), .val (.int r4), .val (.ref ds)]) (S' := [(.ref a1)]) (fun t_ k_ => XS.aloadN X13.here hx rfl (hb hby d8_117) rfl rfl  k_) ?_
  refine GoH.st (T' := T13) (pc' := 119) (L' := #[.val (.ref a1), .val (.ref nm), .val (.ref vn), .val (.int r3), .val (.int r4), .val (.ref ds)]) (S' := [(.ref vn), (.ref a1)]) (fun t_ k_ => XS.aloadN X13.here hx rfl (hb hby d8_118) rfl rfl  k_) ?_
  obtain ⟨T15, h15, X15, e15, W15, st15⟩ := putF X13 hx hZ hown (host := "") (Or.inl (hw _ (List.mem_of_getElem? (i := 127) rfl))) Via.refl e13 F_valueName E_a1 (Or.inr ⟨(hw _ (List.mem_of_getElem? (i := 128) rfl)), rfl, hnm⟩) (hw _ (List.mem_of_getElem? (i := 38) rfl)) (ty := (.object "java/lang/String")) (by decide) rfl rfl (g := (mkF m 119 #[.val (.ref a1), .val (.ref nm), .val (.ref vn), .val (.int r3), .val (.int r4), .val (.ref ds)] [(.ref vn), (.ref a1)])) rfl rfl (hb hby d8_119)
  have Sw16 : Safe Z EL T11.vm h13 a1 := S_a1
  replace S_a1 := Safe.wr W15 Sw16 CR.1 S_a1
  replace CR := CR.trans (CHr.wr W15 Sw16 CR.1)
  replace hk := Nat.le_trans hk (Keep.of_wr W15).1
  replace Z0 := Nat.le_trans Z0 (Keep.of_wr W15).1
  replace K0 := K0.wr W15 (Or.inl (List.mem_of_getElem? (i := 0) rfl))
  replace E_a1 := E_a1.wr W15
  replace O0 := O0.wr W15 g_a1
  replace F_name := F_name.other W15 (Or.inr (slot_ne (Or.inr (hw _ (List.mem_of_getElem? (i := 126) rfl))) (Or.inr (hw _ (List.mem_of_getElem? (i := 128) rfl))) (by decide) (t := (.object "java/lang/String")) (t' := (.object "java/lang/String")) (by decide) (by decide)))
  replace F_required := F_required.other W15 (Or.inr (slot_ne (Or.inr (hw _ (List.mem_of_getElem? (i := 130) rfl))) (Or.inr (hw _ (List.mem_of_getElem? (i := 128) rfl))) (by decide) (t := .boolean) (t' := (.object "java/lang/String")) (by decide) (by decide)))
  replace F_repeated := F_repeated.other W15 (Or.inr (slot_ne (Or.inr (hw _ (List.mem_of_getElem? (i := 132) rfl))) (Or.inr (hw _ (List.mem_of_getElem? (i := 128) rfl))) (by decide) (t := .boolean) (t' := (.object "java/lang/String")) (by decide) (by decide)))
  replace F_description := F_description.other W15 (Or.inr (slot_ne (Or.inr (hw _ (List.mem_of_getElem? (i := 134) rfl))) (Or.inr (hw _ (List.mem_of_getElem? (i := 128) rfl))) (by decide) (t := (.object "java/lang/String")) (t' := (.object "java/lang/String")) (by decide) (by decide)))
  replace E_nm := E_nm.wr W15
  replace Fc_nm := Fc_nm.other W15 (Or.inl (Ne.symm ne_a1_nm))
  replace Fv_nm := Fv_nm.other W15 (Or.inl (Ne.symm ne_a1_nm))
  replace V_t1 := V_t1.other W15 (Ne.symm net)
  replace E_a7_ := E_a7_.wr W15
  replace Fc_a7_ := Fc_a7_.other W15 (Or.inl (Ne.symm ne_a1_a7_))
  replace Fv_a7_ := Fv_a7_.other W15 (Or.inl (Ne.symm ne_a1_a7_))
  replace V_b7_ := V_b7_.other W15 (Ne.symm ne_a1_b7_)
  replace E_a9_ := E_a9_.wr W15
  replace Fc_a9_ := Fc_a9_.other W15 (Or.inl (Ne.symm ne_a1_a9_))
  replace Fv_a9_ := Fv_a9_.other W15 (Or.inl (Ne.symm ne_a1_a9_))
  replace V_b9_ := V_b9_.other W15 (Ne.symm ne_a1_b9_)
  replace E_a11_ := E_a11_.wr W15
  replace Fc_a11_ := Fc_a11_.other W15 (Or.inl (Ne.symm ne_a1_a11_))
  replace Fv_a11_ := Fv_a11_.other W15 (Or.inl (Ne.symm ne_a1_a11_))
  replace V_b11_ := V_b11_.other W15 (Ne.symm ne_a1_b11_)
  replace F_valueName := F_valueName.same W15
  have N15 := Fr.snoc X15 N13 g_a1
  refine GoH.st (T' := T15) (pc' := 122) (L' := #[.val (.ref a1), .val (.ref nm), .val (.ref vn), .val (.int r3), .val (.int r4), .val (.ref ds)]) (S' := []) st15 ?_
  refine GoH.st (T' := T15) (pc' := 123) (L' := #[.val (.ref a1), .val (.ref nm), .val (.ref vn), .val (.int r3), .val (.int r4), .val (.ref ds)]) (S' := [(.ref a1)]) (fun t_ k_ => XS.aloadN X15.here hx rfl (hb hby d8_122) rfl rfl  k_) ?_
  refine GoH.st (T' := T15) (pc' := 124) (L' := #[.val (.ref a1), .val (.ref nm), .val (.ref vn), .val (.int r3), .val (.int r4), .val (.ref ds)]) (S' := [(.int r3), (.ref a1)]) (fun t_ k_ => XS.iloadN X15.here hx rfl (hb hby d8_123) rfl  k_) ?_
  obtain ⟨T17, h17, X17, e17, W17, st17⟩ := putFN X15 hx hZ hown (hw _ (List.mem_of_getElem? (i := 129) rfl)) Via.refl e15 F_required E_a1 (Or.inr ⟨(hw _ (List.mem_of_getElem? (i := 130) rfl)), rfl, hnm⟩) (hw _ (List.mem_of_getElem? (i := 38) rfl)) (ty := .boolean) (v' := (.int (nar .boolean r3))) (by decide) rfl (fits_nar_bool _) (g := (mkF m 124 #[.val (.ref a1), .val (.ref nm), .val (.ref vn), .val (.int r3), .val (.int r4), .val (.ref ds)] [(.int r3), (.ref a1)])) rfl rfl (hb hby d8_124)
  have Sw18 : Safe Z EL T11.vm h15 a1 := S_a1
  replace S_a1 := Safe.wr W17 Sw18 CR.1 S_a1
  replace CR := CR.trans (CHr.wr W17 Sw18 CR.1)
  replace hk := Nat.le_trans hk (Keep.of_wr W17).1
  replace Z0 := Nat.le_trans Z0 (Keep.of_wr W17).1
  replace K0 := K0.wr W17 (Or.inl (List.mem_of_getElem? (i := 0) rfl))
  replace E_a1 := E_a1.wr W17
  replace O0 := O0.wr W17 g_a1
  replace F_name := F_name.other W17 (Or.inr (slot_ne (Or.inr (hw _ (List.mem_of_getElem? (i := 126) rfl))) (Or.inr (hw _ (List.mem_of_getElem? (i := 130) rfl))) (by decide) (t := (.object "java/lang/String")) (t' := .boolean) (by decide) (by decide)))
  replace F_valueName := F_valueName.other W17 (Or.inr (slot_ne (Or.inr (hw _ (List.mem_of_getElem? (i := 128) rfl))) (Or.inr (hw _ (List.mem_of_getElem? (i := 130) rfl))) (by decide) (t := (.object "java/lang/String")) (t' := .boolean) (by decide) (by decide)))
  replace F_repeated := F_repeated.other W17 (Or.inr (slot_ne (Or.inr (hw _ (List.mem_of_getElem? (i := 132) rfl))) (Or.inr (hw _ (List.mem_of_getElem? (i := 130) rfl))) (by decide) (t := .boolean) (t' := .boolean) (by decide) (by decide)))
  replace F_description := F_description.other W17 (Or.inr (slot_ne (Or.inr (hw _ (List.mem_of_getElem? (i := 134) rfl))) (Or.inr (hw _ (List.mem_of_getElem? (i := 130) rfl))) (by decide) (t := (.object "java/lang/String")) (t' := .boolean) (by decide) (by decide)))
  replace E_nm := E_nm.wr W17
  replace Fc_nm := Fc_nm.other W17 (Or.inl (Ne.symm ne_a1_nm))
  replace Fv_nm := Fv_nm.other W17 (Or.inl (Ne.symm ne_a1_nm))
  replace V_t1 := V_t1.other W17 (Ne.symm net)
  replace E_a7_ := E_a7_.wr W17
  replace Fc_a7_ := Fc_a7_.other W17 (Or.inl (Ne.symm ne_a1_a7_))
  replace Fv_a7_ := Fv_a7_.other W17 (Or.inl (Ne.symm ne_a1_a7_))
  replace V_b7_ := V_b7_.other W17 (Ne.symm ne_a1_b7_)
  replace E_a9_ := E_a9_.wr W17
  replace Fc_a9_ := Fc_a9_.other W17 (Or.inl (Ne.symm ne_a1_a9_))
  replace Fv_a9_ := Fv_a9_.other W17 (Or.inl (Ne.symm ne_a1_a9_))
  replace V_b9_ := V_b9_.other W17 (Ne.symm ne_a1_b9_)
  replace E_a11_ := E_a11_.wr W17
  replace Fc_a11_ := Fc_a11_.other W17 (Or.inl (Ne.symm ne_a1_a11_))
  replace Fv_a11_ := Fv_a11_.other W17 (Or.inl (Ne.symm ne_a1_a11_))
  replace V_b11_ := V_b11_.other W17 (Ne.symm ne_a1_b11_)
  replace F_required := F_required.same W17
  have N17 := Fr.snoc X17 N15 g_a1
  refine GoH.st (T' := T17) (pc' := 127) (L' := #[.val (.ref a1), .val (.ref nm), .val (.ref vn), .val (.int r3), .val (.int r4), .val (.ref ds)]) (S' := []) st17 ?_
  refine GoH.st (T' := T17) (pc' := 128) (L' := #[.val (.ref a1), .val (.ref nm), .val (.ref vn), .val (.int r3), .val (.int r4), .val (.ref ds)]) (S' := [(.ref a1)]) (fun t_ k_ => XS.aloadN X17.here hx rfl (hb hby d8_127) rfl rfl  k_) ?_
  refine GoH.st (T' := T17) (pc' := 130) (L' := #[.val (.ref a1), .val (.ref nm), .val (.ref vn), .val (.int r3), .val (.int r4), .val (.ref ds)]) (S' := [(.int r4), (.ref a1)]) (fun t_ k_ => XS.iload X17.here hx rfl (hb hby d8_128) rfl  k_) ?_
  obtain ⟨T19, h19, X19, e19, W19, st19⟩ := putFN X17 hx hZ hown (hw _ (List.mem_of_getElem? (i := 131) rfl)) Via.refl e17 F_repeated E_a1 (Or.inr ⟨(hw _ (List.mem_of_getElem? (i := 132) rfl)), rfl, hnm⟩) (hw _ (List.mem_of_getElem? (i := 38) rfl)) (ty := .boolean) (v' := (.int (nar .boolean r4))) (by decide) rfl (fits_nar_bool _) (g := (mkF m 130 #[.val (.ref a1), .val (.ref nm), .val (.ref vn), .val (.int r3), .val (.int r4), .val (.ref ds)] [(.int r4), (.ref a1)])) rfl rfl (hb hby d8_130)
  have Sw20 : Safe Z EL T11.vm h17 a1 := S_a1
  replace S_a1 := Safe.wr W19 Sw20 CR.1 S_a1
  replace CR := CR.trans (CHr.wr W19 Sw20 CR.1)
  replace hk := Nat.le_trans hk (Keep.of_wr W19).1
  replace Z0 := Nat.le_trans Z0 (Keep.of_wr W19).1
  replace K0 := K0.wr W19 (Or.inl (List.mem_of_getElem? (i := 0) rfl))
  replace E_a1 := E_a1.wr W19
  replace O0 := O0.wr W19 g_a1
  replace F_name := F_name.other W19 (Or.inr (slot_ne (Or.inr (hw _ (List.mem_of_getElem? (i := 126) rfl))) (Or.inr (hw _ (List.mem_of_getElem? (i := 132) rfl))) (by decide) (t := (.object "java/lang/String")) (t' := .boolean) (by decide) (by decide)))
  replace F_valueName := F_valueName.other W19 (Or.inr (slot_ne (Or.inr (hw _ (List.mem_of_getElem? (i := 128) rfl))) (Or.inr (hw _ (List.mem_of_getElem? (i := 132) rfl))) (by decide) (t := (.object "java/lang/String")) (t' := .boolean) (by decide) (by decide)))
  replace F_required := F_required.other W19 (Or.inr (slot_ne (Or.inr (hw _ (List.mem_of_getElem? (i := 130) rfl))) (Or.inr (hw _ (List.mem_of_getElem? (i := 132) rfl))) (by decide) (t := .boolean) (t' := .boolean) (by decide) (by decide)))
  replace F_description := F_description.other W19 (Or.inr (slot_ne (Or.inr (hw _ (List.mem_of_getElem? (i := 134) rfl))) (Or.inr (hw _ (List.mem_of_getElem? (i := 132) rfl))) (by decide) (t := (.object "java/lang/String")) (t' := .boolean) (by decide) (by decide)))
  replace E_nm := E_nm.wr W19
  replace Fc_nm := Fc_nm.other W19 (Or.inl (Ne.symm ne_a1_nm))
  replace Fv_nm := Fv_nm.other W19 (Or.inl (Ne.symm ne_a1_nm))
  replace V_t1 := V_t1.other W19 (Ne.symm net)
  replace E_a7_ := E_a7_.wr W19
  replace Fc_a7_ := Fc_a7_.other W19 (Or.inl (Ne.symm ne_a1_a7_))
  replace Fv_a7_ := Fv_a7_.other W19 (Or.inl (Ne.symm ne_a1_a7_))
  replace V_b7_ := V_b7_.other W19 (Ne.symm ne_a1_b7_)
  replace E_a9_ := E_a9_.wr W19
  replace Fc_a9_ := Fc_a9_.other W19 (Or.inl (Ne.symm ne_a1_a9_))
  replace Fv_a9_ := Fv_a9_.other W19 (Or.inl (Ne.symm ne_a1_a9_))
  replace V_b9_ := V_b9_.other W19 (Ne.symm ne_a1_b9_)
  replace E_a11_ := E_a11_.wr W19
  replace Fc_a11_ := Fc_a11_.other W19 (Or.inl (Ne.symm ne_a1_a11_))
  replace Fv_a11_ := Fv_a11_.other W19 (Or.inl (Ne.symm ne_a1_a11_))
  replace V_b11_ := V_b11_.other W19 (Ne.symm ne_a1_b11_)
  replace F_repeated := F_repeated.same W19
  have N19 := Fr.snoc X19 N17 g_a1
  refine GoH.st (T' := T19) (pc' := 133) (L' := #[.val (.ref a1), .val (.ref nm), .val (.ref vn), .val (.int r3), .val (.int r4), .val (.ref ds)]) (S' := []) st19 ?_
  refine GoH.st (T' := T19) (pc' := 134) (L' := #[.val (.ref a1), .val (.ref nm), .val (.ref vn), .val (.int r3), .val (.int r4), .val (.ref ds)]) (S' := [(.ref a1)]) (fun t_ k_ => XS.aloadN X19.here hx rfl (hb hby d8_133) rfl rfl  k_) ?_
  refine GoH.st (T' := T19) (pc' := 136) (L' := #[.val (.ref a1), .val (.ref nm), .val (.ref vn), .val (.int r3), .val (.int r4), .val (.ref ds)]) (S' := [(.ref ds), (.ref a1)]) (fun t_ k_ => XS.aload X19.here hx rfl (hb hby d8_134) rfl rfl  k_) ?_
  obtain ⟨T21, h21, X21, e21, W21, st21⟩ := putF X19 hx hZ hown (host := "") (Or.inl (hw _ (List.mem_of_getElem? (i := 133) rfl))) Via.refl e19 F_description E_a1 (Or.inr ⟨(hw _ (List.mem_of_getElem? (i := 134) rfl)), rfl, hnm⟩) (hw _ (List.mem_of_getElem? (i := 38) rfl)) (ty := (.object "java/lang/String")) (by decide) rfl rfl (g := (mkF m 136 #[.val (.ref a1), .val (.ref nm), .val (.ref vn), .val (.int r3), .val (.int r4), .val (.ref ds)] [(.ref ds), (.ref a1)])) rfl rfl (hb hby d8_136)
  have Sw22 : Safe Z EL T11.vm h19 a1 := S_a1
  replace S_a1 := Safe.wr W21 Sw22 CR.1 S_a1
  replace CR := CR.trans (CHr.wr W21 Sw22 CR.1)
  replace hk := Nat.le_trans hk (Keep.of_wr W21).1
  replace Z0 := Nat.le_trans Z0 (Keep.of_wr W21).1
  replace K0 := K0.wr W21 (Or.inl (List.mem_of_getElem? (i := 0) rfl))
  replace E_a1 := E_a1.wr W21
  replace O0 := O0.wr W21 g_a1
  replace F_name := F_name.other W21 (Or.inr (slot_ne (Or.inr (hw _ (List.mem_of_getElem? (i := 126) rfl))) (Or.inr (hw _ (List.mem_of_getElem? (i := 134) rfl))) (by decide) (t := (.object "java/lang/String")) (t' := (.object "java/lang/String")) (by decide) (by decide)))
  replace F_valueName := F_valueName.other W21 (Or.inr (slot_ne (Or.inr (hw _ (List.mem_of_getElem? (i := 128) rfl))) (Or.inr (hw _ (List.mem_of_getElem? (i := 134) rfl))) (by decide) (t := (.object "java/lang/String")) (t' := (.object "java/lang/String")) (by decide) (by decide)))
  replace F_required := F_required.other W21 (Or.inr (slot_ne (Or.inr (hw _ (List.mem_of_getElem? (i := 130) rfl))) (Or.inr (hw _ (List.mem_of_getElem? (i := 134) rfl))) (by decide) (t := .boolean) (t' := (.object "java/lang/String")) (by decide) (by decide)))
  replace F_repeated := F_repeated.other W21 (Or.inr (slot_ne (Or.inr (hw _ (List.mem_of_getElem? (i := 132) rfl))) (Or.inr (hw _ (List.mem_of_getElem? (i := 134) rfl))) (by decide) (t := .boolean) (t' := (.object "java/lang/String")) (by decide) (by decide)))
  replace E_nm := E_nm.wr W21
  replace Fc_nm := Fc_nm.other W21 (Or.inl (Ne.symm ne_a1_nm))
  replace Fv_nm := Fv_nm.other W21 (Or.inl (Ne.symm ne_a1_nm))
  replace V_t1 := V_t1.other W21 (Ne.symm net)
  replace E_a7_ := E_a7_.wr W21
  replace Fc_a7_ := Fc_a7_.other W21 (Or.inl (Ne.symm ne_a1_a7_))
  replace Fv_a7_ := Fv_a7_.other W21 (Or.inl (Ne.symm ne_a1_a7_))
  replace V_b7_ := V_b7_.other W21 (Ne.symm ne_a1_b7_)
  replace E_a9_ := E_a9_.wr W21
  replace Fc_a9_ := Fc_a9_.other W21 (Or.inl (Ne.symm ne_a1_a9_))
  replace Fv_a9_ := Fv_a9_.other W21 (Or.inl (Ne.symm ne_a1_a9_))
  replace V_b9_ := V_b9_.other W21 (Ne.symm ne_a1_b9_)
  replace E_a11_ := E_a11_.wr W21
  replace Fc_a11_ := Fc_a11_.other W21 (Or.inl (Ne.symm ne_a1_a11_))
  replace Fv_a11_ := Fv_a11_.other W21 (Or.inl (Ne.symm ne_a1_a11_))
  replace V_b11_ := V_b11_.other W21 (Ne.symm ne_a1_b11_)
  replace F_description := F_description.same W21
  have N21 := Fr.snoc X21 N19 g_a1
  refine GoH.st (T' := T21) (pc' := 139) (L' := #[.val (.ref a1), .val (.ref nm), .val (.ref vn), .val (.int r3), .val (.int r4), .val (.ref ds)]) (S' := []) st21 ?_
  exact GoH.retV X21 hx hlk hret (hb hby d8_139) (by decide) (by decide) hS hk e21 hs0 hZ (own_EW hw) CR (by rw [e21]; exact ⟨rfl, N21, K0, F_valueName⟩)
theorem d25_0 : decode prog_71_method_6_code 0 = .ok (.aload_n 0, 1) := by decide +kernel
theorem d25_1 : decode prog_71_method_6_code 1 = .ok (.getfield 57, 3) := by decide +kernel
theorem d25_4 : decode prog_71_method_6_code 4 = .ok (.ifnull 7, 3) := by decide +kernel
theorem d25_11 : decode prog_71_method_6_code 11 = .ok (.iconst 0, 1) := by decide +kernel
theorem d25_12 : decode prog_71_method_6_code 12 = .ok (.ireturn, 1) := by decide +kernel
def Qtvn (Z : State) (a1 : Addr) (h0 : Heap) (n0 : Nat) (v : Option Value) (h : Heap) (L : List Loc) : Prop := v = some (.int 0) ∧ Fr n0 L ∧ h = h0
def roomtvn : Room := { frames := 0, cells := 0, slots := 0, locals := 0 }
set_option maxRecDepth 65536 in
set_option maxHeartbeats 40000000 in
theorem rmtvn (l : Launch) (Z : State) (a0 : Array Value) (hw : ∀ d ∈ tables_1, d.before a0 Z = true) (ws : List Jvm.Cond) (a1 : Addr) (h0 : Heap) (n0 : Nat) (Z0 : n0 ≤ h0.size) (F1 : Fld Z h0 a1 "com/example/placewright/placewright/cli/Option" "valueName" "Ljava/lang/String;" .null) :
    MetFree l (⟨"com/example/placewright/placewright/cli/Option", "takesValue", "()Z"⟩ : MethodName) (head1 (Jvm.Cond.code (⟨"com/example/placewright/placewright/cli/Option", "takesValue", "()Z"⟩ : MethodName) prog_71_method_6_code 1 (some .boolean) :: ws) roomtvn) (fun aa_ U_ => aa_ = #[(.ref a1)] ∧ Z.Warmed39 U_.vm ∧ U_.heap = h0) (fun _ _ _ _ _ => True) (fun _ U_ o_ W_ => ∃ v_ L_, o_ = .returned v_ ∧ (Qtvn Z a1 h0 n0) v_ W_.heap L_ ∧ FrameEnd U_ o_ W_ L_ roomtvn.cells roomtvn.slots) := by
  refine own_met (Q := (Qtvn Z a1 h0 n0)) (L0 := #[.val (.ref a1)]) (plainFor_of_name pn_5) (fun m => by first | (simp [entryFrame, mkF, argsToLocals, Value.category]; done) | rfl) ?_
  intro p e s m below meth c T0 X0 hx hby hml hown hnm hret hlk hZ e0
  have N0 := Fr.nil n0
  refine Go.st (T' := T0) (pc' := 1) (L' := #[.val (.ref a1)]) (S' := [(.ref a1)]) (fun t_ k_ => XS.aloadN X0.here hx rfl (hb hby d25_0) rfl rfl  k_) ?_
  obtain ⟨T1, X1, e1, st1⟩ := getF X0 hx hZ hown (host := "") (Or.inl (hw _ (List.mem_of_getElem? (i := 127) rfl))) Via.refl e0 F1 (g := (mkF m 1 #[.val (.ref a1)] [(.ref a1)])) rfl rfl (hb hby d25_1)
  refine Go.st (T' := T1) (pc' := 4) (L' := #[.val (.ref a1)]) (S' := [.null]) st1 ?_
  refine Go.st (T' := T1) (pc' := 11) (L' := #[.val (.ref a1)]) (S' := []) (fun t_ k_ => XS.ifnullYes X1.here hx rfl (pc0 := 4) (pc' := 11) rfl (hb hby d25_4) rfl (by decide) (by decide) k_) ?_
  refine Go.st (T' := T1) (pc' := 12) (L' := #[.val (.ref a1)]) (S' := [(.int (0 : Int32))]) (fun t_ k_ => XS.iconst X1.here hx rfl (hb hby d25_11) k_) ?_
  exact Go.retN X1 hx hlk hret (by simp) (hb hby d25_12) (by decide) (by decide) (by rw [e1]; exact ⟨rfl, N0, rfl⟩)
theorem d25_7 : decode prog_71_method_6_code 7 = .ok (.iconst 1, 1) := by decide +kernel
theorem d25_8 : decode prog_71_method_6_code 8 = .ok (.goto 4, 3) := by decide +kernel
def Qtvv (Z : State) (a1 : Addr) (vn : Addr) (h0 : Heap) (n0 : Nat) (v : Option Value) (h : Heap) (L : List Loc) : Prop := v = some (.int 1) ∧ Fr n0 L ∧ h = h0
def roomtvv : Room := { frames := 0, cells := 0, slots := 0, locals := 0 }
set_option maxRecDepth 65536 in
set_option maxHeartbeats 40000000 in
theorem rmtvv (l : Launch) (Z : State) (a0 : Array Value) (hw : ∀ d ∈ tables_1, d.before a0 Z = true) (ws : List Jvm.Cond) (a1 : Addr) (vn : Addr) (h0 : Heap) (n0 : Nat) (Z0 : n0 ≤ h0.size) (F1 : Fld Z h0 a1 "com/example/placewright/placewright/cli/Option" "valueName" "Ljava/lang/String;" (.ref vn)) :
    MetFree l (⟨"com/example/placewright/placewright/cli/Option", "takesValue", "()Z"⟩ : MethodName) (head1 (Jvm.Cond.code (⟨"com/example/placewright/placewright/cli/Option", "takesValue", "()Z"⟩ : MethodName) prog_71_method_6_code 1 (some .boolean) :: ws) roomtvv) (fun aa_ U_ => aa_ = #[(.ref a1)] ∧ Z.Warmed39 U_.vm ∧ U_.heap = h0) (fun _ _ _ _ _ => True) (fun _ U_ o_ W_ => ∃ v_ L_, o_ = .returned v_ ∧ (Qtvv Z a1 vn h0 n0) v_ W_.heap L_ ∧ FrameEnd U_ o_ W_ L_ roomtvv.cells roomtvv.slots) := by
  refine own_met (Q := (Qtvv Z a1 vn h0 n0)) (L0 := #[.val (.ref a1)]) (plainFor_of_name pn_5) (fun m => by first | (simp [entryFrame, mkF, argsToLocals, Value.category]; done) | rfl) ?_
  intro p e s m below meth c T0 X0 hx hby hml hown hnm hret hlk hZ e0
  have N0 := Fr.nil n0
  refine Go.st (T' := T0) (pc' := 1) (L' := #[.val (.ref a1)]) (S' := [(.ref a1)]) (fun t_ k_ => XS.aloadN X0.here hx rfl (hb hby d25_0) rfl rfl  k_) ?_
  obtain ⟨T1, X1, e1, st1⟩ := getF X0 hx hZ hown (host := "") (Or.inl (hw _ (List.mem_of_getElem? (i := 127) rfl))) Via.refl e0 F1 (g := (mkF m 1 #[.val (.ref a1)] [(.ref a1)])) rfl rfl (hb hby d25_1)
  refine Go.st (T' := T1) (pc' := 4) (L' := #[.val (.ref a1)]) (S' := [(.ref vn)]) st1 ?_
  refine Go.st (T' := T1) (pc' := 7) (L' := #[.val (.ref a1)]) (S' := []) (fun t_ k_ => XS.ifnullNo X1.here hx rfl (hb hby d25_4) rfl k_) ?_
  refine Go.st (T' := T1) (pc' := 8) (L' := #[.val (.ref a1)]) (S' := [(.int (1 : Int32))]) (fun t_ k_ => XS.iconst X1.here hx rfl (hb hby d25_7) k_) ?_
  refine Go.st (T' := T1) (pc' := 12) (L' := #[.val (.ref a1)]) (S' := [(.int (1 : Int32))]) (fun t_ k_ => XS.goto X1.here hx rfl (pc0 := 8) (pc' := 12) rfl (hb hby d25_8) (by decide) (by decide) k_) ?_
  exact Go.retN X1 hx hlk hret (by simp) (hb hby d25_12) (by decide) (by decide) (by rw [e1]; exact ⟨rfl, N0, rfl⟩)
def Q0 (Z : State)  (h0 : Heap) (n0 : Nat) (v : Option Value) (h : Heap) (L : List Loc) : Prop := v = some (.int 1) ∧ Fr n0 L
theorem pd_18 : parseMethodDescriptor "(C)Ljava/lang/String;" = some ⟨[.char], some (.object "java/lang/String")⟩ := by decide +kernel
theorem pd_19 : parseMethodDescriptor "(Ljava/lang/String;Ljava/lang/String;ZZLjava/lang/String;)V" = some ⟨[(.object "java/lang/String"), (.object "java/lang/String"), .boolean, .boolean, (.object "java/lang/String")], none⟩ := by decide +kernel
theorem pn_6 : plainName "com/example/placewright/placewright/cli/OptionTakesValuePinLaw" = true := by first | (simp [plainName, overriddenIn]; done) | decide +kernel
set_option maxRecDepth 65536 in
set_option maxHeartbeats 40000000 in
theorem seg186_1_0 {p : Program} {l : Launch} {e : Env} {s : State} {m : MethodId} {args : Array Value} {below : List Frame} {meth : Method} {c : Code} {T0 : State} {locs : List Loc} {Z : State} {a0 : Array Value} {n0 k0 : Nat} {h0 hh : Heap} {vm0 : Vm} (p1 : Int32) (p2 : Int32) (p3 : Int32) (p4 : Int32) (p5 : Int32) (xa : Nat) (xb : Nat) (gC : Int32) (nm : Addr) (tn : Addr) (kn : ClassId)
    (X0 : Stand p l e room_1 (s.setVm vm0) m args below meth c T0 locs 9 60) (hx : p.tables.exec = Jvm.exec) (hZ : Z.Warmed39 (s.setVm vm0).vm) (hw : ∀ d ∈ tables_1, d.before a0 Z = true) (hby : c.code = code) (hml : c.maxLocals = 15) (hown : (s.setVm vm0).vm.findClass "com/example/placewright/placewright/cli/OptionTakesValuePinLaw" = some m.cls) (hnm : meth.name = "law") (hret : meth.sig.returnType = (some .boolean)) (hlk : meth.locks = false) (e0 : T0.heap = hh) (hs0 : s.heap = h0) (CR : CHr Z EL s.vm h0 vm0 hh) (hS : s.Since vm0 k0) (hk : k0 ≤ hh.size) (N0 : Fr n0 locs) (SC : Sta Z Z.heap "java/lang/String" "COMPACT_STRINGS" "Z" (.int gC)) (PC : ¬ (gC = (0 : Int32))) (O0 : Old Z n0 hh) (Z0 : n0 ≤ hh.size) (E_nm : Exa Z hh nm "java/lang/String") (Fc_nm : Fld Z hh nm "java/lang/String" "coder" "B" (.int (0 : Int32))) (Fv_nm : Fld Z hh nm "java/lang/String" "value" "[B" (.ref tn)) (V_tn : Arv Z hh tn kn .byte (1 : Int32) [(.int (((xa.toInt32).toInt8.toInt32).toInt8.toInt32))] (.int (0 : Int32))) (hxa : xa < 256) (hxb : xb < 256) (na1 : xa ≠ 45) (na2 : xa ≠ 61) (nb2 : xb ≠ 61) :
    GoH Z EL p e below s room_1.cells room_1.slots (Q0 Z h0 n0) m T0 186 #[.val (.int p1), .val (.int p2), .val (.int p3), .val (.int p4), .val (.int p5), .val (.int (xa.toInt32)), .val (.int (xb.toInt32)), .val (.int (0 : Int32)), .val (.ref nm), .val (.int (0 : Int32)), .val .null, .val (.int (0 : Int32)), .val (.int (0 : Int32)), .unset, .unset] [] := by
  refine GoH.st (T' := T0) (pc' := 188) (L' := #[.val (.int p1), .val (.int p2), .val (.int p3), .val (.int p4), .val (.int p5), .val (.int (xa.toInt32)), .val (.int (xb.toInt32)), .val (.int (0 : Int32)), .val (.ref nm), .val (.int (0 : Int32)), .val .null, .val (.int (0 : Int32)), .val (.int (0 : Int32)), .unset, .unset]) (S' := [(.int p5)]) (fun t_ k_ => XS.iload X0.here hx rfl (hb hby at_186) rfl  k_) ?_
  refine GoH.st (T' := T0) (pc' := 191) (L' := #[.val (.int p1), .val (.int p2), .val (.int p3), .val (.int p4), .val (.int p5), .val (.int (xa.toInt32)), .val (.int (xb.toInt32)), .val (.int (0 : Int32)), .val (.ref nm), .val (.int (0 : Int32)), .val .null, .val (.int (0 : Int32)), .val (.int (0 : Int32)), .unset, .unset]) (S' := [(.int (255 : Int32)), (.int p5)]) (fun t_ k_ => XS.sipush X0.here hx rfl (hb hby at_188) k_) ?_
  refine GoH.st (T' := T0) (pc' := 192) (L' := #[.val (.int p1), .val (.int p2), .val (.int p3), .val (.int p4), .val (.int p5), .val (.int (xa.toInt32)), .val (.int (xb.toInt32)), .val (.int (0 : Int32)), .val (.ref nm), .val (.int (0 : Int32)), .val .null, .val (.int (0 : Int32)), .val (.int (0 : Int32)), .unset, .unset]) (S' := [(.int (p5 &&& (255 : Int32)))]) (fun t_ k_ => XS.iand X0.here hx rfl (hb hby at_191) rfl k_) ?_
  refine GoH.st (T' := T0) (pc' := 193) (L' := #[.val (.int p1), .val (.int p2), .val (.int p3), .val (.int p4), .val (.int p5), .val (.int (xa.toInt32)), .val (.int (xb.toInt32)), .val (.int (0 : Int32)), .val (.ref nm), .val (.int (0 : Int32)), .val .null, .val (.int (0 : Int32)), .val (.int (0 : Int32)), .unset, .unset]) (S' := [(.int ((p5 &&& (255 : Int32)).toUInt32.toUInt16.toUInt32.toInt32))]) (fun t_ k_ => XS.i2c X0.here hx rfl (hb hby at_192) rfl k_) ?_
  obtain ⟨_, _, ⟨T1, L1, k1, n1⟩, -, X1, ⟨Lc1, hQ1, l1, y1, z1⟩, st1⟩ := Jvm.LawKit.callS X0 hx (y := (⟨"java/lang/String", "valueOf", "(C)Ljava/lang/String;"⟩ : MethodName)) hown (mvT hZ (hw _ (List.mem_of_getElem? (i := 0) rfl))) (mvT hZ (hw _ (List.mem_of_getElem? (i := 1) rfl))) (mvT hZ (hw _ (List.mem_of_getElem? (i := 2) rfl))) (mvT hZ (hw _ (List.mem_of_getElem? (i := 3) rfl))) (by decide) (backOf (W := 0) (rm1 l Z a0 hw [] ((p5 &&& (255 : Int32)).toUInt32.toUInt16.toUInt32.toInt32) gC hh n0 Z0 SC PC O0 (own_c255 _)) hZ (hw _ (List.mem_of_getElem? (i := 3) rfl)) (hw _ (List.mem_of_getElem? (i := 2) rfl)) (by decide) (by decide)) (g := (mkF m 193 #[.val (.int p1), .val (.int p2), .val (.int p3), .val (.int p4), .val (.int p5), .val (.int (xa.toInt32)), .val (.int (xb.toInt32)), .val (.int (0 : Int32)), .val (.ref nm), .val (.int (0 : Int32)), .val .null, .val (.int (0 : Int32)), .val (.int (0 : Int32)), .unset, .unset] [(.int ((p5 &&& (255 : Int32)).toUInt32.toUInt16.toUInt32.toInt32))])) rfl (by rw [hml]; rfl) (argsL := [(.int ((p5 &&& (255 : Int32)).toUInt32.toUInt16.toUInt32.toInt32))]) (rest := []) (lenOf pd_18 rfl) rfl (by show 2 * 0 + _ ≤ _; exact Nat.le_of_eq rfl) (hb hby at_193) (fun _ _ => ⟨rfl, e0, (by decide : 9 + 2 ≤ _), (by decide : 60 + 5 ≤ _)⟩)
  dsimp only [Pt.U, Pt.locs, Pt.cells, Pt.slots] at X1 l1 y1 z1 st1 hQ1
  subst l1 y1 z1
  obtain ⟨b1, t1, kb1, rfl, N1q, K1, g_b1, lt1, E_b1, Co1, Va1, V_t1⟩ := hQ1
  have N1 := Fr.app N0 N1q
  have ne_nm_b1 : nm ≠ b1 := Nat.ne_of_lt (Nat.lt_of_lt_of_le E_nm.lt lt1)
  have ne_tn_b1 : tn ≠ b1 := Nat.ne_of_lt (Nat.lt_of_lt_of_le V_tn.lt lt1)
  obtain ⟨h1, e1⟩ : ∃ z, T1.heap = z := ⟨_, rfl⟩
  rw [e1] at K1 E_b1 Co1 Va1 V_t1
  have Sk2 : ∀ x ∈ [], Safe Z EL vm0 hh x := all0
  replace CR := CR.trans (CHr.keep K1 Sk2 CR.1)
  replace hk := Nat.le_trans hk K1.1
  replace Z0 := Nat.le_trans Z0 K1.1
  replace O0 := O0.keep K1 all0
  replace E_nm := E_nm.keep K1
  replace Fc_nm := Fc_nm.keep K1 nin0
  replace Fv_nm := Fv_nm.keep K1 nin0
  replace V_tn := V_tn.keep K1 nin0
  refine GoH.st (T' := T1) (pc' := 196) (L' := #[.val (.int p1), .val (.int p2), .val (.int p3), .val (.int p4), .val (.int p5), .val (.int (xa.toInt32)), .val (.int (xb.toInt32)), .val (.int (0 : Int32)), .val (.ref nm), .val (.int (0 : Int32)), .val .null, .val (.int (0 : Int32)), .val (.int (0 : Int32)), .unset, .unset]) (S' := [(.ref b1)]) st1 ?_
  refine GoH.st (T' := T1) (pc' := 198) (L' := #[.val (.int p1), .val (.int p2), .val (.int p3), .val (.int p4), .val (.int p5), .val (.int (xa.toInt32)), .val (.int (xb.toInt32)), .val (.int (0 : Int32)), .val (.ref nm), .val (.int (0 : Int32)), .val .null, .val (.int (0 : Int32)), .val (.int (0 : Int32)), .val (.ref b1), .unset]) (S' := []) (fun t_ k_ => XS.astore X1.here hx rfl (hb hby at_196) rfl rfl (l' := #[.val (.int p1), .val (.int p2), .val (.int p3), .val (.int p4), .val (.int p5), .val (.int (xa.toInt32)), .val (.int (xb.toInt32)), .val (.int (0 : Int32)), .val (.ref nm), .val (.int (0 : Int32)), .val .null, .val (.int (0 : Int32)), .val (.int (0 : Int32)), .val (.ref b1), .unset]) rfl k_) ?_
  obtain ⟨T3, h3, X3, e3, E3, A3, D3, U3, st3⟩ := newO X1 hx hZ hown (hw _ (List.mem_of_getElem? (i := 37) rfl)) (hw _ (List.mem_of_getElem? (i := 38) rfl)) (hw _ (List.mem_of_getElem? (i := 39) rfl)) e1 (g := (mkF m 198 #[.val (.int p1), .val (.int p2), .val (.int p3), .val (.int p4), .val (.int p5), .val (.int (xa.toInt32)), .val (.int (xb.toInt32)), .val (.int (0 : Int32)), .val (.ref nm), .val (.int (0 : Int32)), .val .null, .val (.int (0 : Int32)), .val (.int (0 : Int32)), .val (.ref b1), .unset] [])) rfl (hb hby at_198) (by decide) (by decide)
  obtain ⟨b3, g3⟩ : ∃ z, z = h1.size := ⟨_, rfl⟩
  rw [← g3] at A3 D3 U3 st3
  have ne_nm_b3 : nm ≠ b3 := Nat.ne_of_lt (Nat.lt_of_lt_of_le E_nm.lt (Nat.le_of_eq g3.symm))
  have ne_tn_b3 : tn ≠ b3 := Nat.ne_of_lt (Nat.lt_of_lt_of_le V_tn.lt (Nat.le_of_eq g3.symm))
  have ne_b1_b3 : b1 ≠ b3 := Nat.ne_of_lt (Nat.lt_of_lt_of_le E_b1.lt (Nat.le_of_eq g3.symm))
  have g_b3 : n0 ≤ b3 := Nat.le_trans Z0 (Nat.le_of_eq g3.symm)
  replace CR := CR.trans (CHr.ext E3 CR.1)
  replace hk := Nat.le_trans hk E3.1
  replace Z0 := Nat.le_trans Z0 E3.1
  replace O0 := O0.ext E3
  replace E_nm := E_nm.ext E3
  replace Fc_nm := Fc_nm.ext E3
  replace Fv_nm := Fv_nm.ext E3
  replace V_tn := V_tn.ext E3
  replace E_b1 := E_b1.ext E3
  have E_b3 := A3
  have F_b3_name : Fld Z h3 b3 "com/example/placewright/placewright/cli/Option" "name" "Ljava/lang/String;" .null := D3 (Or.inr (hw _ (List.mem_of_getElem? (i := 126) rfl))) (ty := (.object "java/lang/String")) (by decide)
  have F_b3_valueName : Fld Z h3 b3 "com/example/placewright/placewright/cli/Option" "valueName" "Ljava/lang/String;" .null := D3 (Or.inr (hw _ (List.mem_of_getElem? (i := 128) rfl))) (ty := (.object "java/lang/String")) (by decide)
  have F_b3_required : Fld Z h3 b3 "com/example/placewright/placewright/cli/Option" "required" "Z" (.int (0 : Int32)) := D3 (Or.inr (hw _ (List.mem_of_getElem? (i := 130) rfl))) (ty := .boolean) (by decide)
  have F_b3_repeated : Fld Z h3 b3 "com/example/placewright/placewright/cli/Option" "repeated" "Z" (.int (0 : Int32)) := D3 (Or.inr (hw _ (List.mem_of_getElem? (i := 132) rfl))) (ty := .boolean) (by decide)
  have F_b3_description : Fld Z h3 b3 "com/example/placewright/placewright/cli/Option" "description" "Ljava/lang/String;" .null := D3 (Or.inr (hw _ (List.mem_of_getElem? (i := 134) rfl))) (ty := (.object "java/lang/String")) (by decide)
  refine GoH.st (T' := T3) (pc' := 201) (L' := #[.val (.int p1), .val (.int p2), .val (.int p3), .val (.int p4), .val (.int p5), .val (.int (xa.toInt32)), .val (.int (xb.toInt32)), .val (.int (0 : Int32)), .val (.ref nm), .val (.int (0 : Int32)), .val .null, .val (.int (0 : Int32)), .val (.int (0 : Int32)), .val (.ref b1), .unset]) (S' := [(.ref b3)]) st3 ?_
  refine GoH.st (T' := T3) (pc' := 202) (L' := #[.val (.int p1), .val (.int p2), .val (.int p3), .val (.int p4), .val (.int p5), .val (.int (xa.toInt32)), .val (.int (xb.toInt32)), .val (.int (0 : Int32)), .val (.ref nm), .val (.int (0 : Int32)), .val .null, .val (.int (0 : Int32)), .val (.int (0 : Int32)), .val (.ref b1), .unset]) (S' := [(.ref b3), (.ref b3)]) (fun t_ k_ => XS.dup X3.here hx rfl (hb hby at_201) rfl rfl k_) ?_
  refine GoH.st (T' := T3) (pc' := 204) (L' := #[.val (.int p1), .val (.int p2), .val (.int p3), .val (.int p4), .val (.int p5), .val (.int (xa.toInt32)), .val (.int (xb.toInt32)), .val (.int (0 : Int32)), .val (.ref nm), .val (.int (0 : Int32)), .val .null, .val (.int (0 : Int32)), .val (.int (0 : Int32)), .val (.ref b1), .unset]) (S' := [(.ref nm), (.ref b3), (.ref b3)]) (fun t_ k_ => XS.aload X3.here hx rfl (hb hby at_202) rfl rfl  k_) ?_
  refine GoH.st (T' := T3) (pc' := 206) (L' := #[.val (.int p1), .val (.int p2), .val (.int p3), .val (.int p4), .val (.int p5), .val (.int (xa.toInt32)), .val (.int (xb.toInt32)), .val (.int (0 : Int32)), .val (.ref nm), .val (.int (0 : Int32)), .val .null, .val (.int (0 : Int32)), .val (.int (0 : Int32)), .val (.ref b1), .unset]) (S' := [.null, (.ref nm), (.ref b3), (.ref b3)]) (fun t_ k_ => XS.aload X3.here hx rfl (hb hby at_204) rfl rfl  k_) ?_
  refine GoH.st (T' := T3) (pc' := 208) (L' := #[.val (.int p1), .val (.int p2), .val (.int p3), .val (.int p4), .val (.int p5), .val (.int (xa.toInt32)), .val (.int (xb.toInt32)), .val (.int (0 : Int32)), .val (.ref nm), .val (.int (0 : Int32)), .val .null, .val (.int (0 : Int32)), .val (.int (0 : Int32)), .val (.ref b1), .unset]) (S' := [(.int (0 : Int32)), .null, (.ref nm), (.ref b3), (.ref b3)]) (fun t_ k_ => XS.iload X3.here hx rfl (hb hby at_206) rfl  k_) ?_
  refine GoH.st (T' := T3) (pc' := 210) (L' := #[.val (.int p1), .val (.int p2), .val (.int p3), .val (.int p4), .val (.int p5), .val (.int (xa.toInt32)), .val (.int (xb.toInt32)), .val (.int (0 : Int32)), .val (.ref nm), .val (.int (0 : Int32)), .val .null, .val (.int (0 : Int32)), .val (.int (0 : Int32)), .val (.ref b1), .unset]) (S' := [(.int (0 : Int32)), (.int (0 : Int32)), .null, (.ref nm), (.ref b3), (.ref b3)]) (fun t_ k_ => XS.iload X3.here hx rfl (hb hby at_208) rfl  k_) ?_
  refine GoH.st (T' := T3) (pc' := 212) (L' := #[.val (.int p1), .val (.int p2), .val (.int p3), .val (.int p4), .val (.int p5), .val (.int (xa.toInt32)), .val (.int (xb.toInt32)), .val (.int (0 : Int32)), .val (.ref nm), .val (.int (0 : Int32)), .val .null, .val (.int (0 : Int32)), .val (.int (0 : Int32)), .val (.ref b1), .unset]) (S' := [(.ref b1), (.int (0 : Int32)), (.int (0 : Int32)), .null, (.ref nm), (.ref b3), (.ref b3)]) (fun t_ k_ => XS.aload X3.here hx rfl (hb hby at_210) rfl rfl  k_) ?_
  obtain ⟨_, _, ⟨T4, L4, k4, n4⟩, -, X4, hS4, hg4, ⟨Lc4, hQ4, l4, y4, z4, CR4⟩, st4⟩ := X3.specialBackS hx (y := (⟨"com/example/placewright/placewright/cli/Option", "<init>", "(Ljava/lang/String;Ljava/lang/String;ZZLjava/lang/String;)V"⟩ : MethodName)) rfl hown (mvT hZ (hw _ (List.mem_of_getElem? (i := 40) rfl))) (mvT hZ (hw _ (List.mem_of_getElem? (i := 41) rfl))) (mvT hZ (hw _ (List.mem_of_getElem? (i := 42) rfl))) (by decide) (backOfSH (W := 1) (rmop1n l Z a0 hw [] b3 nm tn _ b1 gC  ((((xa.toInt32).toInt8.toInt32).toInt8.toInt32)) h3 n0 Z0 SC PC O0 E_b3 g_b3 (Ne.symm ne_tn_b3) F_b3_name F_b3_valueName F_b3_required F_b3_repeated F_b3_description E_nm Fc_nm Fv_nm V_tn (((own_byf ⟨xa, hxa⟩).2.2.1 na1).2) (((own_byf ⟨xa, hxa⟩).2.2.2 na2).2)) hZ (hw _ (List.mem_of_getElem? (i := 42) rfl)) (hw _ (List.mem_of_getElem? (i := 39) rfl)) (by decide) (by decide) (own_EW hw) CR.1) (g := (mkF m 212 #[.val (.int p1), .val (.int p2), .val (.int p3), .val (.int p4), .val (.int p5), .val (.int (xa.toInt32)), .val (.int (xb.toInt32)), .val (.int (0 : Int32)), .val (.ref nm), .val (.int (0 : Int32)), .val .null, .val (.int (0 : Int32)), .val (.int (0 : Int32)), .val (.ref b1), .unset] [(.ref b1), (.int (0 : Int32)), (.int (0 : Int32)), .null, (.ref nm), (.ref b3), (.ref b3)])) rfl (by rw [hml]; rfl) (Steps.refl _) (a := b3) (argsL := [(.ref nm), .null, (.int (0 : Int32)), (.int (0 : Int32)), (.ref b1)]) (rest := [(.ref b3)]) (lenOf pd_19 rfl) rfl (by show 2 * 0 + _ ≤ _; exact Nat.le_of_eq rfl) (hb hby at_212) (fun _ _ => ⟨rfl, e3, (by decide : 12 + 10 ≤ _), (by decide : 70 + 104 ≤ _)⟩)
  dsimp only [Pt.U, Pt.locs, Pt.cells, Pt.slots] at X4 l4 y4 z4 st4 hQ4 hS4 hg4 CR4
  subst l4 y4 z4
  replace X4 : Stand p l e _ (s.setVm T4.vm) m _ below meth c T4 _ _ _ := X4
  replace hS := foldS hS (T := T3) (Nat.le_trans hk (Nat.le_of_eq (congrArg Array.size e3.symm))) hS4 hg4
  replace hk := Nat.le_refl T4.heap.size
  replace hZ : Z.Warmed39 (s.setVm T4.vm).vm := State.Warmed39.trans (t := s.setVm vm0) hZ hS4.1
  replace hown : (s.setVm T4.vm).vm.findClass "com/example/placewright/placewright/cli/OptionTakesValuePinLaw" = some m.cls := by rw [show (s.setVm T4.vm).vm = T4.vm from rfl, hS4.1.alike.findClass]; exact hown
  obtain ⟨rfl, N4q, K4, Fvn4⟩ := hQ4
  have N4 := Fr.app N1 N4q
  obtain ⟨h4, e4⟩ : ∃ z, T4.heap = z := ⟨_, rfl⟩
  rw [e4] at K4 Fvn4 CR4
  replace CR := CR.trans CR4
  replace Z0 := Nat.le_trans Z0 K4.1
  replace O0 := O0.keep K4 (allS g_b3 all0)
  replace E_nm := E_nm.keep K4
  replace Fc_nm := Fc_nm.keep K4 (ninS ne_nm_b3 nin0)
  replace Fv_nm := Fv_nm.keep K4 (ninS ne_nm_b3 nin0)
  replace V_tn := V_tn.keep K4 (ninS ne_tn_b3 nin0)
  replace E_b1 := E_b1.keep K4
  replace E_b3 := E_b3.keep K4
  replace hk : T4.heap.size ≤ h4.size := Nat.le_of_eq (congrArg Array.size e4)
  refine GoH.tr (T' := T4) (pc' := 215) (L' := #[.val (.int p1), .val (.int p2), .val (.int p3), .val (.int p4), .val (.int p5), .val (.int (xa.toInt32)), .val (.int (xb.toInt32)), .val (.int (0 : Int32)), .val (.ref nm), .val (.int (0 : Int32)), .val .null, .val (.int (0 : Int32)), .val (.int (0 : Int32)), .val (.ref b1), .unset]) (S' := [(.ref b3)]) st4 ?_
  refine GoH.st (T' := T4) (pc' := 217) (L' := #[.val (.int p1), .val (.int p2), .val (.int p3), .val (.int p4), .val (.int p5), .val (.int (xa.toInt32)), .val (.int (xb.toInt32)), .val (.int (0 : Int32)), .val (.ref nm), .val (.int (0 : Int32)), .val .null, .val (.int (0 : Int32)), .val (.int (0 : Int32)), .val (.ref b1), .val (.ref b3)]) (S' := []) (fun t_ k_ => XS.astore X4.here hx rfl (hb hby at_215) rfl rfl (l' := #[.val (.int p1), .val (.int p2), .val (.int p3), .val (.int p4), .val (.int p5), .val (.int (xa.toInt32)), .val (.int (xb.toInt32)), .val (.int (0 : Int32)), .val (.ref nm), .val (.int (0 : Int32)), .val .null, .val (.int (0 : Int32)), .val (.int (0 : Int32)), .val (.ref b1), .val (.ref b3)]) rfl k_) ?_
  refine GoH.st (T' := T4) (pc' := 219) (L' := #[.val (.int p1), .val (.int p2), .val (.int p3), .val (.int p4), .val (.int p5), .val (.int (xa.toInt32)), .val (.int (xb.toInt32)), .val (.int (0 : Int32)), .val (.ref nm), .val (.int (0 : Int32)), .val .null, .val (.int (0 : Int32)), .val (.int (0 : Int32)), .val (.ref b1), .val (.ref b3)]) (S' := [(.ref b3)]) (fun t_ k_ => XS.aload X4.here hx rfl (hb hby at_217) rfl rfl  k_) ?_
  obtain ⟨cq6, kq6, q6a, q6b, q6c⟩ := isOf hZ e4 E_b3
  obtain ⟨_, _, ⟨T6, L6, k6, n6⟩, -, X6, ⟨Lc6, hQ6, l6, y6, z6⟩, st6⟩ := X4.virtualBack hx (y := (⟨"com/example/placewright/placewright/cli/Option", "takesValue", "()Z"⟩ : MethodName)) (z := (⟨"com/example/placewright/placewright/cli/Option", "takesValue", "()Z"⟩ : MethodName)) hown (mvT hZ (hw _ (List.mem_of_getElem? (i := 135) rfl))) (mvT hZ (hw _ (List.mem_of_getElem? (i := 136) rfl))) (notFace_of_selects (args := #[]) (mvT hZ (hw _ (List.mem_of_getElem? (i := 138) rfl)))) (mvT hZ (hw _ (List.mem_of_getElem? (i := 138) rfl))) (mvT hZ (hw _ (List.mem_of_getElem? (i := 137) rfl))) (by decide) (backOf (W := 0) (rmtvn l Z a0 hw [] b3 h4 n0 Z0 Fvn4) hZ (hw _ (List.mem_of_getElem? (i := 139) rfl)) (hw _ (List.mem_of_getElem? (i := 39) rfl)) (by decide) (by decide)) q6a q6c (g := (mkF m 219 #[.val (.int p1), .val (.int p2), .val (.int p3), .val (.int p4), .val (.int p5), .val (.int (xa.toInt32)), .val (.int (xb.toInt32)), .val (.int (0 : Int32)), .val (.ref nm), .val (.int (0 : Int32)), .val .null, .val (.int (0 : Int32)), .val (.int (0 : Int32)), .val (.ref b1), .val (.ref b3)] [(.ref b3)])) rfl (by rw [hml]; rfl) (Steps.refl _) (argsL := []) (rest := []) (lenOf pd_6 rfl) rfl (by show 2 * 0 + _ ≤ _; exact Nat.le_of_eq rfl) (hb hby at_219) (fun _ _ => ⟨rfl, e4, (by decide : 22 + 0 ≤ _), (by decide : 174 + 0 ≤ _)⟩)
  dsimp only [Pt.U, Pt.locs, Pt.cells, Pt.slots] at X6 l6 y6 z6 st6 hQ6
  subst l6 y6 z6
  obtain ⟨rfl, N6q, e6⟩ := hQ6
  have N6 := Fr.app N4 N6q
  refine GoH.tr (T' := T6) (pc' := 222) (L' := #[.val (.int p1), .val (.int p2), .val (.int p3), .val (.int p4), .val (.int p5), .val (.int (xa.toInt32)), .val (.int (xb.toInt32)), .val (.int (0 : Int32)), .val (.ref nm), .val (.int (0 : Int32)), .val .null, .val (.int (0 : Int32)), .val (.int (0 : Int32)), .val (.ref b1), .val (.ref b3)]) (S' := [(.int (0 : Int32))]) st6 ?_
  refine GoH.st (T' := T6) (pc' := 224) (L' := #[.val (.int p1), .val (.int p2), .val (.int p3), .val (.int p4), .val (.int p5), .val (.int (xa.toInt32)), .val (.int (xb.toInt32)), .val (.int (0 : Int32)), .val (.ref nm), .val (.int (0 : Int32)), .val .null, .val (.int (0 : Int32)), .val (.int (0 : Int32)), .val (.ref b1), .val (.ref b3)]) (S' := [(.int (0 : Int32)), (.int (0 : Int32))]) (fun t_ k_ => XS.iload X6.here hx rfl (hb hby at_222) rfl  k_) ?_
  refine GoH.st (T' := T6) (pc' := 227) (L' := #[.val (.int p1), .val (.int p2), .val (.int p3), .val (.int p4), .val (.int p5), .val (.int (xa.toInt32)), .val (.int (xb.toInt32)), .val (.int (0 : Int32)), .val (.ref nm), .val (.int (0 : Int32)), .val .null, .val (.int (0 : Int32)), .val (.int (0 : Int32)), .val (.ref b1), .val (.ref b3)]) (S' := []) (fun t_ k_ => XS.icmpNo X6.here hx rfl (hb hby at_224) rfl (teq (by decide : ((0 : Int32) = (0 : Int32)))).2 k_) ?_
  refine GoH.st (T' := T6) (pc' := 228) (L' := #[.val (.int p1), .val (.int p2), .val (.int p3), .val (.int p4), .val (.int p5), .val (.int (xa.toInt32)), .val (.int (xb.toInt32)), .val (.int (0 : Int32)), .val (.ref nm), .val (.int (0 : Int32)), .val .null, .val (.int (0 : Int32)), .val (.int (0 : Int32)), .val (.ref b1), .val (.ref b3)]) (S' := [(.int (1 : Int32))]) (fun t_ k_ => XS.iconst X6.here hx rfl (hb hby at_227) k_) ?_
  refine GoH.st (T' := T6) (pc' := 232) (L' := #[.val (.int p1), .val (.int p2), .val (.int p3), .val (.int p4), .val (.int p5), .val (.int (xa.toInt32)), .val (.int (xb.toInt32)), .val (.int (0 : Int32)), .val (.ref nm), .val (.int (0 : Int32)), .val .null, .val (.int (0 : Int32)), .val (.int (0 : Int32)), .val (.ref b1), .val (.ref b3)]) (S' := [(.int (1 : Int32))]) (fun t_ k_ => XS.goto X6.here hx rfl (pc0 := 228) (pc' := 232) rfl (hb hby at_228) (by decide) (by decide) k_) ?_
  exact GoH.retN X6 hx hlk hret (by simp) (hb hby at_232) (by decide) (by decide) hS hk e6 hs0 hZ (own_EW hw) CR (by rw [e6]; exact ⟨rfl, N6⟩)

set_option maxRecDepth 65536 in
set_option maxHeartbeats 40000000 in
theorem seg186_1_1 {p : Program} {l : Launch} {e : Env} {s : State} {m : MethodId} {args : Array Value} {below : List Frame} {meth : Method} {c : Code} {T0 : State} {locs : List Loc} {Z : State} {a0 : Array Value} {n0 k0 : Nat} {h0 hh : Heap} {vm0 : Vm} (p1 : Int32) (p2 : Int32) (p3 : Int32) (p4 : Int32) (p5 : Int32) (xa : Nat) (xb : Nat) (gC : Int32) (nm : Addr) (tn : Addr) (kn : ClassId) (vn : Addr) (r3 : Int32) (r4 : Int32)
    (X0 : Stand p l e room_1 (s.setVm vm0) m args below meth c T0 locs 9 60) (hx : p.tables.exec = Jvm.exec) (hZ : Z.Warmed39 (s.setVm vm0).vm) (hw : ∀ d ∈ tables_1, d.before a0 Z = true) (hby : c.code = code) (hml : c.maxLocals = 15) (hown : (s.setVm vm0).vm.findClass "com/example/placewright/placewright/cli/OptionTakesValuePinLaw" = some m.cls) (hnm : meth.name = "law") (hret : meth.sig.returnType = (some .boolean)) (hlk : meth.locks = false) (e0 : T0.heap = hh) (hs0 : s.heap = h0) (CR : CHr Z EL s.vm h0 vm0 hh) (hS : s.Since vm0 k0) (hk : k0 ≤ hh.size) (N0 : Fr n0 locs) (SC : Sta Z Z.heap "java/lang/String" "COMPACT_STRINGS" "Z" (.int gC)) (PC : ¬ (gC = (0 : Int32))) (O0 : Old Z n0 hh) (Z0 : n0 ≤ hh.size) (E_nm : Exa Z hh nm "java/lang/String") (Fc_nm : Fld Z hh nm "java/lang/String" "coder" "B" (.int (0 : Int32))) (Fv_nm : Fld Z hh nm "java/lang/String" "value" "[B" (.ref tn)) (V_tn : Arv Z hh tn kn .byte (1 : Int32) [(.int (((xa.toInt32).toInt8.toInt32).toInt8.toInt32))] (.int (0 : Int32))) (hxa : xa < 256) (hxb : xb < 256) (na1 : xa ≠ 45) (na2 : xa ≠ 61) (nb2 : xb ≠ 61) :
    GoH Z EL p e below s room_1.cells room_1.slots (Q0 Z h0 n0) m T0 186 #[.val (.int p1), .val (.int p2), .val (.int p3), .val (.int p4), .val (.int p5), .val (.int (xa.toInt32)), .val (.int (xb.toInt32)), .val (.int (0 : Int32)), .val (.ref nm), .val (.int (1 : Int32)), .val (.ref vn), .val (.int r3), .val (.int r4), .unset, .unset] [] := by
  refine GoH.st (T' := T0) (pc' := 188) (L' := #[.val (.int p1), .val (.int p2), .val (.int p3), .val (.int p4), .val (.int p5), .val (.int (xa.toInt32)), .val (.int (xb.toInt32)), .val (.int (0 : Int32)), .val (.ref nm), .val (.int (1 : Int32)), .val (.ref vn), .val (.int r3), .val (.int r4), .unset, .unset]) (S' := [(.int p5)]) (fun t_ k_ => XS.iload X0.here hx rfl (hb hby at_186) rfl  k_) ?_
  refine GoH.st (T' := T0) (pc' := 191) (L' := #[.val (.int p1), .val (.int p2), .val (.int p3), .val (.int p4), .val (.int p5), .val (.int (xa.toInt32)), .val (.int (xb.toInt32)), .val (.int (0 : Int32)), .val (.ref nm), .val (.int (1 : Int32)), .val (.ref vn), .val (.int r3), .val (.int r4), .unset, .unset]) (S' := [(.int (255 : Int32)), (.int p5)]) (fun t_ k_ => XS.sipush X0.here hx rfl (hb hby at_188) k_) ?_
  refine GoH.st (T' := T0) (pc' := 192) (L' := #[.val (.int p1), .val (.int p2), .val (.int p3), .val (.int p4), .val (.int p5), .val (.int (xa.toInt32)), .val (.int (xb.toInt32)), .val (.int (0 : Int32)), .val (.ref nm), .val (.int (1 : Int32)), .val (.ref vn), .val (.int r3), .val (.int r4), .unset, .unset]) (S' := [(.int (p5 &&& (255 : Int32)))]) (fun t_ k_ => XS.iand X0.here hx rfl (hb hby at_191) rfl k_) ?_
  refine GoH.st (T' := T0) (pc' := 193) (L' := #[.val (.int p1), .val (.int p2), .val (.int p3), .val (.int p4), .val (.int p5), .val (.int (xa.toInt32)), .val (.int (xb.toInt32)), .val (.int (0 : Int32)), .val (.ref nm), .val (.int (1 : Int32)), .val (.ref vn), .val (.int r3), .val (.int r4), .unset, .unset]) (S' := [(.int ((p5 &&& (255 : Int32)).toUInt32.toUInt16.toUInt32.toInt32))]) (fun t_ k_ => XS.i2c X0.here hx rfl (hb hby at_192) rfl k_) ?_
  obtain ⟨_, _, ⟨T1, L1, k1, n1⟩, -, X1, ⟨Lc1, hQ1, l1, y1, z1⟩, st1⟩ := Jvm.LawKit.callS X0 hx (y := (⟨"java/lang/String", "valueOf", "(C)Ljava/lang/String;"⟩ : MethodName)) hown (mvT hZ (hw _ (List.mem_of_getElem? (i := 0) rfl))) (mvT hZ (hw _ (List.mem_of_getElem? (i := 1) rfl))) (mvT hZ (hw _ (List.mem_of_getElem? (i := 2) rfl))) (mvT hZ (hw _ (List.mem_of_getElem? (i := 3) rfl))) (by decide) (backOf (W := 0) (rm1 l Z a0 hw [] ((p5 &&& (255 : Int32)).toUInt32.toUInt16.toUInt32.toInt32) gC hh n0 Z0 SC PC O0 (own_c255 _)) hZ (hw _ (List.mem_of_getElem? (i := 3) rfl)) (hw _ (List.mem_of_getElem? (i := 2) rfl)) (by decide) (by decide)) (g := (mkF m 193 #[.val (.int p1), .val (.int p2), .val (.int p3), .val (.int p4), .val (.int p5), .val (.int (xa.toInt32)), .val (.int (xb.toInt32)), .val (.int (0 : Int32)), .val (.ref nm), .val (.int (1 : Int32)), .val (.ref vn), .val (.int r3), .val (.int r4), .unset, .unset] [(.int ((p5 &&& (255 : Int32)).toUInt32.toUInt16.toUInt32.toInt32))])) rfl (by rw [hml]; rfl) (argsL := [(.int ((p5 &&& (255 : Int32)).toUInt32.toUInt16.toUInt32.toInt32))]) (rest := []) (lenOf pd_18 rfl) rfl (by show 2 * 0 + _ ≤ _; exact Nat.le_of_eq rfl) (hb hby at_193) (fun _ _ => ⟨rfl, e0, (by decide : 9 + 2 ≤ _), (by decide : 60 + 5 ≤ _)⟩)
  dsimp only [Pt.U, Pt.locs, Pt.cells, Pt.slots] at X1 l1 y1 z1 st1 hQ1
  subst l1 y1 z1
  obtain ⟨b1, t1, kb1, rfl, N1q, K1, g_b1, lt1, E_b1, Co1, Va1, V_t1⟩ := hQ1
  have N1 := Fr.app N0 N1q
  have ne_nm_b1 : nm ≠ b1 := Nat.ne_of_lt (Nat.lt_of_lt_of_le E_nm.lt lt1)
  have ne_tn_b1 : tn ≠ b1 := Nat.ne_of_lt (Nat.lt_of_lt_of_le V_tn.lt lt1)
  obtain ⟨h1, e1⟩ : ∃ z, T1.heap = z := ⟨_, rfl⟩
  rw [e1] at K1 E_b1 Co1 Va1 V_t1
  have Sk2 : ∀ x ∈ [], Safe Z EL vm0 hh x := all0
  replace CR := CR.trans (CHr.keep K1 Sk2 CR.1)
  replace hk := Nat.le_trans hk K1.1
  replace Z0 := Nat.le_trans Z0 K1.1
  replace O0 := O0.keep K1 all0
  replace E_nm := E_nm.keep K1
  replace Fc_nm := Fc_nm.keep K1 nin0
  replace Fv_nm := Fv_nm.keep K1 nin0
  replace V_tn := V_tn.keep K1 nin0
  refine GoH.st (T' := T1) (pc' := 196) (L' := #[.val (.int p1), .val (.int p2), .val (.int p3), .val (.int p4), .val (.int p5), .val (.int (xa.toInt32)), .val (.int (xb.toInt32)), .val (.int (0 : Int32)), .val (.ref nm), .val (.int (1 : Int32)), .val (.ref vn), .val (.int r3), .val (.int r4), .unset, .unset]) (S' := [(.ref b1)]) st1 ?_
  refine GoH.st (T' := T1) (pc' := 198) (L' := #[.val (.int p1), .val (.int p2), .val (.int p3), .val (.int p4), .val (.int p5), .val (.int (xa.toInt32)), .val (.int (xb.toInt32)), .val (.int (0 : Int32)), .val (.ref nm), .val (.int (1 : Int32)), .val (.ref vn), .val (.int r3), .val (.int r4), .val (.ref b1), .unset]) (S' := []) (fun t_ k_ => XS.astore X1.here hx rfl (hb hby at_196) rfl rfl (l' := #[.val (.int p1), .val (.int p2), .val (.int p3), .val (.int p4), .val (.int p5), .val (.int (xa.toInt32)), .val (.int (xb.toInt32)), .val (.int (0 : Int32)), .val (.ref nm), .val (.int (1 : Int32)), .val (.ref vn), .val (.int r3), .val (.int r4), .val (.ref b1), .unset]) rfl k_) ?_
  obtain ⟨T3, h3, X3, e3, E3, A3, D3, U3, st3⟩ := newO X1 hx hZ hown (hw _ (List.mem_of_getElem? (i := 37) rfl)) (hw _ (List.mem_of_getElem? (i := 38) rfl)) (hw _ (List.mem_of_getElem? (i := 39) rfl)) e1 (g := (mkF m 198 #[.val (.int p1), .val (.int p2), .val (.int p3), .val (.int p4), .val (.int p5), .val (.int (xa.toInt32)), .val (.int (xb.toInt32)), .val (.int (0 : Int32)), .val (.ref nm), .val (.int (1 : Int32)), .val (.ref vn), .val (.int r3), .val (.int r4), .val (.ref b1), .unset] [])) rfl (hb hby at_198) (by decide) (by decide)
  obtain ⟨b3, g3⟩ : ∃ z, z = h1.size := ⟨_, rfl⟩
  rw [← g3] at A3 D3 U3 st3
  have ne_nm_b3 : nm ≠ b3 := Nat.ne_of_lt (Nat.lt_of_lt_of_le E_nm.lt (Nat.le_of_eq g3.symm))
  have ne_tn_b3 : tn ≠ b3 := Nat.ne_of_lt (Nat.lt_of_lt_of_le V_tn.lt (Nat.le_of_eq g3.symm))
  have ne_b1_b3 : b1 ≠ b3 := Nat.ne_of_lt (Nat.lt_of_lt_of_le E_b1.lt (Nat.le_of_eq g3.symm))
  have g_b3 : n0 ≤ b3 := Nat.le_trans Z0 (Nat.le_of_eq g3.symm)
  replace CR := CR.trans (CHr.ext E3 CR.1)
  replace hk := Nat.le_trans hk E3.1
  replace Z0 := Nat.le_trans Z0 E3.1
  replace O0 := O0.ext E3
  replace E_nm := E_nm.ext E3
  replace Fc_nm := Fc_nm.ext E3
  replace Fv_nm := Fv_nm.ext E3
  replace V_tn := V_tn.ext E3
  replace E_b1 := E_b1.ext E3
  have E_b3 := A3
  have F_b3_name : Fld Z h3 b3 "com/example/placewright/placewright/cli/Option" "name" "Ljava/lang/String;" .null := D3 (Or.inr (hw _ (List.mem_of_getElem? (i := 126) rfl))) (ty := (.object "java/lang/String")) (by decide)
  have F_b3_valueName : Fld Z h3 b3 "com/example/placewright/placewright/cli/Option" "valueName" "Ljava/lang/String;" .null := D3 (Or.inr (hw _ (List.mem_of_getElem? (i := 128) rfl))) (ty := (.object "java/lang/String")) (by decide)
  have F_b3_required : Fld Z h3 b3 "com/example/placewright/placewright/cli/Option" "required" "Z" (.int (0 : Int32)) := D3 (Or.inr (hw _ (List.mem_of_getElem? (i := 130) rfl))) (ty := .boolean) (by decide)
  have F_b3_repeated : Fld Z h3 b3 "com/example/placewright/placewright/cli/Option" "repeated" "Z" (.int (0 : Int32)) := D3 (Or.inr (hw _ (List.mem_of_getElem? (i := 132) rfl))) (ty := .boolean) (by decide)
  have F_b3_description : Fld Z h3 b3 "com/example/placewright/placewright/cli/Option" "description" "Ljava/lang/String;" .null := D3 (Or.inr (hw _ (List.mem_of_getElem? (i := 134) rfl))) (ty := (.object "java/lang/String")) (by decide)
  refine GoH.st (T' := T3) (pc' := 201) (L' := #[.val (.int p1), .val (.int p2), .val (.int p3), .val (.int p4), .val (.int p5), .val (.int (xa.toInt32)), .val (.int (xb.toInt32)), .val (.int (0 : Int32)), .val (.ref nm), .val (.int (1 : Int32)), .val (.ref vn), .val (.int r3), .val (.int r4), .val (.ref b1), .unset]) (S' := [(.ref b3)]) st3 ?_
  refine GoH.st (T' := T3) (pc' := 202) (L' := #[.val (.int p1), .val (.int p2), .val (.int p3), .val (.int p4), .val (.int p5), .val (.int (xa.toInt32)), .val (.int (xb.toInt32)), .val (.int (0 : Int32)), .val (.ref nm), .val (.int (1 : Int32)), .val (.ref vn), .val (.int r3), .val (.int r4), .val (.ref b1), .unset]) (S' := [(.ref b3), (.ref b3)]) (fun t_ k_ => XS.dup X3.here hx rfl (hb hby at_201) rfl rfl k_) ?_
  refine GoH.st (T' := T3) (pc' := 204) (L' := #[.val (.int p1), .val (.int p2), .val (.int p3), .val (.int p4), .val (.int p5), .val (.int (xa.toInt32)), .val (.int (xb.toInt32)), .val (.int (0 : Int32)), .val (.ref nm), .val (.int (1 : Int32)), .val (.ref vn), .val (.int r3), .val (.int r4), .val (.ref b1), .unset]) (S' := [(.ref nm), (.ref b3), (.ref b3)]) (fun t_ k_ => XS.aload X3.here hx rfl (hb hby at_202) rfl rfl  k_) ?_
  refine GoH.st (T' := T3) (pc' := 206) (L' := #[.val (.int p1), .val (.int p2), .val (.int p3), .val (.int p4), .val (.int p5), .val (.int (xa.toInt32)), .val (.int (xb.toInt32)), .val (.int (0 : Int32)), .val (.ref nm), .val (.int (1 : Int32)), .val (.ref vn), .val (.int r3), .val (.int r4), .val (.ref b1), .unset]) (S' := [(.ref vn), (.ref nm), (.ref b3), (.ref b3)]) (fun t_ k_ => XS.aload X3.here hx rfl (hb hby at_204) rfl rfl  k_) ?_
  refine GoH.st (T' := T3) (pc' := 208) (L' := #[.val (.int p1), .val (.int p2), .val (.int p3), .val (.int p4), .val (.int p5), .val (.int (xa.toInt32)), .val (.int (xb.toInt32)), .val (.int (0 : Int32)), .val (.ref nm), .val (.int (1 : Int32)), .val (.ref vn), .val (.int r3), .val (.int r4), .val (.ref b1), .unset]) (S' := [(.int r3), (.ref vn), (.ref nm), (.ref b3), (.ref b3)]) (fun t_ k_ => XS.iload X3.here hx rfl (hb hby at_206) rfl  k_) ?_
  refine GoH.st (T' := T3) (pc' := 210) (L' := #[.val (.int p1), .val (.int p2), .val (.int p3), .val (.int p4), .val (.int p5), .val (.int (xa.toInt32)), .val (.int (xb.toInt32)), .val (.int (0 : Int32)), .val (.ref nm), .val (.int (1 : Int32)), .val (.ref vn), .val (.int r3), .val (.int r4), .val (.ref b1), .unset]) (S' := [(.int r4), (.int r3), (.ref vn), (.ref nm), (.ref b3), (.ref b3)]) (fun t_ k_ => XS.iload X3.here hx rfl (hb hby at_208) rfl  k_) ?_
  refine GoH.st (T' := T3) (pc' := 212) (L' := #[.val (.int p1), .val (.int p2), .val (.int p3), .val (.int p4), .val (.int p5), .val (.int (xa.toInt32)), .val (.int (xb.toInt32)), .val (.int (0 : Int32)), .val (.ref nm), .val (.int (1 : Int32)), .val (.ref vn), .val (.int r3), .val (.int r4), .val (.ref b1), .unset]) (S' := [(.ref b1), (.int r4), (.int r3), (.ref vn), (.ref nm), (.ref b3), (.ref b3)]) (fun t_ k_ => XS.aload X3.here hx rfl (hb hby at_210) rfl rfl  k_) ?_
  obtain ⟨_, _, ⟨T4, L4, k4, n4⟩, -, X4, hS4, hg4, ⟨Lc4, hQ4, l4, y4, z4, CR4⟩, st4⟩ := X3.specialBackS hx (y := (⟨"com/example/placewright/placewright/cli/Option", "<init>", "(Ljava/lang/String;Ljava/lang/String;ZZLjava/lang/String;)V"⟩ : MethodName)) rfl hown (mvT hZ (hw _ (List.mem_of_getElem? (i := 40) rfl))) (mvT hZ (hw _ (List.mem_of_getElem? (i := 41) rfl))) (mvT hZ (hw _ (List.mem_of_getElem? (i := 42) rfl))) (by decide) (backOfSH (W := 1) (rmop1v l Z a0 hw [] b3 nm tn _ b1 gC vn r3 r4 ((((xa.toInt32).toInt8.toInt32).toInt8.toInt32)) h3 n0 Z0 SC PC O0 E_b3 g_b3 (Ne.symm ne_tn_b3) F_b3_name F_b3_valueName F_b3_required F_b3_repeated F_b3_description E_nm Fc_nm Fv_nm V_tn (((own_byf ⟨xa, hxa⟩).2.2.1 na1).2) (((own_byf ⟨xa, hxa⟩).2.2.2 na2).2)) hZ (hw _ (List.mem_of_getElem? (i := 42) rfl)) (hw _ (List.mem_of_getElem? (i := 39) rfl)) (by decide) (by decide) (own_EW hw) CR.1) (g := (mkF m 212 #[.val (.int p1), .val (.int p2), .val (.int p3), .val (.int p4), .val (.int p5), .val (.int (xa.toInt32)), .val (.int (xb.toInt32)), .val (.int (0 : Int32)), .val (.ref nm), .val (.int (1 : Int32)), .val (.ref vn), .val (.int r3), .val (.int r4), .val (.ref b1), .unset] [(.ref b1), (.int r4), (.int r3), (.ref vn), (.ref nm), (.ref b3), (.ref b3)])) rfl (by rw [hml]; rfl) (Steps.refl _) (a := b3) (argsL := [(.ref nm), (.ref vn), (.int r3), (.int r4), (.ref b1)]) (rest := [(.ref b3)]) (lenOf pd_19 rfl) rfl (by show 2 * 0 + _ ≤ _; exact Nat.le_of_eq rfl) (hb hby at_212) (fun _ _ => ⟨rfl, e3, (by decide : 12 + 10 ≤ _), (by decide : 70 + 104 ≤ _)⟩)
  dsimp only [Pt.U, Pt.locs, Pt.cells, Pt.slots] at X4 l4 y4 z4 st4 hQ4 hS4 hg4 CR4
  subst l4 y4 z4
  replace X4 : Stand p l e _ (s.setVm T4.vm) m _ below meth c T4 _ _ _ := X4
  replace hS := foldS hS (T := T3) (Nat.le_trans hk (Nat.le_of_eq (congrArg Array.size e3.symm))) hS4 hg4
  replace hk := Nat.le_refl T4.heap.size
  replace hZ : Z.Warmed39 (s.setVm T4.vm).vm := State.Warmed39.trans (t := s.setVm vm0) hZ hS4.1
  replace hown : (s.setVm T4.vm).vm.findClass "com/example/placewright/placewright/cli/OptionTakesValuePinLaw" = some m.cls := by rw [show (s.setVm T4.vm).vm = T4.vm from rfl, hS4.1.alike.findClass]; exact hown
  obtain ⟨rfl, N4q, K4, Fvn4⟩ := hQ4
  have N4 := Fr.app N1 N4q
  obtain ⟨h4, e4⟩ : ∃ z, T4.heap = z := ⟨_, rfl⟩
  rw [e4] at K4 Fvn4 CR4
  replace CR := CR.trans CR4
  replace Z0 := Nat.le_trans Z0 K4.1
  replace O0 := O0.keep K4 (allS g_b3 all0)
  replace E_nm := E_nm.keep K4
  replace Fc_nm := Fc_nm.keep K4 (ninS ne_nm_b3 nin0)
  replace Fv_nm := Fv_nm.keep K4 (ninS ne_nm_b3 nin0)
  replace V_tn := V_tn.keep K4 (ninS ne_tn_b3 nin0)
  replace E_b1 := E_b1.keep K4
  replace E_b3 := E_b3.keep K4
  replace hk : T4.heap.size ≤ h4.size := Nat.le_of_eq (congrArg Array.size e4)
  refine GoH.tr (T' := T4) (pc' := 215) (L' := #[.val (.int p1), .val (.int p2), .val (.int p3), .val (.int p4), .val (.int p5), .val (.int (xa.toInt32)), .val (.int (xb.toInt32)), .val (.int (0 : Int32)), .val (.ref nm), .val (.int (1 : Int32)), .val (.ref vn), .val (.int r3), .val (.int r4), .val (.ref b1), .unset]) (S' := [(.ref b3)]) st4 ?_
  refine GoH.st (T' := T4) (pc' := 217) (L' := #[.val (.int p1), .val (.int p2), .val (.int p3), .val (.int p4), .val (.int p5), .val (.int (xa.toInt32)), .val (.int (xb.toInt32)), .val (.int (0 : Int32)), .val (.ref nm), .val (.int (1 : Int32)), .val (.ref vn), .val (.int r3), .val (.int r4), .val (.ref b1), .val (.ref b3)]) (S' := []) (fun t_ k_ => XS.astore X4.here hx rfl (hb hby at_215) rfl rfl (l' := #[.val (.int p1), .val (.int p2), .val (.int p3), .val (.int p4), .val (.int p5), .val (.int (xa.toInt32)), .val (.int (xb.toInt32)), .val (.int (0 : Int32)), .val (.ref nm), .val (.int (1 : Int32)), .val (.ref vn), .val (.int r3), .val (.int r4), .val (.ref b1), .val (.ref b3)]) rfl k_) ?_
  refine GoH.st (T' := T4) (pc' := 219) (L' := #[.val (.int p1), .val (.int p2), .val (.int p3), .val (.int p4), .val (.int p5), .val (.int (xa.toInt32)), .val (.int (xb.toInt32)), .val (.int (0 : Int32)), .val (.ref nm), .val (.int (1 : Int32)), .val (.ref vn), .val (.int r3), .val (.int r4), .val (.ref b1), .val (.ref b3)]) (S' := [(.ref b3)]) (fun t_ k_ => XS.aload X4.here hx rfl (hb hby at_217) rfl rfl  k_) ?_
  obtain ⟨cq6, kq6, q6a, q6b, q6c⟩ := isOf hZ e4 E_b3
  obtain ⟨_, _, ⟨T6, L6, k6, n6⟩, -, X6, ⟨Lc6, hQ6, l6, y6, z6⟩, st6⟩ := X4.virtualBack hx (y := (⟨"com/example/placewright/placewright/cli/Option", "takesValue", "()Z"⟩ : MethodName)) (z := (⟨"com/example/placewright/placewright/cli/Option", "takesValue", "()Z"⟩ : MethodName)) hown (mvT hZ (hw _ (List.mem_of_getElem? (i := 135) rfl))) (mvT hZ (hw _ (List.mem_of_getElem? (i := 136) rfl))) (notFace_of_selects (args := #[]) (mvT hZ (hw _ (List.mem_of_getElem? (i := 138) rfl)))) (mvT hZ (hw _ (List.mem_of_getElem? (i := 138) rfl))) (mvT hZ (hw _ (List.mem_of_getElem? (i := 137) rfl))) (by decide) (backOf (W := 0) (rmtvv l Z a0 hw [] b3 vn h4 n0 Z0 Fvn4) hZ (hw _ (List.mem_of_getElem? (i := 139) rfl)) (hw _ (List.mem_of_getElem? (i := 39) rfl)) (by decide) (by decide)) q6a q6c (g := (mkF m 219 #[.val (.int p1), .val (.int p2), .val (.int p3), .val (.int p4), .val (.int p5), .val (.int (xa.toInt32)), .val (.int (xb.toInt32)), .val (.int (0 : Int32)), .val (.ref nm), .val (.int (1 : Int32)), .val (.ref vn), .val (.int r3), .val (.int r4), .val (.ref b1), .val (.ref b3)] [(.ref b3)])) rfl (by rw [hml]; rfl) (Steps.refl _) (argsL := []) (rest := []) (lenOf pd_6 rfl) rfl (by show 2 * 0 + _ ≤ _; exact Nat.le_of_eq rfl) (hb hby at_219) (fun _ _ => ⟨rfl, e4, (by decide : 22 + 0 ≤ _), (by decide : 174 + 0 ≤ _)⟩)
  dsimp only [Pt.U, Pt.locs, Pt.cells, Pt.slots] at X6 l6 y6 z6 st6 hQ6
  subst l6 y6 z6
  obtain ⟨rfl, N6q, e6⟩ := hQ6
  have N6 := Fr.app N4 N6q
  refine GoH.tr (T' := T6) (pc' := 222) (L' := #[.val (.int p1), .val (.int p2), .val (.int p3), .val (.int p4), .val (.int p5), .val (.int (xa.toInt32)), .val (.int (xb.toInt32)), .val (.int (0 : Int32)), .val (.ref nm), .val (.int (1 : Int32)), .val (.ref vn), .val (.int r3), .val (.int r4), .val (.ref b1), .val (.ref b3)]) (S' := [(.int (1 : Int32))]) st6 ?_
  refine GoH.st (T' := T6) (pc' := 224) (L' := #[.val (.int p1), .val (.int p2), .val (.int p3), .val (.int p4), .val (.int p5), .val (.int (xa.toInt32)), .val (.int (xb.toInt32)), .val (.int (0 : Int32)), .val (.ref nm), .val (.int (1 : Int32)), .val (.ref vn), .val (.int r3), .val (.int r4), .val (.ref b1), .val (.ref b3)]) (S' := [(.int (1 : Int32)), (.int (1 : Int32))]) (fun t_ k_ => XS.iload X6.here hx rfl (hb hby at_222) rfl  k_) ?_
  refine GoH.st (T' := T6) (pc' := 227) (L' := #[.val (.int p1), .val (.int p2), .val (.int p3), .val (.int p4), .val (.int p5), .val (.int (xa.toInt32)), .val (.int (xb.toInt32)), .val (.int (0 : Int32)), .val (.ref nm), .val (.int (1 : Int32)), .val (.ref vn), .val (.int r3), .val (.int r4), .val (.ref b1), .val (.ref b3)]) (S' := []) (fun t_ k_ => XS.icmpNo X6.here hx rfl (hb hby at_224) rfl (teq (by decide : ((1 : Int32) = (1 : Int32)))).2 k_) ?_
  refine GoH.st (T' := T6) (pc' := 228) (L' := #[.val (.int p1), .val (.int p2), .val (.int p3), .val (.int p4), .val (.int p5), .val (.int (xa.toInt32)), .val (.int (xb.toInt32)), .val (.int (0 : Int32)), .val (.ref nm), .val (.int (1 : Int32)), .val (.ref vn), .val (.int r3), .val (.int r4), .val (.ref b1), .val (.ref b3)]) (S' := [(.int (1 : Int32))]) (fun t_ k_ => XS.iconst X6.here hx rfl (hb hby at_227) k_) ?_
  refine GoH.st (T' := T6) (pc' := 232) (L' := #[.val (.int p1), .val (.int p2), .val (.int p3), .val (.int p4), .val (.int p5), .val (.int (xa.toInt32)), .val (.int (xb.toInt32)), .val (.int (0 : Int32)), .val (.ref nm), .val (.int (1 : Int32)), .val (.ref vn), .val (.int r3), .val (.int r4), .val (.ref b1), .val (.ref b3)]) (S' := [(.int (1 : Int32))]) (fun t_ k_ => XS.goto X6.here hx rfl (pc0 := 228) (pc' := 232) rfl (hb hby at_228) (by decide) (by decide) k_) ?_
  exact GoH.retN X6 hx hlk hret (by simp) (hb hby at_232) (by decide) (by decide) hS hk e6 hs0 hZ (own_EW hw) CR (by rw [e6]; exact ⟨rfl, N6⟩)

set_option maxRecDepth 65536 in
set_option maxHeartbeats 40000000 in
theorem seg186_2_0 {p : Program} {l : Launch} {e : Env} {s : State} {m : MethodId} {args : Array Value} {below : List Frame} {meth : Method} {c : Code} {T0 : State} {locs : List Loc} {Z : State} {a0 : Array Value} {n0 k0 : Nat} {h0 hh : Heap} {vm0 : Vm} (p1 : Int32) (p2 : Int32) (p3 : Int32) (p4 : Int32) (p5 : Int32) (xa : Nat) (xb : Nat) (gC : Int32) (nm : Addr) (tn : Addr) (kn : ClassId)
    (X0 : Stand p l e room_1 (s.setVm vm0) m args below meth c T0 locs 9 60) (hx : p.tables.exec = Jvm.exec) (hZ : Z.Warmed39 (s.setVm vm0).vm) (hw : ∀ d ∈ tables_1, d.before a0 Z = true) (hby : c.code = code) (hml : c.maxLocals = 15) (hown : (s.setVm vm0).vm.findClass "com/example/placewright/placewright/cli/OptionTakesValuePinLaw" = some m.cls) (hnm : meth.name = "law") (hret : meth.sig.returnType = (some .boolean)) (hlk : meth.locks = false) (e0 : T0.heap = hh) (hs0 : s.heap = h0) (CR : CHr Z EL s.vm h0 vm0 hh) (hS : s.Since vm0 k0) (hk : k0 ≤ hh.size) (N0 : Fr n0 locs) (SC : Sta Z Z.heap "java/lang/String" "COMPACT_STRINGS" "Z" (.int gC)) (PC : ¬ (gC = (0 : Int32))) (O0 : Old Z n0 hh) (Z0 : n0 ≤ hh.size) (E_nm : Exa Z hh nm "java/lang/String") (Fc_nm : Fld Z hh nm "java/lang/String" "coder" "B" (.int (0 : Int32))) (Fv_nm : Fld Z hh nm "java/lang/String" "value" "[B" (.ref tn)) (V_tn : Arv Z hh tn kn .byte (2 : Int32) [(.int ((nar .char (xa.toInt32)).toInt8.toInt32)), (.int ((nar .char (xb.toInt32)).toInt8.toInt32))] (.int (0 : Int32))) (hxa : xa < 256) (hxb : xb < 256) (na1 : xa ≠ 45) (na2 : xa ≠ 61) (nb2 : xb ≠ 61) :
    GoH Z EL p e below s room_1.cells room_1.slots (Q0 Z h0 n0) m T0 186 #[.val (.int p1), .val (.int p2), .val (.int p3), .val (.int p4), .val (.int p5), .val (.int (xa.toInt32)), .val (.int (xb.toInt32)), .val (.int (1 : Int32)), .val (.ref nm), .val (.int (0 : Int32)), .val .null, .val (.int (0 : Int32)), .val (.int (0 : Int32)), .unset, .unset] [] := by
  refine GoH.st (T' := T0) (pc' := 188) (L' := #[.val (.int p1), .val (.int p2), .val (.int p3), .val (.int p4), .val (.int p5), .val (.int (xa.toInt32)), .val (.int (xb.toInt32)), .val (.int (1 : Int32)), .val (.ref nm), .val (.int (0 : Int32)), .val .null, .val (.int (0 : Int32)), .val (.int (0 : Int32)), .unset, .unset]) (S' := [(.int p5)]) (fun t_ k_ => XS.iload X0.here hx rfl (hb hby at_186) rfl  k_) ?_
  refine GoH.st (T' := T0) (pc' := 191) (L' := #[.val (.int p1), .val (.int p2), .val (.int p3), .val (.int p4), .val (.int p5), .val (.int (xa.toInt32)), .val (.int (xb.toInt32)), .val (.int (1 : Int32)), .val (.ref nm), .val (.int (0 : Int32)), .val .null, .val (.int (0 : Int32)), .val (.int (0 : Int32)), .unset, .unset]) (S' := [(.int (255 : Int32)), (.int p5)]) (fun t_ k_ => XS.sipush X0.here hx rfl (hb hby at_188) k_) ?_
  refine GoH.st (T' := T0) (pc' := 192) (L' := #[.val (.int p1), .val (.int p2), .val (.int p3), .val (.int p4), .val (.int p5), .val (.int (xa.toInt32)), .val (.int (xb.toInt32)), .val (.int (1 : Int32)), .val (.ref nm), .val (.int (0 : Int32)), .val .null, .val (.int (0 : Int32)), .val (.int (0 : Int32)), .unset, .unset]) (S' := [(.int (p5 &&& (255 : Int32)))]) (fun t_ k_ => XS.iand X0.here hx rfl (hb hby at_191) rfl k_) ?_
  refine GoH.st (T' := T0) (pc' := 193) (L' := #[.val (.int p1), .val (.int p2), .val (.int p3), .val (.int p4), .val (.int p5), .val (.int (xa.toInt32)), .val (.int (xb.toInt32)), .val (.int (1 : Int32)), .val (.ref nm), .val (.int (0 : Int32)), .val .null, .val (.int (0 : Int32)), .val (.int (0 : Int32)), .unset, .unset]) (S' := [(.int ((p5 &&& (255 : Int32)).toUInt32.toUInt16.toUInt32.toInt32))]) (fun t_ k_ => XS.i2c X0.here hx rfl (hb hby at_192) rfl k_) ?_
  obtain ⟨_, _, ⟨T1, L1, k1, n1⟩, -, X1, ⟨Lc1, hQ1, l1, y1, z1⟩, st1⟩ := Jvm.LawKit.callS X0 hx (y := (⟨"java/lang/String", "valueOf", "(C)Ljava/lang/String;"⟩ : MethodName)) hown (mvT hZ (hw _ (List.mem_of_getElem? (i := 0) rfl))) (mvT hZ (hw _ (List.mem_of_getElem? (i := 1) rfl))) (mvT hZ (hw _ (List.mem_of_getElem? (i := 2) rfl))) (mvT hZ (hw _ (List.mem_of_getElem? (i := 3) rfl))) (by decide) (backOf (W := 0) (rm1 l Z a0 hw [] ((p5 &&& (255 : Int32)).toUInt32.toUInt16.toUInt32.toInt32) gC hh n0 Z0 SC PC O0 (own_c255 _)) hZ (hw _ (List.mem_of_getElem? (i := 3) rfl)) (hw _ (List.mem_of_getElem? (i := 2) rfl)) (by decide) (by decide)) (g := (mkF m 193 #[.val (.int p1), .val (.int p2), .val (.int p3), .val (.int p4), .val (.int p5), .val (.int (xa.toInt32)), .val (.int (xb.toInt32)), .val (.int (1 : Int32)), .val (.ref nm), .val (.int (0 : Int32)), .val .null, .val (.int (0 : Int32)), .val (.int (0 : Int32)), .unset, .unset] [(.int ((p5 &&& (255 : Int32)).toUInt32.toUInt16.toUInt32.toInt32))])) rfl (by rw [hml]; rfl) (argsL := [(.int ((p5 &&& (255 : Int32)).toUInt32.toUInt16.toUInt32.toInt32))]) (rest := []) (lenOf pd_18 rfl) rfl (by show 2 * 0 + _ ≤ _; exact Nat.le_of_eq rfl) (hb hby at_193) (fun _ _ => ⟨rfl, e0, (by decide : 9 + 2 ≤ _), (by decide : 60 + 5 ≤ _)⟩)
  dsimp only [Pt.U, Pt.locs, Pt.cells, Pt.slots] at X1 l1 y1 z1 st1 hQ1
  subst l1 y1 z1
  obtain ⟨b1, t1, kb1, rfl, N1q, K1, g_b1, lt1, E_b1, Co1, Va1, V_t1⟩ := hQ1
  have N1 := Fr.app N0 N1q
  have ne_nm_b1 : nm ≠ b1 := Nat.ne_of_lt (Nat.lt_of_lt_of_le E_nm.lt lt1)
  have ne_tn_b1 : tn ≠ b1 := Nat.ne_of_lt (Nat.lt_of_lt_of_le V_tn.lt lt1)
  obtain ⟨h1, e1⟩ : ∃ z, T1.heap = z := ⟨_, rfl⟩
  rw [e1] at K1 E_b1 Co1 Va1 V_t1
  have Sk2 : ∀ x ∈ [], Safe Z EL vm0 hh x := all0
  replace CR := CR.trans (CHr.keep K1 Sk2 CR.1)
  replace hk := Nat.le_trans hk K1.1
  replace Z0 := Nat.le_trans Z0 K1.1
  replace O0 := O0.keep K1 all0
  replace E_nm := E_nm.keep K1
  replace Fc_nm := Fc_nm.keep K1 nin0
  replace Fv_nm := Fv_nm.keep K1 nin0
  replace V_tn := V_tn.keep K1 nin0
  refine GoH.st (T' := T1) (pc' := 196) (L' := #[.val (.int p1), .val (.int p2), .val (.int p3), .val (.int p4), .val (.int p5), .val (.int (xa.toInt32)), .val (.int (xb.toInt32)), .val (.int (1 : Int32)), .val (.ref nm), .val (.int (0 : Int32)), .val .null, .val (.int (0 : Int32)), .val (.int (0 : Int32)), .unset, .unset]) (S' := [(.ref b1)]) st1 ?_
  refine GoH.st (T' := T1) (pc' := 198) (L' := #[.val (.int p1), .val (.int p2), .val (.int p3), .val (.int p4), .val (.int p5), .val (.int (xa.toInt32)), .val (.int (xb.toInt32)), .val (.int (1 : Int32)), .val (.ref nm), .val (.int (0 : Int32)), .val .null, .val (.int (0 : Int32)), .val (.int (0 : Int32)), .val (.ref b1), .unset]) (S' := []) (fun t_ k_ => XS.astore X1.here hx rfl (hb hby at_196) rfl rfl (l' := #[.val (.int p1), .val (.int p2), .val (.int p3), .val (.int p4), .val (.int p5), .val (.int (xa.toInt32)), .val (.int (xb.toInt32)), .val (.int (1 : Int32)), .val (.ref nm), .val (.int (0 : Int32)), .val .null, .val (.int (0 : Int32)), .val (.int (0 : Int32)), .val (.ref b1), .unset]) rfl k_) ?_
  obtain ⟨T3, h3, X3, e3, E3, A3, D3, U3, st3⟩ := newO X1 hx hZ hown (hw _ (List.mem_of_getElem? (i := 37) rfl)) (hw _ (List.mem_of_getElem? (i := 38) rfl)) (hw _ (List.mem_of_getElem? (i := 39) rfl)) e1 (g := (mkF m 198 #[.val (.int p1), .val (.int p2), .val (.int p3), .val (.int p4), .val (.int p5), .val (.int (xa.toInt32)), .val (.int (xb.toInt32)), .val (.int (1 : Int32)), .val (.ref nm), .val (.int (0 : Int32)), .val .null, .val (.int (0 : Int32)), .val (.int (0 : Int32)), .val (.ref b1), .unset] [])) rfl (hb hby at_198) (by decide) (by decide)
  obtain ⟨b3, g3⟩ : ∃ z, z = h1.size := ⟨_, rfl⟩
  rw [← g3] at A3 D3 U3 st3
  have ne_nm_b3 : nm ≠ b3 := Nat.ne_of_lt (Nat.lt_of_lt_of_le E_nm.lt (Nat.le_of_eq g3.symm))
  have ne_tn_b3 : tn ≠ b3 := Nat.ne_of_lt (Nat.lt_of_lt_of_le V_tn.lt (Nat.le_of_eq g3.symm))
  have ne_b1_b3 : b1 ≠ b3 := Nat.ne_of_lt (Nat.lt_of_lt_of_le E_b1.lt (Nat.le_of_eq g3.symm))
  have g_b3 : n0 ≤ b3 := Nat.le_trans Z0 (Nat.le_of_eq g3.symm)
  replace CR := CR.trans (CHr.ext E3 CR.1)
  replace hk := Nat.le_trans hk E3.1
  replace Z0 := Nat.le_trans Z0 E3.1
  replace O0 := O0.ext E3
  replace E_nm := E_nm.ext E3
  replace Fc_nm := Fc_nm.ext E3
  replace Fv_nm := Fv_nm.ext E3
  replace V_tn := V_tn.ext E3
  replace E_b1 := E_b1.ext E3
  have E_b3 := A3
  have F_b3_name : Fld Z h3 b3 "com/example/placewright/placewright/cli/Option" "name" "Ljava/lang/String;" .null := D3 (Or.inr (hw _ (List.mem_of_getElem? (i := 126) rfl))) (ty := (.object "java/lang/String")) (by decide)
  have F_b3_valueName : Fld Z h3 b3 "com/example/placewright/placewright/cli/Option" "valueName" "Ljava/lang/String;" .null := D3 (Or.inr (hw _ (List.mem_of_getElem? (i := 128) rfl))) (ty := (.object "java/lang/String")) (by decide)
  have F_b3_required : Fld Z h3 b3 "com/example/placewright/placewright/cli/Option" "required" "Z" (.int (0 : Int32)) := D3 (Or.inr (hw _ (List.mem_of_getElem? (i := 130) rfl))) (ty := .boolean) (by decide)
  have F_b3_repeated : Fld Z h3 b3 "com/example/placewright/placewright/cli/Option" "repeated" "Z" (.int (0 : Int32)) := D3 (Or.inr (hw _ (List.mem_of_getElem? (i := 132) rfl))) (ty := .boolean) (by decide)
  have F_b3_description : Fld Z h3 b3 "com/example/placewright/placewright/cli/Option" "description" "Ljava/lang/String;" .null := D3 (Or.inr (hw _ (List.mem_of_getElem? (i := 134) rfl))) (ty := (.object "java/lang/String")) (by decide)
  refine GoH.st (T' := T3) (pc' := 201) (L' := #[.val (.int p1), .val (.int p2), .val (.int p3), .val (.int p4), .val (.int p5), .val (.int (xa.toInt32)), .val (.int (xb.toInt32)), .val (.int (1 : Int32)), .val (.ref nm), .val (.int (0 : Int32)), .val .null, .val (.int (0 : Int32)), .val (.int (0 : Int32)), .val (.ref b1), .unset]) (S' := [(.ref b3)]) st3 ?_
  refine GoH.st (T' := T3) (pc' := 202) (L' := #[.val (.int p1), .val (.int p2), .val (.int p3), .val (.int p4), .val (.int p5), .val (.int (xa.toInt32)), .val (.int (xb.toInt32)), .val (.int (1 : Int32)), .val (.ref nm), .val (.int (0 : Int32)), .val .null, .val (.int (0 : Int32)), .val (.int (0 : Int32)), .val (.ref b1), .unset]) (S' := [(.ref b3), (.ref b3)]) (fun t_ k_ => XS.dup X3.here hx rfl (hb hby at_201) rfl rfl k_) ?_
  refine GoH.st (T' := T3) (pc' := 204) (L' := #[.val (.int p1), .val (.int p2), .val (.int p3), .val (.int p4), .val (.int p5), .val (.int (xa.toInt32)), .val (.int (xb.toInt32)), .val (.int (1 : Int32)), .val (.ref nm), .val (.int (0 : Int32)), .val .null, .val (.int (0 : Int32)), .val (.int (0 : Int32)), .val (.ref b1), .unset]) (S' := [(.ref nm), (.ref b3), (.ref b3)]) (fun t_ k_ => XS.aload X3.here hx rfl (hb hby at_202) rfl rfl  k_) ?_
  refine GoH.st (T' := T3) (pc' := 206) (L' := #[.val (.int p1), .val (.int p2), .val (.int p3), .val (.int p4), .val (.int p5), .val (.int (xa.toInt32)), .val (.int (xb.toInt32)), .val (.int (1 : Int32)), .val (.ref nm), .val (.int (0 : Int32)), .val .null, .val (.int (0 : Int32)), .val (.int (0 : Int32)), .val (.ref b1), .unset]) (S' := [.null, (.ref nm), (.ref b3), (.ref b3)]) (fun t_ k_ => XS.aload X3.here hx rfl (hb hby at_204) rfl rfl  k_) ?_
  refine GoH.st (T' := T3) (pc' := 208) (L' := #[.val (.int p1), .val (.int p2), .val (.int p3), .val (.int p4), .val (.int p5), .val (.int (xa.toInt32)), .val (.int (xb.toInt32)), .val (.int (1 : Int32)), .val (.ref nm), .val (.int (0 : Int32)), .val .null, .val (.int (0 : Int32)), .val (.int (0 : Int32)), .val (.ref b1), .unset]) (S' := [(.int (0 : Int32)), .null, (.ref nm), (.ref b3), (.ref b3)]) (fun t_ k_ => XS.iload X3.here hx rfl (hb hby at_206) rfl  k_) ?_
  refine GoH.st (T' := T3) (pc' := 210) (L' := #[.val (.int p1), .val (.int p2), .val (.int p3), .val (.int p4), .val (.int p5), .val (.int (xa.toInt32)), .val (.int (xb.toInt32)), .val (.int (1 : Int32)), .val (.ref nm), .val (.int (0 : Int32)), .val .null, .val (.int (0 : Int32)), .val (.int (0 : Int32)), .val (.ref b1), .unset]) (S' := [(.int (0 : Int32)), (.int (0 : Int32)), .null, (.ref nm), (.ref b3), (.ref b3)]) (fun t_ k_ => XS.iload X3.here hx rfl (hb hby at_208) rfl  k_) ?_
  refine GoH.st (T' := T3) (pc' := 212) (L' := #[.val (.int p1), .val (.int p2), .val (.int p3), .val (.int p4), .val (.int p5), .val (.int (xa.toInt32)), .val (.int (xb.toInt32)), .val (.int (1 : Int32)), .val (.ref nm), .val (.int (0 : Int32)), .val .null, .val (.int (0 : Int32)), .val (.int (0 : Int32)), .val (.ref b1), .unset]) (S' := [(.ref b1), (.int (0 : Int32)), (.int (0 : Int32)), .null, (.ref nm), (.ref b3), (.ref b3)]) (fun t_ k_ => XS.aload X3.here hx rfl (hb hby at_210) rfl rfl  k_) ?_
  obtain ⟨_, _, ⟨T4, L4, k4, n4⟩, -, X4, hS4, hg4, ⟨Lc4, hQ4, l4, y4, z4, CR4⟩, st4⟩ := X3.specialBackS hx (y := (⟨"com/example/placewright/placewright/cli/Option", "<init>", "(Ljava/lang/String;Ljava/lang/String;ZZLjava/lang/String;)V"⟩ : MethodName)) rfl hown (mvT hZ (hw _ (List.mem_of_getElem? (i := 40) rfl))) (mvT hZ (hw _ (List.mem_of_getElem? (i := 41) rfl))) (mvT hZ (hw _ (List.mem_of_getElem? (i := 42) rfl))) (by decide) (backOfSH (W := 1) (rmop2n l Z a0 hw [] b3 nm tn _ b1 gC  (((nar .char (xa.toInt32)).toInt8.toInt32)) (((nar .char (xb.toInt32)).toInt8.toInt32)) h3 n0 Z0 SC PC O0 E_b3 g_b3 (Ne.symm ne_tn_b3) F_b3_name F_b3_valueName F_b3_required F_b3_repeated F_b3_description E_nm Fc_nm Fv_nm V_tn (((own_byf ⟨xa, hxa⟩).2.2.1 na1).1) ⟨((own_byf ⟨xa, hxa⟩).2.2.2 na2).1, ((own_byf ⟨xb, hxb⟩).2.2.2 nb2).1⟩) hZ (hw _ (List.mem_of_getElem? (i := 42) rfl)) (hw _ (List.mem_of_getElem? (i := 39) rfl)) (by decide) (by decide) (own_EW hw) CR.1) (g := (mkF m 212 #[.val (.int p1), .val (.int p2), .val (.int p3), .val (.int p4), .val (.int p5), .val (.int (xa.toInt32)), .val (.int (xb.toInt32)), .val (.int (1 : Int32)), .val (.ref nm), .val (.int (0 : Int32)), .val .null, .val (.int (0 : Int32)), .val (.int (0 : Int32)), .val (.ref b1), .unset] [(.ref b1), (.int (0 : Int32)), (.int (0 : Int32)), .null, (.ref nm), (.ref b3), (.ref b3)])) rfl (by rw [hml]; rfl) (Steps.refl _) (a := b3) (argsL := [(.ref nm), .null, (.int (0 : Int32)), (.int (0 : Int32)), (.ref b1)]) (rest := [(.ref b3)]) (lenOf pd_19 rfl) rfl (by show 2 * 0 + _ ≤ _; exact Nat.le_of_eq rfl) (hb hby at_212) (fun _ _ => ⟨rfl, e3, (by decide : 12 + 10 ≤ _), (by decide : 70 + 104 ≤ _)⟩)
  dsimp only [Pt.U, Pt.locs, Pt.cells, Pt.slots] at X4 l4 y4 z4 st4 hQ4 hS4 hg4 CR4
  subst l4 y4 z4
  replace X4 : Stand p l e _ (s.setVm T4.vm) m _ below meth c T4 _ _ _ := X4
  replace hS := foldS hS (T := T3) (Nat.le_trans hk (Nat.le_of_eq (congrArg Array.size e3.symm))) hS4 hg4
  replace hk := Nat.le_refl T4.heap.size
  replace hZ : Z.Warmed39 (s.setVm T4.vm).vm := State.Warmed39.trans (t := s.setVm vm0) hZ hS4.1
  replace hown : (s.setVm T4.vm).vm.findClass "com/example/placewright/placewright/cli/OptionTakesValuePinLaw" = some m.cls := by rw [show (s.setVm T4.vm).vm = T4.vm from rfl, hS4.1.alike.findClass]; exact hown
  obtain ⟨rfl, N4q, K4, Fvn4⟩ := hQ4
  have N4 := Fr.app N1 N4q
  obtain ⟨h4, e4⟩ : ∃ z, T4.heap = z := ⟨_, rfl⟩
  rw [e4] at K4 Fvn4 CR4
  replace CR := CR.trans CR4
  replace Z0 := Nat.le_trans Z0 K4.1
  replace O0 := O0.keep K4 (allS g_b3 all0)
  replace E_nm := E_nm.keep K4
  replace Fc_nm := Fc_nm.keep K4 (ninS ne_nm_b3 nin0)
  replace Fv_nm := Fv_nm.keep K4 (ninS ne_nm_b3 nin0)
  replace V_tn := V_tn.keep K4 (ninS ne_tn_b3 nin0)
  replace E_b1 := E_b1.keep K4
  replace E_b3 := E_b3.keep K4
  replace hk : T4.heap.size ≤ h4.size := Nat.le_of_eq (congrArg Array.size e4)
  refine GoH.tr (T' := T4) (pc' := 215) (L' := #[.val (.int p1), .val (.int p2), .val (.int p3), .val (.int p4), .val (.int p5), .val (.int (xa.toInt32)), .val (.int (xb.toInt32)), .val (.int (1 : Int32)), .val (.ref nm), .val (.int (0 : Int32)), .val .null, .val (.int (0 : Int32)), .val (.int (0 : Int32)), .val (.ref b1), .unset]) (S' := [(.ref b3)]) st4 ?_
  refine GoH.st (T' := T4) (pc' := 217) (L' := #[.val (.int p1), .val (.int p2), .val (.int p3), .val (.int p4), .val (.int p5), .val (.int (xa.toInt32)), .val (.int (xb.toInt32)), .val (.int (1 : Int32)), .val (.ref nm), .val (.int (0 : Int32)), .val .null, .val (.int (0 : Int32)), .val (.int (0 : Int32)), .val (.ref b1), .val (.ref b3)]) (S' := []) (fun t_ k_ => XS.astore X4.here hx rfl (hb hby at_215) rfl rfl (l' := #[.val (.int p1), .val (.int p2), .val (.int p3), .val (.int p4), .val (.int p5), .val (.int (xa.toInt32)), .val (.int (xb.toInt32)), .val (.int (1 : Int32)), .val (.ref nm), .val (.int (0 : Int32)), .val .null, .val (.int (0 : Int32)), .val (.int (0 : Int32)), .val (.ref b1), .val (.ref b3)]) rfl k_) ?_
  refine GoH.st (T' := T4) (pc' := 219) (L' := #[.val (.int p1), .val (.int p2), .val (.int p3), .val (.int p4), .val (.int p5), .val (.int (xa.toInt32)), .val (.int (xb.toInt32)), .val (.int (1 : Int32)), .val (.ref nm), .val (.int (0 : Int32)), .val .null, .val (.int (0 : Int32)), .val (.int (0 : Int32)), .val (.ref b1), .val (.ref b3)]) (S' := [(.ref b3)]) (fun t_ k_ => XS.aload X4.here hx rfl (hb hby at_217) rfl rfl  k_) ?_
  obtain ⟨cq6, kq6, q6a, q6b, q6c⟩ := isOf hZ e4 E_b3
  obtain ⟨_, _, ⟨T6, L6, k6, n6⟩, -, X6, ⟨Lc6, hQ6, l6, y6, z6⟩, st6⟩ := X4.virtualBack hx (y := (⟨"com/example/placewright/placewright/cli/Option", "takesValue", "()Z"⟩ : MethodName)) (z := (⟨"com/example/placewright/placewright/cli/Option", "takesValue", "()Z"⟩ : MethodName)) hown (mvT hZ (hw _ (List.mem_of_getElem? (i := 135) rfl))) (mvT hZ (hw _ (List.mem_of_getElem? (i := 136) rfl))) (notFace_of_selects (args := #[]) (mvT hZ (hw _ (List.mem_of_getElem? (i := 138) rfl)))) (mvT hZ (hw _ (List.mem_of_getElem? (i := 138) rfl))) (mvT hZ (hw _ (List.mem_of_getElem? (i := 137) rfl))) (by decide) (backOf (W := 0) (rmtvn l Z a0 hw [] b3 h4 n0 Z0 Fvn4) hZ (hw _ (List.mem_of_getElem? (i := 139) rfl)) (hw _ (List.mem_of_getElem? (i := 39) rfl)) (by decide) (by decide)) q6a q6c (g := (mkF m 219 #[.val (.int p1), .val (.int p2), .val (.int p3), .val (.int p4), .val (.int p5), .val (.int (xa.toInt32)), .val (.int (xb.toInt32)), .val (.int (1 : Int32)), .val (.ref nm), .val (.int (0 : Int32)), .val .null, .val (.int (0 : Int32)), .val (.int (0 : Int32)), .val (.ref b1), .val (.ref b3)] [(.ref b3)])) rfl (by rw [hml]; rfl) (Steps.refl _) (argsL := []) (rest := []) (lenOf pd_6 rfl) rfl (by show 2 * 0 + _ ≤ _; exact Nat.le_of_eq rfl) (hb hby at_219) (fun _ _ => ⟨rfl, e4, (by decide : 22 + 0 ≤ _), (by decide : 174 + 0 ≤ _)⟩)
  dsimp only [Pt.U, Pt.locs, Pt.cells, Pt.slots] at X6 l6 y6 z6 st6 hQ6
  subst l6 y6 z6
  obtain ⟨rfl, N6q, e6⟩ := hQ6
  have N6 := Fr.app N4 N6q
  refine GoH.tr (T' := T6) (pc' := 222) (L' := #[.val (.int p1), .val (.int p2), .val (.int p3), .val (.int p4), .val (.int p5), .val (.int (xa.toInt32)), .val (.int (xb.toInt32)), .val (.int (1 : Int32)), .val (.ref nm), .val (.int (0 : Int32)), .val .null, .val (.int (0 : Int32)), .val (.int (0 : Int32)), .val (.ref b1), .val (.ref b3)]) (S' := [(.int (0 : Int32))]) st6 ?_
  refine GoH.st (T' := T6) (pc' := 224) (L' := #[.val (.int p1), .val (.int p2), .val (.int p3), .val (.int p4), .val (.int p5), .val (.int (xa.toInt32)), .val (.int (xb.toInt32)), .val (.int (1 : Int32)), .val (.ref nm), .val (.int (0 : Int32)), .val .null, .val (.int (0 : Int32)), .val (.int (0 : Int32)), .val (.ref b1), .val (.ref b3)]) (S' := [(.int (0 : Int32)), (.int (0 : Int32))]) (fun t_ k_ => XS.iload X6.here hx rfl (hb hby at_222) rfl  k_) ?_
  refine GoH.st (T' := T6) (pc' := 227) (L' := #[.val (.int p1), .val (.int p2), .val (.int p3), .val (.int p4), .val (.int p5), .val (.int (xa.toInt32)), .val (.int (xb.toInt32)), .val (.int (1 : Int32)), .val (.ref nm), .val (.int (0 : Int32)), .val .null, .val (.int (0 : Int32)), .val (.int (0 : Int32)), .val (.ref b1), .val (.ref b3)]) (S' := []) (fun t_ k_ => XS.icmpNo X6.here hx rfl (hb hby at_224) rfl (teq (by decide : ((0 : Int32) = (0 : Int32)))).2 k_) ?_
  refine GoH.st (T' := T6) (pc' := 228) (L' := #[.val (.int p1), .val (.int p2), .val (.int p3), .val (.int p4), .val (.int p5), .val (.int (xa.toInt32)), .val (.int (xb.toInt32)), .val (.int (1 : Int32)), .val (.ref nm), .val (.int (0 : Int32)), .val .null, .val (.int (0 : Int32)), .val (.int (0 : Int32)), .val (.ref b1), .val (.ref b3)]) (S' := [(.int (1 : Int32))]) (fun t_ k_ => XS.iconst X6.here hx rfl (hb hby at_227) k_) ?_
  refine GoH.st (T' := T6) (pc' := 232) (L' := #[.val (.int p1), .val (.int p2), .val (.int p3), .val (.int p4), .val (.int p5), .val (.int (xa.toInt32)), .val (.int (xb.toInt32)), .val (.int (1 : Int32)), .val (.ref nm), .val (.int (0 : Int32)), .val .null, .val (.int (0 : Int32)), .val (.int (0 : Int32)), .val (.ref b1), .val (.ref b3)]) (S' := [(.int (1 : Int32))]) (fun t_ k_ => XS.goto X6.here hx rfl (pc0 := 228) (pc' := 232) rfl (hb hby at_228) (by decide) (by decide) k_) ?_
  exact GoH.retN X6 hx hlk hret (by simp) (hb hby at_232) (by decide) (by decide) hS hk e6 hs0 hZ (own_EW hw) CR (by rw [e6]; exact ⟨rfl, N6⟩)

set_option maxRecDepth 65536 in
set_option maxHeartbeats 40000000 in
theorem seg186_2_1 {p : Program} {l : Launch} {e : Env} {s : State} {m : MethodId} {args : Array Value} {below : List Frame} {meth : Method} {c : Code} {T0 : State} {locs : List Loc} {Z : State} {a0 : Array Value} {n0 k0 : Nat} {h0 hh : Heap} {vm0 : Vm} (p1 : Int32) (p2 : Int32) (p3 : Int32) (p4 : Int32) (p5 : Int32) (xa : Nat) (xb : Nat) (gC : Int32) (nm : Addr) (tn : Addr) (kn : ClassId) (vn : Addr) (r3 : Int32) (r4 : Int32)
    (X0 : Stand p l e room_1 (s.setVm vm0) m args below meth c T0 locs 9 60) (hx : p.tables.exec = Jvm.exec) (hZ : Z.Warmed39 (s.setVm vm0).vm) (hw : ∀ d ∈ tables_1, d.before a0 Z = true) (hby : c.code = code) (hml : c.maxLocals = 15) (hown : (s.setVm vm0).vm.findClass "com/example/placewright/placewright/cli/OptionTakesValuePinLaw" = some m.cls) (hnm : meth.name = "law") (hret : meth.sig.returnType = (some .boolean)) (hlk : meth.locks = false) (e0 : T0.heap = hh) (hs0 : s.heap = h0) (CR : CHr Z EL s.vm h0 vm0 hh) (hS : s.Since vm0 k0) (hk : k0 ≤ hh.size) (N0 : Fr n0 locs) (SC : Sta Z Z.heap "java/lang/String" "COMPACT_STRINGS" "Z" (.int gC)) (PC : ¬ (gC = (0 : Int32))) (O0 : Old Z n0 hh) (Z0 : n0 ≤ hh.size) (E_nm : Exa Z hh nm "java/lang/String") (Fc_nm : Fld Z hh nm "java/lang/String" "coder" "B" (.int (0 : Int32))) (Fv_nm : Fld Z hh nm "java/lang/String" "value" "[B" (.ref tn)) (V_tn : Arv Z hh tn kn .byte (2 : Int32) [(.int ((nar .char (xa.toInt32)).toInt8.toInt32)), (.int ((nar .char (xb.toInt32)).toInt8.toInt32))] (.int (0 : Int32))) (hxa : xa < 256) (hxb : xb < 256) (na1 : xa ≠ 45) (na2 : xa ≠ 61) (nb2 : xb ≠ 61) :
    GoH Z EL p e below s room_1.cells room_1.slots (Q0 Z h0 n0) m T0 186 #[.val (.int p1), .val (.int p2), .val (.int p3), .val (.int p4), .val (.int p5), .val (.int (xa.toInt32)), .val (.int (xb.toInt32)), .val (.int (1 : Int32)), .val (.ref nm), .val (.int (1 : Int32)), .val (.ref vn), .val (.int r3), .val (.int r4), .unset, .unset] [] := by
  refine GoH.st (T' := T0) (pc' := 188) (L' := #[.val (.int p1), .val (.int p2), .val (.int p3), .val (.int p4), .val (.int p5), .val (.int (xa.toInt32)), .val (.int (xb.toInt32)), .val (.int (1 : Int32)), .val (.ref nm), .val (.int (1 : Int32)), .val (.ref vn), .val (.int r3), .val (.int r4), .unset, .unset]) (S' := [(.int p5)]) (fun t_ k_ => XS.iload X0.here hx rfl (hb hby at_186) rfl  k_) ?_
  refine GoH.st (T' := T0) (pc' := 191) (L' := #[.val (.int p1), .val (.int p2), .val (.int p3), .val (.int p4), .val (.int p5), .val (.int (xa.toInt32)), .val (.int (xb.toInt32)), .val (.int (1 : Int32)), .val (.ref nm), .val (.int (1 : Int32)), .val (.ref vn), .val (.int r3), .val (.int r4), .unset, .unset]) (S' := [(.int (255 : Int32)), (.int p5)]) (fun t_ k_ => XS.sipush X0.here hx rfl (hb hby at_188) k_) ?_
  refine GoH.st (T' := T0) (pc' := 192) (L' := #[.val (.int p1), .val (.int p2), .val (.int p3), .val (.int p4), .val (.int p5), .val (.int (xa.toInt32)), .val (.int (xb.toInt32)), .val (.int (1 : Int32)), .val (.ref nm), .val (.int (1 : Int32)), .val (.ref vn), .val (.int r3), .val (.int r4), .unset, .unset]) (S' := [(.int (p5 &&& (255 : Int32)))]) (fun t_ k_ => XS.iand X0.here hx rfl (hb hby at_191) rfl k_) ?_
  refine GoH.st (T' := T0) (pc' := 193) (L' := #[.val (.int p1), .val (.int p2), .val (.int p3), .val (.int p4), .val (.int p5), .val (.int (xa.toInt32)), .val (.int (xb.toInt32)), .val (.int (1 : Int32)), .val (.ref nm), .val (.int (1 : Int32)), .val (.ref vn), .val (.int r3), .val (.int r4), .unset, .unset]) (S' := [(.int ((p5 &&& (255 : Int32)).toUInt32.toUInt16.toUInt32.toInt32))]) (fun t_ k_ => XS.i2c X0.here hx rfl (hb hby at_192) rfl k_) ?_
  obtain ⟨_, _, ⟨T1, L1, k1, n1⟩, -, X1, ⟨Lc1, hQ1, l1, y1, z1⟩, st1⟩ := Jvm.LawKit.callS X0 hx (y := (⟨"java/lang/String", "valueOf", "(C)Ljava/lang/String;"⟩ : MethodName)) hown (mvT hZ (hw _ (List.mem_of_getElem? (i := 0) rfl))) (mvT hZ (hw _ (List.mem_of_getElem? (i := 1) rfl))) (mvT hZ (hw _ (List.mem_of_getElem? (i := 2) rfl))) (mvT hZ (hw _ (List.mem_of_getElem? (i := 3) rfl))) (by decide) (backOf (W := 0) (rm1 l Z a0 hw [] ((p5 &&& (255 : Int32)).toUInt32.toUInt16.toUInt32.toInt32) gC hh n0 Z0 SC PC O0 (own_c255 _)) hZ (hw _ (List.mem_of_getElem? (i := 3) rfl)) (hw _ (List.mem_of_getElem? (i := 2) rfl)) (by decide) (by decide)) (g := (mkF m 193 #[.val (.int p1), .val (.int p2), .val (.int p3), .val (.int p4), .val (.int p5), .val (.int (xa.toInt32)), .val (.int (xb.toInt32)), .val (.int (1 : Int32)), .val (.ref nm), .val (.int (1 : Int32)), .val (.ref vn), .val (.int r3), .val (.int r4), .unset, .unset] [(.int ((p5 &&& (255 : Int32)).toUInt32.toUInt16.toUInt32.toInt32))])) rfl (by rw [hml]; rfl) (argsL := [(.int ((p5 &&& (255 : Int32)).toUInt32.toUInt16.toUInt32.toInt32))]) (rest := []) (lenOf pd_18 rfl) rfl (by show 2 * 0 + _ ≤ _; exact Nat.le_of_eq rfl) (hb hby at_193) (fun _ _ => ⟨rfl, e0, (by decide : 9 + 2 ≤ _), (by decide : 60 + 5 ≤ _)⟩)
  dsimp only [Pt.U, Pt.locs, Pt.cells, Pt.slots] at X1 l1 y1 z1 st1 hQ1
  subst l1 y1 z1
  obtain ⟨b1, t1, kb1, rfl, N1q, K1, g_b1, lt1, E_b1, Co1, Va1, V_t1⟩ := hQ1
  have N1 := Fr.app N0 N1q
  have ne_nm_b1 : nm ≠ b1 := Nat.ne_of_lt (Nat.lt_of_lt_of_le E_nm.lt lt1)
  have ne_tn_b1 : tn ≠ b1 := Nat.ne_of_lt (Nat.lt_of_lt_of_le V_tn.lt lt1)
  obtain ⟨h1, e1⟩ : ∃ z, T1.heap = z := ⟨_, rfl⟩
  rw [e1] at K1 E_b1 Co1 Va1 V_t1
  have Sk2 : ∀ x ∈ [], Safe Z EL vm0 hh x := all0
  replace CR := CR.trans (CHr.keep K1 Sk2 CR.1)
  replace hk := Nat.le_trans hk K1.1
  replace Z0 := Nat.le_trans Z0 K1.1
  replace O0 := O0.keep K1 all0
  replace E_nm := E_nm.keep K1
  replace Fc_nm := Fc_nm.keep K1 nin0
  replace Fv_nm := Fv_nm.keep K1 nin0
  replace V_tn := V_tn.keep K1 nin0
  refine GoH.st (T' := T1) (pc' := 196) (L' := #[.val (.int p1), .val (.int p2), .val (.int p3), .val (.int p4), .val (.int p5), .val (.int (xa.toInt32)), .val (.int (xb.toInt32)), .val (.int (1 : Int32)), .val (.ref nm), .val (.int (1 : Int32)), .val (.ref vn), .val (.int r3), .val (.int r4), .unset, .unset]) (S' := [(.ref b1)]) st1 ?_
  refine GoH.st (T' := T1) (pc' := 198) (L' := #[.val (.int p1), .val (.int p2), .val (.int p3), .val (.int p4), .val (.int p5), .val (.int (xa.toInt32)), .val (.int (xb.toInt32)), .val (.int (1 : Int32)), .val (.ref nm), .val (.int (1 : Int32)), .val (.ref vn), .val (.int r3), .val (.int r4), .val (.ref b1), .unset]) (S' := []) (fun t_ k_ => XS.astore X1.here hx rfl (hb hby at_196) rfl rfl (l' := #[.val (.int p1), .val (.int p2), .val (.int p3), .val (.int p4), .val (.int p5), .val (.int (xa.toInt32)), .val (.int (xb.toInt32)), .val (.int (1 : Int32)), .val (.ref nm), .val (.int (1 : Int32)), .val (.ref vn), .val (.int r3), .val (.int r4), .val (.ref b1), .unset]) rfl k_) ?_
  obtain ⟨T3, h3, X3, e3, E3, A3, D3, U3, st3⟩ := newO X1 hx hZ hown (hw _ (List.mem_of_getElem? (i := 37) rfl)) (hw _ (List.mem_of_getElem? (i := 38) rfl)) (hw _ (List.mem_of_getElem? (i := 39) rfl)) e1 (g := (mkF m 198 #[.val (.int p1), .val (.int p2), .val (.int p3), .val (.int p4), .val (.int p5), .val (.int (xa.toInt32)), .val (.int (xb.toInt32)), .val (.int (1 : Int32)), .val (.ref nm), .val (.int (1 : Int32)), .val (.ref vn), .val (.int r3), .val (.int r4), .val (.ref b1), .unset] [])) rfl (hb hby at_198) (by decide) (by decide)
  obtain ⟨b3, g3⟩ : ∃ z, z = h1.size := ⟨_, rfl⟩
  rw [← g3] at A3 D3 U3 st3
  have ne_nm_b3 : nm ≠ b3 := Nat.ne_of_lt (Nat.lt_of_lt_of_le E_nm.lt (Nat.le_of_eq g3.symm))
  have ne_tn_b3 : tn ≠ b3 := Nat.ne_of_lt (Nat.lt_of_lt_of_le V_tn.lt (Nat.le_of_eq g3.symm))
  have ne_b1_b3 : b1 ≠ b3 := Nat.ne_of_lt (Nat.lt_of_lt_of_le E_b1.lt (Nat.le_of_eq g3.symm))
  have g_b3 : n0 ≤ b3 := Nat.le_trans Z0 (Nat.le_of_eq g3.symm)
  replace CR := CR.trans (CHr.ext E3 CR.1)
  replace hk := Nat.le_trans hk E3.1
  replace Z0 := Nat.le_trans Z0 E3.1
  replace O0 := O0.ext E3
  replace E_nm := E_nm.ext E3
  replace Fc_nm := Fc_nm.ext E3
  replace Fv_nm := Fv_nm.ext E3
  replace V_tn := V_tn.ext E3
  replace E_b1 := E_b1.ext E3
  have E_b3 := A3
  have F_b3_name : Fld Z h3 b3 "com/example/placewright/placewright/cli/Option" "name" "Ljava/lang/String;" .null := D3 (Or.inr (hw _ (List.mem_of_getElem? (i := 126) rfl))) (ty := (.object "java/lang/String")) (by decide)
  have F_b3_valueName : Fld Z h3 b3 "com/example/placewright/placewright/cli/Option" "valueName" "Ljava/lang/String;" .null := D3 (Or.inr (hw _ (List.mem_of_getElem? (i := 128) rfl))) (ty := (.object "java/lang/String")) (by decide)
  have F_b3_required : Fld Z h3 b3 "com/example/placewright/placewright/cli/Option" "required" "Z" (.int (0 : Int32)) := D3 (Or.inr (hw _ (List.mem_of_getElem? (i := 130) rfl))) (ty := .boolean) (by decide)
  have F_b3_repeated : Fld Z h3 b3 "com/example/placewright/placewright/cli/Option" "repeated" "Z" (.int (0 : Int32)) := D3 (Or.inr (hw _ (List.mem_of_getElem? (i := 132) rfl))) (ty := .boolean) (by decide)
  have F_b3_description : Fld Z h3 b3 "com/example/placewright/placewright/cli/Option" "description" "Ljava/lang/String;" .null := D3 (Or.inr (hw _ (List.mem_of_getElem? (i := 134) rfl))) (ty := (.object "java/lang/String")) (by decide)
  refine GoH.st (T' := T3) (pc' := 201) (L' := #[.val (.int p1), .val (.int p2), .val (.int p3), .val (.int p4), .val (.int p5), .val (.int (xa.toInt32)), .val (.int (xb.toInt32)), .val (.int (1 : Int32)), .val (.ref nm), .val (.int (1 : Int32)), .val (.ref vn), .val (.int r3), .val (.int r4), .val (.ref b1), .unset]) (S' := [(.ref b3)]) st3 ?_
  refine GoH.st (T' := T3) (pc' := 202) (L' := #[.val (.int p1), .val (.int p2), .val (.int p3), .val (.int p4), .val (.int p5), .val (.int (xa.toInt32)), .val (.int (xb.toInt32)), .val (.int (1 : Int32)), .val (.ref nm), .val (.int (1 : Int32)), .val (.ref vn), .val (.int r3), .val (.int r4), .val (.ref b1), .unset]) (S' := [(.ref b3), (.ref b3)]) (fun t_ k_ => XS.dup X3.here hx rfl (hb hby at_201) rfl rfl k_) ?_
  refine GoH.st (T' := T3) (pc' := 204) (L' := #[.val (.int p1), .val (.int p2), .val (.int p3), .val (.int p4), .val (.int p5), .val (.int (xa.toInt32)), .val (.int (xb.toInt32)), .val (.int (1 : Int32)), .val (.ref nm), .val (.int (1 : Int32)), .val (.ref vn), .val (.int r3), .val (.int r4), .val (.ref b1), .unset]) (S' := [(.ref nm), (.ref b3), (.ref b3)]) (fun t_ k_ => XS.aload X3.here hx rfl (hb hby at_202) rfl rfl  k_) ?_
  refine GoH.st (T' := T3) (pc' := 206) (L' := #[.val (.int p1), .val (.int p2), .val (.int p3), .val (.int p4), .val (.int p5), .val (.int (xa.toInt32)), .val (.int (xb.toInt32)), .val (.int (1 : Int32)), .val (.ref nm), .val (.int (1 : Int32)), .val (.ref vn), .val (.int r3), .val (.int r4), .val (.ref b1), .unset]) (S' := [(.ref vn), (.ref nm), (.ref b3), (.ref b3)]) (fun t_ k_ => XS.aload X3.here hx rfl (hb hby at_204) rfl rfl  k_) ?_
  refine GoH.st (T' := T3) (pc' := 208) (L' := #[.val (.int p1), .val (.int p2), .val (.int p3), .val (.int p4), .val (.int p5), .val (.int (xa.toInt32)), .val (.int (xb.toInt32)), .val (.int (1 : Int32)), .val (.ref nm), .val (.int (1 : Int32)), .val (.ref vn), .val (.int r3), .val (.int r4), .val (.ref b1), .unset]) (S' := [(.int r3), (.ref vn), (.ref nm), (.ref b3), (.ref b3)]) (fun t_ k_ => XS.iload X3.here hx rfl (hb hby at_206) rfl  k_) ?_
  refine GoH.st (T' := T3) (pc' := 210) (L' := #[.val (.int p1), .val (.int p2), .val (.int p3), .val (.int p4), .val (.int p5), .val (.int (xa.toInt32)), .val (.int (xb.toInt32)), .val (.int (1 : Int32)), .val (.ref nm), .val (.int (1 : Int32)), .val (.ref vn), .val (.int r3), .val (.int r4), .val (.ref b1), .unset]) (S' := [(.int r4), (.int r3), (.ref vn), (.ref nm), (.ref b3), (.ref b3)]) (fun t_ k_ => XS.iload X3.here hx rfl (hb hby at_208) rfl  k_) ?_
  refine GoH.st (T' := T3) (pc' := 212) (L' := #[.val (.int p1), .val (.int p2), .val (.int p3), .val (.int p4), .val (.int p5), .val (.int (xa.toInt32)), .val (.int (xb.toInt32)), .val (.int (1 : Int32)), .val (.ref nm), .val (.int (1 : Int32)), .val (.ref vn), .val (.int r3), .val (.int r4), .val (.ref b1), .unset]) (S' := [(.ref b1), (.int r4), (.int r3), (.ref vn), (.ref nm), (.ref b3), (.ref b3)]) (fun t_ k_ => XS.aload X3.here hx rfl (hb hby at_210) rfl rfl  k_) ?_
  obtain ⟨_, _, ⟨T4, L4, k4, n4⟩, -, X4, hS4, hg4, ⟨Lc4, hQ4, l4, y4, z4, CR4⟩, st4⟩ := X3.specialBackS hx (y := (⟨"com/example/placewright/placewright/cli/Option", "<init>", "(Ljava/lang/String;Ljava/lang/String;ZZLjava/lang/String;)V"⟩ : MethodName)) rfl hown (mvT hZ (hw _ (List.mem_of_getElem? (i := 40) rfl))) (mvT hZ (hw _ (List.mem_of_getElem? (i := 41) rfl))) (mvT hZ (hw _ (List.mem_of_getElem? (i := 42) rfl))) (by decide) (backOfSH (W := 1) (rmop2v l Z a0 hw [] b3 nm tn _ b1 gC vn r3 r4 (((nar .char (xa.toInt32)).toInt8.toInt32)) (((nar .char (xb.toInt32)).toInt8.toInt32)) h3 n0 Z0 SC PC O0 E_b3 g_b3 (Ne.symm ne_tn_b3) F_b3_name F_b3_valueName F_b3_required F_b3_repeated F_b3_description E_nm Fc_nm Fv_nm V_tn (((own_byf ⟨xa, hxa⟩).2.2.1 na1).1) ⟨((own_byf ⟨xa, hxa⟩).2.2.2 na2).1, ((own_byf ⟨xb, hxb⟩).2.2.2 nb2).1⟩) hZ (hw _ (List.mem_of_getElem? (i := 42) rfl)) (hw _ (List.mem_of_getElem? (i := 39) rfl)) (by decide) (by decide) (own_EW hw) CR.1) (g := (mkF m 212 #[.val (.int p1), .val (.int p2), .val (.int p3), .val (.int p4), .val (.int p5), .val (.int (xa.toInt32)), .val (.int (xb.toInt32)), .val (.int (1 : Int32)), .val (.ref nm), .val (.int (1 : Int32)), .val (.ref vn), .val (.int r3), .val (.int r4), .val (.ref b1), .unset] [(.ref b1), (.int r4), (.int r3), (.ref vn), (.ref nm), (.ref b3), (.ref b3)])) rfl (by rw [hml]; rfl) (Steps.refl _) (a := b3) (argsL := [(.ref nm), (.ref vn), (.int r3), (.int r4), (.ref b1)]) (rest := [(.ref b3)]) (lenOf pd_19 rfl) rfl (by show 2 * 0 + _ ≤ _; exact Nat.le_of_eq rfl) (hb hby at_212) (fun _ _ => ⟨rfl, e3, (by decide : 12 + 10 ≤ _), (by decide : 70 + 104 ≤ _)⟩)
  dsimp only [Pt.U, Pt.locs, Pt.cells, Pt.slots] at X4 l4 y4 z4 st4 hQ4 hS4 hg4 CR4
  subst l4 y4 z4
  replace X4 : Stand p l e _ (s.setVm T4.vm) m _ below meth c T4 _ _ _ := X4
  replace hS := foldS hS (T := T3) (Nat.le_trans hk (Nat.le_of_eq (congrArg Array.size e3.symm))) hS4 hg4
  replace hk := Nat.le_refl T4.heap.size
  replace hZ : Z.Warmed39 (s.setVm T4.vm).vm := State.Warmed39.trans (t := s.setVm vm0) hZ hS4.1
  replace hown : (s.setVm T4.vm).vm.findClass "com/example/placewright/placewright/cli/OptionTakesValuePinLaw" = some m.cls := by rw [show (s.setVm T4.vm).vm = T4.vm from rfl, hS4.1.alike.findClass]; exact hown
  obtain ⟨rfl, N4q, K4, Fvn4⟩ := hQ4
  have N4 := Fr.app N1 N4q
  obtain ⟨h4, e4⟩ : ∃ z, T4.heap = z := ⟨_, rfl⟩
  rw [e4] at K4 Fvn4 CR4
  replace CR := CR.trans CR4
  replace Z0 := Nat.le_trans Z0 K4.1
  replace O0 := O0.keep K4 (allS g_b3 all0)
  replace E_nm := E_nm.keep K4
  replace Fc_nm := Fc_nm.keep K4 (ninS ne_nm_b3 nin0)
  replace Fv_nm := Fv_nm.keep K4 (ninS ne_nm_b3 nin0)
  replace V_tn := V_tn.keep K4 (ninS ne_tn_b3 nin0)
  replace E_b1 := E_b1.keep K4
  replace E_b3 := E_b3.keep K4
  replace hk : T4.heap.size ≤ h4.size := Nat.le_of_eq (congrArg Array.size e4)
  refine GoH.tr (T' := T4) (pc' := 215) (L' := #[.val (.int p1), .val (.int p2), .val (.int p3), .val (.int p4), .val (.int p5), .val (.int (xa.toInt32)), .val (.int (xb.toInt32)), .val (.int (1 : Int32)), .val (.ref nm), .val (.int (1 : Int32)), .val (.ref vn), .val (.int r3), .val (.int r4), .val (.ref b1), .unset]) (S' := [(.ref b3)]) st4 ?_
  refine GoH.st (T' := T4) (pc' := 217) (L' := #[.val (.int p1), .val (.int p2), .val (.int p3), .val (.int p4), .val (.int p5), .val (.int (xa.toInt32)), .val (.int (xb.toInt32)), .val (.int (1 : Int32)), .val (.ref nm), .val (.int (1 : Int32)), .val (.ref vn), .val (.int r3), .val (.int r4), .val (.ref b1), .val (.ref b3)]) (S' := []) (fun t_ k_ => XS.astore X4.here hx rfl (hb hby at_215) rfl rfl (l' := #[.val (.int p1), .val (.int p2), .val (.int p3), .val (.int p4), .val (.int p5), .val (.int (xa.toInt32)), .val (.int (xb.toInt32)), .val (.int (1 : Int32)), .val (.ref nm), .val (.int (1 : Int32)), .val (.ref vn), .val (.int r3), .val (.int r4), .val (.ref b1), .val (.ref b3)]) rfl k_) ?_
  refine GoH.st (T' := T4) (pc' := 219) (L' := #[.val (.int p1), .val (.int p2), .val (.int p3), .val (.int p4), .val (.int p5), .val (.int (xa.toInt32)), .val (.int (xb.toInt32)), .val (.int (1 : Int32)), .val (.ref nm), .val (.int (1 : Int32)), .val (.ref vn), .val (.int r3), .val (.int r4), .val (.ref b1), .val (.ref b3)]) (S' := [(.ref b3)]) (fun t_ k_ => XS.aload X4.here hx rfl (hb hby at_217) rfl rfl  k_) ?_
  obtain ⟨cq6, kq6, q6a, q6b, q6c⟩ := isOf hZ e4 E_b3
  obtain ⟨_, _, ⟨T6, L6, k6, n6⟩, -, X6, ⟨Lc6, hQ6, l6, y6, z6⟩, st6⟩ := X4.virtualBack hx (y := (⟨"com/example/placewright/placewright/cli/Option", "takesValue", "()Z"⟩ : MethodName)) (z := (⟨"com/example/placewright/placewright/cli/Option", "takesValue", "()Z"⟩ : MethodName)) hown (mvT hZ (hw _ (List.mem_of_getElem? (i := 135) rfl))) (mvT hZ (hw _ (List.mem_of_getElem? (i := 136) rfl))) (notFace_of_selects (args := #[]) (mvT hZ (hw _ (List.mem_of_getElem? (i := 138) rfl)))) (mvT hZ (hw _ (List.mem_of_getElem? (i := 138) rfl))) (mvT hZ (hw _ (List.mem_of_getElem? (i := 137) rfl))) (by decide) (backOf (W := 0) (rmtvv l Z a0 hw [] b3 vn h4 n0 Z0 Fvn4) hZ (hw _ (List.mem_of_getElem? (i := 139) rfl)) (hw _ (List.mem_of_getElem? (i := 39) rfl)) (by decide) (by decide)) q6a q6c (g := (mkF m 219 #[.val (.int p1), .val (.int p2), .val (.int p3), .val (.int p4), .val (.int p5), .val (.int (xa.toInt32)), .val (.int (xb.toInt32)), .val (.int (1 : Int32)), .val (.ref nm), .val (.int (1 : Int32)), .val (.ref vn), .val (.int r3), .val (.int r4), .val (.ref b1), .val (.ref b3)] [(.ref b3)])) rfl (by rw [hml]; rfl) (Steps.refl _) (argsL := []) (rest := []) (lenOf pd_6 rfl) rfl (by show 2 * 0 + _ ≤ _; exact Nat.le_of_eq rfl) (hb hby at_219) (fun _ _ => ⟨rfl, e4, (by decide : 22 + 0 ≤ _), (by decide : 174 + 0 ≤ _)⟩)
  dsimp only [Pt.U, Pt.locs, Pt.cells, Pt.slots] at X6 l6 y6 z6 st6 hQ6
  subst l6 y6 z6
  obtain ⟨rfl, N6q, e6⟩ := hQ6
  have N6 := Fr.app N4 N6q
  refine GoH.tr (T' := T6) (pc' := 222) (L' := #[.val (.int p1), .val (.int p2), .val (.int p3), .val (.int p4), .val (.int p5), .val (.int (xa.toInt32)), .val (.int (xb.toInt32)), .val (.int (1 : Int32)), .val (.ref nm), .val (.int (1 : Int32)), .val (.ref vn), .val (.int r3), .val (.int r4), .val (.ref b1), .val (.ref b3)]) (S' := [(.int (1 : Int32))]) st6 ?_
  refine GoH.st (T' := T6) (pc' := 224) (L' := #[.val (.int p1), .val (.int p2), .val (.int p3), .val (.int p4), .val (.int p5), .val (.int (xa.toInt32)), .val (.int (xb.toInt32)), .val (.int (1 : Int32)), .val (.ref nm), .val (.int (1 : Int32)), .val (.ref vn), .val (.int r3), .val (.int r4), .val (.ref b1), .val (.ref b3)]) (S' := [(.int (1 : Int32)), (.int (1 : Int32))]) (fun t_ k_ => XS.iload X6.here hx rfl (hb hby at_222) rfl  k_) ?_
  refine GoH.st (T' := T6) (pc' := 227) (L' := #[.val (.int p1), .val (.int p2), .val (.int p3), .val (.int p4), .val (.int p5), .val (.int (xa.toInt32)), .val (.int (xb.toInt32)), .val (.int (1 : Int32)), .val (.ref nm), .val (.int (1 : Int32)), .val (.ref vn), .val (.int r3), .val (.int r4), .val (.ref b1), .val (.ref b3)]) (S' := []) (fun t_ k_ => XS.icmpNo X6.here hx rfl (hb hby at_224) rfl (teq (by decide : ((1 : Int32) = (1 : Int32)))).2 k_) ?_
  refine GoH.st (T' := T6) (pc' := 228) (L' := #[.val (.int p1), .val (.int p2), .val (.int p3), .val (.int p4), .val (.int p5), .val (.int (xa.toInt32)), .val (.int (xb.toInt32)), .val (.int (1 : Int32)), .val (.ref nm), .val (.int (1 : Int32)), .val (.ref vn), .val (.int r3), .val (.int r4), .val (.ref b1), .val (.ref b3)]) (S' := [(.int (1 : Int32))]) (fun t_ k_ => XS.iconst X6.here hx rfl (hb hby at_227) k_) ?_
  refine GoH.st (T' := T6) (pc' := 232) (L' := #[.val (.int p1), .val (.int p2), .val (.int p3), .val (.int p4), .val (.int p5), .val (.int (xa.toInt32)), .val (.int (xb.toInt32)), .val (.int (1 : Int32)), .val (.ref nm), .val (.int (1 : Int32)), .val (.ref vn), .val (.int r3), .val (.int r4), .val (.ref b1), .val (.ref b3)]) (S' := [(.int (1 : Int32))]) (fun t_ k_ => XS.goto X6.here hx rfl (pc0 := 228) (pc' := 232) rfl (hb hby at_228) (by decide) (by decide) k_) ?_
  exact GoH.retN X6 hx hlk hret (by simp) (hb hby at_232) (by decide) (by decide) hS hk e6 hs0 hZ (own_EW hw) CR (by rw [e6]; exact ⟨rfl, N6⟩)
theorem pd_20 : parseMethodDescriptor "([C)V" = some ⟨[(.array .char)], none⟩ := by decide +kernel
set_option maxRecDepth 65536 in
set_option maxHeartbeats 40000000 in
theorem seg96_1 {p : Program} {l : Launch} {e : Env} {s : State} {m : MethodId} {args : Array Value} {below : List Frame} {meth : Method} {c : Code} {T0 : State} {locs : List Loc} {Z : State} {a0 : Array Value} {n0 k0 : Nat} {h0 hh : Heap} {vm0 : Vm} (p1 : Int32) (p2 : Int32) (p3 : Int32) (p4 : Int32) (p5 : Int32) (xa : Nat) (xb : Nat) (gC : Int32) (nm : Addr) (tn : Addr) (kn : ClassId)
    (X0 : Stand p l e room_1 (s.setVm vm0) m args below meth c T0 locs 3 8) (hx : p.tables.exec = Jvm.exec) (hZ : Z.Warmed39 (s.setVm vm0).vm) (hw : ∀ d ∈ tables_1, d.before a0 Z = true) (hby : c.code = code) (hml : c.maxLocals = 15) (hown : (s.setVm vm0).vm.findClass "com/example/placewright/placewright/cli/OptionTakesValuePinLaw" = some m.cls) (hnm : meth.name = "law") (hret : meth.sig.returnType = (some .boolean)) (hlk : meth.locks = false) (e0 : T0.heap = hh) (hs0 : s.heap = h0) (CR : CHr Z EL s.vm h0 vm0 hh) (hS : s.Since vm0 k0) (hk : k0 ≤ hh.size) (N0 : Fr n0 locs) (SC : Sta Z Z.heap "java/lang/String" "COMPACT_STRINGS" "Z" (.int gC)) (PC : ¬ (gC = (0 : Int32))) (O0 : Old Z n0 hh) (Z0 : n0 ≤ hh.size) (E_nm : Exa Z hh nm "java/lang/String") (Fc_nm : Fld Z hh nm "java/lang/String" "coder" "B" (.int (0 : Int32))) (Fv_nm : Fld Z hh nm "java/lang/String" "value" "[B" (.ref tn)) (V_tn : Arv Z hh tn kn .byte (1 : Int32) [(.int (((xa.toInt32).toInt8.toInt32).toInt8.toInt32))] (.int (0 : Int32))) (hxa : xa < 256) (hxb : xb < 256) (na1 : xa ≠ 45) (na2 : xa ≠ 61) (nb2 : xb ≠ 61) :
    GoH Z EL p e below s room_1.cells room_1.slots (Q0 Z h0 n0) m T0 96 #[.val (.int p1), .val (.int p2), .val (.int p3), .val (.int p4), .val (.int p5), .val (.int (xa.toInt32)), .val (.int (xb.toInt32)), .val (.int (0 : Int32)), .val (.ref nm), .unset, .unset, .unset, .unset, .unset, .unset] [] := by
  refine GoH.st (T' := T0) (pc' := 97) (L' := #[.val (.int p1), .val (.int p2), .val (.int p3), .val (.int p4), .val (.int p5), .val (.int (xa.toInt32)), .val (.int (xb.toInt32)), .val (.int (0 : Int32)), .val (.ref nm), .unset, .unset, .unset, .unset, .unset, .unset]) (S' := [(.int p4)]) (fun t_ k_ => XS.iloadN X0.here hx rfl (hb hby at_96) rfl  k_) ?_
  refine GoH.st (T' := T0) (pc' := 98) (L' := #[.val (.int p1), .val (.int p2), .val (.int p3), .val (.int p4), .val (.int p5), .val (.int (xa.toInt32)), .val (.int (xb.toInt32)), .val (.int (0 : Int32)), .val (.ref nm), .unset, .unset, .unset, .unset, .unset, .unset]) (S' := [(.int (1 : Int32)), (.int p4)]) (fun t_ k_ => XS.iconst X0.here hx rfl (hb hby at_97) k_) ?_
  refine GoH.st (T' := T0) (pc' := 99) (L' := #[.val (.int p1), .val (.int p2), .val (.int p3), .val (.int p4), .val (.int p5), .val (.int (xa.toInt32)), .val (.int (xb.toInt32)), .val (.int (0 : Int32)), .val (.ref nm), .unset, .unset, .unset, .unset, .unset, .unset]) (S' := [(.int (p4 &&& (1 : Int32)))]) (fun t_ k_ => XS.iand X0.here hx rfl (hb hby at_98) rfl k_) ?_
  by_cases hc99_1 : (p4 &&& (1 : Int32)) = (0 : Int32)
  · refine GoH.st (T' := T0) (pc' := 106) (L' := #[.val (.int p1), .val (.int p2), .val (.int p3), .val (.int p4), .val (.int p5), .val (.int (xa.toInt32)), .val (.int (xb.toInt32)), .val (.int (0 : Int32)), .val (.ref nm), .unset, .unset, .unset, .unset, .unset, .unset]) (S' := []) (fun t_ k_ => XS.ifYes X0.here hx rfl (pc0 := 99) (pc' := 106) rfl (hb hby at_99) rfl ((if0 _ _).trans (teq hc99_1).1) (by decide) (by decide) k_) ?_
    refine GoH.st (T' := T0) (pc' := 107) (L' := #[.val (.int p1), .val (.int p2), .val (.int p3), .val (.int p4), .val (.int p5), .val (.int (xa.toInt32)), .val (.int (xb.toInt32)), .val (.int (0 : Int32)), .val (.ref nm), .unset, .unset, .unset, .unset, .unset, .unset]) (S' := [(.int (0 : Int32))]) (fun t_ k_ => XS.iconst X0.here hx rfl (hb hby at_106) k_) ?_
    refine GoH.st (T' := T0) (pc' := 109) (L' := #[.val (.int p1), .val (.int p2), .val (.int p3), .val (.int p4), .val (.int p5), .val (.int (xa.toInt32)), .val (.int (xb.toInt32)), .val (.int (0 : Int32)), .val (.ref nm), .val (.int (0 : Int32)), .unset, .unset, .unset, .unset, .unset]) (S' := []) (fun t_ k_ => XS.istore X0.here hx rfl (hb hby at_107) rfl (l' := #[.val (.int p1), .val (.int p2), .val (.int p3), .val (.int p4), .val (.int p5), .val (.int (xa.toInt32)), .val (.int (xb.toInt32)), .val (.int (0 : Int32)), .val (.ref nm), .val (.int (0 : Int32)), .unset, .unset, .unset, .unset, .unset]) rfl k_) ?_
    refine GoH.st (T' := T0) (pc' := 110) (L' := #[.val (.int p1), .val (.int p2), .val (.int p3), .val (.int p4), .val (.int p5), .val (.int (xa.toInt32)), .val (.int (xb.toInt32)), .val (.int (0 : Int32)), .val (.ref nm), .val (.int (0 : Int32)), .unset, .unset, .unset, .unset, .unset]) (S' := [.null]) (fun t_ k_ => XS.aconstNull X0.here hx rfl (hb hby at_109) k_) ?_
    refine GoH.st (T' := T0) (pc' := 112) (L' := #[.val (.int p1), .val (.int p2), .val (.int p3), .val (.int p4), .val (.int p5), .val (.int (xa.toInt32)), .val (.int (xb.toInt32)), .val (.int (0 : Int32)), .val (.ref nm), .val (.int (0 : Int32)), .val .null, .unset, .unset, .unset, .unset]) (S' := []) (fun t_ k_ => XS.astore X0.here hx rfl (hb hby at_110) rfl rfl (l' := #[.val (.int p1), .val (.int p2), .val (.int p3), .val (.int p4), .val (.int p5), .val (.int (xa.toInt32)), .val (.int (xb.toInt32)), .val (.int (0 : Int32)), .val (.ref nm), .val (.int (0 : Int32)), .val .null, .unset, .unset, .unset, .unset]) rfl k_) ?_
    refine GoH.st (T' := T0) (pc' := 114) (L' := #[.val (.int p1), .val (.int p2), .val (.int p3), .val (.int p4), .val (.int p5), .val (.int (xa.toInt32)), .val (.int (xb.toInt32)), .val (.int (0 : Int32)), .val (.ref nm), .val (.int (0 : Int32)), .val .null, .unset, .unset, .unset, .unset]) (S' := [(.int (0 : Int32))]) (fun t_ k_ => XS.iload X0.here hx rfl (hb hby at_112) rfl  k_) ?_
    refine GoH.st (T' := T0) (pc' := 149) (L' := #[.val (.int p1), .val (.int p2), .val (.int p3), .val (.int p4), .val (.int p5), .val (.int (xa.toInt32)), .val (.int (xb.toInt32)), .val (.int (0 : Int32)), .val (.ref nm), .val (.int (0 : Int32)), .val .null, .unset, .unset, .unset, .unset]) (S' := []) (fun t_ k_ => XS.ifYes X0.here hx rfl (pc0 := 114) (pc' := 149) rfl (hb hby at_114) rfl ((if0 _ _).trans (teq (by decide : ((0 : Int32) = (0 : Int32)))).1) (by decide) (by decide) k_) ?_
    refine GoH.st (T' := T0) (pc' := 151) (L' := #[.val (.int p1), .val (.int p2), .val (.int p3), .val (.int p4), .val (.int p5), .val (.int (xa.toInt32)), .val (.int (xb.toInt32)), .val (.int (0 : Int32)), .val (.ref nm), .val (.int (0 : Int32)), .val .null, .unset, .unset, .unset, .unset]) (S' := [(.int (0 : Int32))]) (fun t_ k_ => XS.iload X0.here hx rfl (hb hby at_149) rfl  k_) ?_
    refine GoH.st (T' := T0) (pc' := 164) (L' := #[.val (.int p1), .val (.int p2), .val (.int p3), .val (.int p4), .val (.int p5), .val (.int (xa.toInt32)), .val (.int (xb.toInt32)), .val (.int (0 : Int32)), .val (.ref nm), .val (.int (0 : Int32)), .val .null, .unset, .unset, .unset, .unset]) (S' := []) (fun t_ k_ => XS.ifYes X0.here hx rfl (pc0 := 151) (pc' := 164) rfl (hb hby at_151) rfl ((if0 _ _).trans (teq (by decide : ((0 : Int32) = (0 : Int32)))).1) (by decide) (by decide) k_) ?_
    refine GoH.st (T' := T0) (pc' := 165) (L' := #[.val (.int p1), .val (.int p2), .val (.int p3), .val (.int p4), .val (.int p5), .val (.int (xa.toInt32)), .val (.int (xb.toInt32)), .val (.int (0 : Int32)), .val (.ref nm), .val (.int (0 : Int32)), .val .null, .unset, .unset, .unset, .unset]) (S' := [(.int (0 : Int32))]) (fun t_ k_ => XS.iconst X0.here hx rfl (hb hby at_164) k_) ?_
    refine GoH.st (T' := T0) (pc' := 167) (L' := #[.val (.int p1), .val (.int p2), .val (.int p3), .val (.int p4), .val (.int p5), .val (.int (xa.toInt32)), .val (.int (xb.toInt32)), .val (.int (0 : Int32)), .val (.ref nm), .val (.int (0 : Int32)), .val .null, .val (.int (0 : Int32)), .unset, .unset, .unset]) (S' := []) (fun t_ k_ => XS.istore X0.here hx rfl (hb hby at_165) rfl (l' := #[.val (.int p1), .val (.int p2), .val (.int p3), .val (.int p4), .val (.int p5), .val (.int (xa.toInt32)), .val (.int (xb.toInt32)), .val (.int (0 : Int32)), .val (.ref nm), .val (.int (0 : Int32)), .val .null, .val (.int (0 : Int32)), .unset, .unset, .unset]) rfl k_) ?_
    refine GoH.st (T' := T0) (pc' := 169) (L' := #[.val (.int p1), .val (.int p2), .val (.int p3), .val (.int p4), .val (.int p5), .val (.int (xa.toInt32)), .val (.int (xb.toInt32)), .val (.int (0 : Int32)), .val (.ref nm), .val (.int (0 : Int32)), .val .null, .val (.int (0 : Int32)), .unset, .unset, .unset]) (S' := [(.int (0 : Int32))]) (fun t_ k_ => XS.iload X0.here hx rfl (hb hby at_167) rfl  k_) ?_
    refine GoH.st (T' := T0) (pc' := 183) (L' := #[.val (.int p1), .val (.int p2), .val (.int p3), .val (.int p4), .val (.int p5), .val (.int (xa.toInt32)), .val (.int (xb.toInt32)), .val (.int (0 : Int32)), .val (.ref nm), .val (.int (0 : Int32)), .val .null, .val (.int (0 : Int32)), .unset, .unset, .unset]) (S' := []) (fun t_ k_ => XS.ifYes X0.here hx rfl (pc0 := 169) (pc' := 183) rfl (hb hby at_169) rfl ((if0 _ _).trans (teq (by decide : ((0 : Int32) = (0 : Int32)))).1) (by decide) (by decide) k_) ?_
    refine GoH.st (T' := T0) (pc' := 184) (L' := #[.val (.int p1), .val (.int p2), .val (.int p3), .val (.int p4), .val (.int p5), .val (.int (xa.toInt32)), .val (.int (xb.toInt32)), .val (.int (0 : Int32)), .val (.ref nm), .val (.int (0 : Int32)), .val .null, .val (.int (0 : Int32)), .unset, .unset, .unset]) (S' := [(.int (0 : Int32))]) (fun t_ k_ => XS.iconst X0.here hx rfl (hb hby at_183) k_) ?_
    refine GoH.st (T' := T0) (pc' := 186) (L' := #[.val (.int p1), .val (.int p2), .val (.int p3), .val (.int p4), .val (.int p5), .val (.int (xa.toInt32)), .val (.int (xb.toInt32)), .val (.int (0 : Int32)), .val (.ref nm), .val (.int (0 : Int32)), .val .null, .val (.int (0 : Int32)), .val (.int (0 : Int32)), .unset, .unset]) (S' := []) (fun t_ k_ => XS.istore X0.here hx rfl (hb hby at_184) rfl (l' := #[.val (.int p1), .val (.int p2), .val (.int p3), .val (.int p4), .val (.int p5), .val (.int (xa.toInt32)), .val (.int (xb.toInt32)), .val (.int (0 : Int32)), .val (.ref nm), .val (.int (0 : Int32)), .val .null, .val (.int (0 : Int32)), .val (.int (0 : Int32)), .unset, .unset]) rfl k_) ?_
    exact seg186_1_0 p1 p2 p3 p4 p5 xa xb gC nm tn _ (Stand.up X0 (by decide) (by decide)) hx hZ hw hby hml hown hnm hret hlk e0 hs0 CR hS hk N0 SC PC O0 Z0 E_nm Fc_nm Fv_nm V_tn hxa hxb na1 na2 nb2
  · refine GoH.st (T' := T0) (pc' := 102) (L' := #[.val (.int p1), .val (.int p2), .val (.int p3), .val (.int p4), .val (.int p5), .val (.int (xa.toInt32)), .val (.int (xb.toInt32)), .val (.int (0 : Int32)), .val (.ref nm), .unset, .unset, .unset, .unset, .unset, .unset]) (S' := []) (fun t_ k_ => XS.ifNo X0.here hx rfl (hb hby at_99) rfl ((if0 _ _).trans (feq hc99_1).1) k_) ?_
    refine GoH.st (T' := T0) (pc' := 103) (L' := #[.val (.int p1), .val (.int p2), .val (.int p3), .val (.int p4), .val (.int p5), .val (.int (xa.toInt32)), .val (.int (xb.toInt32)), .val (.int (0 : Int32)), .val (.ref nm), .unset, .unset, .unset, .unset, .unset, .unset]) (S' := [(.int (1 : Int32))]) (fun t_ k_ => XS.iconst X0.here hx rfl (hb hby at_102) k_) ?_
    refine GoH.st (T' := T0) (pc' := 107) (L' := #[.val (.int p1), .val (.int p2), .val (.int p3), .val (.int p4), .val (.int p5), .val (.int (xa.toInt32)), .val (.int (xb.toInt32)), .val (.int (0 : Int32)), .val (.ref nm), .unset, .unset, .unset, .unset, .unset, .unset]) (S' := [(.int (1 : Int32))]) (fun t_ k_ => XS.goto X0.here hx rfl (pc0 := 103) (pc' := 107) rfl (hb hby at_103) (by decide) (by decide) k_) ?_
    refine GoH.st (T' := T0) (pc' := 109) (L' := #[.val (.int p1), .val (.int p2), .val (.int p3), .val (.int p4), .val (.int p5), .val (.int (xa.toInt32)), .val (.int (xb.toInt32)), .val (.int (0 : Int32)), .val (.ref nm), .val (.int (1 : Int32)), .unset, .unset, .unset, .unset, .unset]) (S' := []) (fun t_ k_ => XS.istore X0.here hx rfl (hb hby at_107) rfl (l' := #[.val (.int p1), .val (.int p2), .val (.int p3), .val (.int p4), .val (.int p5), .val (.int (xa.toInt32)), .val (.int (xb.toInt32)), .val (.int (0 : Int32)), .val (.ref nm), .val (.int (1 : Int32)), .unset, .unset, .unset, .unset, .unset]) rfl k_) ?_
    refine GoH.st (T' := T0) (pc' := 110) (L' := #[.val (.int p1), .val (.int p2), .val (.int p3), .val (.int p4), .val (.int p5), .val (.int (xa.toInt32)), .val (.int (xb.toInt32)), .val (.int (0 : Int32)), .val (.ref nm), .val (.int (1 : Int32)), .unset, .unset, .unset, .unset, .unset]) (S' := [.null]) (fun t_ k_ => XS.aconstNull X0.here hx rfl (hb hby at_109) k_) ?_
    refine GoH.st (T' := T0) (pc' := 112) (L' := #[.val (.int p1), .val (.int p2), .val (.int p3), .val (.int p4), .val (.int p5), .val (.int (xa.toInt32)), .val (.int (xb.toInt32)), .val (.int (0 : Int32)), .val (.ref nm), .val (.int (1 : Int32)), .val .null, .unset, .unset, .unset, .unset]) (S' := []) (fun t_ k_ => XS.astore X0.here hx rfl (hb hby at_110) rfl rfl (l' := #[.val (.int p1), .val (.int p2), .val (.int p3), .val (.int p4), .val (.int p5), .val (.int (xa.toInt32)), .val (.int (xb.toInt32)), .val (.int (0 : Int32)), .val (.ref nm), .val (.int (1 : Int32)), .val .null, .unset, .unset, .unset, .unset]) rfl k_) ?_
    refine GoH.st (T' := T0) (pc' := 114) (L' := #[.val (.int p1), .val (.int p2), .val (.int p3), .val (.int p4), .val (.int p5), .val (.int (xa.toInt32)), .val (.int (xb.toInt32)), .val (.int (0 : Int32)), .val (.ref nm), .val (.int (1 : Int32)), .val .null, .unset, .unset, .unset, .unset]) (S' := [(.int (1 : Int32))]) (fun t_ k_ => XS.iload X0.here hx rfl (hb hby at_112) rfl  k_) ?_
    refine GoH.st (T' := T0) (pc' := 117) (L' := #[.val (.int p1), .val (.int p2), .val (.int p3), .val (.int p4), .val (.int p5), .val (.int (xa.toInt32)), .val (.int (xb.toInt32)), .val (.int (0 : Int32)), .val (.ref nm), .val (.int (1 : Int32)), .val .null, .unset, .unset, .unset, .unset]) (S' := []) (fun t_ k_ => XS.ifNo X0.here hx rfl (hb hby at_114) rfl ((if0 _ _).trans (feq (by decide : ¬ ((1 : Int32) = (0 : Int32)))).1) k_) ?_
    refine GoH.st (T' := T0) (pc' := 118) (L' := #[.val (.int p1), .val (.int p2), .val (.int p3), .val (.int p4), .val (.int p5), .val (.int (xa.toInt32)), .val (.int (xb.toInt32)), .val (.int (0 : Int32)), .val (.ref nm), .val (.int (1 : Int32)), .val .null, .unset, .unset, .unset, .unset]) (S' := [(.int p4)]) (fun t_ k_ => XS.iloadN X0.here hx rfl (hb hby at_117) rfl  k_) ?_
    refine GoH.st (T' := T0) (pc' := 119) (L' := #[.val (.int p1), .val (.int p2), .val (.int p3), .val (.int p4), .val (.int p5), .val (.int (xa.toInt32)), .val (.int (xb.toInt32)), .val (.int (0 : Int32)), .val (.ref nm), .val (.int (1 : Int32)), .val .null, .unset, .unset, .unset, .unset]) (S' := [(.int (2 : Int32)), (.int p4)]) (fun t_ k_ => XS.iconst X0.here hx rfl (hb hby at_118) k_) ?_
    refine GoH.st (T' := T0) (pc' := 120) (L' := #[.val (.int p1), .val (.int p2), .val (.int p3), .val (.int p4), .val (.int p5), .val (.int (xa.toInt32)), .val (.int (xb.toInt32)), .val (.int (0 : Int32)), .val (.ref nm), .val (.int (1 : Int32)), .val .null, .unset, .unset, .unset, .unset]) (S' := [(.int (p4 &&& (2 : Int32)))]) (fun t_ k_ => XS.iand X0.here hx rfl (hb hby at_119) rfl k_) ?_
    by_cases hc120_2 : (p4 &&& (2 : Int32)) = (0 : Int32)
    · refine GoH.st (T' := T0) (pc' := 137) (L' := #[.val (.int p1), .val (.int p2), .val (.int p3), .val (.int p4), .val (.int p5), .val (.int (xa.toInt32)), .val (.int (xb.toInt32)), .val (.int (0 : Int32)), .val (.ref nm), .val (.int (1 : Int32)), .val .null, .unset, .unset, .unset, .unset]) (S' := []) (fun t_ k_ => XS.ifYes X0.here hx rfl (pc0 := 120) (pc' := 137) rfl (hb hby at_120) rfl ((if0 _ _).trans (teq hc120_2).1) (by decide) (by decide) k_) ?_
      obtain ⟨T3, h3, X3, e3, E3, A3, D3, U3, st3⟩ := newO X0 hx hZ hown (hw _ (List.mem_of_getElem? (i := 26) rfl)) (hw _ (List.mem_of_getElem? (i := 10) rfl)) (hw _ (List.mem_of_getElem? (i := 2) rfl)) e0 (g := (mkF m 137 #[.val (.int p1), .val (.int p2), .val (.int p3), .val (.int p4), .val (.int p5), .val (.int (xa.toInt32)), .val (.int (xb.toInt32)), .val (.int (0 : Int32)), .val (.ref nm), .val (.int (1 : Int32)), .val .null, .unset, .unset, .unset, .unset] [])) rfl (hb hby at_137) (by decide) (by decide)
      obtain ⟨b3, g3⟩ : ∃ z, z = hh.size := ⟨_, rfl⟩
      rw [← g3] at A3 D3 U3 st3
      have ne_nm_b3 : nm ≠ b3 := Nat.ne_of_lt (Nat.lt_of_lt_of_le E_nm.lt (Nat.le_of_eq g3.symm))
      have ne_tn_b3 : tn ≠ b3 := Nat.ne_of_lt (Nat.lt_of_lt_of_le V_tn.lt (Nat.le_of_eq g3.symm))
      have g_b3 : n0 ≤ b3 := Nat.le_trans Z0 (Nat.le_of_eq g3.symm)
      have S_b3 : Safe Z EL vm0 h3 b3 := Safe.ext E3 CR.1 (Safe.new (Nat.le_of_eq g3.symm))
      replace CR := CR.trans (CHr.ext E3 CR.1)
      replace hk := Nat.le_trans hk E3.1
      replace Z0 := Nat.le_trans Z0 E3.1
      replace O0 := O0.ext E3
      replace E_nm := E_nm.ext E3
      replace Fc_nm := Fc_nm.ext E3
      replace Fv_nm := Fv_nm.ext E3
      replace V_tn := V_tn.ext E3
      have E_b3 := A3
      have F_b3_value : Fld Z h3 b3 "java/lang/String" "value" "[B" .null := D3 (Or.inr (hw _ (List.mem_of_getElem? (i := 23) rfl))) (ty := (.array .byte)) (by decide)
      have F_b3_coder : Fld Z h3 b3 "java/lang/String" "coder" "B" (.int (0 : Int32)) := D3 (Or.inr (hw _ (List.mem_of_getElem? (i := 25) rfl))) (ty := .byte) (by decide)
      refine GoH.st (T' := T3) (pc' := 140) (L' := #[.val (.int p1), .val (.int p2), .val (.int p3), .val (.int p4), .val (.int p5), .val (.int (xa.toInt32)), .val (.int (xb.toInt32)), .val (.int (0 : Int32)), .val (.ref nm), .val (.int (1 : Int32)), .val .null, .unset, .unset, .unset, .unset]) (S' := [(.ref b3)]) st3 ?_
      refine GoH.st (T' := T3) (pc' := 141) (L' := #[.val (.int p1), .val (.int p2), .val (.int p3), .val (.int p4), .val (.int p5), .val (.int (xa.toInt32)), .val (.int (xb.toInt32)), .val (.int (0 : Int32)), .val (.ref nm), .val (.int (1 : Int32)), .val .null, .unset, .unset, .unset, .unset]) (S' := [(.ref b3), (.ref b3)]) (fun t_ k_ => XS.dup X3.here hx rfl (hb hby at_140) rfl rfl k_) ?_
      refine GoH.st (T' := T3) (pc' := 142) (L' := #[.val (.int p1), .val (.int p2), .val (.int p3), .val (.int p4), .val (.int p5), .val (.int (xa.toInt32)), .val (.int (xb.toInt32)), .val (.int (0 : Int32)), .val (.ref nm), .val (.int (1 : Int32)), .val .null, .unset, .unset, .unset, .unset]) (S' := [(.int (0 : Int32)), (.ref b3), (.ref b3)]) (fun t_ k_ => XS.iconst X3.here hx rfl (hb hby at_141) k_) ?_
      obtain ⟨T4, h4, k4, X4, e4, E4, A4, st4⟩ := newP X3 hx hZ (hw _ (List.mem_of_getElem? (i := 27) rfl)) e3 (g := (mkF m 142 #[.val (.int p1), .val (.int p2), .val (.int p3), .val (.int p4), .val (.int p5), .val (.int (xa.toInt32)), .val (.int (xb.toInt32)), .val (.int (0 : Int32)), .val (.ref nm), .val (.int (1 : Int32)), .val .null, .unset, .unset, .unset, .unset] [(.int (0 : Int32)), (.ref b3), (.ref b3)])) rfl (hb hby at_142) rfl (by decide) (cap := 0) (by decide) (by decide) (by decide) (by decide)
      obtain ⟨b4, g4⟩ : ∃ z, z = h3.size := ⟨_, rfl⟩
      rw [← g4] at A4 st4
      have ne_nm_b4 : nm ≠ b4 := Nat.ne_of_lt (Nat.lt_of_lt_of_le E_nm.lt (Nat.le_of_eq g4.symm))
      have ne_tn_b4 : tn ≠ b4 := Nat.ne_of_lt (Nat.lt_of_lt_of_le V_tn.lt (Nat.le_of_eq g4.symm))
      have ne_b3_b4 : b3 ≠ b4 := Nat.ne_of_lt (Nat.lt_of_lt_of_le E_b3.lt (Nat.le_of_eq g4.symm))
      have g_b4 : n0 ≤ b4 := Nat.le_trans Z0 (Nat.le_of_eq g4.symm)
      replace S_b3 := Safe.ext E4 CR.1 S_b3
      replace CR := CR.trans (CHr.ext E4 CR.1)
      replace hk := Nat.le_trans hk E4.1
      replace Z0 := Nat.le_trans Z0 E4.1
      replace O0 := O0.ext E4
      replace E_nm := E_nm.ext E4
      replace Fc_nm := Fc_nm.ext E4
      replace Fv_nm := Fv_nm.ext E4
      replace V_tn := V_tn.ext E4
      replace E_b3 := E_b3.ext E4
      replace F_b3_value := F_b3_value.ext E4
      replace F_b3_coder := F_b3_coder.ext E4
      have V_b4 : Arv Z h4 b4 k4 .char (0 : Int32) [] (.int (0 : Int32)) := (Arv.new A4 (by decide)).pad (pad_rep [] (.int (0 : Int32)) 0)
      refine GoH.st (T' := T4) (pc' := 144) (L' := #[.val (.int p1), .val (.int p2), .val (.int p3), .val (.int p4), .val (.int p5), .val (.int (xa.toInt32)), .val (.int (xb.toInt32)), .val (.int (0 : Int32)), .val (.ref nm), .val (.int (1 : Int32)), .val .null, .unset, .unset, .unset, .unset]) (S' := [(.ref b4), (.ref b3), (.ref b3)]) st4 ?_
      obtain ⟨_, _, ⟨T5, L5, k5, n5⟩, -, X5, hS5, hg5, ⟨Lc5, hQ5, l5, y5, z5, CR5⟩, st5⟩ := X4.specialBackS hx (y := (⟨"java/lang/String", "<init>", "([C)V"⟩ : MethodName)) rfl hown (mvT hZ (hw _ (List.mem_of_getElem? (i := 28) rfl))) (mvT hZ (hw _ (List.mem_of_getElem? (i := 29) rfl))) (mvT hZ (hw _ (List.mem_of_getElem? (i := 30) rfl))) (by decide) (backOfSH (W := 1) (rmE3 l Z a0 hw [] b3 b4 _ h4 n0 Z0 E_b3 g_b3 F_b3_value F_b3_coder V_b4 ne_b3_b4) hZ (hw _ (List.mem_of_getElem? (i := 30) rfl)) (hw _ (List.mem_of_getElem? (i := 2) rfl)) (by decide) (by decide) (own_EW hw) CR.1) (g := (mkF m 144 #[.val (.int p1), .val (.int p2), .val (.int p3), .val (.int p4), .val (.int p5), .val (.int (xa.toInt32)), .val (.int (xb.toInt32)), .val (.int (0 : Int32)), .val (.ref nm), .val (.int (1 : Int32)), .val .null, .unset, .unset, .unset, .unset] [(.ref b4), (.ref b3), (.ref b3)])) rfl (by rw [hml]; rfl) (Steps.refl _) (a := b3) (argsL := [(.ref b4)]) (rest := [(.ref b3)]) (lenOf pd_20 rfl) rfl (by show 2 * 0 + _ ≤ _; exact Nat.le_of_eq rfl) (hb hby at_144) (fun _ _ => ⟨rfl, e4, (by decide : 5 + 4 ≤ _), (by decide : 12 + 8 ≤ _)⟩)
      dsimp only [Pt.U, Pt.locs, Pt.cells, Pt.slots] at X5 l5 y5 z5 st5 hQ5 hS5 hg5 CR5
      subst l5 y5 z5
      replace X5 : Stand p l e _ (s.setVm T5.vm) m _ below meth c T5 _ _ _ := X5
      replace hS := foldS hS (T := T4) (Nat.le_trans hk (Nat.le_of_eq (congrArg Array.size e4.symm))) hS5 hg5
      replace hk := Nat.le_refl T5.heap.size
      replace hZ : Z.Warmed39 (s.setVm T5.vm).vm := State.Warmed39.trans (t := s.setVm vm0) hZ hS5.1
      replace hown : (s.setVm T5.vm).vm.findClass "com/example/placewright/placewright/cli/OptionTakesValuePinLaw" = some m.cls := by rw [show (s.setVm T5.vm).vm = T5.vm from rfl, hS5.1.alike.findClass]; exact hown
      obtain ⟨t5, kb5, rfl, N5q, K5, Co5, nt5, Va5, Ay5⟩ := hQ5
      have N5 := Fr.app N0 N5q
      obtain ⟨h5, e5⟩ : ∃ z, T5.heap = z := ⟨_, rfl⟩
      rw [e5] at K5 Co5 Va5 Ay5 CR5
      replace S_b3 := CR5.safe E_b3.lt S_b3
      replace CR := CR.trans CR5
      replace Z0 := Nat.le_trans Z0 K5.1
      replace O0 := O0.keep K5 (allS g_b3 all0)
      replace E_nm := E_nm.keep K5
      replace Fc_nm := Fc_nm.keep K5 (ninS ne_nm_b3 nin0)
      replace Fv_nm := Fv_nm.keep K5 (ninS ne_nm_b3 nin0)
      replace V_tn := V_tn.keep K5 (ninS ne_tn_b3 nin0)
      replace E_b3 := E_b3.keep K5
      replace V_b4 := V_b4.keep K5 (ninS (Ne.symm ne_b3_b4) nin0)
      replace hk : T5.heap.size ≤ h5.size := Nat.le_of_eq (congrArg Array.size e5)
      refine GoH.tr (T' := T5) (pc' := 147) (L' := #[.val (.int p1), .val (.int p2), .val (.int p3), .val (.int p4), .val (.int p5), .val (.int (xa.toInt32)), .val (.int (xb.toInt32)), .val (.int (0 : Int32)), .val (.ref nm), .val (.int (1 : Int32)), .val .null, .unset, .unset, .unset, .unset]) (S' := [(.ref b3)]) st5 ?_
      refine GoH.st (T' := T5) (pc' := 149) (L' := #[.val (.int p1), .val (.int p2), .val (.int p3), .val (.int p4), .val (.int p5), .val (.int (xa.toInt32)), .val (.int (xb.toInt32)), .val (.int (0 : Int32)), .val (.ref nm), .val (.int (1 : Int32)), .val (.ref b3), .unset, .unset, .unset, .unset]) (S' := []) (fun t_ k_ => XS.astore X5.here hx rfl (hb hby at_147) rfl rfl (l' := #[.val (.int p1), .val (.int p2), .val (.int p3), .val (.int p4), .val (.int p5), .val (.int (xa.toInt32)), .val (.int (xb.toInt32)), .val (.int (0 : Int32)), .val (.ref nm), .val (.int (1 : Int32)), .val (.ref b3), .unset, .unset, .unset, .unset]) rfl k_) ?_
      refine GoH.st (T' := T5) (pc' := 151) (L' := #[.val (.int p1), .val (.int p2), .val (.int p3), .val (.int p4), .val (.int p5), .val (.int (xa.toInt32)), .val (.int (xb.toInt32)), .val (.int (0 : Int32)), .val (.ref nm), .val (.int (1 : Int32)), .val (.ref b3), .unset, .unset, .unset, .unset]) (S' := [(.int (1 : Int32))]) (fun t_ k_ => XS.iload X5.here hx rfl (hb hby at_149) rfl  k_) ?_
      refine GoH.st (T' := T5) (pc' := 154) (L' := #[.val (.int p1), .val (.int p2), .val (.int p3), .val (.int p4), .val (.int p5), .val (.int (xa.toInt32)), .val (.int (xb.toInt32)), .val (.int (0 : Int32)), .val (.ref nm), .val (.int (1 : Int32)), .val (.ref b3), .unset, .unset, .unset, .unset]) (S' := []) (fun t_ k_ => XS.ifNo X5.here hx rfl (hb hby at_151) rfl ((if0 _ _).trans (feq (by decide : ¬ ((1 : Int32) = (0 : Int32)))).1) k_) ?_
      refine GoH.st (T' := T5) (pc' := 155) (L' := #[.val (.int p1), .val (.int p2), .val (.int p3), .val (.int p4), .val (.int p5), .val (.int (xa.toInt32)), .val (.int (xb.toInt32)), .val (.int (0 : Int32)), .val (.ref nm), .val (.int (1 : Int32)), .val (.ref b3), .unset, .unset, .unset, .unset]) (S' := [(.int p4)]) (fun t_ k_ => XS.iloadN X5.here hx rfl (hb hby at_154) rfl  k_) ?_
      refine GoH.st (T' := T5) (pc' := 156) (L' := #[.val (.int p1), .val (.int p2), .val (.int p3), .val (.int p4), .val (.int p5), .val (.int (xa.toInt32)), .val (.int (xb.toInt32)), .val (.int (0 : Int32)), .val (.ref nm), .val (.int (1 : Int32)), .val (.ref b3), .unset, .unset, .unset, .unset]) (S' := [(.int (4 : Int32)), (.int p4)]) (fun t_ k_ => XS.iconst X5.here hx rfl (hb hby at_155) k_) ?_
      refine GoH.st (T' := T5) (pc' := 157) (L' := #[.val (.int p1), .val (.int p2), .val (.int p3), .val (.int p4), .val (.int p5), .val (.int (xa.toInt32)), .val (.int (xb.toInt32)), .val (.int (0 : Int32)), .val (.ref nm), .val (.int (1 : Int32)), .val (.ref b3), .unset, .unset, .unset, .unset]) (S' := [(.int (p4 &&& (4 : Int32)))]) (fun t_ k_ => XS.iand X5.here hx rfl (hb hby at_156) rfl k_) ?_
      by_cases hc157_7 : (p4 &&& (4 : Int32)) = (0 : Int32)
      · refine GoH.st (T' := T5) (pc' := 164) (L' := #[.val (.int p1), .val (.int p2), .val (.int p3), .val (.int p4), .val (.int p5), .val (.int (xa.toInt32)), .val (.int (xb.toInt32)), .val (.int (0 : Int32)), .val (.ref nm), .val (.int (1 : Int32)), .val (.ref b3), .unset, .unset, .unset, .unset]) (S' := []) (fun t_ k_ => XS.ifYes X5.here hx rfl (pc0 := 157) (pc' := 164) rfl (hb hby at_157) rfl ((if0 _ _).trans (teq hc157_7).1) (by decide) (by decide) k_) ?_
        refine GoH.st (T' := T5) (pc' := 165) (L' := #[.val (.int p1), .val (.int p2), .val (.int p3), .val (.int p4), .val (.int p5), .val (.int (xa.toInt32)), .val (.int (xb.toInt32)), .val (.int (0 : Int32)), .val (.ref nm), .val (.int (1 : Int32)), .val (.ref b3), .unset, .unset, .unset, .unset]) (S' := [(.int (0 : Int32))]) (fun t_ k_ => XS.iconst X5.here hx rfl (hb hby at_164) k_) ?_
        refine GoH.st (T' := T5) (pc' := 167) (L' := #[.val (.int p1), .val (.int p2), .val (.int p3), .val (.int p4), .val (.int p5), .val (.int (xa.toInt32)), .val (.int (xb.toInt32)), .val (.int (0 : Int32)), .val (.ref nm), .val (.int (1 : Int32)), .val (.ref b3), .val (.int (0 : Int32)), .unset, .unset, .unset]) (S' := []) (fun t_ k_ => XS.istore X5.here hx rfl (hb hby at_165) rfl (l' := #[.val (.int p1), .val (.int p2), .val (.int p3), .val (.int p4), .val (.int p5), .val (.int (xa.toInt32)), .val (.int (xb.toInt32)), .val (.int (0 : Int32)), .val (.ref nm), .val (.int (1 : Int32)), .val (.ref b3), .val (.int (0 : Int32)), .unset, .unset, .unset]) rfl k_) ?_
        refine GoH.st (T' := T5) (pc' := 169) (L' := #[.val (.int p1), .val (.int p2), .val (.int p3), .val (.int p4), .val (.int p5), .val (.int (xa.toInt32)), .val (.int (xb.toInt32)), .val (.int (0 : Int32)), .val (.ref nm), .val (.int (1 : Int32)), .val (.ref b3), .val (.int (0 : Int32)), .unset, .unset, .unset]) (S' := [(.int (1 : Int32))]) (fun t_ k_ => XS.iload X5.here hx rfl (hb hby at_167) rfl  k_) ?_
        refine GoH.st (T' := T5) (pc' := 172) (L' := #[.val (.int p1), .val (.int p2), .val (.int p3), .val (.int p4), .val (.int p5), .val (.int (xa.toInt32)), .val (.int (xb.toInt32)), .val (.int (0 : Int32)), .val (.ref nm), .val (.int (1 : Int32)), .val (.ref b3), .val (.int (0 : Int32)), .unset, .unset, .unset]) (S' := []) (fun t_ k_ => XS.ifNo X5.here hx rfl (hb hby at_169) rfl ((if0 _ _).trans (feq (by decide : ¬ ((1 : Int32) = (0 : Int32)))).1) k_) ?_
        refine GoH.st (T' := T5) (pc' := 173) (L' := #[.val (.int p1), .val (.int p2), .val (.int p3), .val (.int p4), .val (.int p5), .val (.int (xa.toInt32)), .val (.int (xb.toInt32)), .val (.int (0 : Int32)), .val (.ref nm), .val (.int (1 : Int32)), .val (.ref b3), .val (.int (0 : Int32)), .unset, .unset, .unset]) (S' := [(.int p4)]) (fun t_ k_ => XS.iloadN X5.here hx rfl (hb hby at_172) rfl  k_) ?_
        refine GoH.st (T' := T5) (pc' := 175) (L' := #[.val (.int p1), .val (.int p2), .val (.int p3), .val (.int p4), .val (.int p5), .val (.int (xa.toInt32)), .val (.int (xb.toInt32)), .val (.int (0 : Int32)), .val (.ref nm), .val (.int (1 : Int32)), .val (.ref b3), .val (.int (0 : Int32)), .unset, .unset, .unset]) (S' := [(.int (8 : Int32)), (.int p4)]) (fun t_ k_ => XS.bipush X5.here hx rfl (hb hby at_173) k_) ?_
        refine GoH.st (T' := T5) (pc' := 176) (L' := #[.val (.int p1), .val (.int p2), .val (.int p3), .val (.int p4), .val (.int p5), .val (.int (xa.toInt32)), .val (.int (xb.toInt32)), .val (.int (0 : Int32)), .val (.ref nm), .val (.int (1 : Int32)), .val (.ref b3), .val (.int (0 : Int32)), .unset, .unset, .unset]) (S' := [(.int (p4 &&& (8 : Int32)))]) (fun t_ k_ => XS.iand X5.here hx rfl (hb hby at_175) rfl k_) ?_
        by_cases hc176_8 : (p4 &&& (8 : Int32)) = (0 : Int32)
        · refine GoH.st (T' := T5) (pc' := 183) (L' := #[.val (.int p1), .val (.int p2), .val (.int p3), .val (.int p4), .val (.int p5), .val (.int (xa.toInt32)), .val (.int (xb.toInt32)), .val (.int (0 : Int32)), .val (.ref nm), .val (.int (1 : Int32)), .val (.ref b3), .val (.int (0 : Int32)), .unset, .unset, .unset]) (S' := []) (fun t_ k_ => XS.ifYes X5.here hx rfl (pc0 := 176) (pc' := 183) rfl (hb hby at_176) rfl ((if0 _ _).trans (teq hc176_8).1) (by decide) (by decide) k_) ?_
          refine GoH.st (T' := T5) (pc' := 184) (L' := #[.val (.int p1), .val (.int p2), .val (.int p3), .val (.int p4), .val (.int p5), .val (.int (xa.toInt32)), .val (.int (xb.toInt32)), .val (.int (0 : Int32)), .val (.ref nm), .val (.int (1 : Int32)), .val (.ref b3), .val (.int (0 : Int32)), .unset, .unset, .unset]) (S' := [(.int (0 : Int32))]) (fun t_ k_ => XS.iconst X5.here hx rfl (hb hby at_183) k_) ?_
          refine GoH.st (T' := T5) (pc' := 186) (L' := #[.val (.int p1), .val (.int p2), .val (.int p3), .val (.int p4), .val (.int p5), .val (.int (xa.toInt32)), .val (.int (xb.toInt32)), .val (.int (0 : Int32)), .val (.ref nm), .val (.int (1 : Int32)), .val (.ref b3), .val (.int (0 : Int32)), .val (.int (0 : Int32)), .unset, .unset]) (S' := []) (fun t_ k_ => XS.istore X5.here hx rfl (hb hby at_184) rfl (l' := #[.val (.int p1), .val (.int p2), .val (.int p3), .val (.int p4), .val (.int p5), .val (.int (xa.toInt32)), .val (.int (xb.toInt32)), .val (.int (0 : Int32)), .val (.ref nm), .val (.int (1 : Int32)), .val (.ref b3), .val (.int (0 : Int32)), .val (.int (0 : Int32)), .unset, .unset]) rfl k_) ?_
          exact seg186_1_1 p1 p2 p3 p4 p5 xa xb gC nm tn _ b3 (0 : Int32) (0 : Int32) (Stand.up X5 (by decide) (by decide)) hx hZ hw hby hml hown hnm hret hlk e5 hs0 CR hS hk N5 SC PC O0 Z0 E_nm Fc_nm Fv_nm V_tn hxa hxb na1 na2 nb2
        · refine GoH.st (T' := T5) (pc' := 179) (L' := #[.val (.int p1), .val (.int p2), .val (.int p3), .val (.int p4), .val (.int p5), .val (.int (xa.toInt32)), .val (.int (xb.toInt32)), .val (.int (0 : Int32)), .val (.ref nm), .val (.int (1 : Int32)), .val (.ref b3), .val (.int (0 : Int32)), .unset, .unset, .unset]) (S' := []) (fun t_ k_ => XS.ifNo X5.here hx rfl (hb hby at_176) rfl ((if0 _ _).trans (feq hc176_8).1) k_) ?_
          refine GoH.st (T' := T5) (pc' := 180) (L' := #[.val (.int p1), .val (.int p2), .val (.int p3), .val (.int p4), .val (.int p5), .val (.int (xa.toInt32)), .val (.int (xb.toInt32)), .val (.int (0 : Int32)), .val (.ref nm), .val (.int (1 : Int32)), .val (.ref b3), .val (.int (0 : Int32)), .unset, .unset, .unset]) (S' := [(.int (1 : Int32))]) (fun t_ k_ => XS.iconst X5.here hx rfl (hb hby at_179) k_) ?_
          refine GoH.st (T' := T5) (pc' := 184) (L' := #[.val (.int p1), .val (.int p2), .val (.int p3), .val (.int p4), .val (.int p5), .val (.int (xa.toInt32)), .val (.int (xb.toInt32)), .val (.int (0 : Int32)), .val (.ref nm), .val (.int (1 : Int32)), .val (.ref b3), .val (.int (0 : Int32)), .unset, .unset, .unset]) (S' := [(.int (1 : Int32))]) (fun t_ k_ => XS.goto X5.here hx rfl (pc0 := 180) (pc' := 184) rfl (hb hby at_180) (by decide) (by decide) k_) ?_
          refine GoH.st (T' := T5) (pc' := 186) (L' := #[.val (.int p1), .val (.int p2), .val (.int p3), .val (.int p4), .val (.int p5), .val (.int (xa.toInt32)), .val (.int (xb.toInt32)), .val (.int (0 : Int32)), .val (.ref nm), .val (.int (1 : Int32)), .val (.ref b3), .val (.int (0 : Int32)), .val (.int (1 : Int32)), .unset, .unset]) (S' := []) (fun t_ k_ => XS.istore X5.here hx rfl (hb hby at_184) rfl (l' := #[.val (.int p1), .val (.int p2), .val (.int p3), .val (.int p4), .val (.int p5), .val (.int (xa.toInt32)), .val (.int (xb.toInt32)), .val (.int (0 : Int32)), .val (.ref nm), .val (.int (1 : Int32)), .val (.ref b3), .val (.int (0 : Int32)), .val (.int (1 : Int32)), .unset, .unset]) rfl k_) ?_
          exact seg186_1_1 p1 p2 p3 p4 p5 xa xb gC nm tn _ b3 (0 : Int32) (1 : Int32) (Stand.up X5 (by decide) (by decide)) hx hZ hw hby hml hown hnm hret hlk e5 hs0 CR hS hk N5 SC PC O0 Z0 E_nm Fc_nm Fv_nm V_tn hxa hxb na1 na2 nb2
      · refine GoH.st (T' := T5) (pc' := 160) (L' := #[.val (.int p1), .val (.int p2), .val (.int p3), .val (.int p4), .val (.int p5), .val (.int (xa.toInt32)), .val (.int (xb.toInt32)), .val (.int (0 : Int32)), .val (.ref nm), .val (.int (1 : Int32)), .val (.ref b3), .unset, .unset, .unset, .unset]) (S' := []) (fun t_ k_ => XS.ifNo X5.here hx rfl (hb hby at_157) rfl ((if0 _ _).trans (feq hc157_7).1) k_) ?_
        refine GoH.st (T' := T5) (pc' := 161) (L' := #[.val (.int p1), .val (.int p2), .val (.int p3), .val (.int p4), .val (.int p5), .val (.int (xa.toInt32)), .val (.int (xb.toInt32)), .val (.int (0 : Int32)), .val (.ref nm), .val (.int (1 : Int32)), .val (.ref b3), .unset, .unset, .unset, .unset]) (S' := [(.int (1 : Int32))]) (fun t_ k_ => XS.iconst X5.here hx rfl (hb hby at_160) k_) ?_
        refine GoH.st (T' := T5) (pc' := 165) (L' := #[.val (.int p1), .val (.int p2), .val (.int p3), .val (.int p4), .val (.int p5), .val (.int (xa.toInt32)), .val (.int (xb.toInt32)), .val (.int (0 : Int32)), .val (.ref nm), .val (.int (1 : Int32)), .val (.ref b3), .unset, .unset, .unset, .unset]) (S' := [(.int (1 : Int32))]) (fun t_ k_ => XS.goto X5.here hx rfl (pc0 := 161) (pc' := 165) rfl (hb hby at_161) (by decide) (by decide) k_) ?_
        refine GoH.st (T' := T5) (pc' := 167) (L' := #[.val (.int p1), .val (.int p2), .val (.int p3), .val (.int p4), .val (.int p5), .val (.int (xa.toInt32)), .val (.int (xb.toInt32)), .val (.int (0 : Int32)), .val (.ref nm), .val (.int (1 : Int32)), .val (.ref b3), .val (.int (1 : Int32)), .unset, .unset, .unset]) (S' := []) (fun t_ k_ => XS.istore X5.here hx rfl (hb hby at_165) rfl (l' := #[.val (.int p1), .val (.int p2), .val (.int p3), .val (.int p4), .val (.int p5), .val (.int (xa.toInt32)), .val (.int (xb.toInt32)), .val (.int (0 : Int32)), .val (.ref nm), .val (.int (1 : Int32)), .val (.ref b3), .val (.int (1 : Int32)), .unset, .unset, .unset]) rfl k_) ?_
        refine GoH.st (T' := T5) (pc' := 169) (L' := #[.val (.int p1), .val (.int p2), .val (.int p3), .val (.int p4), .val (.int p5), .val (.int (xa.toInt32)), .val (.int (xb.toInt32)), .val (.int (0 : Int32)), .val (.ref nm), .val (.int (1 : Int32)), .val (.ref b3), .val (.int (1 : Int32)), .unset, .unset, .unset]) (S' := [(.int (1 : Int32))]) (fun t_ k_ => XS.iload X5.here hx rfl (hb hby at_167) rfl  k_) ?_
        refine GoH.st (T' := T5) (pc' := 172) (L' := #[.val (.int p1), .val (.int p2), .val (.int p3), .val (.int p4), .val (.int p5), .val (.int (xa.toInt32)), .val (.int (xb.toInt32)), .val (.int (0 : Int32)), .val (.ref nm), .val (.int (1 : Int32)), .val (.ref b3), .val (.int (1 : Int32)), .unset, .unset, .unset]) (S' := []) (fun t_ k_ => XS.ifNo X5.here hx rfl (hb hby at_169) rfl ((if0 _ _).trans (feq (by decide : ¬ ((1 : Int32) = (0 : Int32)))).1) k_) ?_
        refine GoH.st (T' := T5) (pc' := 173) (L' := #[.val (.int p1), .val (.int p2), .val (.int p3), .val (.int p4), .val (.int p5), .val (.int (xa.toInt32)), .val (.int (xb.toInt32)), .val (.int (0 : Int32)), .val (.ref nm), .val (.int (1 : Int32)), .val (.ref b3), .val (.int (1 : Int32)), .unset, .unset, .unset]) (S' := [(.int p4)]) (fun t_ k_ => XS.iloadN X5.here hx rfl (hb hby at_172) rfl  k_) ?_
        refine GoH.st (T' := T5) (pc' := 175) (L' := #[.val (.int p1), .val (.int p2), .val (.int p3), .val (.int p4), .val (.int p5), .val (.int (xa.toInt32)), .val (.int (xb.toInt32)), .val (.int (0 : Int32)), .val (.ref nm), .val (.int (1 : Int32)), .val (.ref b3), .val (.int (1 : Int32)), .unset, .unset, .unset]) (S' := [(.int (8 : Int32)), (.int p4)]) (fun t_ k_ => XS.bipush X5.here hx rfl (hb hby at_173) k_) ?_
        refine GoH.st (T' := T5) (pc' := 176) (L' := #[.val (.int p1), .val (.int p2), .val (.int p3), .val (.int p4), .val (.int p5), .val (.int (xa.toInt32)), .val (.int (xb.toInt32)), .val (.int (0 : Int32)), .val (.ref nm), .val (.int (1 : Int32)), .val (.ref b3), .val (.int (1 : Int32)), .unset, .unset, .unset]) (S' := [(.int (p4 &&& (8 : Int32)))]) (fun t_ k_ => XS.iand X5.here hx rfl (hb hby at_175) rfl k_) ?_
        by_cases hc176_9 : (p4 &&& (8 : Int32)) = (0 : Int32)
        · refine GoH.st (T' := T5) (pc' := 183) (L' := #[.val (.int p1), .val (.int p2), .val (.int p3), .val (.int p4), .val (.int p5), .val (.int (xa.toInt32)), .val (.int (xb.toInt32)), .val (.int (0 : Int32)), .val (.ref nm), .val (.int (1 : Int32)), .val (.ref b3), .val (.int (1 : Int32)), .unset, .unset, .unset]) (S' := []) (fun t_ k_ => XS.ifYes X5.here hx rfl (pc0 := 176) (pc' := 183) rfl (hb hby at_176) rfl ((if0 _ _).trans (teq hc176_9).1) (by decide) (by decide) k_) ?_
          refine GoH.st (T' := T5) (pc' := 184) (L' := #[.val (.int p1), .val (.int p2), .val (.int p3), .val (.int p4), .val (.int p5), .val (.int (xa.toInt32)), .val (.int (xb.toInt32)), .val (.int (0 : Int32)), .val (.ref nm), .val (.int (1 : Int32)), .val (.ref b3), .val (.int (1 : Int32)), .unset, .unset, .unset]) (S' := [(.int (0 : Int32))]) (fun t_ k_ => XS.iconst X5.here hx rfl (hb hby at_183) k_) ?_
          refine GoH.st (T' := T5) (pc' := 186) (L' := #[.val (.int p1), .val (.int p2), .val (.int p3), .val (.int p4), .val (.int p5), .val (.int (xa.toInt32)), .val (.int (xb.toInt32)), .val (.int (0 : Int32)), .val (.ref nm), .val (.int (1 : Int32)), .val (.ref b3), .val (.int (1 : Int32)), .val (.int (0 : Int32)), .unset, .unset]) (S' := []) (fun t_ k_ => XS.istore X5.here hx rfl (hb hby at_184) rfl (l' := #[.val (.int p1), .val (.int p2), .val (.int p3), .val (.int p4), .val (.int p5), .val (.int (xa.toInt32)), .val (.int (xb.toInt32)), .val (.int (0 : Int32)), .val (.ref nm), .val (.int (1 : Int32)), .val (.ref b3), .val (.int (1 : Int32)), .val (.int (0 : Int32)), .unset, .unset]) rfl k_) ?_
          exact seg186_1_1 p1 p2 p3 p4 p5 xa xb gC nm tn _ b3 (1 : Int32) (0 : Int32) (Stand.up X5 (by decide) (by decide)) hx hZ hw hby hml hown hnm hret hlk e5 hs0 CR hS hk N5 SC PC O0 Z0 E_nm Fc_nm Fv_nm V_tn hxa hxb na1 na2 nb2
        · refine GoH.st (T' := T5) (pc' := 179) (L' := #[.val (.int p1), .val (.int p2), .val (.int p3), .val (.int p4), .val (.int p5), .val (.int (xa.toInt32)), .val (.int (xb.toInt32)), .val (.int (0 : Int32)), .val (.ref nm), .val (.int (1 : Int32)), .val (.ref b3), .val (.int (1 : Int32)), .unset, .unset, .unset]) (S' := []) (fun t_ k_ => XS.ifNo X5.here hx rfl (hb hby at_176) rfl ((if0 _ _).trans (feq hc176_9).1) k_) ?_
          refine GoH.st (T' := T5) (pc' := 180) (L' := #[.val (.int p1), .val (.int p2), .val (.int p3), .val (.int p4), .val (.int p5), .val (.int (xa.toInt32)), .val (.int (xb.toInt32)), .val (.int (0 : Int32)), .val (.ref nm), .val (.int (1 : Int32)), .val (.ref b3), .val (.int (1 : Int32)), .unset, .unset, .unset]) (S' := [(.int (1 : Int32))]) (fun t_ k_ => XS.iconst X5.here hx rfl (hb hby at_179) k_) ?_
          refine GoH.st (T' := T5) (pc' := 184) (L' := #[.val (.int p1), .val (.int p2), .val (.int p3), .val (.int p4), .val (.int p5), .val (.int (xa.toInt32)), .val (.int (xb.toInt32)), .val (.int (0 : Int32)), .val (.ref nm), .val (.int (1 : Int32)), .val (.ref b3), .val (.int (1 : Int32)), .unset, .unset, .unset]) (S' := [(.int (1 : Int32))]) (fun t_ k_ => XS.goto X5.here hx rfl (pc0 := 180) (pc' := 184) rfl (hb hby at_180) (by decide) (by decide) k_) ?_
          refine GoH.st (T' := T5) (pc' := 186) (L' := #[.val (.int p1), .val (.int p2), .val (.int p3), .val (.int p4), .val (.int p5), .val (.int (xa.toInt32)), .val (.int (xb.toInt32)), .val (.int (0 : Int32)), .val (.ref nm), .val (.int (1 : Int32)), .val (.ref b3), .val (.int (1 : Int32)), .val (.int (1 : Int32)), .unset, .unset]) (S' := []) (fun t_ k_ => XS.istore X5.here hx rfl (hb hby at_184) rfl (l' := #[.val (.int p1), .val (.int p2), .val (.int p3), .val (.int p4), .val (.int p5), .val (.int (xa.toInt32)), .val (.int (xb.toInt32)), .val (.int (0 : Int32)), .val (.ref nm), .val (.int (1 : Int32)), .val (.ref b3), .val (.int (1 : Int32)), .val (.int (1 : Int32)), .unset, .unset]) rfl k_) ?_
          exact seg186_1_1 p1 p2 p3 p4 p5 xa xb gC nm tn _ b3 (1 : Int32) (1 : Int32) (Stand.up X5 (by decide) (by decide)) hx hZ hw hby hml hown hnm hret hlk e5 hs0 CR hS hk N5 SC PC O0 Z0 E_nm Fc_nm Fv_nm V_tn hxa hxb na1 na2 nb2
    · refine GoH.st (T' := T0) (pc' := 123) (L' := #[.val (.int p1), .val (.int p2), .val (.int p3), .val (.int p4), .val (.int p5), .val (.int (xa.toInt32)), .val (.int (xb.toInt32)), .val (.int (0 : Int32)), .val (.ref nm), .val (.int (1 : Int32)), .val .null, .unset, .unset, .unset, .unset]) (S' := []) (fun t_ k_ => XS.ifNo X0.here hx rfl (hb hby at_120) rfl ((if0 _ _).trans (feq hc120_2).1) k_) ?_
      refine GoH.st (T' := T0) (pc' := 124) (L' := #[.val (.int p1), .val (.int p2), .val (.int p3), .val (.int p4), .val (.int p5), .val (.int (xa.toInt32)), .val (.int (xb.toInt32)), .val (.int (0 : Int32)), .val (.ref nm), .val (.int (1 : Int32)), .val .null, .unset, .unset, .unset, .unset]) (S' := [(.int p3)]) (fun t_ k_ => XS.iloadN X0.here hx rfl (hb hby at_123) rfl  k_) ?_
      refine GoH.st (T' := T0) (pc' := 127) (L' := #[.val (.int p1), .val (.int p2), .val (.int p3), .val (.int p4), .val (.int p5), .val (.int (xa.toInt32)), .val (.int (xb.toInt32)), .val (.int (0 : Int32)), .val (.ref nm), .val (.int (1 : Int32)), .val .null, .unset, .unset, .unset, .unset]) (S' := [(.int (255 : Int32)), (.int p3)]) (fun t_ k_ => XS.sipush X0.here hx rfl (hb hby at_124) k_) ?_
      refine GoH.st (T' := T0) (pc' := 128) (L' := #[.val (.int p1), .val (.int p2), .val (.int p3), .val (.int p4), .val (.int p5), .val (.int (xa.toInt32)), .val (.int (xb.toInt32)), .val (.int (0 : Int32)), .val (.ref nm), .val (.int (1 : Int32)), .val .null, .unset, .unset, .unset, .unset]) (S' := [(.int (p3 &&& (255 : Int32)))]) (fun t_ k_ => XS.iand X0.here hx rfl (hb hby at_127) rfl k_) ?_
      refine GoH.st (T' := T0) (pc' := 129) (L' := #[.val (.int p1), .val (.int p2), .val (.int p3), .val (.int p4), .val (.int p5), .val (.int (xa.toInt32)), .val (.int (xb.toInt32)), .val (.int (0 : Int32)), .val (.ref nm), .val (.int (1 : Int32)), .val .null, .unset, .unset, .unset, .unset]) (S' := [(.int ((p3 &&& (255 : Int32)).toUInt32.toUInt16.toUInt32.toInt32))]) (fun t_ k_ => XS.i2c X0.here hx rfl (hb hby at_128) rfl k_) ?_
      obtain ⟨_, _, ⟨T10, L10, k10, n10⟩, -, X10, ⟨Lc10, hQ10, l10, y10, z10⟩, st10⟩ := Jvm.LawKit.callS X0 hx (y := (⟨"java/lang/String", "valueOf", "(C)Ljava/lang/String;"⟩ : MethodName)) hown (mvT hZ (hw _ (List.mem_of_getElem? (i := 0) rfl))) (mvT hZ (hw _ (List.mem_of_getElem? (i := 1) rfl))) (mvT hZ (hw _ (List.mem_of_getElem? (i := 2) rfl))) (mvT hZ (hw _ (List.mem_of_getElem? (i := 3) rfl))) (by decide) (backOf (W := 0) (rm1 l Z a0 hw [] ((p3 &&& (255 : Int32)).toUInt32.toUInt16.toUInt32.toInt32) gC hh n0 Z0 SC PC O0 (own_c255 _)) hZ (hw _ (List.mem_of_getElem? (i := 3) rfl)) (hw _ (List.mem_of_getElem? (i := 2) rfl)) (by decide) (by decide)) (g := (mkF m 129 #[.val (.int p1), .val (.int p2), .val (.int p3), .val (.int p4), .val (.int p5), .val (.int (xa.toInt32)), .val (.int (xb.toInt32)), .val (.int (0 : Int32)), .val (.ref nm), .val (.int (1 : Int32)), .val .null, .unset, .unset, .unset, .unset] [(.int ((p3 &&& (255 : Int32)).toUInt32.toUInt16.toUInt32.toInt32))])) rfl (by rw [hml]; rfl) (argsL := [(.int ((p3 &&& (255 : Int32)).toUInt32.toUInt16.toUInt32.toInt32))]) (rest := []) (lenOf pd_18 rfl) rfl (by show 2 * 0 + _ ≤ _; exact Nat.le_of_eq rfl) (hb hby at_129) (fun _ _ => ⟨rfl, e0, (by decide : 3 + 2 ≤ _), (by decide : 8 + 5 ≤ _)⟩)
      dsimp only [Pt.U, Pt.locs, Pt.cells, Pt.slots] at X10 l10 y10 z10 st10 hQ10
      subst l10 y10 z10
      obtain ⟨b10, t10, kb10, rfl, N10q, K10, g_b10, lt10, E_b10, Co10, Va10, V_t10⟩ := hQ10
      have N10 := Fr.app N0 N10q
      have ne_nm_b10 : nm ≠ b10 := Nat.ne_of_lt (Nat.lt_of_lt_of_le E_nm.lt lt10)
      have ne_tn_b10 : tn ≠ b10 := Nat.ne_of_lt (Nat.lt_of_lt_of_le V_tn.lt lt10)
      obtain ⟨h10, e10⟩ : ∃ z, T10.heap = z := ⟨_, rfl⟩
      rw [e10] at K10 E_b10 Co10 Va10 V_t10
      have Sk11 : ∀ x ∈ [], Safe Z EL vm0 hh x := all0
      replace CR := CR.trans (CHr.keep K10 Sk11 CR.1)
      replace hk := Nat.le_trans hk K10.1
      replace Z0 := Nat.le_trans Z0 K10.1
      replace O0 := O0.keep K10 all0
      replace E_nm := E_nm.keep K10
      replace Fc_nm := Fc_nm.keep K10 nin0
      replace Fv_nm := Fv_nm.keep K10 nin0
      replace V_tn := V_tn.keep K10 nin0
      refine GoH.st (T' := T10) (pc' := 132) (L' := #[.val (.int p1), .val (.int p2), .val (.int p3), .val (.int p4), .val (.int p5), .val (.int (xa.toInt32)), .val (.int (xb.toInt32)), .val (.int (0 : Int32)), .val (.ref nm), .val (.int (1 : Int32)), .val .null, .unset, .unset, .unset, .unset]) (S' := [(.ref b10)]) st10 ?_
      refine GoH.st (T' := T10) (pc' := 134) (L' := #[.val (.int p1), .val (.int p2), .val (.int p3), .val (.int p4), .val (.int p5), .val (.int (xa.toInt32)), .val (.int (xb.toInt32)), .val (.int (0 : Int32)), .val (.ref nm), .val (.int (1 : Int32)), .val (.ref b10), .unset, .unset, .unset, .unset]) (S' := []) (fun t_ k_ => XS.astore X10.here hx rfl (hb hby at_132) rfl rfl (l' := #[.val (.int p1), .val (.int p2), .val (.int p3), .val (.int p4), .val (.int p5), .val (.int (xa.toInt32)), .val (.int (xb.toInt32)), .val (.int (0 : Int32)), .val (.ref nm), .val (.int (1 : Int32)), .val (.ref b10), .unset, .unset, .unset, .unset]) rfl k_) ?_
      refine GoH.st (T' := T10) (pc' := 149) (L' := #[.val (.int p1), .val (.int p2), .val (.int p3), .val (.int p4), .val (.int p5), .val (.int (xa.toInt32)), .val (.int (xb.toInt32)), .val (.int (0 : Int32)), .val (.ref nm), .val (.int (1 : Int32)), .val (.ref b10), .unset, .unset, .unset, .unset]) (S' := []) (fun t_ k_ => XS.goto X10.here hx rfl (pc0 := 134) (pc' := 149) rfl (hb hby at_134) (by decide) (by decide) k_) ?_
      refine GoH.st (T' := T10) (pc' := 151) (L' := #[.val (.int p1), .val (.int p2), .val (.int p3), .val (.int p4), .val (.int p5), .val (.int (xa.toInt32)), .val (.int (xb.toInt32)), .val (.int (0 : Int32)), .val (.ref nm), .val (.int (1 : Int32)), .val (.ref b10), .unset, .unset, .unset, .unset]) (S' := [(.int (1 : Int32))]) (fun t_ k_ => XS.iload X10.here hx rfl (hb hby at_149) rfl  k_) ?_
      refine GoH.st (T' := T10) (pc' := 154) (L' := #[.val (.int p1), .val (.int p2), .val (.int p3), .val (.int p4), .val (.int p5), .val (.int (xa.toInt32)), .val (.int (xb.toInt32)), .val (.int (0 : Int32)), .val (.ref nm), .val (.int (1 : Int32)), .val (.ref b10), .unset, .unset, .unset, .unset]) (S' := []) (fun t_ k_ => XS.ifNo X10.here hx rfl (hb hby at_151) rfl ((if0 _ _).trans (feq (by decide : ¬ ((1 : Int32) = (0 : Int32)))).1) k_) ?_
      refine GoH.st (T' := T10) (pc' := 155) (L' := #[.val (.int p1), .val (.int p2), .val (.int p3), .val (.int p4), .val (.int p5), .val (.int (xa.toInt32)), .val (.int (xb.toInt32)), .val (.int (0 : Int32)), .val (.ref nm), .val (.int (1 : Int32)), .val (.ref b10), .unset, .unset, .unset, .unset]) (S' := [(.int p4)]) (fun t_ k_ => XS.iloadN X10.here hx rfl (hb hby at_154) rfl  k_) ?_
      refine GoH.st (T' := T10) (pc' := 156) (L' := #[.val (.int p1), .val (.int p2), .val (.int p3), .val (.int p4), .val (.int p5), .val (.int (xa.toInt32)), .val (.int (xb.toInt32)), .val (.int (0 : Int32)), .val (.ref nm), .val (.int (1 : Int32)), .val (.ref b10), .unset, .unset, .unset, .unset]) (S' := [(.int (4 : Int32)), (.int p4)]) (fun t_ k_ => XS.iconst X10.here hx rfl (hb hby at_155) k_) ?_
      refine GoH.st (T' := T10) (pc' := 157) (L' := #[.val (.int p1), .val (.int p2), .val (.int p3), .val (.int p4), .val (.int p5), .val (.int (xa.toInt32)), .val (.int (xb.toInt32)), .val (.int (0 : Int32)), .val (.ref nm), .val (.int (1 : Int32)), .val (.ref b10), .unset, .unset, .unset, .unset]) (S' := [(.int (p4 &&& (4 : Int32)))]) (fun t_ k_ => XS.iand X10.here hx rfl (hb hby at_156) rfl k_) ?_
      by_cases hc157_12 : (p4 &&& (4 : Int32)) = (0 : Int32)
      · refine GoH.st (T' := T10) (pc' := 164) (L' := #[.val (.int p1), .val (.int p2), .val (.int p3), .val (.int p4), .val (.int p5), .val (.int (xa.toInt32)), .val (.int (xb.toInt32)), .val (.int (0 : Int32)), .val (.ref nm), .val (.int (1 : Int32)), .val (.ref b10), .unset, .unset, .unset, .unset]) (S' := []) (fun t_ k_ => XS.ifYes X10.here hx rfl (pc0 := 157) (pc' := 164) rfl (hb hby at_157) rfl ((if0 _ _).trans (teq hc157_12).1) (by decide) (by decide) k_) ?_
        refine GoH.st (T' := T10) (pc' := 165) (L' := #[.val (.int p1), .val (.int p2), .val (.int p3), .val (.int p4), .val (.int p5), .val (.int (xa.toInt32)), .val (.int (xb.toInt32)), .val (.int (0 : Int32)), .val (.ref nm), .val (.int (1 : Int32)), .val (.ref b10), .unset, .unset, .unset, .unset]) (S' := [(.int (0 : Int32))]) (fun t_ k_ => XS.iconst X10.here hx rfl (hb hby at_164) k_) ?_
        refine GoH.st (T' := T10) (pc' := 167) (L' := #[.val (.int p1), .val (.int p2), .val (.int p3), .val (.int p4), .val (.int p5), .val (.int (xa.toInt32)), .val (.int (xb.toInt32)), .val (.int (0 : Int32)), .val (.ref nm), .val (.int (1 : Int32)), .val (.ref b10), .val (.int (0 : Int32)), .unset, .unset, .unset]) (S' := []) (fun t_ k_ => XS.istore X10.here hx rfl (hb hby at_165) rfl (l' := #[.val (.int p1), .val (.int p2), .val (.int p3), .val (.int p4), .val (.int p5), .val (.int (xa.toInt32)), .val (.int (xb.toInt32)), .val (.int (0 : Int32)), .val (.ref nm), .val (.int (1 : Int32)), .val (.ref b10), .val (.int (0 : Int32)), .unset, .unset, .unset]) rfl k_) ?_
        refine GoH.st (T' := T10) (pc' := 169) (L' := #[.val (.int p1), .val (.int p2), .val (.int p3), .val (.int p4), .val (.int p5), .val (.int (xa.toInt32)), .val (.int (xb.toInt32)), .val (.int (0 : Int32)), .val (.ref nm), .val (.int (1 : Int32)), .val (.ref b10), .val (.int (0 : Int32)), .unset, .unset, .unset]) (S' := [(.int (1 : Int32))]) (fun t_ k_ => XS.iload X10.here hx rfl (hb hby at_167) rfl  k_) ?_
        refine GoH.st (T' := T10) (pc' := 172) (L' := #[.val (.int p1), .val (.int p2), .val (.int p3), .val (.int p4), .val (.int p5), .val (.int (xa.toInt32)), .val (.int (xb.toInt32)), .val (.int (0 : Int32)), .val (.ref nm), .val (.int (1 : Int32)), .val (.ref b10), .val (.int (0 : Int32)), .unset, .unset, .unset]) (S' := []) (fun t_ k_ => XS.ifNo X10.here hx rfl (hb hby at_169) rfl ((if0 _ _).trans (feq (by decide : ¬ ((1 : Int32) = (0 : Int32)))).1) k_) ?_
        refine GoH.st (T' := T10) (pc' := 173) (L' := #[.val (.int p1), .val (.int p2), .val (.int p3), .val (.int p4), .val (.int p5), .val (.int (xa.toInt32)), .val (.int (xb.toInt32)), .val (.int (0 : Int32)), .val (.ref nm), .val (.int (1 : Int32)), .val (.ref b10), .val (.int (0 : Int32)), .unset, .unset, .unset]) (S' := [(.int p4)]) (fun t_ k_ => XS.iloadN X10.here hx rfl (hb hby at_172) rfl  k_) ?_
        refine GoH.st (T' := T10) (pc' := 175) (L' := #[.val (.int p1), .val (.int p2), .val (.int p3), .val (.int p4), .val (.int p5), .val (.int (xa.toInt32)), .val (.int (xb.toInt32)), .val (.int (0 : Int32)), .val (.ref nm), .val (.int (1 : Int32)), .val (.ref b10), .val (.int (0 : Int32)), .unset, .unset, .unset]) (S' := [(.int (8 : Int32)), (.int p4)]) (fun t_ k_ => XS.bipush X10.here hx rfl (hb hby at_173) k_) ?_
        refine GoH.st (T' := T10) (pc' := 176) (L' := #[.val (.int p1), .val (.int p2), .val (.int p3), .val (.int p4), .val (.int p5), .val (.int (xa.toInt32)), .val (.int (xb.toInt32)), .val (.int (0 : Int32)), .val (.ref nm), .val (.int (1 : Int32)), .val (.ref b10), .val (.int (0 : Int32)), .unset, .unset, .unset]) (S' := [(.int (p4 &&& (8 : Int32)))]) (fun t_ k_ => XS.iand X10.here hx rfl (hb hby at_175) rfl k_) ?_
        by_cases hc176_13 : (p4 &&& (8 : Int32)) = (0 : Int32)
        · refine GoH.st (T' := T10) (pc' := 183) (L' := #[.val (.int p1), .val (.int p2), .val (.int p3), .val (.int p4), .val (.int p5), .val (.int (xa.toInt32)), .val (.int (xb.toInt32)), .val (.int (0 : Int32)), .val (.ref nm), .val (.int (1 : Int32)), .val (.ref b10), .val (.int (0 : Int32)), .unset, .unset, .unset]) (S' := []) (fun t_ k_ => XS.ifYes X10.here hx rfl (pc0 := 176) (pc' := 183) rfl (hb hby at_176) rfl ((if0 _ _).trans (teq hc176_13).1) (by decide) (by decide) k_) ?_
          refine GoH.st (T' := T10) (pc' := 184) (L' := #[.val (.int p1), .val (.int p2), .val (.int p3), .val (.int p4), .val (.int p5), .val (.int (xa.toInt32)), .val (.int (xb.toInt32)), .val (.int (0 : Int32)), .val (.ref nm), .val (.int (1 : Int32)), .val (.ref b10), .val (.int (0 : Int32)), .unset, .unset, .unset]) (S' := [(.int (0 : Int32))]) (fun t_ k_ => XS.iconst X10.here hx rfl (hb hby at_183) k_) ?_
          refine GoH.st (T' := T10) (pc' := 186) (L' := #[.val (.int p1), .val (.int p2), .val (.int p3), .val (.int p4), .val (.int p5), .val (.int (xa.toInt32)), .val (.int (xb.toInt32)), .val (.int (0 : Int32)), .val (.ref nm), .val (.int (1 : Int32)), .val (.ref b10), .val (.int (0 : Int32)), .val (.int (0 : Int32)), .unset, .unset]) (S' := []) (fun t_ k_ => XS.istore X10.here hx rfl (hb hby at_184) rfl (l' := #[.val (.int p1), .val (.int p2), .val (.int p3), .val (.int p4), .val (.int p5), .val (.int (xa.toInt32)), .val (.int (xb.toInt32)), .val (.int (0 : Int32)), .val (.ref nm), .val (.int (1 : Int32)), .val (.ref b10), .val (.int (0 : Int32)), .val (.int (0 : Int32)), .unset, .unset]) rfl k_) ?_
          exact seg186_1_1 p1 p2 p3 p4 p5 xa xb gC nm tn _ b10 (0 : Int32) (0 : Int32) (Stand.up X10 (by decide) (by decide)) hx hZ hw hby hml hown hnm hret hlk e10 hs0 CR hS hk N10 SC PC O0 Z0 E_nm Fc_nm Fv_nm V_tn hxa hxb na1 na2 nb2
        · refine GoH.st (T' := T10) (pc' := 179) (L' := #[.val (.int p1), .val (.int p2), .val (.int p3), .val (.int p4), .val (.int p5), .val (.int (xa.toInt32)), .val (.int (xb.toInt32)), .val (.int (0 : Int32)), .val (.ref nm), .val (.int (1 : Int32)), .val (.ref b10), .val (.int (0 : Int32)), .unset, .unset, .unset]) (S' := []) (fun t_ k_ => XS.ifNo X10.here hx rfl (hb hby at_176) rfl ((if0 _ _).trans (feq hc176_13).1) k_) ?_
          refine GoH.st (T' := T10) (pc' := 180) (L' := #[.val (.int p1), .val (.int p2), .val (.int p3), .val (.int p4), .val (.int p5), .val (.int (xa.toInt32)), .val (.int (xb.toInt32)), .val (.int (0 : Int32)), .val (.ref nm), .val (.int (1 : Int32)), .val (.ref b10), .val (.int (0 : Int32)), .unset, .unset, .unset]) (S' := [(.int (1 : Int32))]) (fun t_ k_ => XS.iconst X10.here hx rfl (hb hby at_179) k_) ?_
          refine GoH.st (T' := T10) (pc' := 184) (L' := #[.val (.int p1), .val (.int p2), .val (.int p3), .val (.int p4), .val (.int p5), .val (.int (xa.toInt32)), .val (.int (xb.toInt32)), .val (.int (0 : Int32)), .val (.ref nm), .val (.int (1 : Int32)), .val (.ref b10), .val (.int (0 : Int32)), .unset, .unset, .unset]) (S' := [(.int (1 : Int32))]) (fun t_ k_ => XS.goto X10.here hx rfl (pc0 := 180) (pc' := 184) rfl (hb hby at_180) (by decide) (by decide) k_) ?_
          refine GoH.st (T' := T10) (pc' := 186) (L' := #[.val (.int p1), .val (.int p2), .val (.int p3), .val (.int p4), .val (.int p5), .val (.int (xa.toInt32)), .val (.int (xb.toInt32)), .val (.int (0 : Int32)), .val (.ref nm), .val (.int (1 : Int32)), .val (.ref b10), .val (.int (0 : Int32)), .val (.int (1 : Int32)), .unset, .unset]) (S' := []) (fun t_ k_ => XS.istore X10.here hx rfl (hb hby at_184) rfl (l' := #[.val (.int p1), .val (.int p2), .val (.int p3), .val (.int p4), .val (.int p5), .val (.int (xa.toInt32)), .val (.int (xb.toInt32)), .val (.int (0 : Int32)), .val (.ref nm), .val (.int (1 : Int32)), .val (.ref b10), .val (.int (0 : Int32)), .val (.int (1 : Int32)), .unset, .unset]) rfl k_) ?_
          exact seg186_1_1 p1 p2 p3 p4 p5 xa xb gC nm tn _ b10 (0 : Int32) (1 : Int32) (Stand.up X10 (by decide) (by decide)) hx hZ hw hby hml hown hnm hret hlk e10 hs0 CR hS hk N10 SC PC O0 Z0 E_nm Fc_nm Fv_nm V_tn hxa hxb na1 na2 nb2
      · refine GoH.st (T' := T10) (pc' := 160) (L' := #[.val (.int p1), .val (.int p2), .val (.int p3), .val (.int p4), .val (.int p5), .val (.int (xa.toInt32)), .val (.int (xb.toInt32)), .val (.int (0 : Int32)), .val (.ref nm), .val (.int (1 : Int32)), .val (.ref b10), .unset, .unset, .unset, .unset]) (S' := []) (fun t_ k_ => XS.ifNo X10.here hx rfl (hb hby at_157) rfl ((if0 _ _).trans (feq hc157_12).1) k_) ?_
        refine GoH.st (T' := T10) (pc' := 161) (L' := #[.val (.int p1), .val (.int p2), .val (.int p3), .val (.int p4), .val (.int p5), .val (.int (xa.toInt32)), .val (.int (xb.toInt32)), .val (.int (0 : Int32)), .val (.ref nm), .val (.int (1 : Int32)), .val (.ref b10), .unset, .unset, .unset, .unset]) (S' := [(.int (1 : Int32))]) (fun t_ k_ => XS.iconst X10.here hx rfl (hb hby at_160) k_) ?_
        refine GoH.st (T' := T10) (pc' := 165) (L' := #[.val (.int p1), .val (.int p2), .val (.int p3), .val (.int p4), .val (.int p5), .val (.int (xa.toInt32)), .val (.int (xb.toInt32)), .val (.int (0 : Int32)), .val (.ref nm), .val (.int (1 : Int32)), .val (.ref b10), .unset, .unset, .unset, .unset]) (S' := [(.int (1 : Int32))]) (fun t_ k_ => XS.goto X10.here hx rfl (pc0 := 161) (pc' := 165) rfl (hb hby at_161) (by decide) (by decide) k_) ?_
        refine GoH.st (T' := T10) (pc' := 167) (L' := #[.val (.int p1), .val (.int p2), .val (.int p3), .val (.int p4), .val (.int p5), .val (.int (xa.toInt32)), .val (.int (xb.toInt32)), .val (.int (0 : Int32)), .val (.ref nm), .val (.int (1 : Int32)), .val (.ref b10), .val (.int (1 : Int32)), .unset, .unset, .unset]) (S' := []) (fun t_ k_ => XS.istore X10.here hx rfl (hb hby at_165) rfl (l' := #[.val (.int p1), .val (.int p2), .val (.int p3), .val (.int p4), .val (.int p5), .val (.int (xa.toInt32)), .val (.int (xb.toInt32)), .val (.int (0 : Int32)), .val (.ref nm), .val (.int (1 : Int32)), .val (.ref b10), .val (.int (1 : Int32)), .unset, .unset, .unset]) rfl k_) ?_
        refine GoH.st (T' := T10) (pc' := 169) (L' := #[.val (.int p1), .val (.int p2), .val (.int p3), .val (.int p4), .val (.int p5), .val (.int (xa.toInt32)), .val (.int (xb.toInt32)), .val (.int (0 : Int32)), .val (.ref nm), .val (.int (1 : Int32)), .val (.ref b10), .val (.int (1 : Int32)), .unset, .unset, .unset]) (S' := [(.int (1 : Int32))]) (fun t_ k_ => XS.iload X10.here hx rfl (hb hby at_167) rfl  k_) ?_
        refine GoH.st (T' := T10) (pc' := 172) (L' := #[.val (.int p1), .val (.int p2), .val (.int p3), .val (.int p4), .val (.int p5), .val (.int (xa.toInt32)), .val (.int (xb.toInt32)), .val (.int (0 : Int32)), .val (.ref nm), .val (.int (1 : Int32)), .val (.ref b10), .val (.int (1 : Int32)), .unset, .unset, .unset]) (S' := []) (fun t_ k_ => XS.ifNo X10.here hx rfl (hb hby at_169) rfl ((if0 _ _).trans (feq (by decide : ¬ ((1 : Int32) = (0 : Int32)))).1) k_) ?_
        refine GoH.st (T' := T10) (pc' := 173) (L' := #[.val (.int p1), .val (.int p2), .val (.int p3), .val (.int p4), .val (.int p5), .val (.int (xa.toInt32)), .val (.int (xb.toInt32)), .val (.int (0 : Int32)), .val (.ref nm), .val (.int (1 : Int32)), .val (.ref b10), .val (.int (1 : Int32)), .unset, .unset, .unset]) (S' := [(.int p4)]) (fun t_ k_ => XS.iloadN X10.here hx rfl (hb hby at_172) rfl  k_) ?_
        refine GoH.st (T' := T10) (pc' := 175) (L' := #[.val (.int p1), .val (.int p2), .val (.int p3), .val (.int p4), .val (.int p5), .val (.int (xa.toInt32)), .val (.int (xb.toInt32)), .val (.int (0 : Int32)), .val (.ref nm), .val (.int (1 : Int32)), .val (.ref b10), .val (.int (1 : Int32)), .unset, .unset, .unset]) (S' := [(.int (8 : Int32)), (.int p4)]) (fun t_ k_ => XS.bipush X10.here hx rfl (hb hby at_173) k_) ?_
        refine GoH.st (T' := T10) (pc' := 176) (L' := #[.val (.int p1), .val (.int p2), .val (.int p3), .val (.int p4), .val (.int p5), .val (.int (xa.toInt32)), .val (.int (xb.toInt32)), .val (.int (0 : Int32)), .val (.ref nm), .val (.int (1 : Int32)), .val (.ref b10), .val (.int (1 : Int32)), .unset, .unset, .unset]) (S' := [(.int (p4 &&& (8 : Int32)))]) (fun t_ k_ => XS.iand X10.here hx rfl (hb hby at_175) rfl k_) ?_
        by_cases hc176_14 : (p4 &&& (8 : Int32)) = (0 : Int32)
        · refine GoH.st (T' := T10) (pc' := 183) (L' := #[.val (.int p1), .val (.int p2), .val (.int p3), .val (.int p4), .val (.int p5), .val (.int (xa.toInt32)), .val (.int (xb.toInt32)), .val (.int (0 : Int32)), .val (.ref nm), .val (.int (1 : Int32)), .val (.ref b10), .val (.int (1 : Int32)), .unset, .unset, .unset]) (S' := []) (fun t_ k_ => XS.ifYes X10.here hx rfl (pc0 := 176) (pc' := 183) rfl (hb hby at_176) rfl ((if0 _ _).trans (teq hc176_14).1) (by decide) (by decide) k_) ?_
          refine GoH.st (T' := T10) (pc' := 184) (L' := #[.val (.int p1), .val (.int p2), .val (.int p3), .val (.int p4), .val (.int p5), .val (.int (xa.toInt32)), .val (.int (xb.toInt32)), .val (.int (0 : Int32)), .val (.ref nm), .val (.int (1 : Int32)), .val (.ref b10), .val (.int (1 : Int32)), .unset, .unset, .unset]) (S' := [(.int (0 : Int32))]) (fun t_ k_ => XS.iconst X10.here hx rfl (hb hby at_183) k_) ?_
          refine GoH.st (T' := T10) (pc' := 186) (L' := #[.val (.int p1), .val (.int p2), .val (.int p3), .val (.int p4), .val (.int p5), .val (.int (xa.toInt32)), .val (.int (xb.toInt32)), .val (.int (0 : Int32)), .val (.ref nm), .val (.int (1 : Int32)), .val (.ref b10), .val (.int (1 : Int32)), .val (.int (0 : Int32)), .unset, .unset]) (S' := []) (fun t_ k_ => XS.istore X10.here hx rfl (hb hby at_184) rfl (l' := #[.val (.int p1), .val (.int p2), .val (.int p3), .val (.int p4), .val (.int p5), .val (.int (xa.toInt32)), .val (.int (xb.toInt32)), .val (.int (0 : Int32)), .val (.ref nm), .val (.int (1 : Int32)), .val (.ref b10), .val (.int (1 : Int32)), .val (.int (0 : Int32)), .unset, .unset]) rfl k_) ?_
          exact seg186_1_1 p1 p2 p3 p4 p5 xa xb gC nm tn _ b10 (1 : Int32) (0 : Int32) (Stand.up X10 (by decide) (by decide)) hx hZ hw hby hml hown hnm hret hlk e10 hs0 CR hS hk N10 SC PC O0 Z0 E_nm Fc_nm Fv_nm V_tn hxa hxb na1 na2 nb2
        · refine GoH.st (T' := T10) (pc' := 179) (L' := #[.val (.int p1), .val (.int p2), .val (.int p3), .val (.int p4), .val (.int p5), .val (.int (xa.toInt32)), .val (.int (xb.toInt32)), .val (.int (0 : Int32)), .val (.ref nm), .val (.int (1 : Int32)), .val (.ref b10), .val (.int (1 : Int32)), .unset, .unset, .unset]) (S' := []) (fun t_ k_ => XS.ifNo X10.here hx rfl (hb hby at_176) rfl ((if0 _ _).trans (feq hc176_14).1) k_) ?_
          refine GoH.st (T' := T10) (pc' := 180) (L' := #[.val (.int p1), .val (.int p2), .val (.int p3), .val (.int p4), .val (.int p5), .val (.int (xa.toInt32)), .val (.int (xb.toInt32)), .val (.int (0 : Int32)), .val (.ref nm), .val (.int (1 : Int32)), .val (.ref b10), .val (.int (1 : Int32)), .unset, .unset, .unset]) (S' := [(.int (1 : Int32))]) (fun t_ k_ => XS.iconst X10.here hx rfl (hb hby at_179) k_) ?_
          refine GoH.st (T' := T10) (pc' := 184) (L' := #[.val (.int p1), .val (.int p2), .val (.int p3), .val (.int p4), .val (.int p5), .val (.int (xa.toInt32)), .val (.int (xb.toInt32)), .val (.int (0 : Int32)), .val (.ref nm), .val (.int (1 : Int32)), .val (.ref b10), .val (.int (1 : Int32)), .unset, .unset, .unset]) (S' := [(.int (1 : Int32))]) (fun t_ k_ => XS.goto X10.here hx rfl (pc0 := 180) (pc' := 184) rfl (hb hby at_180) (by decide) (by decide) k_) ?_
          refine GoH.st (T' := T10) (pc' := 186) (L' := #[.val (.int p1), .val (.int p2), .val (.int p3), .val (.int p4), .val (.int p5), .val (.int (xa.toInt32)), .val (.int (xb.toInt32)), .val (.int (0 : Int32)), .val (.ref nm), .val (.int (1 : Int32)), .val (.ref b10), .val (.int (1 : Int32)), .val (.int (1 : Int32)), .unset, .unset]) (S' := []) (fun t_ k_ => XS.istore X10.here hx rfl (hb hby at_184) rfl (l' := #[.val (.int p1), .val (.int p2), .val (.int p3), .val (.int p4), .val (.int p5), .val (.int (xa.toInt32)), .val (.int (xb.toInt32)), .val (.int (0 : Int32)), .val (.ref nm), .val (.int (1 : Int32)), .val (.ref b10), .val (.int (1 : Int32)), .val (.int (1 : Int32)), .unset, .unset]) rfl k_) ?_
          exact seg186_1_1 p1 p2 p3 p4 p5 xa xb gC nm tn _ b10 (1 : Int32) (1 : Int32) (Stand.up X10 (by decide) (by decide)) hx hZ hw hby hml hown hnm hret hlk e10 hs0 CR hS hk N10 SC PC O0 Z0 E_nm Fc_nm Fv_nm V_tn hxa hxb na1 na2 nb2

set_option maxRecDepth 65536 in
set_option maxHeartbeats 40000000 in
theorem seg96_2 {p : Program} {l : Launch} {e : Env} {s : State} {m : MethodId} {args : Array Value} {below : List Frame} {meth : Method} {c : Code} {T0 : State} {locs : List Loc} {Z : State} {a0 : Array Value} {n0 k0 : Nat} {h0 hh : Heap} {vm0 : Vm} (p1 : Int32) (p2 : Int32) (p3 : Int32) (p4 : Int32) (p5 : Int32) (xa : Nat) (xb : Nat) (gC : Int32) (nm : Addr) (tn : Addr) (kn : ClassId)
    (X0 : Stand p l e room_1 (s.setVm vm0) m args below meth c T0 locs 3 8) (hx : p.tables.exec = Jvm.exec) (hZ : Z.Warmed39 (s.setVm vm0).vm) (hw : ∀ d ∈ tables_1, d.before a0 Z = true) (hby : c.code = code) (hml : c.maxLocals = 15) (hown : (s.setVm vm0).vm.findClass "com/example/placewright/placewright/cli/OptionTakesValuePinLaw" = some m.cls) (hnm : meth.name = "law") (hret : meth.sig.returnType = (some .boolean)) (hlk : meth.locks = false) (e0 : T0.heap = hh) (hs0 : s.heap = h0) (CR : CHr Z EL s.vm h0 vm0 hh) (hS : s.Since vm0 k0) (hk : k0 ≤ hh.size) (N0 : Fr n0 locs) (SC : Sta Z Z.heap "java/lang/String" "COMPACT_STRINGS" "Z" (.int gC)) (PC : ¬ (gC = (0 : Int32))) (O0 : Old Z n0 hh) (Z0 : n0 ≤ hh.size) (E_nm : Exa Z hh nm "java/lang/String") (Fc_nm : Fld Z hh nm "java/lang/String" "coder" "B" (.int (0 : Int32))) (Fv_nm : Fld Z hh nm "java/lang/String" "value" "[B" (.ref tn)) (V_tn : Arv Z hh tn kn .byte (2 : Int32) [(.int ((nar .char (xa.toInt32)).toInt8.toInt32)), (.int ((nar .char (xb.toInt32)).toInt8.toInt32))] (.int (0 : Int32))) (hxa : xa < 256) (hxb : xb < 256) (na1 : xa ≠ 45) (na2 : xa ≠ 61) (nb2 : xb ≠ 61) :
    GoH Z EL p e below s room_1.cells room_1.slots (Q0 Z h0 n0) m T0 96 #[.val (.int p1), .val (.int p2), .val (.int p3), .val (.int p4), .val (.int p5), .val (.int (xa.toInt32)), .val (.int (xb.toInt32)), .val (.int (1 : Int32)), .val (.ref nm), .unset, .unset, .unset, .unset, .unset, .unset] [] := by
  refine GoH.st (T' := T0) (pc' := 97) (L' := #[.val (.int p1), .val (.int p2), .val (.int p3), .val (.int p4), .val (.int p5), .val (.int (xa.toInt32)), .val (.int (xb.toInt32)), .val (.int (1 : Int32)), .val (.ref nm), .unset, .unset, .unset, .unset, .unset, .unset]) (S' := [(.int p4)]) (fun t_ k_ => XS.iloadN X0.here hx rfl (hb hby at_96) rfl  k_) ?_
  refine GoH.st (T' := T0) (pc' := 98) (L' := #[.val (.int p1), .val (.int p2), .val (.int p3), .val (.int p4), .val (.int p5), .val (.int (xa.toInt32)), .val (.int (xb.toInt32)), .val (.int (1 : Int32)), .val (.ref nm), .unset, .unset, .unset, .unset, .unset, .unset]) (S' := [(.int (1 : Int32)), (.int p4)]) (fun t_ k_ => XS.iconst X0.here hx rfl (hb hby at_97) k_) ?_
  refine GoH.st (T' := T0) (pc' := 99) (L' := #[.val (.int p1), .val (.int p2), .val (.int p3), .val (.int p4), .val (.int p5), .val (.int (xa.toInt32)), .val (.int (xb.toInt32)), .val (.int (1 : Int32)), .val (.ref nm), .unset, .unset, .unset, .unset, .unset, .unset]) (S' := [(.int (p4 &&& (1 : Int32)))]) (fun t_ k_ => XS.iand X0.here hx rfl (hb hby at_98) rfl k_) ?_
  by_cases hc99_1 : (p4 &&& (1 : Int32)) = (0 : Int32)
  · refine GoH.st (T' := T0) (pc' := 106) (L' := #[.val (.int p1), .val (.int p2), .val (.int p3), .val (.int p4), .val (.int p5), .val (.int (xa.toInt32)), .val (.int (xb.toInt32)), .val (.int (1 : Int32)), .val (.ref nm), .unset, .unset, .unset, .unset, .unset, .unset]) (S' := []) (fun t_ k_ => XS.ifYes X0.here hx rfl (pc0 := 99) (pc' := 106) rfl (hb hby at_99) rfl ((if0 _ _).trans (teq hc99_1).1) (by decide) (by decide) k_) ?_
    refine GoH.st (T' := T0) (pc' := 107) (L' := #[.val (.int p1), .val (.int p2), .val (.int p3), .val (.int p4), .val (.int p5), .val (.int (xa.toInt32)), .val (.int (xb.toInt32)), .val (.int (1 : Int32)), .val (.ref nm), .unset, .unset, .unset, .unset, .unset, .unset]) (S' := [(.int (0 : Int32))]) (fun t_ k_ => XS.iconst X0.here hx rfl (hb hby at_106) k_) ?_
    refine GoH.st (T' := T0) (pc' := 109) (L' := #[.val (.int p1), .val (.int p2), .val (.int p3), .val (.int p4), .val (.int p5), .val (.int (xa.toInt32)), .val (.int (xb.toInt32)), .val (.int (1 : Int32)), .val (.ref nm), .val (.int (0 : Int32)), .unset, .unset, .unset, .unset, .unset]) (S' := []) (fun t_ k_ => XS.istore X0.here hx rfl (hb hby at_107) rfl (l' := #[.val (.int p1), .val (.int p2), .val (.int p3), .val (.int p4), .val (.int p5), .val (.int (xa.toInt32)), .val (.int (xb.toInt32)), .val (.int (1 : Int32)), .val (.ref nm), .val (.int (0 : Int32)), .unset, .unset, .unset, .unset, .unset]) rfl k_) ?_
    refine GoH.st (T' := T0) (pc' := 110) (L' := #[.val (.int p1), .val (.int p2), .val (.int p3), .val (.int p4), .val (.int p5), .val (.int (xa.toInt32)), .val (.int (xb.toInt32)), .val (.int (1 : Int32)), .val (.ref nm), .val (.int (0 : Int32)), .unset, .unset, .unset, .unset, .unset]) (S' := [.null]) (fun t_ k_ => XS.aconstNull X0.here hx rfl (hb hby at_109) k_) ?_
    refine GoH.st (T' := T0) (pc' := 112) (L' := #[.val (.int p1), .val (.int p2), .val (.int p3), .val (.int p4), .val (.int p5), .val (.int (xa.toInt32)), .val (.int (xb.toInt32)), .val (.int (1 : Int32)), .val (.ref nm), .val (.int (0 : Int32)), .val .null, .unset, .unset, .unset, .unset]) (S' := []) (fun t_ k_ => XS.astore X0.here hx rfl (hb hby at_110) rfl rfl (l' := #[.val (.int p1), .val (.int p2), .val (.int p3), .val (.int p4), .val (.int p5), .val (.int (xa.toInt32)), .val (.int (xb.toInt32)), .val (.int (1 : Int32)), .val (.ref nm), .val (.int (0 : Int32)), .val .null, .unset, .unset, .unset, .unset]) rfl k_) ?_
    refine GoH.st (T' := T0) (pc' := 114) (L' := #[.val (.int p1), .val (.int p2), .val (.int p3), .val (.int p4), .val (.int p5), .val (.int (xa.toInt32)), .val (.int (xb.toInt32)), .val (.int (1 : Int32)), .val (.ref nm), .val (.int (0 : Int32)), .val .null, .unset, .unset, .unset, .unset]) (S' := [(.int (0 : Int32))]) (fun t_ k_ => XS.iload X0.here hx rfl (hb hby at_112) rfl  k_) ?_
    refine GoH.st (T' := T0) (pc' := 149) (L' := #[.val (.int p1), .val (.int p2), .val (.int p3), .val (.int p4), .val (.int p5), .val (.int (xa.toInt32)), .val (.int (xb.toInt32)), .val (.int (1 : Int32)), .val (.ref nm), .val (.int (0 : Int32)), .val .null, .unset, .unset, .unset, .unset]) (S' := []) (fun t_ k_ => XS.ifYes X0.here hx rfl (pc0 := 114) (pc' := 149) rfl (hb hby at_114) rfl ((if0 _ _).trans (teq (by decide : ((0 : Int32) = (0 : Int32)))).1) (by decide) (by decide) k_) ?_
    refine GoH.st (T' := T0) (pc' := 151) (L' := #[.val (.int p1), .val (.int p2), .val (.int p3), .val (.int p4), .val (.int p5), .val (.int (xa.toInt32)), .val (.int (xb.toInt32)), .val (.int (1 : Int32)), .val (.ref nm), .val (.int (0 : Int32)), .val .null, .unset, .unset, .unset, .unset]) (S' := [(.int (0 : Int32))]) (fun t_ k_ => XS.iload X0.here hx rfl (hb hby at_149) rfl  k_) ?_
    refine GoH.st (T' := T0) (pc' := 164) (L' := #[.val (.int p1), .val (.int p2), .val (.int p3), .val (.int p4), .val (.int p5), .val (.int (xa.toInt32)), .val (.int (xb.toInt32)), .val (.int (1 : Int32)), .val (.ref nm), .val (.int (0 : Int32)), .val .null, .unset, .unset, .unset, .unset]) (S' := []) (fun t_ k_ => XS.ifYes X0.here hx rfl (pc0 := 151) (pc' := 164) rfl (hb hby at_151) rfl ((if0 _ _).trans (teq (by decide : ((0 : Int32) = (0 : Int32)))).1) (by decide) (by decide) k_) ?_
    refine GoH.st (T' := T0) (pc' := 165) (L' := #[.val (.int p1), .val (.int p2), .val (.int p3), .val (.int p4), .val (.int p5), .val (.int (xa.toInt32)), .val (.int (xb.toInt32)), .val (.int (1 : Int32)), .val (.ref nm), .val (.int (0 : Int32)), .val .null, .unset, .unset, .unset, .unset]) (S' := [(.int (0 : Int32))]) (fun t_ k_ => XS.iconst X0.here hx rfl (hb hby at_164) k_) ?_
    refine GoH.st (T' := T0) (pc' := 167) (L' := #[.val (.int p1), .val (.int p2), .val (.int p3), .val (.int p4), .val (.int p5), .val (.int (xa.toInt32)), .val (.int (xb.toInt32)), .val (.int (1 : Int32)), .val (.ref nm), .val (.int (0 : Int32)), .val .null, .val (.int (0 : Int32)), .unset, .unset, .unset]) (S' := []) (fun t_ k_ => XS.istore X0.here hx rfl (hb hby at_165) rfl (l' := #[.val (.int p1), .val (.int p2), .val (.int p3), .val (.int p4), .val (.int p5), .val (.int (xa.toInt32)), .val (.int (xb.toInt32)), .val (.int (1 : Int32)), .val (.ref nm), .val (.int (0 : Int32)), .val .null, .val (.int (0 : Int32)), .unset, .unset, .unset]) rfl k_) ?_
    refine GoH.st (T' := T0) (pc' := 169) (L' := #[.val (.int p1), .val (.int p2), .val (.int p3), .val (.int p4), .val (.int p5), .val (.int (xa.toInt32)), .val (.int (xb.toInt32)), .val (.int (1 : Int32)), .val (.ref nm), .val (.int (0 : Int32)), .val .null, .val (.int (0 : Int32)), .unset, .unset, .unset]) (S' := [(.int (0 : Int32))]) (fun t_ k_ => XS.iload X0.here hx rfl (hb hby at_167) rfl  k_) ?_
    refine GoH.st (T' := T0) (pc' := 183) (L' := #[.val (.int p1), .val (.int p2), .val (.int p3), .val (.int p4), .val (.int p5), .val (.int (xa.toInt32)), .val (.int (xb.toInt32)), .val (.int (1 : Int32)), .val (.ref nm), .val (.int (0 : Int32)), .val .null, .val (.int (0 : Int32)), .unset, .unset, .unset]) (S' := []) (fun t_ k_ => XS.ifYes X0.here hx rfl (pc0 := 169) (pc' := 183) rfl (hb hby at_169) rfl ((if0 _ _).trans (teq (by decide : ((0 : Int32) = (0 : Int32)))).1) (by decide) (by decide) k_) ?_
    refine GoH.st (T' := T0) (pc' := 184) (L' := #[.val (.int p1), .val (.int p2), .val (.int p3), .val (.int p4), .val (.int p5), .val (.int (xa.toInt32)), .val (.int (xb.toInt32)), .val (.int (1 : Int32)), .val (.ref nm), .val (.int (0 : Int32)), .val .null, .val (.int (0 : Int32)), .unset, .unset, .unset]) (S' := [(.int (0 : Int32))]) (fun t_ k_ => XS.iconst X0.here hx rfl (hb hby at_183) k_) ?_
    refine GoH.st (T' := T0) (pc' := 186) (L' := #[.val (.int p1), .val (.int p2), .val (.int p3), .val (.int p4), .val (.int p5), .val (.int (xa.toInt32)), .val (.int (xb.toInt32)), .val (.int (1 : Int32)), .val (.ref nm), .val (.int (0 : Int32)), .val .null, .val (.int (0 : Int32)), .val (.int (0 : Int32)), .unset, .unset]) (S' := []) (fun t_ k_ => XS.istore X0.here hx rfl (hb hby at_184) rfl (l' := #[.val (.int p1), .val (.int p2), .val (.int p3), .val (.int p4), .val (.int p5), .val (.int (xa.toInt32)), .val (.int (xb.toInt32)), .val (.int (1 : Int32)), .val (.ref nm), .val (.int (0 : Int32)), .val .null, .val (.int (0 : Int32)), .val (.int (0 : Int32)), .unset, .unset]) rfl k_) ?_
    exact seg186_2_0 p1 p2 p3 p4 p5 xa xb gC nm tn _ (Stand.up X0 (by decide) (by decide)) hx hZ hw hby hml hown hnm hret hlk e0 hs0 CR hS hk N0 SC PC O0 Z0 E_nm Fc_nm Fv_nm V_tn hxa hxb na1 na2 nb2
  · refine GoH.st (T' := T0) (pc' := 102) (L' := #[.val (.int p1), .val (.int p2), .val (.int p3), .val (.int p4), .val (.int p5), .val (.int (xa.toInt32)), .val (.int (xb.toInt32)), .val (.int (1 : Int32)), .val (.ref nm), .unset, .unset, .unset, .unset, .unset, .unset]) (S' := []) (fun t_ k_ => XS.ifNo X0.here hx rfl (hb hby at_99) rfl ((if0 _ _).trans (feq hc99_1).1) k_) ?_
    refine GoH.st (T' := T0) (pc' := 103) (L' := #[.val (.int p1), .val (.int p2), .val (.int p3), .val (.int p4), .val (.int p5), .val (.int (xa.toInt32)), .val (.int (xb.toInt32)), .val (.int (1 : Int32)), .val (.ref nm), .unset, .unset, .unset, .unset, .unset, .unset]) (S' := [(.int (1 : Int32))]) (fun t_ k_ => XS.iconst X0.here hx rfl (hb hby at_102) k_) ?_
    refine GoH.st (T' := T0) (pc' := 107) (L' := #[.val (.int p1), .val (.int p2), .val (.int p3), .val (.int p4), .val (.int p5), .val (.int (xa.toInt32)), .val (.int (xb.toInt32)), .val (.int (1 : Int32)), .val (.ref nm), .unset, .unset, .unset, .unset, .unset, .unset]) (S' := [(.int (1 : Int32))]) (fun t_ k_ => XS.goto X0.here hx rfl (pc0 := 103) (pc' := 107) rfl (hb hby at_103) (by decide) (by decide) k_) ?_
    refine GoH.st (T' := T0) (pc' := 109) (L' := #[.val (.int p1), .val (.int p2), .val (.int p3), .val (.int p4), .val (.int p5), .val (.int (xa.toInt32)), .val (.int (xb.toInt32)), .val (.int (1 : Int32)), .val (.ref nm), .val (.int (1 : Int32)), .unset, .unset, .unset, .unset, .unset]) (S' := []) (fun t_ k_ => XS.istore X0.here hx rfl (hb hby at_107) rfl (l' := #[.val (.int p1), .val (.int p2), .val (.int p3), .val (.int p4), .val (.int p5), .val (.int (xa.toInt32)), .val (.int (xb.toInt32)), .val (.int (1 : Int32)), .val (.ref nm), .val (.int (1 : Int32)), .unset, .unset, .unset, .unset, .unset]) rfl k_) ?_
    refine GoH.st (T' := T0) (pc' := 110) (L' := #[.val (.int p1), .val (.int p2), .val (.int p3), .val (.int p4), .val (.int p5), .val (.int (xa.toInt32)), .val (.int (xb.toInt32)), .val (.int (1 : Int32)), .val (.ref nm), .val (.int (1 : Int32)), .unset, .unset, .unset, .unset, .unset]) (S' := [.null]) (fun t_ k_ => XS.aconstNull X0.here hx rfl (hb hby at_109) k_) ?_
    refine GoH.st (T' := T0) (pc' := 112) (L' := #[.val (.int p1), .val (.int p2), .val (.int p3), .val (.int p4), .val (.int p5), .val (.int (xa.toInt32)), .val (.int (xb.toInt32)), .val (.int (1 : Int32)), .val (.ref nm), .val (.int (1 : Int32)), .val .null, .unset, .unset, .unset, .unset]) (S' := []) (fun t_ k_ => XS.astore X0.here hx rfl (hb hby at_110) rfl rfl (l' := #[.val (.int p1), .val (.int p2), .val (.int p3), .val (.int p4), .val (.int p5), .val (.int (xa.toInt32)), .val (.int (xb.toInt32)), .val (.int (1 : Int32)), .val (.ref nm), .val (.int (1 : Int32)), .val .null, .unset, .unset, .unset, .unset]) rfl k_) ?_
    refine GoH.st (T' := T0) (pc' := 114) (L' := #[.val (.int p1), .val (.int p2), .val (.int p3), .val (.int p4), .val (.int p5), .val (.int (xa.toInt32)), .val (.int (xb.toInt32)), .val (.int (1 : Int32)), .val (.ref nm), .val (.int (1 : Int32)), .val .null, .unset, .unset, .unset, .unset]) (S' := [(.int (1 : Int32))]) (fun t_ k_ => XS.iload X0.here hx rfl (hb hby at_112) rfl  k_) ?_
    refine GoH.st (T' := T0) (pc' := 117) (L' := #[.val (.int p1), .val (.int p2), .val (.int p3), .val (.int p4), .val (.int p5), .val (.int (xa.toInt32)), .val (.int (xb.toInt32)), .val (.int (1 : Int32)), .val (.ref nm), .val (.int (1 : Int32)), .val .null, .unset, .unset, .unset, .unset]) (S' := []) (fun t_ k_ => XS.ifNo X0.here hx rfl (hb hby at_114) rfl ((if0 _ _).trans (feq (by decide : ¬ ((1 : Int32) = (0 : Int32)))).1) k_) ?_
    refine GoH.st (T' := T0) (pc' := 118) (L' := #[.val (.int p1), .val (.int p2), .val (.int p3), .val (.int p4), .val (.int p5), .val (.int (xa.toInt32)), .val (.int (xb.toInt32)), .val (.int (1 : Int32)), .val (.ref nm), .val (.int (1 : Int32)), .val .null, .unset, .unset, .unset, .unset]) (S' := [(.int p4)]) (fun t_ k_ => XS.iloadN X0.here hx rfl (hb hby at_117) rfl  k_) ?_
    refine GoH.st (T' := T0) (pc' := 119) (L' := #[.val (.int p1), .val (.int p2), .val (.int p3), .val (.int p4), .val (.int p5), .val (.int (xa.toInt32)), .val (.int (xb.toInt32)), .val (.int (1 : Int32)), .val (.ref nm), .val (.int (1 : Int32)), .val .null, .unset, .unset, .unset, .unset]) (S' := [(.int (2 : Int32)), (.int p4)]) (fun t_ k_ => XS.iconst X0.here hx rfl (hb hby at_118) k_) ?_
    refine GoH.st (T' := T0) (pc' := 120) (L' := #[.val (.int p1), .val (.int p2), .val (.int p3), .val (.int p4), .val (.int p5), .val (.int (xa.toInt32)), .val (.int (xb.toInt32)), .val (.int (1 : Int32)), .val (.ref nm), .val (.int (1 : Int32)), .val .null, .unset, .unset, .unset, .unset]) (S' := [(.int (p4 &&& (2 : Int32)))]) (fun t_ k_ => XS.iand X0.here hx rfl (hb hby at_119) rfl k_) ?_
    by_cases hc120_2 : (p4 &&& (2 : Int32)) = (0 : Int32)
    · refine GoH.st (T' := T0) (pc' := 137) (L' := #[.val (.int p1), .val (.int p2), .val (.int p3), .val (.int p4), .val (.int p5), .val (.int (xa.toInt32)), .val (.int (xb.toInt32)), .val (.int (1 : Int32)), .val (.ref nm), .val (.int (1 : Int32)), .val .null, .unset, .unset, .unset, .unset]) (S' := []) (fun t_ k_ => XS.ifYes X0.here hx rfl (pc0 := 120) (pc' := 137) rfl (hb hby at_120) rfl ((if0 _ _).trans (teq hc120_2).1) (by decide) (by decide) k_) ?_
      obtain ⟨T3, h3, X3, e3, E3, A3, D3, U3, st3⟩ := newO X0 hx hZ hown (hw _ (List.mem_of_getElem? (i := 26) rfl)) (hw _ (List.mem_of_getElem? (i := 10) rfl)) (hw _ (List.mem_of_getElem? (i := 2) rfl)) e0 (g := (mkF m 137 #[.val (.int p1), .val (.int p2), .val (.int p3), .val (.int p4), .val (.int p5), .val (.int (xa.toInt32)), .val (.int (xb.toInt32)), .val (.int (1 : Int32)), .val (.ref nm), .val (.int (1 : Int32)), .val .null, .unset, .unset, .unset, .unset] [])) rfl (hb hby at_137) (by decide) (by decide)
      obtain ⟨b3, g3⟩ : ∃ z, z = hh.size := ⟨_, rfl⟩
      rw [← g3] at A3 D3 U3 st3
      have ne_nm_b3 : nm ≠ b3 := Nat.ne_of_lt (Nat.lt_of_lt_of_le E_nm.lt (Nat.le_of_eq g3.symm))
      have ne_tn_b3 : tn ≠ b3 := Nat.ne_of_lt (Nat.lt_of_lt_of_le V_tn.lt (Nat.le_of_eq g3.symm))
      have g_b3 : n0 ≤ b3 := Nat.le_trans Z0 (Nat.le_of_eq g3.symm)
      have S_b3 : Safe Z EL vm0 h3 b3 := Safe.ext E3 CR.1 (Safe.new (Nat.le_of_eq g3.symm))
      replace CR := CR.trans (CHr.ext E3 CR.1)
      replace hk := Nat.le_trans hk E3.1
      replace Z0 := Nat.le_trans Z0 E3.1
      replace O0 := O0.ext E3
      replace E_nm := E_nm.ext E3
      replace Fc_nm := Fc_nm.ext E3
      replace Fv_nm := Fv_nm.ext E3
      replace V_tn := V_tn.ext E3
      have E_b3 := A3
      have F_b3_value : Fld Z h3 b3 "java/lang/String" "value" "[B" .null := D3 (Or.inr (hw _ (List.mem_of_getElem? (i := 23) rfl))) (ty := (.array .byte)) (by decide)
      have F_b3_coder : Fld Z h3 b3 "java/lang/String" "coder" "B" (.int (0 : Int32)) := D3 (Or.inr (hw _ (List.mem_of_getElem? (i := 25) rfl))) (ty := .byte) (by decide)
      refine GoH.st (T' := T3) (pc' := 140) (L' := #[.val (.int p1), .val (.int p2), .val (.int p3), .val (.int p4), .val (.int p5), .val (.int (xa.toInt32)), .val (.int (xb.toInt32)), .val (.int (1 : Int32)), .val (.ref nm), .val (.int (1 : Int32)), .val .null, .unset, .unset, .unset, .unset]) (S' := [(.ref b3)]) st3 ?_
      refine GoH.st (T' := T3) (pc' := 141) (L' := #[.val (.int p1), .val (.int p2), .val (.int p3), .val (.int p4), .val (.int p5), .val (.int (xa.toInt32)), .val (.int (xb.toInt32)), .val (.int (1 : Int32)), .val (.ref nm), .val (.int (1 : Int32)), .val .null, .unset, .unset, .unset, .unset]) (S' := [(.ref b3), (.ref b3)]) (fun t_ k_ => XS.dup X3.here hx rfl (hb hby at_140) rfl rfl k_) ?_
      refine GoH.st (T' := T3) (pc' := 142) (L' := #[.val (.int p1), .val (.int p2), .val (.int p3), .val (.int p4), .val (.int p5), .val (.int (xa.toInt32)), .val (.int (xb.toInt32)), .val (.int (1 : Int32)), .val (.ref nm), .val (.int (1 : Int32)), .val .null, .unset, .unset, .unset, .unset]) (S' := [(.int (0 : Int32)), (.ref b3), (.ref b3)]) (fun t_ k_ => XS.iconst X3.here hx rfl (hb hby at_141) k_) ?_
      obtain ⟨T4, h4, k4, X4, e4, E4, A4, st4⟩ := newP X3 hx hZ (hw _ (List.mem_of_getElem? (i := 27) rfl)) e3 (g := (mkF m 142 #[.val (.int p1), .val (.int p2), .val (.int p3), .val (.int p4), .val (.int p5), .val (.int (xa.toInt32)), .val (.int (xb.toInt32)), .val (.int (1 : Int32)), .val (.ref nm), .val (.int (1 : Int32)), .val .null, .unset, .unset, .unset, .unset] [(.int (0 : Int32)), (.ref b3), (.ref b3)])) rfl (hb hby at_142) rfl (by decide) (cap := 0) (by decide) (by decide) (by decide) (by decide)
      obtain ⟨b4, g4⟩ : ∃ z, z = h3.size := ⟨_, rfl⟩
      rw [← g4] at A4 st4
      have ne_nm_b4 : nm ≠ b4 := Nat.ne_of_lt (Nat.lt_of_lt_of_le E_nm.lt (Nat.le_of_eq g4.symm))
      have ne_tn_b4 : tn ≠ b4 := Nat.ne_of_lt (Nat.lt_of_lt_of_le V_tn.lt (Nat.le_of_eq g4.symm))
      have ne_b3_b4 : b3 ≠ b4 := Nat.ne_of_lt (Nat.lt_of_lt_of_le E_b3.lt (Nat.le_of_eq g4.symm))
      have g_b4 : n0 ≤ b4 := Nat.le_trans Z0 (Nat.le_of_eq g4.symm)
      replace S_b3 := Safe.ext E4 CR.1 S_b3
      replace CR := CR.trans (CHr.ext E4 CR.1)
      replace hk := Nat.le_trans hk E4.1
      replace Z0 := Nat.le_trans Z0 E4.1
      replace O0 := O0.ext E4
      replace E_nm := E_nm.ext E4
      replace Fc_nm := Fc_nm.ext E4
      replace Fv_nm := Fv_nm.ext E4
      replace V_tn := V_tn.ext E4
      replace E_b3 := E_b3.ext E4
      replace F_b3_value := F_b3_value.ext E4
      replace F_b3_coder := F_b3_coder.ext E4
      have V_b4 : Arv Z h4 b4 k4 .char (0 : Int32) [] (.int (0 : Int32)) := (Arv.new A4 (by decide)).pad (pad_rep [] (.int (0 : Int32)) 0)
      refine GoH.st (T' := T4) (pc' := 144) (L' := #[.val (.int p1), .val (.int p2), .val (.int p3), .val (.int p4), .val (.int p5), .val (.int (xa.toInt32)), .val (.int (xb.toInt32)), .val (.int (1 : Int32)), .val (.ref nm), .val (.int (1 : Int32)), .val .null, .unset, .unset, .unset, .unset]) (S' := [(.ref b4), (.ref b3), (.ref b3)]) st4 ?_
      obtain ⟨_, _, ⟨T5, L5, k5, n5⟩, -, X5, hS5, hg5, ⟨Lc5, hQ5, l5, y5, z5, CR5⟩, st5⟩ := X4.specialBackS hx (y := (⟨"java/lang/String", "<init>", "([C)V"⟩ : MethodName)) rfl hown (mvT hZ (hw _ (List.mem_of_getElem? (i := 28) rfl))) (mvT hZ (hw _ (List.mem_of_getElem? (i := 29) rfl))) (mvT hZ (hw _ (List.mem_of_getElem? (i := 30) rfl))) (by decide) (backOfSH (W := 1) (rmE3 l Z a0 hw [] b3 b4 _ h4 n0 Z0 E_b3 g_b3 F_b3_value F_b3_coder V_b4 ne_b3_b4) hZ (hw _ (List.mem_of_getElem? (i := 30) rfl)) (hw _ (List.mem_of_getElem? (i := 2) rfl)) (by decide) (by decide) (own_EW hw) CR.1) (g := (mkF m 144 #[.val (.int p1), .val (.int p2), .val (.int p3), .val (.int p4), .val (.int p5), .val (.int (xa.toInt32)), .val (.int (xb.toInt32)), .val (.int (1 : Int32)), .val (.ref nm), .val (.int (1 : Int32)), .val .null, .unset, .unset, .unset, .unset] [(.ref b4), (.ref b3), (.ref b3)])) rfl (by rw [hml]; rfl) (Steps.refl _) (a := b3) (argsL := [(.ref b4)]) (rest := [(.ref b3)]) (lenOf pd_20 rfl) rfl (by show 2 * 0 + _ ≤ _; exact Nat.le_of_eq rfl) (hb hby at_144) (fun _ _ => ⟨rfl, e4, (by decide : 5 + 4 ≤ _), (by decide : 12 + 8 ≤ _)⟩)
      dsimp only [Pt.U, Pt.locs, Pt.cells, Pt.slots] at X5 l5 y5 z5 st5 hQ5 hS5 hg5 CR5
      subst l5 y5 z5
      replace X5 : Stand p l e _ (s.setVm T5.vm) m _ below meth c T5 _ _ _ := X5
      replace hS := foldS hS (T := T4) (Nat.le_trans hk (Nat.le_of_eq (congrArg Array.size e4.symm))) hS5 hg5
      replace hk := Nat.le_refl T5.heap.size
      replace hZ : Z.Warmed39 (s.setVm T5.vm).vm := State.Warmed39.trans (t := s.setVm vm0) hZ hS5.1
      replace hown : (s.setVm T5.vm).vm.findClass "com/example/placewright/placewright/cli/OptionTakesValuePinLaw" = some m.cls := by rw [show (s.setVm T5.vm).vm = T5.vm from rfl, hS5.1.alike.findClass]; exact hown
      obtain ⟨t5, kb5, rfl, N5q, K5, Co5, nt5, Va5, Ay5⟩ := hQ5
      have N5 := Fr.app N0 N5q
      obtain ⟨h5, e5⟩ : ∃ z, T5.heap = z := ⟨_, rfl⟩
      rw [e5] at K5 Co5 Va5 Ay5 CR5
      replace S_b3 := CR5.safe E_b3.lt S_b3
      replace CR := CR.trans CR5
      replace Z0 := Nat.le_trans Z0 K5.1
      replace O0 := O0.keep K5 (allS g_b3 all0)
      replace E_nm := E_nm.keep K5
      replace Fc_nm := Fc_nm.keep K5 (ninS ne_nm_b3 nin0)
      replace Fv_nm := Fv_nm.keep K5 (ninS ne_nm_b3 nin0)
      replace V_tn := V_tn.keep K5 (ninS ne_tn_b3 nin0)
      replace E_b3 := E_b3.keep K5
      replace V_b4 := V_b4.keep K5 (ninS (Ne.symm ne_b3_b4) nin0)
      replace hk : T5.heap.size ≤ h5.size := Nat.le_of_eq (congrArg Array.size e5)
      refine GoH.tr (T' := T5) (pc' := 147) (L' := #[.val (.int p1), .val (.int p2), .val (.int p3), .val (.int p4), .val (.int p5), .val (.int (xa.toInt32)), .val (.int (xb.toInt32)), .val (.int (1 : Int32)), .val (.ref nm), .val (.int (1 : Int32)), .val .null, .unset, .unset, .unset, .unset]) (S' := [(.ref b3)]) st5 ?_
      refine GoH.st (T' := T5) (pc' := 149) (L' := #[.val (.int p1), .val (.int p2), .val (.int p3), .val (.int p4), .val (.int p5), .val (.int (xa.toInt32)), .val (.int (xb.toInt32)), .val (.int (1 : Int32)), .val (.ref nm), .val (.int (1 : Int32)), .val (.ref b3), .unset, .unset, .unset, .unset]) (S' := []) (fun t_ k_ => XS.astore X5.here hx rfl (hb hby at_147) rfl rfl (l' := #[.val (.int p1), .val (.int p2), .val (.int p3), .val (.int p4), .val (.int p5), .val (.int (xa.toInt32)), .val (.int (xb.toInt32)), .val (.int (1 : Int32)), .val (.ref nm), .val (.int (1 : Int32)), .val (.ref b3), .unset, .unset, .unset, .unset]) rfl k_) ?_
      refine GoH.st (T' := T5) (pc' := 151) (L' := #[.val (.int p1), .val (.int p2), .val (.int p3), .val (.int p4), .val (.int p5), .val (.int (xa.toInt32)), .val (.int (xb.toInt32)), .val (.int (1 : Int32)), .val (.ref nm), .val (.int (1 : Int32)), .val (.ref b3), .unset, .unset, .unset, .unset]) (S' := [(.int (1 : Int32))]) (fun t_ k_ => XS.iload X5.here hx rfl (hb hby at_149) rfl  k_) ?_
      refine GoH.st (T' := T5) (pc' := 154) (L' := #[.val (.int p1), .val (.int p2), .val (.int p3), .val (.int p4), .val (.int p5), .val (.int (xa.toInt32)), .val (.int (xb.toInt32)), .val (.int (1 : Int32)), .val (.ref nm), .val (.int (1 : Int32)), .val (.ref b3), .unset, .unset, .unset, .unset]) (S' := []) (fun t_ k_ => XS.ifNo X5.here hx rfl (hb hby at_151) rfl ((if0 _ _).trans (feq (by decide : ¬ ((1 : Int32) = (0 : Int32)))).1) k_) ?_
      refine GoH.st (T' := T5) (pc' := 155) (L' := #[.val (.int p1), .val (.int p2), .val (.int p3), .val (.int p4), .val (.int p5), .val (.int (xa.toInt32)), .val (.int (xb.toInt32)), .val (.int (1 : Int32)), .val (.ref nm), .val (.int (1 : Int32)), .val (.ref b3), .unset, .unset, .unset, .unset]) (S' := [(.int p4)]) (fun t_ k_ => XS.iloadN X5.here hx rfl (hb hby at_154) rfl  k_) ?_
      refine GoH.st (T' := T5) (pc' := 156) (L' := #[.val (.int p1), .val (.int p2), .val (.int p3), .val (.int p4), .val (.int p5), .val (.int (xa.toInt32)), .val (.int (xb.toInt32)), .val (.int (1 : Int32)), .val (.ref nm), .val (.int (1 : Int32)), .val (.ref b3), .unset, .unset, .unset, .unset]) (S' := [(.int (4 : Int32)), (.int p4)]) (fun t_ k_ => XS.iconst X5.here hx rfl (hb hby at_155) k_) ?_
      refine GoH.st (T' := T5) (pc' := 157) (L' := #[.val (.int p1), .val (.int p2), .val (.int p3), .val (.int p4), .val (.int p5), .val (.int (xa.toInt32)), .val (.int (xb.toInt32)), .val (.int (1 : Int32)), .val (.ref nm), .val (.int (1 : Int32)), .val (.ref b3), .unset, .unset, .unset, .unset]) (S' := [(.int (p4 &&& (4 : Int32)))]) (fun t_ k_ => XS.iand X5.here hx rfl (hb hby at_156) rfl k_) ?_
      by_cases hc157_7 : (p4 &&& (4 : Int32)) = (0 : Int32)
      · refine GoH.st (T' := T5) (pc' := 164) (L' := #[.val (.int p1), .val (.int p2), .val (.int p3), .val (.int p4), .val (.int p5), .val (.int (xa.toInt32)), .val (.int (xb.toInt32)), .val (.int (1 : Int32)), .val (.ref nm), .val (.int (1 : Int32)), .val (.ref b3), .unset, .unset, .unset, .unset]) (S' := []) (fun t_ k_ => XS.ifYes X5.here hx rfl (pc0 := 157) (pc' := 164) rfl (hb hby at_157) rfl ((if0 _ _).trans (teq hc157_7).1) (by decide) (by decide) k_) ?_
        refine GoH.st (T' := T5) (pc' := 165) (L' := #[.val (.int p1), .val (.int p2), .val (.int p3), .val (.int p4), .val (.int p5), .val (.int (xa.toInt32)), .val (.int (xb.toInt32)), .val (.int (1 : Int32)), .val (.ref nm), .val (.int (1 : Int32)), .val (.ref b3), .unset, .unset, .unset, .unset]) (S' := [(.int (0 : Int32))]) (fun t_ k_ => XS.iconst X5.here hx rfl (hb hby at_164) k_) ?_
        refine GoH.st (T' := T5) (pc' := 167) (L' := #[.val (.int p1), .val (.int p2), .val (.int p3), .val (.int p4), .val (.int p5), .val (.int (xa.toInt32)), .val (.int (xb.toInt32)), .val (.int (1 : Int32)), .val (.ref nm), .val (.int (1 : Int32)), .val (.ref b3), .val (.int (0 : Int32)), .unset, .unset, .unset]) (S' := []) (fun t_ k_ => XS.istore X5.here hx rfl (hb hby at_165) rfl (l' := #[.val (.int p1), .val (.int p2), .val (.int p3), .val (.int p4), .val (.int p5), .val (.int (xa.toInt32)), .val (.int (xb.toInt32)), .val (.int (1 : Int32)), .val (.ref nm), .val (.int (1 : Int32)), .val (.ref b3), .val (.int (0 : Int32)), .unset, .unset, .unset]) rfl k_) ?_
        refine GoH.st (T' := T5) (pc' := 169) (L' := #[.val (.int p1), .val (.int p2), .val (.int p3), .val (.int p4), .val (.int p5), .val (.int (xa.toInt32)), .val (.int (xb.toInt32)), .val (.int (1 : Int32)), .val (.ref nm), .val (.int (1 : Int32)), .val (.ref b3), .val (.int (0 : Int32)), .unset, .unset, .unset]) (S' := [(.int (1 : Int32))]) (fun t_ k_ => XS.iload X5.here hx rfl (hb hby at_167) rfl  k_) ?_
        refine GoH.st (T' := T5) (pc' := 172) (L' := #[.val (.int p1), .val (.int p2), .val (.int p3), .val (.int p4), .val (.int p5), .val (.int (xa.toInt32)), .val (.int (xb.toInt32)), .val (.int (1 : Int32)), .val (.ref nm), .val (.int (1 : Int32)), .val (.ref b3), .val (.int (0 : Int32)), .unset, .unset, .unset]) (S' := []) (fun t_ k_ => XS.ifNo X5.here hx rfl (hb hby at_169) rfl ((if0 _ _).trans (feq (by decide : ¬ ((1 : Int32) = (0 : Int32)))).1) k_) ?_
        refine GoH.st (T' := T5) (pc' := 173) (L' := #[.val (.int p1), .val (.int p2), .val (.int p3), .val (.int p4), .val (.int p5), .val (.int (xa.toInt32)), .val (.int (xb.toInt32)), .val (.int (1 : Int32)), .val (.ref nm), .val (.int (1 : Int32)), .val (.ref b3), .val (.int (0 : Int32)), .unset, .unset, .unset]) (S' := [(.int p4)]) (fun t_ k_ => XS.iloadN X5.here hx rfl (hb hby at_172) rfl  k_) ?_
        refine GoH.st (T' := T5) (pc' := 175) (L' := #[.val (.int p1), .val (.int p2), .val (.int p3), .val (.int p4), .val (.int p5), .val (.int (xa.toInt32)), .val (.int (xb.toInt32)), .val (.int (1 : Int32)), .val (.ref nm), .val (.int (1 : Int32)), .val (.ref b3), .val (.int (0 : Int32)), .unset, .unset, .unset]) (S' := [(.int (8 : Int32)), (.int p4)]) (fun t_ k_ => XS.bipush X5.here hx rfl (hb hby at_173) k_) ?_
        refine GoH.st (T' := T5) (pc' := 176) (L' := #[.val (.int p1), .val (.int p2), .val (.int p3), .val (.int p4), .val (.int p5), .val (.int (xa.toInt32)), .val (.int (xb.toInt32)), .val (.int (1 : Int32)), .val (.ref nm), .val (.int (1 : Int32)), .val (.ref b3), .val (.int (0 : Int32)), .unset, .unset, .unset]) (S' := [(.int (p4 &&& (8 : Int32)))]) (fun t_ k_ => XS.iand X5.here hx rfl (hb hby at_175) rfl k_) ?_
        by_cases hc176_8 : (p4 &&& (8 : Int32)) = (0 : Int32)
        · refine GoH.st (T' := T5) (pc' := 183) (L' := #[.val (.int p1), .val (.int p2), .val (.int p3), .val (.int p4), .val (.int p5), .val (.int (xa.toInt32)), .val (.int (xb.toInt32)), .val (.int (1 : Int32)), .val (.ref nm), .val (.int (1 : Int32)), .val (.ref b3), .val (.int (0 : Int32)), .unset, .unset, .unset]) (S' := []) (fun t_ k_ => XS.ifYes X5.here hx rfl (pc0 := 176) (pc' := 183) rfl (hb hby at_176) rfl ((if0 _ _).trans (teq hc176_8).1) (by decide) (by decide) k_) ?_
          refine GoH.st (T' := T5) (pc' := 184) (L' := #[.val (.int p1), .val (.int p2), .val (.int p3), .val (.int p4), .val (.int p5), .val (.int (xa.toInt32)), .val (.int (xb.toInt32)), .val (.int (1 : Int32)), .val (.ref nm), .val (.int (1 : Int32)), .val (.ref b3), .val (.int (0 : Int32)), .unset, .unset, .unset]) (S' := [(.int (0 : Int32))]) (fun t_ k_ => XS.iconst X5.here hx rfl (hb hby at_183) k_) ?_
          refine GoH.st (T' := T5) (pc' := 186) (L' := #[.val (.int p1), .val (.int p2), .val (.int p3), .val (.int p4), .val (.int p5), .val (.int (xa.toInt32)), .val (.int (xb.toInt32)), .val (.int (1 : Int32)), .val (.ref nm), .val (.int (1 : Int32)), .val (.ref b3), .val (.int (0 : Int32)), .val (.int (0 : Int32)), .unset, .unset]) (S' := []) (fun t_ k_ => XS.istore X5.here hx rfl (hb hby at_184) rfl (l' := #[.val (.int p1), .val (.int p2), .val (.int p3), .val (.int p4), .val (.int p5), .val (.int (xa.toInt32)), .val (.int (xb.toInt32)), .val (.int (1 : Int32)), .val (.ref nm), .val (.int (1 : Int32)), .val (.ref b3), .val (.int (0 : Int32)), .val (.int (0 : Int32)), .unset, .unset]) rfl k_) ?_
          exact seg186_2_1 p1 p2 p3 p4 p5 xa xb gC nm tn _ b3 (0 : Int32) (0 : Int32) (Stand.up X5 (by decide) (by decide)) hx hZ hw hby hml hown hnm hret hlk e5 hs0 CR hS hk N5 SC PC O0 Z0 E_nm Fc_nm Fv_nm V_tn hxa hxb na1 na2 nb2
        · refine GoH.st (T' := T5) (pc' := 179) (L' := #[.val (.int p1), .val (.int p2), .val (.int p3), .val (.int p4), .val (.int p5), .val (.int (xa.toInt32)), .val (.int (xb.toInt32)), .val (.int (1 : Int32)), .val (.ref nm), .val (.int (1 : Int32)), .val (.ref b3), .val (.int (0 : Int32)), .unset, .unset, .unset]) (S' := []) (fun t_ k_ => XS.ifNo X5.here hx rfl (hb hby at_176) rfl ((if0 _ _).trans (feq hc176_8).1) k_) ?_
          refine GoH.st (T' := T5) (pc' := 180) (L' := #[.val (.int p1), .val (.int p2), .val (.int p3), .val (.int p4), .val (.int p5), .val (.int (xa.toInt32)), .val (.int (xb.toInt32)), .val (.int (1 : Int32)), .val (.ref nm), .val (.int (1 : Int32)), .val (.ref b3), .val (.int (0 : Int32)), .unset, .unset, .unset]) (S' := [(.int (1 : Int32))]) (fun t_ k_ => XS.iconst X5.here hx rfl (hb hby at_179) k_) ?_
          refine GoH.st (T' := T5) (pc' := 184) (L' := #[.val (.int p1), .val (.int p2), .val (.int p3), .val (.int p4), .val (.int p5), .val (.int (xa.toInt32)), .val (.int (xb.toInt32)), .val (.int (1 : Int32)), .val (.ref nm), .val (.int (1 : Int32)), .val (.ref b3), .val (.int (0 : Int32)), .unset, .unset, .unset]) (S' := [(.int (1 : Int32))]) (fun t_ k_ => XS.goto X5.here hx rfl (pc0 := 180) (pc' := 184) rfl (hb hby at_180) (by decide) (by decide) k_) ?_
          refine GoH.st (T' := T5) (pc' := 186) (L' := #[.val (.int p1), .val (.int p2), .val (.int p3), .val (.int p4), .val (.int p5), .val (.int (xa.toInt32)), .val (.int (xb.toInt32)), .val (.int (1 : Int32)), .val (.ref nm), .val (.int (1 : Int32)), .val (.ref b3), .val (.int (0 : Int32)), .val (.int (1 : Int32)), .unset, .unset]) (S' := []) (fun t_ k_ => XS.istore X5.here hx rfl (hb hby at_184) rfl (l' := #[.val (.int p1), .val (.int p2), .val (.int p3), .val (.int p4), .val (.int p5), .val (.int (xa.toInt32)), .val (.int (xb.toInt32)), .val (.int (1 : Int32)), .val (.ref nm), .val (.int (1 : Int32)), .val (.ref b3), .val (.int (0 : Int32)), .val (.int (1 : Int32)), .unset, .unset]) rfl k_) ?_
          exact seg186_2_1 p1 p2 p3 p4 p5 xa xb gC nm tn _ b3 (0 : Int32) (1 : Int32) (Stand.up X5 (by decide) (by decide)) hx hZ hw hby hml hown hnm hret hlk e5 hs0 CR hS hk N5 SC PC O0 Z0 E_nm Fc_nm Fv_nm V_tn hxa hxb na1 na2 nb2
      · refine GoH.st (T' := T5) (pc' := 160) (L' := #[.val (.int p1), .val (.int p2), .val (.int p3), .val (.int p4), .val (.int p5), .val (.int (xa.toInt32)), .val (.int (xb.toInt32)), .val (.int (1 : Int32)), .val (.ref nm), .val (.int (1 : Int32)), .val (.ref b3), .unset, .unset, .unset, .unset]) (S' := []) (fun t_ k_ => XS.ifNo X5.here hx rfl (hb hby at_157) rfl ((if0 _ _).trans (feq hc157_7).1) k_) ?_
        refine GoH.st (T' := T5) (pc' := 161) (L' := #[.val (.int p1), .val (.int p2), .val (.int p3), .val (.int p4), .val (.int p5), .val (.int (xa.toInt32)), .val (.int (xb.toInt32)), .val (.int (1 : Int32)), .val (.ref nm), .val (.int (1 : Int32)), .val (.ref b3), .unset, .unset, .unset, .unset]) (S' := [(.int (1 : Int32))]) (fun t_ k_ => XS.iconst X5.here hx rfl (hb hby at_160) k_) ?_
        refine GoH.st (T' := T5) (pc' := 165) (L' := #[.val (.int p1), .val (.int p2), .val (.int p3), .val (.int p4), .val (.int p5), .val (.int (xa.toInt32)), .val (.int (xb.toInt32)), .val (.int (1 : Int32)), .val (.ref nm), .val (.int (1 : Int32)), .val (.ref b3), .unset, .unset, .unset, .unset]) (S' := [(.int (1 : Int32))]) (fun t_ k_ => XS.goto X5.here hx rfl (pc0 := 161) (pc' := 165) rfl (hb hby at_161) (by decide) (by decide) k_) ?_
        refine GoH.st (T' := T5) (pc' := 167) (L' := #[.val (.int p1), .val (.int p2), .val (.int p3), .val (.int p4), .val (.int p5), .val (.int (xa.toInt32)), .val (.int (xb.toInt32)), .val (.int (1 : Int32)), .val (.ref nm), .val (.int (1 : Int32)), .val (.ref b3), .val (.int (1 : Int32)), .unset, .unset, .unset]) (S' := []) (fun t_ k_ => XS.istore X5.here hx rfl (hb hby at_165) rfl (l' := #[.val (.int p1), .val (.int p2), .val (.int p3), .val (.int p4), .val (.int p5), .val (.int (xa.toInt32)), .val (.int (xb.toInt32)), .val (.int (1 : Int32)), .val (.ref nm), .val (.int (1 : Int32)), .val (.ref b3), .val (.int (1 : Int32)), .unset, .unset, .unset]) rfl k_) ?_
        refine GoH.st (T' := T5) (pc' := 169) (L' := #[.val (.int p1), .val (.int p2), .val (.int p3), .val (.int p4), .val (.int p5), .val (.int (xa.toInt32)), .val (.int (xb.toInt32)), .val (.int (1 : Int32)), .val (.ref nm), .val (.int (1 : Int32)), .val (.ref b3), .val (.int (1 : Int32)), .unset, .unset, .unset]) (S' := [(.int (1 : Int32))]) (fun t_ k_ => XS.iload X5.here hx rfl (hb hby at_167) rfl  k_) ?_
        refine GoH.st (T' := T5) (pc' := 172) (L' := #[.val (.int p1), .val (.int p2), .val (.int p3), .val (.int p4), .val (.int p5), .val (.int (xa.toInt32)), .val (.int (xb.toInt32)), .val (.int (1 : Int32)), .val (.ref nm), .val (.int (1 : Int32)), .val (.ref b3), .val (.int (1 : Int32)), .unset, .unset, .unset]) (S' := []) (fun t_ k_ => XS.ifNo X5.here hx rfl (hb hby at_169) rfl ((if0 _ _).trans (feq (by decide : ¬ ((1 : Int32) = (0 : Int32)))).1) k_) ?_
        refine GoH.st (T' := T5) (pc' := 173) (L' := #[.val (.int p1), .val (.int p2), .val (.int p3), .val (.int p4), .val (.int p5), .val (.int (xa.toInt32)), .val (.int (xb.toInt32)), .val (.int (1 : Int32)), .val (.ref nm), .val (.int (1 : Int32)), .val (.ref b3), .val (.int (1 : Int32)), .unset, .unset, .unset]) (S' := [(.int p4)]) (fun t_ k_ => XS.iloadN X5.here hx rfl (hb hby at_172) rfl  k_) ?_
        refine GoH.st (T' := T5) (pc' := 175) (L' := #[.val (.int p1), .val (.int p2), .val (.int p3), .val (.int p4), .val (.int p5), .val (.int (xa.toInt32)), .val (.int (xb.toInt32)), .val (.int (1 : Int32)), .val (.ref nm), .val (.int (1 : Int32)), .val (.ref b3), .val (.int (1 : Int32)), .unset, .unset, .unset]) (S' := [(.int (8 : Int32)), (.int p4)]) (fun t_ k_ => XS.bipush X5.here hx rfl (hb hby at_173) k_) ?_
        refine GoH.st (T' := T5) (pc' := 176) (L' := #[.val (.int p1), .val (.int p2), .val (.int p3), .val (.int p4), .val (.int p5), .val (.int (xa.toInt32)), .val (.int (xb.toInt32)), .val (.int (1 : Int32)), .val (.ref nm), .val (.int (1 : Int32)), .val (.ref b3), .val (.int (1 : Int32)), .unset, .unset, .unset]) (S' := [(.int (p4 &&& (8 : Int32)))]) (fun t_ k_ => XS.iand X5.here hx rfl (hb hby at_175) rfl k_) ?_
        by_cases hc176_9 : (p4 &&& (8 : Int32)) = (0 : Int32)
        · refine GoH.st (T' := T5) (pc' := 183) (L' := #[.val (.int p1), .val (.int p2), .val (.int p3), .val (.int p4), .val (.int p5), .val (.int (xa.toInt32)), .val (.int (xb.toInt32)), .val (.int (1 : Int32)), .val (.ref nm), .val (.int (1 : Int32)), .val (.ref b3), .val (.int (1 : Int32)), .unset, .unset, .unset]) (S' := []) (fun t_ k_ => XS.ifYes X5.here hx rfl (pc0 := 176) (pc' := 183) rfl (hb hby at_176) rfl ((if0 _ _).trans (teq hc176_9).1) (by decide) (by decide) k_) ?_
          refine GoH.st (T' := T5) (pc' := 184) (L' := #[.val (.int p1), .val (.int p2), .val (.int p3), .val (.int p4), .val (.int p5), .val (.int (xa.toInt32)), .val (.int (xb.toInt32)), .val (.int (1 : Int32)), .val (.ref nm), .val (.int (1 : Int32)), .val (.ref b3), .val (.int (1 : Int32)), .unset, .unset, .unset]) (S' := [(.int (0 : Int32))]) (fun t_ k_ => XS.iconst X5.here hx rfl (hb hby at_183) k_) ?_
          refine GoH.st (T' := T5) (pc' := 186) (L' := #[.val (.int p1), .val (.int p2), .val (.int p3), .val (.int p4), .val (.int p5), .val (.int (xa.toInt32)), .val (.int (xb.toInt32)), .val (.int (1 : Int32)), .val (.ref nm), .val (.int (1 : Int32)), .val (.ref b3), .val (.int (1 : Int32)), .val (.int (0 : Int32)), .unset, .unset]) (S' := []) (fun t_ k_ => XS.istore X5.here hx rfl (hb hby at_184) rfl (l' := #[.val (.int p1), .val (.int p2), .val (.int p3), .val (.int p4), .val (.int p5), .val (.int (xa.toInt32)), .val (.int (xb.toInt32)), .val (.int (1 : Int32)), .val (.ref nm), .val (.int (1 : Int32)), .val (.ref b3), .val (.int (1 : Int32)), .val (.int (0 : Int32)), .unset, .unset]) rfl k_) ?_
          exact seg186_2_1 p1 p2 p3 p4 p5 xa xb gC nm tn _ b3 (1 : Int32) (0 : Int32) (Stand.up X5 (by decide) (by decide)) hx hZ hw hby hml hown hnm hret hlk e5 hs0 CR hS hk N5 SC PC O0 Z0 E_nm Fc_nm Fv_nm V_tn hxa hxb na1 na2 nb2
        · refine GoH.st (T' := T5) (pc' := 179) (L' := #[.val (.int p1), .val (.int p2), .val (.int p3), .val (.int p4), .val (.int p5), .val (.int (xa.toInt32)), .val (.int (xb.toInt32)), .val (.int (1 : Int32)), .val (.ref nm), .val (.int (1 : Int32)), .val (.ref b3), .val (.int (1 : Int32)), .unset, .unset, .unset]) (S' := []) (fun t_ k_ => XS.ifNo X5.here hx rfl (hb hby at_176) rfl ((if0 _ _).trans (feq hc176_9).1) k_) ?_
          refine GoH.st (T' := T5) (pc' := 180) (L' := #[.val (.int p1), .val (.int p2), .val (.int p3), .val (.int p4), .val (.int p5), .val (.int (xa.toInt32)), .val (.int (xb.toInt32)), .val (.int (1 : Int32)), .val (.ref nm), .val (.int (1 : Int32)), .val (.ref b3), .val (.int (1 : Int32)), .unset, .unset, .unset]) (S' := [(.int (1 : Int32))]) (fun t_ k_ => XS.iconst X5.here hx rfl (hb hby at_179) k_) ?_
          refine GoH.st (T' := T5) (pc' := 184) (L' := #[.val (.int p1), .val (.int p2), .val (.int p3), .val (.int p4), .val (.int p5), .val (.int (xa.toInt32)), .val (.int (xb.toInt32)), .val (.int (1 : Int32)), .val (.ref nm), .val (.int (1 : Int32)), .val (.ref b3), .val (.int (1 : Int32)), .unset, .unset, .unset]) (S' := [(.int (1 : Int32))]) (fun t_ k_ => XS.goto X5.here hx rfl (pc0 := 180) (pc' := 184) rfl (hb hby at_180) (by decide) (by decide) k_) ?_
          refine GoH.st (T' := T5) (pc' := 186) (L' := #[.val (.int p1), .val (.int p2), .val (.int p3), .val (.int p4), .val (.int p5), .val (.int (xa.toInt32)), .val (.int (xb.toInt32)), .val (.int (1 : Int32)), .val (.ref nm), .val (.int (1 : Int32)), .val (.ref b3), .val (.int (1 : Int32)), .val (.int (1 : Int32)), .unset, .unset]) (S' := []) (fun t_ k_ => XS.istore X5.here hx rfl (hb hby at_184) rfl (l' := #[.val (.int p1), .val (.int p2), .val (.int p3), .val (.int p4), .val (.int p5), .val (.int (xa.toInt32)), .val (.int (xb.toInt32)), .val (.int (1 : Int32)), .val (.ref nm), .val (.int (1 : Int32)), .val (.ref b3), .val (.int (1 : Int32)), .val (.int (1 : Int32)), .unset, .unset]) rfl k_) ?_
          exact seg186_2_1 p1 p2 p3 p4 p5 xa xb gC nm tn _ b3 (1 : Int32) (1 : Int32) (Stand.up X5 (by decide) (by decide)) hx hZ hw hby hml hown hnm hret hlk e5 hs0 CR hS hk N5 SC PC O0 Z0 E_nm Fc_nm Fv_nm V_tn hxa hxb na1 na2 nb2
    · refine GoH.st (T' := T0) (pc' := 123) (L' := #[.val (.int p1), .val (.int p2), .val (.int p3), .val (.int p4), .val (.int p5), .val (.int (xa.toInt32)), .val (.int (xb.toInt32)), .val (.int (1 : Int32)), .val (.ref nm), .val (.int (1 : Int32)), .val .null, .unset, .unset, .unset, .unset]) (S' := []) (fun t_ k_ => XS.ifNo X0.here hx rfl (hb hby at_120) rfl ((if0 _ _).trans (feq hc120_2).1) k_) ?_
      refine GoH.st (T' := T0) (pc' := 124) (L' := #[.val (.int p1), .val (.int p2), .val (.int p3), .val (.int p4), .val (.int p5), .val (.int (xa.toInt32)), .val (.int (xb.toInt32)), .val (.int (1 : Int32)), .val (.ref nm), .val (.int (1 : Int32)), .val .null, .unset, .unset, .unset, .unset]) (S' := [(.int p3)]) (fun t_ k_ => XS.iloadN X0.here hx rfl (hb hby at_123) rfl  k_) ?_
      refine GoH.st (T' := T0) (pc' := 127) (L' := #[.val (.int p1), .val (.int p2), .val (.int p3), .val (.int p4), .val (.int p5), .val (.int (xa.toInt32)), .val (.int (xb.toInt32)), .val (.int (1 : Int32)), .val (.ref nm), .val (.int (1 : Int32)), .val .null, .unset, .unset, .unset, .unset]) (S' := [(.int (255 : Int32)), (.int p3)]) (fun t_ k_ => XS.sipush X0.here hx rfl (hb hby at_124) k_) ?_
      refine GoH.st (T' := T0) (pc' := 128) (L' := #[.val (.int p1), .val (.int p2), .val (.int p3), .val (.int p4), .val (.int p5), .val (.int (xa.toInt32)), .val (.int (xb.toInt32)), .val (.int (1 : Int32)), .val (.ref nm), .val (.int (1 : Int32)), .val .null, .unset, .unset, .unset, .unset]) (S' := [(.int (p3 &&& (255 : Int32)))]) (fun t_ k_ => XS.iand X0.here hx rfl (hb hby at_127) rfl k_) ?_
      refine GoH.st (T' := T0) (pc' := 129) (L' := #[.val (.int p1), .val (.int p2), .val (.int p3), .val (.int p4), .val (.int p5), .val (.int (xa.toInt32)), .val (.int (xb.toInt32)), .val (.int (1 : Int32)), .val (.ref nm), .val (.int (1 : Int32)), .val .null, .unset, .unset, .unset, .unset]) (S' := [(.int ((p3 &&& (255 : Int32)).toUInt32.toUInt16.toUInt32.toInt32))]) (fun t_ k_ => XS.i2c X0.here hx rfl (hb hby at_128) rfl k_) ?_
      obtain ⟨_, _, ⟨T10, L10, k10, n10⟩, -, X10, ⟨Lc10, hQ10, l10, y10, z10⟩, st10⟩ := Jvm.LawKit.callS X0 hx (y := (⟨"java/lang/String", "valueOf", "(C)Ljava/lang/String;"⟩ : MethodName)) hown (mvT hZ (hw _ (List.mem_of_getElem? (i := 0) rfl))) (mvT hZ (hw _ (List.mem_of_getElem? (i := 1) rfl))) (mvT hZ (hw _ (List.mem_of_getElem? (i := 2) rfl))) (mvT hZ (hw _ (List.mem_of_getElem? (i := 3) rfl))) (by decide) (backOf (W := 0) (rm1 l Z a0 hw [] ((p3 &&& (255 : Int32)).toUInt32.toUInt16.toUInt32.toInt32) gC hh n0 Z0 SC PC O0 (own_c255 _)) hZ (hw _ (List.mem_of_getElem? (i := 3) rfl)) (hw _ (List.mem_of_getElem? (i := 2) rfl)) (by decide) (by decide)) (g := (mkF m 129 #[.val (.int p1), .val (.int p2), .val (.int p3), .val (.int p4), .val (.int p5), .val (.int (xa.toInt32)), .val (.int (xb.toInt32)), .val (.int (1 : Int32)), .val (.ref nm), .val (.int (1 : Int32)), .val .null, .unset, .unset, .unset, .unset] [(.int ((p3 &&& (255 : Int32)).toUInt32.toUInt16.toUInt32.toInt32))])) rfl (by rw [hml]; rfl) (argsL := [(.int ((p3 &&& (255 : Int32)).toUInt32.toUInt16.toUInt32.toInt32))]) (rest := []) (lenOf pd_18 rfl) rfl (by show 2 * 0 + _ ≤ _; exact Nat.le_of_eq rfl) (hb hby at_129) (fun _ _ => ⟨rfl, e0, (by decide : 3 + 2 ≤ _), (by decide : 8 + 5 ≤ _)⟩)
      dsimp only [Pt.U, Pt.locs, Pt.cells, Pt.slots] at X10 l10 y10 z10 st10 hQ10
      subst l10 y10 z10
      obtain ⟨b10, t10, kb10, rfl, N10q, K10, g_b10, lt10, E_b10, Co10, Va10, V_t10⟩ := hQ10
      have N10 := Fr.app N0 N10q
      have ne_nm_b10 : nm ≠ b10 := Nat.ne_of_lt (Nat.lt_of_lt_of_le E_nm.lt lt10)
      have ne_tn_b10 : tn ≠ b10 := Nat.ne_of_lt (Nat.lt_of_lt_of_le V_tn.lt lt10)
      obtain ⟨h10, e10⟩ : ∃ z, T10.heap = z := ⟨_, rfl⟩
      rw [e10] at K10 E_b10 Co10 Va10 V_t10
      have Sk11 : ∀ x ∈ [], Safe Z EL vm0 hh x := all0
      replace CR := CR.trans (CHr.keep K10 Sk11 CR.1)
      replace hk := Nat.le_trans hk K10.1
      replace Z0 := Nat.le_trans Z0 K10.1
      replace O0 := O0.keep K10 all0
      replace E_nm := E_nm.keep K10
      replace Fc_nm := Fc_nm.keep K10 nin0
      replace Fv_nm := Fv_nm.keep K10 nin0
      replace V_tn := V_tn.keep K10 nin0
      refine GoH.st (T' := T10) (pc' := 132) (L' := #[.val (.int p1), .val (.int p2), .val (.int p3), .val (.int p4), .val (.int p5), .val (.int (xa.toInt32)), .val (.int (xb.toInt32)), .val (.int (1 : Int32)), .val (.ref nm), .val (.int (1 : Int32)), .val .null, .unset, .unset, .unset, .unset]) (S' := [(.ref b10)]) st10 ?_
      refine GoH.st (T' := T10) (pc' := 134) (L' := #[.val (.int p1), .val (.int p2), .val (.int p3), .val (.int p4), .val (.int p5), .val (.int (xa.toInt32)), .val (.int (xb.toInt32)), .val (.int (1 : Int32)), .val (.ref nm), .val (.int (1 : Int32)), .val (.ref b10), .unset, .unset, .unset, .unset]) (S' := []) (fun t_ k_ => XS.astore X10.here hx rfl (hb hby at_132) rfl rfl (l' := #[.val (.int p1), .val (.int p2), .val (.int p3), .val (.int p4), .val (.int p5), .val (.int (xa.toInt32)), .val (.int (xb.toInt32)), .val (.int (1 : Int32)), .val (.ref nm), .val (.int (1 : Int32)), .val (.ref b10), .unset, .unset, .unset, .unset]) rfl k_) ?_
      refine GoH.st (T' := T10) (pc' := 149) (L' := #[.val (.int p1), .val (.int p2), .val (.int p3), .val (.int p4), .val (.int p5), .val (.int (xa.toInt32)), .val (.int (xb.toInt32)), .val (.int (1 : Int32)), .val (.ref nm), .val (.int (1 : Int32)), .val (.ref b10), .unset, .unset, .unset, .unset]) (S' := []) (fun t_ k_ => XS.goto X10.here hx rfl (pc0 := 134) (pc' := 149) rfl (hb hby at_134) (by decide) (by decide) k_) ?_
      refine GoH.st (T' := T10) (pc' := 151) (L' := #[.val (.int p1), .val (.int p2), .val (.int p3), .val (.int p4), .val (.int p5), .val (.int (xa.toInt32)), .val (.int (xb.toInt32)), .val (.int (1 : Int32)), .val (.ref nm), .val (.int (1 : Int32)), .val (.ref b10), .unset, .unset, .unset, .unset]) (S' := [(.int (1 : Int32))]) (fun t_ k_ => XS.iload X10.here hx rfl (hb hby at_149) rfl  k_) ?_
      refine GoH.st (T' := T10) (pc' := 154) (L' := #[.val (.int p1), .val (.int p2), .val (.int p3), .val (.int p4), .val (.int p5), .val (.int (xa.toInt32)), .val (.int (xb.toInt32)), .val (.int (1 : Int32)), .val (.ref nm), .val (.int (1 : Int32)), .val (.ref b10), .unset, .unset, .unset, .unset]) (S' := []) (fun t_ k_ => XS.ifNo X10.here hx rfl (hb hby at_151) rfl ((if0 _ _).trans (feq (by decide : ¬ ((1 : Int32) = (0 : Int32)))).1) k_) ?_
      refine GoH.st (T' := T10) (pc' := 155) (L' := #[.val (.int p1), .val (.int p2), .val (.int p3), .val (.int p4), .val (.int p5), .val (.int (xa.toInt32)), .val (.int (xb.toInt32)), .val (.int (1 : Int32)), .val (.ref nm), .val (.int (1 : Int32)), .val (.ref b10), .unset, .unset, .unset, .unset]) (S' := [(.int p4)]) (fun t_ k_ => XS.iloadN X10.here hx rfl (hb hby at_154) rfl  k_) ?_
      refine GoH.st (T' := T10) (pc' := 156) (L' := #[.val (.int p1), .val (.int p2), .val (.int p3), .val (.int p4), .val (.int p5), .val (.int (xa.toInt32)), .val (.int (xb.toInt32)), .val (.int (1 : Int32)), .val (.ref nm), .val (.int (1 : Int32)), .val (.ref b10), .unset, .unset, .unset, .unset]) (S' := [(.int (4 : Int32)), (.int p4)]) (fun t_ k_ => XS.iconst X10.here hx rfl (hb hby at_155) k_) ?_
      refine GoH.st (T' := T10) (pc' := 157) (L' := #[.val (.int p1), .val (.int p2), .val (.int p3), .val (.int p4), .val (.int p5), .val (.int (xa.toInt32)), .val (.int (xb.toInt32)), .val (.int (1 : Int32)), .val (.ref nm), .val (.int (1 : Int32)), .val (.ref b10), .unset, .unset, .unset, .unset]) (S' := [(.int (p4 &&& (4 : Int32)))]) (fun t_ k_ => XS.iand X10.here hx rfl (hb hby at_156) rfl k_) ?_
      by_cases hc157_12 : (p4 &&& (4 : Int32)) = (0 : Int32)
      · refine GoH.st (T' := T10) (pc' := 164) (L' := #[.val (.int p1), .val (.int p2), .val (.int p3), .val (.int p4), .val (.int p5), .val (.int (xa.toInt32)), .val (.int (xb.toInt32)), .val (.int (1 : Int32)), .val (.ref nm), .val (.int (1 : Int32)), .val (.ref b10), .unset, .unset, .unset, .unset]) (S' := []) (fun t_ k_ => XS.ifYes X10.here hx rfl (pc0 := 157) (pc' := 164) rfl (hb hby at_157) rfl ((if0 _ _).trans (teq hc157_12).1) (by decide) (by decide) k_) ?_
        refine GoH.st (T' := T10) (pc' := 165) (L' := #[.val (.int p1), .val (.int p2), .val (.int p3), .val (.int p4), .val (.int p5), .val (.int (xa.toInt32)), .val (.int (xb.toInt32)), .val (.int (1 : Int32)), .val (.ref nm), .val (.int (1 : Int32)), .val (.ref b10), .unset, .unset, .unset, .unset]) (S' := [(.int (0 : Int32))]) (fun t_ k_ => XS.iconst X10.here hx rfl (hb hby at_164) k_) ?_
        refine GoH.st (T' := T10) (pc' := 167) (L' := #[.val (.int p1), .val (.int p2), .val (.int p3), .val (.int p4), .val (.int p5), .val (.int (xa.toInt32)), .val (.int (xb.toInt32)), .val (.int (1 : Int32)), .val (.ref nm), .val (.int (1 : Int32)), .val (.ref b10), .val (.int (0 : Int32)), .unset, .unset, .unset]) (S' := []) (fun t_ k_ => XS.istore X10.here hx rfl (hb hby at_165) rfl (l' := #[.val (.int p1), .val (.int p2), .val (.int p3), .val (.int p4), .val (.int p5), .val (.int (xa.toInt32)), .val (.int (xb.toInt32)), .val (.int (1 : Int32)), .val (.ref nm), .val (.int (1 : Int32)), .val (.ref b10), .val (.int (0 : Int32)), .unset, .unset, .unset]) rfl k_) ?_
        refine GoH.st (T' := T10) (pc' := 169) (L' := #[.val (.int p1), .val (.int p2), .val (.int p3), .val (.int p4), .val (.int p5), .val (.int (xa.toInt32)), .val (.int (xb.toInt32)), .val (.int (1 : Int32)), .val (.ref nm), .val (.int (1 : Int32)), .val (.ref b10), .val (.int (0 : Int32)), .unset, .unset, .unset]) (S' := [(.int (1 : Int32))]) (fun t_ k_ => XS.iload X10.here hx rfl (hb hby at_167) rfl  k_) ?_
        refine GoH.st (T' := T10) (pc' := 172) (L' := #[.val (.int p1), .val (.int p2), .val (.int p3), .val (.int p4), .val (.int p5), .val (.int (xa.toInt32)), .val (.int (xb.toInt32)), .val (.int (1 : Int32)), .val (.ref nm), .val (.int (1 : Int32)), .val (.ref b10), .val (.int (0 : Int32)), .unset, .unset, .unset]) (S' := []) (fun t_ k_ => XS.ifNo X10.here hx rfl (hb hby at_169) rfl ((if0 _ _).trans (feq (by decide : ¬ ((1 : Int32) = (0 : Int32)))).1) k_) ?_
        refine GoH.st (T' := T10) (pc' := 173) (L' := #[.val (.int p1), .val (.int p2), .val (.int p3), .val (.int p4), .val (.int p5), .val (.int (xa.toInt32)), .val (.int (xb.toInt32)), .val (.int (1 : Int32)), .val (.ref nm), .val (.int (1 : Int32)), .val (.ref b10), .val (.int (0 : Int32)), .unset, .unset, .unset]) (S' := [(.int p4)]) (fun t_ k_ => XS.iloadN X10.here hx rfl (hb hby at_172) rfl  k_) ?_
        refine GoH.st (T' := T10) (pc' := 175) (L' := #[.val (.int p1), .val (.int p2), .val (.int p3), .val (.int p4), .val (.int p5), .val (.int (xa.toInt32)), .val (.int (xb.toInt32)), .val (.int (1 : Int32)), .val (.ref nm), .val (.int (1 : Int32)), .val (.ref b10), .val (.int (0 : Int32)), .unset, .unset, .unset]) (S' := [(.int (8 : Int32)), (.int p4)]) (fun t_ k_ => XS.bipush X10.here hx rfl (hb hby at_173) k_) ?_
        refine GoH.st (T' := T10) (pc' := 176) (L' := #[.val (.int p1), .val (.int p2), .val (.int p3), .val (.int p4), .val (.int p5), .val (.int (xa.toInt32)), .val (.int (xb.toInt32)), .val (.int (1 : Int32)), .val (.ref nm), .val (.int (1 : Int32)), .val (.ref b10), .val (.int (0 : Int32)), .unset, .unset, .unset]) (S' := [(.int (p4 &&& (8 : Int32)))]) (fun t_ k_ => XS.iand X10.here hx rfl (hb hby at_175) rfl k_) ?_
        by_cases hc176_13 : (p4 &&& (8 : Int32)) = (0 : Int32)
        · refine GoH.st (T' := T10) (pc' := 183) (L' := #[.val (.int p1), .val (.int p2), .val (.int p3), .val (.int p4), .val (.int p5), .val (.int (xa.toInt32)), .val (.int (xb.toInt32)), .val (.int (1 : Int32)), .val (.ref nm), .val (.int (1 : Int32)), .val (.ref b10), .val (.int (0 : Int32)), .unset, .unset, .unset]) (S' := []) (fun t_ k_ => XS.ifYes X10.here hx rfl (pc0 := 176) (pc' := 183) rfl (hb hby at_176) rfl ((if0 _ _).trans (teq hc176_13).1) (by decide) (by decide) k_) ?_
          refine GoH.st (T' := T10) (pc' := 184) (L' := #[.val (.int p1), .val (.int p2), .val (.int p3), .val (.int p4), .val (.int p5), .val (.int (xa.toInt32)), .val (.int (xb.toInt32)), .val (.int (1 : Int32)), .val (.ref nm), .val (.int (1 : Int32)), .val (.ref b10), .val (.int (0 : Int32)), .unset, .unset, .unset]) (S' := [(.int (0 : Int32))]) (fun t_ k_ => XS.iconst X10.here hx rfl (hb hby at_183) k_) ?_
          refine GoH.st (T' := T10) (pc' := 186) (L' := #[.val (.int p1), .val (.int p2), .val (.int p3), .val (.int p4), .val (.int p5), .val (.int (xa.toInt32)), .val (.int (xb.toInt32)), .val (.int (1 : Int32)), .val (.ref nm), .val (.int (1 : Int32)), .val (.ref b10), .val (.int (0 : Int32)), .val (.int (0 : Int32)), .unset, .unset]) (S' := []) (fun t_ k_ => XS.istore X10.here hx rfl (hb hby at_184) rfl (l' := #[.val (.int p1), .val (.int p2), .val (.int p3), .val (.int p4), .val (.int p5), .val (.int (xa.toInt32)), .val (.int (xb.toInt32)), .val (.int (1 : Int32)), .val (.ref nm), .val (.int (1 : Int32)), .val (.ref b10), .val (.int (0 : Int32)), .val (.int (0 : Int32)), .unset, .unset]) rfl k_) ?_
          exact seg186_2_1 p1 p2 p3 p4 p5 xa xb gC nm tn _ b10 (0 : Int32) (0 : Int32) (Stand.up X10 (by decide) (by decide)) hx hZ hw hby hml hown hnm hret hlk e10 hs0 CR hS hk N10 SC PC O0 Z0 E_nm Fc_nm Fv_nm V_tn hxa hxb na1 na2 nb2
        · refine GoH.st (T' := T10) (pc' := 179) (L' := #[.val (.int p1), .val (.int p2), .val (.int p3), .val (.int p4), .val (.int p5), .val (.int (xa.toInt32)), .val (.int (xb.toInt32)), .val (.int (1 : Int32)), .val (.ref nm), .val (.int (1 : Int32)), .val (.ref b10), .val (.int (0 : Int32)), .unset, .unset, .unset]) (S' := []) (fun t_ k_ => XS.ifNo X10.here hx rfl (hb hby at_176) rfl ((if0 _ _).trans (feq hc176_13).1) k_) ?_
          refine GoH.st (T' := T10) (pc' := 180) (L' := #[.val (.int p1), .val (.int p2), .val (.int p3), .val (.int p4), .val (.int p5), .val (.int (xa.toInt32)), .val (.int (xb.toInt32)), .val (.int (1 : Int32)), .val (.ref nm), .val (.int (1 : Int32)), .val (.ref b10), .val (.int (0 : Int32)), .unset, .unset, .unset]) (S' := [(.int (1 : Int32))]) (fun t_ k_ => XS.iconst X10.here hx rfl (hb hby at_179) k_) ?_
          refine GoH.st (T' := T10) (pc' := 184) (L' := #[.val (.int p1), .val (.int p2), .val (.int p3), .val (.int p4), .val (.int p5), .val (.int (xa.toInt32)), .val (.int (xb.toInt32)), .val (.int (1 : Int32)), .val (.ref nm), .val (.int (1 : Int32)), .val (.ref b10), .val (.int (0 : Int32)), .unset, .unset, .unset]) (S' := [(.int (1 : Int32))]) (fun t_ k_ => XS.goto X10.here hx rfl (pc0 := 180) (pc' := 184) rfl (hb hby at_180) (by decide) (by decide) k_) ?_
          refine GoH.st (T' := T10) (pc' := 186) (L' := #[.val (.int p1), .val (.int p2), .val (.int p3), .val (.int p4), .val (.int p5), .val (.int (xa.toInt32)), .val (.int (xb.toInt32)), .val (.int (1 : Int32)), .val (.ref nm), .val (.int (1 : Int32)), .val (.ref b10), .val (.int (0 : Int32)), .val (.int (1 : Int32)), .unset, .unset]) (S' := []) (fun t_ k_ => XS.istore X10.here hx rfl (hb hby at_184) rfl (l' := #[.val (.int p1), .val (.int p2), .val (.int p3), .val (.int p4), .val (.int p5), .val (.int (xa.toInt32)), .val (.int (xb.toInt32)), .val (.int (1 : Int32)), .val (.ref nm), .val (.int (1 : Int32)), .val (.ref b10), .val (.int (0 : Int32)), .val (.int (1 : Int32)), .unset, .unset]) rfl k_) ?_
          exact seg186_2_1 p1 p2 p3 p4 p5 xa xb gC nm tn _ b10 (0 : Int32) (1 : Int32) (Stand.up X10 (by decide) (by decide)) hx hZ hw hby hml hown hnm hret hlk e10 hs0 CR hS hk N10 SC PC O0 Z0 E_nm Fc_nm Fv_nm V_tn hxa hxb na1 na2 nb2
      · refine GoH.st (T' := T10) (pc' := 160) (L' := #[.val (.int p1), .val (.int p2), .val (.int p3), .val (.int p4), .val (.int p5), .val (.int (xa.toInt32)), .val (.int (xb.toInt32)), .val (.int (1 : Int32)), .val (.ref nm), .val (.int (1 : Int32)), .val (.ref b10), .unset, .unset, .unset, .unset]) (S' := []) (fun t_ k_ => XS.ifNo X10.here hx rfl (hb hby at_157) rfl ((if0 _ _).trans (feq hc157_12).1) k_) ?_
        refine GoH.st (T' := T10) (pc' := 161) (L' := #[.val (.int p1), .val (.int p2), .val (.int p3), .val (.int p4), .val (.int p5), .val (.int (xa.toInt32)), .val (.int (xb.toInt32)), .val (.int (1 : Int32)), .val (.ref nm), .val (.int (1 : Int32)), .val (.ref b10), .unset, .unset, .unset, .unset]) (S' := [(.int (1 : Int32))]) (fun t_ k_ => XS.iconst X10.here hx rfl (hb hby at_160) k_) ?_
        refine GoH.st (T' := T10) (pc' := 165) (L' := #[.val (.int p1), .val (.int p2), .val (.int p3), .val (.int p4), .val (.int p5), .val (.int (xa.toInt32)), .val (.int (xb.toInt32)), .val (.int (1 : Int32)), .val (.ref nm), .val (.int (1 : Int32)), .val (.ref b10), .unset, .unset, .unset, .unset]) (S' := [(.int (1 : Int32))]) (fun t_ k_ => XS.goto X10.here hx rfl (pc0 := 161) (pc' := 165) rfl (hb hby at_161) (by decide) (by decide) k_) ?_
        refine GoH.st (T' := T10) (pc' := 167) (L' := #[.val (.int p1), .val (.int p2), .val (.int p3), .val (.int p4), .val (.int p5), .val (.int (xa.toInt32)), .val (.int (xb.toInt32)), .val (.int (1 : Int32)), .val (.ref nm), .val (.int (1 : Int32)), .val (.ref b10), .val (.int (1 : Int32)), .unset, .unset, .unset]) (S' := []) (fun t_ k_ => XS.istore X10.here hx rfl (hb hby at_165) rfl (l' := #[.val (.int p1), .val (.int p2), .val (.int p3), .val (.int p4), .val (.int p5), .val (.int (xa.toInt32)), .val (.int (xb.toInt32)), .val (.int (1 : Int32)), .val (.ref nm), .val (.int (1 : Int32)), .val (.ref b10), .val (.int (1 : Int32)), .unset, .unset, .unset]) rfl k_) ?_
        refine GoH.st (T' := T10) (pc' := 169) (L' := #[.val (.int p1), .val (.int p2), .val (.int p3), .val (.int p4), .val (.int p5), .val (.int (xa.toInt32)), .val (.int (xb.toInt32)), .val (.int (1 : Int32)), .val (.ref nm), .val (.int (1 : Int32)), .val (.ref b10), .val (.int (1 : Int32)), .unset, .unset, .unset]) (S' := [(.int (1 : Int32))]) (fun t_ k_ => XS.iload X10.here hx rfl (hb hby at_167) rfl  k_) ?_
        refine GoH.st (T' := T10) (pc' := 172) (L' := #[.val (.int p1), .val (.int p2), .val (.int p3), .val (.int p4), .val (.int p5), .val (.int (xa.toInt32)), .val (.int (xb.toInt32)), .val (.int (1 : Int32)), .val (.ref nm), .val (.int (1 : Int32)), .val (.ref b10), .val (.int (1 : Int32)), .unset, .unset, .unset]) (S' := []) (fun t_ k_ => XS.ifNo X10.here hx rfl (hb hby at_169) rfl ((if0 _ _).trans (feq (by decide : ¬ ((1 : Int32) = (0 : Int32)))).1) k_) ?_
        refine GoH.st (T' := T10) (pc' := 173) (L' := #[.val (.int p1), .val (.int p2), .val (.int p3), .val (.int p4), .val (.int p5), .val (.int (xa.toInt32)), .val (.int (xb.toInt32)), .val (.int (1 : Int32)), .val (.ref nm), .val (.int (1 : Int32)), .val (.ref b10), .val (.int (1 : Int32)), .unset, .unset, .unset]) (S' := [(.int p4)]) (fun t_ k_ => XS.iloadN X10.here hx rfl (hb hby at_172) rfl  k_) ?_
        refine GoH.st (T' := T10) (pc' := 175) (L' := #[.val (.int p1), .val (.int p2), .val (.int p3), .val (.int p4), .val (.int p5), .val (.int (xa.toInt32)), .val (.int (xb.toInt32)), .val (.int (1 : Int32)), .val (.ref nm), .val (.int (1 : Int32)), .val (.ref b10), .val (.int (1 : Int32)), .unset, .unset, .unset]) (S' := [(.int (8 : Int32)), (.int p4)]) (fun t_ k_ => XS.bipush X10.here hx rfl (hb hby at_173) k_) ?_
        refine GoH.st (T' := T10) (pc' := 176) (L' := #[.val (.int p1), .val (.int p2), .val (.int p3), .val (.int p4), .val (.int p5), .val (.int (xa.toInt32)), .val (.int (xb.toInt32)), .val (.int (1 : Int32)), .val (.ref nm), .val (.int (1 : Int32)), .val (.ref b10), .val (.int (1 : Int32)), .unset, .unset, .unset]) (S' := [(.int (p4 &&& (8 : Int32)))]) (fun t_ k_ => XS.iand X10.here hx rfl (hb hby at_175) rfl k_) ?_
        by_cases hc176_14 : (p4 &&& (8 : Int32)) = (0 : Int32)
        · refine GoH.st (T' := T10) (pc' := 183) (L' := #[.val (.int p1), .val (.int p2), .val (.int p3), .val (.int p4), .val (.int p5), .val (.int (xa.toInt32)), .val (.int (xb.toInt32)), .val (.int (1 : Int32)), .val (.ref nm), .val (.int (1 : Int32)), .val (.ref b10), .val (.int (1 : Int32)), .unset, .unset, .unset]) (S' := []) (fun t_ k_ => XS.ifYes X10.here hx rfl (pc0 := 176) (pc' := 183) rfl (hb hby at_176) rfl ((if0 _ _).trans (teq hc176_14).1) (by decide) (by decide) k_) ?_
          refine GoH.st (T' := T10) (pc' := 184) (L' := #[.val (.int p1), .val (.int p2), .val (.int p3), .val (.int p4), .val (.int p5), .val (.int (xa.toInt32)), .val (.int (xb.toInt32)), .val (.int (1 : Int32)), .val (.ref nm), .val (.int (1 : Int32)), .val (.ref b10), .val (.int (1 : Int32)), .unset, .unset, .unset]) (S' := [(.int (0 : Int32))]) (fun t_ k_ => XS.iconst X10.here hx rfl (hb hby at_183) k_) ?_
          refine GoH.st (T' := T10) (pc' := 186) (L' := #[.val (.int p1), .val (.int p2), .val (.int p3), .val (.int p4), .val (.int p5), .val (.int (xa.toInt32)), .val (.int (xb.toInt32)), .val (.int (1 : Int32)), .val (.ref nm), .val (.int (1 : Int32)), .val (.ref b10), .val (.int (1 : Int32)), .val (.int (0 : Int32)), .unset, .unset]) (S' := []) (fun t_ k_ => XS.istore X10.here hx rfl (hb hby at_184) rfl (l' := #[.val (.int p1), .val (.int p2), .val (.int p3), .val (.int p4), .val (.int p5), .val (.int (xa.toInt32)), .val (.int (xb.toInt32)), .val (.int (1 : Int32)), .val (.ref nm), .val (.int (1 : Int32)), .val (.ref b10), .val (.int (1 : Int32)), .val (.int (0 : Int32)), .unset, .unset]) rfl k_) ?_
          exact seg186_2_1 p1 p2 p3 p4 p5 xa xb gC nm tn _ b10 (1 : Int32) (0 : Int32) (Stand.up X10 (by decide) (by decide)) hx hZ hw hby hml hown hnm hret hlk e10 hs0 CR hS hk N10 SC PC O0 Z0 E_nm Fc_nm Fv_nm V_tn hxa hxb na1 na2 nb2
        · refine GoH.st (T' := T10) (pc' := 179) (L' := #[.val (.int p1), .val (.int p2), .val (.int p3), .val (.int p4), .val (.int p5), .val (.int (xa.toInt32)), .val (.int (xb.toInt32)), .val (.int (1 : Int32)), .val (.ref nm), .val (.int (1 : Int32)), .val (.ref b10), .val (.int (1 : Int32)), .unset, .unset, .unset]) (S' := []) (fun t_ k_ => XS.ifNo X10.here hx rfl (hb hby at_176) rfl ((if0 _ _).trans (feq hc176_14).1) k_) ?_
          refine GoH.st (T' := T10) (pc' := 180) (L' := #[.val (.int p1), .val (.int p2), .val (.int p3), .val (.int p4), .val (.int p5), .val (.int (xa.toInt32)), .val (.int (xb.toInt32)), .val (.int (1 : Int32)), .val (.ref nm), .val (.int (1 : Int32)), .val (.ref b10), .val (.int (1 : Int32)), .unset, .unset, .unset]) (S' := [(.int (1 : Int32))]) (fun t_ k_ => XS.iconst X10.here hx rfl (hb hby at_179) k_) ?_
          refine GoH.st (T' := T10) (pc' := 184) (L' := #[.val (.int p1), .val (.int p2), .val (.int p3), .val (.int p4), .val (.int p5), .val (.int (xa.toInt32)), .val (.int (xb.toInt32)), .val (.int (1 : Int32)), .val (.ref nm), .val (.int (1 : Int32)), .val (.ref b10), .val (.int (1 : Int32)), .unset, .unset, .unset]) (S' := [(.int (1 : Int32))]) (fun t_ k_ => XS.goto X10.here hx rfl (pc0 := 180) (pc' := 184) rfl (hb hby at_180) (by decide) (by decide) k_) ?_
          refine GoH.st (T' := T10) (pc' := 186) (L' := #[.val (.int p1), .val (.int p2), .val (.int p3), .val (.int p4), .val (.int p5), .val (.int (xa.toInt32)), .val (.int (xb.toInt32)), .val (.int (1 : Int32)), .val (.ref nm), .val (.int (1 : Int32)), .val (.ref b10), .val (.int (1 : Int32)), .val (.int (1 : Int32)), .unset, .unset]) (S' := []) (fun t_ k_ => XS.istore X10.here hx rfl (hb hby at_184) rfl (l' := #[.val (.int p1), .val (.int p2), .val (.int p3), .val (.int p4), .val (.int p5), .val (.int (xa.toInt32)), .val (.int (xb.toInt32)), .val (.int (1 : Int32)), .val (.ref nm), .val (.int (1 : Int32)), .val (.ref b10), .val (.int (1 : Int32)), .val (.int (1 : Int32)), .unset, .unset]) rfl k_) ?_
          exact seg186_2_1 p1 p2 p3 p4 p5 xa xb gC nm tn _ b10 (1 : Int32) (1 : Int32) (Stand.up X10 (by decide) (by decide)) hx hZ hw hby hml hown hnm hret hlk e10 hs0 CR hS hk N10 SC PC O0 Z0 E_nm Fc_nm Fv_nm V_tn hxa hxb na1 na2 nb2

set_option maxRecDepth 65536 in
set_option maxHeartbeats 40000000 in
theorem seg45 {p : Program} {l : Launch} {e : Env} {s : State} {m : MethodId} {args : Array Value} {below : List Frame} {meth : Method} {c : Code} {T0 : State} {locs : List Loc} {Z : State} {a0 : Array Value} {n0 k0 : Nat} {h0 hh : Heap} {vm0 : Vm} (p1 : Int32) (p2 : Int32) (p3 : Int32) (p4 : Int32) (p5 : Int32) (xa : Nat) (xb : Nat) (gC : Int32)
    (X0 : Stand p l e room_1 (s.setVm vm0) m args below meth c T0 locs 0 0) (hx : p.tables.exec = Jvm.exec) (hZ : Z.Warmed39 (s.setVm vm0).vm) (hw : ∀ d ∈ tables_1, d.before a0 Z = true) (hby : c.code = code) (hml : c.maxLocals = 15) (hown : (s.setVm vm0).vm.findClass "com/example/placewright/placewright/cli/OptionTakesValuePinLaw" = some m.cls) (hnm : meth.name = "law") (hret : meth.sig.returnType = (some .boolean)) (hlk : meth.locks = false) (e0 : T0.heap = hh) (hs0 : s.heap = h0) (CR : CHr Z EL s.vm h0 vm0 hh) (hS : s.Since vm0 k0) (hk : k0 ≤ hh.size) (N0 : Fr n0 locs) (SC : Sta Z Z.heap "java/lang/String" "COMPACT_STRINGS" "Z" (.int gC)) (PC : ¬ (gC = (0 : Int32))) (O0 : Old Z n0 hh) (Z0 : n0 ≤ hh.size) (hxa : xa < 256) (hxb : xb < 256) (na1 : xa ≠ 45) (na2 : xa ≠ 61) (nb2 : xb ≠ 61) :
    GoH Z EL p e below s room_1.cells room_1.slots (Q0 Z h0 n0) m T0 45 #[.val (.int p1), .val (.int p2), .val (.int p3), .val (.int p4), .val (.int p5), .val (.int (xa.toInt32)), .val (.int (xb.toInt32)), .unset, .unset, .unset, .unset, .unset, .unset, .unset, .unset] [] := by
  refine GoH.st (T' := T0) (pc' := 46) (L' := #[.val (.int p1), .val (.int p2), .val (.int p3), .val (.int p4), .val (.int p5), .val (.int (xa.toInt32)), .val (.int (xb.toInt32)), .unset, .unset, .unset, .unset, .unset, .unset, .unset, .unset]) (S' := [(.int p4)]) (fun t_ k_ => XS.iloadN X0.here hx rfl (hb hby at_45) rfl  k_) ?_
  refine GoH.st (T' := T0) (pc' := 48) (L' := #[.val (.int p1), .val (.int p2), .val (.int p3), .val (.int p4), .val (.int p5), .val (.int (xa.toInt32)), .val (.int (xb.toInt32)), .unset, .unset, .unset, .unset, .unset, .unset, .unset, .unset]) (S' := [(.int (16 : Int32)), (.int p4)]) (fun t_ k_ => XS.bipush X0.here hx rfl (hb hby at_46) k_) ?_
  refine GoH.st (T' := T0) (pc' := 49) (L' := #[.val (.int p1), .val (.int p2), .val (.int p3), .val (.int p4), .val (.int p5), .val (.int (xa.toInt32)), .val (.int (xb.toInt32)), .unset, .unset, .unset, .unset, .unset, .unset, .unset, .unset]) (S' := [(.int (p4 &&& (16 : Int32)))]) (fun t_ k_ => XS.iand X0.here hx rfl (hb hby at_48) rfl k_) ?_
  by_cases hc49_1 : (p4 &&& (16 : Int32)) = (0 : Int32)
  · refine GoH.st (T' := T0) (pc' := 56) (L' := #[.val (.int p1), .val (.int p2), .val (.int p3), .val (.int p4), .val (.int p5), .val (.int (xa.toInt32)), .val (.int (xb.toInt32)), .unset, .unset, .unset, .unset, .unset, .unset, .unset, .unset]) (S' := []) (fun t_ k_ => XS.ifYes X0.here hx rfl (pc0 := 49) (pc' := 56) rfl (hb hby at_49) rfl ((if0 _ _).trans (teq hc49_1).1) (by decide) (by decide) k_) ?_
    refine GoH.st (T' := T0) (pc' := 57) (L' := #[.val (.int p1), .val (.int p2), .val (.int p3), .val (.int p4), .val (.int p5), .val (.int (xa.toInt32)), .val (.int (xb.toInt32)), .unset, .unset, .unset, .unset, .unset, .unset, .unset, .unset]) (S' := [(.int (0 : Int32))]) (fun t_ k_ => XS.iconst X0.here hx rfl (hb hby at_56) k_) ?_
    refine GoH.st (T' := T0) (pc' := 59) (L' := #[.val (.int p1), .val (.int p2), .val (.int p3), .val (.int p4), .val (.int p5), .val (.int (xa.toInt32)), .val (.int (xb.toInt32)), .val (.int (0 : Int32)), .unset, .unset, .unset, .unset, .unset, .unset, .unset]) (S' := []) (fun t_ k_ => XS.istore X0.here hx rfl (hb hby at_57) rfl (l' := #[.val (.int p1), .val (.int p2), .val (.int p3), .val (.int p4), .val (.int p5), .val (.int (xa.toInt32)), .val (.int (xb.toInt32)), .val (.int (0 : Int32)), .unset, .unset, .unset, .unset, .unset, .unset, .unset]) rfl k_) ?_
    refine GoH.st (T' := T0) (pc' := 61) (L' := #[.val (.int p1), .val (.int p2), .val (.int p3), .val (.int p4), .val (.int p5), .val (.int (xa.toInt32)), .val (.int (xb.toInt32)), .val (.int (0 : Int32)), .unset, .unset, .unset, .unset, .unset, .unset, .unset]) (S' := [(.int (0 : Int32))]) (fun t_ k_ => XS.iload X0.here hx rfl (hb hby at_59) rfl  k_) ?_
    refine GoH.st (T' := T0) (pc' := 89) (L' := #[.val (.int p1), .val (.int p2), .val (.int p3), .val (.int p4), .val (.int p5), .val (.int (xa.toInt32)), .val (.int (xb.toInt32)), .val (.int (0 : Int32)), .unset, .unset, .unset, .unset, .unset, .unset, .unset]) (S' := []) (fun t_ k_ => XS.ifYes X0.here hx rfl (pc0 := 61) (pc' := 89) rfl (hb hby at_61) rfl ((if0 _ _).trans (teq (by decide : ((0 : Int32) = (0 : Int32)))).1) (by decide) (by decide) k_) ?_
    refine GoH.st (T' := T0) (pc' := 91) (L' := #[.val (.int p1), .val (.int p2), .val (.int p3), .val (.int p4), .val (.int p5), .val (.int (xa.toInt32)), .val (.int (xb.toInt32)), .val (.int (0 : Int32)), .unset, .unset, .unset, .unset, .unset, .unset, .unset]) (S' := [(.int (xa.toInt32))]) (fun t_ k_ => XS.iload X0.here hx rfl (hb hby at_89) rfl  k_) ?_
    obtain ⟨_, _, ⟨T2, L2, k2, n2⟩, -, X2, ⟨Lc2, hQ2, l2, y2, z2⟩, st2⟩ := Jvm.LawKit.callS X0 hx (y := (⟨"java/lang/String", "valueOf", "(C)Ljava/lang/String;"⟩ : MethodName)) hown (mvT hZ (hw _ (List.mem_of_getElem? (i := 0) rfl))) (mvT hZ (hw _ (List.mem_of_getElem? (i := 1) rfl))) (mvT hZ (hw _ (List.mem_of_getElem? (i := 2) rfl))) (mvT hZ (hw _ (List.mem_of_getElem? (i := 3) rfl))) (by decide) (backOf (W := 0) (rm1 l Z a0 hw [] (xa.toInt32) gC hh n0 Z0 SC PC O0 (own_byf ⟨xa, hxa⟩).2.1) hZ (hw _ (List.mem_of_getElem? (i := 3) rfl)) (hw _ (List.mem_of_getElem? (i := 2) rfl)) (by decide) (by decide)) (g := (mkF m 91 #[.val (.int p1), .val (.int p2), .val (.int p3), .val (.int p4), .val (.int p5), .val (.int (xa.toInt32)), .val (.int (xb.toInt32)), .val (.int (0 : Int32)), .unset, .unset, .unset, .unset, .unset, .unset, .unset] [(.int (xa.toInt32))])) rfl (by rw [hml]; rfl) (argsL := [(.int (xa.toInt32))]) (rest := []) (lenOf pd_18 rfl) rfl (by show 2 * 0 + _ ≤ _; exact Nat.le_of_eq rfl) (hb hby at_91) (fun _ _ => ⟨rfl, e0, (by decide : 0 + 2 ≤ _), (by decide : 0 + 5 ≤ _)⟩)
    dsimp only [Pt.U, Pt.locs, Pt.cells, Pt.slots] at X2 l2 y2 z2 st2 hQ2
    subst l2 y2 z2
    obtain ⟨b2, t2, kb2, rfl, N2q, K2, g_b2, lt2, E_b2, Co2, Va2, V_t2⟩ := hQ2
    have N2 := Fr.app N0 N2q
    obtain ⟨h2, e2⟩ : ∃ z, T2.heap = z := ⟨_, rfl⟩
    rw [e2] at K2 E_b2 Co2 Va2 V_t2
    have Sk3 : ∀ x ∈ [], Safe Z EL vm0 hh x := all0
    replace CR := CR.trans (CHr.keep K2 Sk3 CR.1)
    replace hk := Nat.le_trans hk K2.1
    replace Z0 := Nat.le_trans Z0 K2.1
    replace O0 := O0.keep K2 all0
    refine GoH.st (T' := T2) (pc' := 94) (L' := #[.val (.int p1), .val (.int p2), .val (.int p3), .val (.int p4), .val (.int p5), .val (.int (xa.toInt32)), .val (.int (xb.toInt32)), .val (.int (0 : Int32)), .unset, .unset, .unset, .unset, .unset, .unset, .unset]) (S' := [(.ref b2)]) st2 ?_
    refine GoH.st (T' := T2) (pc' := 96) (L' := #[.val (.int p1), .val (.int p2), .val (.int p3), .val (.int p4), .val (.int p5), .val (.int (xa.toInt32)), .val (.int (xb.toInt32)), .val (.int (0 : Int32)), .val (.ref b2), .unset, .unset, .unset, .unset, .unset, .unset]) (S' := []) (fun t_ k_ => XS.astore X2.here hx rfl (hb hby at_94) rfl rfl (l' := #[.val (.int p1), .val (.int p2), .val (.int p3), .val (.int p4), .val (.int p5), .val (.int (xa.toInt32)), .val (.int (xb.toInt32)), .val (.int (0 : Int32)), .val (.ref b2), .unset, .unset, .unset, .unset, .unset, .unset]) rfl k_) ?_
    exact seg96_1 p1 p2 p3 p4 p5 xa xb gC b2 t2 _ (Stand.up X2 (by decide) (by decide)) hx hZ hw hby hml hown hnm hret hlk e2 hs0 CR hS hk N2 SC PC O0 Z0 E_b2 Co2 Va2 V_t2 hxa hxb na1 na2 nb2
  · refine GoH.st (T' := T0) (pc' := 52) (L' := #[.val (.int p1), .val (.int p2), .val (.int p3), .val (.int p4), .val (.int p5), .val (.int (xa.toInt32)), .val (.int (xb.toInt32)), .unset, .unset, .unset, .unset, .unset, .unset, .unset, .unset]) (S' := []) (fun t_ k_ => XS.ifNo X0.here hx rfl (hb hby at_49) rfl ((if0 _ _).trans (feq hc49_1).1) k_) ?_
    refine GoH.st (T' := T0) (pc' := 53) (L' := #[.val (.int p1), .val (.int p2), .val (.int p3), .val (.int p4), .val (.int p5), .val (.int (xa.toInt32)), .val (.int (xb.toInt32)), .unset, .unset, .unset, .unset, .unset, .unset, .unset, .unset]) (S' := [(.int (1 : Int32))]) (fun t_ k_ => XS.iconst X0.here hx rfl (hb hby at_52) k_) ?_
    refine GoH.st (T' := T0) (pc' := 57) (L' := #[.val (.int p1), .val (.int p2), .val (.int p3), .val (.int p4), .val (.int p5), .val (.int (xa.toInt32)), .val (.int (xb.toInt32)), .unset, .unset, .unset, .unset, .unset, .unset, .unset, .unset]) (S' := [(.int (1 : Int32))]) (fun t_ k_ => XS.goto X0.here hx rfl (pc0 := 53) (pc' := 57) rfl (hb hby at_53) (by decide) (by decide) k_) ?_
    refine GoH.st (T' := T0) (pc' := 59) (L' := #[.val (.int p1), .val (.int p2), .val (.int p3), .val (.int p4), .val (.int p5), .val (.int (xa.toInt32)), .val (.int (xb.toInt32)), .val (.int (1 : Int32)), .unset, .unset, .unset, .unset, .unset, .unset, .unset]) (S' := []) (fun t_ k_ => XS.istore X0.here hx rfl (hb hby at_57) rfl (l' := #[.val (.int p1), .val (.int p2), .val (.int p3), .val (.int p4), .val (.int p5), .val (.int (xa.toInt32)), .val (.int (xb.toInt32)), .val (.int (1 : Int32)), .unset, .unset, .unset, .unset, .unset, .unset, .unset]) rfl k_) ?_
    refine GoH.st (T' := T0) (pc' := 61) (L' := #[.val (.int p1), .val (.int p2), .val (.int p3), .val (.int p4), .val (.int p5), .val (.int (xa.toInt32)), .val (.int (xb.toInt32)), .val (.int (1 : Int32)), .unset, .unset, .unset, .unset, .unset, .unset, .unset]) (S' := [(.int (1 : Int32))]) (fun t_ k_ => XS.iload X0.here hx rfl (hb hby at_59) rfl  k_) ?_
    refine GoH.st (T' := T0) (pc' := 64) (L' := #[.val (.int p1), .val (.int p2), .val (.int p3), .val (.int p4), .val (.int p5), .val (.int (xa.toInt32)), .val (.int (xb.toInt32)), .val (.int (1 : Int32)), .unset, .unset, .unset, .unset, .unset, .unset, .unset]) (S' := []) (fun t_ k_ => XS.ifNo X0.here hx rfl (hb hby at_61) rfl ((if0 _ _).trans (feq (by decide : ¬ ((1 : Int32) = (0 : Int32)))).1) k_) ?_
    obtain ⟨T4, h4, X4, e4, E4, A4, D4, U4, st4⟩ := newO X0 hx hZ hown (hw _ (List.mem_of_getElem? (i := 26) rfl)) (hw _ (List.mem_of_getElem? (i := 10) rfl)) (hw _ (List.mem_of_getElem? (i := 2) rfl)) e0 (g := (mkF m 64 #[.val (.int p1), .val (.int p2), .val (.int p3), .val (.int p4), .val (.int p5), .val (.int (xa.toInt32)), .val (.int (xb.toInt32)), .val (.int (1 : Int32)), .unset, .unset, .unset, .unset, .unset, .unset, .unset] [])) rfl (hb hby at_64) (by decide) (by decide)
    obtain ⟨b4, g4⟩ : ∃ z, z = hh.size := ⟨_, rfl⟩
    rw [← g4] at A4 D4 U4 st4
    have g_b4 : n0 ≤ b4 := Nat.le_trans Z0 (Nat.le_of_eq g4.symm)
    have S_b4 : Safe Z EL vm0 h4 b4 := Safe.ext E4 CR.1 (Safe.new (Nat.le_of_eq g4.symm))
    replace CR := CR.trans (CHr.ext E4 CR.1)
    replace hk := Nat.le_trans hk E4.1
    replace Z0 := Nat.le_trans Z0 E4.1
    replace O0 := O0.ext E4
    have E_b4 := A4
    have F_b4_value : Fld Z h4 b4 "java/lang/String" "value" "[B" .null := D4 (Or.inr (hw _ (List.mem_of_getElem? (i := 23) rfl))) (ty := (.array .byte)) (by decide)
    have F_b4_coder : Fld Z h4 b4 "java/lang/String" "coder" "B" (.int (0 : Int32)) := D4 (Or.inr (hw _ (List.mem_of_getElem? (i := 25) rfl))) (ty := .byte) (by decide)
    refine GoH.st (T' := T4) (pc' := 67) (L' := #[.val (.int p1), .val (.int p2), .val (.int p3), .val (.int p4), .val (.int p5), .val (.int (xa.toInt32)), .val (.int (xb.toInt32)), .val (.int (1 : Int32)), .unset, .unset, .unset, .unset, .unset, .unset, .unset]) (S' := [(.ref b4)]) st4 ?_
    refine GoH.st (T' := T4) (pc' := 68) (L' := #[.val (.int p1), .val (.int p2), .val (.int p3), .val (.int p4), .val (.int p5), .val (.int (xa.toInt32)), .val (.int (xb.toInt32)), .val (.int (1 : Int32)), .unset, .unset, .unset, .unset, .unset, .unset, .unset]) (S' := [(.ref b4), (.ref b4)]) (fun t_ k_ => XS.dup X4.here hx rfl (hb hby at_67) rfl rfl k_) ?_
    refine GoH.st (T' := T4) (pc' := 69) (L' := #[.val (.int p1), .val (.int p2), .val (.int p3), .val (.int p4), .val (.int p5), .val (.int (xa.toInt32)), .val (.int (xb.toInt32)), .val (.int (1 : Int32)), .unset, .unset, .unset, .unset, .unset, .unset, .unset]) (S' := [(.int (2 : Int32)), (.ref b4), (.ref b4)]) (fun t_ k_ => XS.iconst X4.here hx rfl (hb hby at_68) k_) ?_
    obtain ⟨T5, h5, k5, X5, e5, E5, A5, st5⟩ := newP X4 hx hZ (hw _ (List.mem_of_getElem? (i := 27) rfl)) e4 (g := (mkF m 69 #[.val (.int p1), .val (.int p2), .val (.int p3), .val (.int p4), .val (.int p5), .val (.int (xa.toInt32)), .val (.int (xb.toInt32)), .val (.int (1 : Int32)), .unset, .unset, .unset, .unset, .unset, .unset, .unset] [(.int (2 : Int32)), (.ref b4), (.ref b4)])) rfl (hb hby at_69) rfl (by decide) (cap := 2) (by decide) (by decide) (by decide) (by decide)
    obtain ⟨b5, g5⟩ : ∃ z, z = h4.size := ⟨_, rfl⟩
    rw [← g5] at A5 st5
    have ne_b4_b5 : b4 ≠ b5 := Nat.ne_of_lt (Nat.lt_of_lt_of_le E_b4.lt (Nat.le_of_eq g5.symm))
    have g_b5 : n0 ≤ b5 := Nat.le_trans Z0 (Nat.le_of_eq g5.symm)
    replace S_b4 := Safe.ext E5 CR.1 S_b4
    replace CR := CR.trans (CHr.ext E5 CR.1)
    replace hk := Nat.le_trans hk E5.1
    replace Z0 := Nat.le_trans Z0 E5.1
    replace O0 := O0.ext E5
    replace E_b4 := E_b4.ext E5
    replace F_b4_value := F_b4_value.ext E5
    replace F_b4_coder := F_b4_coder.ext E5
    have V_b5 : Arv Z h5 b5 k5 .char (2 : Int32) [(.int (0 : Int32)), (.int (0 : Int32))] (.int (0 : Int32)) := (Arv.new A5 (by decide)).pad (pad_rep [] (.int (0 : Int32)) 2)
    refine GoH.st (T' := T5) (pc' := 71) (L' := #[.val (.int p1), .val (.int p2), .val (.int p3), .val (.int p4), .val (.int p5), .val (.int (xa.toInt32)), .val (.int (xb.toInt32)), .val (.int (1 : Int32)), .unset, .unset, .unset, .unset, .unset, .unset, .unset]) (S' := [(.ref b5), (.ref b4), (.ref b4)]) st5 ?_
    refine GoH.st (T' := T5) (pc' := 72) (L' := #[.val (.int p1), .val (.int p2), .val (.int p3), .val (.int p4), .val (.int p5), .val (.int (xa.toInt32)), .val (.int (xb.toInt32)), .val (.int (1 : Int32)), .unset, .unset, .unset, .unset, .unset, .unset, .unset]) (S' := [(.ref b5), (.ref b5), (.ref b4), (.ref b4)]) (fun t_ k_ => XS.dup X5.here hx rfl (hb hby at_71) rfl rfl k_) ?_
    refine GoH.st (T' := T5) (pc' := 73) (L' := #[.val (.int p1), .val (.int p2), .val (.int p3), .val (.int p4), .val (.int p5), .val (.int (xa.toInt32)), .val (.int (xb.toInt32)), .val (.int (1 : Int32)), .unset, .unset, .unset, .unset, .unset, .unset, .unset]) (S' := [(.int (0 : Int32)), (.ref b5), (.ref b5), (.ref b4), (.ref b4)]) (fun t_ k_ => XS.iconst X5.here hx rfl (hb hby at_72) k_) ?_
    refine GoH.st (T' := T5) (pc' := 75) (L' := #[.val (.int p1), .val (.int p2), .val (.int p3), .val (.int p4), .val (.int p5), .val (.int (xa.toInt32)), .val (.int (xb.toInt32)), .val (.int (1 : Int32)), .unset, .unset, .unset, .unset, .unset, .unset, .unset]) (S' := [(.int (xa.toInt32)), (.int (0 : Int32)), (.ref b5), (.ref b5), (.ref b4), (.ref b4)]) (fun t_ k_ => XS.iload X5.here hx rfl (hb hby at_73) rfl  k_) ?_
    have Sq6 : Safe Z EL vm0 h5 b5 := (own_safeV hZ.alike V_b5 (by decide))
    obtain ⟨cl6, Ar6, q61, q62, q63, q64, q65⟩ := V_b5
    obtain ⟨T6, h6, X6, e6, W6, st6⟩ := stC X5 hx hZ e5 Ar6 (j := (0 : Int32)) (inb_of q62 ⟨by decide, by decide⟩) (g := (mkF m 75 #[.val (.int p1), .val (.int p2), .val (.int p3), .val (.int p4), .val (.int p5), .val (.int (xa.toInt32)), .val (.int (xb.toInt32)), .val (.int (1 : Int32)), .unset, .unset, .unset, .unset, .unset, .unset, .unset] [(.int (xa.toInt32)), (.int (0 : Int32)), (.ref b5), (.ref b5), (.ref b4), (.ref b4)])) rfl rfl (hb hby at_75)
    replace V_b5 := Arv.set Ar6 q61 q62 q63 q64 q65 (fits_nar_char _) W6 0 rfl (Nat.le_of_ble_eq_true rfl)
    have V_b5 : Arv Z h6 b5 k5 .char (2 : Int32) [(.int (nar .char (xa.toInt32))), (.int (0 : Int32))] (.int (0 : Int32)) := V_b5
    replace S_b4 := Safe.wr W6 Sq6 CR.1 S_b4
    replace CR := CR.trans (CHr.wr W6 Sq6 CR.1)
    replace hk := Nat.le_trans hk (Keep.of_wr W6).1
    replace Z0 := Nat.le_trans Z0 (Keep.of_wr W6).1
    replace O0 := O0.wr W6 g_b5
    replace E_b4 := E_b4.wr W6
    replace F_b4_value := F_b4_value.other W6 (Or.inl ne_b4_b5)
    replace F_b4_coder := F_b4_coder.other W6 (Or.inl ne_b4_b5)
    have N6 := Fr.snoc X6 N0 g_b5
    refine GoH.st (T' := T6) (pc' := 76) (L' := #[.val (.int p1), .val (.int p2), .val (.int p3), .val (.int p4), .val (.int p5), .val (.int (xa.toInt32)), .val (.int (xb.toInt32)), .val (.int (1 : Int32)), .unset, .unset, .unset, .unset, .unset, .unset, .unset]) (S' := [(.ref b5), (.ref b4), (.ref b4)]) st6 ?_
    refine GoH.st (T' := T6) (pc' := 77) (L' := #[.val (.int p1), .val (.int p2), .val (.int p3), .val (.int p4), .val (.int p5), .val (.int (xa.toInt32)), .val (.int (xb.toInt32)), .val (.int (1 : Int32)), .unset, .unset, .unset, .unset, .unset, .unset, .unset]) (S' := [(.ref b5), (.ref b5), (.ref b4), (.ref b4)]) (fun t_ k_ => XS.dup X6.here hx rfl (hb hby at_76) rfl rfl k_) ?_
    refine GoH.st (T' := T6) (pc' := 78) (L' := #[.val (.int p1), .val (.int p2), .val (.int p3), .val (.int p4), .val (.int p5), .val (.int (xa.toInt32)), .val (.int (xb.toInt32)), .val (.int (1 : Int32)), .unset, .unset, .unset, .unset, .unset, .unset, .unset]) (S' := [(.int (1 : Int32)), (.ref b5), (.ref b5), (.ref b4), (.ref b4)]) (fun t_ k_ => XS.iconst X6.here hx rfl (hb hby at_77) k_) ?_
    refine GoH.st (T' := T6) (pc' := 80) (L' := #[.val (.int p1), .val (.int p2), .val (.int p3), .val (.int p4), .val (.int p5), .val (.int (xa.toInt32)), .val (.int (xb.toInt32)), .val (.int (1 : Int32)), .unset, .unset, .unset, .unset, .unset, .unset, .unset]) (S' := [(.int (xb.toInt32)), (.int (1 : Int32)), (.ref b5), (.ref b5), (.ref b4), (.ref b4)]) (fun t_ k_ => XS.iload X6.here hx rfl (hb hby at_78) rfl  k_) ?_
    have Sq8 : Safe Z EL vm0 h6 b5 := (own_safeV hZ.alike V_b5 (by decide))
    obtain ⟨cl8, Ar8, q81, q82, q83, q84, q85⟩ := V_b5
    obtain ⟨T8, h8, X8, e8, W8, st8⟩ := stC X6 hx hZ e6 Ar8 (j := (1 : Int32)) (inb_of q82 ⟨by decide, by decide⟩) (g := (mkF m 80 #[.val (.int p1), .val (.int p2), .val (.int p3), .val (.int p4), .val (.int p5), .val (.int (xa.toInt32)), .val (.int (xb.toInt32)), .val (.int (1 : Int32)), .unset, .unset, .unset, .unset, .unset, .unset, .unset] [(.int (xb.toInt32)), (.int (1 : Int32)), (.ref b5), (.ref b5), (.ref b4), (.ref b4)])) rfl rfl (hb hby at_80)
    replace V_b5 := Arv.set Ar8 q81 q82 q83 q84 q85 (fits_nar_char _) W8 1 rfl (Nat.le_of_ble_eq_true rfl)
    have V_b5 : Arv Z h8 b5 k5 .char (2 : Int32) [(.int (nar .char (xa.toInt32))), (.int (nar .char (xb.toInt32)))] (.int (0 : Int32)) := V_b5
    replace S_b4 := Safe.wr W8 Sq8 CR.1 S_b4
    replace CR := CR.trans (CHr.wr W8 Sq8 CR.1)
    replace hk := Nat.le_trans hk (Keep.of_wr W8).1
    replace Z0 := Nat.le_trans Z0 (Keep.of_wr W8).1
    replace O0 := O0.wr W8 g_b5
    replace E_b4 := E_b4.wr W8
    replace F_b4_value := F_b4_value.other W8 (Or.inl ne_b4_b5)
    replace F_b4_coder := F_b4_coder.other W8 (Or.inl ne_b4_b5)
    have N8 := Fr.snoc X8 N6 g_b5
    refine GoH.st (T' := T8) (pc' := 81) (L' := #[.val (.int p1), .val (.int p2), .val (.int p3), .val (.int p4), .val (.int p5), .val (.int (xa.toInt32)), .val (.int (xb.toInt32)), .val (.int (1 : Int32)), .unset, .unset, .unset, .unset, .unset, .unset, .unset]) (S' := [(.ref b5), (.ref b4), (.ref b4)]) st8 ?_
    have hws10 : ∀ d ∈ StrChars.Road.words, d.before a0 Z = true := fun d hd => hw d ((by decide +kernel : ∀ d ∈ StrChars.Road.words, d ∈ tables_1) d hd)
    have hlat10 : ∀ c ∈ [(nar .char (xa.toInt32)), (nar .char (xb.toInt32))], ¬ c < 0 ∧ ¬ (255 : Int32) < c := by
      intro c hc
      simp only [List.mem_cons, List.not_mem_nil, or_false] at hc
      rcases hc with rfl | rfl
      · exact (own_byf ⟨xa, hxa⟩).1
      · exact (own_byf ⟨xb, hxb⟩).1
    obtain ⟨_, _, ⟨T10, L10, k10, n10⟩, -, X10, ⟨Lc10, hQ10, l10, y10, z10⟩, st10⟩ := X8.specialBack hx (y := (⟨"java/lang/String", "<init>", "([C)V"⟩ : MethodName)) rfl hown (mvT hZ (hw _ (List.mem_of_getElem? (i := 28) rfl))) (mvT hZ (hw _ (List.mem_of_getElem? (i := 29) rfl))) (mvT hZ (hw _ (List.mem_of_getElem? (i := 30) rfl))) (by decide) (StrChars.Road.backV (W := 1) hZ hws10 (kI := 4) (hw _ (List.mem_of_getElem? (i := 10) rfl)) (cs := [(nar .char (xa.toInt32)), (nar .char (xb.toInt32))]) (bs := [((nar .char (xa.toInt32))).toInt8.toInt32, ((nar .char (xb.toInt32))).toInt8.toInt32]) (n := 2) g_b4 Z0 E_b4 F_b4_value F_b4_coder V_b5 (SC.ext O0.2) PC rfl rfl (by decide) (by decide) hlat10 rfl (by decide) (by decide)) (g := (mkF m 81 #[.val (.int p1), .val (.int p2), .val (.int p3), .val (.int p4), .val (.int p5), .val (.int (xa.toInt32)), .val (.int (xb.toInt32)), .val (.int (1 : Int32)), .unset, .unset, .unset, .unset, .unset, .unset, .unset] [(.ref b5), (.ref b4), (.ref b4)])) rfl (by rw [hml]; rfl) (Steps.refl _) (a := b4) (argsL := [(.ref b5)]) (rest := [(.ref b4)]) (lenOf pd_20 rfl) rfl (by show 2 * 0 + _ ≤ _; exact Nat.le_of_eq rfl) (hb hby at_81) (fun _ _ => ⟨rfl, e8, (by decide : 2 + 1 ≤ _), (by decide : 6 + 2 ≤ _)⟩)
    dsimp only [Pt.U, Pt.locs, Pt.cells, Pt.slots] at X10 l10 y10 z10 st10 hQ10
    subst l10 y10 z10
    obtain ⟨rfl, N10q, K10, Ex10, Co10, t10, kb10, ta10, tb10, tc10, Va10, Ay10⟩ := hQ10
    have N10 := Fr.app N8 N10q
    have ne_b4_t10 : b4 ≠ t10 := Nat.ne_of_lt (Nat.lt_of_lt_of_le E_b4.lt tb10)
    have ne_b5_t10 : b5 ≠ t10 := Nat.ne_of_lt (Nat.lt_of_lt_of_le V_b5.lt tb10)
    obtain ⟨h10, e10⟩ : ∃ z, T10.heap = z := ⟨_, rfl⟩
    rw [e10] at K10 Ex10 Co10 Va10 Ay10
    have Sk11 : ∀ x ∈ [b4], Safe Z EL vm0 h8 x := (allS S_b4 all0)
    replace S_b4 := Safe.keep K10 Sk11 CR.1 S_b4
    replace CR := CR.trans (CHr.keep K10 Sk11 CR.1)
    replace hk := Nat.le_trans hk K10.1
    replace Z0 := Nat.le_trans Z0 K10.1
    replace O0 := O0.keep K10 (allS g_b4 all0)
    replace E_b4 := E_b4.keep K10
    replace V_b5 := V_b5.keep K10 (ninS (Ne.symm ne_b4_b5) nin0)
    have Ay10 : Arv Z h10 t10 kb10 .byte (2 : Int32) [(.int (((nar .char (xa.toInt32))).toInt8.toInt32)), (.int (((nar .char (xb.toInt32))).toInt8.toInt32))] (.int (0 : Int32)) := Ay10
    refine GoH.tr (T' := T10) (pc' := 84) (L' := #[.val (.int p1), .val (.int p2), .val (.int p3), .val (.int p4), .val (.int p5), .val (.int (xa.toInt32)), .val (.int (xb.toInt32)), .val (.int (1 : Int32)), .unset, .unset, .unset, .unset, .unset, .unset, .unset]) (S' := [(.ref b4)]) st10 ?_
    refine GoH.st (T' := T10) (pc' := 86) (L' := #[.val (.int p1), .val (.int p2), .val (.int p3), .val (.int p4), .val (.int p5), .val (.int (xa.toInt32)), .val (.int (xb.toInt32)), .val (.int (1 : Int32)), .val (.ref b4), .unset, .unset, .unset, .unset, .unset, .unset]) (S' := []) (fun t_ k_ => XS.astore X10.here hx rfl (hb hby at_84) rfl rfl (l' := #[.val (.int p1), .val (.int p2), .val (.int p3), .val (.int p4), .val (.int p5), .val (.int (xa.toInt32)), .val (.int (xb.toInt32)), .val (.int (1 : Int32)), .val (.ref b4), .unset, .unset, .unset, .unset, .unset, .unset]) rfl k_) ?_
    refine GoH.st (T' := T10) (pc' := 96) (L' := #[.val (.int p1), .val (.int p2), .val (.int p3), .val (.int p4), .val (.int p5), .val (.int (xa.toInt32)), .val (.int (xb.toInt32)), .val (.int (1 : Int32)), .val (.ref b4), .unset, .unset, .unset, .unset, .unset, .unset]) (S' := []) (fun t_ k_ => XS.goto X10.here hx rfl (pc0 := 86) (pc' := 96) rfl (hb hby at_86) (by decide) (by decide) k_) ?_
    exact seg96_2 p1 p2 p3 p4 p5 xa xb gC b4 t10 _ (Stand.up X10 (by decide) (by decide)) hx hZ hw hby hml hown hnm hret hlk e10 hs0 CR hS hk N10 SC PC O0 Z0 E_b4 Co10 Va10 Ay10 hxa hxb na1 na2 nb2

set_option maxRecDepth 65536 in
set_option maxHeartbeats 40000000 in
theorem rm0 (l : Launch) (Z : State) (a0 : Array Value) (hw : ∀ d ∈ tables_1, d.before a0 Z = true) (ws : List Jvm.Cond) (p1 : Int32) (p2 : Int32) (p3 : Int32) (p4 : Int32) (p5 : Int32) (gC : Int32) (i0 : Nat) (i1 : Nat) (h0 : Heap) (n0 : Nat) (Z0 : n0 ≤ h0.size) (SC : Sta Z Z.heap "java/lang/String" "COMPACT_STRINGS" "Z" (.int gC)) (PC : ¬ (gC = (0 : Int32))) (O0 : Old Z n0 h0) (hi0 : i0 < 256) (hi1 : i1 < 256) (e0q : (p1 &&& (255 : Int32)).toUInt32.toUInt16.toUInt32.toInt32 = i0.toInt32) (e1q : (p2 &&& (255 : Int32)).toUInt32.toUInt16.toUInt32.toInt32 = i1.toInt32) :
    MetFree l x (head1 (Jvm.Cond.code x code maxLocals ret :: ws) room_1) (fun aa_ U_ => aa_ = #[(.int p1), (.int p2), (.int p3), (.int p4), (.int p5)] ∧ Z.Warmed39 U_.vm ∧ U_.heap = h0 ∧ CHv Z EL U_.vm h0) (fun _ _ _ _ _ => True) (fun _ U_ o_ W_ => ∃ v_ L_, o_ = .returned v_ ∧ (Q0 Z  h0 n0) v_ W_.heap L_ ∧ CHr Z EL U_.vm U_.heap W_.vm W_.heap ∧ ReturnedEndW U_ o_ W_ L_ room_1.cells room_1.slots) := by
  refine own_metH (Q := (Q0 Z  h0 n0)) (L0 := #[.val (.int p1), .val (.int p2), .val (.int p3), .val (.int p4), .val (.int p5), .unset, .unset, .unset, .unset, .unset, .unset, .unset, .unset, .unset, .unset]) (plainFor_of_name pn_6) (fun m => by first | (simp [entryFrame, mkF, argsToLocals, Value.category, maxLocals]; done) | rfl) ?_
  intro p e s m below meth c T0 X0 hx hby hml hown hnm hret hlk hZ e0 hs0 CR hS hk
  have N0 := Fr.nil n0
  refine GoH.st (T' := T0) (pc' := 1) (L' := #[.val (.int p1), .val (.int p2), .val (.int p3), .val (.int p4), .val (.int p5), .unset, .unset, .unset, .unset, .unset, .unset, .unset, .unset, .unset, .unset]) (S' := [(.int p1)]) (fun t_ k_ => XS.iloadN X0.here hx rfl (hb hby at_0) rfl  k_) ?_
  refine GoH.st (T' := T0) (pc' := 4) (L' := #[.val (.int p1), .val (.int p2), .val (.int p3), .val (.int p4), .val (.int p5), .unset, .unset, .unset, .unset, .unset, .unset, .unset, .unset, .unset, .unset]) (S' := [(.int (255 : Int32)), (.int p1)]) (fun t_ k_ => XS.sipush X0.here hx rfl (hb hby at_1) k_) ?_
  refine GoH.st (T' := T0) (pc' := 5) (L' := #[.val (.int p1), .val (.int p2), .val (.int p3), .val (.int p4), .val (.int p5), .unset, .unset, .unset, .unset, .unset, .unset, .unset, .unset, .unset, .unset]) (S' := [(.int (p1 &&& (255 : Int32)))]) (fun t_ k_ => XS.iand X0.here hx rfl (hb hby at_4) rfl k_) ?_
  refine GoH.st (T' := T0) (pc' := 6) (L' := #[.val (.int p1), .val (.int p2), .val (.int p3), .val (.int p4), .val (.int p5), .unset, .unset, .unset, .unset, .unset, .unset, .unset, .unset, .unset, .unset]) (S' := [(.int ((p1 &&& (255 : Int32)).toUInt32.toUInt16.toUInt32.toInt32))]) (fun t_ k_ => XS.i2c X0.here hx rfl (hb hby at_5) rfl k_) ?_
  rw [e0q]
  refine GoH.st (T' := T0) (pc' := 8) (L' := #[.val (.int p1), .val (.int p2), .val (.int p3), .val (.int p4), .val (.int p5), .val (.int (i0.toInt32)), .unset, .unset, .unset, .unset, .unset, .unset, .unset, .unset, .unset]) (S' := []) (fun t_ k_ => XS.istore X0.here hx rfl (hb hby at_6) rfl (l' := #[.val (.int p1), .val (.int p2), .val (.int p3), .val (.int p4), .val (.int p5), .val (.int (i0.toInt32)), .unset, .unset, .unset, .unset, .unset, .unset, .unset, .unset, .unset]) rfl k_) ?_
  refine GoH.st (T' := T0) (pc' := 10) (L' := #[.val (.int p1), .val (.int p2), .val (.int p3), .val (.int p4), .val (.int p5), .val (.int (i0.toInt32)), .unset, .unset, .unset, .unset, .unset, .unset, .unset, .unset, .unset]) (S' := [(.int (i0.toInt32))]) (fun t_ k_ => XS.iload X0.here hx rfl (hb hby at_8) rfl  k_) ?_
  refine GoH.st (T' := T0) (pc' := 12) (L' := #[.val (.int p1), .val (.int p2), .val (.int p3), .val (.int p4), .val (.int p5), .val (.int (i0.toInt32)), .unset, .unset, .unset, .unset, .unset, .unset, .unset, .unset, .unset]) (S' := [(.int (45 : Int32)), (.int (i0.toInt32))]) (fun t_ k_ => XS.bipush X0.here hx rfl (hb hby at_10) k_) ?_
  by_cases hc12_1 : (i0.toInt32) = (45 : Int32)
  · refine GoH.st (T' := T0) (pc' := 22) (L' := #[.val (.int p1), .val (.int p2), .val (.int p3), .val (.int p4), .val (.int p5), .val (.int (i0.toInt32)), .unset, .unset, .unset, .unset, .unset, .unset, .unset, .unset, .unset]) (S' := []) (fun t_ k_ => XS.icmpYes X0.here hx rfl (pc0 := 12) (pc' := 22) rfl (hb hby at_12) rfl (teq hc12_1).1 (by decide) (by decide) k_) ?_
    refine GoH.st (T' := T0) (pc' := 24) (L' := #[.val (.int p1), .val (.int p2), .val (.int p3), .val (.int p4), .val (.int p5), .val (.int (i0.toInt32)), .unset, .unset, .unset, .unset, .unset, .unset, .unset, .unset, .unset]) (S' := [(.int (120 : Int32))]) (fun t_ k_ => XS.bipush X0.here hx rfl (hb hby at_22) k_) ?_
    refine GoH.st (T' := T0) (pc' := 26) (L' := #[.val (.int p1), .val (.int p2), .val (.int p3), .val (.int p4), .val (.int p5), .val (.int (120 : Int32)), .unset, .unset, .unset, .unset, .unset, .unset, .unset, .unset, .unset]) (S' := []) (fun t_ k_ => XS.istore X0.here hx rfl (hb hby at_24) rfl (l' := #[.val (.int p1), .val (.int p2), .val (.int p3), .val (.int p4), .val (.int p5), .val (.int (120 : Int32)), .unset, .unset, .unset, .unset, .unset, .unset, .unset, .unset, .unset]) rfl k_) ?_
    refine GoH.st (T' := T0) (pc' := 27) (L' := #[.val (.int p1), .val (.int p2), .val (.int p3), .val (.int p4), .val (.int p5), .val (.int (120 : Int32)), .unset, .unset, .unset, .unset, .unset, .unset, .unset, .unset, .unset]) (S' := [(.int p2)]) (fun t_ k_ => XS.iloadN X0.here hx rfl (hb hby at_26) rfl  k_) ?_
    refine GoH.st (T' := T0) (pc' := 30) (L' := #[.val (.int p1), .val (.int p2), .val (.int p3), .val (.int p4), .val (.int p5), .val (.int (120 : Int32)), .unset, .unset, .unset, .unset, .unset, .unset, .unset, .unset, .unset]) (S' := [(.int (255 : Int32)), (.int p2)]) (fun t_ k_ => XS.sipush X0.here hx rfl (hb hby at_27) k_) ?_
    refine GoH.st (T' := T0) (pc' := 31) (L' := #[.val (.int p1), .val (.int p2), .val (.int p3), .val (.int p4), .val (.int p5), .val (.int (120 : Int32)), .unset, .unset, .unset, .unset, .unset, .unset, .unset, .unset, .unset]) (S' := [(.int (p2 &&& (255 : Int32)))]) (fun t_ k_ => XS.iand X0.here hx rfl (hb hby at_30) rfl k_) ?_
    refine GoH.st (T' := T0) (pc' := 32) (L' := #[.val (.int p1), .val (.int p2), .val (.int p3), .val (.int p4), .val (.int p5), .val (.int (120 : Int32)), .unset, .unset, .unset, .unset, .unset, .unset, .unset, .unset, .unset]) (S' := [(.int ((p2 &&& (255 : Int32)).toUInt32.toUInt16.toUInt32.toInt32))]) (fun t_ k_ => XS.i2c X0.here hx rfl (hb hby at_31) rfl k_) ?_
    rw [e1q]
    refine GoH.st (T' := T0) (pc' := 34) (L' := #[.val (.int p1), .val (.int p2), .val (.int p3), .val (.int p4), .val (.int p5), .val (.int (120 : Int32)), .val (.int (i1.toInt32)), .unset, .unset, .unset, .unset, .unset, .unset, .unset, .unset]) (S' := []) (fun t_ k_ => XS.istore X0.here hx rfl (hb hby at_32) rfl (l' := #[.val (.int p1), .val (.int p2), .val (.int p3), .val (.int p4), .val (.int p5), .val (.int (120 : Int32)), .val (.int (i1.toInt32)), .unset, .unset, .unset, .unset, .unset, .unset, .unset, .unset]) rfl k_) ?_
    refine GoH.st (T' := T0) (pc' := 36) (L' := #[.val (.int p1), .val (.int p2), .val (.int p3), .val (.int p4), .val (.int p5), .val (.int (120 : Int32)), .val (.int (i1.toInt32)), .unset, .unset, .unset, .unset, .unset, .unset, .unset, .unset]) (S' := [(.int (i1.toInt32))]) (fun t_ k_ => XS.iload X0.here hx rfl (hb hby at_34) rfl  k_) ?_
    refine GoH.st (T' := T0) (pc' := 38) (L' := #[.val (.int p1), .val (.int p2), .val (.int p3), .val (.int p4), .val (.int p5), .val (.int (120 : Int32)), .val (.int (i1.toInt32)), .unset, .unset, .unset, .unset, .unset, .unset, .unset, .unset]) (S' := [(.int (61 : Int32)), (.int (i1.toInt32))]) (fun t_ k_ => XS.bipush X0.here hx rfl (hb hby at_36) k_) ?_
    by_cases hc38_2 : (i1.toInt32) = (61 : Int32)
    · refine GoH.st (T' := T0) (pc' := 41) (L' := #[.val (.int p1), .val (.int p2), .val (.int p3), .val (.int p4), .val (.int p5), .val (.int (120 : Int32)), .val (.int (i1.toInt32)), .unset, .unset, .unset, .unset, .unset, .unset, .unset, .unset]) (S' := []) (fun t_ k_ => XS.icmpNo X0.here hx rfl (hb hby at_38) rfl (teq hc38_2).2 k_) ?_
      refine GoH.st (T' := T0) (pc' := 43) (L' := #[.val (.int p1), .val (.int p2), .val (.int p3), .val (.int p4), .val (.int p5), .val (.int (120 : Int32)), .val (.int (i1.toInt32)), .unset, .unset, .unset, .unset, .unset, .unset, .unset, .unset]) (S' := [(.int (121 : Int32))]) (fun t_ k_ => XS.bipush X0.here hx rfl (hb hby at_41) k_) ?_
      refine GoH.st (T' := T0) (pc' := 45) (L' := #[.val (.int p1), .val (.int p2), .val (.int p3), .val (.int p4), .val (.int p5), .val (.int (120 : Int32)), .val (.int (121 : Int32)), .unset, .unset, .unset, .unset, .unset, .unset, .unset, .unset]) (S' := []) (fun t_ k_ => XS.istore X0.here hx rfl (hb hby at_43) rfl (l' := #[.val (.int p1), .val (.int p2), .val (.int p3), .val (.int p4), .val (.int p5), .val (.int (120 : Int32)), .val (.int (121 : Int32)), .unset, .unset, .unset, .unset, .unset, .unset, .unset, .unset]) rfl k_) ?_
      rw [show (120 : Int32) = Nat.toInt32 120 from rfl]
      rw [show (121 : Int32) = Nat.toInt32 121 from rfl]
      exact seg45 p1 p2 p3 p4 p5 120 121 gC X0 hx hZ hw hby hml hown hnm hret hlk e0 hs0 CR hS hk N0 SC PC O0 Z0 (by decide) (by decide) (by decide) (by decide) (by decide)
    · refine GoH.st (T' := T0) (pc' := 45) (L' := #[.val (.int p1), .val (.int p2), .val (.int p3), .val (.int p4), .val (.int p5), .val (.int (120 : Int32)), .val (.int (i1.toInt32)), .unset, .unset, .unset, .unset, .unset, .unset, .unset, .unset]) (S' := []) (fun t_ k_ => XS.icmpYes X0.here hx rfl (pc0 := 38) (pc' := 45) rfl (hb hby at_38) rfl (feq hc38_2).2 (by decide) (by decide) k_) ?_
      rw [show (120 : Int32) = Nat.toInt32 120 from rfl]
      exact seg45 p1 p2 p3 p4 p5 120 i1 gC X0 hx hZ hw hby hml hown hnm hret hlk e0 hs0 CR hS hk N0 SC PC O0 Z0 (by decide) hi1 (by decide) (by decide) (own_n45.2 ⟨i1, hi1⟩ hc38_2)
  · refine GoH.st (T' := T0) (pc' := 15) (L' := #[.val (.int p1), .val (.int p2), .val (.int p3), .val (.int p4), .val (.int p5), .val (.int (i0.toInt32)), .unset, .unset, .unset, .unset, .unset, .unset, .unset, .unset, .unset]) (S' := []) (fun t_ k_ => XS.icmpNo X0.here hx rfl (hb hby at_12) rfl (feq hc12_1).1 k_) ?_
    refine GoH.st (T' := T0) (pc' := 17) (L' := #[.val (.int p1), .val (.int p2), .val (.int p3), .val (.int p4), .val (.int p5), .val (.int (i0.toInt32)), .unset, .unset, .unset, .unset, .unset, .unset, .unset, .unset, .unset]) (S' := [(.int (i0.toInt32))]) (fun t_ k_ => XS.iload X0.here hx rfl (hb hby at_15) rfl  k_) ?_
    refine GoH.st (T' := T0) (pc' := 19) (L' := #[.val (.int p1), .val (.int p2), .val (.int p3), .val (.int p4), .val (.int p5), .val (.int (i0.toInt32)), .unset, .unset, .unset, .unset, .unset, .unset, .unset, .unset, .unset]) (S' := [(.int (61 : Int32)), (.int (i0.toInt32))]) (fun t_ k_ => XS.bipush X0.here hx rfl (hb hby at_17) k_) ?_
    by_cases hc19_3 : (i0.toInt32) = (61 : Int32)
    · refine GoH.st (T' := T0) (pc' := 22) (L' := #[.val (.int p1), .val (.int p2), .val (.int p3), .val (.int p4), .val (.int p5), .val (.int (i0.toInt32)), .unset, .unset, .unset, .unset, .unset, .unset, .unset, .unset, .unset]) (S' := []) (fun t_ k_ => XS.icmpNo X0.here hx rfl (hb hby at_19) rfl (teq hc19_3).2 k_) ?_
      refine GoH.st (T' := T0) (pc' := 24) (L' := #[.val (.int p1), .val (.int p2), .val (.int p3), .val (.int p4), .val (.int p5), .val (.int (i0.toInt32)), .unset, .unset, .unset, .unset, .unset, .unset, .unset, .unset, .unset]) (S' := [(.int (120 : Int32))]) (fun t_ k_ => XS.bipush X0.here hx rfl (hb hby at_22) k_) ?_
      refine GoH.st (T' := T0) (pc' := 26) (L' := #[.val (.int p1), .val (.int p2), .val (.int p3), .val (.int p4), .val (.int p5), .val (.int (120 : Int32)), .unset, .unset, .unset, .unset, .unset, .unset, .unset, .unset, .unset]) (S' := []) (fun t_ k_ => XS.istore X0.here hx rfl (hb hby at_24) rfl (l' := #[.val (.int p1), .val (.int p2), .val (.int p3), .val (.int p4), .val (.int p5), .val (.int (120 : Int32)), .unset, .unset, .unset, .unset, .unset, .unset, .unset, .unset, .unset]) rfl k_) ?_
      refine GoH.st (T' := T0) (pc' := 27) (L' := #[.val (.int p1), .val (.int p2), .val (.int p3), .val (.int p4), .val (.int p5), .val (.int (120 : Int32)), .unset, .unset, .unset, .unset, .unset, .unset, .unset, .unset, .unset]) (S' := [(.int p2)]) (fun t_ k_ => XS.iloadN X0.here hx rfl (hb hby at_26) rfl  k_) ?_
      refine GoH.st (T' := T0) (pc' := 30) (L' := #[.val (.int p1), .val (.int p2), .val (.int p3), .val (.int p4), .val (.int p5), .val (.int (120 : Int32)), .unset, .unset, .unset, .unset, .unset, .unset, .unset, .unset, .unset]) (S' := [(.int (255 : Int32)), (.int p2)]) (fun t_ k_ => XS.sipush X0.here hx rfl (hb hby at_27) k_) ?_
      refine GoH.st (T' := T0) (pc' := 31) (L' := #[.val (.int p1), .val (.int p2), .val (.int p3), .val (.int p4), .val (.int p5), .val (.int (120 : Int32)), .unset, .unset, .unset, .unset, .unset, .unset, .unset, .unset, .unset]) (S' := [(.int (p2 &&& (255 : Int32)))]) (fun t_ k_ => XS.iand X0.here hx rfl (hb hby at_30) rfl k_) ?_
      refine GoH.st (T' := T0) (pc' := 32) (L' := #[.val (.int p1), .val (.int p2), .val (.int p3), .val (.int p4), .val (.int p5), .val (.int (120 : Int32)), .unset, .unset, .unset, .unset, .unset, .unset, .unset, .unset, .unset]) (S' := [(.int ((p2 &&& (255 : Int32)).toUInt32.toUInt16.toUInt32.toInt32))]) (fun t_ k_ => XS.i2c X0.here hx rfl (hb hby at_31) rfl k_) ?_
      rw [e1q]
      refine GoH.st (T' := T0) (pc' := 34) (L' := #[.val (.int p1), .val (.int p2), .val (.int p3), .val (.int p4), .val (.int p5), .val (.int (120 : Int32)), .val (.int (i1.toInt32)), .unset, .unset, .unset, .unset, .unset, .unset, .unset, .unset]) (S' := []) (fun t_ k_ => XS.istore X0.here hx rfl (hb hby at_32) rfl (l' := #[.val (.int p1), .val (.int p2), .val (.int p3), .val (.int p4), .val (.int p5), .val (.int (120 : Int32)), .val (.int (i1.toInt32)), .unset, .unset, .unset, .unset, .unset, .unset, .unset, .unset]) rfl k_) ?_
      refine GoH.st (T' := T0) (pc' := 36) (L' := #[.val (.int p1), .val (.int p2), .val (.int p3), .val (.int p4), .val (.int p5), .val (.int (120 : Int32)), .val (.int (i1.toInt32)), .unset, .unset, .unset, .unset, .unset, .unset, .unset, .unset]) (S' := [(.int (i1.toInt32))]) (fun t_ k_ => XS.iload X0.here hx rfl (hb hby at_34) rfl  k_) ?_
      refine GoH.st (T' := T0) (pc' := 38) (L' := #[.val (.int p1), .val (.int p2), .val (.int p3), .val (.int p4), .val (.int p5), .val (.int (120 : Int32)), .val (.int (i1.toInt32)), .unset, .unset, .unset, .unset, .unset, .unset, .unset, .unset]) (S' := [(.int (61 : Int32)), (.int (i1.toInt32))]) (fun t_ k_ => XS.bipush X0.here hx rfl (hb hby at_36) k_) ?_
      by_cases hc38_4 : (i1.toInt32) = (61 : Int32)
      · refine GoH.st (T' := T0) (pc' := 41) (L' := #[.val (.int p1), .val (.int p2), .val (.int p3), .val (.int p4), .val (.int p5), .val (.int (120 : Int32)), .val (.int (i1.toInt32)), .unset, .unset, .unset, .unset, .unset, .unset, .unset, .unset]) (S' := []) (fun t_ k_ => XS.icmpNo X0.here hx rfl (hb hby at_38) rfl (teq hc38_4).2 k_) ?_
        refine GoH.st (T' := T0) (pc' := 43) (L' := #[.val (.int p1), .val (.int p2), .val (.int p3), .val (.int p4), .val (.int p5), .val (.int (120 : Int32)), .val (.int (i1.toInt32)), .unset, .unset, .unset, .unset, .unset, .unset, .unset, .unset]) (S' := [(.int (121 : Int32))]) (fun t_ k_ => XS.bipush X0.here hx rfl (hb hby at_41) k_) ?_
        refine GoH.st (T' := T0) (pc' := 45) (L' := #[.val (.int p1), .val (.int p2), .val (.int p3), .val (.int p4), .val (.int p5), .val (.int (120 : Int32)), .val (.int (121 : Int32)), .unset, .unset, .unset, .unset, .unset, .unset, .unset, .unset]) (S' := []) (fun t_ k_ => XS.istore X0.here hx rfl (hb hby at_43) rfl (l' := #[.val (.int p1), .val (.int p2), .val (.int p3), .val (.int p4), .val (.int p5), .val (.int (120 : Int32)), .val (.int (121 : Int32)), .unset, .unset, .unset, .unset, .unset, .unset, .unset, .unset]) rfl k_) ?_
        rw [show (120 : Int32) = Nat.toInt32 120 from rfl]
        rw [show (121 : Int32) = Nat.toInt32 121 from rfl]
        exact seg45 p1 p2 p3 p4 p5 120 121 gC X0 hx hZ hw hby hml hown hnm hret hlk e0 hs0 CR hS hk N0 SC PC O0 Z0 (by decide) (by decide) (by decide) (by decide) (by decide)
      · refine GoH.st (T' := T0) (pc' := 45) (L' := #[.val (.int p1), .val (.int p2), .val (.int p3), .val (.int p4), .val (.int p5), .val (.int (120 : Int32)), .val (.int (i1.toInt32)), .unset, .unset, .unset, .unset, .unset, .unset, .unset, .unset]) (S' := []) (fun t_ k_ => XS.icmpYes X0.here hx rfl (pc0 := 38) (pc' := 45) rfl (hb hby at_38) rfl (feq hc38_4).2 (by decide) (by decide) k_) ?_
        rw [show (120 : Int32) = Nat.toInt32 120 from rfl]
        exact seg45 p1 p2 p3 p4 p5 120 i1 gC X0 hx hZ hw hby hml hown hnm hret hlk e0 hs0 CR hS hk N0 SC PC O0 Z0 (by decide) hi1 (by decide) (by decide) (own_n45.2 ⟨i1, hi1⟩ hc38_4)
    · refine GoH.st (T' := T0) (pc' := 26) (L' := #[.val (.int p1), .val (.int p2), .val (.int p3), .val (.int p4), .val (.int p5), .val (.int (i0.toInt32)), .unset, .unset, .unset, .unset, .unset, .unset, .unset, .unset, .unset]) (S' := []) (fun t_ k_ => XS.icmpYes X0.here hx rfl (pc0 := 19) (pc' := 26) rfl (hb hby at_19) rfl (feq hc19_3).2 (by decide) (by decide) k_) ?_
      refine GoH.st (T' := T0) (pc' := 27) (L' := #[.val (.int p1), .val (.int p2), .val (.int p3), .val (.int p4), .val (.int p5), .val (.int (i0.toInt32)), .unset, .unset, .unset, .unset, .unset, .unset, .unset, .unset, .unset]) (S' := [(.int p2)]) (fun t_ k_ => XS.iloadN X0.here hx rfl (hb hby at_26) rfl  k_) ?_
      refine GoH.st (T' := T0) (pc' := 30) (L' := #[.val (.int p1), .val (.int p2), .val (.int p3), .val (.int p4), .val (.int p5), .val (.int (i0.toInt32)), .unset, .unset, .unset, .unset, .unset, .unset, .unset, .unset, .unset]) (S' := [(.int (255 : Int32)), (.int p2)]) (fun t_ k_ => XS.sipush X0.here hx rfl (hb hby at_27) k_) ?_
      refine GoH.st (T' := T0) (pc' := 31) (L' := #[.val (.int p1), .val (.int p2), .val (.int p3), .val (.int p4), .val (.int p5), .val (.int (i0.toInt32)), .unset, .unset, .unset, .unset, .unset, .unset, .unset, .unset, .unset]) (S' := [(.int (p2 &&& (255 : Int32)))]) (fun t_ k_ => XS.iand X0.here hx rfl (hb hby at_30) rfl k_) ?_
      refine GoH.st (T' := T0) (pc' := 32) (L' := #[.val (.int p1), .val (.int p2), .val (.int p3), .val (.int p4), .val (.int p5), .val (.int (i0.toInt32)), .unset, .unset, .unset, .unset, .unset, .unset, .unset, .unset, .unset]) (S' := [(.int ((p2 &&& (255 : Int32)).toUInt32.toUInt16.toUInt32.toInt32))]) (fun t_ k_ => XS.i2c X0.here hx rfl (hb hby at_31) rfl k_) ?_
      rw [e1q]
      refine GoH.st (T' := T0) (pc' := 34) (L' := #[.val (.int p1), .val (.int p2), .val (.int p3), .val (.int p4), .val (.int p5), .val (.int (i0.toInt32)), .val (.int (i1.toInt32)), .unset, .unset, .unset, .unset, .unset, .unset, .unset, .unset]) (S' := []) (fun t_ k_ => XS.istore X0.here hx rfl (hb hby at_32) rfl (l' := #[.val (.int p1), .val (.int p2), .val (.int p3), .val (.int p4), .val (.int p5), .val (.int (i0.toInt32)), .val (.int (i1.toInt32)), .unset, .unset, .unset, .unset, .unset, .unset, .unset, .unset]) rfl k_) ?_
      refine GoH.st (T' := T0) (pc' := 36) (L' := #[.val (.int p1), .val (.int p2), .val (.int p3), .val (.int p4), .val (.int p5), .val (.int (i0.toInt32)), .val (.int (i1.toInt32)), .unset, .unset, .unset, .unset, .unset, .unset, .unset, .unset]) (S' := [(.int (i1.toInt32))]) (fun t_ k_ => XS.iload X0.here hx rfl (hb hby at_34) rfl  k_) ?_
      refine GoH.st (T' := T0) (pc' := 38) (L' := #[.val (.int p1), .val (.int p2), .val (.int p3), .val (.int p4), .val (.int p5), .val (.int (i0.toInt32)), .val (.int (i1.toInt32)), .unset, .unset, .unset, .unset, .unset, .unset, .unset, .unset]) (S' := [(.int (61 : Int32)), (.int (i1.toInt32))]) (fun t_ k_ => XS.bipush X0.here hx rfl (hb hby at_36) k_) ?_
      by_cases hc38_5 : (i1.toInt32) = (61 : Int32)
      · refine GoH.st (T' := T0) (pc' := 41) (L' := #[.val (.int p1), .val (.int p2), .val (.int p3), .val (.int p4), .val (.int p5), .val (.int (i0.toInt32)), .val (.int (i1.toInt32)), .unset, .unset, .unset, .unset, .unset, .unset, .unset, .unset]) (S' := []) (fun t_ k_ => XS.icmpNo X0.here hx rfl (hb hby at_38) rfl (teq hc38_5).2 k_) ?_
        refine GoH.st (T' := T0) (pc' := 43) (L' := #[.val (.int p1), .val (.int p2), .val (.int p3), .val (.int p4), .val (.int p5), .val (.int (i0.toInt32)), .val (.int (i1.toInt32)), .unset, .unset, .unset, .unset, .unset, .unset, .unset, .unset]) (S' := [(.int (121 : Int32))]) (fun t_ k_ => XS.bipush X0.here hx rfl (hb hby at_41) k_) ?_
        refine GoH.st (T' := T0) (pc' := 45) (L' := #[.val (.int p1), .val (.int p2), .val (.int p3), .val (.int p4), .val (.int p5), .val (.int (i0.toInt32)), .val (.int (121 : Int32)), .unset, .unset, .unset, .unset, .unset, .unset, .unset, .unset]) (S' := []) (fun t_ k_ => XS.istore X0.here hx rfl (hb hby at_43) rfl (l' := #[.val (.int p1), .val (.int p2), .val (.int p3), .val (.int p4), .val (.int p5), .val (.int (i0.toInt32)), .val (.int (121 : Int32)), .unset, .unset, .unset, .unset, .unset, .unset, .unset, .unset]) rfl k_) ?_
        rw [show (121 : Int32) = Nat.toInt32 121 from rfl]
        exact seg45 p1 p2 p3 p4 p5 i0 121 gC X0 hx hZ hw hby hml hown hnm hret hlk e0 hs0 CR hS hk N0 SC PC O0 Z0 hi0 (by decide) (own_n45.1 ⟨i0, hi0⟩ hc12_1) (own_n45.2 ⟨i0, hi0⟩ hc19_3) (by decide)
      · refine GoH.st (T' := T0) (pc' := 45) (L' := #[.val (.int p1), .val (.int p2), .val (.int p3), .val (.int p4), .val (.int p5), .val (.int (i0.toInt32)), .val (.int (i1.toInt32)), .unset, .unset, .unset, .unset, .unset, .unset, .unset, .unset]) (S' := []) (fun t_ k_ => XS.icmpYes X0.here hx rfl (pc0 := 38) (pc' := 45) rfl (hb hby at_38) rfl (feq hc38_5).2 (by decide) (by decide) k_) ?_
        exact seg45 p1 p2 p3 p4 p5 i0 i1 gC X0 hx hZ hw hby hml hown hnm hret hlk e0 hs0 CR hS hk N0 SC PC O0 Z0 hi0 hi1 (own_n45.1 ⟨i0, hi0⟩ hc12_1) (own_n45.2 ⟨i0, hi0⟩ hc19_3) (own_n45.2 ⟨i1, hi1⟩ hc38_5)
theorem own_sub : ∀ q ∈ EL, q ∈ consts_1 := by decide
set_option maxRecDepth 65536 in
set_option maxHeartbeats 40000000 in
theorem comes_1 {Post : Tables → Env → Array Value → State → Outcome → State → Prop} (hpost : ∀ tb e args s v u, (limb_1_1.after args s (.returned v) u = true ∧ limb_1_2.after args s (.returned v) u = true ∧ True) → Jvm.D.FramedW s (.returned v) u (Jvm.fieldLocs frame_1_writes args s ++ Jvm.arrayLocs frame_1_arrays args s ++ Jvm.staticLocs frame_1_statics s) 40 6336 → Post tb e args s (.returned v) u) :
    ArmFor flags0 classFile x code maxLocals ret World_1 tables_1 room_1 Calls_1 rest_1 Pre_1 Post := by
  intro l hfl _ _ p e ha hc hk s m args below hf hA hF happ hP
  obtain ⟨hcalls, hrest, hpre⟩ := hP
  obtain ⟨-, -, -, hnamed, -, -, -, hat⟩ := (Spec.applies_iff hf).mp happ
  obtain ⟨hg, hn⟩ := and_e (Cond.before_iff.mp (show (Jvm.Cond.and given_1 narrow_1).before args s = true from hpre))
  obtain ⟨gc, gr0⟩ := and_e hg
  obtain ⟨ga0, gr1⟩ := and_e gr0
  obtain ⟨ga1, gr2⟩ := and_e gr1
  obtain ⟨ga2, gr3⟩ := and_e gr2
  obtain ⟨ga3, gr4⟩ := and_e gr3
  have ga4 := gr4
  obtain ⟨w0, w1, w2, w3, w4, rfl⟩ : ∃ w0 w1 w2 w3 w4 : Value, args = #[w0, w1, w2, w3, w4] := by
    have hs : args.size = 5 := by simpa [Cond.value, given_1] using gc
    obtain ⟨L⟩ := args
    match L, hs with
    | [w0, w1, w2, w3, w4], _ => exact ⟨w0, w1, w2, w3, w4, rfl⟩
  have hw := fun d (hd : d ∈ tables_1) => atoms_spec (ws := Jvm.Cond.code x code maxLocals ret :: tables_1) hat d (List.mem_cons_of_mem _ hd)
  have hfit : Fit s := fun {y c} hc i hi => by
    obtain ⟨ha, rfl⟩ := Array.getElem?_eq_some_iff.mp hc
    have q := List.all_eq_true.mp ((Array.all_eq_true_iff_forall_mem.mp hF) _ (Array.getElem_mem ha)) i (List.mem_range.mpr hi)
    simpa [Array.getElem?_eq_getElem hi] using q
  obtain ⟨hsets, hown0⟩ := atoms_of _ (rest_1_c_eq ▸ (show rest_1_c.before _ s = true from hrest))
  obtain ⟨i0, ei0⟩ := is_v ga0
  obtain rfl : w0 = (.int i0) := Option.some.inj ei0
  obtain ⟨i1, ei1⟩ := is_v ga1
  obtain rfl : w1 = (.int i1) := Option.some.inj ei1
  obtain ⟨i2, ei2⟩ := is_v ga2
  obtain rfl : w2 = (.int i2) := Option.some.inj ei2
  obtain ⟨i3, ei3⟩ := is_v ga3
  obtain rfl : w3 = (.int i3) := Option.some.inj ei3
  obtain ⟨i4, ei4⟩ := is_v ga4
  obtain rfl : w4 = (.int i4) := Option.some.inj ei4
  have nc0 := not_v (Cond.before_iff.mp (hsets _ (List.mem_of_getElem? (i := 2) rfl)))
  obtain ⟨gC, eC⟩ := is_v (Cond.before_iff.mp (hsets _ (List.mem_of_getElem? (i := 1) rfl)))
  have SC : Sta s s.heap "java/lang/String" "COMPACT_STRINGS" "Z" (.int gC) := Sta.start eC (Or.inl (hsets _ (List.mem_of_getElem? (i := 0) rfl)))
  have PC : ¬ (gC = (0 : Int32)) := gotF (Cond.eq_ints eC (Term.int_eval (0))) nc0
  obtain ⟨j0, hj0, ej0⟩ := own_m255 i0
  obtain ⟨j1, hj1, ej1⟩ := own_m255 i1
  have hH0 : CHv s EL s.vm s.heap := CHv.start (own_EW hw) (fun q hq => hcalls.1 q (own_sub q hq)) (hsets _ (List.mem_of_getElem? (i := 2) rfl)) (own_wS hw _ (by simp [Bundle.stringAtoms])) (own_wS hw _ (by simp [Bundle.stringAtoms, Bundle.sN]))
  obtain ⟨n, o, h1, h2, h3, _, L, rfl, ⟨rfl, N⟩, -, hq⟩ := rm0 l s _ hw tables_1 i0 i1 i2 i3 i4 gC j0 j1 s.heap s.heap.size (Nat.le_refl _) SC PC (Old.start s) hj0 hj1 ej0 ej1 p e ha hc hk s m _ below hf ((Spec.applies_iff_loose hf).mp happ).1 ⟨rfl, State.Warmed39.refl s, rfl, hH0⟩ trivial
  refine ⟨n, _, h1, h2, h3, hpost _ _ _ _ _ _ ⟨Cond.after_iff.mpr rfl, Cond.after_iff.mpr (eq_i res_at (Term.int_eval (1)) rfl), trivial⟩ ⟨hq.1, hq.2.1, hq.2.2.1, (hq.2.2.2.sift fun y hy => Or.inr (N y hy)).mono (by decide) (by decide)⟩⟩
theorem main_1_1 : Claimed_1_1 := comes_1 fun _ _ _ _ _ _ h hF => ⟨h.1, hF⟩
theorem main_1_2 : Claimed_1_2 := comes_1 fun _ _ _ _ _ _ h hF => ⟨h.2.1, hF⟩
end Jvm.Pilot.@@N@@
namespace Jvm.Pilot.@@N@@
open Jvm Jvm.ClassFile Sem Op Lib Jvm.Free Jvm.Stand Jvm.Pilot.@@N@@.Jvm.D
/-! MADE BY PROGRAM (witnessworld.py) out of the Statement's table words and the real class files: 22 classes; the members and pool entries that the words name. The judged class is class 1, her method 1. -/
namespace start1
open Jvm.ClassFile
def u (s : String) : CpInfo := .utf8 (stringToUtf16 s)
/-- a pool by its gaps: so many unusable entries, then the entry; so many at the end -/
def gap : Nat → List CpInfo → List CpInfo
  | 0, r => r
  | n + 1, r => .unusable :: gap n r
def poolList (es : List (Nat × CpInfo)) (last : Nat) : List CpInfo := es.foldr (fun e r => gap e.1 (e.2 :: r)) (gap last [])
def pool (es : List (Nat × CpInfo)) (last : Nat) : Array CpInfo := ⟨poolList es last⟩
def fileOf (pool : Array CpInfo) (this : Nat) (attrs : Array Attribute := #[]) (ms : Array MethodInfo := #[]) (fl : Nat := 33) (sup : Nat := 0) (ifs : Array Nat := #[]) (fds : Array FieldInfo := #[]) : ClassFile where
  minorVersion := 0
  majorVersion := 65
  constantPool := pool
  accessFlags := fl
  thisClass := this
  superClass := sup
  interfaces := ifs
  fields := fds
  methods := ms
  attributes := attrs
def plain (name : String) (sup : Option ClassId) : Class where
  name := name
  kind := .ordinary
  loader := none
  accessFlags := 33
  super := sup
  interfaces := #[]
  cf := none
  fields := #[]
  methods := #[]
  instanceTypes := #[]
  staticTypes := #[]
  resolved := #[]
  callSites := []
  init := .initialized
  statics := none
  mirror := none

def pool0 : Array CpInfo := pool [(5, u "<init>"), (0, u "()V"), (1, .class_ 10), (1, u "java/lang/Object")] 113

def k0c0 : Code := { maxStack := 0, maxLocals := 1, code := object_method_1_code, exceptionTable := #[], attributes := #[] }
def k0m0 : Method := { name := "<init>", desc := "()V", sig := { parameters := [], returnType := none }, accessFlags := 1, code := some k0c0 }
/-- java/lang/Object -/
def k0 : Class := { plain "java/lang/Object" none with
  accessFlags := 33
  interfaces := #[]
  cf := some (fileOf pool0 8 #[] #[{ accessFlags := 1, nameIndex := 5, descriptorIndex := 6, attributes := #[] }] 33 0 #[] #[])
  fields := #[]
  methods := #[k0m0]
  instanceTypes := #[]
  staticTypes := #[]
  resolved := Array.replicate 124 none
  statics := none }

def pool1 : Array CpInfo := pool [(2, .class_ 4), (1, u "java/lang/Object"), (0, u "<init>"), (0, u "()V"), (0, .class_ 8), (0, u "java/lang/String"), (0, .methodref 7 10), (0, .nameAndType 5 11), (0, u "([C)V"), (0, .methodref 7 13), (0, .nameAndType 14 15), (0, u "valueOf"), (0, u "(C)Ljava/lang/String;"), (0, .class_ 17), (0, u "com/example/placewright/placewright/cli/Option"), (0, .methodref 16 19), (0, .nameAndType 5 20), (0, u "(Ljava/lang/String;Ljava/lang/String;ZZLjava/lang/String;)V"), (0, .methodref 16 22), (0, .nameAndType 23 24), (0, u "takesValue"), (0, u "()Z"), (0, .class_ 26), (0, u "com/example/placewright/placewright/cli/OptionTakesValuePinLaw"), (2, u "law"), (0, u "(IIIII)Z")] 3

def k1m0 : Method := { name := "<init>", desc := "()V", sig := { parameters := [], returnType := none }, accessFlags := 1, code := none }
def k1c1 : Code := { maxStack := 7, maxLocals := 15, code := code, exceptionTable := #[], attributes := #[] }
def k1m1 : Method := { name := "law", desc := "(IIIII)Z", sig := { parameters := [.int, .int, .int, .int, .int], returnType := some .boolean }, accessFlags := 9, code := some k1c1 }
/-- com/example/placewright/placewright/cli/OptionTakesValuePinLaw -/
def k1 : Class := { plain "com/example/placewright/placewright/cli/OptionTakesValuePinLaw" (some 0) with
  accessFlags := 49
  interfaces := #[]
  cf := some (fileOf pool1 25 #[] #[{ accessFlags := 1, nameIndex := 5, descriptorIndex := 6, attributes := #[] }, { accessFlags := 9, nameIndex := 29, descriptorIndex := 30, attributes := #[] }] 49 2 #[] #[])
  fields := #[]
  methods := #[k1m0, k1m1]
  instanceTypes := #[]
  staticTypes := #[]
  resolved := Array.replicate 34 none
  statics := none }

def pool2 : Array CpInfo := pool [(1, .class_ 2), (0, u "java/io/Serializable"), (0, .class_ 4), (0, u "java/lang/Object")] 2

/-- java/io/Serializable -/
def k2 : Class := { plain "java/io/Serializable" (some 0) with
  accessFlags := 1537
  interfaces := #[]
  cf := some (fileOf pool2 1 #[] #[] 1537 3 #[] #[])
  fields := #[]
  methods := #[]
  instanceTypes := #[]
  staticTypes := #[]
  resolved := Array.replicate 7 none
  statics := none }

def pool3 : Array CpInfo := pool [(1, .class_ 2), (0, u "java/lang/Comparable"), (0, .class_ 4), (0, u "java/lang/Object")] 7

/-- java/lang/Comparable -/
def k3 : Class := { plain "java/lang/Comparable" (some 0) with
  accessFlags := 1537
  interfaces := #[]
  cf := some (fileOf pool3 1 #[] #[] 1537 3 #[] #[])
  fields := #[]
  methods := #[]
  instanceTypes := #[]
  staticTypes := #[]
  resolved := Array.replicate 12 none
  statics := none }

def pool4 : Array CpInfo := pool [(2, .class_ 4), (1, u "java/lang/CharSequence"), (42, .class_ 48), (0, u "java/lang/CharSequence$1CodePointIterator"), (10, .class_ 60), (0, u "java/lang/CharSequence$1CharIterator"), (5, .class_ 67), (0, u "java/lang/Object"), (10, u "toString"), (0, u "()Ljava/lang/String;")] 51

def k4m0 : Method := { name := "toString", desc := "()Ljava/lang/String;", sig := { parameters := [], returnType := some (.object "java/lang/String") }, accessFlags := 1025, code := none }
/-- java/lang/CharSequence -/
def k4 : Class := { plain "java/lang/CharSequence" (some 0) with
  accessFlags := 1537
  interfaces := #[]
  cf := some (fileOf pool4 2 #[.nestMembers #[47, 59]] #[{ accessFlags := 1025, nameIndex := 78, descriptorIndex := 79, attributes := #[] }] 1537 66 #[] #[])
  fields := #[]
  methods := #[k4m0]
  instanceTypes := #[]
  staticTypes := #[]
  resolved := Array.replicate 131 none
  statics := none }

def pool5 : Array CpInfo := pool [(1, .class_ 2), (0, u "java/lang/constant/Constable"), (0, .class_ 4), (0, u "java/lang/Object")] 6

/-- java/lang/constant/Constable -/
def k5 : Class := { plain "java/lang/constant/Constable" (some 0) with
  accessFlags := 1537
  interfaces := #[]
  cf := some (fileOf pool5 1 #[] #[] 1537 3 #[] #[])
  fields := #[]
  methods := #[]
  instanceTypes := #[]
  staticTypes := #[]
  resolved := Array.replicate 11 none
  statics := none }

def pool6 : Array CpInfo := pool [(1, .class_ 2), (0, u "java/lang/constant/ConstantDesc"), (0, .class_ 4), (0, u "java/lang/Object")] 32

/-- java/lang/constant/ConstantDesc -/
def k6 : Class := { plain "java/lang/constant/ConstantDesc" (some 0) with
  accessFlags := 1537
  interfaces := #[]
  cf := some (fileOf pool6 1 #[] #[] 1537 3 #[] #[])
  fields := #[]
  methods := #[]
  instanceTypes := #[]
  staticTypes := #[]
  resolved := Array.replicate 37 none
  statics := none }

def pool7 : Array CpInfo := pool [(1, .methodref 2 3), (0, .class_ 4), (0, .nameAndType 5 6), (0, u "java/lang/Object"), (0, u "<init>"), (0, u "()V"), (0, .string 8), (0, u ""), (0, .fieldref 10 11), (0, .class_ 12), (0, .nameAndType 13 14), (0, u "java/lang/String"), (0, u "value"), (0, u "[B"), (0, .fieldref 10 16), (0, .nameAndType 17 18), (0, u "coder"), (0, u "B"), (2, u "hash"), (0, u "I"), (2, u "hashIsZero"), (0, u "Z"), (0, .methodref 10 28), (0, .nameAndType 5 29), (0, u "([CIILjava/lang/Void;)V"), (8, .fieldref 10 39), (0, .nameAndType 40 26), (0, u "COMPACT_STRINGS"), (1, .class_ 44), (1, u "java/lang/StringUTF16"), (0, u "compress"), (1, .methodref 42 48), (0, .nameAndType 49 50), (0, u "coderFromArrayLen"), (0, u "([BI)B"), (2, u "toBytes"), (53, .class_ 109), (1, u "java/lang/StringLatin1"), (32, u "()Z"), (34, .methodref 42 178), (0, .nameAndType 45 179), (0, u "([CII)[B"), (29, .methodref 10 210), (0, .nameAndType 5 211), (0, u "([BB)V"), (122, u "()I"), (0, .methodref 10 336), (0, .nameAndType 17 337), (0, u "()B"), (31, u "(C)Z"), (6, u "([BI[BII)I"), (85, .nameAndType 463 464), (0, u "toString"), (0, u "()Ljava/lang/String;"), (27, .methodref 10 493), (0, .nameAndType 494 142), (0, u "isLatin1"), (10, .methodref 10 506), (0, .nameAndType 507 334), (0, u "length"), (33, .methodref 107 542), (0, .nameAndType 543 544), (0, u "equals"), (0, u "([B[B)Z"), (3, u "(Ljava/lang/CharSequence;)Z"), (10, .class_ 561), (1, u "jdk/internal/util/ArraysSupport"), (0, u "mismatch"), (10, u "(Ljava/lang/Object;)Z"), (1, .class_ 576), (0, u "java/lang/CharSequence"), (12, u "([B[B)I"), (9, u "CASE_INSENSITIVE_ORDER"), (0, u "Ljava/util/Comparator;"), (6, .methodref 559 608), (0, .nameAndType 562 376), (15, .methodref 10 625), (0, .nameAndType 626 627), (0, u "startsWith"), (0, u "(Ljava/lang/String;I)Z"), (7, u "indexOf"), (11, .methodref 107 648), (0, .nameAndType 635 589), (43, u "isEmpty"), (17, .interfaceMethodref 575 462), (0, .methodref 10 712), (0, .nameAndType 635 713), (0, u "(Ljava/lang/String;)I"), (68, u "valueOf"), (0, u "(C)Ljava/lang/String;"), (226, u "([C)V"), (4, .methodref 107 1016), (0, .nameAndType 1017 369), (0, u "canEncode"), (0, .methodref 107 1019), (0, .nameAndType 53 1020), (0, u "(C)[B"), (80, u "serialPersistentFields"), (0, u "[Ljava/io/ObjectStreamField;"), (0, .class_ 1104), (0, u "java/lang/String$CaseInsensitiveComparator"), (1, .class_ 1107), (0, u "java/io/Serializable"), (0, .class_ 1109), (0, u "java/lang/Comparable"), (0, .class_ 1111), (0, u "java/lang/constant/Constable"), (0, .class_ 1113), (0, u "java/lang/constant/ConstantDesc"), (2, u "serialVersionUID"), (0, u "J"), (3, u "REPL"), (0, u "C"), (2, u "LATIN1"), (1, u "UTF16"), (129, u "(Ljava/lang/String;)Z"), (33, u "contains")] 159

def k7m0 : Method := { name := "<init>", desc := "()V", sig := { parameters := [], returnType := none }, accessFlags := 1, code := none }
def k7c1 : Code := { maxStack := 5, maxLocals := 2, code := jdk_42_method_3_code, exceptionTable := #[], attributes := #[] }
def k7m1 : Method := { name := "<init>", desc := "([C)V", sig := { parameters := [(.array .char)], returnType := none }, accessFlags := 1, code := some k7c1 }
def k7c2 : Code := { maxStack := 2, maxLocals := 1, code := jdk_42_method_54_code, exceptionTable := #[], attributes := #[] }
def k7m2 : Method := { name := "length", desc := "()I", sig := { parameters := [], returnType := some .int }, accessFlags := 1, code := some k7c2 }
def k7c3 : Code := { maxStack := 1, maxLocals := 1, code := jdk_42_method_55_code, exceptionTable := #[], attributes := #[] }
def k7m3 : Method := { name := "isEmpty", desc := "()Z", sig := { parameters := [], returnType := some .boolean }, accessFlags := 1, code := some k7c3 }
def k7c4 : Code := { maxStack := 2, maxLocals := 3, code := jdk_42_method_66_code, exceptionTable := #[], attributes := #[] }
def k7m4 : Method := { name := "equals", desc := "(Ljava/lang/Object;)Z", sig := { parameters := [(.object "java/lang/Object")], returnType := some .boolean }, accessFlags := 1, code := some k7c4 }
def k7c5 : Code := { maxStack := 5, maxLocals := 8, code := jdk_42_method_75_code, exceptionTable := #[], attributes := #[] }
def k7m5 : Method := { name := "startsWith", desc := "(Ljava/lang/String;I)Z", sig := { parameters := [(.object "java/lang/String"), .int], returnType := some .boolean }, accessFlags := 1, code := some k7c5 }
def k7c6 : Code := { maxStack := 3, maxLocals := 2, code := jdk_42_method_76_code, exceptionTable := #[], attributes := #[] }
def k7m6 : Method := { name := "startsWith", desc := "(Ljava/lang/String;)Z", sig := { parameters := [(.object "java/lang/String")], returnType := some .boolean }, accessFlags := 1, code := some k7c6 }
def k7c7 : Code := { maxStack := 2, maxLocals := 3, code := jdk_42_method_84_code, exceptionTable := #[], attributes := #[] }
def k7m7 : Method := { name := "indexOf", desc := "(Ljava/lang/String;)I", sig := { parameters := [(.object "java/lang/String")], returnType := some .int }, accessFlags := 1, code := some k7c7 }
def k7c8 : Code := { maxStack := 2, maxLocals := 2, code := jdk_42_method_97_code, exceptionTable := #[], attributes := #[] }
def k7m8 : Method := { name := "contains", desc := "(Ljava/lang/CharSequence;)Z", sig := { parameters := [(.object "java/lang/CharSequence")], returnType := some .boolean }, accessFlags := 1, code := some k7c8 }
def k7c9 : Code := { maxStack := 1, maxLocals := 1, code := jdk_42_method_126_code, exceptionTable := #[], attributes := #[] }
def k7m9 : Method := { name := "toString", desc := "()Ljava/lang/String;", sig := { parameters := [], returnType := some (.object "java/lang/String") }, accessFlags := 1, code := some k7c9 }
def k7c10 : Code := { maxStack := 4, maxLocals := 1, code := jdk_42_method_139_code, exceptionTable := #[], attributes := #[] }
def k7m10 : Method := { name := "valueOf", desc := "(C)Ljava/lang/String;", sig := { parameters := [.char], returnType := some (.object "java/lang/String") }, accessFlags := 9, code := some k7c10 }
def k7c11 : Code := { maxStack := 4, maxLocals := 6, code := jdk_42_method_149_code, exceptionTable := #[], attributes := #[] }
def k7m11 : Method := { name := "<init>", desc := "([CIILjava/lang/Void;)V", sig := { parameters := [(.array .char), .int, .int, (.object "java/lang/Void")], returnType := none }, accessFlags := 2, code := some k7c11 }
def k7c12 : Code := { maxStack := 2, maxLocals := 3, code := jdk_42_method_151_code, exceptionTable := #[], attributes := #[] }
def k7m12 : Method := { name := "<init>", desc := "([BB)V", sig := { parameters := [(.array .byte), .byte], returnType := none }, accessFlags := 0, code := some k7c12 }
def k7c13 : Code := { maxStack := 1, maxLocals := 1, code := jdk_42_method_152_code, exceptionTable := #[], attributes := #[] }
def k7m13 : Method := { name := "coder", desc := "()B", sig := { parameters := [], returnType := some .byte }, accessFlags := 0, code := some k7c13 }
def k7c14 : Code := { maxStack := 1, maxLocals := 1, code := jdk_42_method_154_code, exceptionTable := #[], attributes := #[] }
def k7m14 : Method := { name := "isLatin1", desc := "()Z", sig := { parameters := [], returnType := some .boolean }, accessFlags := 0, code := some k7c14 }
/-- java/lang/String -/
def k7 : Class := { plain "java/lang/String" (some 0) with
  accessFlags := 49
  interfaces := #[2, 3, 4, 5, 6]
  cf := some (fileOf pool7 10 #[.nestMembers #[1103]] #[{ accessFlags := 1, nameIndex := 5, descriptorIndex := 6, attributes := #[] }, { accessFlags := 1, nameIndex := 5, descriptorIndex := 1010, attributes := #[] }, { accessFlags := 1, nameIndex := 507, descriptorIndex := 334, attributes := #[] }, { accessFlags := 1, nameIndex := 692, descriptorIndex := 142, attributes := #[] }, { accessFlags := 1, nameIndex := 543, descriptorIndex := 573, attributes := #[] }, { accessFlags := 1, nameIndex := 626, descriptorIndex := 627, attributes := #[] }, { accessFlags := 1, nameIndex := 626, descriptorIndex := 1257, attributes := #[] }, { accessFlags := 1, nameIndex := 635, descriptorIndex := 713, attributes := #[] }, { accessFlags := 1, nameIndex := 1291, descriptorIndex := 548, attributes := #[] }, { accessFlags := 1, nameIndex := 463, descriptorIndex := 464, attributes := #[] }, { accessFlags := 9, nameIndex := 782, descriptorIndex := 783, attributes := #[] }, { accessFlags := 2, nameIndex := 5, descriptorIndex := 29, attributes := #[] }, { accessFlags := 0, nameIndex := 5, descriptorIndex := 211, attributes := #[] }, { accessFlags := 0, nameIndex := 17, descriptorIndex := 337, attributes := #[] }, { accessFlags := 0, nameIndex := 494, descriptorIndex := 142, attributes := #[] }] 49 2 #[1106, 1108, 575, 1110, 1112] #[{ accessFlags := 18, nameIndex := 13, descriptorIndex := 14, attributes := #[] }, { accessFlags := 18, nameIndex := 17, descriptorIndex := 18, attributes := #[] }, { accessFlags := 2, nameIndex := 21, descriptorIndex := 22, attributes := #[] }, { accessFlags := 2, nameIndex := 25, descriptorIndex := 26, attributes := #[] }, { accessFlags := 26, nameIndex := 1116, descriptorIndex := 1117, attributes := #[] }, { accessFlags := 24, nameIndex := 40, descriptorIndex := 26, attributes := #[] }, { accessFlags := 26, nameIndex := 1101, descriptorIndex := 1102, attributes := #[] }, { accessFlags := 26, nameIndex := 1121, descriptorIndex := 1122, attributes := #[] }, { accessFlags := 25, nameIndex := 599, descriptorIndex := 600, attributes := #[] }, { accessFlags := 24, nameIndex := 1125, descriptorIndex := 18, attributes := #[] }, { accessFlags := 24, nameIndex := 1127, descriptorIndex := 18, attributes := #[] }])
  fields := #[{ name := "value", type := (.array .byte), accessFlags := 18, slot := 0, constantValue := 0 }, { name := "coder", type := .byte, accessFlags := 18, slot := 1, constantValue := 0 }, { name := "hash", type := .int, accessFlags := 2, slot := 2, constantValue := 0 }, { name := "hashIsZero", type := .boolean, accessFlags := 2, slot := 3, constantValue := 0 }, { name := "serialVersionUID", type := .long, accessFlags := 26, slot := 0, constantValue := 0 }, { name := "COMPACT_STRINGS", type := .boolean, accessFlags := 24, slot := 1, constantValue := 0 }, { name := "serialPersistentFields", type := (.array (.object "java/io/ObjectStreamField")), accessFlags := 26, slot := 2, constantValue := 0 }, { name := "REPL", type := .char, accessFlags := 26, slot := 3, constantValue := 0 }, { name := "CASE_INSENSITIVE_ORDER", type := (.object "java/util/Comparator"), accessFlags := 25, slot := 4, constantValue := 0 }, { name := "LATIN1", type := .byte, accessFlags := 24, slot := 5, constantValue := 0 }, { name := "UTF16", type := .byte, accessFlags := 24, slot := 6, constantValue := 0 }]
  methods := #[k7m0, k7m1, k7m2, k7m3, k7m4, k7m5, k7m6, k7m7, k7m8, k7m9, k7m10, k7m11, k7m12, k7m13, k7m14]
  instanceTypes := #[(.array .byte), .byte, .int, .boolean]
  staticTypes := #[.long, .boolean, (.array (.object "java/io/ObjectStreamField")), .char, (.object "java/util/Comparator"), .byte, .byte]
  resolved := Array.replicate 1451 none
  statics := some 0 }

def pool8 : Array CpInfo := pool [(4, .class_ 6), (1, u "java/lang/Object"), (0, u "<init>"), (0, u "()V"), (5, .class_ 16), (1, u "java/lang/StringLatin1"), (73, u "canEncode"), (8, .methodref 14 100), (0, .nameAndType 101 102), (0, u "indexOf"), (0, u "([BI[BII)I"), (2, u "(C)Z"), (15, u "$assertionsDisabled"), (0, u "Z"), (98, .class_ 223), (1, u "java/lang/StringLatin1$LinesSpliterator"), (57, u "equals"), (0, u "([B[B)Z"), (4, u "([B[B)I"), (92, u "toBytes"), (1, u "(C)[B"), (7, .class_ 391), (0, u "java/lang/StringLatin1$CharsSpliterator")] 3

def k8m0 : Method := { name := "<init>", desc := "()V", sig := { parameters := [], returnType := none }, accessFlags := 0, code := none }
def k8c1 : Code := { maxStack := 2, maxLocals := 1, code := jdk_43_method_3_code, exceptionTable := #[], attributes := #[] }
def k8m1 : Method := { name := "canEncode", desc := "(C)Z", sig := { parameters := [.char], returnType := some .boolean }, accessFlags := 9, code := some k8c1 }
def k8c2 : Code := { maxStack := 3, maxLocals := 3, code := jdk_43_method_13_code, exceptionTable := #[], attributes := #[] }
def k8m2 : Method := { name := "equals", desc := "([B[B)Z", sig := { parameters := [(.array .byte), (.array .byte)], returnType := some .boolean }, accessFlags := 9, code := some k8c2 }
def k8c3 : Code := { maxStack := 5, maxLocals := 2, code := jdk_43_method_24_code, exceptionTable := #[], attributes := #[] }
def k8m3 : Method := { name := "indexOf", desc := "([B[B)I", sig := { parameters := [(.array .byte), (.array .byte)], returnType := some .int }, accessFlags := 9, code := some k8c3 }
def k8c4 : Code := { maxStack := 3, maxLocals := 11, code := jdk_43_method_25_code, exceptionTable := #[], attributes := #[] }
def k8m4 : Method := { name := "indexOf", desc := "([BI[BII)I", sig := { parameters := [(.array .byte), .int, (.array .byte), .int, .int], returnType := some .int }, accessFlags := 9, code := some k8c4 }
def k8c5 : Code := { maxStack := 4, maxLocals := 1, code := jdk_43_method_46_code, exceptionTable := #[], attributes := #[] }
def k8m5 : Method := { name := "toBytes", desc := "(C)[B", sig := { parameters := [.char], returnType := some (.array .byte) }, accessFlags := 9, code := some k8c5 }
/-- java/lang/StringLatin1 -/
def k8 : Class := { plain "java/lang/StringLatin1" (some 0) with
  accessFlags := 48
  interfaces := #[]
  cf := some (fileOf pool8 14 #[.nestMembers #[390, 221]] #[{ accessFlags := 0, nameIndex := 7, descriptorIndex := 8, attributes := #[] }, { accessFlags := 9, nameIndex := 90, descriptorIndex := 105, attributes := #[] }, { accessFlags := 9, nameIndex := 281, descriptorIndex := 282, attributes := #[] }, { accessFlags := 9, nameIndex := 101, descriptorIndex := 287, attributes := #[] }, { accessFlags := 9, nameIndex := 101, descriptorIndex := 102, attributes := #[] }, { accessFlags := 9, nameIndex := 380, descriptorIndex := 382, attributes := #[] }] 48 4 #[] #[{ accessFlags := 4120, nameIndex := 121, descriptorIndex := 122, attributes := #[] }])
  fields := #[{ name := "$assertionsDisabled", type := .boolean, accessFlags := 4120, slot := 0, constantValue := 0 }]
  methods := #[k8m0, k8m1, k8m2, k8m3, k8m4, k8m5]
  instanceTypes := #[]
  staticTypes := #[.boolean]
  resolved := Array.replicate 395 none
  statics := none }

def pool9 : Array CpInfo := pool [(1, .methodref 2 3), (0, .class_ 4), (0, .nameAndType 5 6), (0, u "java/lang/Object"), (0, u "<init>"), (0, u "()V"), (0, .class_ 8), (0, u "java/lang/Record")] 13

def k9c0 : Code := { maxStack := 1, maxLocals := 1, code := jdk_30_method_1_code, exceptionTable := #[], attributes := #[] }
def k9m0 : Method := { name := "<init>", desc := "()V", sig := { parameters := [], returnType := none }, accessFlags := 4, code := some k9c0 }
/-- java/lang/Record -/
def k9 : Class := { plain "java/lang/Record" (some 0) with
  accessFlags := 1057
  interfaces := #[]
  cf := some (fileOf pool9 7 #[] #[{ accessFlags := 4, nameIndex := 5, descriptorIndex := 6, attributes := #[] }] 1057 2 #[] #[])
  fields := #[]
  methods := #[k9m0]
  instanceTypes := #[]
  staticTypes := #[]
  resolved := Array.replicate 22 none
  statics := none }

def pool10 : Array CpInfo := pool [(1, .methodref 2 3), (0, .class_ 4), (0, .nameAndType 5 6), (0, u "java/lang/Record"), (0, u "<init>"), (0, u "()V"), (0, .string 8), (0, u "name"), (0, .methodref 10 11), (0, .class_ 12), (0, .nameAndType 13 14), (0, u "java/util/Objects"), (0, u "requireNonNull"), (0, u "(Ljava/lang/Object;Ljava/lang/String;)Ljava/lang/Object;"), (0, .string 16), (0, u "description"), (0, .methodref 18 19), (0, .class_ 20), (0, .nameAndType 21 22), (0, u "java/lang/String"), (0, u "isEmpty"), (0, u "()Z"), (0, .string 24), (0, u "-"), (0, .methodref 18 26), (0, .nameAndType 27 28), (0, u "startsWith"), (0, u "(Ljava/lang/String;)Z"), (0, .string 30), (0, u "="), (0, .methodref 18 32), (0, .nameAndType 33 34), (0, u "contains"), (0, u "(Ljava/lang/CharSequence;)Z"), (0, .string 36), (0, u "help"), (0, .methodref 18 38), (0, .nameAndType 39 40), (0, u "equals"), (0, u "(Ljava/lang/Object;)Z"), (11, .fieldref 53 54), (0, .class_ 55), (0, .nameAndType 8 56), (0, u "com/example/placewright/placewright/cli/Option"), (0, u "Ljava/lang/String;"), (0, .fieldref 53 58), (0, .nameAndType 59 56), (0, u "valueName"), (0, .fieldref 53 61), (0, .nameAndType 62 63), (0, u "required"), (0, u "Z"), (0, .fieldref 53 65), (0, .nameAndType 66 63), (0, u "repeated"), (0, .fieldref 53 68), (0, .nameAndType 16 56), (3, u "(Ljava/lang/String;Ljava/lang/String;ZZLjava/lang/String;)V"), (19, u "takesValue")] 38

def k10c0 : Code := { maxStack := 3, maxLocals := 6, code := prog_71_method_1_code, exceptionTable := #[], attributes := #[] }
def k10m0 : Method := { name := "<init>", desc := "(Ljava/lang/String;Ljava/lang/String;ZZLjava/lang/String;)V", sig := { parameters := [(.object "java/lang/String"), (.object "java/lang/String"), .boolean, .boolean, (.object "java/lang/String")], returnType := none }, accessFlags := 1, code := some k10c0 }
def k10c1 : Code := { maxStack := 1, maxLocals := 1, code := prog_71_method_6_code, exceptionTable := #[], attributes := #[] }
def k10m1 : Method := { name := "takesValue", desc := "()Z", sig := { parameters := [], returnType := some .boolean }, accessFlags := 1, code := some k10c1 }
/-- com/example/placewright/placewright/cli/Option -/
def k10 : Class := { plain "com/example/placewright/placewright/cli/Option" (some 9) with
  accessFlags := 49
  interfaces := #[]
  cf := some (fileOf pool10 53 #[] #[{ accessFlags := 1, nameIndex := 5, descriptorIndex := 72, attributes := #[] }, { accessFlags := 1, nameIndex := 92, descriptorIndex := 22, attributes := #[] }] 49 2 #[] #[{ accessFlags := 18, nameIndex := 8, descriptorIndex := 56, attributes := #[] }, { accessFlags := 18, nameIndex := 59, descriptorIndex := 56, attributes := #[] }, { accessFlags := 18, nameIndex := 62, descriptorIndex := 63, attributes := #[] }, { accessFlags := 18, nameIndex := 66, descriptorIndex := 63, attributes := #[] }, { accessFlags := 18, nameIndex := 16, descriptorIndex := 56, attributes := #[] }])
  fields := #[{ name := "name", type := (.object "java/lang/String"), accessFlags := 18, slot := 0, constantValue := 0 }, { name := "valueName", type := (.object "java/lang/String"), accessFlags := 18, slot := 1, constantValue := 0 }, { name := "required", type := .boolean, accessFlags := 18, slot := 2, constantValue := 0 }, { name := "repeated", type := .boolean, accessFlags := 18, slot := 3, constantValue := 0 }, { name := "description", type := (.object "java/lang/String"), accessFlags := 18, slot := 4, constantValue := 0 }]
  methods := #[k10m0, k10m1]
  instanceTypes := #[(.object "java/lang/String"), (.object "java/lang/String"), .boolean, .boolean, (.object "java/lang/String")]
  staticTypes := #[]
  resolved := Array.replicate 131 none
  statics := none }

def pool11 : Array CpInfo := pool [(2, .class_ 4), (1, u "java/lang/Object"), (0, u "<init>"), (0, u "()V"), (35, .class_ 44), (1, u "java/util/Objects"), (0, u "requireNonNull"), (48, u "(Ljava/lang/Object;Ljava/lang/String;)Ljava/lang/Object;")] 89

def k11m0 : Method := { name := "<init>", desc := "()V", sig := { parameters := [], returnType := none }, accessFlags := 2, code := none }
def k11c1 : Code := { maxStack := 3, maxLocals := 2, code := jdk_31_method_11_code, exceptionTable := #[], attributes := #[] }
def k11m1 : Method := { name := "requireNonNull", desc := "(Ljava/lang/Object;Ljava/lang/String;)Ljava/lang/Object;", sig := { parameters := [(.object "java/lang/Object"), (.object "java/lang/String")], returnType := some (.object "java/lang/Object") }, accessFlags := 9, code := some k11c1 }
/-- java/util/Objects -/
def k11 : Class := { plain "java/util/Objects" (some 0) with
  accessFlags := 49
  interfaces := #[]
  cf := some (fileOf pool11 42 #[] #[{ accessFlags := 2, nameIndex := 5, descriptorIndex := 6, attributes := #[] }, { accessFlags := 9, nameIndex := 45, descriptorIndex := 94, attributes := #[] }] 49 2 #[] #[])
  fields := #[]
  methods := #[k11m0, k11m1]
  instanceTypes := #[]
  staticTypes := #[]
  resolved := Array.replicate 184 none
  statics := none }

def pool12 : Array CpInfo := pool [(9, u "<init>"), (6, .class_ 18), (1, u "java/lang/Object"), (0, u "()V"), (1, .class_ 23), (1, u "jdk/internal/util/ArraysSupport"), (0, u "LOG2_ARRAY_LONG_INDEX_SCALE"), (0, u "I"), (2, u "U"), (0, u "Ljdk/internal/misc/Unsafe;"), (8, u "BIG_ENDIAN"), (0, u "Z"), (8, u "LOG2_BYTE_BIT_SIZE"), (4, u "LOG2_ARRAY_INT_INDEX_SCALE"), (54, u "JLA"), (0, u "Ljdk/internal/access/JavaLangAccess;"), (11, u "LOG2_ARRAY_BOOLEAN_INDEX_SCALE"), (9, u "LOG2_ARRAY_BYTE_INDEX_SCALE"), (5, u "LOG2_ARRAY_CHAR_INDEX_SCALE"), (5, u "LOG2_ARRAY_SHORT_INDEX_SCALE"), (5, u "mismatch"), (12, u "LOG2_ARRAY_FLOAT_INDEX_SCALE"), (24, u "LOG2_ARRAY_DOUBLE_INDEX_SCALE"), (89, u "T_BOOLEAN"), (2, u "T_CHAR"), (1, u "T_FLOAT"), (1, u "T_DOUBLE"), (1, u "T_BYTE"), (1, u "T_SHORT"), (1, u "T_INT"), (1, u "T_LONG"), (1, u "SOFT_MAX_ARRAY_LENGTH"), (42, u "([BI[BII)I")] 40

def k12m0 : Method := { name := "<init>", desc := "()V", sig := { parameters := [], returnType := none }, accessFlags := 2, code := none }
def k12c1 : Code := { maxStack := 8, maxLocals := 8, code := jdk_48_method_14_code, exceptionTable := #[], attributes := #[] }
def k12m1 : Method := { name := "mismatch", desc := "([BI[BII)I", sig := { parameters := [(.array .byte), .int, (.array .byte), .int, .int], returnType := some .int }, accessFlags := 9, code := some k12c1 }
/-- jdk/internal/util/ArraysSupport -/
def k12 : Class := { plain "jdk/internal/util/ArraysSupport" (some 0) with
  accessFlags := 33
  interfaces := #[]
  cf := some (fileOf pool12 21 #[] #[{ accessFlags := 2, nameIndex := 9, descriptorIndex := 19, attributes := #[] }, { accessFlags := 9, nameIndex := 149, descriptorIndex := 337, attributes := #[] }] 33 16 #[] #[{ accessFlags := 24, nameIndex := 28, descriptorIndex := 29, attributes := #[] }, { accessFlags := 26, nameIndex := 38, descriptorIndex := 39, attributes := #[] }, { accessFlags := 25, nameIndex := 121, descriptorIndex := 25, attributes := #[] }, { accessFlags := 25, nameIndex := 131, descriptorIndex := 25, attributes := #[] }, { accessFlags := 25, nameIndex := 137, descriptorIndex := 25, attributes := #[] }, { accessFlags := 25, nameIndex := 143, descriptorIndex := 25, attributes := #[] }, { accessFlags := 25, nameIndex := 53, descriptorIndex := 25, attributes := #[] }, { accessFlags := 25, nameIndex := 24, descriptorIndex := 25, attributes := #[] }, { accessFlags := 25, nameIndex := 162, descriptorIndex := 25, attributes := #[] }, { accessFlags := 25, nameIndex := 187, descriptorIndex := 25, attributes := #[] }, { accessFlags := 26, nameIndex := 48, descriptorIndex := 25, attributes := #[] }, { accessFlags := 25, nameIndex := 277, descriptorIndex := 25, attributes := #[] }, { accessFlags := 25, nameIndex := 280, descriptorIndex := 25, attributes := #[] }, { accessFlags := 25, nameIndex := 282, descriptorIndex := 25, attributes := #[] }, { accessFlags := 25, nameIndex := 284, descriptorIndex := 25, attributes := #[] }, { accessFlags := 25, nameIndex := 286, descriptorIndex := 25, attributes := #[] }, { accessFlags := 25, nameIndex := 288, descriptorIndex := 25, attributes := #[] }, { accessFlags := 25, nameIndex := 290, descriptorIndex := 25, attributes := #[] }, { accessFlags := 25, nameIndex := 292, descriptorIndex := 25, attributes := #[] }, { accessFlags := 26, nameIndex := 108, descriptorIndex := 109, attributes := #[] }, { accessFlags := 25, nameIndex := 294, descriptorIndex := 25, attributes := #[] }])
  fields := #[{ name := "U", type := (.object "jdk/internal/misc/Unsafe"), accessFlags := 24, slot := 0, constantValue := 0 }, { name := "BIG_ENDIAN", type := .boolean, accessFlags := 26, slot := 1, constantValue := 0 }, { name := "LOG2_ARRAY_BOOLEAN_INDEX_SCALE", type := .int, accessFlags := 25, slot := 2, constantValue := 0 }, { name := "LOG2_ARRAY_BYTE_INDEX_SCALE", type := .int, accessFlags := 25, slot := 3, constantValue := 0 }, { name := "LOG2_ARRAY_CHAR_INDEX_SCALE", type := .int, accessFlags := 25, slot := 4, constantValue := 0 }, { name := "LOG2_ARRAY_SHORT_INDEX_SCALE", type := .int, accessFlags := 25, slot := 5, constantValue := 0 }, { name := "LOG2_ARRAY_INT_INDEX_SCALE", type := .int, accessFlags := 25, slot := 6, constantValue := 0 }, { name := "LOG2_ARRAY_LONG_INDEX_SCALE", type := .int, accessFlags := 25, slot := 7, constantValue := 0 }, { name := "LOG2_ARRAY_FLOAT_INDEX_SCALE", type := .int, accessFlags := 25, slot := 8, constantValue := 0 }, { name := "LOG2_ARRAY_DOUBLE_INDEX_SCALE", type := .int, accessFlags := 25, slot := 9, constantValue := 0 }, { name := "LOG2_BYTE_BIT_SIZE", type := .int, accessFlags := 26, slot := 10, constantValue := 0 }, { name := "T_BOOLEAN", type := .int, accessFlags := 25, slot := 11, constantValue := 0 }, { name := "T_CHAR", type := .int, accessFlags := 25, slot := 12, constantValue := 0 }, { name := "T_FLOAT", type := .int, accessFlags := 25, slot := 13, constantValue := 0 }, { name := "T_DOUBLE", type := .int, accessFlags := 25, slot := 14, constantValue := 0 }, { name := "T_BYTE", type := .int, accessFlags := 25, slot := 15, constantValue := 0 }, { name := "T_SHORT", type := .int, accessFlags := 25, slot := 16, constantValue := 0 }, { name := "T_INT", type := .int, accessFlags := 25, slot := 17, constantValue := 0 }, { name := "T_LONG", type := .int, accessFlags := 25, slot := 18, constantValue := 0 }, { name := "JLA", type := (.object "jdk/internal/access/JavaLangAccess"), accessFlags := 26, slot := 19, constantValue := 0 }, { name := "SOFT_MAX_ARRAY_LENGTH", type := .int, accessFlags := 25, slot := 20, constantValue := 0 }]
  methods := #[k12m0, k12m1]
  instanceTypes := #[]
  staticTypes := #[(.object "jdk/internal/misc/Unsafe"), .boolean, .int, .int, .int, .int, .int, .int, .int, .int, .int, .int, .int, .int, .int, .int, .int, .int, .int, (.object "jdk/internal/access/JavaLangAccess"), .int]
  resolved := Array.replicate 378 none
  statics := none }

def pool13 : Array CpInfo := pool [(6, .class_ 8), (1, u "java/lang/Object"), (0, u "<init>"), (0, u "()V"), (1, .class_ 14), (1, u "java/lang/StringUTF16"), (31, u "$assertionsDisabled"), (0, u "Z"), (13, u "HI_BYTE_SHIFT"), (0, u "I"), (2, u "LO_BYTE_SHIFT"), (49, .methodref 12 116), (0, .nameAndType 117 118), (0, u "compress"), (0, u "([CI[BII)I"), (3, u "([CII)[B"), (138, u "coderFromArrayLen"), (0, u "([BI)B"), (106, .class_ 371), (1, u "java/lang/StringUTF16$LinesSpliterator"), (58, u "MAX_LENGTH"), (196, .class_ 628), (0, u "java/lang/StringUTF16$CodePointsSpliterator"), (0, .class_ 630), (0, u "java/lang/StringUTF16$CharsSpliterator")] 4

def k13m0 : Method := { name := "<init>", desc := "()V", sig := { parameters := [], returnType := none }, accessFlags := 0, code := none }
def k13c1 : Code := { maxStack := 2, maxLocals := 2, code := jdk_52_method_15_code, exceptionTable := #[], attributes := #[] }
def k13m1 : Method := { name := "coderFromArrayLen", desc := "([BI)B", sig := { parameters := [(.array .byte), .int], returnType := some .byte }, accessFlags := 8, code := some k13c1 }
def k13c2 : Code := { maxStack := 5, maxLocals := 6, code := jdk_52_method_16_code, exceptionTable := #[], attributes := #[] }
def k13m2 : Method := { name := "compress", desc := "([CII)[B", sig := { parameters := [(.array .char), .int, .int], returnType := some (.array .byte) }, accessFlags := 9, code := some k13c2 }
def k13c3 : Code := { maxStack := 3, maxLocals := 7, code := jdk_52_method_21_code, exceptionTable := #[], attributes := #[] }
def k13m3 : Method := { name := "compress", desc := "([CI[BII)I", sig := { parameters := [(.array .char), .int, (.array .byte), .int, .int], returnType := some .int }, accessFlags := 9, code := some k13c3 }
/-- java/lang/StringUTF16 -/
def k13 : Class := { plain "java/lang/StringUTF16" (some 0) with
  accessFlags := 48
  interfaces := #[]
  cf := some (fileOf pool13 12 #[.nestMembers #[627, 629, 369]] #[{ accessFlags := 0, nameIndex := 9, descriptorIndex := 10, attributes := #[] }, { accessFlags := 8, nameIndex := 261, descriptorIndex := 262, attributes := #[] }, { accessFlags := 9, nameIndex := 117, descriptorIndex := 122, attributes := #[] }, { accessFlags := 9, nameIndex := 117, descriptorIndex := 118, attributes := #[] }] 48 6 #[] #[{ accessFlags := 26, nameIndex := 61, descriptorIndex := 62, attributes := #[] }, { accessFlags := 26, nameIndex := 65, descriptorIndex := 62, attributes := #[] }, { accessFlags := 24, nameIndex := 430, descriptorIndex := 62, attributes := #[] }, { accessFlags := 4120, nameIndex := 46, descriptorIndex := 47, attributes := #[] }])
  fields := #[{ name := "HI_BYTE_SHIFT", type := .int, accessFlags := 26, slot := 0, constantValue := 0 }, { name := "LO_BYTE_SHIFT", type := .int, accessFlags := 26, slot := 1, constantValue := 0 }, { name := "MAX_LENGTH", type := .int, accessFlags := 24, slot := 2, constantValue := 0 }, { name := "$assertionsDisabled", type := .boolean, accessFlags := 4120, slot := 3, constantValue := 0 }]
  methods := #[k13m0, k13m1, k13m2, k13m3]
  instanceTypes := #[]
  staticTypes := #[.int, .int, .int, .boolean]
  resolved := Array.replicate 635 none
  statics := none }

def pool14 : Array CpInfo := pool [(2, .class_ 4), (1, u "java/lang/Object"), (0, u "<init>"), (0, u "()V"), (17, .class_ 26), (1, u "jdk/internal/util/Preconditions"), (28, .class_ 56), (0, u "jdk/internal/util/Preconditions$4"), (57, .class_ 115), (0, u "jdk/internal/util/Preconditions$1"), (7, u "SIOOBE_FORMATTER"), (0, u "Ljava/util/function/BiFunction;"), (0, .class_ 126), (0, u "jdk/internal/util/Preconditions$2"), (3, u "AIOOBE_FORMATTER"), (0, .class_ 132), (0, u "jdk/internal/util/Preconditions$3"), (3, u "IOOBE_FORMATTER")] 57

def k14m0 : Method := { name := "<init>", desc := "()V", sig := { parameters := [], returnType := none }, accessFlags := 1, code := none }
/-- jdk/internal/util/Preconditions -/
def k14 : Class := { plain "jdk/internal/util/Preconditions" (some 0) with
  accessFlags := 33
  interfaces := #[]
  cf := some (fileOf pool14 24 #[.nestMembers #[55, 131, 125, 114]] #[{ accessFlags := 1, nameIndex := 5, descriptorIndex := 6, attributes := #[] }] 33 2 #[] #[{ accessFlags := 25, nameIndex := 123, descriptorIndex := 124, attributes := #[] }, { accessFlags := 25, nameIndex := 130, descriptorIndex := 124, attributes := #[] }, { accessFlags := 25, nameIndex := 136, descriptorIndex := 124, attributes := #[] }])
  fields := #[{ name := "SIOOBE_FORMATTER", type := (.object "java/util/function/BiFunction"), accessFlags := 25, slot := 0, constantValue := 0 }, { name := "AIOOBE_FORMATTER", type := (.object "java/util/function/BiFunction"), accessFlags := 25, slot := 1, constantValue := 0 }, { name := "IOOBE_FORMATTER", type := (.object "java/util/function/BiFunction"), accessFlags := 25, slot := 2, constantValue := 0 }]
  methods := #[k14m0]
  instanceTypes := #[]
  staticTypes := #[(.object "java/util/function/BiFunction"), (.object "java/util/function/BiFunction"), (.object "java/util/function/BiFunction")]
  resolved := Array.replicate 194 none
  statics := some 1 }

def pool15 : Array CpInfo := pool [(1, u "java/lang/Cloneable"), (0, .class_ 1), (0, u "java/lang/Object"), (0, .class_ 3)] 3

/-- java/lang/Cloneable -/
def k15 : Class := { plain "java/lang/Cloneable" (some 0) with
  accessFlags := 1537
  interfaces := #[]
  cf := some (fileOf pool15 2 #[] #[] 1537 4 #[] #[])
  fields := #[]
  methods := #[]
  instanceTypes := #[]
  staticTypes := #[]
  resolved := Array.replicate 8 none
  statics := none }

/-- the primitive byte -/
def k16 : Class := { plain "byte" none with kind := .primitive 'B', accessFlags := 0x411 }
/-- [B -/
def k17 : Class := { plain "[B" (some 0) with kind := .array 16 .byte, interfaces := #[15, 2], accessFlags := 1041 }

/-- the primitive char -/
def k18 : Class := { plain "char" none with kind := .primitive 'C', accessFlags := 0x411 }
/-- [C -/
def k19 : Class := { plain "[C" (some 0) with kind := .array 18 .char, interfaces := #[15, 2], accessFlags := 1041 }

/-- the primitive int -/
def k20 : Class := { plain "int" none with kind := .primitive 'I', accessFlags := 0x411 }
/-- [I -/
def k21 : Class := { plain "[I" (some 0) with kind := .array 20 .int, interfaces := #[15, 2], accessFlags := 1041 }

def heap : Heap := #[{ cls := 7, slots := #[.long 0, .int 1, .null, .int 0, .null, .int 0, .int 0], vm := .statics 7 },
  { cls := 14, slots := #[.null, .null, .null], vm := .statics 14 }]
def classes : Array Class := #[k0, k1, k2, k3, k4, k5, k6, k7, k8, k9, k10, k11, k12, k13, k14, k15, k16, k17, k18, k19, k20, k21]
def interned : List (Array UInt16 × Addr) := []
def slotsUsed : Nat := 10
def theMethod : MethodId := ⟨1, 1⟩
def args0 : Array Value := #[.int 65, .int 66, .int 67, .int 2, .int 40]
def aboutOver (below : List Frame) : State where
  vm := { classes := classes, interned := interned.toArray }
  heap := heap
  slotsUsed := slotsUsed
  threads := #[{ frames := .invoking theMethod args0 :: below }]
def below0 : List Frame := [.native { method := ⟨0, 0⟩, args := #[] }]
def about1 : State := aboutOver below0
def p0 : Program := .bare "" "" ""
def e0 : Env := launch0.env 0 0 0
theorem w_frames : about1.frames = Frame.invoking theMethod args0 :: below0 := rfl
set_option maxRecDepth 65536 in
theorem w_args : argsFit about1.vm theMethod args0 = true := by decide +kernel
set_option maxRecDepth 65536 in
theorem w_heap : heapFits about1 = true := by decide +kernel
set_option maxRecDepth 65536 in
theorem w_runnable : about1.curStatus? = some .runnable := by decide +kernel
set_option maxRecDepth 65536 in
theorem w_alone : about1.alone = true := by decide +kernel
set_option maxRecDepth 65536 in
theorem w_named : about1.methodNamed? x = some theMethod := by decide +kernel
set_option maxRecDepth 65536 in
theorem w_hears : about1.hears theMethod below0 = true := by decide +kernel
set_option maxRecDepth 65536 in
theorem w_ripe : about1.ripe theMethod args0 below0 = true := by decide +kernel
theorem w_running : about1.status = .running := rfl
set_option maxRecDepth 65536 in
theorem w_room : about1.hasRoom e0.platform room_1 = true :=
  launch0.hasRoom_least _ room_1 (by decide +kernel) (by decide +kernel) (by decide +kernel) (by decide +kernel) (by decide +kernel) (by decide +kernel)
theorem allAtoms_all (ts : List Jvm.Cond) (a : Array Jvm.Value) (st : Jvm.State) : (allAtoms ts).before a st = ts.all (fun c => c.before a st) := by
  induction ts with
  | nil => rfl
  | cons c t ih =>
    show (Jvm.Cond.and c (allAtoms t)).before a st = _
    rw [Jvm.Cond.before_and, ih, List.all_cons]
def words1 : List Jvm.Cond := Jvm.Cond.code x code maxLocals ret :: tables_1
/-- a 'code' word, met by the world's own term for the bytes: nothing is compared byte by byte -/
theorem code_word {y : MethodName} {bytes : ByteArray} {mx : Nat} {rt : Option FieldType} {a : Array Value} {s : State} {m : MethodId} {meth : Method} {c : Code} (h1 : s.methodNamed? y = some m) (h2 : s.vm.method? m = some meth) (h3 : meth.code = some c) (h4 : c.code = bytes)
    (h5 : (c.maxLocals == mx && c.exceptionTable.isEmpty && decide (c.maxStack ≤ mostOperands) && decide (meth.sig.returnType = rt) && !meth.locks && decide (parseMethodDescriptor y.desc = some meth.sig)) = true) : (Jvm.Cond.code y bytes mx rt).before a s = true := by
  simp only [Bool.and_eq_true, beq_iff_eq, Bool.not_eq_true', decide_eq_true_eq] at h5
  obtain ⟨⟨⟨⟨⟨g1, g2⟩, g3⟩, g4⟩, g5⟩, g6⟩ := h5
  simp [Cond.before, Cond.holds, Cond.value, h1, h2, h3, h4, g1, g2, g3, g4, g5, g6]
def isCode : Jvm.Cond → Bool
  | .code _ _ _ _ => true
  | _ => false
theorem all_split {L : List Jvm.Cond} {P : Jvm.Cond → Bool} (h1 : L.all (fun c => isCode c || P c) = true) (h2 : ∀ c ∈ L.filter isCode, P c = true) : L.all P = true := by
  refine List.all_eq_true.mpr fun c hc => ?_
  have h := List.all_eq_true.mp h1 c hc
  rcases Bool.eq_false_or_eq_true (isCode c) with hi | hi
  · exact h2 c (List.mem_filter.mpr ⟨hc, hi⟩)
  · simpa [hi] using h
set_option maxRecDepth 65536 in
theorem w_c0 : (Jvm.Cond.code x code maxLocals ret).before args0 about1 = true := code_word (m := ⟨1, 1⟩) (meth := k1m1) (c := k1c1) (by decide +kernel) rfl rfl rfl (by decide +kernel)
set_option maxRecDepth 65536 in
theorem w_c1 : (Jvm.Cond.code ({ cls := "java/lang/String", name := "valueOf", desc := "(C)Ljava/lang/String;" } : Jvm.MethodName) jdk_42_method_139_code (1 : Nat) (Option.some (Jvm.ClassFile.FieldType.object "java/lang/String"))).before args0 about1 = true := code_word (m := ⟨7, 10⟩) (meth := k7m10) (c := k7c10) (by decide +kernel) rfl rfl rfl (by decide +kernel)
set_option maxRecDepth 65536 in
theorem w_c2 : (Jvm.Cond.code ({ cls := "java/lang/StringLatin1", name := "canEncode", desc := "(C)Z" } : Jvm.MethodName) jdk_43_method_3_code (1 : Nat) (Option.some Jvm.ClassFile.FieldType.boolean)).before args0 about1 = true := code_word (m := ⟨8, 1⟩) (meth := k8m1) (c := k8c1) (by decide +kernel) rfl rfl rfl (by decide +kernel)
set_option maxRecDepth 65536 in
theorem w_c3 : (Jvm.Cond.code ({ cls := "java/lang/StringLatin1", name := "toBytes", desc := "(C)[B" } : Jvm.MethodName) jdk_43_method_46_code (1 : Nat) (Option.some (Jvm.ClassFile.FieldType.array Jvm.ClassFile.FieldType.byte))).before args0 about1 = true := code_word (m := ⟨8, 5⟩) (meth := k8m5) (c := k8c5) (by decide +kernel) rfl rfl rfl (by decide +kernel)
set_option maxRecDepth 65536 in
theorem w_c4 : (Jvm.Cond.code ({ cls := "java/lang/String", name := "<init>", desc := "([BB)V" } : Jvm.MethodName) jdk_42_method_151_code (3 : Nat) (Option.none : Option Jvm.ClassFile.FieldType)).before args0 about1 = true := code_word (m := ⟨7, 12⟩) (meth := k7m12) (c := k7c12) (by decide +kernel) rfl rfl rfl (by decide +kernel)
set_option maxRecDepth 65536 in
theorem w_c5 : (Jvm.Cond.code ({ cls := "java/lang/Object", name := "<init>", desc := "()V" } : Jvm.MethodName) object_method_1_code (1 : Nat) (Option.none : Option Jvm.ClassFile.FieldType)).before args0 about1 = true := code_word (m := ⟨0, 0⟩) (meth := k0m0) (c := k0c0) (by decide +kernel) rfl rfl rfl (by decide +kernel)
set_option maxRecDepth 65536 in
theorem w_c6 : (Jvm.Cond.code ({ cls := "java/lang/String", name := "<init>", desc := "([C)V" } : Jvm.MethodName) jdk_42_method_3_code (2 : Nat) (Option.none : Option Jvm.ClassFile.FieldType)).before args0 about1 = true := code_word (m := ⟨7, 1⟩) (meth := k7m1) (c := k7c1) (by decide +kernel) rfl rfl rfl (by decide +kernel)
set_option maxRecDepth 65536 in
theorem w_c7 : (Jvm.Cond.code ({ cls := "java/lang/String", name := "<init>", desc := "([CIILjava/lang/Void;)V" } : Jvm.MethodName) jdk_42_method_149_code (6 : Nat) (Option.none : Option Jvm.ClassFile.FieldType)).before args0 about1 = true := code_word (m := ⟨7, 11⟩) (meth := k7m11) (c := k7c11) (by decide +kernel) rfl rfl rfl (by decide +kernel)
set_option maxRecDepth 65536 in
theorem w_c8 : (Jvm.Cond.code ({ cls := "com/example/placewright/placewright/cli/Option", name := "<init>", desc := "(Ljava/lang/String;Ljava/lang/String;ZZLjava/lang/String;)V" } : Jvm.MethodName) prog_71_method_1_code (6 : Nat) (Option.none : Option Jvm.ClassFile.FieldType)).before args0 about1 = true := code_word (m := ⟨10, 0⟩) (meth := k10m0) (c := k10c0) (by decide +kernel) rfl rfl rfl (by decide +kernel)
set_option maxRecDepth 65536 in
theorem w_c9 : (Jvm.Cond.code ({ cls := "java/lang/Record", name := "<init>", desc := "()V" } : Jvm.MethodName) jdk_30_method_1_code (1 : Nat) (Option.none : Option Jvm.ClassFile.FieldType)).before args0 about1 = true := code_word (m := ⟨9, 0⟩) (meth := k9m0) (c := k9c0) (by decide +kernel) rfl rfl rfl (by decide +kernel)
set_option maxRecDepth 65536 in
theorem w_c10 : (Jvm.Cond.code ({ cls := "java/util/Objects", name := "requireNonNull", desc := "(Ljava/lang/Object;Ljava/lang/String;)Ljava/lang/Object;" } : Jvm.MethodName) jdk_31_method_11_code (2 : Nat) (Option.some (Jvm.ClassFile.FieldType.object "java/lang/Object"))).before args0 about1 = true := code_word (m := ⟨11, 1⟩) (meth := k11m1) (c := k11c1) (by decide +kernel) rfl rfl rfl (by decide +kernel)
set_option maxRecDepth 65536 in
theorem w_c11 : (Jvm.Cond.code ({ cls := "java/lang/String", name := "isEmpty", desc := "()Z" } : Jvm.MethodName) jdk_42_method_55_code (1 : Nat) (Option.some Jvm.ClassFile.FieldType.boolean)).before args0 about1 = true := code_word (m := ⟨7, 3⟩) (meth := k7m3) (c := k7c3) (by decide +kernel) rfl rfl rfl (by decide +kernel)
set_option maxRecDepth 65536 in
theorem w_c12 : (Jvm.Cond.code ({ cls := "java/lang/String", name := "startsWith", desc := "(Ljava/lang/String;)Z" } : Jvm.MethodName) jdk_42_method_76_code (2 : Nat) (Option.some Jvm.ClassFile.FieldType.boolean)).before args0 about1 = true := code_word (m := ⟨7, 6⟩) (meth := k7m6) (c := k7c6) (by decide +kernel) rfl rfl rfl (by decide +kernel)
set_option maxRecDepth 65536 in
theorem w_c13 : (Jvm.Cond.code ({ cls := "java/lang/String", name := "startsWith", desc := "(Ljava/lang/String;I)Z" } : Jvm.MethodName) jdk_42_method_75_code (8 : Nat) (Option.some Jvm.ClassFile.FieldType.boolean)).before args0 about1 = true := code_word (m := ⟨7, 5⟩) (meth := k7m5) (c := k7c5) (by decide +kernel) rfl rfl rfl (by decide +kernel)
set_option maxRecDepth 65536 in
theorem w_c14 : (Jvm.Cond.code ({ cls := "java/lang/String", name := "length", desc := "()I" } : Jvm.MethodName) jdk_42_method_54_code (1 : Nat) (Option.some Jvm.ClassFile.FieldType.int)).before args0 about1 = true := code_word (m := ⟨7, 2⟩) (meth := k7m2) (c := k7c2) (by decide +kernel) rfl rfl rfl (by decide +kernel)
set_option maxRecDepth 65536 in
theorem w_c15 : (Jvm.Cond.code ({ cls := "java/lang/String", name := "coder", desc := "()B" } : Jvm.MethodName) jdk_42_method_152_code (1 : Nat) (Option.some Jvm.ClassFile.FieldType.byte)).before args0 about1 = true := code_word (m := ⟨7, 13⟩) (meth := k7m13) (c := k7c13) (by decide +kernel) rfl rfl rfl (by decide +kernel)
set_option maxRecDepth 65536 in
theorem w_c16 : (Jvm.Cond.code ({ cls := "jdk/internal/util/ArraysSupport", name := "mismatch", desc := "([BI[BII)I" } : Jvm.MethodName) jdk_48_method_14_code (8 : Nat) (Option.some Jvm.ClassFile.FieldType.int)).before args0 about1 = true := code_word (m := ⟨12, 1⟩) (meth := k12m1) (c := k12c1) (by decide +kernel) rfl rfl rfl (by decide +kernel)
set_option maxRecDepth 65536 in
theorem w_c17 : (Jvm.Cond.code ({ cls := "java/lang/String", name := "contains", desc := "(Ljava/lang/CharSequence;)Z" } : Jvm.MethodName) jdk_42_method_97_code (2 : Nat) (Option.some Jvm.ClassFile.FieldType.boolean)).before args0 about1 = true := code_word (m := ⟨7, 8⟩) (meth := k7m8) (c := k7c8) (by decide +kernel) rfl rfl rfl (by decide +kernel)
set_option maxRecDepth 65536 in
theorem w_c18 : (Jvm.Cond.code ({ cls := "java/lang/String", name := "toString", desc := "()Ljava/lang/String;" } : Jvm.MethodName) jdk_42_method_126_code (1 : Nat) (Option.some (Jvm.ClassFile.FieldType.object "java/lang/String"))).before args0 about1 = true := code_word (m := ⟨7, 9⟩) (meth := k7m9) (c := k7c9) (by decide +kernel) rfl rfl rfl (by decide +kernel)
set_option maxRecDepth 65536 in
theorem w_c19 : (Jvm.Cond.code ({ cls := "java/lang/String", name := "indexOf", desc := "(Ljava/lang/String;)I" } : Jvm.MethodName) jdk_42_method_84_code (3 : Nat) (Option.some Jvm.ClassFile.FieldType.int)).before args0 about1 = true := code_word (m := ⟨7, 7⟩) (meth := k7m7) (c := k7c7) (by decide +kernel) rfl rfl rfl (by decide +kernel)
set_option maxRecDepth 65536 in
theorem w_c20 : (Jvm.Cond.code ({ cls := "java/lang/String", name := "isLatin1", desc := "()Z" } : Jvm.MethodName) jdk_42_method_154_code (1 : Nat) (Option.some Jvm.ClassFile.FieldType.boolean)).before args0 about1 = true := code_word (m := ⟨7, 14⟩) (meth := k7m14) (c := k7c14) (by decide +kernel) rfl rfl rfl (by decide +kernel)
set_option maxRecDepth 65536 in
theorem w_c21 : (Jvm.Cond.code ({ cls := "java/lang/StringLatin1", name := "indexOf", desc := "([B[B)I" } : Jvm.MethodName) jdk_43_method_24_code (2 : Nat) (Option.some Jvm.ClassFile.FieldType.int)).before args0 about1 = true := code_word (m := ⟨8, 3⟩) (meth := k8m3) (c := k8c3) (by decide +kernel) rfl rfl rfl (by decide +kernel)
set_option maxRecDepth 65536 in
theorem w_c22 : (Jvm.Cond.code ({ cls := "java/lang/StringLatin1", name := "indexOf", desc := "([BI[BII)I" } : Jvm.MethodName) jdk_43_method_25_code (11 : Nat) (Option.some Jvm.ClassFile.FieldType.int)).before args0 about1 = true := code_word (m := ⟨8, 4⟩) (meth := k8m4) (c := k8c4) (by decide +kernel) rfl rfl rfl (by decide +kernel)
set_option maxRecDepth 65536 in
theorem w_c23 : (Jvm.Cond.code ({ cls := "java/lang/String", name := "equals", desc := "(Ljava/lang/Object;)Z" } : Jvm.MethodName) jdk_42_method_66_code (3 : Nat) (Option.some Jvm.ClassFile.FieldType.boolean)).before args0 about1 = true := code_word (m := ⟨7, 4⟩) (meth := k7m4) (c := k7c4) (by decide +kernel) rfl rfl rfl (by decide +kernel)
set_option maxRecDepth 65536 in
theorem w_c24 : (Jvm.Cond.code ({ cls := "java/lang/StringLatin1", name := "equals", desc := "([B[B)Z" } : Jvm.MethodName) jdk_43_method_13_code (3 : Nat) (Option.some Jvm.ClassFile.FieldType.boolean)).before args0 about1 = true := code_word (m := ⟨8, 2⟩) (meth := k8m2) (c := k8c2) (by decide +kernel) rfl rfl rfl (by decide +kernel)
set_option maxRecDepth 65536 in
theorem w_c25 : (Jvm.Cond.code ({ cls := "com/example/placewright/placewright/cli/Option", name := "takesValue", desc := "()Z" } : Jvm.MethodName) prog_71_method_6_code (1 : Nat) (Option.some Jvm.ClassFile.FieldType.boolean)).before args0 about1 = true := code_word (m := ⟨10, 1⟩) (meth := k10m1) (c := k10c1) (by decide +kernel) rfl rfl rfl (by decide +kernel)
set_option maxRecDepth 65536 in
theorem w_c26 : (Jvm.Cond.code ({ cls := "java/lang/StringUTF16", name := "compress", desc := "([CII)[B" } : Jvm.MethodName) jdk_52_method_16_code (6 : Nat) (Option.some (Jvm.ClassFile.FieldType.array Jvm.ClassFile.FieldType.byte))).before args0 about1 = true := code_word (m := ⟨13, 2⟩) (meth := k13m2) (c := k13c2) (by decide +kernel) rfl rfl rfl (by decide +kernel)
set_option maxRecDepth 65536 in
theorem w_c27 : (Jvm.Cond.code ({ cls := "java/lang/StringUTF16", name := "compress", desc := "([CI[BII)I" } : Jvm.MethodName) jdk_52_method_21_code (7 : Nat) (Option.some Jvm.ClassFile.FieldType.int)).before args0 about1 = true := code_word (m := ⟨13, 3⟩) (meth := k13m3) (c := k13c3) (by decide +kernel) rfl rfl rfl (by decide +kernel)
set_option maxRecDepth 65536 in
theorem w_c28 : (Jvm.Cond.code ({ cls := "java/lang/StringUTF16", name := "coderFromArrayLen", desc := "([BI)B" } : Jvm.MethodName) jdk_52_method_15_code (2 : Nat) (Option.some Jvm.ClassFile.FieldType.byte)).before args0 about1 = true := code_word (m := ⟨13, 1⟩) (meth := k13m1) (c := k13c1) (by decide +kernel) rfl rfl rfl (by decide +kernel)
def codes1 : List Jvm.Cond := [Jvm.Cond.code x code maxLocals ret, Jvm.Cond.code ({ cls := "java/lang/String", name := "valueOf", desc := "(C)Ljava/lang/String;" } : Jvm.MethodName) jdk_42_method_139_code (1 : Nat) (Option.some (Jvm.ClassFile.FieldType.object "java/lang/String")), Jvm.Cond.code ({ cls := "java/lang/StringLatin1", name := "canEncode", desc := "(C)Z" } : Jvm.MethodName) jdk_43_method_3_code (1 : Nat) (Option.some Jvm.ClassFile.FieldType.boolean), Jvm.Cond.code ({ cls := "java/lang/StringLatin1", name := "toBytes", desc := "(C)[B" } : Jvm.MethodName) jdk_43_method_46_code (1 : Nat) (Option.some (Jvm.ClassFile.FieldType.array Jvm.ClassFile.FieldType.byte)), Jvm.Cond.code ({ cls := "java/lang/String", name := "<init>", desc := "([BB)V" } : Jvm.MethodName) jdk_42_method_151_code (3 : Nat) (Option.none : Option Jvm.ClassFile.FieldType), Jvm.Cond.code ({ cls := "java/lang/Object", name := "<init>", desc := "()V" } : Jvm.MethodName) object_method_1_code (1 : Nat) (Option.none : Option Jvm.ClassFile.FieldType), Jvm.Cond.code ({ cls := "java/lang/String", name := "<init>", desc := "([C)V" } : Jvm.MethodName) jdk_42_method_3_code (2 : Nat) (Option.none : Option Jvm.ClassFile.FieldType), Jvm.Cond.code ({ cls := "java/lang/String", name := "<init>", desc := "([CIILjava/lang/Void;)V" } : Jvm.MethodName) jdk_42_method_149_code (6 : Nat) (Option.none : Option Jvm.ClassFile.FieldType), Jvm.Cond.code ({ cls := "com/example/placewright/placewright/cli/Option", name := "<init>", desc := "(Ljava/lang/String;Ljava/lang/String;ZZLjava/lang/String;)V" } : Jvm.MethodName) prog_71_method_1_code (6 : Nat) (Option.none : Option Jvm.ClassFile.FieldType), Jvm.Cond.code ({ cls := "java/lang/Record", name := "<init>", desc := "()V" } : Jvm.MethodName) jdk_30_method_1_code (1 : Nat) (Option.none : Option Jvm.ClassFile.FieldType), Jvm.Cond.code ({ cls := "java/util/Objects", name := "requireNonNull", desc := "(Ljava/lang/Object;Ljava/lang/String;)Ljava/lang/Object;" } : Jvm.MethodName) jdk_31_method_11_code (2 : Nat) (Option.some (Jvm.ClassFile.FieldType.object "java/lang/Object")), Jvm.Cond.code ({ cls := "java/lang/String", name := "isEmpty", desc := "()Z" } : Jvm.MethodName) jdk_42_method_55_code (1 : Nat) (Option.some Jvm.ClassFile.FieldType.boolean), Jvm.Cond.code ({ cls := "java/lang/String", name := "startsWith", desc := "(Ljava/lang/String;)Z" } : Jvm.MethodName) jdk_42_method_76_code (2 : Nat) (Option.some Jvm.ClassFile.FieldType.boolean), Jvm.Cond.code ({ cls := "java/lang/String", name := "startsWith", desc := "(Ljava/lang/String;I)Z" } : Jvm.MethodName) jdk_42_method_75_code (8 : Nat) (Option.some Jvm.ClassFile.FieldType.boolean), Jvm.Cond.code ({ cls := "java/lang/String", name := "length", desc := "()I" } : Jvm.MethodName) jdk_42_method_54_code (1 : Nat) (Option.some Jvm.ClassFile.FieldType.int), Jvm.Cond.code ({ cls := "java/lang/String", name := "coder", desc := "()B" } : Jvm.MethodName) jdk_42_method_152_code (1 : Nat) (Option.some Jvm.ClassFile.FieldType.byte), Jvm.Cond.code ({ cls := "jdk/internal/util/ArraysSupport", name := "mismatch", desc := "([BI[BII)I" } : Jvm.MethodName) jdk_48_method_14_code (8 : Nat) (Option.some Jvm.ClassFile.FieldType.int), Jvm.Cond.code ({ cls := "java/lang/String", name := "contains", desc := "(Ljava/lang/CharSequence;)Z" } : Jvm.MethodName) jdk_42_method_97_code (2 : Nat) (Option.some Jvm.ClassFile.FieldType.boolean), Jvm.Cond.code ({ cls := "java/lang/String", name := "toString", desc := "()Ljava/lang/String;" } : Jvm.MethodName) jdk_42_method_126_code (1 : Nat) (Option.some (Jvm.ClassFile.FieldType.object "java/lang/String")), Jvm.Cond.code ({ cls := "java/lang/String", name := "indexOf", desc := "(Ljava/lang/String;)I" } : Jvm.MethodName) jdk_42_method_84_code (3 : Nat) (Option.some Jvm.ClassFile.FieldType.int), Jvm.Cond.code ({ cls := "java/lang/String", name := "isLatin1", desc := "()Z" } : Jvm.MethodName) jdk_42_method_154_code (1 : Nat) (Option.some Jvm.ClassFile.FieldType.boolean), Jvm.Cond.code ({ cls := "java/lang/StringLatin1", name := "indexOf", desc := "([B[B)I" } : Jvm.MethodName) jdk_43_method_24_code (2 : Nat) (Option.some Jvm.ClassFile.FieldType.int), Jvm.Cond.code ({ cls := "java/lang/StringLatin1", name := "indexOf", desc := "([BI[BII)I" } : Jvm.MethodName) jdk_43_method_25_code (11 : Nat) (Option.some Jvm.ClassFile.FieldType.int), Jvm.Cond.code ({ cls := "java/lang/String", name := "equals", desc := "(Ljava/lang/Object;)Z" } : Jvm.MethodName) jdk_42_method_66_code (3 : Nat) (Option.some Jvm.ClassFile.FieldType.boolean), Jvm.Cond.code ({ cls := "java/lang/StringLatin1", name := "equals", desc := "([B[B)Z" } : Jvm.MethodName) jdk_43_method_13_code (3 : Nat) (Option.some Jvm.ClassFile.FieldType.boolean), Jvm.Cond.code ({ cls := "com/example/placewright/placewright/cli/Option", name := "takesValue", desc := "()Z" } : Jvm.MethodName) prog_71_method_6_code (1 : Nat) (Option.some Jvm.ClassFile.FieldType.boolean), Jvm.Cond.code ({ cls := "java/lang/StringUTF16", name := "compress", desc := "([CII)[B" } : Jvm.MethodName) jdk_52_method_16_code (6 : Nat) (Option.some (Jvm.ClassFile.FieldType.array Jvm.ClassFile.FieldType.byte)), Jvm.Cond.code ({ cls := "java/lang/StringUTF16", name := "compress", desc := "([CI[BII)I" } : Jvm.MethodName) jdk_52_method_21_code (7 : Nat) (Option.some Jvm.ClassFile.FieldType.int), Jvm.Cond.code ({ cls := "java/lang/StringUTF16", name := "coderFromArrayLen", desc := "([BI)B" } : Jvm.MethodName) jdk_52_method_15_code (2 : Nat) (Option.some Jvm.ClassFile.FieldType.byte)]
set_option maxRecDepth 65536 in
theorem codes_eq : words1.filter isCode = codes1 := rfl
theorem w_codes : ∀ c ∈ words1.filter isCode, c.before args0 about1 = true := by
  rw [codes_eq]
  intro c hc
  simp only [codes1, List.mem_cons, List.not_mem_nil, or_false] at hc
  rcases hc with rfl | rfl | rfl | rfl | rfl | rfl | rfl | rfl | rfl | rfl | rfl | rfl | rfl | rfl | rfl | rfl | rfl | rfl | rfl | rfl | rfl | rfl | rfl | rfl | rfl | rfl | rfl | rfl | rfl
  · exact w_c0
  · exact w_c1
  · exact w_c2
  · exact w_c3
  · exact w_c4
  · exact w_c5
  · exact w_c6
  · exact w_c7
  · exact w_c8
  · exact w_c9
  · exact w_c10
  · exact w_c11
  · exact w_c12
  · exact w_c13
  · exact w_c14
  · exact w_c15
  · exact w_c16
  · exact w_c17
  · exact w_c18
  · exact w_c19
  · exact w_c20
  · exact w_c21
  · exact w_c22
  · exact w_c23
  · exact w_c24
  · exact w_c25
  · exact w_c26
  · exact w_c27
  · exact w_c28
set_option maxRecDepth 65536 in
theorem w_t1 : (words1.take 24).all (fun c => isCode c || c.before args0 about1) = true := by decide +kernel
set_option maxRecDepth 65536 in
theorem w_t2 : ((words1.drop 24).take 24).all (fun c => isCode c || c.before args0 about1) = true := by decide +kernel
set_option maxRecDepth 65536 in
theorem w_t3 : (((words1.drop 24).drop 24).take 24).all (fun c => isCode c || c.before args0 about1) = true := by decide +kernel
set_option maxRecDepth 65536 in
theorem w_t4 : ((((words1.drop 24).drop 24).drop 24).take 24).all (fun c => isCode c || c.before args0 about1) = true := by decide +kernel
set_option maxRecDepth 65536 in
theorem w_t5 : (((((words1.drop 24).drop 24).drop 24).drop 24).take 24).all (fun c => isCode c || c.before args0 about1) = true := by decide +kernel
set_option maxRecDepth 65536 in
theorem w_t6 : ((((((words1.drop 24).drop 24).drop 24).drop 24).drop 24).take 24).all (fun c => isCode c || c.before args0 about1) = true := by decide +kernel
set_option maxRecDepth 65536 in
theorem w_t7 : ((((((words1.drop 24).drop 24).drop 24).drop 24).drop 24).drop 24).all (fun c => isCode c || c.before args0 about1) = true := by decide +kernel
theorem w_tables : (allAtoms (Jvm.Cond.code x code maxLocals ret :: tables_1)).before args0 about1 = true := by
  rw [allAtoms_all]
  show words1.all (fun c => c.before args0 about1) = true
  refine all_split ?_ w_codes
  rw [← List.take_append_drop 24 words1, List.all_append, w_t1, ← List.take_append_drop 24 (words1.drop 24), List.all_append, w_t2, ← List.take_append_drop 24 ((words1.drop 24).drop 24), List.all_append, w_t3, ← List.take_append_drop 24 (((words1.drop 24).drop 24).drop 24), List.all_append, w_t4, ← List.take_append_drop 24 ((((words1.drop 24).drop 24).drop 24).drop 24), List.all_append, w_t5, ← List.take_append_drop 24 (((((words1.drop 24).drop 24).drop 24).drop 24).drop 24), List.all_append, w_t6, w_t7]
  rfl
set_option maxRecDepth 65536 in
theorem w_rest : rest_1_c.before args0 about1 = true := by decide +kernel
set_option maxRecDepth 65536 in
theorem w_case : (Jvm.Cond.and given_1 narrow_1).before args0 about1 = true := by decide +kernel
set_option maxRecDepth 65536 in
theorem w_consts : constsHeld consts_1 about1 := Jvm.Lit.constsHeldB_iff.mp (by decide +kernel)
theorem w_applies : (headSpec (Jvm.Cond.code x code maxLocals ret :: tables_1) room_1).applies x e0.platform about1 = true :=
  (Spec.applies_iff w_frames).mpr ⟨w_running, w_runnable, w_alone, w_named, w_hears, w_ripe, w_room, w_tables⟩
theorem atStart : AtStart classFile x code maxLocals ret World_1 tables_1 room_1 Calls_1 rest_1 Pre_1 launch0 p0 e0 about1 theMethod args0 below0 :=
  ⟨lists_1, trivial, launch0.admits_env _ _ _, launch0.least_env, fairChoices_fair.cas, fairChoices_fair.clock, w_frames, w_args, w_heap, w_applies, ⟨w_consts, trivial⟩, w_rest, w_case⟩
end start1
theorem witness_1 : WitnessClaimed_1 := ⟨start1.p0, start1.e0, start1.about1, start1.theMethod, start1.args0, start1.below0, start1.atStart⟩
end Jvm.Pilot.@@N@@
