import JvmDerived
import JvmDerived.Pilot.@@N@@Statement
import JvmDerived.Pilot.@@N@@Code
set_option linter.unusedVariables false
set_option linter.unusedSimpArgs false
/- laws to paste: Road.backV (cut by pick.py; bodies as the Statement names them) -/
namespace Jvm.Pilot.@@N@@
namespace StrChars
open Jvm Sem ClassFile Op Lib Jvm.Stand Jvm.Free.XT Jvm.Free.ALB Jvm.Free.JM Jvm.Free
open Jvm.Lib.Cold (StaticIs)
/-- a char array whose places are chars -/
def Ch (a : Addr) (A : Cell) (U : State) : Prop := Arr .char a A U ∧ Typed .char A
theorem Ch.mv {a : Addr} {A : Cell} {U U' : State} (h : Ch a A U) (hal : U.vm.Alike U'.vm) (hh : U'.heap = U.heap) : Ch a A U' := ⟨h.1.mv hal hh, h.2⟩
theorem Ch.keep {a : Addr} {A : Cell} {U U' : State} (h : Ch a A U) (hal : U.vm.Alike U'.vm) (hk : U'.heap[a]? = some A) : Ch a A U' := ⟨h.1.keep hal hk, h.2⟩
/-- what place i of a char[]'s cell holds -/
def cv (A : Cell) (i : Nat) : Int32 := match A.slots[i]? with | some (.int x) => x | _ => 0
theorem Ch.get {a : Addr} {A : Cell} {U : State} (h : Ch a A U) {i : Nat} (hi : i < A.slots.size) : A.slots[i]? = some (.int (cv A i)) := by
  have e := Array.getElem?_eq_getElem hi
  have f := h.2 i _ e
  unfold cv; rw [e]
  generalize A.slots[i] = v at f
  cases v <;> simp [fits] at f ⊢
/-- the byte that i2b leaves of a char -/
def lo8 (x : Int32) : Int32 := x.toInt8.toInt32
theorem fits_lo8 (y : Int32) : fits .byte (.int (lo8 y)) = true := by
  have h1 := y.toInt8.le_toInt
  have h2 := y.toInt8.toInt_lt
  simp only [lo8, fits, Bool.and_eq_true, decide_eq_true_eq, Int32.le_iff_toInt_le, Int8.toInt_toInt32, show (-128 : Int32).toInt = -128 from by decide, show (127 : Int32).toInt = 127 from by decide]
  omega
/-- A' is A but that each place j of lo .. hi - 1 holds f j -/
def Laid (A A' : Cell) (lo hi : Nat) (f : Nat → Value) : Prop := A'.cls = A.cls ∧ A'.vm = A.vm ∧ A'.slots.size = A.slots.size ∧ ∀ i, A'.slots[i]? = if lo ≤ i ∧ i < hi then some (f i) else A.slots[i]?
theorem Laid.zero (A : Cell) (lo : Nat) (f : Nat → Value) : Laid A A lo (lo + 0) f := ⟨rfl, rfl, rfl, fun i => by rw [if_neg (by omega)]⟩
theorem Laid.step {A Ak : Cell} {lo k : Nat} {f : Nat → Value} {v : Value} (h : Laid A Ak lo k f) (hlo : lo ≤ k) (hk : k < Ak.slots.size) (hv : v = f k) : Laid A (Ak.setSlot k v) lo (k + 1) f := by
  refine ⟨h.1, h.2.1, by simpa [Cell.setSlot] using h.2.2.1, fun i => ?_⟩
  by_cases e : k = i
  · subst e; rw [Cell.slots_setSlot_self v hk, if_pos (by omega), hv]
  · rw [Cell.slots_setSlot_ne v e, h.2.2.2 i]
    by_cases q : lo ≤ i ∧ i < k
    · rw [if_pos q, if_pos (by omega)]
    · rw [if_neg q, if_neg (by omega)]
def U16 : String := "java/lang/StringUTF16"
namespace Cmp5
def yN : MethodName := ⟨"java/lang/StringUTF16", "compress", "([CI[BII)I"⟩
abbrev yB : ByteArray := jdk_52_method_21_code
theorem d0 : decode yB 0 = .ok (.iconst 0, 1) := by decide +kernel
theorem d1 : decode yB 1 = .ok (.istore 5, 2) := by decide +kernel
theorem d3 : decode yB 3 = .ok (.iload 5, 2) := by decide +kernel
theorem d5 : decode yB 5 = .ok (.iload 4, 2) := by decide +kernel
theorem d7 : decode yB 7 = .ok (.if_icmp (.ge) 37, 3) := by decide +kernel
theorem d10 : decode yB 10 = .ok (.aload_n 0, 1) := by decide +kernel
theorem d11 : decode yB 11 = .ok (.iload_n 1, 1) := by decide +kernel
theorem d12 : decode yB 12 = .ok (.caload, 1) := by decide +kernel
theorem d13 : decode yB 13 = .ok (.istore 6, 2) := by decide +kernel
theorem d15 : decode yB 15 = .ok (.iload 6, 2) := by decide +kernel
theorem d17 : decode yB 17 = .ok (.sipush 255, 3) := by decide +kernel
theorem d20 : decode yB 20 = .ok (.if_icmp (.le) 6, 3) := by decide +kernel
theorem d26 : decode yB 26 = .ok (.aload_n 2, 1) := by decide +kernel
theorem d27 : decode yB 27 = .ok (.iload_n 3, 1) := by decide +kernel
theorem d28 : decode yB 28 = .ok (.iload 6, 2) := by decide +kernel
theorem d30 : decode yB 30 = .ok (.i2b, 1) := by decide +kernel
theorem d31 : decode yB 31 = .ok (.bastore, 1) := by decide +kernel
theorem d32 : decode yB 32 = .ok (.iinc 1 1, 3) := by decide +kernel
theorem d35 : decode yB 35 = .ok (.iinc 3 1, 3) := by decide +kernel
theorem d38 : decode yB 38 = .ok (.iinc 5 1, 3) := by decide +kernel
theorem d41 : decode yB 41 = .ok (.goto (-38), 3) := by decide +kernel
theorem d44 : decode yB 44 = .ok (.iload 4, 2) := by decide +kernel
theorem d46 : decode yB 46 = .ok (.ireturn, 1) := by decide +kernel
def site : List Cond := []
def tab : Cond := tabOf yN yB 7 (some .int) site
def P (b : Addr) (A : Cell) (d : Addr) (B : Cell) (o q len : Nat) (args : Array Value) (s : State) : Prop := args = #[.ref b, .int (Int32.ofNat o), .ref d, .int (Int32.ofNat q), .int (Int32.ofNat len)] ∧ Ch b A s ∧ Arr .byte d B s ∧ b ≠ d ∧ o + len ≤ A.slots.size ∧ q + len ≤ B.slots.size ∧ ∀ i, i < len → ¬ 255 < cv A (o + i)
def E (b : Addr) (A : Cell) (d : Addr) (B : Cell) (o q len : Nat) (r : Option Value) (s u : State) : Prop := r = some (.int (Int32.ofNat len)) ∧ ∃ B', Put d B' s u ∧ Laid B B' q (q + len) (fun j => Value.int (lo8 (cv A (o + (j - q)))))
/-- no char of the range above 255: len; the places written hold each char's low byte -/
theorem law (l : Launch) (b : Addr) (A : Cell) (d : Addr) (B : Cell) (o q len : Nat) : Law l yN 5 5 0 0 yB 7 (some .int) site (P b A d B o q len) (E b A d B o q len) (copyLocs d q len) 0 0 := by
  refine Law.of_walk (plainFor_of_name (by decide +kernel)) (by decide +kernel) (by decide +kernel) (by decide) (fun _ _ h => by rw [h.1]; rfl) (fun _ U U' hal hh h => ⟨h.1, h.2.1.mv hal hh, h.2.2.1.mv hal hh, h.2.2.2⟩) (fun r U U' V V' h1 hal h2 h => ⟨h.1, h.2.elim fun B' q => ⟨B', q.1.mv h1 h2, q.2⟩⟩) ?_
  intro p e s m args below meth c s₁ X0 hexec hbytes hml hret hlk hnm hown hh0 W hP
  obtain ⟨rfl, hA, hB, hne, l1, l2, hp⟩ := hP
  have c1 : Steps p.tables e below (s₁.setTop (entryFrame m #[.ref b, .int (Int32.ofNat o), .ref d, .int (Int32.ofNat q), .int (Int32.ofNat len)] 7)) (s₁.setTop (mkF m 0 #[.val (.ref b), .val (.int (Int32.ofNat o)), .val (.ref d), .val (.int (Int32.ofNat q)), .val (.int (Int32.ofNat len)), .unset, .unset] [])) := entry rfl
  have hA0 := hA.1.mv X0.warmed.alike hh0
  have hB0 := hB.mv X0.warmed.alike hh0
  have a31 := hA.1.2.2.2
  have c2 : Steps p.tables e below (s₁.setTop (entryFrame m #[.ref b, .int (Int32.ofNat o), .ref d, .int (Int32.ofNat q), .int (Int32.ofNat len)] 7)) (s₁.setTop (mkF m 3 #[.val (.ref b), .val (.int (Int32.ofNat o)), .val (.ref d), .val (.int (Int32.ofNat q)), .val (.int (Int32.ofNat len)), .val (.int 0), .unset] [])) := c1.trans (by
    refine iconstV X0.here hexec rfl 0 (hb hbytes d0) (by decide) ?_
    refine XS.istore X0.here hexec rfl (hb hbytes d1) rfl rfl ?_
    exact Steps.refl _)
  have loop : ∀ (r i : Nat), i + r = len → ∀ (z : Slot), (z = .unset ∨ ∃ w, z = .val w ∧ w.category = 1) → ∀ (Tl : State) (Bk : Cell), Stand p l e { frames := 0, locals := 0, cells := 0, slots := 0 } s m #[.ref b, .int (Int32.ofNat o), .ref d, .int (Int32.ofNat q), .int (Int32.ofNat len)] below meth c Tl ([] ++ copyLocs d q i) 0 0 → Put d Bk s₁ Tl → Laid B Bk q (q + i) (fun j => Value.int (lo8 (cv A (o + (j - q))))) →
      Steps p.tables e below (s₁.setTop (entryFrame m #[.ref b, .int (Int32.ofNat o), .ref d, .int (Int32.ofNat q), .int (Int32.ofNat len)] 7)) (Tl.setTop (mkF m 3 #[.val (.ref b), .val (.int (Int32.ofNat (o + i))), .val (.ref d), .val (.int (Int32.ofNat (q + i))), .val (.int (Int32.ofNat len)), .val (.int (Int32.ofNat i)), z] [])) → ∃ (T' : State) (B' : Cell) (z' : Slot), Stand p l e { frames := 0, locals := 0, cells := 0, slots := 0 } s m #[.ref b, .int (Int32.ofNat o), .ref d, .int (Int32.ofNat q), .int (Int32.ofNat len)] below meth c T' ([] ++ copyLocs d q len) 0 0 ∧ Put d B' s₁ T' ∧ Laid B B' q (q + len) (fun j => Value.int (lo8 (cv A (o + (j - q))))) ∧
      Steps p.tables e below (s₁.setTop (entryFrame m #[.ref b, .int (Int32.ofNat o), .ref d, .int (Int32.ofNat q), .int (Int32.ofNat len)] 7)) (T'.setTop (mkF m 3 #[.val (.ref b), .val (.int (Int32.ofNat (o + len))), .val (.ref d), .val (.int (Int32.ofNat (q + len))), .val (.int (Int32.ofNat len)), .val (.int (Int32.ofNat len)), z'] [])) := by
    intro r
    induction r with
    | zero =>
      intro i hi z hz Tl Bk Xl pl fl cl
      have hil : i = len := by omega
      rw [hil] at Xl fl cl
      exact ⟨Tl, Bk, z, Xl, pl, fl, cl⟩
    | succ r ih =>
      intro i hi z hz Tl Bk Xl pl fl cl
      have all := X0.warmed.alike.symm.trans Xl.warmed.alike
      have hAl := hA0.keep all (pl.other hne hA0.1)
      have hBk := hB0.like all pl.1 fl.1 fl.2.1 fl.2.2.1
      have hlt : q + i < Bk.slots.size := by rw [fl.2.2.1]; omega
      have c3 : Steps p.tables e below (s₁.setTop (entryFrame m #[.ref b, .int (Int32.ofNat o), .ref d, .int (Int32.ofNat q), .int (Int32.ofNat len)] 7)) (Tl.setTop (mkF m 12 #[.val (.ref b), .val (.int (Int32.ofNat (o + i))), .val (.ref d), .val (.int (Int32.ofNat (q + i))), .val (.int (Int32.ofNat len)), .val (.int (Int32.ofNat i)), z] [.int (Int32.ofNat (o + i)), .ref b])) := cl.trans (by
        refine XS.iload Xl.here hexec rfl (hb hbytes d3) rfl ?_
        refine XS.iload Xl.here hexec rfl (hb hbytes d5) rfl ?_
        refine XS.icmpNo Xl.here hexec rfl (hb hbytes d7) rfl (ii_ge_f (lt32 (by omega) (by omega))) ?_
        refine XS.aloadN Xl.here hexec rfl (hb hbytes d10) rfl rfl ?_
        refine XS.iloadN Xl.here hexec rfl (hb hbytes d11) rfl ?_
        exact Steps.refl _)
      have c4 : Steps p.tables e below (s₁.setTop (entryFrame m #[.ref b, .int (Int32.ofNat o), .ref d, .int (Int32.ofNat q), .int (Int32.ofNat len)] 7)) (Tl.setTop (mkF m 13 #[.val (.ref b), .val (.int (Int32.ofNat (o + i))), .val (.ref d), .val (.int (Int32.ofNat (q + i))), .val (.int (Int32.ofNat len)), .val (.int (Int32.ofNat i)), z] [.int (cv A (o + i))])) := c3.trans (by
        refine Xl.aget hexec hAl rfl (hA.get (i := o + i) (by omega)) rfl rfl (hb hbytes d12) ?_
        exact Steps.refl _)
      have c5 : Steps p.tables e below (s₁.setTop (entryFrame m #[.ref b, .int (Int32.ofNat o), .ref d, .int (Int32.ofNat q), .int (Int32.ofNat len)] 7)) (Tl.setTop (mkF m 15 #[.val (.ref b), .val (.int (Int32.ofNat (o + i))), .val (.ref d), .val (.int (Int32.ofNat (q + i))), .val (.int (Int32.ofNat len)), .val (.int (Int32.ofNat i)), .val (.int (cv A (o + i)))] [])) := c4.trans (by
        refine XS.istoreS Xl.here hexec rfl (hb hbytes d13) rfl rfl hz ?_
        exact Steps.refl _)
      have c6 : Steps p.tables e below (s₁.setTop (entryFrame m #[.ref b, .int (Int32.ofNat o), .ref d, .int (Int32.ofNat q), .int (Int32.ofNat len)] 7)) (Tl.setTop (mkF m 31 #[.val (.ref b), .val (.int (Int32.ofNat (o + i))), .val (.ref d), .val (.int (Int32.ofNat (q + i))), .val (.int (Int32.ofNat len)), .val (.int (Int32.ofNat i)), .val (.int (cv A (o + i)))] [.int (lo8 (cv A (o + i))), .int (Int32.ofNat (q + i)), .ref d])) := c5.trans (by
        refine XS.iload Xl.here hexec rfl (hb hbytes d15) rfl ?_
        refine sipushV Xl.here hexec rfl 255 (hb hbytes d17) (by decide) ?_
        refine XS.icmpYes Xl.here hexec rfl (pc0 := 20) rfl (hb hbytes d20) rfl (ii_le_t (hp i (by omega))) (by decide) rfl ?_
        refine XS.aloadN Xl.here hexec rfl (hb hbytes d26) rfl rfl ?_
        refine XS.iloadN Xl.here hexec rfl (hb hbytes d27) rfl ?_
        refine XS.iload Xl.here hexec rfl (hb hbytes d28) rfl ?_
        refine i2b Xl.here hexec rfl (hb hbytes d30) rfl ?_
        exact Steps.refl _)
      obtain ⟨T7, X7, p7, st7⟩ := Xl.aput hexec hBk rfl hlt rfl (fits_lo8 (cv A (o + i))) (g := (mkF m 31 #[.val (.ref b), .val (.int (Int32.ofNat (o + i))), .val (.ref d), .val (.int (Int32.ofNat (q + i))), .val (.int (Int32.ofNat len)), .val (.int (Int32.ofNat i)), .val (.int (cv A (o + i)))] [.int (lo8 (cv A (o + i))), .int (Int32.ofNat (q + i)), .ref d])) rfl (rest := []) rfl (hb hbytes d31)
      have c8 : Steps p.tables e below (s₁.setTop (entryFrame m #[.ref b, .int (Int32.ofNat o), .ref d, .int (Int32.ofNat q), .int (Int32.ofNat len)] 7)) (T7.setTop (mkF m 32 #[.val (.ref b), .val (.int (Int32.ofNat (o + i))), .val (.ref d), .val (.int (Int32.ofNat (q + i))), .val (.int (Int32.ofNat len)), .val (.int (Int32.ofNat i)), .val (.int (cv A (o + i)))] [])) := c6.trans (st7 _ (Steps.refl _))
      have c9 : Steps p.tables e below (s₁.setTop (entryFrame m #[.ref b, .int (Int32.ofNat o), .ref d, .int (Int32.ofNat q), .int (Int32.ofNat len)] 7)) (T7.setTop (mkF m 3 #[.val (.ref b), .val (.int (Int32.ofNat (o + i) + 1)), .val (.ref d), .val (.int (Int32.ofNat (q + i) + 1)), .val (.int (Int32.ofNat len)), .val (.int (Int32.ofNat i + 1)), .val (.int (cv A (o + i)))] [])) := c8.trans (by
        refine iincV X7.here hexec rfl 1 (hb hbytes d32) (by decide) rfl rfl ?_
        refine iincV X7.here hexec rfl 1 (hb hbytes d35) (by decide) rfl rfl ?_
        refine iincV X7.here hexec rfl 1 (hb hbytes d38) (by decide) rfl rfl ?_
        refine XS.goto X7.here hexec rfl (pc0 := 41) rfl (hb hbytes d41) (by decide) rfl ?_
        exact Steps.refl _)
      have c10 : Steps p.tables e below (s₁.setTop (entryFrame m #[.ref b, .int (Int32.ofNat o), .ref d, .int (Int32.ofNat q), .int (Int32.ofNat len)] 7)) (T7.setTop (mkF m 3 #[.val (.ref b), .val (.int (Int32.ofNat (o + (i + 1)))), .val (.ref d), .val (.int (Int32.ofNat (q + (i + 1)))), .val (.int (Int32.ofNat len)), .val (.int (Int32.ofNat (i + 1))), .val (.int (cv A (o + i)))] [])) := by
        have := c9
        rw [succ32, succ32, succ32] at this
        exact this
      exact ih (i + 1) (by omega) _ (Or.inr ⟨_, rfl, rfl⟩) T7 _ (by rw [copyLocs_step, ← List.append_assoc]; exact X7) (pl.trans p7) (fl.step (by omega) hlt (by simp)) c10
  obtain ⟨T9, B9, z9, X9, p9, f9, g9⟩ := loop len 0 (by omega) .unset (Or.inl rfl) s₁ B (by simpa [copyLocs] using X0) ⟨hB0.1, fun _ _ => rfl, rfl⟩ (Laid.zero _ _ _) c2
  have c11 : Steps p.tables e below (s₁.setTop (entryFrame m #[.ref b, .int (Int32.ofNat o), .ref d, .int (Int32.ofNat q), .int (Int32.ofNat len)] 7)) (T9.setTop (mkF m 46 #[.val (.ref b), .val (.int (Int32.ofNat (o + len))), .val (.ref d), .val (.int (Int32.ofNat (q + len))), .val (.int (Int32.ofNat len)), .val (.int (Int32.ofNat len)), z9] [.int (Int32.ofNat len)])) := g9.trans (by
    refine XS.iload X9.here hexec rfl (hb hbytes d3) rfl ?_
    refine XS.iload X9.here hexec rfl (hb hbytes d5) rfl ?_
    refine XS.icmpYes X9.here hexec rfl (pc0 := 7) rfl (hb hbytes d7) rfl (ii_ge_t (nlt32 (by omega) (Nat.le_refl _))) (by decide) rfl ?_
    refine XS.iload X9.here hexec rfl (hb hbytes d44) rfl ?_
    exact Steps.refl _)
  exact ⟨T9, some (.int (Int32.ofNat len)), _, _, _, X9, by simp, rfl, rfl, (fun h => by cases h), ⟨rfl, B9, p9.from hh0, f9⟩, fun fs hl => c11.trans (X9.ireturnOut hexec hret rfl (Or.inl rfl) (hb hbytes d46) hl)⟩
end Cmp5
namespace Cmp3
def yN : MethodName := ⟨"java/lang/StringUTF16", "compress", "([CII)[B"⟩
abbrev yB : ByteArray := jdk_52_method_16_code
theorem d0 : decode yB 0 = .ok (.iload_n 2, 1) := by decide +kernel
theorem d1 : decode yB 1 = .ok (.newarray .byte, 2) := by decide +kernel
theorem d3 : decode yB 3 = .ok (.astore_n 3, 1) := by decide +kernel
theorem d4 : decode yB 4 = .ok (.aload_n 0, 1) := by decide +kernel
theorem d5 : decode yB 5 = .ok (.iload_n 1, 1) := by decide +kernel
theorem d6 : decode yB 6 = .ok (.aload_n 3, 1) := by decide +kernel
theorem d7 : decode yB 7 = .ok (.iconst 0, 1) := by decide +kernel
theorem d8 : decode yB 8 = .ok (.iload_n 2, 1) := by decide +kernel
theorem d9 : decode yB 9 = .ok (.invokestatic 115, 3) := by decide +kernel
theorem d12 : decode yB 12 = .ok (.istore 4, 2) := by decide +kernel
theorem d14 : decode yB 14 = .ok (.iload 4, 2) := by decide +kernel
theorem d16 : decode yB 16 = .ok (.iload_n 2, 1) := by decide +kernel
theorem d17 : decode yB 17 = .ok (.if_icmp (.eq) 40, 3) := by decide +kernel
theorem d57 : decode yB 57 = .ok (.aload_n 3, 1) := by decide +kernel
theorem d58 : decode yB 58 = .ok (.areturn, 1) := by decide +kernel
def site : List Cond := [.arrayClass .byte, Cmp5.tab] ++ staticW U16 115 Cmp5.yN
def tab : Cond := tabOf yN yB 6 (some (.array .byte)) site
def P (b : Addr) (A : Cell) (o len : Nat) (args : Array Value) (s : State) : Prop := args = #[.ref b, .int (Int32.ofNat o), .int (Int32.ofNat len)] ∧ Ch b A s ∧ o + len ≤ A.slots.size ∧ len ≤ 536870912 ∧ ∀ i, i < len → ¬ 255 < cv A (o + i)
def E (b : Addr) (A : Cell) (o len : Nat) (r : Option Value) (s u : State) : Prop := NewArr .byte "[B" len (fun j => .int (lo8 (cv A (o + j)))) r s u ∧ u.heap.size = s.heap.size + 1
/-- no char of the range above 255: a new byte[] of their low bytes -/
theorem law (l : Launch) (b : Addr) (A : Cell) (o len : Nat) : Law l yN 3 3 1 18 yB 6 (some (.array .byte)) site (P b A o len) (E b A o len) [] 1 len := by
  refine Law.of_walk (plainFor_of_name (by decide +kernel)) (by decide +kernel) (by decide +kernel) (by decide) (fun _ _ h => by rw [h.1]; rfl) (fun _ U U' hal hh h => ⟨h.1, h.2.1.mv hal hh, h.2.2⟩) (fun r U U' V V' h1 hal h2 h => ⟨NewArr.mv r U U' V V' h1 hal h2 h.1, by rw [h1, h2]; exact h.2⟩) ?_
  intro p e s m args below meth c s₁ X0 hexec hbytes hml hret hlk hnm hown hh0 W hP
  obtain ⟨rfl, hA, l1, l2, hp⟩ := hP
  have a31 := hA.1.2.2.2
  have c1 : Steps p.tables e below (s₁.setTop (entryFrame m #[.ref b, .int (Int32.ofNat o), .int (Int32.ofNat len)] 6)) (s₁.setTop (mkF m 0 #[.val (.ref b), .val (.int (Int32.ofNat o)), .val (.int (Int32.ofNat len)), .unset, .unset, .unset] [])) := entry rfl
  have c2 : Steps p.tables e below (s₁.setTop (entryFrame m #[.ref b, .int (Int32.ofNat o), .int (Int32.ofNat len)] 6)) (s₁.setTop (mkF m 1 #[.val (.ref b), .val (.int (Int32.ofNat o)), .val (.int (Int32.ofNat len)), .unset, .unset, .unset] [.int (Int32.ofNat len)])) := c1.trans (by
    refine XS.iloadN X0.here hexec rfl (hb hbytes d0) rfl ?_
    exact Steps.refl _)
  obtain ⟨T3, B3, X3, ba3, bs3, bv3, bh3, bf3, st3⟩ := X0.anew hexec (atype := .byte) (wk W (.arrayClass .byte)) rfl (by show len * 1 ≤ _; omega) (by omega) (g := (mkF m 1 #[.val (.ref b), .val (.int (Int32.ofNat o)), .val (.int (Int32.ofNat len)), .unset, .unset, .unset] [.int (Int32.ofNat len)])) rfl (hb hbytes d1) (rest := []) rfl (Nat.le_refl _) (by show 0 + len ≤ len; omega)
  rw [hh0] at ba3 st3
  have kp3 : XT.Kept s T3 := (XT.Kept.of_eq hh0).push bh3
  have hA3 := hA.keep X3.warmed.alike (kp3 _ _ hA.1.1)
  have hne : b ≠ s.heap.size := hA.1.ne
  have c4 : Steps p.tables e below (s₁.setTop (entryFrame m #[.ref b, .int (Int32.ofNat o), .int (Int32.ofNat len)] 6)) (T3.setTop (mkF m 3 #[.val (.ref b), .val (.int (Int32.ofNat o)), .val (.int (Int32.ofNat len)), .unset, .unset, .unset] [.ref s.heap.size])) := c2.trans (st3 _ (Steps.refl _))
  have c5 : Steps p.tables e below (s₁.setTop (entryFrame m #[.ref b, .int (Int32.ofNat o), .int (Int32.ofNat len)] 6)) (T3.setTop (mkF m 9 #[.val (.ref b), .val (.int (Int32.ofNat o)), .val (.int (Int32.ofNat len)), .val (.ref s.heap.size), .unset, .unset] [.int (Int32.ofNat len), .int 0, .ref s.heap.size, .int (Int32.ofNat o), .ref b])) := c4.trans (by
    refine XS.astoreN X3.here hexec rfl (hb hbytes d3) rfl rfl rfl ?_
    refine XS.aloadN X3.here hexec rfl (hb hbytes d4) rfl rfl ?_
    refine XS.iloadN X3.here hexec rfl (hb hbytes d5) rfl ?_
    refine XS.aloadN X3.here hexec rfl (hb hbytes d6) rfl rfl ?_
    refine iconstV X3.here hexec rfl 0 (hb hbytes d7) (by decide) ?_
    refine XS.iloadN X3.here hexec rfl (hb hbytes d8) rfl ?_
    exact Steps.refl _)
  obtain ⟨v6, T6, X6, E6, g6⟩ := X3.callS hexec (Cmp5.law l b A s.heap.size B3 o 0 len) hown (wks W (staticW U16 115 Cmp5.yN)) (wk W Cmp5.tab) (W := 0) (Nat.le_of_ble_eq_true rfl) (Nat.le_of_ble_eq_true rfl) (Nat.le_refl _) (by show 0 + len + 0 ≤ len; omega) (g := (mkF m 9 #[.val (.ref b), .val (.int (Int32.ofNat o)), .val (.int (Int32.ofNat len)), .val (.ref s.heap.size), .unset, .unset] [.int (Int32.ofNat len), .int (Int32.ofNat 0), .ref s.heap.size, .int (Int32.ofNat o), .ref b])) rfl (by rw [hml]; rfl) c5 (argsL := [.ref b, .int (Int32.ofNat o), .ref s.heap.size, .int (Int32.ofNat 0), .int (Int32.ofNat len)]) (rest := []) rfl rfl (by show 2 * 0 + 0 ≤ _; decide) (hb hbytes d9) (⟨rfl, hA3, ba3, hne, l1, by rw [bs3]; simp, hp⟩)
  obtain ⟨rfl, B6, p6, f6⟩ := E6
  have c7 : Steps p.tables e below (s₁.setTop (entryFrame m #[.ref b, .int (Int32.ofNat o), .int (Int32.ofNat len)] 6)) (T6.setTop (mkF m 12 #[.val (.ref b), .val (.int (Int32.ofNat o)), .val (.int (Int32.ofNat len)), .val (.ref s.heap.size), .unset, .unset] [.int (Int32.ofNat len)])) := g6
  have c8 : Steps p.tables e below (s₁.setTop (entryFrame m #[.ref b, .int (Int32.ofNat o), .int (Int32.ofNat len)] 6)) (T6.setTop (mkF m 58 #[.val (.ref b), .val (.int (Int32.ofNat o)), .val (.int (Int32.ofNat len)), .val (.ref s.heap.size), .val (.int (Int32.ofNat len)), .unset] [.ref s.heap.size])) := c7.trans (by
    refine XS.istore X6.here hexec rfl (hb hbytes d12) rfl rfl ?_
    refine XS.iload X6.here hexec rfl (hb hbytes d14) rfl ?_
    refine XS.iloadN X6.here hexec rfl (hb hbytes d16) rfl ?_
    refine XS.icmpYes X6.here hexec rfl (pc0 := 17) rfl (hb hbytes d17) rfl (ii_eq_t rfl) (by decide) rfl ?_
    refine XS.aloadN X6.here hexec rfl (hb hbytes d57) rfl rfl ?_
    exact Steps.refl _)
  have X8 := X6.wide (L' := []) (cells' := 1) (slots' := len) (fun x hx hlt => by
    simp only [List.nil_append, copyLocs, List.mem_map, List.mem_range] at hx
    obtain ⟨i, -, rfl⟩ := hx
    exact absurd hlt (Nat.lt_irrefl _)) (Nat.le_refl _) (by omega)
  exact ⟨T6, some (.ref s.heap.size), _, _, _, X8, rfl, rfl, rfl, (fun h => by cases h), ⟨⟨rfl, B6, ba3.like (X3.warmed.alike.symm.trans X6.warmed.alike) p6.1 f6.1 f6.2.1 f6.2.2.1, f6.2.1.trans bv3, by rw [X6.warmed.alike.findClass, f6.1]; exact bf3, by rw [f6.2.2.1, bs3]; simp, fun j hj => by rw [f6.2.2.2 j, if_pos (by omega)]; rfl, kp3.put p6 (Nat.le_refl _)⟩, by rw [p6.2.2, bh3, hh0]; simp⟩, fun fs hl => c8.trans (X8.areturnOut hexec rfl hret rfl (hb hbytes d58) hl)⟩
end Cmp3
namespace CodL
def yN : MethodName := ⟨"java/lang/StringUTF16", "coderFromArrayLen", "([BI)B"⟩
abbrev yB : ByteArray := jdk_52_method_15_code
theorem d0 : decode yB 0 = .ok (.iload_n 1, 1) := by decide +kernel
theorem d1 : decode yB 1 = .ok (.aload_n 0, 1) := by decide +kernel
theorem d2 : decode yB 2 = .ok (.arraylength, 1) := by decide +kernel
theorem d3 : decode yB 3 = .ok (.isub, 1) := by decide +kernel
theorem d4 : decode yB 4 = .ok (.bipush 31, 2) := by decide +kernel
theorem d6 : decode yB 6 = .ok (.iushr, 1) := by decide +kernel
theorem d7 : decode yB 7 = .ok (.i2b, 1) := by decide +kernel
theorem d8 : decode yB 8 = .ok (.ireturn, 1) := by decide +kernel
def site : List Cond := []
def tab : Cond := tabOf yN yB 2 (some .byte) site
def P (d : Addr) (B : Cell) (args : Array Value) (s : State) : Prop := args = #[.ref d, .int (Int32.ofNat B.slots.size)] ∧ Arr .byte d B s
def E (r : Option Value) (s u : State) : Prop := XT.PureE (some (.int 0)) r s u
/-- an array as long as the number of chars: LATIN1 -/
theorem law (l : Launch) (d : Addr) (B : Cell) : Law l yN 2 2 0 0 yB 2 (some .byte) site (P d B) E [] 0 0 := by
  refine Law.of_walk (plainFor_of_name (by decide +kernel)) (by decide +kernel) (by decide +kernel) (by decide) (fun _ _ h => by rw [h.1]; rfl) (fun _ U U' hal hh h => ⟨h.1, h.2.mv hal hh⟩) (fun r U U' V V' h1 hal h2 h => XT.PureE.mv r U U' V V' h1 hal h2 h) ?_
  intro p e s m args below meth c s₁ X0 hexec hbytes hml hret hlk hnm hown hh0 W hP
  obtain ⟨rfl, hB⟩ := hP
  have hB0 := hB.mv X0.warmed.alike hh0
  have c1 : Steps p.tables e below (s₁.setTop (entryFrame m #[.ref d, .int (Int32.ofNat B.slots.size)] 2)) (s₁.setTop (mkF m 0 #[.val (.ref d), .val (.int (Int32.ofNat B.slots.size))] [])) := entry rfl
  have c2 : Steps p.tables e below (s₁.setTop (entryFrame m #[.ref d, .int (Int32.ofNat B.slots.size)] 2)) (s₁.setTop (mkF m 2 #[.val (.ref d), .val (.int (Int32.ofNat B.slots.size))] [.ref d, .int (Int32.ofNat B.slots.size)])) := c1.trans (by
    refine XS.iloadN X0.here hexec rfl (hb hbytes d0) rfl ?_
    refine XS.aloadN X0.here hexec rfl (hb hbytes d1) rfl rfl ?_
    exact Steps.refl _)
  have c3 : Steps p.tables e below (s₁.setTop (entryFrame m #[.ref d, .int (Int32.ofNat B.slots.size)] 2)) (s₁.setTop (mkF m 8 #[.val (.ref d), .val (.int (Int32.ofNat B.slots.size))] [.int (lo8 (ushr (Int32.ofNat B.slots.size - Int32.ofNat B.slots.size) 31))])) := c2.trans (by
    refine X0.alen hexec hB0 rfl rfl (hb hbytes d2) ?_
    refine XS.isub X0.here hexec rfl (hb hbytes d3) rfl ?_
    refine bipushV X0.here hexec rfl 31 (hb hbytes d4) (by decide) ?_
    refine iushr X0.here hexec rfl (hb hbytes d6) rfl ?_
    refine i2b X0.here hexec rfl (hb hbytes d7) rfl ?_
    exact Steps.refl _)
  have e0 : lo8 (ushr (Int32.ofNat B.slots.size - Int32.ofNat B.slots.size) 31) = 0 := by rw [Int32.sub_self]; decide
  rw [e0] at c3
  exact ⟨s₁, some (.int 0), _, _, _, X0, rfl, rfl, rfl, (fun h => by cases h), ⟨rfl, hh0⟩, fun fs hl => c3.trans (X0.ireturnOut hexec hret rfl (Or.inr (Or.inr (Or.inl rfl))) (hb hbytes d8) hl)⟩
end CodL
/-- the String at a is Latin-1 over a new byte[] (the heap's one new cell): the low bytes of the len chars of A from o on; every cell but a is kept -/
def Got (a : Addr) (D : Cell) (fV fC : Field) (A : Cell) (o len : Nat) (r : Option Value) (s u : State) : Prop := r = none ∧ ∃ D' V : Cell, Blank "java/lang/String" a D' u ∧ Same D D' [fV.slot, fC.slot] ∧ D'.slots[fV.slot]? = some (.ref s.heap.size) ∧ D'.slots[fC.slot]? = some (.int 0) ∧ Arr .byte s.heap.size V u ∧ V.vm = .none ∧ u.vm.findClass "[B" = some V.cls ∧ V.slots.size = len ∧ (∀ j, j < len → V.slots[j]? = some (.int (lo8 (cv A (o + j))))) ∧ (∀ (y : Addr) (c : Cell), y ≠ a → s.heap[y]? = some c → u.heap[y]? = some c) ∧ u.heap.size = s.heap.size + 1
theorem Got.mv {a : Addr} {D A : Cell} {fV fC : Field} {o len : Nat} : ∀ r (U U' V V' : State), U'.heap = U.heap → V.vm.Alike V'.vm → V'.heap = V.heap → Got a D fV fC A o len r U V → Got a D fV fC A o len r U' V' :=
  fun r U U' V V' h1 hal h2 ⟨e0, D', X, a1, a2, a3, a4, a5, a6, a7, a8, a9, a10, a11⟩ => ⟨e0, D', X, a1.mv hal h2, a2, by rw [h1]; exact a3, a4, by rw [h1]; exact a5.mv hal h2, a6, by rw [hal.findClass]; exact a7, a8, a9, by rw [h1, h2]; exact a10, by rw [h1, h2]; exact a11⟩
namespace New4
def yN : MethodName := ⟨"java/lang/String", "<init>", "([CIILjava/lang/Void;)V"⟩
abbrev yB : ByteArray := jdk_42_method_149_code
theorem d0 : decode yB 0 = .ok (.aload_n 0, 1) := by decide +kernel
theorem d1 : decode yB 1 = .ok (.invokespecial 1, 3) := by decide +kernel
theorem d4 : decode yB 4 = .ok (.iload_n 3, 1) := by decide +kernel
theorem d5 : decode yB 5 = .ok (.ifCond (.ne) 22, 3) := by decide +kernel
theorem d27 : decode yB 27 = .ok (.getstatic 38, 3) := by decide +kernel
theorem d30 : decode yB 30 = .ok (.ifCond (.eq) 28, 3) := by decide +kernel
theorem d33 : decode yB 33 = .ok (.aload_n 1, 1) := by decide +kernel
theorem d34 : decode yB 34 = .ok (.iload_n 2, 1) := by decide +kernel
theorem d35 : decode yB 35 = .ok (.iload_n 3, 1) := by decide +kernel
theorem d36 : decode yB 36 = .ok (.invokestatic 177, 3) := by decide +kernel
theorem d39 : decode yB 39 = .ok (.astore 5, 2) := by decide +kernel
theorem d41 : decode yB 41 = .ok (.aload_n 0, 1) := by decide +kernel
theorem d42 : decode yB 42 = .ok (.aload 5, 2) := by decide +kernel
theorem d44 : decode yB 44 = .ok (.iload_n 3, 1) := by decide +kernel
theorem d45 : decode yB 45 = .ok (.invokestatic 47, 3) := by decide +kernel
theorem d48 : decode yB 48 = .ok (.putfield 15, 3) := by decide +kernel
theorem d51 : decode yB 51 = .ok (.aload_n 0, 1) := by decide +kernel
theorem d52 : decode yB 52 = .ok (.aload 5, 2) := by decide +kernel
theorem d54 : decode yB 54 = .ok (.putfield 9, 3) := by decide +kernel
theorem d57 : decode yB 57 = .ok (.return_, 1) := by decide +kernel
def site : List Cond := [.fieldLink "java/lang/String" 38 "java/lang/String" "COMPACT_STRINGS" "Z", Cmp3.tab, CodL.tab, .laysFinal "java/lang/String" "java/lang/String" "value" "[B", .fieldLink "java/lang/String" 9 "java/lang/String" "value" "[B", .laysFinal "java/lang/String" "java/lang/String" "coder" "B", .fieldLink "java/lang/String" 15 "java/lang/String" "coder" "B"] ++ objW "java/lang/String" 1 ++ staticW "java/lang/String" 177 Cmp3.yN ++ staticW "java/lang/String" 47 CodL.yN
def tab : Cond := tabOf yN yB 6 none site
def P (a : Addr) (D : Cell) (fV fC : Field) (b : Addr) (A : Cell) (z : Int32) (o len : Nat) (args : Array Value) (s : State) : Prop := args = #[.ref a, .ref b, .int (Int32.ofNat o), .int (Int32.ofNat len), .null] ∧ Blank "java/lang/String" a D s ∧ Found "java/lang/String" "value" "[B" fV s ∧ Found "java/lang/String" "coder" "B" fC s ∧ Ch b A s ∧ StaticIs s "java/lang/String" "COMPACT_STRINGS" "Z" (.int z) ∧ ¬ z = 0 ∧ 0 < len ∧ o + len ≤ A.slots.size ∧ len ≤ 536870912 ∧ ∀ i, i < len → ¬ 255 < cv A (o + i)
def E (a : Addr) (D : Cell) (fV fC : Field) (A : Cell) (o len : Nat) (r : Option Value) (s u : State) : Prop := Got a D fV fC A o len r s u
/-- len > 0, no char of the range above 255: a Latin-1 String of their low bytes -/
theorem law (l : Launch) (a : Addr) (D : Cell) (fV fC : Field) (b : Addr) (A : Cell) (z : Int32) (o len : Nat) : Law l yN 5 4 2 35 yB 6 none site (P a D fV fC b A z o len) (E a D fV fC A o len) [⟨a, fC.slot⟩, ⟨a, fV.slot⟩] 1 len := by
  refine Law.of_walk (plainFor_of_name (by decide +kernel)) (by decide +kernel) (by decide +kernel) (by decide) (fun _ _ h => by rw [h.1]; rfl) (fun _ U U' hal hh h => ⟨h.1, h.2.1.mv hal hh, h.2.2.1.al hal, h.2.2.2.1.al hal, h.2.2.2.2.1.mv hal hh, h.2.2.2.2.2.1.there hal hh, h.2.2.2.2.2.2⟩) (fun r U U' V V' h1 hal h2 h => Got.mv r U U' V V' h1 hal h2 h) ?_
  intro p e s m args below meth c s₁ X0 hexec hbytes hml hret hlk hnm hown hh0 W hP
  obtain ⟨rfl, hB, f1, f2, hA, s1, hz, l0, l1, l2, hp⟩ := hP
  have a31 := hA.1.2.2.2
  have c1 : Steps p.tables e below (s₁.setTop (entryFrame m #[.ref a, .ref b, .int (Int32.ofNat o), .int (Int32.ofNat len), .null] 6)) (s₁.setTop (mkF m 0 #[.val (.ref a), .val (.ref b), .val (.int (Int32.ofNat o)), .val (.int (Int32.ofNat len)), .val .null, .unset] [])) := entry rfl
  have c2 : Steps p.tables e below (s₁.setTop (entryFrame m #[.ref a, .ref b, .int (Int32.ofNat o), .int (Int32.ofNat len), .null] 6)) (s₁.setTop (mkF m 1 #[.val (.ref a), .val (.ref b), .val (.int (Int32.ofNat o)), .val (.int (Int32.ofNat len)), .val .null, .unset] [.ref a])) := c1.trans (by
    refine XS.aloadN X0.here hexec rfl (hb hbytes d0) rfl rfl ?_
    exact Steps.refl _)
  obtain ⟨T3, X3, q3, st3⟩ := X0.oinit hexec hown (wks W (objW "java/lang/String" 1)) (g := (mkF m 1 #[.val (.ref a), .val (.ref b), .val (.int (Int32.ofNat o)), .val (.int (Int32.ofNat len)), .val .null, .unset] [.ref a])) rfl (by rw [hml]; rfl) (rest := []) rfl (hb hbytes d1) (W := 0) (by show 2 * 0 + 0 ≤ _; decide) (Nat.le_of_ble_eq_true rfl) (Nat.le_of_ble_eq_true rfl)
  have hh3 := q3.trans hh0
  have c4 : Steps p.tables e below (s₁.setTop (entryFrame m #[.ref a, .ref b, .int (Int32.ofNat o), .int (Int32.ofNat len), .null] 6)) (T3.setTop (mkF m 27 #[.val (.ref a), .val (.ref b), .val (.int (Int32.ofNat o)), .val (.int (Int32.ofNat len)), .val .null, .unset] [])) := (c2.trans (st3 _ (Steps.refl _))).trans (by
    refine XS.iloadN X3.here hexec rfl (hb hbytes d4) rfl ?_
    refine XS.ifYes X3.here hexec rfl (pc0 := 5) rfl (hb hbytes d5) rfl (i0_ne_t (nz32 (by omega) l0)) (by decide) rfl ?_
    exact Steps.refl _)
  obtain ⟨T5, X5, q5, st5⟩ := X3.sget hexec hown (wk W (.fieldLink "java/lang/String" 38 "java/lang/String" "COMPACT_STRINGS" "Z")) s1 (fun _ _ h => by rw [hh3]; exact h) (g := (mkF m 27 #[.val (.ref a), .val (.ref b), .val (.int (Int32.ofNat o)), .val (.int (Int32.ofNat len)), .val .null, .unset] [])) rfl (hb hbytes d27)
  have hh5 := q5.trans hh3
  have c6 : Steps p.tables e below (s₁.setTop (entryFrame m #[.ref a, .ref b, .int (Int32.ofNat o), .int (Int32.ofNat len), .null] 6)) (T5.setTop (mkF m 30 #[.val (.ref a), .val (.ref b), .val (.int (Int32.ofNat o)), .val (.int (Int32.ofNat len)), .val .null, .unset] [.int z])) := c4.trans (st5 _ (Steps.refl _))
  have c7 : Steps p.tables e below (s₁.setTop (entryFrame m #[.ref a, .ref b, .int (Int32.ofNat o), .int (Int32.ofNat len), .null] 6)) (T5.setTop (mkF m 36 #[.val (.ref a), .val (.ref b), .val (.int (Int32.ofNat o)), .val (.int (Int32.ofNat len)), .val .null, .unset] [.int (Int32.ofNat len), .int (Int32.ofNat o), .ref b])) := c6.trans (by
    refine XS.ifNo X5.here hexec rfl (hb hbytes d30) rfl (i0_eq_f hz) ?_
    refine XS.aloadN X5.here hexec rfl (hb hbytes d33) rfl rfl ?_
    refine XS.iloadN X5.here hexec rfl (hb hbytes d34) rfl ?_
    refine XS.iloadN X5.here hexec rfl (hb hbytes d35) rfl ?_
    exact Steps.refl _)
  obtain ⟨v8, T8, X8, E8, g8⟩ := X5.callS hexec (Cmp3.law l b A o len) hown (wks W (staticW "java/lang/String" 177 Cmp3.yN)) (wk W Cmp3.tab) (W := 0) (Nat.le_of_ble_eq_true rfl) (Nat.le_of_ble_eq_true rfl) (Nat.le_refl _) (by show 0 + len ≤ len; omega) (g := (mkF m 36 #[.val (.ref a), .val (.ref b), .val (.int (Int32.ofNat o)), .val (.int (Int32.ofNat len)), .val .null, .unset] [.int (Int32.ofNat len), .int (Int32.ofNat o), .ref b])) rfl (by rw [hml]; rfl) c7 (argsL := [.ref b, .int (Int32.ofNat o), .int (Int32.ofNat len)]) (rest := []) rfl rfl (by show 2 * 0 + 0 ≤ _; decide) (hb hbytes d36) (⟨rfl, hA.mv X5.warmed.alike hh5, l1, l2, hp⟩)
  obtain ⟨e8, z8⟩ := E8
  obtain ⟨rfl, N, n1, n2, n3, n4, n5, n6⟩ := NewArr.mv _ T5 s _ _ hh5.symm (Vm.Alike.refl _) rfl e8
  rw [hh5] at z8
  have hB1 := hB.keep X8.warmed.alike (n6 _ _ hB.1)
  have hne : s.heap.size ≠ a := (Nat.ne_of_lt (Array.getElem?_eq_some_iff.mp hB.1).1).symm
  have c9 : Steps p.tables e below (s₁.setTop (entryFrame m #[.ref a, .ref b, .int (Int32.ofNat o), .int (Int32.ofNat len), .null] 6)) (T8.setTop (mkF m 39 #[.val (.ref a), .val (.ref b), .val (.int (Int32.ofNat o)), .val (.int (Int32.ofNat len)), .val .null, .unset] [.ref s.heap.size])) := g8
  have c10 : Steps p.tables e below (s₁.setTop (entryFrame m #[.ref a, .ref b, .int (Int32.ofNat o), .int (Int32.ofNat len), .null] 6)) (T8.setTop (mkF m 45 #[.val (.ref a), .val (.ref b), .val (.int (Int32.ofNat o)), .val (.int (Int32.ofNat len)), .val .null, .val (.ref s.heap.size)] [.int (Int32.ofNat N.slots.size), .ref s.heap.size, .ref a])) := by
    have hc : Steps p.tables e below (s₁.setTop (entryFrame m #[.ref a, .ref b, .int (Int32.ofNat o), .int (Int32.ofNat len), .null] 6)) (T8.setTop (mkF m 45 #[.val (.ref a), .val (.ref b), .val (.int (Int32.ofNat o)), .val (.int (Int32.ofNat len)), .val .null, .val (.ref s.heap.size)] [.int (Int32.ofNat len), .ref s.heap.size, .ref a])) := c9.trans (by
      refine XS.astore X8.here hexec rfl (hb hbytes d39) rfl rfl rfl ?_
      refine XS.aloadN X8.here hexec rfl (hb hbytes d41) rfl rfl ?_
      refine XS.aload X8.here hexec rfl (hb hbytes d42) rfl rfl ?_
      refine XS.iloadN X8.here hexec rfl (hb hbytes d44) rfl ?_
      exact Steps.refl _)
    rw [n4]; exact hc
  obtain ⟨v11, T11, X11, E11, g11⟩ := X8.callS hexec (CodL.law l s.heap.size N) hown (wks W (staticW "java/lang/String" 47 CodL.yN)) (wk W CodL.tab) (W := 1) (Nat.le_of_ble_eq_true rfl) (Nat.le_of_ble_eq_true rfl) (Nat.le_refl _) (by show 0 + len + 0 ≤ len; omega) (g := (mkF m 45 #[.val (.ref a), .val (.ref b), .val (.int (Int32.ofNat o)), .val (.int (Int32.ofNat len)), .val .null, .val (.ref s.heap.size)] [.int (Int32.ofNat N.slots.size), .ref s.heap.size, .ref a])) rfl (by rw [hml]; rfl) c10 (argsL := [.ref s.heap.size, .int (Int32.ofNat N.slots.size)]) (rest := [.ref a]) rfl rfl (by show 2 * 0 + (1 + 0) ≤ _; decide) (hb hbytes d45) (⟨rfl, n1⟩)
  obtain ⟨rfl, q11⟩ := E11
  have hB11 := hB1.mv (X8.warmed.alike.symm.trans X11.warmed.alike) q11
  have c12 : Steps p.tables e below (s₁.setTop (entryFrame m #[.ref a, .ref b, .int (Int32.ofNat o), .int (Int32.ofNat len), .null] 6)) (T11.setTop (mkF m 48 #[.val (.ref a), .val (.ref b), .val (.int (Int32.ofNat o)), .val (.int (Int32.ofNat len)), .val .null, .val (.ref s.heap.size)] [.int 0, .ref a])) := g11
  obtain ⟨T13, X13, p13, bl13, sl13, st13⟩ := X11.finit hexec hown (wk W (.fieldLink "java/lang/String" 15 "java/lang/String" "coder" "B")) (Or.inr ⟨_, (wk W (.laysFinal "java/lang/String" "java/lang/String" "coder" "B"))⟩) (Or.inl ⟨rfl, hnm⟩) f2 (Or.inl rfl) hB11 (t := .byte) (by decide +kernel) rfl (g := (mkF m 48 #[.val (.ref a), .val (.ref b), .val (.int (Int32.ofNat o)), .val (.int (Int32.ofNat len)), .val .null, .val (.ref s.heap.size)] [.int 0, .ref a])) rfl (rest := []) rfl (hb hbytes d48)
  have c14 : Steps p.tables e below (s₁.setTop (entryFrame m #[.ref a, .ref b, .int (Int32.ofNat o), .int (Int32.ofNat len), .null] 6)) (T13.setTop (mkF m 54 #[.val (.ref a), .val (.ref b), .val (.int (Int32.ofNat o)), .val (.int (Int32.ofNat len)), .val .null, .val (.ref s.heap.size)] [.ref s.heap.size, .ref a])) := (c12.trans (st13 _ (Steps.refl _))).trans (by
    refine XS.aloadN X13.here hexec rfl (hb hbytes d51) rfl rfl ?_
    refine XS.aload X13.here hexec rfl (hb hbytes d52) rfl rfl ?_
    exact Steps.refl _)
  obtain ⟨T15, X15, p15, bl15, sl15, st15⟩ := X13.finit hexec hown (wk W (.fieldLink "java/lang/String" 9 "java/lang/String" "value" "[B")) (Or.inr ⟨_, (wk W (.laysFinal "java/lang/String" "java/lang/String" "value" "[B"))⟩) (Or.inl ⟨rfl, hnm⟩) f1 (Or.inl rfl) bl13 (t := (.array .byte)) (by decide +kernel) rfl (g := (mkF m 54 #[.val (.ref a), .val (.ref b), .val (.int (Int32.ofNat o)), .val (.int (Int32.ofNat len)), .val .null, .val (.ref s.heap.size)] [.ref s.heap.size, .ref a])) rfl (rest := []) rfl (hb hbytes d54)
  have c16 : Steps p.tables e below (s₁.setTop (entryFrame m #[.ref a, .ref b, .int (Int32.ofNat o), .int (Int32.ofNat len), .null] 6)) (T15.setTop (mkF m 57 #[.val (.ref a), .val (.ref b), .val (.int (Int32.ofNat o)), .val (.int (Int32.ofNat len)), .val .null, .val (.ref s.heap.size)] [])) := c14.trans (st15 _ (Steps.refl _))
  have ap := apart (Or.inr ⟨_, (wk W (.laysFinal "java/lang/String" "java/lang/String" "value" "[B"))⟩) (Or.inr ⟨_, (wk W (.laysFinal "java/lang/String" "java/lang/String" "coder" "B"))⟩) f1 f2 (t₁ := .array .byte) (t₂ := .byte) (by decide +kernel) (by decide +kernel) (by decide)
  have al := X8.warmed.alike.symm.trans X15.warmed.alike
  have n7 : T11.heap[s.heap.size]? = some N := by rw [q11]; exact n1.1
  exact ⟨T15, none, _, _, _, X15, by simp, rfl, by omega, (fun _ => rfl), ⟨rfl, _, N, bl15, ((Same.refl D _).set _ (by simp)).set _ (by simp), sl15, (Cell.slots_setSlot_ne _ ap).trans sl13, n1.keep al (p15.other hne (p13.other hne n7)), n2, by rw [al.findClass]; exact n3, n4, n5, fun y c h1 h2 => p15.other h1 (p13.other h1 (by rw [q11]; exact n6 y c h2)), by rw [p15.2.2, p13.2.2, q11]; exact z8⟩, fun fs hl => c16.trans (X15.returnOut hexec hret (hb hbytes d57) hl)⟩
end New4
namespace New1
def yN : MethodName := ⟨"java/lang/String", "<init>", "([C)V"⟩
abbrev yB : ByteArray := jdk_42_method_3_code
theorem d0 : decode yB 0 = .ok (.aload_n 0, 1) := by decide +kernel
theorem d1 : decode yB 1 = .ok (.aload_n 1, 1) := by decide +kernel
theorem d2 : decode yB 2 = .ok (.iconst 0, 1) := by decide +kernel
theorem d3 : decode yB 3 = .ok (.aload_n 1, 1) := by decide +kernel
theorem d4 : decode yB 4 = .ok (.arraylength, 1) := by decide +kernel
theorem d5 : decode yB 5 = .ok (.aconst_null, 1) := by decide +kernel
theorem d6 : decode yB 6 = .ok (.invokespecial 27, 3) := by decide +kernel
theorem d9 : decode yB 9 = .ok (.return_, 1) := by decide +kernel
def site : List Cond := [New4.tab] ++ initW "java/lang/String" 27 New4.yN
def tab : Cond := tabOf yN yB 2 none site
def P (a : Addr) (D : Cell) (fV fC : Field) (b : Addr) (A : Cell) (z : Int32) (args : Array Value) (s : State) : Prop := args = #[.ref a, .ref b] ∧ Blank "java/lang/String" a D s ∧ Found "java/lang/String" "value" "[B" fV s ∧ Found "java/lang/String" "coder" "B" fC s ∧ Ch b A s ∧ StaticIs s "java/lang/String" "COMPACT_STRINGS" "Z" (.int z) ∧ ¬ z = 0 ∧ 0 < A.slots.size ∧ A.slots.size ≤ 536870912 ∧ ∀ i, i < A.slots.size → ¬ 255 < cv A i
def E (a : Addr) (D : Cell) (fV fC : Field) (A : Cell) (r : Option Value) (s u : State) : Prop := Got a D fV fC A 0 A.slots.size r s u
/-- new String(chars), not empty, no char above 255: a Latin-1 String of their low bytes -/
theorem law (l : Launch) (a : Addr) (D : Cell) (fV fC : Field) (b : Addr) (A : Cell) (z : Int32) : Law l yN 2 1 3 52 yB 2 none site (P a D fV fC b A z) (E a D fV fC A) [⟨a, fC.slot⟩, ⟨a, fV.slot⟩] 1 A.slots.size := by
  refine Law.of_walk (plainFor_of_name (by decide +kernel)) (by decide +kernel) (by decide +kernel) (by decide) (fun _ _ h => by rw [h.1]; rfl) (fun _ U U' hal hh h => ⟨h.1, h.2.1.mv hal hh, h.2.2.1.al hal, h.2.2.2.1.al hal, h.2.2.2.2.1.mv hal hh, h.2.2.2.2.2.1.there hal hh, h.2.2.2.2.2.2⟩) (fun r U U' V V' h1 hal h2 h => Got.mv r U U' V V' h1 hal h2 h) ?_
  intro p e s m args below meth c s₁ X0 hexec hbytes hml hret hlk hnm hown hh0 W hP
  obtain ⟨rfl, hB, f1, f2, hA, s1, hz, l0, l2, hp⟩ := hP
  have c1 : Steps p.tables e below (s₁.setTop (entryFrame m #[.ref a, .ref b] 2)) (s₁.setTop (mkF m 0 #[.val (.ref a), .val (.ref b)] [])) := entry rfl
  have c2 : Steps p.tables e below (s₁.setTop (entryFrame m #[.ref a, .ref b] 2)) (s₁.setTop (mkF m 6 #[.val (.ref a), .val (.ref b)] [.null, .int (Int32.ofNat A.slots.size), .int 0, .ref b, .ref a])) := c1.trans (by
    refine XS.aloadN X0.here hexec rfl (hb hbytes d0) rfl rfl ?_
    refine XS.aloadN X0.here hexec rfl (hb hbytes d1) rfl rfl ?_
    refine iconstV X0.here hexec rfl 0 (hb hbytes d2) (by decide) ?_
    refine XS.aloadN X0.here hexec rfl (hb hbytes d3) rfl rfl ?_
    refine X0.alen hexec (hA.1.mv X0.warmed.alike hh0) rfl rfl (hb hbytes d4) ?_
    refine XS.aconstNull X0.here hexec rfl (hb hbytes d5) ?_
    exact Steps.refl _)
  obtain ⟨v3, T3, X3, E3, g3⟩ := X0.callN hexec (New4.law l a D fV fC b A z 0 A.slots.size) rfl hown (wks W (initW "java/lang/String" 27 New4.yN)) (W New4.tab (by simp only [site, List.mem_cons, List.mem_append, true_or, or_true])) (W := 0) (Nat.le_of_ble_eq_true rfl) (Nat.le_of_ble_eq_true rfl) (Nat.le_refl _) (by show 0 + A.slots.size ≤ A.slots.size; omega) (g := (mkF m 6 #[.val (.ref a), .val (.ref b)] [.null, .int (Int32.ofNat A.slots.size), .int (Int32.ofNat 0), .ref b, .ref a])) rfl (by rw [hml]; rfl) c2 (argsL := [.ref b, .int (Int32.ofNat 0), .int (Int32.ofNat A.slots.size), .null]) (rest := []) rfl rfl (by show 2 * 0 + 0 ≤ _; decide) (hb hbytes d6) (⟨rfl, hB.mv X0.warmed.alike hh0, f1.al X0.warmed.alike, f2.al X0.warmed.alike, hA.mv X0.warmed.alike hh0, s1.there X0.warmed.alike hh0, hz, l0, by omega, l2, fun i hi => by rw [Nat.zero_add]; exact hp i hi⟩)
  have e0 := Got.mv _ s₁ s _ _ hh0.symm (Vm.Alike.refl _) rfl E3
  obtain rfl := e0.1
  have c4 : Steps p.tables e below (s₁.setTop (entryFrame m #[.ref a, .ref b] 2)) (T3.setTop (mkF m 9 #[.val (.ref a), .val (.ref b)] [])) := g3
  exact ⟨T3, none, _, _, _, X3, by simp, rfl, by omega, (fun _ => rfl), e0, fun fs hl => c4.trans (X3.returnOut hexec hret (hb hbytes d9) hl)⟩
theorem pays {l : Launch} {R : Room} {p : Program} {e : Env} {below : List Frame} {s : State} {sargs : Array Value} {len W : Nat} (a : Addr) (D : Cell) (fV fC : Field) (b : Addr) (A : Cell) (z : Int32) (htab : tab.before sargs s = true) (hfr : 4 ≤ R.frames) (hlo : W + 65 ≤ R.locals) :
    Back l R p e below s sargs yN len W (fun A₁ a₁ => A₁.cells + 1 ≤ R.cells ∧ A₁.slots + A.slots.size ≤ R.slots ∧ P a D fV fC b A z a₁ A₁.U) (fun A₁ _ v₁ B₁ => E a D fV fC A v₁ A₁.U B₁.U ∧ B₁.locs = A₁.locs ++ [⟨a, fC.slot⟩, ⟨a, fV.slot⟩] ∧ B₁.cells = A₁.cells + 1 ∧ B₁.slots = A₁.slots + A.slots.size) :=
  (law l a D fV fC b A z).pays htab hfr (by omega)
end New1
end StrChars
namespace StrChars.Road
open Jvm Sem ClassFile Op Lib Jvm.Stand Jvm.Free Jvm.Free.XT
open Jvm.Lib.Cold (StaticIs)
abbrev ST : String := "java/lang/String"
/-- every table word that New1's law asks, flat -/
abbrev words : List Jvm.Cond := [.code New1.yN New1.yB 2 none, .initialized ST, .methodLink ST 27 New4.yN, .instanceMethod New4.yN,
  .code New4.yN New4.yB 6 none, .fieldLink ST 38 ST "COMPACT_STRINGS" "Z", .laysFinal ST ST "value" "[B", .fieldLink ST 9 ST "value" "[B", .laysFinal ST ST "coder" "B", .fieldLink ST 15 ST "coder" "B",
  .methodLink ST 1 Lib.objectInit, .instanceMethod Lib.objectInit, .code Lib.objectInit ⟨#[0xb1]⟩ 1 none, .methodLink ST 177 Cmp3.yN, .static Cmp3.yN, .methodLink ST 47 CodL.yN, .static CodL.yN,
  .code Cmp3.yN Cmp3.yB 6 (some (.array .byte)), .initialized U16, .arrayClass .byte, .methodLink U16 115 Cmp5.yN, .static Cmp5.yN, .code Cmp5.yN Cmp5.yB 7 (some .int), .code CodL.yN CodL.yB 2 (some .byte)]
theorem tab_of {a : Array Value} {s : State} (h : ∀ w ∈ words, w.before a s = true) : New1.tab.before a s = true := by
  have h5 : Cmp5.tab.before a s = true := unparts (wk h (.code Cmp5.yN Cmp5.yB 7 (some .int))) (wks h (.initialized Cmp5.yN.cls :: Cmp5.site))
  have hc : CodL.tab.before a s = true := unparts (wk h (.code CodL.yN CodL.yB 2 (some .byte))) (wks h (.initialized CodL.yN.cls :: CodL.site))
  have q5 : ∀ w ∈ Cmp5.tab :: words, w.before a s = true := fun w hw => (List.mem_cons.mp hw).elim (fun e => e ▸ h5) (h w)
  have h3 : Cmp3.tab.before a s = true := unparts (wk q5 (.code Cmp3.yN Cmp3.yB 6 (some (.array .byte)))) (wks q5 (.initialized Cmp3.yN.cls :: Cmp3.site))
  have q3 : ∀ w ∈ Cmp3.tab :: CodL.tab :: words, w.before a s = true := fun w hw => (List.mem_cons.mp hw).elim (fun e => e ▸ h3) fun hw => (List.mem_cons.mp hw).elim (fun e => e ▸ hc) (h w)
  have h4 : New4.tab.before a s = true := unparts (wk q3 (.code New4.yN New4.yB 6 none)) (wks q3 (.initialized New4.yN.cls :: New4.site))
  have q4 : ∀ w ∈ New4.tab :: words, w.before a s = true := fun w hw => (List.mem_cons.mp hw).elim (fun e => e ▸ h4) (h w)
  exact unparts (wk q4 (.code New1.yN New1.yB 2 none)) (wks q4 (.initialized New1.yN.cls :: New1.site))
/-- the words ride from the start Z to the walk's own state -/
theorem moved {Z s : State} {a0 args : Array Value} (hZ : Z.Warmed39 s.vm) (hw : ∀ d ∈ words, d.before a0 Z = true) : ∀ d ∈ words, d.before args s = true := fun d hd => by
  have q := hw d hd
  have t : ∀ d ∈ words, d = .arrayClass .byte ∨ (d.onTables && d.keepsFace) = true := by decide +kernel
  rcases t d hd with rfl | t
  · exact RoadKit.mvA hZ q
  · exact RoadKit.mv hZ q t
/-- WHAT COMES BACK, over the tables of the start Z: h the heap at the call, h' behind it -/
def Q (Z : State) (x : Addr) (A : Cell) (h : Heap) (v : Option Value) (h' : Heap) (L : List Loc) : Prop := v = none ∧ (∀ y ∈ L, y.base = x) ∧ RoadKit.Keep h h' [x] ∧ h'.size = h.size + 1 ∧ RoadKit.Exa Z h' x ST ∧ RoadKit.Fld Z h' x ST "value" "[B" (.ref h.size) ∧ RoadKit.Fld Z h' x ST "coder" "B" (.int 0) ∧
  (∃ V : Cell, RoadKit.Arr Z h' h.size V .byte ∧ V.vm = .none ∧ Z.vm.findClass "[B" = some V.cls ∧ V.slots.size = A.slots.size ∧ ∀ j, j < A.slots.size → V.slots[j]? = some (.int (lo8 (cv A j)))) ∧
  ∀ (O n d : String) (w : Value), RoadKit.Fld Z h x O n d w → RoadKit.slotOf Z O n d ≠ RoadKit.slotOf Z ST "value" "[B" → RoadKit.slotOf Z O n d ≠ RoadKit.slotOf Z ST "coder" "B" → RoadKit.Fld Z h' x O n d w
/-- **new String(chars) AT A CALL, IN THE ROAD'S FORM**: for specialBack behind newO: x the fresh String, b the char[] with the cell A -/
theorem back {p : Program} {l : Launch} {e : Env} {R : Room} {s : State} {args : Array Value} {below : List Frame} {len W : Nat} {Z : State} {a0 : Array Value} {h : Heap} (hZ : Z.Warmed39 s.vm) (hw : ∀ d ∈ words, d.before a0 Z = true) {kI : Nat} (wi : (Jvm.Cond.instantiable ST kI).before a0 Z = true)
    {x b : Addr} {A : Cell} {z : Int32} {v0 c0 : Value} (E : RoadKit.Exa Z h x ST) (V : RoadKit.Fld Z h x ST "value" "[B" v0) (C : RoadKit.Fld Z h x ST "coder" "B" c0) (K : RoadKit.Arr Z h b A .char) (hty : Typed .char A) (S : RoadKit.Sta Z h ST "COMPACT_STRINGS" "Z" (.int z)) (hz : ¬ z = 0)
    (l0 : 0 < A.slots.size) (l2 : A.slots.size ≤ 536870912) (hp : ∀ i, i < A.slots.size → ¬ 255 < cv A i) (hfr : 4 ≤ R.frames) (hlo : W + 65 ≤ R.locals) :
    Back l R p e below s args New1.yN len W (fun P a => a = #[.ref x, .ref b] ∧ P.U.heap = h ∧ P.cells + 1 ≤ R.cells ∧ P.slots + A.slots.size ≤ R.slots)
      (fun P _ v B => ∃ L, Q Z x A h v B.U.heap L ∧ B.locs = P.locs ++ L ∧ B.cells = P.cells + 1 ∧ B.slots = P.slots + A.slots.size) := by
  intro m meth c P g ig mk a X hg hsize hdg hW hn hp'
  obtain ⟨rfl, rfl, r1, r2⟩ := hp'
  have al : Z.vm.Alike P.U.vm := hZ.alike.trans X.warmed.alike
  obtain ⟨D, cfV, kV, iV, fV, hD, gV, stV, knV, obV, asV, slV⟩ := id V
  obtain ⟨D', cfC, kC, iC, fC, hD', gC, stC, -, -, asC, slC⟩ := id C
  cases hD.symm.trans hD'
  obtain ⟨D2, kD, e1, e2, e3, e4, e5⟩ := id E
  cases hD.symm.trans e1
  obtain ⟨c2, k2, i1, i2, i3, -⟩ := Cond.instantiable_spec wi
  cases e2.symm.trans i1
  cases e3.symm.trans i2
  obtain ⟨kU, u1, u2⟩ := al.2.2 _ _ e3
  have hB : Blank ST x D P.U := ⟨hD, ⟨knV, fun q hq => by rw [hq] at obV; cases obV⟩, by rw [al.findClass]; exact e2, kU, u1, by rw [u2]; exact i3, by rw [u2]; exact e5 i3⟩
  have F1 : Found ST "value" "[B" fV P.U := ⟨SBG.found_only al ⟨cfV, kV, iV, gV⟩, stV⟩
  have F2 : Found ST "coder" "B" fC P.U := ⟨SBG.found_only al ⟨cfC, kC, iC, gC⟩, stC⟩
  have hA : Ch b A P.U := ⟨⟨K.1, State.isArrayOf_alike al K.2.1, K.2.2, by omega⟩, hty⟩
  have hS : StaticIs P.U ST "COMPACT_STRINGS" "Z" (.int z) := by
    obtain ⟨cfS, iS, kS, fS, st, cS, t1, t2, t3, t4, t5, t6, t7⟩ := S
    exact StaticIs.there (s := { Z with heap := P.U.heap }) ⟨cfS, iS, kS, fS, st, cS, t1, t2, t3, t4, t5, (fun q => by rw [q] at t6; cases t6), t7⟩ al rfl
  obtain ⟨v, B, X', ⟨⟨hv, E', V', q1, q2, q3, q4, q5, q6, q7, q8, q9, q10, q11⟩, hl, hc, hs⟩, st⟩ := New1.pays x D fV fC b A z (tab_of (moved hZ hw)) hfr hlo m meth c P g ig mk _ X hg hsize hdg hW hn ⟨r1, r2, rfl, hB, F1, F2, hA, hS, hz, l0, l2, hp⟩
  have al' : Z.vm.Alike B.U.vm := hZ.alike.trans X'.warmed.alike
  have hsz : E'.slots.size = D.slots.size := by
    obtain ⟨-, -, -, kB, w1, w2, w3⟩ := q1
    obtain ⟨kB', y1, y2⟩ := al'.2.2 _ _ e3
    rw [q2.2.1] at w1
    cases w1.symm.trans y1
    rw [w3, e5 i3, y2]
  refine ⟨v, B, X', ⟨_, ⟨hv, ?_, ⟨by omega, fun y cy hy hn' => q10 y cy (by simpa using hn') hy, fun y cy hy => ?_⟩, q11, ⟨E', _, q1.1, by rw [q2.2.1]; exact e2, by rw [q2.2.1]; exact e3, by rw [q2.1]; exact obV, fun _ => by rw [hsz]; exact e5 i3⟩,
    ⟨E', cfV, kV, iV, fV, q1.1, gV, stV, by rw [q2.1]; exact knV, by rw [q2.1]; exact obV, by rw [q2.2.1]; exact asV, q3⟩, ⟨E', cfC, kC, iC, fC, q1.1, gC, stC, by rw [q2.1]; exact knV, by rw [q2.1]; exact obV, by rw [q2.2.1]; exact asC, q4⟩,
    ⟨V', ⟨q5.1, State.isArrayOf_alike al'.symm q5.2.1, q5.2.2.1⟩, q6, by rw [← al'.findClass]; exact q7, q8, fun j hj => by have := q9 j hj; rwa [Nat.zero_add] at this⟩, fun O n d w F n1 n2 => ?_⟩, hl, hc, hs⟩, st⟩
  · intro y hy
    simp only [List.mem_cons, List.not_mem_nil, or_false] at hy
    rcases hy with rfl | rfl <;> rfl
  · by_cases q : y = x
    · subst q
      cases hD.symm.trans hy
      exact ⟨E', q1.1, q2.2.1, q2.1, hsz⟩
    · exact ⟨cy, q10 y cy q hy, rfl, rfl, rfl⟩
  · obtain ⟨D3, cf, k, i, f, g1, g2, g3, g4, g5, g6, g7⟩ := F
    cases hD.symm.trans g1
    simp only [RoadKit.slotOf, g2, gV, gC, Option.map_some, Option.getD_some] at n1 n2
    exact ⟨E', cf, k, i, f, q1.1, g2, g3, by rw [q2.1]; exact g4, by rw [q2.1]; exact g5, by rw [q2.2.1]; exact g6, by rw [q2.2.2 f.slot (by simp [n1, n2])]; exact g7⟩
end StrChars.Road
namespace StrChars.Road
open Jvm Sem ClassFile Op Lib Jvm.Stand Jvm.Free Jvm.Free.XT
/-- WHAT COMES BACK, the byte[] as a list of values -/
def QA (Z : State) (x : Addr) (zn : Int32) (cs : List Int32) (h : Heap) (v : Option Value) (h' : Heap) (L : List Loc) : Prop := v = none ∧ (∀ y ∈ L, y.base = x) ∧ RoadKit.Keep h h' [x] ∧ h'.size = h.size + 1 ∧ RoadKit.Exa Z h' x ST ∧ RoadKit.Fld Z h' x ST "value" "[B" (.ref h.size) ∧ RoadKit.Fld Z h' x ST "coder" "B" (.int 0) ∧
  (∃ kb, Z.vm.findClass "[B" = some kb ∧ RoadKit.Arv Z h' h.size kb .byte zn (cs.map fun c => .int (lo8 c)) (.int 0)) ∧
  ∀ (O n d : String) (w : Value), RoadKit.Fld Z h x O n d w → RoadKit.slotOf Z O n d ≠ RoadKit.slotOf Z ST "value" "[B" → RoadKit.slotOf Z O n d ≠ RoadKit.slotOf Z ST "coder" "B" → RoadKit.Fld Z h' x O n d w
/-- **new String(chars) AT A CALL, THE ARRAYS AS LISTS**: the char[] at b holds cs, not empty, no char above 255 -/
theorem backArv {p : Program} {l : Launch} {e : Env} {R : Room} {s : State} {args : Array Value} {below : List Frame} {len W : Nat} {Z : State} {a0 : Array Value} {h : Heap} (hZ : Z.Warmed39 s.vm) (hw : ∀ d ∈ words, d.before a0 Z = true) {kI : Nat} (wi : (Jvm.Cond.instantiable ST kI).before a0 Z = true)
    {x b : Addr} {k : ClassId} {zn z : Int32} {cs : List Int32} {dv v0 c0 : Value} (E : RoadKit.Exa Z h x ST) (V : RoadKit.Fld Z h x ST "value" "[B" v0) (C : RoadKit.Fld Z h x ST "coder" "B" c0) (K : RoadKit.Arv Z h b k .char zn (cs.map Value.int) dv) (S : RoadKit.Sta Z h ST "COMPACT_STRINGS" "Z" (.int z)) (hz : ¬ z = 0)
    (hlen : zn.toNatClampNeg = cs.length) (h0 : 0 < cs.length) (hbig : cs.length ≤ 536870912) (hall : ∀ c ∈ cs, ¬ 255 < c) (hfr : 4 ≤ R.frames) (hlo : W + 65 ≤ R.locals) :
    Back l R p e below s args New1.yN len W (fun P a => a = #[.ref x, .ref b] ∧ P.U.heap = h ∧ P.cells + 1 ≤ R.cells ∧ P.slots + cs.length ≤ R.slots)
      (fun P _ v B => ∃ L, QA Z x zn cs h v B.U.heap L ∧ B.locs = P.locs ++ L ∧ B.cells = P.cells + 1 ∧ B.slots = P.slots + cs.length) := by
  obtain ⟨A, K1, K2, K3, K4, K5, K6⟩ := K
  have e : A.slots.size = cs.length := K3.trans hlen
  have hat : ∀ (i : Nat) (hi : i < cs.length), A.slots[i]? = some (.int cs[i]) := fun i hi => by rw [K5 i (by omega)]; simp [List.getD_eq_getElem?_getD, hi]
  have hcv : ∀ (i : Nat) (hi : i < cs.length), cv A i = cs[i] := fun i hi => by unfold cv; rw [hat i hi]
  have hty : Typed .char A := fun i v hv => by
    have hi : i < A.slots.size := (Array.getElem?_eq_some_iff.mp hv).1
    have q := K5 i hi
    rw [hv] at q
    rw [Option.some.inj q]
    exact K6 i hi
  refine Back.mono (back hZ hw wi E V C K1 hty S hz (by omega) (by omega) (fun i hi => by rw [hcv i (by omega)]; exact hall _ (List.getElem_mem _)) hfr hlo) (fun P a hp => ⟨hp.1, hp.2.1, hp.2.2.1, by rw [e]; exact hp.2.2.2⟩) (fun P a v B hp hq => ?_)
  obtain ⟨L, ⟨q1, q2, q3, q4, q5, q6, q7, ⟨V', v1, v2, v3, v4, v5⟩, q9⟩, hl, hc, hs⟩ := hq
  refine ⟨L, ⟨q1, q2, q3, q4, q5, q6, q7, ⟨V'.cls, v3, V', v1, rfl, by rw [v4, e, hlen], K4, fun i hi => ?_, fun i hi => ?_⟩, q9⟩, hl, hc, by rw [hs, e]⟩
  · have hi' : i < cs.length := by omega
    rw [v5 i (by omega), hcv i hi']; simp [List.getD_eq_getElem?_getD, hi']
  · have hi' : i < cs.length := by omega
    simp only [List.getD_eq_getElem?_getD, List.getElem?_map, List.getElem?_eq_getElem hi', Option.map_some, Option.getD_some]
    exact fits_lo8 _
end StrChars.Road
namespace StrChars.Road
open Jvm Sem ClassFile Op Lib Jvm.Stand Jvm.Free Jvm.Free.XT
/-- WHAT COMES BACK, in the writer's own shape -/
def QV (Z : State) (x : Addr) (N : Int32) (bs : List Int32) (h : Heap) (n0 : Nat) (v : Option Value) (h' : Heap) (L : List Loc) : Prop := v = none ∧ RoadKit.Fr n0 L ∧ RoadKit.Keep h h' [x] ∧ RoadKit.Exa Z h' x ST ∧ RoadKit.Fld Z h' x ST "coder" "B" (.int 0) ∧
  ∃ (t : Addr) (kb : ClassId), n0 ≤ t ∧ h.size ≤ t ∧ ¬ t = x ∧ RoadKit.Fld Z h' x ST "value" "[B" (.ref t) ∧ RoadKit.Arv Z h' t kb .byte N (bs.map Value.int) (.int 0)
/-- **new String(chars) AT A CALL, FOR THE WRITER**: a char[] of n known ints, each 0 to 255 -/
theorem backV {p : Program} {l : Launch} {e : Env} {R : Room} {s : State} {args : Array Value} {below : List Frame} {len W : Nat} {Z : State} {a0 : Array Value} {h : Heap} (hZ : Z.Warmed39 s.vm) (hw : ∀ d ∈ words, d.before a0 Z = true) {kI : Nat} (wi : (Jvm.Cond.instantiable ST kI).before a0 Z = true)
    {x b : Addr} {kC : ClassId} {cs bs : List Int32} {d v0 c0 : Value} {z N : Int32} {n n0 : Nat} (hx0 : n0 ≤ x) (hh0 : n0 ≤ h.size) (E : RoadKit.Exa Z h x ST) (V : RoadKit.Fld Z h x ST "value" "[B" v0) (C : RoadKit.Fld Z h x ST "coder" "B" c0) (K : RoadKit.Arv Z h b kC .char N (cs.map Value.int) d) (S : RoadKit.Sta Z h ST "COMPACT_STRINGS" "Z" (.int z)) (hz : ¬ z = 0)
    (hn : cs.length = n) (hN : N = Int32.ofNat n) (l0 : 0 < n) (l2 : n ≤ 4000) (hp : ∀ c ∈ cs, ¬ c < 0 ∧ ¬ (255 : Int32) < c) (hb : bs = cs.map (fun c => c.toInt8.toInt32)) (hfr : 4 ≤ R.frames) (hlo : W + 65 ≤ R.locals) :
    Back l R p e below s args (⟨"java/lang/String", "<init>", "([C)V"⟩ : MethodName) len W (fun P a => a = #[.ref x, .ref b] ∧ P.U.heap = h ∧ P.cells + 1 ≤ R.cells ∧ P.slots + n ≤ R.slots)
      (fun P _ v B => ∃ L, QV Z x N bs h n0 v B.U.heap L ∧ B.locs = P.locs ++ L ∧ B.cells = P.cells + 1 ∧ B.slots = P.slots + n) := by
  subst hn hN hb
  refine Back.mono (backArv hZ hw wi E V C K S hz (n32 (by omega)) l0 (by omega) (fun c hc => (hp c hc).2) hfr hlo) (fun P a hp => hp) (fun P a v B hp hq => ?_)
  obtain ⟨L, ⟨q1, q2, q3, q4, q5, q6, q7, ⟨kb, v1, v2⟩, q9⟩, hl, hc, hs⟩ := hq
  exact ⟨L, ⟨q1, fun y hy => by rw [q2 y hy]; exact hx0, q3, q5, q7, h.size, kb, hh0, Nat.le_refl _, Nat.ne_of_gt E.lt, q6, by rw [List.map_map]; exact v2⟩, hl, hc, hs⟩
end StrChars.Road
end Jvm.Pilot.@@N@@
namespace Jvm.Pilot.@@N@@
open Jvm Jvm.ClassFile Sem Op Lib Jvm.Free Jvm.Stand Jvm.LawKit Jvm.RoadKit Bundle Jvm.Pilot.@@N@@.Jvm.D
section OwnGo
/-- from this frame the run ends, and leaves what Q says -/
def Go (p : Program) (e : Env) (below : List Frame) (s : State) (k n : Nat) (Q : Option Value → Heap → List Loc → Prop) (m : MethodId) (T : State) (pc : Nat) (L : Array Slot) (S : List Value) : Prop :=
  ∃ s₂ o, Steps p.tables e below (T.setTop (mkF m pc L S)) s₂ ∧ s₂.status = .running ∧ Ended s₂ below o ∧ ∃ v Ls, o = .returned v ∧ Q v s₂.heap Ls ∧ FrameEnd s o s₂ Ls k n
variable {p : Program} {l : Launch} {e : Env} {R : Room} {s : State} {m : MethodId} {args : Array Value} {below : List Frame} {meth : Method} {c : Code} {T T' : State} {locs : List Loc} {cells slots k n : Nat} {Z : State} {h : Heap} {Q : Option Value → Heap → List Loc → Prop} {pc pc' : Nat} {L L' : Array Slot} {S S' : List Value}
theorem Go.st (h : ∀ t, Steps p.tables e below (T'.setTop (mkF m pc' L' S')) t → Steps p.tables e below (T.setTop (mkF m pc L S)) t) (g : Go p e below s k n Q m T' pc' L' S') : Go p e below s k n Q m T pc L S := by
  obtain ⟨a, b, c, d⟩ := g; exact ⟨a, b, h _ c, d⟩
theorem Go.tr (h : Steps p.tables e below (T.setTop (mkF m pc L S)) (T'.setTop (mkF m pc' L' S'))) (g : Go p e below s k n Q m T' pc' L' S') : Go p e below s k n Q m T pc L S := Go.st (fun _ q => h.trans q) g
theorem Go.retV (X : Stand p l e R s m args below meth c T locs cells slots) (hx : p.tables.exec = Jvm.exec) (hlk : meth.locks = false) (hret : meth.sig.returnType = none) (hd : decode c.code pc = .ok (.return_, 1)) (hk : cells ≤ k) (hn : slots ≤ n) (hq : Q none T.heap locs) : Go p e below s k n Q m T pc L [] := by
  obtain ⟨fs, hr, hrun, hended, hW, hsame⟩ := X.leave (v := none) (fun _ => rfl) hlk
  exact ⟨_, _, X.returnOut hx hret hd hr, hrun, hended, _, _, rfl, hq, ⟨_, rfl⟩, hW, hsame.mono hk hn⟩
theorem Go.retN (X : Stand p l e R s m args below meth c T locs cells slots) (hx : p.tables.exec = Jvm.exec) (hlk : meth.locks = false) {t : FieldType} {z : Int32} {rest : List Value} (hret : meth.sig.returnType = some t) (ht : t = .boolean ∨ t = .byte ∨ t = .char ∨ t = .short) (hd : decode c.code pc = .ok (.ireturn, 1)) (hk : cells ≤ k) (hn : slots ≤ n) (hq : Q (some (.int (nar t z))) T.heap locs) : Go p e below s k n Q m T pc L (.int z :: rest) := by
  obtain ⟨fs, hr, hrun, hended, hW, hsame⟩ := X.leave (v := some (.int (nar t z))) (fun h => by rw [hret] at h; cases h) hlk
  exact ⟨_, _, Jvm.RoadKit.retN X hx hret ht hd hr, hrun, hended, _, _, rfl, hq, ⟨_, rfl⟩, hW, hsame.mono hk hn⟩
theorem Go.retO (X : Stand p l e R s m args below meth c T locs cells slots) (hx : p.tables.exec = Jvm.exec) (hlk : meth.locks = false) {t : FieldType} {w : Value} {i : Instr} {rest : List Value} (hret : meth.sig.returnType = some t) (hw : narrow t w = w) (hi : (i = .ireturn ∧ (t = .int ∨ t = .boolean ∨ t = .byte ∨ t = .char ∨ t = .short) ∧ ∃ z, w = .int z) ∨ (i = .lreturn ∧ t = .long ∧ ∃ z, w = .long z) ∨ (i = .dreturn ∧ t = .double ∧ ∃ z, w = .double z) ∨ (i = .freturn ∧ t = .float ∧ ∃ z, w = .float z) ∨ (i = .areturn ∧ t.isReference = true ∧ w.isRef = true)) (hd : decode c.code pc = .ok (i, 1)) (hk : cells ≤ k) (hn : slots ≤ n) (hq : Q (some w) T.heap locs) : Go p e below s k n Q m T pc L (w :: rest) := by
  obtain ⟨fs, hr, hrun, hended, hW, hsame⟩ := X.leave (v := some w) (fun h => by rw [hret] at h; cases h) hlk
  exact ⟨_, _, retOut X hx hret hw hi hd hr, hrun, hended, _, _, rfl, hq, ⟨_, rfl⟩, hW, hsame.mono hk hn⟩
theorem Stand.up (X : Stand p l e R s m args below meth c T locs cells slots) (hk : cells ≤ k) (hn : slots ≤ n) : Stand p l e R s m args below meth c T locs k n :=
  ⟨X.admits, X.cas, X.clock, X.frames, X.room, X.hears, X.method, X.code, X.here, X.tail, X.warmed, X.limits, X.bytes, X.same.mono hk hn⟩
theorem own_len (X : Stand p l e R s m args below meth c T locs cells slots) (hx : p.tables.exec = Jvm.exec) (hZ : Z.Warmed39 s.vm) (eT : T.heap = h) {a : Addr} {cl : Cell} {ty : FieldType} {z : Int32} (A : Arr Z h a cl ty) (S : cl.slots.size = z.toNatClampNeg) (q : ¬ z < 0) {g : JFrame} (hg : g.method = m) {rest : List Value} (hs : g.stack = .ref a :: rest) (hd : decode c.code g.pc = .ok (.arraylength, 1)) (t : State)
    (k : Steps p.tables e below (T.setTop { g with pc := g.pc + 1, stack := .int z :: rest }) t) : Steps p.tables e below (T.setTop g) t := by
  refine X.arraylength hx (by rw [eT]; exact A.1) (State.isArrayOf_alike hZ.alike A.2.1) (g := g) hg hs hd _ ?_
  rw [len_of S q]; exact k
theorem own_met {l : Launch} {y : MethodName} {bytes : ByteArray} {maxL : Nat} {ret : Option FieldType} {ws : List Jvm.Cond} {rm : Room} {A : Array Value} {Z : State} {h0 : Heap} {Q : Option Value → Heap → List Loc → Prop} {L0 : Array Slot} {K N : Nat} (hpl : plainFor y = true) (hef : ∀ m, entryFrame m A maxL = mkF m 0 L0 [])
    (body : ∀ (p : Program) (e : Env) (s : State) (m : MethodId) (below : List Frame) (meth : Method) (c : Code) (s₁ : State), Stand p l e rm s m A below meth c s₁ [] 0 0 → p.tables.exec = Jvm.exec → c.code = bytes → c.maxLocals = maxL → s.vm.findClass y.cls = some m.cls → meth.name = y.name → meth.sig.returnType = ret → meth.locks = false → Z.Warmed39 s.vm → s₁.heap = h0 → Go p e below s K N Q m s₁ 0 L0 []) :
    MetFree l y (head1 (Jvm.Cond.code y bytes maxL ret :: ws) rm) (fun a U => a = A ∧ Z.Warmed39 U.vm ∧ U.heap = h0) (fun _ _ _ _ _ => True) (fun _ U o U' => ∃ v L, o = .returned v ∧ Q v U'.heap L ∧ FrameEnd U o U' L K N) := by
  refine MetFree.of_bodySF hpl hisR ?_
  intro p e s m args below meth c s₁ Bd hml0 hP hK
  obtain ⟨rfl, hZ, hh⟩ := hP
  obtain ⟨s₂, o, h1, h2⟩ := body p e s m below meth c s₁ (Stand.of_body Bd) Bd.exec Bd.bytes hml0 (findClass_of_methodNamed Bd.named) (name_of_methodNamed Bd.named Bd.method).1 Bd.returns Bd.notSynchronized hZ (by rw [← hh, Bd.state]; rfl)
  exact ⟨s₂, o, castTop (hef m) h1, h2⟩
end OwnGo
section OwnArr
theorem own_tn {i : Nat} (h : i < 2147483648) : i.toInt32.toNatClampNeg = i := by
  simp only [Int32.toNatClampNeg, len_toInt (n := i) h]; rfl
theorem own_inb {c : Cell} {z : Int32} {i N : Nat} (S : c.slots.size = z.toNatClampNeg) (hz : z.toNatClampNeg = N) (hi : i < N) (hN : N < 2147483648) : ¬ (i.toInt32 < 0 ∨ c.slots.size ≤ i.toInt32.toNatClampNeg) := by
  rw [S, hz]; exact idx_in hi hN
theorem own_getI (M : List Int32) (i : Nat) : (M.map Value.int).getD i (.int 0) = .int (M.getD i 0) := by
  simp only [List.getD_eq_getElem?_getD, List.getElem?_map]; cases M[i]? <;> rfl
theorem own_getD (M : List UInt64) (i : Nat) : (M.map Value.double).getD i (.double 0) = .double (M.getD i 0) := by
  simp only [List.getD_eq_getElem?_getD, List.getElem?_map]; cases M[i]? <;> rfl
theorem own_atI (M : List Int32) {i : Nat} (h : i < 2147483648) : (M.map Value.int).getD i.toInt32.toNatClampNeg (.int 0) = .int (M.getD i 0) := by rw [own_tn h, own_getI]
theorem own_atD (M : List UInt64) {i : Nat} (h : i < 2147483648) : (M.map Value.double).getD i.toInt32.toNatClampNeg (.double 0) = .double (M.getD i 0) := by rw [own_tn h, own_getD]
theorem own_setI (M : List Int32) (i : Nat) (v : Int32) : (M.map Value.int).set i (.int v) = (M.set i v).map Value.int := by rw [List.map_set]
theorem own_setD (M : List UInt64) (i : Nat) (v : UInt64) : (M.map Value.double).set i (.double v) = (M.set i v).map Value.double := by rw [List.map_set]
theorem own_next {n : Nat} (h : n < 2147483647) : n.toInt32 + 1 = (n + 1).toInt32 := by
  apply Int32.toInt_inj.mp
  have h1 := c_iadd n.toInt32 1
  rw [len_toInt (n := n) (by omega)] at h1
  rw [len_toInt (n := n + 1) (by omega)]
  have h2 := rng32 (n.toInt32 + 1)
  have e1 : (1 : Int32).toInt = 1 := rfl
  omega
theorem own_inj {m n : Nat} (hm : m < 2147483648) (hn : n < 2147483648) : m.toInt32 = n.toInt32 ↔ m = n := by
  rw [← Int32.toInt_inj, len_toInt (n := m) hm, len_toInt (n := n) hn]; omega
theorem own_ltI {m n : Nat} (hm : m < 2147483648) (hn : n < 2147483648) : m.toInt32 < n.toInt32 ↔ m < n := by
  rw [Int32.lt_iff_toInt_lt, len_toInt (n := m) hm, len_toInt (n := n) hn]; omega
end OwnArr

section OwnGoH
/-- as Go, where String constants may be loaded: the wide frame, and the invariant of the constants held -/
def GoH (Z : State) (EL : List (String × Nat)) (p : Program) (e : Env) (below : List Frame) (s : State) (k n : Nat) (Q : Option Value → Heap → List Loc → Prop) (m : MethodId) (T : State) (pc : Nat) (L : Array Slot) (S : List Value) : Prop :=
  ∃ s₂ o, Steps p.tables e below (T.setTop (mkF m pc L S)) s₂ ∧ s₂.status = .running ∧ Ended s₂ below o ∧ ∃ v Ls, o = .returned v ∧ Q v s₂.heap Ls ∧ CHr Z EL s.vm s.heap s₂.vm s₂.heap ∧ ReturnedEndW s o s₂ Ls k n
variable {p : Program} {l : Launch} {e : Env} {R : Room} {s : State} {m : MethodId} {args : Array Value} {below : List Frame} {meth : Method} {c : Code} {T T' : State} {locs : List Loc} {cells slots k n k0 : Nat} {Z : State} {a0 : Array Value} {h h0 : Heap} {vm0 : Vm} {EL : List (String × Nat)} {Q : Option Value → Heap → List Loc → Prop} {pc pc' : Nat} {L L' : Array Slot} {S S' : List Value}
theorem GoH.st (h : ∀ t, Steps p.tables e below (T'.setTop (mkF m pc' L' S')) t → Steps p.tables e below (T.setTop (mkF m pc L S)) t) (g : GoH Z EL p e below s k n Q m T' pc' L' S') : GoH Z EL p e below s k n Q m T pc L S := by
  obtain ⟨a, b, c, d⟩ := g; exact ⟨a, b, h _ c, d⟩
theorem GoH.tr (h : Steps p.tables e below (T.setTop (mkF m pc L S)) (T'.setTop (mkF m pc' L' S'))) (g : GoH Z EL p e below s k n Q m T' pc' L' S') : GoH Z EL p e below s k n Q m T pc L S := GoH.st (fun _ q => h.trans q) g
theorem own_upW {s t : State} {o : Outcome} {L : List Loc} {k n k' n' : Nat} (h : ReturnedEndW s o t L k n) (hk : k ≤ k') (hn : n ≤ n') : ReturnedEndW s o t L k' n' := ⟨h.1, h.2.1, h.2.2.1, h.2.2.2.mono hk hn⟩
theorem own_chr (X : Stand p l e R (s.setVm vm0) m args below meth c T locs cells slots) (eT : T.heap = h) (hs0 : s.heap = h0) (hZ : Z.Warmed39 vm0) (hEL : EW Z a0 EL) (CR : CHr Z EL s.vm h0 vm0 h) : CHr Z EL s.vm s.heap T.vm T.heap := by
  rw [eT, hs0]; exact CR.trans (CHv.at X hZ hEL CR.1)
theorem GoH.retV (X : Stand p l e R (s.setVm vm0) m args below meth c T locs cells slots) (hx : p.tables.exec = Jvm.exec) (hlk : meth.locks = false) (hret : meth.sig.returnType = none) (hd : decode c.code pc = .ok (.return_, 1)) (hk : cells ≤ k) (hn : slots ≤ n) (hS : s.Since vm0 k0) (hk0 : k0 ≤ h.size) (eT : T.heap = h) (hs0 : s.heap = h0) (hZ : Z.Warmed39 vm0) (hEL : EW Z a0 EL) (CR : CHr Z EL s.vm h0 vm0 h) (hq : Q none T.heap locs) : GoH Z EL p e below s k n Q m T pc L [] := by
  obtain ⟨fs, hr, hrun, hended, hW⟩ := X.leaveW hS (by rw [eT]; exact hk0) (v := none) (fun _ => rfl) hlk
  have hc := own_chr X eT hs0 hZ hEL CR
  exact ⟨_, _, X.returnOut hx hret hd hr, hrun, hended, _, _, rfl, hq, hc, own_upW hW hk hn⟩
theorem GoH.retN (X : Stand p l e R (s.setVm vm0) m args below meth c T locs cells slots) (hx : p.tables.exec = Jvm.exec) (hlk : meth.locks = false) {t : FieldType} {z : Int32} {rest : List Value} (hret : meth.sig.returnType = some t) (ht : t = .boolean ∨ t = .byte ∨ t = .char ∨ t = .short) (hd : decode c.code pc = .ok (.ireturn, 1)) (hk : cells ≤ k) (hn : slots ≤ n) (hS : s.Since vm0 k0) (hk0 : k0 ≤ h.size) (eT : T.heap = h) (hs0 : s.heap = h0) (hZ : Z.Warmed39 vm0) (hEL : EW Z a0 EL) (CR : CHr Z EL s.vm h0 vm0 h) (hq : Q (some (.int (nar t z))) T.heap locs) : GoH Z EL p e below s k n Q m T pc L (.int z :: rest) := by
  obtain ⟨fs, hr, hrun, hended, hW⟩ := X.leaveW hS (by rw [eT]; exact hk0) (v := some (.int (nar t z))) (fun h => by rw [hret] at h; cases h) hlk
  have hc := own_chr X eT hs0 hZ hEL CR
  exact ⟨_, _, Jvm.RoadKit.retN X hx hret ht hd hr, hrun, hended, _, _, rfl, hq, hc, own_upW hW hk hn⟩
theorem GoH.retO (X : Stand p l e R (s.setVm vm0) m args below meth c T locs cells slots) (hx : p.tables.exec = Jvm.exec) (hlk : meth.locks = false) {t : FieldType} {w : Value} {i : Instr} {rest : List Value} (hret : meth.sig.returnType = some t) (hw : narrow t w = w) (hi : (i = .ireturn ∧ (t = .int ∨ t = .boolean ∨ t = .byte ∨ t = .char ∨ t = .short) ∧ ∃ z, w = .int z) ∨ (i = .lreturn ∧ t = .long ∧ ∃ z, w = .long z) ∨ (i = .dreturn ∧ t = .double ∧ ∃ z, w = .double z) ∨ (i = .freturn ∧ t = .float ∧ ∃ z, w = .float z) ∨ (i = .areturn ∧ t.isReference = true ∧ w.isRef = true)) (hd : decode c.code pc = .ok (i, 1)) (hk : cells ≤ k) (hn : slots ≤ n) (hS : s.Since vm0 k0) (hk0 : k0 ≤ h.size) (eT : T.heap = h) (hs0 : s.heap = h0) (hZ : Z.Warmed39 vm0) (hEL : EW Z a0 EL) (CR : CHr Z EL s.vm h0 vm0 h) (hq : Q (some w) T.heap locs) : GoH Z EL p e below s k n Q m T pc L (w :: rest) := by
  obtain ⟨fs, hr, hrun, hended, hW⟩ := X.leaveW hS (by rw [eT]; exact hk0) (v := some w) (fun h => by rw [hret] at h; cases h) hlk
  have hc := own_chr X eT hs0 hZ hEL CR
  exact ⟨_, _, retOut X hx hret hw hi hd hr, hrun, hended, _, _, rfl, hq, hc, own_upW hW hk hn⟩
theorem own_metH {l : Launch} {y : MethodName} {bytes : ByteArray} {maxL : Nat} {ret : Option FieldType} {ws : List Jvm.Cond} {rm : Room} {A : Array Value} {Z : State} {EL : List (String × Nat)} {h0 : Heap} {Q : Option Value → Heap → List Loc → Prop} {L0 : Array Slot} {K N : Nat} (hpl : plainFor y = true) (hef : ∀ m, entryFrame m A maxL = mkF m 0 L0 [])
    (body : ∀ (p : Program) (e : Env) (s : State) (m : MethodId) (below : List Frame) (meth : Method) (c : Code) (s₁ : State), Stand p l e rm (s.setVm s.vm) m A below meth c s₁ [] 0 0 → p.tables.exec = Jvm.exec → c.code = bytes → c.maxLocals = maxL → (s.setVm s.vm).vm.findClass y.cls = some m.cls → meth.name = y.name → meth.sig.returnType = ret → meth.locks = false → Z.Warmed39 (s.setVm s.vm).vm → s₁.heap = h0 → s.heap = h0 → CHr Z EL s.vm h0 s.vm h0 → s.Since s.vm 0 → 0 ≤ h0.size → GoH Z EL p e below s K N Q m s₁ 0 L0 []) :
    MetFree l y (head1 (Jvm.Cond.code y bytes maxL ret :: ws) rm) (fun a U => a = A ∧ Z.Warmed39 U.vm ∧ U.heap = h0 ∧ CHv Z EL U.vm h0) (fun _ _ _ _ _ => True) (fun _ U o U' => ∃ v L, o = .returned v ∧ Q v U'.heap L ∧ CHr Z EL U.vm U.heap U'.vm U'.heap ∧ ReturnedEndW U o U' L K N) := by
  refine MetFree.of_bodySF hpl hisR ?_
  intro p e s m args below meth c s₁ Bd hml0 hP hK
  obtain ⟨rfl, hZ, hh, hC⟩ := hP
  obtain ⟨s₂, o, h1, h2⟩ := body p e s m below meth c s₁ (Stand.of_body Bd) Bd.exec Bd.bytes hml0 (findClass_of_methodNamed Bd.named) (name_of_methodNamed Bd.named Bd.method).1 Bd.returns Bd.notSynchronized hZ (by rw [← hh, Bd.state]; rfl) hh (CHr.refl hC) ((State.WarmedH.refl s).since 0) (Nat.zero_le _)
  exact ⟨s₂, o, castTop (hef m) h1, h2⟩
theorem own_safeV {x : Addr} {kk : ClassId} {ty : FieldType} {z : Int32} {vs : List Value} {dv : Value} (hal : Z.vm.Alike vm0) (V : Arv Z h x kk ty z vs dv) (ht : ty ≠ .byte) : Safe Z EL vm0 h x := by
  obtain ⟨cl, A, -⟩ := V; exact Safe.arr hal A ht
theorem own_safeS {x : Addr} (hal : Z.vm.Alike vm0) (E : Exa Z h x "java/lang/String") (F : Fld Z h x "java/lang/String" "value" "[B" .null) : Safe Z EL vm0 h x := fun B => by
  obtain ⟨cell, kE, e1, e2, e3, -, -⟩ := E
  obtain ⟨cell', cf, kF, iF, f, f1, f2, f3, f4, f5, f6, f7⟩ := F
  cases e1.symm.trans f1
  obtain ⟨p, -, u, a, -, q, -, G, rfl | rfl⟩ := B
  · cases (show h[q.sa]? = some q.sC from G.ha).symm.trans e1
    obtain ⟨cS, ⟨⟨-, -, -, ⟨c1, k1, i1, g1, -⟩, -, -, -, v1, -⟩, -⟩, -⟩ := G
    obtain ⟨k3, g3, -⟩ := State.fieldFound?_setVm (s := Z) (vm' := vm0) hal f2
    have g4 := (show (Wst Z vm0 h).fieldFound? "java/lang/String" "value" "[B" = _ from g3).symm.trans g1
    simp only [Option.some.injEq, Prod.mk.injEq] at g4
    rw [← g4.2.2.2, f7] at v1
    cases v1
  · cases (show h[q.sd]? = some q.SA from G.hd).symm.trans e1
    obtain ⟨cS, -, -, g1, -⟩ := G
    have g2 : vm0.findClass "[B" = some q.SA.cls := g1
    rw [hal.findClass] at g2
    obtain ⟨k1, q1, q2⟩ := Vm.findClass_spec g2
    obtain ⟨k2, q3, q4⟩ := Vm.findClass_spec e2
    cases q1.symm.trans q3
    exact absurd (q2.symm.trans q4) (by decide)
end OwnGoH
theorem own_wS {Z : State} {a0 : Array Value} (hw : ∀ d ∈ tables_1, d.before a0 Z = true) : ∀ a ∈ Bundle.stringAtoms, a.before a0 Z = true := fun d hd => hw d ((by decide +kernel : ∀ d ∈ Bundle.stringAtoms, d ∈ tables_1) d hd)

def EL : List (String × Nat) := [("java/lang/String", 7)]
theorem own_EW {Z : State} {a0 : Array Value} (hw : ∀ d ∈ tables_1, d.before a0 Z = true) : EW Z a0 EL := (EW.cons (hw _ (List.mem_of_getElem? (i := 56) rfl)) (by decide) EW.nil)
theorem d3_0 : decode jdk_42_method_149_code 0 = .ok (.aload_n 0, 1) := by decide +kernel
theorem d3_1 : decode jdk_42_method_149_code 1 = .ok (.invokespecial 1, 3) := by decide +kernel
theorem d3_4 : decode jdk_42_method_149_code 4 = .ok (.iload_n 3, 1) := by decide +kernel
theorem d3_5 : decode jdk_42_method_149_code 5 = .ok (.ifCond .ne 22, 3) := by decide +kernel
theorem d3_8 : decode jdk_42_method_149_code 8 = .ok (.aload_n 0, 1) := by decide +kernel
theorem d3_9 : decode jdk_42_method_149_code 9 = .ok (.ldc 7, 2) := by decide +kernel
theorem d3_11 : decode jdk_42_method_149_code 11 = .ok (.getfield 9, 3) := by decide +kernel
theorem d3_14 : decode jdk_42_method_149_code 14 = .ok (.putfield 9, 3) := by decide +kernel
theorem d3_17 : decode jdk_42_method_149_code 17 = .ok (.aload_n 0, 1) := by decide +kernel
theorem d3_18 : decode jdk_42_method_149_code 18 = .ok (.ldc 7, 2) := by decide +kernel
theorem d3_20 : decode jdk_42_method_149_code 20 = .ok (.getfield 15, 3) := by decide +kernel
theorem d3_23 : decode jdk_42_method_149_code 23 = .ok (.putfield 15, 3) := by decide +kernel
theorem d3_26 : decode jdk_42_method_149_code 26 = .ok (.return_, 1) := by decide +kernel
theorem pn_0 : plainName "java/lang/String" = true := by first | (simp [plainName, overriddenIn]; done) | decide +kernel
def QE149 (Z : State) (a1 : Addr) (h0 : Heap) (n0 : Nat) (v : Option Value) (h : Heap) (L : List Loc) : Prop := ∃ (t : Addr) (kb : ClassId), v = none ∧ Fr n0 L ∧ Keep h0 h [a1] ∧ Fld Z h a1 "java/lang/String" "coder" "B" (.int 0) ∧ a1 ≠ t ∧ Fld Z h a1 "java/lang/String" "value" "[B" (.ref t) ∧ Arv Z h t kb .byte (0 : Int32) [] (.int (0 : Int32))
def roomE149 : Room := { frames := 1, cells := 4, slots := 8, locals := 12 }
set_option maxRecDepth 65536 in
set_option maxHeartbeats 40000000 in
theorem rmE149 (l : Launch) (Z : State) (a0 : Array Value) (hw : ∀ d ∈ tables_1, d.before a0 Z = true) (ws : List Jvm.Cond) (a1 : Addr) (a2 : Addr) (h0 : Heap) (n0 : Nat) (Z0 : n0 ≤ h0.size) (E_a1 : Exa Z h0 a1 "java/lang/String") (g_a1 : n0 ≤ a1) (F_value : Fld Z h0 a1 "java/lang/String" "value" "[B" .null) (F_coder : Fld Z h0 a1 "java/lang/String" "coder" "B" (.int (0 : Int32))) :
    MetFree l (⟨"java/lang/String", "<init>", "([CIILjava/lang/Void;)V"⟩ : MethodName) (head1 (Jvm.Cond.code (⟨"java/lang/String", "<init>", "([CIILjava/lang/Void;)V"⟩ : MethodName) jdk_42_method_149_code 6 none :: ws) roomE149) (fun aa_ U_ => aa_ = #[(.ref a1), (.ref a2), (.int (0 : Int32)), (.int (0 : Int32)), .null] ∧ Z.Warmed39 U_.vm ∧ U_.heap = h0 ∧ CHv Z EL U_.vm h0) (fun _ _ _ _ _ => True) (fun _ U_ o_ W_ => ∃ v_ L_, o_ = .returned v_ ∧ (QE149 Z a1 h0 n0) v_ W_.heap L_ ∧ CHr Z EL U_.vm U_.heap W_.vm W_.heap ∧ ReturnedEndW U_ o_ W_ L_ roomE149.cells roomE149.slots) := by
  refine own_metH (Q := (QE149 Z a1 h0 n0)) (L0 := #[.val (.ref a1), .val (.ref a2), .val (.int (0 : Int32)), .val (.int (0 : Int32)), .val .null, .unset]) (plainFor_of_name pn_0) (fun m => by first | (simp [entryFrame, mkF, argsToLocals, Value.category]; done) | rfl) ?_
  intro p e s m below meth c T0 X0 hx hby hml hown hnm hret hlk hZ e0 hs0 CR hS hk
  have N0 := Fr.nil n0
  have K0 := Keep.refl h0 [a1]
  have S_a1 : Safe Z EL s.vm h0 a1 := own_safeS hZ.alike E_a1 F_value
  refine GoH.st (T' := T0) (pc' := 1) (L' := #[.val (.ref a1), .val (.ref a2), .val (.int (0 : Int32)), .val (.int (0 : Int32)), .val .null, .unset]) (S' := [(.ref a1)]) (fun t_ k_ => XS.aloadN X0.here hx rfl (hb hby d3_0) rfl rfl  k_) ?_
  obtain ⟨T1, X1, e1, st1⟩ := initO X0 hx hZ hown (hw _ (List.mem_of_getElem? (i := 15) rfl)) (hw _ (List.mem_of_getElem? (i := 16) rfl)) (hw _ (List.mem_of_getElem? (i := 17) rfl)) e0 (g := (mkF m 1 #[.val (.ref a1), .val (.ref a2), .val (.int (0 : Int32)), .val (.int (0 : Int32)), .val .null, .unset] [(.ref a1)])) rfl (by rw [hml]; rfl) rfl (hb hby d3_1) (by decide) (W := 0) (by show 2 * 0 + _ ≤ _; exact Nat.le_of_eq rfl) (by decide)
  refine GoH.st (T' := T1) (pc' := 4) (L' := #[.val (.ref a1), .val (.ref a2), .val (.int (0 : Int32)), .val (.int (0 : Int32)), .val .null, .unset]) (S' := []) st1 ?_
  refine GoH.st (T' := T1) (pc' := 5) (L' := #[.val (.ref a1), .val (.ref a2), .val (.int (0 : Int32)), .val (.int (0 : Int32)), .val .null, .unset]) (S' := [(.int (0 : Int32))]) (fun t_ k_ => XS.iloadN X1.here hx rfl (hb hby d3_4) rfl  k_) ?_
  refine GoH.st (T' := T1) (pc' := 8) (L' := #[.val (.ref a1), .val (.ref a2), .val (.int (0 : Int32)), .val (.int (0 : Int32)), .val .null, .unset]) (S' := []) (fun t_ k_ => XS.ifNo X1.here hx rfl (hb hby d3_5) rfl ((if0 _ _).trans (teq (by decide : ((0 : Int32) = (0 : Int32)))).2) k_) ?_
  refine GoH.st (T' := T1) (pc' := 9) (L' := #[.val (.ref a1), .val (.ref a2), .val (.int (0 : Int32)), .val (.int (0 : Int32)), .val .null, .unset]) (S' := [(.ref a1)]) (fun t_ k_ => XS.aloadN X1.here hx rfl (hb hby d3_8) rfl rfl  k_) ?_
  obtain ⟨a2_, T2, h2, k2, b2_, c2, X2, e2, E2, hS2, hk2, hZ2, ho2, E_a2_, Fc_a2_, Fv_a2_, V_b2_, lta2, ltb2, CR2, -, Sf2, st2⟩ := ldcCH X1 hx hZ hown (hw _ (List.mem_of_getElem? (i := 56) rfl)) (own_wS hw) e1 hS hk (own_EW hw) (by decide : ("java/lang/String", 7) ∈ EL) CR.1 (vs := []) (z := (0 : Int32)) ⟨by decide, by decide⟩ (by decide) rfl (g := (mkF m 9 #[.val (.ref a1), .val (.ref a2), .val (.int (0 : Int32)), .val (.int (0 : Int32)), .val .null, .unset] [(.ref a1)])) rfl (hb hby d3_9) (n := 0) (by decide) (by decide) (by decide) (by decide)
  replace S_a1 := CR2.safe E_a1.lt S_a1
  replace CR := CR.trans CR2
  replace Z0 := Nat.le_trans Z0 E2.1
  replace K0 := K0.ext E2
  replace E_a1 := E_a1.ext E2
  replace F_value := F_value.ext E2
  replace F_coder := F_coder.ext E2
  replace hZ := hZ2
  replace hown := ho2
  replace hS := hS2
  replace hk := hk2
  have ne_a1_a2_ := (Sf2 _ S_a1).1
  have ne_a1_b2_ := (Sf2 _ S_a1).2
  refine GoH.st (T' := T2) (pc' := 11) (L' := #[.val (.ref a1), .val (.ref a2), .val (.int (0 : Int32)), .val (.int (0 : Int32)), .val .null, .unset]) (S' := [(.ref a2_), (.ref a1)]) st2 ?_
  obtain ⟨T3, X3, e3, st3⟩ := getF X2 hx hZ hown (host := "") (Or.inl (hw _ (List.mem_of_getElem? (i := 32) rfl))) Via.refl e2 Fv_a2_ (g := (mkF m 11 #[.val (.ref a1), .val (.ref a2), .val (.int (0 : Int32)), .val (.int (0 : Int32)), .val .null, .unset] [(.ref a2_), (.ref a1)])) rfl rfl (hb hby d3_11)
  refine GoH.st (T' := T3) (pc' := 14) (L' := #[.val (.ref a1), .val (.ref a2), .val (.int (0 : Int32)), .val (.int (0 : Int32)), .val .null, .unset]) (S' := [(.ref b2_), (.ref a1)]) st3 ?_
  obtain ⟨T4, h4, X4, e4, W4, st4⟩ := putF X3 hx hZ hown (host := "") (Or.inl (hw _ (List.mem_of_getElem? (i := 32) rfl))) Via.refl e3 F_value E_a1 (Or.inr ⟨(hw _ (List.mem_of_getElem? (i := 33) rfl)), rfl, hnm⟩) (hw _ (List.mem_of_getElem? (i := 5) rfl)) (ty := (.array .byte)) (by decide) rfl rfl (g := (mkF m 14 #[.val (.ref a1), .val (.ref a2), .val (.int (0 : Int32)), .val (.int (0 : Int32)), .val .null, .unset] [(.ref b2_), (.ref a1)])) rfl rfl (hb hby d3_14)
  have Sw5 : Safe Z EL T2.vm h2 a1 := S_a1
  replace S_a1 := Safe.wr W4 Sw5 CR.1 S_a1
  replace CR := CR.trans (CHr.wr W4 Sw5 CR.1)
  replace hk := Nat.le_trans hk (Keep.of_wr W4).1
  replace Z0 := Nat.le_trans Z0 (Keep.of_wr W4).1
  replace K0 := K0.wr W4 (Or.inl (List.mem_of_getElem? (i := 0) rfl))
  replace E_a1 := E_a1.wr W4
  replace F_coder := F_coder.other W4 (Or.inr (slot_ne (Or.inr (hw _ (List.mem_of_getElem? (i := 31) rfl))) (Or.inr (hw _ (List.mem_of_getElem? (i := 33) rfl))) (by decide) (t := .byte) (t' := (.array .byte)) (by decide) (by decide)))
  replace E_a2_ := E_a2_.wr W4
  replace Fc_a2_ := Fc_a2_.other W4 (Or.inl (Ne.symm ne_a1_a2_))
  replace Fv_a2_ := Fv_a2_.other W4 (Or.inl (Ne.symm ne_a1_a2_))
  replace V_b2_ := V_b2_.other W4 (Ne.symm ne_a1_b2_)
  replace F_value := F_value.same W4
  have N4 := Fr.snoc X4 N0 g_a1
  refine GoH.st (T' := T4) (pc' := 17) (L' := #[.val (.ref a1), .val (.ref a2), .val (.int (0 : Int32)), .val (.int (0 : Int32)), .val .null, .unset]) (S' := []) st4 ?_
  refine GoH.st (T' := T4) (pc' := 18) (L' := #[.val (.ref a1), .val (.ref a2), .val (.int (0 : Int32)), .val (.int (0 : Int32)), .val .null, .unset]) (S' := [(.ref a1)]) (fun t_ k_ => XS.aloadN X4.here hx rfl (hb hby d3_17) rfl rfl  k_) ?_
  obtain ⟨a6_, T6, h6, k6, b6_, c6, X6, e6, E6, hS6, hk6, hZ6, ho6, E_a6_, Fc_a6_, Fv_a6_, V_b6_, lta6, ltb6, CR6, -, Sf6, st6⟩ := ldcCH X4 hx hZ hown (hw _ (List.mem_of_getElem? (i := 56) rfl)) (own_wS hw) e4 hS hk (own_EW hw) (by decide : ("java/lang/String", 7) ∈ EL) CR.1 (vs := []) (z := (0 : Int32)) ⟨by decide, by decide⟩ (by decide) rfl (g := (mkF m 18 #[.val (.ref a1), .val (.ref a2), .val (.int (0 : Int32)), .val (.int (0 : Int32)), .val .null, .unset] [(.ref a1)])) rfl (hb hby d3_18) (n := 0) (by decide) (by decide) (by decide) (by decide)
  replace S_a1 := CR6.safe E_a1.lt S_a1
  replace CR := CR.trans CR6
  replace Z0 := Nat.le_trans Z0 E6.1
  replace K0 := K0.ext E6
  replace E_a1 := E_a1.ext E6
  replace F_value := F_value.ext E6
  replace F_coder := F_coder.ext E6
  replace E_a2_ := E_a2_.ext E6
  replace Fc_a2_ := Fc_a2_.ext E6
  replace Fv_a2_ := Fv_a2_.ext E6
  replace V_b2_ := V_b2_.ext E6
  replace hZ := hZ6
  replace hown := ho6
  replace hS := hS6
  replace hk := hk6
  have ne_a1_a6_ := (Sf6 _ S_a1).1
  have ne_a1_b6_ := (Sf6 _ S_a1).2
  refine GoH.st (T' := T6) (pc' := 20) (L' := #[.val (.ref a1), .val (.ref a2), .val (.int (0 : Int32)), .val (.int (0 : Int32)), .val .null, .unset]) (S' := [(.ref a6_), (.ref a1)]) st6 ?_
  obtain ⟨T7, X7, e7, st7⟩ := getF X6 hx hZ hown (host := "") (Or.inl (hw _ (List.mem_of_getElem? (i := 30) rfl))) Via.refl e6 Fc_a6_ (g := (mkF m 20 #[.val (.ref a1), .val (.ref a2), .val (.int (0 : Int32)), .val (.int (0 : Int32)), .val .null, .unset] [(.ref a6_), (.ref a1)])) rfl rfl (hb hby d3_20)
  refine GoH.st (T' := T7) (pc' := 23) (L' := #[.val (.ref a1), .val (.ref a2), .val (.int (0 : Int32)), .val (.int (0 : Int32)), .val .null, .unset]) (S' := [(.int (0 : Int32)), (.ref a1)]) st7 ?_
  obtain ⟨T8, h8, X8, e8, W8, st8⟩ := putFN X7 hx hZ hown (hw _ (List.mem_of_getElem? (i := 30) rfl)) Via.refl e7 F_coder E_a1 (Or.inr ⟨(hw _ (List.mem_of_getElem? (i := 31) rfl)), rfl, hnm⟩) (hw _ (List.mem_of_getElem? (i := 5) rfl)) (ty := .byte) (v' := (.int (0 : Int32))) (by decide) rfl rfl (g := (mkF m 23 #[.val (.ref a1), .val (.ref a2), .val (.int (0 : Int32)), .val (.int (0 : Int32)), .val .null, .unset] [(.int (0 : Int32)), (.ref a1)])) rfl rfl (hb hby d3_23)
  have Sw9 : Safe Z EL T6.vm h6 a1 := S_a1
  replace S_a1 := Safe.wr W8 Sw9 CR.1 S_a1
  replace CR := CR.trans (CHr.wr W8 Sw9 CR.1)
  replace hk := Nat.le_trans hk (Keep.of_wr W8).1
  replace Z0 := Nat.le_trans Z0 (Keep.of_wr W8).1
  replace K0 := K0.wr W8 (Or.inl (List.mem_of_getElem? (i := 0) rfl))
  replace E_a1 := E_a1.wr W8
  replace F_value := F_value.other W8 (Or.inr (slot_ne (Or.inr (hw _ (List.mem_of_getElem? (i := 33) rfl))) (Or.inr (hw _ (List.mem_of_getElem? (i := 31) rfl))) (by decide) (t := (.array .byte)) (t' := .byte) (by decide) (by decide)))
  replace E_a2_ := E_a2_.wr W8
  replace Fc_a2_ := Fc_a2_.other W8 (Or.inl (Ne.symm ne_a1_a2_))
  replace Fv_a2_ := Fv_a2_.other W8 (Or.inl (Ne.symm ne_a1_a2_))
  replace V_b2_ := V_b2_.other W8 (Ne.symm ne_a1_b2_)
  replace E_a6_ := E_a6_.wr W8
  replace Fc_a6_ := Fc_a6_.other W8 (Or.inl (Ne.symm ne_a1_a6_))
  replace Fv_a6_ := Fv_a6_.other W8 (Or.inl (Ne.symm ne_a1_a6_))
  replace V_b6_ := V_b6_.other W8 (Ne.symm ne_a1_b6_)
  replace F_coder := F_coder.same W8
  have N8 := Fr.snoc X8 N4 g_a1
  refine GoH.st (T' := T8) (pc' := 26) (L' := #[.val (.ref a1), .val (.ref a2), .val (.int (0 : Int32)), .val (.int (0 : Int32)), .val .null, .unset]) (S' := []) st8 ?_
  exact GoH.retV X8 hx hlk hret (hb hby d3_26) (by decide) (by decide) hS hk e8 hs0 hZ (own_EW hw) CR (by rw [e8]; exact ⟨b2_, _, rfl, N8, K0, F_coder, ne_a1_b2_, F_value, V_b2_⟩)
theorem d2_0 : decode jdk_42_method_3_code 0 = .ok (.aload_n 0, 1) := by decide +kernel
theorem d2_1 : decode jdk_42_method_3_code 1 = .ok (.aload_n 1, 1) := by decide +kernel
theorem d2_2 : decode jdk_42_method_3_code 2 = .ok (.iconst 0, 1) := by decide +kernel
theorem d2_3 : decode jdk_42_method_3_code 3 = .ok (.aload_n 1, 1) := by decide +kernel
theorem d2_4 : decode jdk_42_method_3_code 4 = .ok (.arraylength, 1) := by decide +kernel
theorem d2_5 : decode jdk_42_method_3_code 5 = .ok (.aconst_null, 1) := by decide +kernel
theorem d2_6 : decode jdk_42_method_3_code 6 = .ok (.invokespecial 27, 3) := by decide +kernel
theorem d2_9 : decode jdk_42_method_3_code 9 = .ok (.return_, 1) := by decide +kernel
theorem pd_0 : parseMethodDescriptor "([CIILjava/lang/Void;)V" = some ⟨[(.array .char), .int, .int, (.object "java/lang/Void")], none⟩ := by decide +kernel
def QE3 (Z : State) (a1 : Addr) (h0 : Heap) (n0 : Nat) (v : Option Value) (h : Heap) (L : List Loc) : Prop := ∃ (t : Addr) (kb : ClassId), v = none ∧ Fr n0 L ∧ Keep h0 h [a1] ∧ Fld Z h a1 "java/lang/String" "coder" "B" (.int 0) ∧ a1 ≠ t ∧ Fld Z h a1 "java/lang/String" "value" "[B" (.ref t) ∧ Arv Z h t kb .byte (0 : Int32) [] (.int (0 : Int32))
def roomE3 : Room := { frames := 2, cells := 4, slots := 8, locals := 29 }
set_option maxRecDepth 65536 in
set_option maxHeartbeats 40000000 in
theorem rmE3 (l : Launch) (Z : State) (a0 : Array Value) (hw : ∀ d ∈ tables_1, d.before a0 Z = true) (ws : List Jvm.Cond) (a1 : Addr) (a2 : Addr) (ka : ClassId) (h0 : Heap) (n0 : Nat) (Z0 : n0 ≤ h0.size) (E_a1 : Exa Z h0 a1 "java/lang/String") (g_a1 : n0 ≤ a1) (F_value : Fld Z h0 a1 "java/lang/String" "value" "[B" .null) (F_coder : Fld Z h0 a1 "java/lang/String" "coder" "B" (.int (0 : Int32))) (V_a2 : Arv Z h0 a2 ka .char (0 : Int32) [] (.int (0 : Int32))) (ne12 : a1 ≠ a2) :
    MetFree l (⟨"java/lang/String", "<init>", "([C)V"⟩ : MethodName) (head1 (Jvm.Cond.code (⟨"java/lang/String", "<init>", "([C)V"⟩ : MethodName) jdk_42_method_3_code 2 none :: ws) roomE3) (fun aa_ U_ => aa_ = #[(.ref a1), (.ref a2)] ∧ Z.Warmed39 U_.vm ∧ U_.heap = h0 ∧ CHv Z EL U_.vm h0) (fun _ _ _ _ _ => True) (fun _ U_ o_ W_ => ∃ v_ L_, o_ = .returned v_ ∧ (QE3 Z a1 h0 n0) v_ W_.heap L_ ∧ CHr Z EL U_.vm U_.heap W_.vm W_.heap ∧ ReturnedEndW U_ o_ W_ L_ roomE3.cells roomE3.slots) := by
  refine own_metH (Q := (QE3 Z a1 h0 n0)) (L0 := #[.val (.ref a1), .val (.ref a2)]) (plainFor_of_name pn_0) (fun m => by first | (simp [entryFrame, mkF, argsToLocals, Value.category]; done) | rfl) ?_
  intro p e s m below meth c T0 X0 hx hby hml hown hnm hret hlk hZ e0 hs0 CR hS hk
  have N0 := Fr.nil n0
  have K0 := Keep.refl h0 [a1]
  have S_a1 : Safe Z EL s.vm h0 a1 := own_safeS hZ.alike E_a1 F_value
  refine GoH.st (T' := T0) (pc' := 1) (L' := #[.val (.ref a1), .val (.ref a2)]) (S' := [(.ref a1)]) (fun t_ k_ => XS.aloadN X0.here hx rfl (hb hby d2_0) rfl rfl  k_) ?_
  refine GoH.st (T' := T0) (pc' := 2) (L' := #[.val (.ref a1), .val (.ref a2)]) (S' := [(.ref a2), (.ref a1)]) (fun t_ k_ => XS.aloadN X0.here hx rfl (hb hby d2_1) rfl rfl  k_) ?_
  refine GoH.st (T' := T0) (pc' := 3) (L' := #[.val (.ref a1), .val (.ref a2)]) (S' := [(.int (0 : Int32)), (.ref a2), (.ref a1)]) (fun t_ k_ => XS.iconst X0.here hx rfl (hb hby d2_2) k_) ?_
  refine GoH.st (T' := T0) (pc' := 4) (L' := #[.val (.ref a1), .val (.ref a2)]) (S' := [(.ref a2), (.int (0 : Int32)), (.ref a2), (.ref a1)]) (fun t_ k_ => XS.aloadN X0.here hx rfl (hb hby d2_3) rfl rfl  k_) ?_
  obtain ⟨cl1, Ar1, -, q1a, q1b, -, -⟩ := id V_a2
  refine GoH.st (T' := T0) (pc' := 5) (L' := #[.val (.ref a1), .val (.ref a2)]) (S' := [(.int (0 : Int32)), (.int (0 : Int32)), (.ref a2), (.ref a1)]) (fun t_ k_ => own_len X0 hx hZ e0 Ar1 q1a q1b (g := (mkF m 4 #[.val (.ref a1), .val (.ref a2)] [(.ref a2), (.int (0 : Int32)), (.ref a2), (.ref a1)])) rfl rfl (hb hby d2_4) t_ k_) ?_
  refine GoH.st (T' := T0) (pc' := 6) (L' := #[.val (.ref a1), .val (.ref a2)]) (S' := [.null, (.int (0 : Int32)), (.int (0 : Int32)), (.ref a2), (.ref a1)]) (fun t_ k_ => XS.aconstNull X0.here hx rfl (hb hby d2_5) k_) ?_
  obtain ⟨_, _, ⟨T2, L2, k2, n2⟩, -, X2, hS2, hg2, ⟨Lc2, hQ2, l2, y2, z2, CR2⟩, st2⟩ := X0.specialBackS hx (y := (⟨"java/lang/String", "<init>", "([CIILjava/lang/Void;)V"⟩ : MethodName)) rfl hown (mvT hZ (hw _ (List.mem_of_getElem? (i := 11) rfl))) (mvT hZ (hw _ (List.mem_of_getElem? (i := 12) rfl))) (mvT hZ (hw _ (List.mem_of_getElem? (i := 14) rfl))) (by decide) (backOfSH (W := 0) (rmE149 l Z a0 hw [] a1 a2 h0 n0 Z0 E_a1 g_a1 F_value F_coder) hZ (hw _ (List.mem_of_getElem? (i := 14) rfl)) (hw _ (List.mem_of_getElem? (i := 6) rfl)) (by decide) (by decide) (own_EW hw) CR.1) (g := (mkF m 6 #[.val (.ref a1), .val (.ref a2)] [.null, (.int (0 : Int32)), (.int (0 : Int32)), (.ref a2), (.ref a1)])) rfl (by rw [hml]; rfl) (Steps.refl _) (a := a1) (argsL := [(.ref a2), (.int (0 : Int32)), (.int (0 : Int32)), .null]) (rest := []) (lenOf pd_0 rfl) rfl (by show 2 * 0 + _ ≤ _; exact Nat.le_of_eq rfl) (hb hby d2_6) (fun _ _ => ⟨rfl, e0, (by decide : 0 + 4 ≤ _), (by decide : 0 + 8 ≤ _)⟩)
  dsimp only [Pt.U, Pt.locs, Pt.cells, Pt.slots] at X2 l2 y2 z2 st2 hQ2 hS2 hg2 CR2
  subst l2 y2 z2
  replace hS := foldS hS (T := T0) (by rw [e0]; exact hk) hS2 hg2
  replace hk := Nat.le_refl T2.heap.size
  replace hZ : Z.Warmed39 (s.setVm T2.vm).vm := State.Warmed39.trans (t := s.setVm s.vm) hZ hS2.1
  replace hown : (s.setVm T2.vm).vm.findClass "java/lang/String" = some m.cls := by rw [show (s.setVm T2.vm).vm = T2.vm from rfl, hS2.1.alike.findClass]; exact hown
  obtain ⟨t2, kb2, rfl, N2q, K2, Co2, nt2, Va2, Ay2⟩ := hQ2
  have N2 := Fr.app N0 N2q
  obtain ⟨h2, e2⟩ : ∃ z, T2.heap = z := ⟨_, rfl⟩
  rw [e2] at K2 Co2 Va2 Ay2 CR2
  replace S_a1 := CR2.safe E_a1.lt S_a1
  replace CR := CR.trans CR2
  replace Z0 := Nat.le_trans Z0 K2.1
  replace K0 := K0.trans K2 (allS (Or.inl (List.mem_of_getElem? (i := 0) rfl)) all0)
  replace E_a1 := E_a1.keep K2
  replace V_a2 := V_a2.keep K2 (ninS (Ne.symm ne12) nin0)
  replace hk : T2.heap.size ≤ h2.size := Nat.le_of_eq (congrArg Array.size e2)
  refine GoH.tr (T' := T2) (pc' := 9) (L' := #[.val (.ref a1), .val (.ref a2)]) (S' := []) st2 ?_
  exact GoH.retV X2 hx hlk hret (hb hby d2_9) (by decide) (by decide) hS hk e2 hs0 hZ (own_EW hw) CR (by rw [e2]; exact ⟨t2, _, rfl, N2, K0, Co2, nt2, Va2, Ay2⟩)
theorem own_m127 (x : Int32) : ∃ i : Nat, i < 128 ∧ (x &&& (127 : Int32)).toUInt32.toUInt16.toUInt32.toInt32 = i.toInt32 := by
  have h := c_mask x 127 7 (by decide) (by decide)
  have h1 := c_i2c (x &&& 127)
  refine ⟨(x &&& 127).toInt.toNat, by omega, ?_⟩
  apply Int32.toInt_inj.mp
  rw [len_toInt (n := (x &&& 127).toInt.toNat) (by omega)]; omega
theorem own_k127 (x : Int32) : ∃ i : Nat, i < 128 ∧ (x &&& (127 : Int32)) = i.toInt32 := by
  have h := c_mask x 127 7 (by decide) (by decide)
  refine ⟨(x &&& 127).toInt.toNat, by omega, ?_⟩
  apply Int32.toInt_inj.mp
  rw [len_toInt (n := (x &&& 127).toInt.toNat) (by omega)]; omega
theorem own_narf : ∀ i : Fin 128, nar .char (Nat.toInt32 i.val) = Nat.toInt32 i.val ∧ nar .char ((((nar .char (Nat.toInt32 i.val)).toInt8.toInt32) &&& (255 : Int32)).toUInt32.toUInt16.toUInt32.toInt32) = Nat.toInt32 i.val ∧ ¬ nar .char (Nat.toInt32 i.val) < 0 ∧ ¬ (255 : Int32) < nar .char (Nat.toInt32 i.val) := by decide +kernel
theorem own_lat {i : Nat} (h : i < 128) : ¬ nar .char (i.toInt32) < 0 ∧ ¬ (255 : Int32) < nar .char (i.toInt32) := (own_narf ⟨i, h⟩).2.2
theorem own_infl {i : Nat} (h : i < 128) : nar .char ((((nar .char (i.toInt32)).toInt8.toInt32) &&& (255 : Int32)).toUInt32.toUInt16.toUInt32.toInt32) = i.toInt32 := (own_narf ⟨i, h⟩).2.1
theorem own_m3 (x : Int32) : x &&& (3 : Int32) = 0 ∨ x &&& (3 : Int32) = 1 ∨ x &&& (3 : Int32) = 2 ∨ x &&& (3 : Int32) = 3 := by
  have h := c_mask x 3 2 (by decide) (by decide)
  simp only [← Int32.toInt_inj, h]
  have e0 : (0 : Int32).toInt = 0 := rfl
  have e1 : (1 : Int32).toInt = 1 := rfl
  have e2 : (2 : Int32).toInt = 2 := rfl
  have e3 : (3 : Int32).toInt = 3 := rfl
  omega
theorem own_rep0 (n j : Nat) : (List.replicate n (0 : Int32)).getD j 0 = 0 := by
  rw [List.getD_eq_getElem?_getD, List.getElem?_replicate]; split <;> rfl
theorem own_set1 {M : List Int32} {q j : Nat} (hl : M.length = 128) (hq : q < 128) (hj : j < 128) : (M.set q (nar .boolean (1 : Int32))).getD j 0 = if j = q then 1 else M.getD j 0 := by
  simp only [List.getD_eq_getElem?_getD]
  by_cases e : j = q
  · subst e; simp [hl, hj]; decide
  · rw [List.getElem?_set_ne (Ne.symm e), if_neg e]
theorem d10_0 : decode jdk_42_method_154_code 0 = .ok (.getstatic 38, 3) := by decide +kernel
theorem d10_3 : decode jdk_42_method_154_code 3 = .ok (.ifCond .eq 14, 3) := by decide +kernel
theorem d10_6 : decode jdk_42_method_154_code 6 = .ok (.aload_n 0, 1) := by decide +kernel
theorem d10_7 : decode jdk_42_method_154_code 7 = .ok (.getfield 15, 3) := by decide +kernel
theorem d10_10 : decode jdk_42_method_154_code 10 = .ok (.ifCond .ne 7, 3) := by decide +kernel
theorem d10_13 : decode jdk_42_method_154_code 13 = .ok (.iconst 1, 1) := by decide +kernel
theorem d10_14 : decode jdk_42_method_154_code 14 = .ok (.goto 4, 3) := by decide +kernel
theorem d10_18 : decode jdk_42_method_154_code 18 = .ok (.ireturn, 1) := by decide +kernel
def Q10 (Z : State)  (h0 : Heap) (n0 : Nat) (v : Option Value) (h : Heap) (L : List Loc) : Prop := v = some (.int 1) ∧ Fr n0 L ∧ h = h0
def room10 : Room := { frames := 0, cells := 0, slots := 0, locals := 0 }
set_option maxRecDepth 65536 in
set_option maxHeartbeats 40000000 in
theorem rm10 (l : Launch) (Z : State) (a0 : Array Value) (hw : ∀ d ∈ tables_1, d.before a0 Z = true) (ws : List Jvm.Cond) (a1 : Addr) (gC : Int32) (h0 : Heap) (n0 : Nat) (Z0 : n0 ≤ h0.size) (SC : Sta Z Z.heap "java/lang/String" "COMPACT_STRINGS" "Z" (.int gC)) (PC : ¬ (gC = (0 : Int32))) (O0 : Old Z n0 h0) (F_coder : Fld Z h0 a1 "java/lang/String" "coder" "B" (.int (0 : Int32))) :
    MetFree l (⟨"java/lang/String", "isLatin1", "()Z"⟩ : MethodName) (head1 (Jvm.Cond.code (⟨"java/lang/String", "isLatin1", "()Z"⟩ : MethodName) jdk_42_method_154_code 1 (some .boolean) :: ws) room10) (fun aa_ U_ => aa_ = #[(.ref a1)] ∧ Z.Warmed39 U_.vm ∧ U_.heap = h0) (fun _ _ _ _ _ => True) (fun _ U_ o_ W_ => ∃ v_ L_, o_ = .returned v_ ∧ (Q10 Z  h0 n0) v_ W_.heap L_ ∧ FrameEnd U_ o_ W_ L_ room10.cells room10.slots) := by
  refine own_met (Q := (Q10 Z  h0 n0)) (L0 := #[.val (.ref a1)]) (plainFor_of_name pn_0) (fun m => by first | (simp [entryFrame, mkF, argsToLocals, Value.category]; done) | rfl) ?_
  intro p e s m below meth c T0 X0 hx hby hml hown hnm hret hlk hZ e0
  have N0 := Fr.nil n0
  obtain ⟨T1, X1, e1, st1⟩ := getS2 X0 hx hZ hown (host := "") (Or.inl (hw _ (List.mem_of_getElem? (i := 18) rfl))) Via.refl e0 (SC.ext O0.2) (g := (mkF m 0 #[.val (.ref a1)] [])) rfl (hb hby d10_0)
  refine Go.st (T' := T1) (pc' := 3) (L' := #[.val (.ref a1)]) (S' := [(.int gC)]) st1 ?_
  refine Go.st (T' := T1) (pc' := 6) (L' := #[.val (.ref a1)]) (S' := []) (fun t_ k_ => XS.ifNo X1.here hx rfl (hb hby d10_3) rfl ((if0 _ _).trans (feq (PC : ¬ (gC = (0 : Int32)))).1) k_) ?_
  refine Go.st (T' := T1) (pc' := 7) (L' := #[.val (.ref a1)]) (S' := [(.ref a1)]) (fun t_ k_ => XS.aloadN X1.here hx rfl (hb hby d10_6) rfl rfl  k_) ?_
  obtain ⟨T2, X2, e2, st2⟩ := getF X1 hx hZ hown (host := "") (Or.inl (hw _ (List.mem_of_getElem? (i := 30) rfl))) Via.refl e1 F_coder (g := (mkF m 7 #[.val (.ref a1)] [(.ref a1)])) rfl rfl (hb hby d10_7)
  refine Go.st (T' := T2) (pc' := 10) (L' := #[.val (.ref a1)]) (S' := [(.int (0 : Int32))]) st2 ?_
  refine Go.st (T' := T2) (pc' := 13) (L' := #[.val (.ref a1)]) (S' := []) (fun t_ k_ => XS.ifNo X2.here hx rfl (hb hby d10_10) rfl ((if0 _ _).trans (teq (by decide : ((0 : Int32) = (0 : Int32)))).2) k_) ?_
  refine Go.st (T' := T2) (pc' := 14) (L' := #[.val (.ref a1)]) (S' := [(.int (1 : Int32))]) (fun t_ k_ => XS.iconst X2.here hx rfl (hb hby d10_13) k_) ?_
  refine Go.st (T' := T2) (pc' := 18) (L' := #[.val (.ref a1)]) (S' := [(.int (1 : Int32))]) (fun t_ k_ => XS.goto X2.here hx rfl (pc0 := 14) (pc' := 18) rfl (hb hby d10_14) (by decide) (by decide) k_) ?_
  exact Go.retN X2 hx hlk hret (by simp) (hb hby d10_18) (by decide) (by decide) (by rw [e2]; exact ⟨rfl, N0, rfl⟩)
theorem d12_0 : decode jdk_43_method_49_code 0 = .ok (.iconst 0, 1) := by decide +kernel
theorem d12_1 : decode jdk_43_method_49_code 1 = .ok (.istore 5, 2) := by decide +kernel
theorem d12_3 : decode jdk_43_method_49_code 3 = .ok (.iload 5, 2) := by decide +kernel
theorem d12_5 : decode jdk_43_method_49_code 5 = .ok (.iload 4, 2) := by decide +kernel
theorem d12_7 : decode jdk_43_method_49_code 7 = .ok (.if_icmp .ge 26, 3) := by decide +kernel
theorem d12_33 : decode jdk_43_method_49_code 33 = .ok (.return_, 1) := by decide +kernel
theorem pn_1 : plainName "java/lang/StringLatin1" = true := by first | (simp [plainName, overriddenIn]; done) | decide +kernel
def Qinf0 (Z : State) (y : Addr) (ky : ClassId) (h0 : Heap) (n0 : Nat) (v : Option Value) (h : Heap) (L : List Loc) : Prop := v = none ∧ Fr n0 L ∧ Keep h0 h [y] ∧ Arv Z h y ky .char (0 : Int32) [] (.int (0 : Int32))
def roominf0 : Room := { frames := 0, cells := 0, slots := 0, locals := 0 }
set_option maxRecDepth 65536 in
set_option maxHeartbeats 40000000 in
theorem rminf0 (l : Launch) (Z : State) (a0 : Array Value) (hw : ∀ d ∈ tables_1, d.before a0 Z = true) (ws : List Jvm.Cond) (t : Addr) (y : Addr) (kt : ClassId) (ky : ClassId) (h0 : Heap) (n0 : Nat) (Z0 : n0 ≤ h0.size) (V_t : Arv Z h0 t kt .byte (0 : Int32) [] (.int (0 : Int32))) (V_y : Arv Z h0 y ky .char (0 : Int32) [] (.int (0 : Int32))) (nty : t ≠ y) (g_y : n0 ≤ y)  :
    MetFree l (⟨"java/lang/StringLatin1", "inflate", "([BI[CII)V"⟩ : MethodName) (head1 (Jvm.Cond.code (⟨"java/lang/StringLatin1", "inflate", "([BI[CII)V"⟩ : MethodName) jdk_43_method_49_code 6 none :: ws) roominf0) (fun aa_ U_ => aa_ = #[(.ref t), (.int (0 : Int32)), (.ref y), (.int (0 : Int32)), (.int (0 : Int32))] ∧ Z.Warmed39 U_.vm ∧ U_.heap = h0) (fun _ _ _ _ _ => True) (fun _ U_ o_ W_ => ∃ v_ L_, o_ = .returned v_ ∧ (Qinf0 Z y ky  h0 n0) v_ W_.heap L_ ∧ FrameEnd U_ o_ W_ L_ roominf0.cells roominf0.slots) := by
  refine own_met (Q := (Qinf0 Z y ky  h0 n0)) (L0 := #[.val (.ref t), .val (.int (0 : Int32)), .val (.ref y), .val (.int (0 : Int32)), .val (.int (0 : Int32)), .unset]) (plainFor_of_name pn_1) (fun m => by first | (simp [entryFrame, mkF, argsToLocals, Value.category]; done) | rfl) ?_
  intro p e s m below meth c T0 X0 hx hby hml hown hnm hret hlk hZ e0
  have N0 := Fr.nil n0
  have K0 := Keep.refl h0 [y]
  refine Go.st (T' := T0) (pc' := 1) (L' := #[.val (.ref t), .val (.int (0 : Int32)), .val (.ref y), .val (.int (0 : Int32)), .val (.int (0 : Int32)), .unset]) (S' := [(.int (0 : Int32))]) (fun t_ k_ => XS.iconst X0.here hx rfl (hb hby d12_0) k_) ?_
  refine Go.st (T' := T0) (pc' := 3) (L' := #[.val (.ref t), .val (.int (0 : Int32)), .val (.ref y), .val (.int (0 : Int32)), .val (.int (0 : Int32)), .val (.int (0 : Int32))]) (S' := []) (fun t_ k_ => XS.istore X0.here hx rfl (hb hby d12_1) rfl (l' := #[.val (.ref t), .val (.int (0 : Int32)), .val (.ref y), .val (.int (0 : Int32)), .val (.int (0 : Int32)), .val (.int (0 : Int32))]) rfl k_) ?_
  refine Go.st (T' := T0) (pc' := 5) (L' := #[.val (.ref t), .val (.int (0 : Int32)), .val (.ref y), .val (.int (0 : Int32)), .val (.int (0 : Int32)), .val (.int (0 : Int32))]) (S' := [(.int (0 : Int32))]) (fun t_ k_ => XS.iload X0.here hx rfl (hb hby d12_3) rfl  k_) ?_
  refine Go.st (T' := T0) (pc' := 7) (L' := #[.val (.ref t), .val (.int (0 : Int32)), .val (.ref y), .val (.int (0 : Int32)), .val (.int (0 : Int32)), .val (.int (0 : Int32))]) (S' := [(.int (0 : Int32)), (.int (0 : Int32))]) (fun t_ k_ => XS.iload X0.here hx rfl (hb hby d12_5) rfl  k_) ?_
  refine Go.st (T' := T0) (pc' := 33) (L' := #[.val (.ref t), .val (.int (0 : Int32)), .val (.ref y), .val (.int (0 : Int32)), .val (.int (0 : Int32)), .val (.int (0 : Int32))]) (S' := []) (fun t_ k_ => XS.icmpYes X0.here hx rfl (pc0 := 7) (pc' := 33) rfl (hb hby d12_7) rfl (flt (by decide : ¬ ((0 : Int32) < (0 : Int32)))).2.1 (by decide) (by decide) k_) ?_
  exact Go.retV X0 hx hlk hret (hb hby d12_33) (by decide) (by decide) (by rw [e0]; exact ⟨rfl, N0, K0, V_y⟩)
theorem d11_0 : decode jdk_43_method_9_code 0 = .ok (.aload_n 0, 1) := by decide +kernel
theorem d11_1 : decode jdk_43_method_9_code 1 = .ok (.arraylength, 1) := by decide +kernel
theorem d11_2 : decode jdk_43_method_9_code 2 = .ok (.newarray .char, 2) := by decide +kernel
theorem d11_4 : decode jdk_43_method_9_code 4 = .ok (.astore_n 1, 1) := by decide +kernel
theorem d11_5 : decode jdk_43_method_9_code 5 = .ok (.aload_n 0, 1) := by decide +kernel
theorem d11_6 : decode jdk_43_method_9_code 6 = .ok (.iconst 0, 1) := by decide +kernel
theorem d11_7 : decode jdk_43_method_9_code 7 = .ok (.aload_n 1, 1) := by decide +kernel
theorem d11_8 : decode jdk_43_method_9_code 8 = .ok (.iconst 0, 1) := by decide +kernel
theorem d11_9 : decode jdk_43_method_9_code 9 = .ok (.aload_n 0, 1) := by decide +kernel
theorem d11_10 : decode jdk_43_method_9_code 10 = .ok (.arraylength, 1) := by decide +kernel
theorem d11_11 : decode jdk_43_method_9_code 11 = .ok (.invokestatic 13, 3) := by decide +kernel
theorem d11_14 : decode jdk_43_method_9_code 14 = .ok (.aload_n 1, 1) := by decide +kernel
theorem d11_15 : decode jdk_43_method_9_code 15 = .ok (.areturn, 1) := by decide +kernel
theorem pd_1 : parseMethodDescriptor "([BI[CII)V" = some ⟨[(.array .byte), .int, (.array .char), .int, .int], none⟩ := by decide +kernel
def Qtch0 (Z : State)  (h0 : Heap) (n0 : Nat) (v : Option Value) (h : Heap) (L : List Loc) : Prop := ∃ (y : Addr) (ky : ClassId), v = some (.ref y) ∧ Fr n0 L ∧ Keep h0 h [] ∧ n0 ≤ y ∧ h0.size ≤ y ∧ Arv Z h y ky .char (0 : Int32) [] (.int (0 : Int32))
def roomtch0 : Room := { frames := 1, cells := 1, slots := 0, locals := 17 }
set_option maxRecDepth 65536 in
set_option maxHeartbeats 40000000 in
theorem rmtch0 (l : Launch) (Z : State) (a0 : Array Value) (hw : ∀ d ∈ tables_1, d.before a0 Z = true) (ws : List Jvm.Cond) (t : Addr) (kt : ClassId) (h0 : Heap) (n0 : Nat) (Z0 : n0 ≤ h0.size) (V_t : Arv Z h0 t kt .byte (0 : Int32) [] (.int (0 : Int32)))  :
    MetFree l (⟨"java/lang/StringLatin1", "toChars", "([B)[C"⟩ : MethodName) (head1 (Jvm.Cond.code (⟨"java/lang/StringLatin1", "toChars", "([B)[C"⟩ : MethodName) jdk_43_method_9_code 2 (some (.array .char)) :: ws) roomtch0) (fun aa_ U_ => aa_ = #[(.ref t)] ∧ Z.Warmed39 U_.vm ∧ U_.heap = h0) (fun _ _ _ _ _ => True) (fun _ U_ o_ W_ => ∃ v_ L_, o_ = .returned v_ ∧ (Qtch0 Z  h0 n0) v_ W_.heap L_ ∧ FrameEnd U_ o_ W_ L_ roomtch0.cells roomtch0.slots) := by
  refine own_met (Q := (Qtch0 Z  h0 n0)) (L0 := #[.val (.ref t), .unset]) (plainFor_of_name pn_1) (fun m => by first | (simp [entryFrame, mkF, argsToLocals, Value.category]; done) | rfl) ?_
  intro p e s m below meth c T0 X0 hx hby hml hown hnm hret hlk hZ e0
  have N0 := Fr.nil n0
  have K0 := Keep.refl h0 []
  refine Go.st (T' := T0) (pc' := 1) (L' := #[.val (.ref t), .unset]) (S' := [(.ref t)]) (fun t_ k_ => XS.aloadN X0.here hx rfl (hb hby d11_0) rfl rfl  k_) ?_
  obtain ⟨cl1, Ar1, -, q1a, q1b, -, -⟩ := id V_t
  refine Go.st (T' := T0) (pc' := 2) (L' := #[.val (.ref t), .unset]) (S' := [(.int (0 : Int32))]) (fun t_ k_ => own_len X0 hx hZ e0 Ar1 q1a q1b (g := (mkF m 1 #[.val (.ref t), .unset] [(.ref t)])) rfl rfl (hb hby d11_1) t_ k_) ?_
  obtain ⟨T2, h2, k2, X2, e2, E2, A2, st2⟩ := newP X0 hx hZ (hw _ (List.mem_of_getElem? (i := 7) rfl)) e0 (g := (mkF m 2 #[.val (.ref t), .unset] [(.int (0 : Int32))])) rfl (hb hby d11_2) rfl (by decide) (cap := 0) (by decide) (by decide) (by decide) (by decide)
  obtain ⟨b2, g2⟩ : ∃ z, z = h0.size := ⟨_, rfl⟩
  rw [← g2] at A2 st2
  have ne_t_b2 : t ≠ b2 := Nat.ne_of_lt (Nat.lt_of_lt_of_le V_t.lt (Nat.le_of_eq g2.symm))
  have g_b2 : n0 ≤ b2 := Nat.le_trans Z0 (Nat.le_of_eq g2.symm)
  have sz_b2 : h0.size ≤ b2 := Nat.le_trans K0.1 (Nat.le_of_eq g2.symm)
  replace Z0 := Nat.le_trans Z0 E2.1
  replace K0 := K0.ext E2
  replace V_t := V_t.ext E2
  have V_b2 : Arv Z h2 b2 k2 .char (0 : Int32) [] (.int (0 : Int32)) := (Arv.new A2 (by decide)).pad (pad_rep [] (.int (0 : Int32)) 0)
  refine Go.st (T' := T2) (pc' := 4) (L' := #[.val (.ref t), .unset]) (S' := [(.ref b2)]) st2 ?_
  refine Go.st (T' := T2) (pc' := 5) (L' := #[.val (.ref t), .val (.ref b2)]) (S' := []) (fun t_ k_ => XS.astoreN X2.here hx rfl (hb hby d11_4) rfl rfl (l' := #[.val (.ref t), .val (.ref b2)]) rfl k_) ?_
  refine Go.st (T' := T2) (pc' := 6) (L' := #[.val (.ref t), .val (.ref b2)]) (S' := [(.ref t)]) (fun t_ k_ => XS.aloadN X2.here hx rfl (hb hby d11_5) rfl rfl  k_) ?_
  refine Go.st (T' := T2) (pc' := 7) (L' := #[.val (.ref t), .val (.ref b2)]) (S' := [(.int (0 : Int32)), (.ref t)]) (fun t_ k_ => XS.iconst X2.here hx rfl (hb hby d11_6) k_) ?_
  refine Go.st (T' := T2) (pc' := 8) (L' := #[.val (.ref t), .val (.ref b2)]) (S' := [(.ref b2), (.int (0 : Int32)), (.ref t)]) (fun t_ k_ => XS.aloadN X2.here hx rfl (hb hby d11_7) rfl rfl  k_) ?_
  refine Go.st (T' := T2) (pc' := 9) (L' := #[.val (.ref t), .val (.ref b2)]) (S' := [(.int (0 : Int32)), (.ref b2), (.int (0 : Int32)), (.ref t)]) (fun t_ k_ => XS.iconst X2.here hx rfl (hb hby d11_8) k_) ?_
  refine Go.st (T' := T2) (pc' := 10) (L' := #[.val (.ref t), .val (.ref b2)]) (S' := [(.ref t), (.int (0 : Int32)), (.ref b2), (.int (0 : Int32)), (.ref t)]) (fun t_ k_ => XS.aloadN X2.here hx rfl (hb hby d11_9) rfl rfl  k_) ?_
  obtain ⟨cl3, Ar3, -, q3a, q3b, -, -⟩ := id V_t
  refine Go.st (T' := T2) (pc' := 11) (L' := #[.val (.ref t), .val (.ref b2)]) (S' := [(.int (0 : Int32)), (.int (0 : Int32)), (.ref b2), (.int (0 : Int32)), (.ref t)]) (fun t_ k_ => own_len X2 hx hZ e2 Ar3 q3a q3b (g := (mkF m 10 #[.val (.ref t), .val (.ref b2)] [(.ref t), (.int (0 : Int32)), (.ref b2), (.int (0 : Int32)), (.ref t)])) rfl rfl (hb hby d11_10) t_ k_) ?_
  obtain ⟨_, _, ⟨T4, L4, k4, n4⟩, -, X4, ⟨Lc4, hQ4, l4, y4, z4⟩, st4⟩ := Jvm.LawKit.callS X2 hx (y := (⟨"java/lang/StringLatin1", "inflate", "([BI[CII)V"⟩ : MethodName)) hown (mvT hZ (hw _ (List.mem_of_getElem? (i := 53) rfl))) (mvT hZ (hw _ (List.mem_of_getElem? (i := 54) rfl))) (mvT hZ (hw _ (List.mem_of_getElem? (i := 51) rfl))) (mvT hZ (hw _ (List.mem_of_getElem? (i := 55) rfl))) (by decide) (backOf (W := 0) (rminf0 l Z a0 hw [] t b2 _ _  h2 n0 Z0 V_t V_b2 ne_t_b2 g_b2 ) hZ (hw _ (List.mem_of_getElem? (i := 55) rfl)) (hw _ (List.mem_of_getElem? (i := 51) rfl)) (by decide) (by decide)) (g := (mkF m 11 #[.val (.ref t), .val (.ref b2)] [(.int (0 : Int32)), (.int (0 : Int32)), (.ref b2), (.int (0 : Int32)), (.ref t)])) rfl (by rw [hml]; rfl) (argsL := [(.ref t), (.int (0 : Int32)), (.ref b2), (.int (0 : Int32)), (.int (0 : Int32))]) (rest := []) (lenOf pd_1 rfl) rfl (by show 2 * 0 + _ ≤ _; exact Nat.le_of_eq rfl) (hb hby d11_11) (fun _ _ => ⟨rfl, e2, (by decide : 1 + 0 ≤ _), (by decide : 0 + 0 ≤ _)⟩)
  dsimp only [Pt.U, Pt.locs, Pt.cells, Pt.slots] at X4 l4 y4 z4 st4 hQ4
  subst l4 y4 z4
  obtain ⟨rfl, N4q, K4, Vy4⟩ := hQ4
  have N4 := Fr.app N0 N4q
  obtain ⟨h4, e4⟩ : ∃ z, T4.heap = z := ⟨_, rfl⟩
  rw [e4] at K4 Vy4
  replace Z0 := Nat.le_trans Z0 K4.1
  replace K0 := K0.trans K4 (allS (Or.inr sz_b2) all0)
  replace V_t := V_t.keep K4 (ninS ne_t_b2 nin0)
  refine Go.st (T' := T4) (pc' := 14) (L' := #[.val (.ref t), .val (.ref b2)]) (S' := []) st4 ?_
  refine Go.st (T' := T4) (pc' := 15) (L' := #[.val (.ref t), .val (.ref b2)]) (S' := [(.ref b2)]) (fun t_ k_ => XS.aloadN X4.here hx rfl (hb hby d11_14) rfl rfl  k_) ?_
  exact Go.retO X4 hx hlk hret rfl (by simp [FieldType.isReference, Value.isRef]) (hb hby d11_15) (by decide) (by decide) (by rw [e4]; exact ⟨b2, _, rfl, N4, K0, g_b2, sz_b2, Vy4⟩)
theorem d9_0 : decode jdk_42_method_129_code 0 = .ok (.aload_n 0, 1) := by decide +kernel
theorem d9_1 : decode jdk_42_method_129_code 1 = .ok (.invokevirtual 492, 3) := by decide +kernel
theorem d9_4 : decode jdk_42_method_129_code 4 = .ok (.ifCond .eq 13, 3) := by decide +kernel
theorem d9_7 : decode jdk_42_method_129_code 7 = .ok (.aload_n 0, 1) := by decide +kernel
theorem d9_8 : decode jdk_42_method_129_code 8 = .ok (.getfield 9, 3) := by decide +kernel
theorem d9_11 : decode jdk_42_method_129_code 11 = .ok (.invokestatic 299, 3) := by decide +kernel
theorem d9_14 : decode jdk_42_method_129_code 14 = .ok (.goto 10, 3) := by decide +kernel
theorem d9_24 : decode jdk_42_method_129_code 24 = .ok (.areturn, 1) := by decide +kernel
theorem pd_2 : parseMethodDescriptor "()Z" = some ⟨[], some .boolean⟩ := by decide +kernel
theorem pd_3 : parseMethodDescriptor "([B)[C" = some ⟨[(.array .byte)], some (.array .char)⟩ := by decide +kernel
def Qtca0 (Z : State)  (h0 : Heap) (n0 : Nat) (v : Option Value) (h : Heap) (L : List Loc) : Prop := ∃ (y : Addr) (ky : ClassId), v = some (.ref y) ∧ Fr n0 L ∧ Keep h0 h [] ∧ n0 ≤ y ∧ h0.size ≤ y ∧ Arv Z h y ky .char (0 : Int32) [] (.int (0 : Int32))
def roomtca0 : Room := { frames := 2, cells := 1, slots := 0, locals := 30 }
set_option maxRecDepth 65536 in
set_option maxHeartbeats 40000000 in
theorem rmtca0 (l : Launch) (Z : State) (a0 : Array Value) (hw : ∀ d ∈ tables_1, d.before a0 Z = true) (ws : List Jvm.Cond) (a1 : Addr) (t : Addr) (kt : ClassId) (gC : Int32) (h0 : Heap) (n0 : Nat) (Z0 : n0 ≤ h0.size) (SC : Sta Z Z.heap "java/lang/String" "COMPACT_STRINGS" "Z" (.int gC)) (PC : ¬ (gC = (0 : Int32))) (O0 : Old Z n0 h0) (E_a1 : Exa Z h0 a1 "java/lang/String") (F_coder : Fld Z h0 a1 "java/lang/String" "coder" "B" (.int (0 : Int32))) (F_value : Fld Z h0 a1 "java/lang/String" "value" "[B" (.ref t)) (V_t : Arv Z h0 t kt .byte (0 : Int32) [] (.int (0 : Int32)))  :
    MetFree l (⟨"java/lang/String", "toCharArray", "()[C"⟩ : MethodName) (head1 (Jvm.Cond.code (⟨"java/lang/String", "toCharArray", "()[C"⟩ : MethodName) jdk_42_method_129_code 1 (some (.array .char)) :: ws) roomtca0) (fun aa_ U_ => aa_ = #[(.ref a1)] ∧ Z.Warmed39 U_.vm ∧ U_.heap = h0) (fun _ _ _ _ _ => True) (fun _ U_ o_ W_ => ∃ v_ L_, o_ = .returned v_ ∧ (Qtca0 Z  h0 n0) v_ W_.heap L_ ∧ FrameEnd U_ o_ W_ L_ roomtca0.cells roomtca0.slots) := by
  refine own_met (Q := (Qtca0 Z  h0 n0)) (L0 := #[.val (.ref a1)]) (plainFor_of_name pn_0) (fun m => by first | (simp [entryFrame, mkF, argsToLocals, Value.category]; done) | rfl) ?_
  intro p e s m below meth c T0 X0 hx hby hml hown hnm hret hlk hZ e0
  have N0 := Fr.nil n0
  have K0 := Keep.refl h0 []
  refine Go.st (T' := T0) (pc' := 1) (L' := #[.val (.ref a1)]) (S' := [(.ref a1)]) (fun t_ k_ => XS.aloadN X0.here hx rfl (hb hby d9_0) rfl rfl  k_) ?_
  obtain ⟨cq1, kq1, q1a, q1b, q1c⟩ := isOf hZ e0 E_a1
  obtain ⟨_, _, ⟨T1, L1, k1, n1⟩, -, X1, ⟨Lc1, hQ1, l1, y1, z1⟩, st1⟩ := X0.virtualBack hx (y := (⟨"java/lang/String", "isLatin1", "()Z"⟩ : MethodName)) (z := (⟨"java/lang/String", "isLatin1", "()Z"⟩ : MethodName)) hown (mvT hZ (hw _ (List.mem_of_getElem? (i := 44) rfl))) (mvT hZ (hw _ (List.mem_of_getElem? (i := 45) rfl))) (notFace_of_selects (args := #[]) (mvT hZ (hw _ (List.mem_of_getElem? (i := 47) rfl)))) (mvT hZ (hw _ (List.mem_of_getElem? (i := 47) rfl))) (mvT hZ (hw _ (List.mem_of_getElem? (i := 46) rfl))) (by decide) (backOf (W := 0) (rm10 l Z a0 hw [] a1 gC h0 n0 Z0 SC PC O0 F_coder) hZ (hw _ (List.mem_of_getElem? (i := 48) rfl)) (hw _ (List.mem_of_getElem? (i := 6) rfl)) (by decide) (by decide)) q1a q1c (g := (mkF m 1 #[.val (.ref a1)] [(.ref a1)])) rfl (by rw [hml]; rfl) (Steps.refl _) (argsL := []) (rest := []) (lenOf pd_2 rfl) rfl (by show 2 * 0 + _ ≤ _; exact Nat.le_of_eq rfl) (hb hby d9_1) (fun _ _ => ⟨rfl, e0, (by decide : 0 + 0 ≤ _), (by decide : 0 + 0 ≤ _)⟩)
  dsimp only [Pt.U, Pt.locs, Pt.cells, Pt.slots] at X1 l1 y1 z1 st1 hQ1
  subst l1 y1 z1
  obtain ⟨rfl, N1q, e1⟩ := hQ1
  have N1 := Fr.app N0 N1q
  refine Go.tr (T' := T1) (pc' := 4) (L' := #[.val (.ref a1)]) (S' := [(.int (1 : Int32))]) st1 ?_
  refine Go.st (T' := T1) (pc' := 7) (L' := #[.val (.ref a1)]) (S' := []) (fun t_ k_ => XS.ifNo X1.here hx rfl (hb hby d9_4) rfl ((if0 _ _).trans (feq (by decide : ¬ ((1 : Int32) = (0 : Int32)))).1) k_) ?_
  refine Go.st (T' := T1) (pc' := 8) (L' := #[.val (.ref a1)]) (S' := [(.ref a1)]) (fun t_ k_ => XS.aloadN X1.here hx rfl (hb hby d9_7) rfl rfl  k_) ?_
  obtain ⟨T2, X2, e2, st2⟩ := getF X1 hx hZ hown (host := "") (Or.inl (hw _ (List.mem_of_getElem? (i := 32) rfl))) Via.refl e1 F_value (g := (mkF m 8 #[.val (.ref a1)] [(.ref a1)])) rfl rfl (hb hby d9_8)
  refine Go.st (T' := T2) (pc' := 11) (L' := #[.val (.ref a1)]) (S' := [(.ref t)]) st2 ?_
  obtain ⟨_, _, ⟨T3, L3, k3, n3⟩, -, X3, ⟨Lc3, hQ3, l3, y3, z3⟩, st3⟩ := Jvm.LawKit.callS X2 hx (y := (⟨"java/lang/StringLatin1", "toChars", "([B)[C"⟩ : MethodName)) hown (mvT hZ (hw _ (List.mem_of_getElem? (i := 49) rfl))) (mvT hZ (hw _ (List.mem_of_getElem? (i := 50) rfl))) (mvT hZ (hw _ (List.mem_of_getElem? (i := 51) rfl))) (mvT hZ (hw _ (List.mem_of_getElem? (i := 52) rfl))) (by decide) (backOf (W := 0) (rmtch0 l Z a0 hw [] t _  h0 n0 Z0 V_t ) hZ (hw _ (List.mem_of_getElem? (i := 52) rfl)) (hw _ (List.mem_of_getElem? (i := 51) rfl)) (by decide) (by decide)) (g := (mkF m 11 #[.val (.ref a1)] [(.ref t)])) rfl (by rw [hml]; rfl) (argsL := [(.ref t)]) (rest := []) (lenOf pd_3 rfl) rfl (by show 2 * 0 + _ ≤ _; exact Nat.le_of_eq rfl) (hb hby d9_11) (fun _ _ => ⟨rfl, e2, (by decide : 0 + 1 ≤ _), (by decide : 0 + 0 ≤ _)⟩)
  dsimp only [Pt.U, Pt.locs, Pt.cells, Pt.slots] at X3 l3 y3 z3 st3 hQ3
  subst l3 y3 z3
  obtain ⟨y3, ky3, rfl, N3q, K3, g_y3, lt3, Vy3⟩ := hQ3
  have N3 := Fr.app N1 N3q
  have ne_a1_y3 : a1 ≠ y3 := Nat.ne_of_lt (Nat.lt_of_lt_of_le E_a1.lt lt3)
  have ne_t_y3 : t ≠ y3 := Nat.ne_of_lt (Nat.lt_of_lt_of_le V_t.lt lt3)
  have sz_y3 : h0.size ≤ y3 := Nat.le_trans K0.1 lt3
  obtain ⟨h3, e3⟩ : ∃ z, T3.heap = z := ⟨_, rfl⟩
  rw [e3] at K3 Vy3
  replace Z0 := Nat.le_trans Z0 K3.1
  replace O0 := O0.keep K3 all0
  replace E_a1 := E_a1.keep K3
  replace F_coder := F_coder.keep K3 nin0
  replace F_value := F_value.keep K3 nin0
  replace V_t := V_t.keep K3 nin0
  replace K0 := K0.trans K3 all0
  refine Go.st (T' := T3) (pc' := 14) (L' := #[.val (.ref a1)]) (S' := [(.ref y3)]) st3 ?_
  refine Go.st (T' := T3) (pc' := 24) (L' := #[.val (.ref a1)]) (S' := [(.ref y3)]) (fun t_ k_ => XS.goto X3.here hx rfl (pc0 := 14) (pc' := 24) rfl (hb hby d9_14) (by decide) (by decide) k_) ?_
  exact Go.retO X3 hx hlk hret rfl (by simp [FieldType.isReference, Value.isRef]) (hb hby d9_24) (by decide) (by decide) (by rw [e3]; exact ⟨y3, _, rfl, N3, K0, g_y3, sz_y3, Vy3⟩)
def Qcsa0 (Z : State)  (h0 : Heap) (n0 : Nat) (v : Option Value) (h : Heap) (L : List Loc) : Prop := ∃ (b : Addr) (kb : ClassId) (M : List Int32), v = some (.ref b) ∧ Fr n0 L ∧ Keep h0 h [] ∧ Arv Z h b kb .boolean (128 : Int32) (M.map Value.int) (.int 0) ∧ ∀ j, j < 128 → M.getD j 0 = if j < 33 then 1 else 0
theorem own_fin0 {M : List Int32}  (hM : ∀ j, j < 128 → M.getD j 0 = if j < 33 then 1 else 0) (lM : M.length = 128) {j : Nat} (hj : j < 128) : (M).getD j 0 = if j < 33 then 1 else 0 := by
  rw [hM j hj]
  
theorem d8_0 : decode prog_43_method_2_code 0 = .ok (.sipush 128, 3) := by decide +kernel
theorem d8_3 : decode prog_43_method_2_code 3 = .ok (.newarray .boolean, 2) := by decide +kernel
theorem d8_5 : decode prog_43_method_2_code 5 = .ok (.astore_n 1, 1) := by decide +kernel
theorem d8_6 : decode prog_43_method_2_code 6 = .ok (.iconst 0, 1) := by decide +kernel
theorem d8_7 : decode prog_43_method_2_code 7 = .ok (.istore_n 2, 1) := by decide +kernel
theorem d8_8 : decode prog_43_method_2_code 8 = .ok (.iload_n 2, 1) := by decide +kernel
theorem d8_9 : decode prog_43_method_2_code 9 = .ok (.bipush 32, 2) := by decide +kernel
theorem d8_11 : decode prog_43_method_2_code 11 = .ok (.if_icmp .gt 13, 3) := by decide +kernel
theorem d8_14 : decode prog_43_method_2_code 14 = .ok (.aload_n 1, 1) := by decide +kernel
theorem d8_15 : decode prog_43_method_2_code 15 = .ok (.iload_n 2, 1) := by decide +kernel
theorem d8_16 : decode prog_43_method_2_code 16 = .ok (.iconst 1, 1) := by decide +kernel
theorem d8_17 : decode prog_43_method_2_code 17 = .ok (.bastore, 1) := by decide +kernel
theorem d8_18 : decode prog_43_method_2_code 18 = .ok (.iinc 2 1, 3) := by decide +kernel
theorem d8_21 : decode prog_43_method_2_code 21 = .ok (.goto (-13), 3) := by decide +kernel
theorem d8_24 : decode prog_43_method_2_code 24 = .ok (.aload_n 0, 1) := by decide +kernel
theorem d8_25 : decode prog_43_method_2_code 25 = .ok (.invokevirtual 7, 3) := by decide +kernel
theorem d8_28 : decode prog_43_method_2_code 28 = .ok (.astore_n 2, 1) := by decide +kernel
theorem d8_29 : decode prog_43_method_2_code 29 = .ok (.aload_n 2, 1) := by decide +kernel
theorem d8_30 : decode prog_43_method_2_code 30 = .ok (.arraylength, 1) := by decide +kernel
theorem d8_31 : decode prog_43_method_2_code 31 = .ok (.istore_n 3, 1) := by decide +kernel
theorem d8_32 : decode prog_43_method_2_code 32 = .ok (.iconst 0, 1) := by decide +kernel
theorem d8_33 : decode prog_43_method_2_code 33 = .ok (.istore 4, 2) := by decide +kernel
theorem d8_35 : decode prog_43_method_2_code 35 = .ok (.iload 4, 2) := by decide +kernel
theorem d8_37 : decode prog_43_method_2_code 37 = .ok (.iload_n 3, 1) := by decide +kernel
theorem d8_38 : decode prog_43_method_2_code 38 = .ok (.if_icmp .ge 20, 3) := by decide +kernel
theorem d8_58 : decode prog_43_method_2_code 58 = .ok (.aload_n 1, 1) := by decide +kernel
theorem d8_59 : decode prog_43_method_2_code 59 = .ok (.areturn, 1) := by decide +kernel
theorem pd_4 : parseMethodDescriptor "()[C" = some ⟨[], some (.array .char)⟩ := by decide +kernel
theorem pn_2 : plainName "com/example/traversal/traversal/graph/Iris" = true := by first | (simp [plainName, overriddenIn]; done) | decide +kernel
def roomcsa0 : Room := { frames := 3, cells := 2, slots := 128, locals := 42 }
set_option maxRecDepth 65536 in
set_option maxHeartbeats 40000000 in
theorem seg24_0 {p : Program} {l : Launch} {e : Env} {s : State} {m : MethodId} {args : Array Value} {below : List Frame} {meth : Method} {c : Code} {T0 : State} {locs : List Loc} {Z : State} {a0 : Array Value} {n0 : Nat} {h0 hh : Heap} (a1 : Addr) (t : Addr) (kt : ClassId) (gC : Int32) (b : Addr) (kb : ClassId) (M : List Int32)
    (X0 : Stand p l e roomcsa0 s m args below meth c T0 locs 1 128) (hx : p.tables.exec = Jvm.exec) (hZ : Z.Warmed39 s.vm) (hw : ∀ d ∈ tables_1, d.before a0 Z = true) (hby : c.code = prog_43_method_2_code) (hml : c.maxLocals = 6) (hown : s.vm.findClass "com/example/traversal/traversal/graph/Iris" = some m.cls) (hnm : meth.name = "controlsSpaceAnd") (hret : meth.sig.returnType = (some (.array .boolean))) (hlk : meth.locks = false) (e0 : T0.heap = hh) (N0 : Fr n0 locs) (SC : Sta Z Z.heap "java/lang/String" "COMPACT_STRINGS" "Z" (.int gC)) (PC : ¬ (gC = (0 : Int32))) (O0 : Old Z n0 hh) (Z0 : n0 ≤ hh.size) (E_a1 : Exa Z hh a1 "java/lang/String") (F_coder : Fld Z hh a1 "java/lang/String" "coder" "B" (.int (0 : Int32))) (F_value : Fld Z hh a1 "java/lang/String" "value" "[B" (.ref t)) (V_t : Arv Z hh t kt .byte (0 : Int32) [] (.int (0 : Int32)))  (V_b : Arv Z hh b kb .boolean (128 : Int32) (M.map Value.int) (.int 0)) (lM : M.length = 128) (g_b : n0 ≤ b) (nab : a1 ≠ b) (ntb : t ≠ b) (sz_b : h0.size ≤ b) (K0 : Keep h0 hh []) (hM : ∀ j, j < 128 → M.getD j 0 = if j < 33 then 1 else 0) :
    Go p e below s roomcsa0.cells roomcsa0.slots (Qcsa0 Z  h0 n0) m T0 24 #[.val (.ref a1), .val (.ref b), .val (.int (Nat.toInt32 33)), .unset, .unset, .unset] [] := by
  refine Go.st (T' := T0) (pc' := 25) (L' := #[.val (.ref a1), .val (.ref b), .val (.int (Nat.toInt32 33)), .unset, .unset, .unset]) (S' := [(.ref a1)]) (fun t_ k_ => XS.aloadN X0.here hx rfl (hb hby d8_24) rfl rfl  k_) ?_
  obtain ⟨cq1, kq1, q1a, q1b, q1c⟩ := isOf hZ e0 E_a1
  obtain ⟨_, _, ⟨T1, L1, k1, n1⟩, -, X1, ⟨Lc1, hQ1, l1, y1, z1⟩, st1⟩ := X0.virtualBack hx (y := (⟨"java/lang/String", "toCharArray", "()[C"⟩ : MethodName)) (z := (⟨"java/lang/String", "toCharArray", "()[C"⟩ : MethodName)) hown (mvT hZ (hw _ (List.mem_of_getElem? (i := 39) rfl))) (mvT hZ (hw _ (List.mem_of_getElem? (i := 40) rfl))) (notFace_of_selects (args := #[]) (mvT hZ (hw _ (List.mem_of_getElem? (i := 42) rfl)))) (mvT hZ (hw _ (List.mem_of_getElem? (i := 42) rfl))) (mvT hZ (hw _ (List.mem_of_getElem? (i := 41) rfl))) (by decide) (backOf (W := 0) (rmtca0 l Z a0 hw [] a1 t _ gC  hh n0 Z0 SC PC O0 E_a1 F_coder F_value V_t ) hZ (hw _ (List.mem_of_getElem? (i := 43) rfl)) (hw _ (List.mem_of_getElem? (i := 6) rfl)) (by decide) (by decide)) q1a q1c (g := (mkF m 25 #[.val (.ref a1), .val (.ref b), .val (.int (Nat.toInt32 33)), .unset, .unset, .unset] [(.ref a1)])) rfl (by rw [hml]; rfl) (Steps.refl _) (argsL := []) (rest := []) (lenOf pd_4 rfl) rfl (by show 2 * 0 + _ ≤ _; exact Nat.le_of_eq rfl) (hb hby d8_25) (fun _ _ => ⟨rfl, e0, (by decide : 1 + 1 ≤ _), (by decide : 128 + 0 ≤ _)⟩)
  dsimp only [Pt.U, Pt.locs, Pt.cells, Pt.slots] at X1 l1 y1 z1 st1 hQ1
  subst l1 y1 z1
  obtain ⟨y1, ky1, rfl, N1q, K1, g_y1, lt1, Vy1⟩ := hQ1
  have N1 := Fr.app N0 N1q
  have ne_a1_y1 : a1 ≠ y1 := Nat.ne_of_lt (Nat.lt_of_lt_of_le E_a1.lt lt1)
  have ne_t_y1 : t ≠ y1 := Nat.ne_of_lt (Nat.lt_of_lt_of_le V_t.lt lt1)
  have ne_b_y1 : b ≠ y1 := Nat.ne_of_lt (Nat.lt_of_lt_of_le V_b.lt lt1)
  have sz_y1 : h0.size ≤ y1 := Nat.le_trans K0.1 lt1
  obtain ⟨h1, e1⟩ : ∃ z, T1.heap = z := ⟨_, rfl⟩
  rw [e1] at K1 Vy1
  replace Z0 := Nat.le_trans Z0 K1.1
  replace O0 := O0.keep K1 all0
  replace E_a1 := E_a1.keep K1
  replace F_coder := F_coder.keep K1 nin0
  replace F_value := F_value.keep K1 nin0
  replace V_t := V_t.keep K1 nin0
  replace K0 := K0.trans K1 all0
  replace V_b := V_b.keep K1 nin0
  refine Go.tr (T' := T1) (pc' := 28) (L' := #[.val (.ref a1), .val (.ref b), .val (.int (Nat.toInt32 33)), .unset, .unset, .unset]) (S' := [(.ref y1)]) st1 ?_
  refine Go.st (T' := T1) (pc' := 29) (L' := #[.val (.ref a1), .val (.ref b), .val (.ref y1), .unset, .unset, .unset]) (S' := []) (fun t_ k_ => XS.astoreN X1.here hx rfl (hb hby d8_28) rfl rfl (l' := #[.val (.ref a1), .val (.ref b), .val (.ref y1), .unset, .unset, .unset]) rfl k_) ?_
  refine Go.st (T' := T1) (pc' := 30) (L' := #[.val (.ref a1), .val (.ref b), .val (.ref y1), .unset, .unset, .unset]) (S' := [(.ref y1)]) (fun t_ k_ => XS.aloadN X1.here hx rfl (hb hby d8_29) rfl rfl  k_) ?_
  obtain ⟨cl2, Ar2, -, q2a, q2b, -, -⟩ := id Vy1
  refine Go.st (T' := T1) (pc' := 31) (L' := #[.val (.ref a1), .val (.ref b), .val (.ref y1), .unset, .unset, .unset]) (S' := [(.int (0 : Int32))]) (fun t_ k_ => own_len X1 hx hZ e1 Ar2 q2a q2b (g := (mkF m 30 #[.val (.ref a1), .val (.ref b), .val (.ref y1), .unset, .unset, .unset] [(.ref y1)])) rfl rfl (hb hby d8_30) t_ k_) ?_
  refine Go.st (T' := T1) (pc' := 32) (L' := #[.val (.ref a1), .val (.ref b), .val (.ref y1), .val (.int (0 : Int32)), .unset, .unset]) (S' := []) (fun t_ k_ => XS.istoreN X1.here hx rfl (hb hby d8_31) rfl (l' := #[.val (.ref a1), .val (.ref b), .val (.ref y1), .val (.int (0 : Int32)), .unset, .unset]) rfl k_) ?_
  refine Go.st (T' := T1) (pc' := 33) (L' := #[.val (.ref a1), .val (.ref b), .val (.ref y1), .val (.int (0 : Int32)), .unset, .unset]) (S' := [(.int (0 : Int32))]) (fun t_ k_ => XS.iconst X1.here hx rfl (hb hby d8_32) k_) ?_
  refine Go.st (T' := T1) (pc' := 35) (L' := #[.val (.ref a1), .val (.ref b), .val (.ref y1), .val (.int (0 : Int32)), .val (.int (0 : Int32)), .unset]) (S' := []) (fun t_ k_ => XS.istore X1.here hx rfl (hb hby d8_33) rfl (l' := #[.val (.ref a1), .val (.ref b), .val (.ref y1), .val (.int (0 : Int32)), .val (.int (0 : Int32)), .unset]) rfl k_) ?_
  refine Go.st (T' := T1) (pc' := 37) (L' := #[.val (.ref a1), .val (.ref b), .val (.ref y1), .val (.int (0 : Int32)), .val (.int (0 : Int32)), .unset]) (S' := [(.int (0 : Int32))]) (fun t_ k_ => XS.iload X1.here hx rfl (hb hby d8_35) rfl  k_) ?_
  refine Go.st (T' := T1) (pc' := 38) (L' := #[.val (.ref a1), .val (.ref b), .val (.ref y1), .val (.int (0 : Int32)), .val (.int (0 : Int32)), .unset]) (S' := [(.int (0 : Int32)), (.int (0 : Int32))]) (fun t_ k_ => XS.iloadN X1.here hx rfl (hb hby d8_37) rfl  k_) ?_
  refine Go.st (T' := T1) (pc' := 58) (L' := #[.val (.ref a1), .val (.ref b), .val (.ref y1), .val (.int (0 : Int32)), .val (.int (0 : Int32)), .unset]) (S' := []) (fun t_ k_ => XS.icmpYes X1.here hx rfl (pc0 := 38) (pc' := 58) rfl (hb hby d8_38) rfl (flt (by decide : ¬ ((0 : Int32) < (0 : Int32)))).2.1 (by decide) (by decide) k_) ?_
  refine Go.st (T' := T1) (pc' := 59) (L' := #[.val (.ref a1), .val (.ref b), .val (.ref y1), .val (.int (0 : Int32)), .val (.int (0 : Int32)), .unset]) (S' := [(.ref b)]) (fun t_ k_ => XS.aloadN X1.here hx rfl (hb hby d8_58) rfl rfl  k_) ?_
  exact Go.retO X1 hx hlk hret rfl (by simp [FieldType.isReference, Value.isRef]) (hb hby d8_59) (by decide) (by decide) (by rw [e1]; exact ⟨b, _, _, rfl, N1, K0, V_b, fun j hj => own_fin0 hM lM  hj⟩)
theorem own_stepM {M : List Int32} {i : Nat} (hM : ∀ j, j < 128 → M.getD j 0 = if j < i then 1 else 0) (lM : M.length = 128) (hi : i < 128) : ∀ j, j < 128 → (M.set i (nar .boolean (1 : Int32))).getD j 0 = if j < i + 1 then 1 else 0 := fun j hj => by
  rw [own_set1 lM hi hj, hM j hj]
  by_cases e : j = i
  · subst e; simp
  · have : (j < i + 1) = (j < i) := by apply propext; omega
    simp [e, this]
set_option maxRecDepth 65536 in
set_option maxHeartbeats 40000000 in
theorem loop8_0 {p : Program} {l : Launch} {e : Env} {s : State} {m : MethodId} {args : Array Value} {below : List Frame} {meth : Method} {c : Code} {Z : State} {a0 : Array Value} {n0 : Nat} {h0 : Heap} (a1 : Addr) (t : Addr) (kt : ClassId) (gC : Int32) (b : Addr) (kb : ClassId) (hx : p.tables.exec = Jvm.exec) (hZ : Z.Warmed39 s.vm) (hw : ∀ d ∈ tables_1, d.before a0 Z = true) (hby : c.code = prog_43_method_2_code) (hml : c.maxLocals = 6) (hown : s.vm.findClass "com/example/traversal/traversal/graph/Iris" = some m.cls) (hnm : meth.name = "controlsSpaceAnd") (hret : meth.sig.returnType = (some (.array .boolean))) (hlk : meth.locks = false) (SC : Sta Z Z.heap "java/lang/String" "COMPACT_STRINGS" "Z" (.int gC)) (PC : ¬ (gC = (0 : Int32)))  (g_b : n0 ≤ b) (nab : a1 ≠ b) (ntb : t ≠ b) (sz_b : h0.size ≤ b) (k : Nat) :
    ∀ (i : Nat) (M : List Int32) (T0 : State) (locs : List Loc) (hh : Heap), i + k = 33 → Stand p l e roomcsa0 s m args below meth c T0 locs 1 128 → T0.heap = hh → Fr n0 locs → Keep h0 hh [] → Old Z n0 hh → n0 ≤ hh.size → Exa Z hh a1 "java/lang/String" → Fld Z hh a1 "java/lang/String" "coder" "B" (.int (0 : Int32)) → Fld Z hh a1 "java/lang/String" "value" "[B" (.ref t) → Arv Z hh t kt .byte (0 : Int32) [] (.int (0 : Int32)) → Arv Z hh b kb .boolean (128 : Int32) (M.map Value.int) (.int 0) → M.length = 128 → (∀ j, j < 128 → M.getD j 0 = if j < i then 1 else 0) → Go p e below s roomcsa0.cells roomcsa0.slots (Qcsa0 Z  h0 n0) m T0 8 #[.val (.ref a1), .val (.ref b), .val (.int (i.toInt32)), .unset, .unset, .unset] [] := by
  induction k with
  | zero =>
    intro i M T0 locs hh hik X0 e0 N0 K0 O0 Z0 E_a1 F_coder F_value V_t V_b lM hM
    obtain rfl : i = 33 := by omega
    refine Go.st (T' := T0) (pc' := 9) (L' := #[.val (.ref a1), .val (.ref b), .val (.int (Nat.toInt32 33)), .unset, .unset, .unset]) (S' := [(.int (Nat.toInt32 33))]) (fun t_ k_ => XS.iloadN X0.here hx rfl (hb hby d8_8) rfl  k_) ?_
    refine Go.st (T' := T0) (pc' := 11) (L' := #[.val (.ref a1), .val (.ref b), .val (.int (Nat.toInt32 33)), .unset, .unset, .unset]) (S' := [(.int (32 : Int32)), (.int (Nat.toInt32 33))]) (fun t_ k_ => XS.bipush X0.here hx rfl (hb hby d8_9) k_) ?_
    refine Go.st (T' := T0) (pc' := 24) (L' := #[.val (.ref a1), .val (.ref b), .val (.int (Nat.toInt32 33)), .unset, .unset, .unset]) (S' := []) (fun t_ k_ => XS.icmpYes X0.here hx rfl (pc0 := 11) (pc' := 24) rfl (hb hby d8_11) rfl (tlt ((own_ltI (m := 32) (n := 33) (by decide) (by decide)).mpr (by decide) : ((32 : Int32) < (Nat.toInt32 33)))).2.2.1 (by decide) (by decide) k_) ?_
    exact seg24_0 a1 t _ gC  b _ M X0 hx hZ hw hby hml hown hnm hret hlk e0 N0 SC PC O0 Z0 E_a1 F_coder F_value V_t  V_b lM g_b nab ntb sz_b K0 hM
  | succ k ih =>
    intro i M T0 locs hh hik X0 e0 N0 K0 O0 Z0 E_a1 F_coder F_value V_t V_b lM hM
    refine Go.st (T' := T0) (pc' := 9) (L' := #[.val (.ref a1), .val (.ref b), .val (.int (i.toInt32)), .unset, .unset, .unset]) (S' := [(.int (i.toInt32))]) (fun t_ k_ => XS.iloadN X0.here hx rfl (hb hby d8_8) rfl  k_) ?_
    refine Go.st (T' := T0) (pc' := 11) (L' := #[.val (.ref a1), .val (.ref b), .val (.int (i.toInt32)), .unset, .unset, .unset]) (S' := [(.int (32 : Int32)), (.int (i.toInt32))]) (fun t_ k_ => XS.bipush X0.here hx rfl (hb hby d8_9) k_) ?_
    by_cases hc11_501 : (32 : Int32) < (i.toInt32)
    · refine Go.st (T' := T0) (pc' := 24) (L' := #[.val (.ref a1), .val (.ref b), .val (.int (i.toInt32)), .unset, .unset, .unset]) (S' := []) (fun t_ k_ => XS.icmpYes X0.here hx rfl (pc0 := 11) (pc' := 24) rfl (hb hby d8_11) rfl (tlt hc11_501).2.2.1 (by decide) (by decide) k_) ?_
      have hi33 : i = 33 := by have := (own_ltI (m := 32) (by decide) (by omega)).mp hc11_501; omega
      subst hi33
      exact seg24_0 a1 t _ gC  b _ M X0 hx hZ hw hby hml hown hnm hret hlk e0 N0 SC PC O0 Z0 E_a1 F_coder F_value V_t  V_b lM g_b nab ntb sz_b K0 hM
    · refine Go.st (T' := T0) (pc' := 14) (L' := #[.val (.ref a1), .val (.ref b), .val (.int (i.toInt32)), .unset, .unset, .unset]) (S' := []) (fun t_ k_ => XS.icmpNo X0.here hx rfl (hb hby d8_11) rfl (flt hc11_501).2.2.1 k_) ?_
      have hlt : i < 33 := by have := mt (own_ltI (m := 32) (n := i) (by decide) (by omega)).mpr hc11_501; omega
      refine Go.st (T' := T0) (pc' := 15) (L' := #[.val (.ref a1), .val (.ref b), .val (.int (i.toInt32)), .unset, .unset, .unset]) (S' := [(.ref b)]) (fun t_ k_ => XS.aloadN X0.here hx rfl (hb hby d8_14) rfl rfl  k_) ?_
      refine Go.st (T' := T0) (pc' := 16) (L' := #[.val (.ref a1), .val (.ref b), .val (.int (i.toInt32)), .unset, .unset, .unset]) (S' := [(.int (i.toInt32)), (.ref b)]) (fun t_ k_ => XS.iloadN X0.here hx rfl (hb hby d8_15) rfl  k_) ?_
      refine Go.st (T' := T0) (pc' := 17) (L' := #[.val (.ref a1), .val (.ref b), .val (.int (i.toInt32)), .unset, .unset, .unset]) (S' := [(.int (1 : Int32)), (.int (i.toInt32)), (.ref b)]) (fun t_ k_ => XS.iconst X0.here hx rfl (hb hby d8_16) k_) ?_
      obtain ⟨cl502, Ar502, q5021, q5022, q5023, q5024, q5025⟩ := V_b
      obtain ⟨T502, h502, X502, e502, W502, st502⟩ := stZ X0 hx hZ e0 Ar502 (j := (i.toInt32)) (own_inb q5022 (N := 128) (by decide) (by omega) (by decide)) (g := (mkF m 17 #[.val (.ref a1), .val (.ref b), .val (.int (i.toInt32)), .unset, .unset, .unset] [(.int (1 : Int32)), (.int (i.toInt32)), (.ref b)])) rfl rfl (hb hby d8_17)
      replace V_b := Arv.set Ar502 q5021 q5022 q5023 q5024 q5025 (fits_nar_bool _) W502 (i) (own_tn (by omega)) (by rw [List.length_map, show List.length M = 128 from lM]; omega)
      rw [own_setI] at V_b
      replace Z0 := Nat.le_trans Z0 (Keep.of_wr W502).1
      replace O0 := O0.wr W502 g_b
      replace E_a1 := E_a1.wr W502
      replace F_coder := F_coder.other W502 (Or.inl nab)
      replace F_value := F_value.other W502 (Or.inl nab)
      replace V_t := V_t.other W502 ntb
      replace K0 := K0.wr W502 (Or.inr sz_b)
      have N502 := Fr.snoc X502 N0 g_b
      refine Go.st (T' := T502) (pc' := 18) (L' := #[.val (.ref a1), .val (.ref b), .val (.int (i.toInt32)), .unset, .unset, .unset]) (S' := []) st502 ?_
      refine Go.st (T' := T502) (pc' := 21) (L' := #[.val (.ref a1), .val (.ref b), .val (.int ((i.toInt32) + (1 : Int32))), .unset, .unset, .unset]) (S' := []) (fun t_ k_ => XS.iinc X502.here hx rfl (hb hby d8_18) rfl (l' := #[.val (.ref a1), .val (.ref b), .val (.int ((i.toInt32) + (1 : Int32))), .unset, .unset, .unset]) rfl k_) ?_
      rw [own_next (n := i) (by omega)]
      refine Go.st (T' := T502) (pc' := 8) (L' := #[.val (.ref a1), .val (.ref b), .val (.int ((i + 1).toInt32)), .unset, .unset, .unset]) (S' := []) (fun t_ k_ => XS.goto X502.here hx rfl (pc0 := 21) (pc' := 8) rfl (hb hby d8_21) (by decide) (by decide) k_) ?_
      exact ih (i + 1) (M.set (i) (nar .boolean (1 : Int32))) T502 _ h502 (by omega) X502 e502 N502 K0 O0 Z0 E_a1 F_coder F_value V_t V_b (by rw [List.length_set]; exact lM) (own_stepM hM lM (by omega))
set_option maxRecDepth 65536 in
set_option maxHeartbeats 40000000 in
theorem rmcsa0 (l : Launch) (Z : State) (a0 : Array Value) (hw : ∀ d ∈ tables_1, d.before a0 Z = true) (ws : List Jvm.Cond) (a1 : Addr) (t : Addr) (kt : ClassId) (gC : Int32) (h0 : Heap) (n0 : Nat) (Z0 : n0 ≤ h0.size) (SC : Sta Z Z.heap "java/lang/String" "COMPACT_STRINGS" "Z" (.int gC)) (PC : ¬ (gC = (0 : Int32))) (O0 : Old Z n0 h0) (E_a1 : Exa Z h0 a1 "java/lang/String") (F_coder : Fld Z h0 a1 "java/lang/String" "coder" "B" (.int (0 : Int32))) (F_value : Fld Z h0 a1 "java/lang/String" "value" "[B" (.ref t)) (V_t : Arv Z h0 t kt .byte (0 : Int32) [] (.int (0 : Int32)))  :
    MetFree l (⟨"com/example/traversal/traversal/graph/Iris", "controlsSpaceAnd", "(Ljava/lang/String;)[Z"⟩ : MethodName) (head1 (Jvm.Cond.code (⟨"com/example/traversal/traversal/graph/Iris", "controlsSpaceAnd", "(Ljava/lang/String;)[Z"⟩ : MethodName) prog_43_method_2_code 6 (some (.array .boolean)) :: ws) roomcsa0) (fun aa_ U_ => aa_ = #[(.ref a1)] ∧ Z.Warmed39 U_.vm ∧ U_.heap = h0) (fun _ _ _ _ _ => True) (fun _ U_ o_ W_ => ∃ v_ L_, o_ = .returned v_ ∧ (Qcsa0 Z  h0 n0) v_ W_.heap L_ ∧ FrameEnd U_ o_ W_ L_ roomcsa0.cells roomcsa0.slots) := by
  refine own_met (Q := (Qcsa0 Z  h0 n0)) (L0 := #[.val (.ref a1), .unset, .unset, .unset, .unset, .unset]) (plainFor_of_name pn_2) (fun m => by first | (simp [entryFrame, mkF, argsToLocals, Value.category]; done) | rfl) ?_
  intro p e s m below meth c T0 X0 hx hby hml hown hnm hret hlk hZ e0
  have N0 := Fr.nil n0
  have K0 := Keep.refl h0 []
  refine Go.st (T' := T0) (pc' := 3) (L' := #[.val (.ref a1), .unset, .unset, .unset, .unset, .unset]) (S' := [(.int (128 : Int32))]) (fun t_ k_ => XS.sipush X0.here hx rfl (hb hby d8_0) k_) ?_
  obtain ⟨T901, h901, k901, X901, e901, E901, A901, st901⟩ := newP X0 hx hZ (hw _ (List.mem_of_getElem? (i := 38) rfl)) e0 (g := (mkF m 3 #[.val (.ref a1), .unset, .unset, .unset, .unset, .unset] [(.int (128 : Int32))])) rfl (hb hby d8_3) rfl (by decide) (cap := 128) (by decide) (by decide) (by decide) (by decide)
  obtain ⟨b901, g901⟩ : ∃ z, z = h0.size := ⟨_, rfl⟩
  rw [← g901] at A901 st901
  have ne_a1_b901 : a1 ≠ b901 := Nat.ne_of_lt (Nat.lt_of_lt_of_le E_a1.lt (Nat.le_of_eq g901.symm))
  have ne_t_b901 : t ≠ b901 := Nat.ne_of_lt (Nat.lt_of_lt_of_le V_t.lt (Nat.le_of_eq g901.symm))
  have g_b901 : n0 ≤ b901 := Nat.le_trans Z0 (Nat.le_of_eq g901.symm)
  have sz_b901 : h0.size ≤ b901 := Nat.le_trans K0.1 (Nat.le_of_eq g901.symm)
  replace Z0 := Nat.le_trans Z0 E901.1
  replace O0 := O0.ext E901
  replace E_a1 := E_a1.ext E901
  replace F_coder := F_coder.ext E901
  replace F_value := F_value.ext E901
  replace V_t := V_t.ext E901
  replace K0 := K0.ext E901
  have V_b901 : Arv Z h901 b901 k901 .boolean (128 : Int32) [] (.int (0 : Int32)) := Arv.new A901 (by decide)
  refine Go.st (T' := T901) (pc' := 5) (L' := #[.val (.ref a1), .unset, .unset, .unset, .unset, .unset]) (S' := [(.ref b901)]) st901 ?_
  refine Go.st (T' := T901) (pc' := 6) (L' := #[.val (.ref a1), .val (.ref b901), .unset, .unset, .unset, .unset]) (S' := []) (fun t_ k_ => XS.astoreN X901.here hx rfl (hb hby d8_5) rfl rfl (l' := #[.val (.ref a1), .val (.ref b901), .unset, .unset, .unset, .unset]) rfl k_) ?_
  have V_b901 : Arv Z h901 b901 k901 .boolean (128 : Int32) ((List.replicate 128 (0 : Int32)).map Value.int) (.int 0) := V_b901.pad (fun j => by rw [own_getI, own_rep0]; rfl)
  refine Go.st (T' := T901) (pc' := 7) (L' := #[.val (.ref a1), .val (.ref b901), .unset, .unset, .unset, .unset]) (S' := [(.int (0 : Int32))]) (fun t_ k_ => XS.iconst X901.here hx rfl (hb hby d8_6) k_) ?_
  refine Go.st (T' := T901) (pc' := 8) (L' := #[.val (.ref a1), .val (.ref b901), .val (.int (0 : Int32)), .unset, .unset, .unset]) (S' := []) (fun t_ k_ => XS.istoreN X901.here hx rfl (hb hby d8_7) rfl (l' := #[.val (.ref a1), .val (.ref b901), .val (.int (0 : Int32)), .unset, .unset, .unset]) rfl k_) ?_
  exact loop8_0 a1 t _ gC  b901 _ hx hZ hw hby hml hown hnm hret hlk SC PC  g_b901 ne_a1_b901 ne_t_b901 sz_b901 33 0 (List.replicate 128 0) T901 _ h901 (by omega) X901 e901 N0 K0 O0 Z0 E_a1 F_coder F_value V_t V_b901 rfl (fun j hj => by rw [own_rep0, if_neg (Nat.not_lt_zero j)])
theorem d12_10 : decode jdk_43_method_49_code 10 = .ok (.aload_n 2, 1) := by decide +kernel
theorem d12_11 : decode jdk_43_method_49_code 11 = .ok (.iload_n 3, 1) := by decide +kernel
theorem d12_12 : decode jdk_43_method_49_code 12 = .ok (.iinc 3 1, 3) := by decide +kernel
theorem d12_15 : decode jdk_43_method_49_code 15 = .ok (.aload_n 0, 1) := by decide +kernel
theorem d12_16 : decode jdk_43_method_49_code 16 = .ok (.iload_n 1, 1) := by decide +kernel
theorem d12_17 : decode jdk_43_method_49_code 17 = .ok (.iinc 1 1, 3) := by decide +kernel
theorem d12_20 : decode jdk_43_method_49_code 20 = .ok (.baload, 1) := by decide +kernel
theorem d12_21 : decode jdk_43_method_49_code 21 = .ok (.sipush 255, 3) := by decide +kernel
theorem d12_24 : decode jdk_43_method_49_code 24 = .ok (.iand, 1) := by decide +kernel
theorem d12_25 : decode jdk_43_method_49_code 25 = .ok (.i2c, 1) := by decide +kernel
theorem d12_26 : decode jdk_43_method_49_code 26 = .ok (.castore, 1) := by decide +kernel
theorem d12_27 : decode jdk_43_method_49_code 27 = .ok (.iinc 5 1, 3) := by decide +kernel
theorem d12_30 : decode jdk_43_method_49_code 30 = .ok (.goto (-27), 3) := by decide +kernel
def Qinf1 (Z : State) (y : Addr) (ky : ClassId) (q0 : Nat) (h0 : Heap) (n0 : Nat) (v : Option Value) (h : Heap) (L : List Loc) : Prop := v = none ∧ Fr n0 L ∧ Keep h0 h [y] ∧ Arv Z h y ky .char (1 : Int32) [(.int (q0.toInt32))] (.int (0 : Int32))
def roominf1 : Room := { frames := 0, cells := 0, slots := 0, locals := 0 }
set_option maxRecDepth 65536 in
set_option maxHeartbeats 40000000 in
theorem rminf1 (l : Launch) (Z : State) (a0 : Array Value) (hw : ∀ d ∈ tables_1, d.before a0 Z = true) (ws : List Jvm.Cond) (t : Addr) (y : Addr) (kt : ClassId) (ky : ClassId) (q0 : Nat) (h0 : Heap) (n0 : Nat) (Z0 : n0 ≤ h0.size) (V_t : Arv Z h0 t kt .byte (1 : Int32) [(.int ((nar .char (q0.toInt32)).toInt8.toInt32))] (.int (0 : Int32))) (V_y : Arv Z h0 y ky .char (1 : Int32) [(.int (0 : Int32))] (.int (0 : Int32))) (nty : t ≠ y) (g_y : n0 ≤ y)  (hq0 : q0 < 128) :
    MetFree l (⟨"java/lang/StringLatin1", "inflate", "([BI[CII)V"⟩ : MethodName) (head1 (Jvm.Cond.code (⟨"java/lang/StringLatin1", "inflate", "([BI[CII)V"⟩ : MethodName) jdk_43_method_49_code 6 none :: ws) roominf1) (fun aa_ U_ => aa_ = #[(.ref t), (.int (0 : Int32)), (.ref y), (.int (0 : Int32)), (.int (1 : Int32))] ∧ Z.Warmed39 U_.vm ∧ U_.heap = h0) (fun _ _ _ _ _ => True) (fun _ U_ o_ W_ => ∃ v_ L_, o_ = .returned v_ ∧ (Qinf1 Z y ky q0 h0 n0) v_ W_.heap L_ ∧ FrameEnd U_ o_ W_ L_ roominf1.cells roominf1.slots) := by
  refine own_met (Q := (Qinf1 Z y ky q0 h0 n0)) (L0 := #[.val (.ref t), .val (.int (0 : Int32)), .val (.ref y), .val (.int (0 : Int32)), .val (.int (1 : Int32)), .unset]) (plainFor_of_name pn_1) (fun m => by first | (simp [entryFrame, mkF, argsToLocals, Value.category]; done) | rfl) ?_
  intro p e s m below meth c T0 X0 hx hby hml hown hnm hret hlk hZ e0
  have N0 := Fr.nil n0
  have K0 := Keep.refl h0 [y]
  refine Go.st (T' := T0) (pc' := 1) (L' := #[.val (.ref t), .val (.int (0 : Int32)), .val (.ref y), .val (.int (0 : Int32)), .val (.int (1 : Int32)), .unset]) (S' := [(.int (0 : Int32))]) (fun t_ k_ => XS.iconst X0.here hx rfl (hb hby d12_0) k_) ?_
  refine Go.st (T' := T0) (pc' := 3) (L' := #[.val (.ref t), .val (.int (0 : Int32)), .val (.ref y), .val (.int (0 : Int32)), .val (.int (1 : Int32)), .val (.int (0 : Int32))]) (S' := []) (fun t_ k_ => XS.istore X0.here hx rfl (hb hby d12_1) rfl (l' := #[.val (.ref t), .val (.int (0 : Int32)), .val (.ref y), .val (.int (0 : Int32)), .val (.int (1 : Int32)), .val (.int (0 : Int32))]) rfl k_) ?_
  refine Go.st (T' := T0) (pc' := 5) (L' := #[.val (.ref t), .val (.int (0 : Int32)), .val (.ref y), .val (.int (0 : Int32)), .val (.int (1 : Int32)), .val (.int (0 : Int32))]) (S' := [(.int (0 : Int32))]) (fun t_ k_ => XS.iload X0.here hx rfl (hb hby d12_3) rfl  k_) ?_
  refine Go.st (T' := T0) (pc' := 7) (L' := #[.val (.ref t), .val (.int (0 : Int32)), .val (.ref y), .val (.int (0 : Int32)), .val (.int (1 : Int32)), .val (.int (0 : Int32))]) (S' := [(.int (1 : Int32)), (.int (0 : Int32))]) (fun t_ k_ => XS.iload X0.here hx rfl (hb hby d12_5) rfl  k_) ?_
  refine Go.st (T' := T0) (pc' := 10) (L' := #[.val (.ref t), .val (.int (0 : Int32)), .val (.ref y), .val (.int (0 : Int32)), .val (.int (1 : Int32)), .val (.int (0 : Int32))]) (S' := []) (fun t_ k_ => XS.icmpNo X0.here hx rfl (hb hby d12_7) rfl (tlt (by decide : ((0 : Int32) < (1 : Int32)))).2.1 k_) ?_
  refine Go.st (T' := T0) (pc' := 11) (L' := #[.val (.ref t), .val (.int (0 : Int32)), .val (.ref y), .val (.int (0 : Int32)), .val (.int (1 : Int32)), .val (.int (0 : Int32))]) (S' := [(.ref y)]) (fun t_ k_ => XS.aloadN X0.here hx rfl (hb hby d12_10) rfl rfl  k_) ?_
  refine Go.st (T' := T0) (pc' := 12) (L' := #[.val (.ref t), .val (.int (0 : Int32)), .val (.ref y), .val (.int (0 : Int32)), .val (.int (1 : Int32)), .val (.int (0 : Int32))]) (S' := [(.int (0 : Int32)), (.ref y)]) (fun t_ k_ => XS.iloadN X0.here hx rfl (hb hby d12_11) rfl  k_) ?_
  refine Go.st (T' := T0) (pc' := 15) (L' := #[.val (.ref t), .val (.int (0 : Int32)), .val (.ref y), .val (.int ((0 : Int32) + (1 : Int32))), .val (.int (1 : Int32)), .val (.int (0 : Int32))]) (S' := [(.int (0 : Int32)), (.ref y)]) (fun t_ k_ => XS.iinc X0.here hx rfl (hb hby d12_12) rfl (l' := #[.val (.ref t), .val (.int (0 : Int32)), .val (.ref y), .val (.int ((0 : Int32) + (1 : Int32))), .val (.int (1 : Int32)), .val (.int (0 : Int32))]) rfl k_) ?_
  rw [show ((0 : Int32) + (1 : Int32)) = (1 : Int32) from by decide]
  refine Go.st (T' := T0) (pc' := 16) (L' := #[.val (.ref t), .val (.int (0 : Int32)), .val (.ref y), .val (.int (1 : Int32)), .val (.int (1 : Int32)), .val (.int (0 : Int32))]) (S' := [(.ref t), (.int (0 : Int32)), (.ref y)]) (fun t_ k_ => XS.aloadN X0.here hx rfl (hb hby d12_15) rfl rfl  k_) ?_
  refine Go.st (T' := T0) (pc' := 17) (L' := #[.val (.ref t), .val (.int (0 : Int32)), .val (.ref y), .val (.int (1 : Int32)), .val (.int (1 : Int32)), .val (.int (0 : Int32))]) (S' := [(.int (0 : Int32)), (.ref t), (.int (0 : Int32)), (.ref y)]) (fun t_ k_ => XS.iloadN X0.here hx rfl (hb hby d12_16) rfl  k_) ?_
  refine Go.st (T' := T0) (pc' := 20) (L' := #[.val (.ref t), .val (.int ((0 : Int32) + (1 : Int32))), .val (.ref y), .val (.int (1 : Int32)), .val (.int (1 : Int32)), .val (.int (0 : Int32))]) (S' := [(.int (0 : Int32)), (.ref t), (.int (0 : Int32)), (.ref y)]) (fun t_ k_ => XS.iinc X0.here hx rfl (hb hby d12_17) rfl (l' := #[.val (.ref t), .val (.int ((0 : Int32) + (1 : Int32))), .val (.ref y), .val (.int (1 : Int32)), .val (.int (1 : Int32)), .val (.int (0 : Int32))]) rfl k_) ?_
  rw [show ((0 : Int32) + (1 : Int32)) = (1 : Int32) from by decide]
  obtain ⟨cl1, Ar1, -, q1a, q1b, q1c, q1d⟩ := id V_t
  refine Go.st (T' := T0) (pc' := 21) (L' := #[.val (.ref t), .val (.int (1 : Int32)), .val (.ref y), .val (.int (1 : Int32)), .val (.int (1 : Int32)), .val (.int (0 : Int32))]) (S' := [(.int ((nar .char (q0.toInt32)).toInt8.toInt32)), (.int (0 : Int32)), (.ref y)]) (fun t_ k_ => X0.baloadBytes hx (j := (0 : Int32)) (v := (.int ((nar .char (q0.toInt32)).toInt8.toInt32))) (by rw [e0]; exact Ar1.1) (State.isArrayOf_alike hZ.alike Ar1.2.1) Ar1.2.2 (inb_of q1a ⟨by decide, by decide⟩) (q1c.at (inb_of q1a ⟨by decide, by decide⟩) rfl) (g := (mkF m 20 #[.val (.ref t), .val (.int (1 : Int32)), .val (.ref y), .val (.int (1 : Int32)), .val (.int (1 : Int32)), .val (.int (0 : Int32))] [(.int (0 : Int32)), (.ref t), (.int (0 : Int32)), (.ref y)])) rfl rfl (hb hby d12_20) t_ k_) ?_
  refine Go.st (T' := T0) (pc' := 24) (L' := #[.val (.ref t), .val (.int (1 : Int32)), .val (.ref y), .val (.int (1 : Int32)), .val (.int (1 : Int32)), .val (.int (0 : Int32))]) (S' := [(.int (255 : Int32)), (.int ((nar .char (q0.toInt32)).toInt8.toInt32)), (.int (0 : Int32)), (.ref y)]) (fun t_ k_ => XS.sipush X0.here hx rfl (hb hby d12_21) k_) ?_
  refine Go.st (T' := T0) (pc' := 25) (L' := #[.val (.ref t), .val (.int (1 : Int32)), .val (.ref y), .val (.int (1 : Int32)), .val (.int (1 : Int32)), .val (.int (0 : Int32))]) (S' := [(.int (((nar .char (q0.toInt32)).toInt8.toInt32) &&& (255 : Int32))), (.int (0 : Int32)), (.ref y)]) (fun t_ k_ => XS.iand X0.here hx rfl (hb hby d12_24) rfl k_) ?_
  refine Go.st (T' := T0) (pc' := 26) (L' := #[.val (.ref t), .val (.int (1 : Int32)), .val (.ref y), .val (.int (1 : Int32)), .val (.int (1 : Int32)), .val (.int (0 : Int32))]) (S' := [(.int ((((nar .char (q0.toInt32)).toInt8.toInt32) &&& (255 : Int32)).toUInt32.toUInt16.toUInt32.toInt32)), (.int (0 : Int32)), (.ref y)]) (fun t_ k_ => XS.i2c X0.here hx rfl (hb hby d12_25) rfl k_) ?_
  obtain ⟨cl2, Ar2, q21, q22, q23, q24, q25⟩ := V_y
  obtain ⟨T2, h2, X2, e2, W2, st2⟩ := stC X0 hx hZ e0 Ar2 (j := (0 : Int32)) (inb_of q22 ⟨by decide, by decide⟩) (g := (mkF m 26 #[.val (.ref t), .val (.int (1 : Int32)), .val (.ref y), .val (.int (1 : Int32)), .val (.int (1 : Int32)), .val (.int (0 : Int32))] [(.int ((((nar .char (q0.toInt32)).toInt8.toInt32) &&& (255 : Int32)).toUInt32.toUInt16.toUInt32.toInt32)), (.int (0 : Int32)), (.ref y)])) rfl rfl (hb hby d12_26)
  replace V_y := Arv.set Ar2 q21 q22 q23 q24 q25 (fits_nar_char _) W2 0 rfl (Nat.le_of_ble_eq_true rfl)
  have V_y : Arv Z h2 y ky .char (1 : Int32) [(.int (nar .char ((((nar .char (q0.toInt32)).toInt8.toInt32) &&& (255 : Int32)).toUInt32.toUInt16.toUInt32.toInt32)))] (.int (0 : Int32)) := V_y
  replace Z0 := Nat.le_trans Z0 (Keep.of_wr W2).1
  replace K0 := K0.wr W2 (Or.inl (List.mem_of_getElem? (i := 0) rfl))
  replace V_t := V_t.other W2 nty
  have N2 := Fr.snoc X2 N0 g_y
  refine Go.st (T' := T2) (pc' := 27) (L' := #[.val (.ref t), .val (.int (1 : Int32)), .val (.ref y), .val (.int (1 : Int32)), .val (.int (1 : Int32)), .val (.int (0 : Int32))]) (S' := []) st2 ?_
  refine Go.st (T' := T2) (pc' := 30) (L' := #[.val (.ref t), .val (.int (1 : Int32)), .val (.ref y), .val (.int (1 : Int32)), .val (.int (1 : Int32)), .val (.int ((0 : Int32) + (1 : Int32)))]) (S' := []) (fun t_ k_ => XS.iinc X2.here hx rfl (hb hby d12_27) rfl (l' := #[.val (.ref t), .val (.int (1 : Int32)), .val (.ref y), .val (.int (1 : Int32)), .val (.int (1 : Int32)), .val (.int ((0 : Int32) + (1 : Int32)))]) rfl k_) ?_
  rw [show ((0 : Int32) + (1 : Int32)) = (1 : Int32) from by decide]
  refine Go.st (T' := T2) (pc' := 3) (L' := #[.val (.ref t), .val (.int (1 : Int32)), .val (.ref y), .val (.int (1 : Int32)), .val (.int (1 : Int32)), .val (.int (1 : Int32))]) (S' := []) (fun t_ k_ => XS.goto X2.here hx rfl (pc0 := 30) (pc' := 3) rfl (hb hby d12_30) (by decide) (by decide) k_) ?_
  refine Go.st (T' := T2) (pc' := 5) (L' := #[.val (.ref t), .val (.int (1 : Int32)), .val (.ref y), .val (.int (1 : Int32)), .val (.int (1 : Int32)), .val (.int (1 : Int32))]) (S' := [(.int (1 : Int32))]) (fun t_ k_ => XS.iload X2.here hx rfl (hb hby d12_3) rfl  k_) ?_
  refine Go.st (T' := T2) (pc' := 7) (L' := #[.val (.ref t), .val (.int (1 : Int32)), .val (.ref y), .val (.int (1 : Int32)), .val (.int (1 : Int32)), .val (.int (1 : Int32))]) (S' := [(.int (1 : Int32)), (.int (1 : Int32))]) (fun t_ k_ => XS.iload X2.here hx rfl (hb hby d12_5) rfl  k_) ?_
  refine Go.st (T' := T2) (pc' := 33) (L' := #[.val (.ref t), .val (.int (1 : Int32)), .val (.ref y), .val (.int (1 : Int32)), .val (.int (1 : Int32)), .val (.int (1 : Int32))]) (S' := []) (fun t_ k_ => XS.icmpYes X2.here hx rfl (pc0 := 7) (pc' := 33) rfl (hb hby d12_7) rfl (flt (by decide : ¬ ((1 : Int32) < (1 : Int32)))).2.1 (by decide) (by decide) k_) ?_
  rw [own_infl hq0] at V_y
  exact Go.retV X2 hx hlk hret (hb hby d12_33) (by decide) (by decide) (by rw [e2]; exact ⟨rfl, N2, K0, V_y⟩)

def Qtch1 (Z : State) (q0 : Nat) (h0 : Heap) (n0 : Nat) (v : Option Value) (h : Heap) (L : List Loc) : Prop := ∃ (y : Addr) (ky : ClassId), v = some (.ref y) ∧ Fr n0 L ∧ Keep h0 h [] ∧ n0 ≤ y ∧ h0.size ≤ y ∧ Arv Z h y ky .char (1 : Int32) [(.int (q0.toInt32))] (.int (0 : Int32))
def roomtch1 : Room := { frames := 1, cells := 1, slots := 1, locals := 17 }
set_option maxRecDepth 65536 in
set_option maxHeartbeats 40000000 in
theorem rmtch1 (l : Launch) (Z : State) (a0 : Array Value) (hw : ∀ d ∈ tables_1, d.before a0 Z = true) (ws : List Jvm.Cond) (t : Addr) (kt : ClassId) (q0 : Nat) (h0 : Heap) (n0 : Nat) (Z0 : n0 ≤ h0.size) (V_t : Arv Z h0 t kt .byte (1 : Int32) [(.int ((nar .char (q0.toInt32)).toInt8.toInt32))] (.int (0 : Int32)))  (hq0 : q0 < 128) :
    MetFree l (⟨"java/lang/StringLatin1", "toChars", "([B)[C"⟩ : MethodName) (head1 (Jvm.Cond.code (⟨"java/lang/StringLatin1", "toChars", "([B)[C"⟩ : MethodName) jdk_43_method_9_code 2 (some (.array .char)) :: ws) roomtch1) (fun aa_ U_ => aa_ = #[(.ref t)] ∧ Z.Warmed39 U_.vm ∧ U_.heap = h0) (fun _ _ _ _ _ => True) (fun _ U_ o_ W_ => ∃ v_ L_, o_ = .returned v_ ∧ (Qtch1 Z q0 h0 n0) v_ W_.heap L_ ∧ FrameEnd U_ o_ W_ L_ roomtch1.cells roomtch1.slots) := by
  refine own_met (Q := (Qtch1 Z q0 h0 n0)) (L0 := #[.val (.ref t), .unset]) (plainFor_of_name pn_1) (fun m => by first | (simp [entryFrame, mkF, argsToLocals, Value.category]; done) | rfl) ?_
  intro p e s m below meth c T0 X0 hx hby hml hown hnm hret hlk hZ e0
  have N0 := Fr.nil n0
  have K0 := Keep.refl h0 []
  refine Go.st (T' := T0) (pc' := 1) (L' := #[.val (.ref t), .unset]) (S' := [(.ref t)]) (fun t_ k_ => XS.aloadN X0.here hx rfl (hb hby d11_0) rfl rfl  k_) ?_
  obtain ⟨cl1, Ar1, -, q1a, q1b, -, -⟩ := id V_t
  refine Go.st (T' := T0) (pc' := 2) (L' := #[.val (.ref t), .unset]) (S' := [(.int (1 : Int32))]) (fun t_ k_ => own_len X0 hx hZ e0 Ar1 q1a q1b (g := (mkF m 1 #[.val (.ref t), .unset] [(.ref t)])) rfl rfl (hb hby d11_1) t_ k_) ?_
  obtain ⟨T2, h2, k2, X2, e2, E2, A2, st2⟩ := newP X0 hx hZ (hw _ (List.mem_of_getElem? (i := 7) rfl)) e0 (g := (mkF m 2 #[.val (.ref t), .unset] [(.int (1 : Int32))])) rfl (hb hby d11_2) rfl (by decide) (cap := 1) (by decide) (by decide) (by decide) (by decide)
  obtain ⟨b2, g2⟩ : ∃ z, z = h0.size := ⟨_, rfl⟩
  rw [← g2] at A2 st2
  have ne_t_b2 : t ≠ b2 := Nat.ne_of_lt (Nat.lt_of_lt_of_le V_t.lt (Nat.le_of_eq g2.symm))
  have g_b2 : n0 ≤ b2 := Nat.le_trans Z0 (Nat.le_of_eq g2.symm)
  have sz_b2 : h0.size ≤ b2 := Nat.le_trans K0.1 (Nat.le_of_eq g2.symm)
  replace Z0 := Nat.le_trans Z0 E2.1
  replace K0 := K0.ext E2
  replace V_t := V_t.ext E2
  have V_b2 : Arv Z h2 b2 k2 .char (1 : Int32) [(.int (0 : Int32))] (.int (0 : Int32)) := (Arv.new A2 (by decide)).pad (pad_rep [] (.int (0 : Int32)) 1)
  refine Go.st (T' := T2) (pc' := 4) (L' := #[.val (.ref t), .unset]) (S' := [(.ref b2)]) st2 ?_
  refine Go.st (T' := T2) (pc' := 5) (L' := #[.val (.ref t), .val (.ref b2)]) (S' := []) (fun t_ k_ => XS.astoreN X2.here hx rfl (hb hby d11_4) rfl rfl (l' := #[.val (.ref t), .val (.ref b2)]) rfl k_) ?_
  refine Go.st (T' := T2) (pc' := 6) (L' := #[.val (.ref t), .val (.ref b2)]) (S' := [(.ref t)]) (fun t_ k_ => XS.aloadN X2.here hx rfl (hb hby d11_5) rfl rfl  k_) ?_
  refine Go.st (T' := T2) (pc' := 7) (L' := #[.val (.ref t), .val (.ref b2)]) (S' := [(.int (0 : Int32)), (.ref t)]) (fun t_ k_ => XS.iconst X2.here hx rfl (hb hby d11_6) k_) ?_
  refine Go.st (T' := T2) (pc' := 8) (L' := #[.val (.ref t), .val (.ref b2)]) (S' := [(.ref b2), (.int (0 : Int32)), (.ref t)]) (fun t_ k_ => XS.aloadN X2.here hx rfl (hb hby d11_7) rfl rfl  k_) ?_
  refine Go.st (T' := T2) (pc' := 9) (L' := #[.val (.ref t), .val (.ref b2)]) (S' := [(.int (0 : Int32)), (.ref b2), (.int (0 : Int32)), (.ref t)]) (fun t_ k_ => XS.iconst X2.here hx rfl (hb hby d11_8) k_) ?_
  refine Go.st (T' := T2) (pc' := 10) (L' := #[.val (.ref t), .val (.ref b2)]) (S' := [(.ref t), (.int (0 : Int32)), (.ref b2), (.int (0 : Int32)), (.ref t)]) (fun t_ k_ => XS.aloadN X2.here hx rfl (hb hby d11_9) rfl rfl  k_) ?_
  obtain ⟨cl3, Ar3, -, q3a, q3b, -, -⟩ := id V_t
  refine Go.st (T' := T2) (pc' := 11) (L' := #[.val (.ref t), .val (.ref b2)]) (S' := [(.int (1 : Int32)), (.int (0 : Int32)), (.ref b2), (.int (0 : Int32)), (.ref t)]) (fun t_ k_ => own_len X2 hx hZ e2 Ar3 q3a q3b (g := (mkF m 10 #[.val (.ref t), .val (.ref b2)] [(.ref t), (.int (0 : Int32)), (.ref b2), (.int (0 : Int32)), (.ref t)])) rfl rfl (hb hby d11_10) t_ k_) ?_
  obtain ⟨_, _, ⟨T4, L4, k4, n4⟩, -, X4, ⟨Lc4, hQ4, l4, y4, z4⟩, st4⟩ := Jvm.LawKit.callS X2 hx (y := (⟨"java/lang/StringLatin1", "inflate", "([BI[CII)V"⟩ : MethodName)) hown (mvT hZ (hw _ (List.mem_of_getElem? (i := 53) rfl))) (mvT hZ (hw _ (List.mem_of_getElem? (i := 54) rfl))) (mvT hZ (hw _ (List.mem_of_getElem? (i := 51) rfl))) (mvT hZ (hw _ (List.mem_of_getElem? (i := 55) rfl))) (by decide) (backOf (W := 0) (rminf1 l Z a0 hw [] t b2 _ _ q0 h2 n0 Z0 V_t V_b2 ne_t_b2 g_b2 hq0) hZ (hw _ (List.mem_of_getElem? (i := 55) rfl)) (hw _ (List.mem_of_getElem? (i := 51) rfl)) (by decide) (by decide)) (g := (mkF m 11 #[.val (.ref t), .val (.ref b2)] [(.int (1 : Int32)), (.int (0 : Int32)), (.ref b2), (.int (0 : Int32)), (.ref t)])) rfl (by rw [hml]; rfl) (argsL := [(.ref t), (.int (0 : Int32)), (.ref b2), (.int (0 : Int32)), (.int (1 : Int32))]) (rest := []) (lenOf pd_1 rfl) rfl (by show 2 * 0 + _ ≤ _; exact Nat.le_of_eq rfl) (hb hby d11_11) (fun _ _ => ⟨rfl, e2, (by decide : 1 + 0 ≤ _), (by decide : 1 + 0 ≤ _)⟩)
  dsimp only [Pt.U, Pt.locs, Pt.cells, Pt.slots] at X4 l4 y4 z4 st4 hQ4
  subst l4 y4 z4
  obtain ⟨rfl, N4q, K4, Vy4⟩ := hQ4
  have N4 := Fr.app N0 N4q
  obtain ⟨h4, e4⟩ : ∃ z, T4.heap = z := ⟨_, rfl⟩
  rw [e4] at K4 Vy4
  replace Z0 := Nat.le_trans Z0 K4.1
  replace K0 := K0.trans K4 (allS (Or.inr sz_b2) all0)
  replace V_t := V_t.keep K4 (ninS ne_t_b2 nin0)
  refine Go.st (T' := T4) (pc' := 14) (L' := #[.val (.ref t), .val (.ref b2)]) (S' := []) st4 ?_
  refine Go.st (T' := T4) (pc' := 15) (L' := #[.val (.ref t), .val (.ref b2)]) (S' := [(.ref b2)]) (fun t_ k_ => XS.aloadN X4.here hx rfl (hb hby d11_14) rfl rfl  k_) ?_
  exact Go.retO X4 hx hlk hret rfl (by simp [FieldType.isReference, Value.isRef]) (hb hby d11_15) (by decide) (by decide) (by rw [e4]; exact ⟨b2, _, rfl, N4, K0, g_b2, sz_b2, Vy4⟩)

def Qtca1 (Z : State) (q0 : Nat) (h0 : Heap) (n0 : Nat) (v : Option Value) (h : Heap) (L : List Loc) : Prop := ∃ (y : Addr) (ky : ClassId), v = some (.ref y) ∧ Fr n0 L ∧ Keep h0 h [] ∧ n0 ≤ y ∧ h0.size ≤ y ∧ Arv Z h y ky .char (1 : Int32) [(.int (q0.toInt32))] (.int (0 : Int32))
def roomtca1 : Room := { frames := 2, cells := 1, slots := 1, locals := 30 }
set_option maxRecDepth 65536 in
set_option maxHeartbeats 40000000 in
theorem rmtca1 (l : Launch) (Z : State) (a0 : Array Value) (hw : ∀ d ∈ tables_1, d.before a0 Z = true) (ws : List Jvm.Cond) (a1 : Addr) (t : Addr) (kt : ClassId) (gC : Int32) (q0 : Nat) (h0 : Heap) (n0 : Nat) (Z0 : n0 ≤ h0.size) (SC : Sta Z Z.heap "java/lang/String" "COMPACT_STRINGS" "Z" (.int gC)) (PC : ¬ (gC = (0 : Int32))) (O0 : Old Z n0 h0) (E_a1 : Exa Z h0 a1 "java/lang/String") (F_coder : Fld Z h0 a1 "java/lang/String" "coder" "B" (.int (0 : Int32))) (F_value : Fld Z h0 a1 "java/lang/String" "value" "[B" (.ref t)) (V_t : Arv Z h0 t kt .byte (1 : Int32) [(.int ((nar .char (q0.toInt32)).toInt8.toInt32))] (.int (0 : Int32)))  (hq0 : q0 < 128) :
    MetFree l (⟨"java/lang/String", "toCharArray", "()[C"⟩ : MethodName) (head1 (Jvm.Cond.code (⟨"java/lang/String", "toCharArray", "()[C"⟩ : MethodName) jdk_42_method_129_code 1 (some (.array .char)) :: ws) roomtca1) (fun aa_ U_ => aa_ = #[(.ref a1)] ∧ Z.Warmed39 U_.vm ∧ U_.heap = h0) (fun _ _ _ _ _ => True) (fun _ U_ o_ W_ => ∃ v_ L_, o_ = .returned v_ ∧ (Qtca1 Z q0 h0 n0) v_ W_.heap L_ ∧ FrameEnd U_ o_ W_ L_ roomtca1.cells roomtca1.slots) := by
  refine own_met (Q := (Qtca1 Z q0 h0 n0)) (L0 := #[.val (.ref a1)]) (plainFor_of_name pn_0) (fun m => by first | (simp [entryFrame, mkF, argsToLocals, Value.category]; done) | rfl) ?_
  intro p e s m below meth c T0 X0 hx hby hml hown hnm hret hlk hZ e0
  have N0 := Fr.nil n0
  have K0 := Keep.refl h0 []
  refine Go.st (T' := T0) (pc' := 1) (L' := #[.val (.ref a1)]) (S' := [(.ref a1)]) (fun t_ k_ => XS.aloadN X0.here hx rfl (hb hby d9_0) rfl rfl  k_) ?_
  obtain ⟨cq1, kq1, q1a, q1b, q1c⟩ := isOf hZ e0 E_a1
  obtain ⟨_, _, ⟨T1, L1, k1, n1⟩, -, X1, ⟨Lc1, hQ1, l1, y1, z1⟩, st1⟩ := X0.virtualBack hx (y := (⟨"java/lang/String", "isLatin1", "()Z"⟩ : MethodName)) (z := (⟨"java/lang/String", "isLatin1", "()Z"⟩ : MethodName)) hown (mvT hZ (hw _ (List.mem_of_getElem? (i := 44) rfl))) (mvT hZ (hw _ (List.mem_of_getElem? (i := 45) rfl))) (notFace_of_selects (args := #[]) (mvT hZ (hw _ (List.mem_of_getElem? (i := 47) rfl)))) (mvT hZ (hw _ (List.mem_of_getElem? (i := 47) rfl))) (mvT hZ (hw _ (List.mem_of_getElem? (i := 46) rfl))) (by decide) (backOf (W := 0) (rm10 l Z a0 hw [] a1 gC h0 n0 Z0 SC PC O0 F_coder) hZ (hw _ (List.mem_of_getElem? (i := 48) rfl)) (hw _ (List.mem_of_getElem? (i := 6) rfl)) (by decide) (by decide)) q1a q1c (g := (mkF m 1 #[.val (.ref a1)] [(.ref a1)])) rfl (by rw [hml]; rfl) (Steps.refl _) (argsL := []) (rest := []) (lenOf pd_2 rfl) rfl (by show 2 * 0 + _ ≤ _; exact Nat.le_of_eq rfl) (hb hby d9_1) (fun _ _ => ⟨rfl, e0, (by decide : 0 + 0 ≤ _), (by decide : 0 + 0 ≤ _)⟩)
  dsimp only [Pt.U, Pt.locs, Pt.cells, Pt.slots] at X1 l1 y1 z1 st1 hQ1
  subst l1 y1 z1
  obtain ⟨rfl, N1q, e1⟩ := hQ1
  have N1 := Fr.app N0 N1q
  refine Go.tr (T' := T1) (pc' := 4) (L' := #[.val (.ref a1)]) (S' := [(.int (1 : Int32))]) st1 ?_
  refine Go.st (T' := T1) (pc' := 7) (L' := #[.val (.ref a1)]) (S' := []) (fun t_ k_ => XS.ifNo X1.here hx rfl (hb hby d9_4) rfl ((if0 _ _).trans (feq (by decide : ¬ ((1 : Int32) = (0 : Int32)))).1) k_) ?_
  refine Go.st (T' := T1) (pc' := 8) (L' := #[.val (.ref a1)]) (S' := [(.ref a1)]) (fun t_ k_ => XS.aloadN X1.here hx rfl (hb hby d9_7) rfl rfl  k_) ?_
  obtain ⟨T2, X2, e2, st2⟩ := getF X1 hx hZ hown (host := "") (Or.inl (hw _ (List.mem_of_getElem? (i := 32) rfl))) Via.refl e1 F_value (g := (mkF m 8 #[.val (.ref a1)] [(.ref a1)])) rfl rfl (hb hby d9_8)
  refine Go.st (T' := T2) (pc' := 11) (L' := #[.val (.ref a1)]) (S' := [(.ref t)]) st2 ?_
  obtain ⟨_, _, ⟨T3, L3, k3, n3⟩, -, X3, ⟨Lc3, hQ3, l3, y3, z3⟩, st3⟩ := Jvm.LawKit.callS X2 hx (y := (⟨"java/lang/StringLatin1", "toChars", "([B)[C"⟩ : MethodName)) hown (mvT hZ (hw _ (List.mem_of_getElem? (i := 49) rfl))) (mvT hZ (hw _ (List.mem_of_getElem? (i := 50) rfl))) (mvT hZ (hw _ (List.mem_of_getElem? (i := 51) rfl))) (mvT hZ (hw _ (List.mem_of_getElem? (i := 52) rfl))) (by decide) (backOf (W := 0) (rmtch1 l Z a0 hw [] t _ q0 h0 n0 Z0 V_t hq0) hZ (hw _ (List.mem_of_getElem? (i := 52) rfl)) (hw _ (List.mem_of_getElem? (i := 51) rfl)) (by decide) (by decide)) (g := (mkF m 11 #[.val (.ref a1)] [(.ref t)])) rfl (by rw [hml]; rfl) (argsL := [(.ref t)]) (rest := []) (lenOf pd_3 rfl) rfl (by show 2 * 0 + _ ≤ _; exact Nat.le_of_eq rfl) (hb hby d9_11) (fun _ _ => ⟨rfl, e2, (by decide : 0 + 1 ≤ _), (by decide : 0 + 1 ≤ _)⟩)
  dsimp only [Pt.U, Pt.locs, Pt.cells, Pt.slots] at X3 l3 y3 z3 st3 hQ3
  subst l3 y3 z3
  obtain ⟨y3, ky3, rfl, N3q, K3, g_y3, lt3, Vy3⟩ := hQ3
  have N3 := Fr.app N1 N3q
  have ne_a1_y3 : a1 ≠ y3 := Nat.ne_of_lt (Nat.lt_of_lt_of_le E_a1.lt lt3)
  have ne_t_y3 : t ≠ y3 := Nat.ne_of_lt (Nat.lt_of_lt_of_le V_t.lt lt3)
  have sz_y3 : h0.size ≤ y3 := Nat.le_trans K0.1 lt3
  obtain ⟨h3, e3⟩ : ∃ z, T3.heap = z := ⟨_, rfl⟩
  rw [e3] at K3 Vy3
  replace Z0 := Nat.le_trans Z0 K3.1
  replace O0 := O0.keep K3 all0
  replace E_a1 := E_a1.keep K3
  replace F_coder := F_coder.keep K3 nin0
  replace F_value := F_value.keep K3 nin0
  replace V_t := V_t.keep K3 nin0
  replace K0 := K0.trans K3 all0
  refine Go.st (T' := T3) (pc' := 14) (L' := #[.val (.ref a1)]) (S' := [(.ref y3)]) st3 ?_
  refine Go.st (T' := T3) (pc' := 24) (L' := #[.val (.ref a1)]) (S' := [(.ref y3)]) (fun t_ k_ => XS.goto X3.here hx rfl (pc0 := 14) (pc' := 24) rfl (hb hby d9_14) (by decide) (by decide) k_) ?_
  exact Go.retO X3 hx hlk hret rfl (by simp [FieldType.isReference, Value.isRef]) (hb hby d9_24) (by decide) (by decide) (by rw [e3]; exact ⟨y3, _, rfl, N3, K0, g_y3, sz_y3, Vy3⟩)
def Qcsa1 (Z : State) (q0 : Nat) (h0 : Heap) (n0 : Nat) (v : Option Value) (h : Heap) (L : List Loc) : Prop := ∃ (b : Addr) (kb : ClassId) (M : List Int32), v = some (.ref b) ∧ Fr n0 L ∧ Keep h0 h [] ∧ Arv Z h b kb .boolean (128 : Int32) (M.map Value.int) (.int 0) ∧ ∀ j, j < 128 → M.getD j 0 = if j < 33 ∨ j = q0 then 1 else 0
theorem own_fin1 {M : List Int32} {q0 : Nat} (hM : ∀ j, j < 128 → M.getD j 0 = if j < 33 then 1 else 0) (lM : M.length = 128) (hq0 : q0 < 128) {j : Nat} (hj : j < 128) : ((M.set q0 (nar .boolean (1 : Int32)))).getD j 0 = if j < 33 ∨ j = q0 then 1 else 0 := by
  rw [own_set1 (by first | exact lM | (simp only [List.length_set]; exact lM)) hq0 hj]
  rw [hM j hj]
  by_cases h33 : j < 33 <;> by_cases e0 : j = q0 <;> simp [h33, e0]
theorem d8_41 : decode prog_43_method_2_code 41 = .ok (.aload_n 2, 1) := by decide +kernel
theorem d8_42 : decode prog_43_method_2_code 42 = .ok (.iload 4, 2) := by decide +kernel
theorem d8_44 : decode prog_43_method_2_code 44 = .ok (.caload, 1) := by decide +kernel
theorem d8_45 : decode prog_43_method_2_code 45 = .ok (.istore 5, 2) := by decide +kernel
theorem d8_47 : decode prog_43_method_2_code 47 = .ok (.aload_n 1, 1) := by decide +kernel
theorem d8_48 : decode prog_43_method_2_code 48 = .ok (.iload 5, 2) := by decide +kernel
theorem d8_50 : decode prog_43_method_2_code 50 = .ok (.iconst 1, 1) := by decide +kernel
theorem d8_51 : decode prog_43_method_2_code 51 = .ok (.bastore, 1) := by decide +kernel
theorem d8_52 : decode prog_43_method_2_code 52 = .ok (.iinc 4 1, 3) := by decide +kernel
theorem d8_55 : decode prog_43_method_2_code 55 = .ok (.goto (-20), 3) := by decide +kernel
def roomcsa1 : Room := { frames := 3, cells := 2, slots := 129, locals := 42 }
set_option maxRecDepth 65536 in
set_option maxHeartbeats 40000000 in
theorem seg24_1 {p : Program} {l : Launch} {e : Env} {s : State} {m : MethodId} {args : Array Value} {below : List Frame} {meth : Method} {c : Code} {T0 : State} {locs : List Loc} {Z : State} {a0 : Array Value} {n0 : Nat} {h0 hh : Heap} (a1 : Addr) (t : Addr) (kt : ClassId) (gC : Int32) (q0 : Nat) (b : Addr) (kb : ClassId) (M : List Int32)
    (X0 : Stand p l e roomcsa1 s m args below meth c T0 locs 1 128) (hx : p.tables.exec = Jvm.exec) (hZ : Z.Warmed39 s.vm) (hw : ∀ d ∈ tables_1, d.before a0 Z = true) (hby : c.code = prog_43_method_2_code) (hml : c.maxLocals = 6) (hown : s.vm.findClass "com/example/traversal/traversal/graph/Iris" = some m.cls) (hnm : meth.name = "controlsSpaceAnd") (hret : meth.sig.returnType = (some (.array .boolean))) (hlk : meth.locks = false) (e0 : T0.heap = hh) (N0 : Fr n0 locs) (SC : Sta Z Z.heap "java/lang/String" "COMPACT_STRINGS" "Z" (.int gC)) (PC : ¬ (gC = (0 : Int32))) (O0 : Old Z n0 hh) (Z0 : n0 ≤ hh.size) (E_a1 : Exa Z hh a1 "java/lang/String") (F_coder : Fld Z hh a1 "java/lang/String" "coder" "B" (.int (0 : Int32))) (F_value : Fld Z hh a1 "java/lang/String" "value" "[B" (.ref t)) (V_t : Arv Z hh t kt .byte (1 : Int32) [(.int ((nar .char (q0.toInt32)).toInt8.toInt32))] (.int (0 : Int32)))  (hq0 : q0 < 128) (V_b : Arv Z hh b kb .boolean (128 : Int32) (M.map Value.int) (.int 0)) (lM : M.length = 128) (g_b : n0 ≤ b) (nab : a1 ≠ b) (ntb : t ≠ b) (sz_b : h0.size ≤ b) (K0 : Keep h0 hh []) (hM : ∀ j, j < 128 → M.getD j 0 = if j < 33 then 1 else 0) :
    Go p e below s roomcsa1.cells roomcsa1.slots (Qcsa1 Z q0 h0 n0) m T0 24 #[.val (.ref a1), .val (.ref b), .val (.int (Nat.toInt32 33)), .unset, .unset, .unset] [] := by
  refine Go.st (T' := T0) (pc' := 25) (L' := #[.val (.ref a1), .val (.ref b), .val (.int (Nat.toInt32 33)), .unset, .unset, .unset]) (S' := [(.ref a1)]) (fun t_ k_ => XS.aloadN X0.here hx rfl (hb hby d8_24) rfl rfl  k_) ?_
  obtain ⟨cq1, kq1, q1a, q1b, q1c⟩ := isOf hZ e0 E_a1
  obtain ⟨_, _, ⟨T1, L1, k1, n1⟩, -, X1, ⟨Lc1, hQ1, l1, y1, z1⟩, st1⟩ := X0.virtualBack hx (y := (⟨"java/lang/String", "toCharArray", "()[C"⟩ : MethodName)) (z := (⟨"java/lang/String", "toCharArray", "()[C"⟩ : MethodName)) hown (mvT hZ (hw _ (List.mem_of_getElem? (i := 39) rfl))) (mvT hZ (hw _ (List.mem_of_getElem? (i := 40) rfl))) (notFace_of_selects (args := #[]) (mvT hZ (hw _ (List.mem_of_getElem? (i := 42) rfl)))) (mvT hZ (hw _ (List.mem_of_getElem? (i := 42) rfl))) (mvT hZ (hw _ (List.mem_of_getElem? (i := 41) rfl))) (by decide) (backOf (W := 0) (rmtca1 l Z a0 hw [] a1 t _ gC q0 hh n0 Z0 SC PC O0 E_a1 F_coder F_value V_t hq0) hZ (hw _ (List.mem_of_getElem? (i := 43) rfl)) (hw _ (List.mem_of_getElem? (i := 6) rfl)) (by decide) (by decide)) q1a q1c (g := (mkF m 25 #[.val (.ref a1), .val (.ref b), .val (.int (Nat.toInt32 33)), .unset, .unset, .unset] [(.ref a1)])) rfl (by rw [hml]; rfl) (Steps.refl _) (argsL := []) (rest := []) (lenOf pd_4 rfl) rfl (by show 2 * 0 + _ ≤ _; exact Nat.le_of_eq rfl) (hb hby d8_25) (fun _ _ => ⟨rfl, e0, (by decide : 1 + 1 ≤ _), (by decide : 128 + 1 ≤ _)⟩)
  dsimp only [Pt.U, Pt.locs, Pt.cells, Pt.slots] at X1 l1 y1 z1 st1 hQ1
  subst l1 y1 z1
  obtain ⟨y1, ky1, rfl, N1q, K1, g_y1, lt1, Vy1⟩ := hQ1
  have N1 := Fr.app N0 N1q
  have ne_a1_y1 : a1 ≠ y1 := Nat.ne_of_lt (Nat.lt_of_lt_of_le E_a1.lt lt1)
  have ne_t_y1 : t ≠ y1 := Nat.ne_of_lt (Nat.lt_of_lt_of_le V_t.lt lt1)
  have ne_b_y1 : b ≠ y1 := Nat.ne_of_lt (Nat.lt_of_lt_of_le V_b.lt lt1)
  have sz_y1 : h0.size ≤ y1 := Nat.le_trans K0.1 lt1
  obtain ⟨h1, e1⟩ : ∃ z, T1.heap = z := ⟨_, rfl⟩
  rw [e1] at K1 Vy1
  replace Z0 := Nat.le_trans Z0 K1.1
  replace O0 := O0.keep K1 all0
  replace E_a1 := E_a1.keep K1
  replace F_coder := F_coder.keep K1 nin0
  replace F_value := F_value.keep K1 nin0
  replace V_t := V_t.keep K1 nin0
  replace K0 := K0.trans K1 all0
  replace V_b := V_b.keep K1 nin0
  refine Go.tr (T' := T1) (pc' := 28) (L' := #[.val (.ref a1), .val (.ref b), .val (.int (Nat.toInt32 33)), .unset, .unset, .unset]) (S' := [(.ref y1)]) st1 ?_
  refine Go.st (T' := T1) (pc' := 29) (L' := #[.val (.ref a1), .val (.ref b), .val (.ref y1), .unset, .unset, .unset]) (S' := []) (fun t_ k_ => XS.astoreN X1.here hx rfl (hb hby d8_28) rfl rfl (l' := #[.val (.ref a1), .val (.ref b), .val (.ref y1), .unset, .unset, .unset]) rfl k_) ?_
  refine Go.st (T' := T1) (pc' := 30) (L' := #[.val (.ref a1), .val (.ref b), .val (.ref y1), .unset, .unset, .unset]) (S' := [(.ref y1)]) (fun t_ k_ => XS.aloadN X1.here hx rfl (hb hby d8_29) rfl rfl  k_) ?_
  obtain ⟨cl2, Ar2, -, q2a, q2b, -, -⟩ := id Vy1
  refine Go.st (T' := T1) (pc' := 31) (L' := #[.val (.ref a1), .val (.ref b), .val (.ref y1), .unset, .unset, .unset]) (S' := [(.int (1 : Int32))]) (fun t_ k_ => own_len X1 hx hZ e1 Ar2 q2a q2b (g := (mkF m 30 #[.val (.ref a1), .val (.ref b), .val (.ref y1), .unset, .unset, .unset] [(.ref y1)])) rfl rfl (hb hby d8_30) t_ k_) ?_
  refine Go.st (T' := T1) (pc' := 32) (L' := #[.val (.ref a1), .val (.ref b), .val (.ref y1), .val (.int (1 : Int32)), .unset, .unset]) (S' := []) (fun t_ k_ => XS.istoreN X1.here hx rfl (hb hby d8_31) rfl (l' := #[.val (.ref a1), .val (.ref b), .val (.ref y1), .val (.int (1 : Int32)), .unset, .unset]) rfl k_) ?_
  refine Go.st (T' := T1) (pc' := 33) (L' := #[.val (.ref a1), .val (.ref b), .val (.ref y1), .val (.int (1 : Int32)), .unset, .unset]) (S' := [(.int (0 : Int32))]) (fun t_ k_ => XS.iconst X1.here hx rfl (hb hby d8_32) k_) ?_
  refine Go.st (T' := T1) (pc' := 35) (L' := #[.val (.ref a1), .val (.ref b), .val (.ref y1), .val (.int (1 : Int32)), .val (.int (0 : Int32)), .unset]) (S' := []) (fun t_ k_ => XS.istore X1.here hx rfl (hb hby d8_33) rfl (l' := #[.val (.ref a1), .val (.ref b), .val (.ref y1), .val (.int (1 : Int32)), .val (.int (0 : Int32)), .unset]) rfl k_) ?_
  refine Go.st (T' := T1) (pc' := 37) (L' := #[.val (.ref a1), .val (.ref b), .val (.ref y1), .val (.int (1 : Int32)), .val (.int (0 : Int32)), .unset]) (S' := [(.int (0 : Int32))]) (fun t_ k_ => XS.iload X1.here hx rfl (hb hby d8_35) rfl  k_) ?_
  refine Go.st (T' := T1) (pc' := 38) (L' := #[.val (.ref a1), .val (.ref b), .val (.ref y1), .val (.int (1 : Int32)), .val (.int (0 : Int32)), .unset]) (S' := [(.int (1 : Int32)), (.int (0 : Int32))]) (fun t_ k_ => XS.iloadN X1.here hx rfl (hb hby d8_37) rfl  k_) ?_
  refine Go.st (T' := T1) (pc' := 41) (L' := #[.val (.ref a1), .val (.ref b), .val (.ref y1), .val (.int (1 : Int32)), .val (.int (0 : Int32)), .unset]) (S' := []) (fun t_ k_ => XS.icmpNo X1.here hx rfl (hb hby d8_38) rfl (tlt (by decide : ((0 : Int32) < (1 : Int32)))).2.1 k_) ?_
  refine Go.st (T' := T1) (pc' := 42) (L' := #[.val (.ref a1), .val (.ref b), .val (.ref y1), .val (.int (1 : Int32)), .val (.int (0 : Int32)), .unset]) (S' := [(.ref y1)]) (fun t_ k_ => XS.aloadN X1.here hx rfl (hb hby d8_41) rfl rfl  k_) ?_
  refine Go.st (T' := T1) (pc' := 44) (L' := #[.val (.ref a1), .val (.ref b), .val (.ref y1), .val (.int (1 : Int32)), .val (.int (0 : Int32)), .unset]) (S' := [(.int (0 : Int32)), (.ref y1)]) (fun t_ k_ => XS.iload X1.here hx rfl (hb hby d8_42) rfl  k_) ?_
  obtain ⟨cl3, Ar3, -, q3a, q3b, q3c, q3d⟩ := id Vy1
  refine Go.st (T' := T1) (pc' := 45) (L' := #[.val (.ref a1), .val (.ref b), .val (.ref y1), .val (.int (1 : Int32)), .val (.int (0 : Int32)), .unset]) (S' := [(.int (q0.toInt32))]) (fun t_ k_ => X1.caload hx (j := (0 : Int32)) (v := (.int (q0.toInt32))) (by rw [e1]; exact Ar3.1) (State.isArrayOf_alike hZ.alike Ar3.2.1) Ar3.2.2 (inb_of q3a ⟨by decide, by decide⟩) (q3c.at (inb_of q3a ⟨by decide, by decide⟩) rfl) (g := (mkF m 44 #[.val (.ref a1), .val (.ref b), .val (.ref y1), .val (.int (1 : Int32)), .val (.int (0 : Int32)), .unset] [(.int (0 : Int32)), (.ref y1)])) rfl rfl (hb hby d8_44) t_ k_) ?_
  refine Go.st (T' := T1) (pc' := 47) (L' := #[.val (.ref a1), .val (.ref b), .val (.ref y1), .val (.int (1 : Int32)), .val (.int (0 : Int32)), .val (.int (q0.toInt32))]) (S' := []) (fun t_ k_ => XS.istore X1.here hx rfl (hb hby d8_45) rfl (l' := #[.val (.ref a1), .val (.ref b), .val (.ref y1), .val (.int (1 : Int32)), .val (.int (0 : Int32)), .val (.int (q0.toInt32))]) rfl k_) ?_
  refine Go.st (T' := T1) (pc' := 48) (L' := #[.val (.ref a1), .val (.ref b), .val (.ref y1), .val (.int (1 : Int32)), .val (.int (0 : Int32)), .val (.int (q0.toInt32))]) (S' := [(.ref b)]) (fun t_ k_ => XS.aloadN X1.here hx rfl (hb hby d8_47) rfl rfl  k_) ?_
  refine Go.st (T' := T1) (pc' := 50) (L' := #[.val (.ref a1), .val (.ref b), .val (.ref y1), .val (.int (1 : Int32)), .val (.int (0 : Int32)), .val (.int (q0.toInt32))]) (S' := [(.int (q0.toInt32)), (.ref b)]) (fun t_ k_ => XS.iload X1.here hx rfl (hb hby d8_48) rfl  k_) ?_
  refine Go.st (T' := T1) (pc' := 51) (L' := #[.val (.ref a1), .val (.ref b), .val (.ref y1), .val (.int (1 : Int32)), .val (.int (0 : Int32)), .val (.int (q0.toInt32))]) (S' := [(.int (1 : Int32)), (.int (q0.toInt32)), (.ref b)]) (fun t_ k_ => XS.iconst X1.here hx rfl (hb hby d8_50) k_) ?_
  obtain ⟨cl4, Ar4, q41, q42, q43, q44, q45⟩ := V_b
  obtain ⟨T4, h4, X4, e4, W4, st4⟩ := stZ X1 hx hZ e1 Ar4 (j := (q0.toInt32)) (own_inb q42 (N := 128) (by decide) (by omega) (by decide)) (g := (mkF m 51 #[.val (.ref a1), .val (.ref b), .val (.ref y1), .val (.int (1 : Int32)), .val (.int (0 : Int32)), .val (.int (q0.toInt32))] [(.int (1 : Int32)), (.int (q0.toInt32)), (.ref b)])) rfl rfl (hb hby d8_51)
  replace V_b := Arv.set Ar4 q41 q42 q43 q44 q45 (fits_nar_bool _) W4 (q0) (own_tn (by omega)) (by rw [List.length_map, show List.length M = 128 from lM]; omega)
  rw [own_setI] at V_b
  replace Z0 := Nat.le_trans Z0 (Keep.of_wr W4).1
  replace O0 := O0.wr W4 g_b
  replace E_a1 := E_a1.wr W4
  replace F_coder := F_coder.other W4 (Or.inl nab)
  replace F_value := F_value.other W4 (Or.inl nab)
  replace V_t := V_t.other W4 ntb
  replace K0 := K0.wr W4 (Or.inr sz_b)
  replace Vy1 := Vy1.other W4 (Ne.symm ne_b_y1)
  have N4 := Fr.snoc X4 N1 g_b
  refine Go.st (T' := T4) (pc' := 52) (L' := #[.val (.ref a1), .val (.ref b), .val (.ref y1), .val (.int (1 : Int32)), .val (.int (0 : Int32)), .val (.int (q0.toInt32))]) (S' := []) st4 ?_
  refine Go.st (T' := T4) (pc' := 55) (L' := #[.val (.ref a1), .val (.ref b), .val (.ref y1), .val (.int (1 : Int32)), .val (.int ((0 : Int32) + (1 : Int32))), .val (.int (q0.toInt32))]) (S' := []) (fun t_ k_ => XS.iinc X4.here hx rfl (hb hby d8_52) rfl (l' := #[.val (.ref a1), .val (.ref b), .val (.ref y1), .val (.int (1 : Int32)), .val (.int ((0 : Int32) + (1 : Int32))), .val (.int (q0.toInt32))]) rfl k_) ?_
  rw [show ((0 : Int32) + (1 : Int32)) = (1 : Int32) from by decide]
  refine Go.st (T' := T4) (pc' := 35) (L' := #[.val (.ref a1), .val (.ref b), .val (.ref y1), .val (.int (1 : Int32)), .val (.int (1 : Int32)), .val (.int (q0.toInt32))]) (S' := []) (fun t_ k_ => XS.goto X4.here hx rfl (pc0 := 55) (pc' := 35) rfl (hb hby d8_55) (by decide) (by decide) k_) ?_
  refine Go.st (T' := T4) (pc' := 37) (L' := #[.val (.ref a1), .val (.ref b), .val (.ref y1), .val (.int (1 : Int32)), .val (.int (1 : Int32)), .val (.int (q0.toInt32))]) (S' := [(.int (1 : Int32))]) (fun t_ k_ => XS.iload X4.here hx rfl (hb hby d8_35) rfl  k_) ?_
  refine Go.st (T' := T4) (pc' := 38) (L' := #[.val (.ref a1), .val (.ref b), .val (.ref y1), .val (.int (1 : Int32)), .val (.int (1 : Int32)), .val (.int (q0.toInt32))]) (S' := [(.int (1 : Int32)), (.int (1 : Int32))]) (fun t_ k_ => XS.iloadN X4.here hx rfl (hb hby d8_37) rfl  k_) ?_
  refine Go.st (T' := T4) (pc' := 58) (L' := #[.val (.ref a1), .val (.ref b), .val (.ref y1), .val (.int (1 : Int32)), .val (.int (1 : Int32)), .val (.int (q0.toInt32))]) (S' := []) (fun t_ k_ => XS.icmpYes X4.here hx rfl (pc0 := 38) (pc' := 58) rfl (hb hby d8_38) rfl (flt (by decide : ¬ ((1 : Int32) < (1 : Int32)))).2.1 (by decide) (by decide) k_) ?_
  refine Go.st (T' := T4) (pc' := 59) (L' := #[.val (.ref a1), .val (.ref b), .val (.ref y1), .val (.int (1 : Int32)), .val (.int (1 : Int32)), .val (.int (q0.toInt32))]) (S' := [(.ref b)]) (fun t_ k_ => XS.aloadN X4.here hx rfl (hb hby d8_58) rfl rfl  k_) ?_
  exact Go.retO X4 hx hlk hret rfl (by simp [FieldType.isReference, Value.isRef]) (hb hby d8_59) (by decide) (by decide) (by rw [e4]; exact ⟨b, _, _, rfl, N4, K0, V_b, fun j hj => own_fin1 hM lM hq0 hj⟩)
set_option maxRecDepth 65536 in
set_option maxHeartbeats 40000000 in
theorem loop8_1 {p : Program} {l : Launch} {e : Env} {s : State} {m : MethodId} {args : Array Value} {below : List Frame} {meth : Method} {c : Code} {Z : State} {a0 : Array Value} {n0 : Nat} {h0 : Heap} (a1 : Addr) (t : Addr) (kt : ClassId) (gC : Int32) (q0 : Nat) (b : Addr) (kb : ClassId) (hx : p.tables.exec = Jvm.exec) (hZ : Z.Warmed39 s.vm) (hw : ∀ d ∈ tables_1, d.before a0 Z = true) (hby : c.code = prog_43_method_2_code) (hml : c.maxLocals = 6) (hown : s.vm.findClass "com/example/traversal/traversal/graph/Iris" = some m.cls) (hnm : meth.name = "controlsSpaceAnd") (hret : meth.sig.returnType = (some (.array .boolean))) (hlk : meth.locks = false) (SC : Sta Z Z.heap "java/lang/String" "COMPACT_STRINGS" "Z" (.int gC)) (PC : ¬ (gC = (0 : Int32)))  (hq0 : q0 < 128) (g_b : n0 ≤ b) (nab : a1 ≠ b) (ntb : t ≠ b) (sz_b : h0.size ≤ b) (k : Nat) :
    ∀ (i : Nat) (M : List Int32) (T0 : State) (locs : List Loc) (hh : Heap), i + k = 33 → Stand p l e roomcsa1 s m args below meth c T0 locs 1 128 → T0.heap = hh → Fr n0 locs → Keep h0 hh [] → Old Z n0 hh → n0 ≤ hh.size → Exa Z hh a1 "java/lang/String" → Fld Z hh a1 "java/lang/String" "coder" "B" (.int (0 : Int32)) → Fld Z hh a1 "java/lang/String" "value" "[B" (.ref t) → Arv Z hh t kt .byte (1 : Int32) [(.int ((nar .char (q0.toInt32)).toInt8.toInt32))] (.int (0 : Int32)) → Arv Z hh b kb .boolean (128 : Int32) (M.map Value.int) (.int 0) → M.length = 128 → (∀ j, j < 128 → M.getD j 0 = if j < i then 1 else 0) → Go p e below s roomcsa1.cells roomcsa1.slots (Qcsa1 Z q0 h0 n0) m T0 8 #[.val (.ref a1), .val (.ref b), .val (.int (i.toInt32)), .unset, .unset, .unset] [] := by
  induction k with
  | zero =>
    intro i M T0 locs hh hik X0 e0 N0 K0 O0 Z0 E_a1 F_coder F_value V_t V_b lM hM
    obtain rfl : i = 33 := by omega
    refine Go.st (T' := T0) (pc' := 9) (L' := #[.val (.ref a1), .val (.ref b), .val (.int (Nat.toInt32 33)), .unset, .unset, .unset]) (S' := [(.int (Nat.toInt32 33))]) (fun t_ k_ => XS.iloadN X0.here hx rfl (hb hby d8_8) rfl  k_) ?_
    refine Go.st (T' := T0) (pc' := 11) (L' := #[.val (.ref a1), .val (.ref b), .val (.int (Nat.toInt32 33)), .unset, .unset, .unset]) (S' := [(.int (32 : Int32)), (.int (Nat.toInt32 33))]) (fun t_ k_ => XS.bipush X0.here hx rfl (hb hby d8_9) k_) ?_
    refine Go.st (T' := T0) (pc' := 24) (L' := #[.val (.ref a1), .val (.ref b), .val (.int (Nat.toInt32 33)), .unset, .unset, .unset]) (S' := []) (fun t_ k_ => XS.icmpYes X0.here hx rfl (pc0 := 11) (pc' := 24) rfl (hb hby d8_11) rfl (tlt ((own_ltI (m := 32) (n := 33) (by decide) (by decide)).mpr (by decide) : ((32 : Int32) < (Nat.toInt32 33)))).2.2.1 (by decide) (by decide) k_) ?_
    exact seg24_1 a1 t _ gC q0 b _ M X0 hx hZ hw hby hml hown hnm hret hlk e0 N0 SC PC O0 Z0 E_a1 F_coder F_value V_t hq0 V_b lM g_b nab ntb sz_b K0 hM
  | succ k ih =>
    intro i M T0 locs hh hik X0 e0 N0 K0 O0 Z0 E_a1 F_coder F_value V_t V_b lM hM
    refine Go.st (T' := T0) (pc' := 9) (L' := #[.val (.ref a1), .val (.ref b), .val (.int (i.toInt32)), .unset, .unset, .unset]) (S' := [(.int (i.toInt32))]) (fun t_ k_ => XS.iloadN X0.here hx rfl (hb hby d8_8) rfl  k_) ?_
    refine Go.st (T' := T0) (pc' := 11) (L' := #[.val (.ref a1), .val (.ref b), .val (.int (i.toInt32)), .unset, .unset, .unset]) (S' := [(.int (32 : Int32)), (.int (i.toInt32))]) (fun t_ k_ => XS.bipush X0.here hx rfl (hb hby d8_9) k_) ?_
    by_cases hc11_501 : (32 : Int32) < (i.toInt32)
    · refine Go.st (T' := T0) (pc' := 24) (L' := #[.val (.ref a1), .val (.ref b), .val (.int (i.toInt32)), .unset, .unset, .unset]) (S' := []) (fun t_ k_ => XS.icmpYes X0.here hx rfl (pc0 := 11) (pc' := 24) rfl (hb hby d8_11) rfl (tlt hc11_501).2.2.1 (by decide) (by decide) k_) ?_
      have hi33 : i = 33 := by have := (own_ltI (m := 32) (by decide) (by omega)).mp hc11_501; omega
      subst hi33
      exact seg24_1 a1 t _ gC q0 b _ M X0 hx hZ hw hby hml hown hnm hret hlk e0 N0 SC PC O0 Z0 E_a1 F_coder F_value V_t hq0 V_b lM g_b nab ntb sz_b K0 hM
    · refine Go.st (T' := T0) (pc' := 14) (L' := #[.val (.ref a1), .val (.ref b), .val (.int (i.toInt32)), .unset, .unset, .unset]) (S' := []) (fun t_ k_ => XS.icmpNo X0.here hx rfl (hb hby d8_11) rfl (flt hc11_501).2.2.1 k_) ?_
      have hlt : i < 33 := by have := mt (own_ltI (m := 32) (n := i) (by decide) (by omega)).mpr hc11_501; omega
      refine Go.st (T' := T0) (pc' := 15) (L' := #[.val (.ref a1), .val (.ref b), .val (.int (i.toInt32)), .unset, .unset, .unset]) (S' := [(.ref b)]) (fun t_ k_ => XS.aloadN X0.here hx rfl (hb hby d8_14) rfl rfl  k_) ?_
      refine Go.st (T' := T0) (pc' := 16) (L' := #[.val (.ref a1), .val (.ref b), .val (.int (i.toInt32)), .unset, .unset, .unset]) (S' := [(.int (i.toInt32)), (.ref b)]) (fun t_ k_ => XS.iloadN X0.here hx rfl (hb hby d8_15) rfl  k_) ?_
      refine Go.st (T' := T0) (pc' := 17) (L' := #[.val (.ref a1), .val (.ref b), .val (.int (i.toInt32)), .unset, .unset, .unset]) (S' := [(.int (1 : Int32)), (.int (i.toInt32)), (.ref b)]) (fun t_ k_ => XS.iconst X0.here hx rfl (hb hby d8_16) k_) ?_
      obtain ⟨cl502, Ar502, q5021, q5022, q5023, q5024, q5025⟩ := V_b
      obtain ⟨T502, h502, X502, e502, W502, st502⟩ := stZ X0 hx hZ e0 Ar502 (j := (i.toInt32)) (own_inb q5022 (N := 128) (by decide) (by omega) (by decide)) (g := (mkF m 17 #[.val (.ref a1), .val (.ref b), .val (.int (i.toInt32)), .unset, .unset, .unset] [(.int (1 : Int32)), (.int (i.toInt32)), (.ref b)])) rfl rfl (hb hby d8_17)
      replace V_b := Arv.set Ar502 q5021 q5022 q5023 q5024 q5025 (fits_nar_bool _) W502 (i) (own_tn (by omega)) (by rw [List.length_map, show List.length M = 128 from lM]; omega)
      rw [own_setI] at V_b
      replace Z0 := Nat.le_trans Z0 (Keep.of_wr W502).1
      replace O0 := O0.wr W502 g_b
      replace E_a1 := E_a1.wr W502
      replace F_coder := F_coder.other W502 (Or.inl nab)
      replace F_value := F_value.other W502 (Or.inl nab)
      replace V_t := V_t.other W502 ntb
      replace K0 := K0.wr W502 (Or.inr sz_b)
      have N502 := Fr.snoc X502 N0 g_b
      refine Go.st (T' := T502) (pc' := 18) (L' := #[.val (.ref a1), .val (.ref b), .val (.int (i.toInt32)), .unset, .unset, .unset]) (S' := []) st502 ?_
      refine Go.st (T' := T502) (pc' := 21) (L' := #[.val (.ref a1), .val (.ref b), .val (.int ((i.toInt32) + (1 : Int32))), .unset, .unset, .unset]) (S' := []) (fun t_ k_ => XS.iinc X502.here hx rfl (hb hby d8_18) rfl (l' := #[.val (.ref a1), .val (.ref b), .val (.int ((i.toInt32) + (1 : Int32))), .unset, .unset, .unset]) rfl k_) ?_
      rw [own_next (n := i) (by omega)]
      refine Go.st (T' := T502) (pc' := 8) (L' := #[.val (.ref a1), .val (.ref b), .val (.int ((i + 1).toInt32)), .unset, .unset, .unset]) (S' := []) (fun t_ k_ => XS.goto X502.here hx rfl (pc0 := 21) (pc' := 8) rfl (hb hby d8_21) (by decide) (by decide) k_) ?_
      exact ih (i + 1) (M.set (i) (nar .boolean (1 : Int32))) T502 _ h502 (by omega) X502 e502 N502 K0 O0 Z0 E_a1 F_coder F_value V_t V_b (by rw [List.length_set]; exact lM) (own_stepM hM lM (by omega))
set_option maxRecDepth 65536 in
set_option maxHeartbeats 40000000 in
theorem rmcsa1 (l : Launch) (Z : State) (a0 : Array Value) (hw : ∀ d ∈ tables_1, d.before a0 Z = true) (ws : List Jvm.Cond) (a1 : Addr) (t : Addr) (kt : ClassId) (gC : Int32) (q0 : Nat) (h0 : Heap) (n0 : Nat) (Z0 : n0 ≤ h0.size) (SC : Sta Z Z.heap "java/lang/String" "COMPACT_STRINGS" "Z" (.int gC)) (PC : ¬ (gC = (0 : Int32))) (O0 : Old Z n0 h0) (E_a1 : Exa Z h0 a1 "java/lang/String") (F_coder : Fld Z h0 a1 "java/lang/String" "coder" "B" (.int (0 : Int32))) (F_value : Fld Z h0 a1 "java/lang/String" "value" "[B" (.ref t)) (V_t : Arv Z h0 t kt .byte (1 : Int32) [(.int ((nar .char (q0.toInt32)).toInt8.toInt32))] (.int (0 : Int32)))  (hq0 : q0 < 128) :
    MetFree l (⟨"com/example/traversal/traversal/graph/Iris", "controlsSpaceAnd", "(Ljava/lang/String;)[Z"⟩ : MethodName) (head1 (Jvm.Cond.code (⟨"com/example/traversal/traversal/graph/Iris", "controlsSpaceAnd", "(Ljava/lang/String;)[Z"⟩ : MethodName) prog_43_method_2_code 6 (some (.array .boolean)) :: ws) roomcsa1) (fun aa_ U_ => aa_ = #[(.ref a1)] ∧ Z.Warmed39 U_.vm ∧ U_.heap = h0) (fun _ _ _ _ _ => True) (fun _ U_ o_ W_ => ∃ v_ L_, o_ = .returned v_ ∧ (Qcsa1 Z q0 h0 n0) v_ W_.heap L_ ∧ FrameEnd U_ o_ W_ L_ roomcsa1.cells roomcsa1.slots) := by
  refine own_met (Q := (Qcsa1 Z q0 h0 n0)) (L0 := #[.val (.ref a1), .unset, .unset, .unset, .unset, .unset]) (plainFor_of_name pn_2) (fun m => by first | (simp [entryFrame, mkF, argsToLocals, Value.category]; done) | rfl) ?_
  intro p e s m below meth c T0 X0 hx hby hml hown hnm hret hlk hZ e0
  have N0 := Fr.nil n0
  have K0 := Keep.refl h0 []
  refine Go.st (T' := T0) (pc' := 3) (L' := #[.val (.ref a1), .unset, .unset, .unset, .unset, .unset]) (S' := [(.int (128 : Int32))]) (fun t_ k_ => XS.sipush X0.here hx rfl (hb hby d8_0) k_) ?_
  obtain ⟨T901, h901, k901, X901, e901, E901, A901, st901⟩ := newP X0 hx hZ (hw _ (List.mem_of_getElem? (i := 38) rfl)) e0 (g := (mkF m 3 #[.val (.ref a1), .unset, .unset, .unset, .unset, .unset] [(.int (128 : Int32))])) rfl (hb hby d8_3) rfl (by decide) (cap := 128) (by decide) (by decide) (by decide) (by decide)
  obtain ⟨b901, g901⟩ : ∃ z, z = h0.size := ⟨_, rfl⟩
  rw [← g901] at A901 st901
  have ne_a1_b901 : a1 ≠ b901 := Nat.ne_of_lt (Nat.lt_of_lt_of_le E_a1.lt (Nat.le_of_eq g901.symm))
  have ne_t_b901 : t ≠ b901 := Nat.ne_of_lt (Nat.lt_of_lt_of_le V_t.lt (Nat.le_of_eq g901.symm))
  have g_b901 : n0 ≤ b901 := Nat.le_trans Z0 (Nat.le_of_eq g901.symm)
  have sz_b901 : h0.size ≤ b901 := Nat.le_trans K0.1 (Nat.le_of_eq g901.symm)
  replace Z0 := Nat.le_trans Z0 E901.1
  replace O0 := O0.ext E901
  replace E_a1 := E_a1.ext E901
  replace F_coder := F_coder.ext E901
  replace F_value := F_value.ext E901
  replace V_t := V_t.ext E901
  replace K0 := K0.ext E901
  have V_b901 : Arv Z h901 b901 k901 .boolean (128 : Int32) [] (.int (0 : Int32)) := Arv.new A901 (by decide)
  refine Go.st (T' := T901) (pc' := 5) (L' := #[.val (.ref a1), .unset, .unset, .unset, .unset, .unset]) (S' := [(.ref b901)]) st901 ?_
  refine Go.st (T' := T901) (pc' := 6) (L' := #[.val (.ref a1), .val (.ref b901), .unset, .unset, .unset, .unset]) (S' := []) (fun t_ k_ => XS.astoreN X901.here hx rfl (hb hby d8_5) rfl rfl (l' := #[.val (.ref a1), .val (.ref b901), .unset, .unset, .unset, .unset]) rfl k_) ?_
  have V_b901 : Arv Z h901 b901 k901 .boolean (128 : Int32) ((List.replicate 128 (0 : Int32)).map Value.int) (.int 0) := V_b901.pad (fun j => by rw [own_getI, own_rep0]; rfl)
  refine Go.st (T' := T901) (pc' := 7) (L' := #[.val (.ref a1), .val (.ref b901), .unset, .unset, .unset, .unset]) (S' := [(.int (0 : Int32))]) (fun t_ k_ => XS.iconst X901.here hx rfl (hb hby d8_6) k_) ?_
  refine Go.st (T' := T901) (pc' := 8) (L' := #[.val (.ref a1), .val (.ref b901), .val (.int (0 : Int32)), .unset, .unset, .unset]) (S' := []) (fun t_ k_ => XS.istoreN X901.here hx rfl (hb hby d8_7) rfl (l' := #[.val (.ref a1), .val (.ref b901), .val (.int (0 : Int32)), .unset, .unset, .unset]) rfl k_) ?_
  exact loop8_1 a1 t _ gC q0 b901 _ hx hZ hw hby hml hown hnm hret hlk SC PC hq0 g_b901 ne_a1_b901 ne_t_b901 sz_b901 33 0 (List.replicate 128 0) T901 _ h901 (by omega) X901 e901 N0 K0 O0 Z0 E_a1 F_coder F_value V_t V_b901 rfl (fun j hj => by rw [own_rep0, if_neg (Nat.not_lt_zero j)])

def Qinf2 (Z : State) (y : Addr) (ky : ClassId) (q0 : Nat) (q1 : Nat) (h0 : Heap) (n0 : Nat) (v : Option Value) (h : Heap) (L : List Loc) : Prop := v = none ∧ Fr n0 L ∧ Keep h0 h [y] ∧ Arv Z h y ky .char (2 : Int32) [(.int (q0.toInt32)), (.int (q1.toInt32))] (.int (0 : Int32))
def roominf2 : Room := { frames := 0, cells := 0, slots := 0, locals := 0 }
set_option maxRecDepth 65536 in
set_option maxHeartbeats 40000000 in
theorem rminf2 (l : Launch) (Z : State) (a0 : Array Value) (hw : ∀ d ∈ tables_1, d.before a0 Z = true) (ws : List Jvm.Cond) (t : Addr) (y : Addr) (kt : ClassId) (ky : ClassId) (q0 : Nat) (q1 : Nat) (h0 : Heap) (n0 : Nat) (Z0 : n0 ≤ h0.size) (V_t : Arv Z h0 t kt .byte (2 : Int32) [(.int ((nar .char (q0.toInt32)).toInt8.toInt32)), (.int ((nar .char (q1.toInt32)).toInt8.toInt32))] (.int (0 : Int32))) (V_y : Arv Z h0 y ky .char (2 : Int32) [(.int (0 : Int32)), (.int (0 : Int32))] (.int (0 : Int32))) (nty : t ≠ y) (g_y : n0 ≤ y)  (hq0 : q0 < 128) (hq1 : q1 < 128) :
    MetFree l (⟨"java/lang/StringLatin1", "inflate", "([BI[CII)V"⟩ : MethodName) (head1 (Jvm.Cond.code (⟨"java/lang/StringLatin1", "inflate", "([BI[CII)V"⟩ : MethodName) jdk_43_method_49_code 6 none :: ws) roominf2) (fun aa_ U_ => aa_ = #[(.ref t), (.int (0 : Int32)), (.ref y), (.int (0 : Int32)), (.int (2 : Int32))] ∧ Z.Warmed39 U_.vm ∧ U_.heap = h0) (fun _ _ _ _ _ => True) (fun _ U_ o_ W_ => ∃ v_ L_, o_ = .returned v_ ∧ (Qinf2 Z y ky q0 q1 h0 n0) v_ W_.heap L_ ∧ FrameEnd U_ o_ W_ L_ roominf2.cells roominf2.slots) := by
  refine own_met (Q := (Qinf2 Z y ky q0 q1 h0 n0)) (L0 := #[.val (.ref t), .val (.int (0 : Int32)), .val (.ref y), .val (.int (0 : Int32)), .val (.int (2 : Int32)), .unset]) (plainFor_of_name pn_1) (fun m => by first | (simp [entryFrame, mkF, argsToLocals, Value.category]; done) | rfl) ?_
  intro p e s m below meth c T0 X0 hx hby hml hown hnm hret hlk hZ e0
  have N0 := Fr.nil n0
  have K0 := Keep.refl h0 [y]
  refine Go.st (T' := T0) (pc' := 1) (L' := #[.val (.ref t), .val (.int (0 : Int32)), .val (.ref y), .val (.int (0 : Int32)), .val (.int (2 : Int32)), .unset]) (S' := [(.int (0 : Int32))]) (fun t_ k_ => XS.iconst X0.here hx rfl (hb hby d12_0) k_) ?_
  refine Go.st (T' := T0) (pc' := 3) (L' := #[.val (.ref t), .val (.int (0 : Int32)), .val (.ref y), .val (.int (0 : Int32)), .val (.int (2 : Int32)), .val (.int (0 : Int32))]) (S' := []) (fun t_ k_ => XS.istore X0.here hx rfl (hb hby d12_1) rfl (l' := #[.val (.ref t), .val (.int (0 : Int32)), .val (.ref y), .val (.int (0 : Int32)), .val (.int (2 : Int32)), .val (.int (0 : Int32))]) rfl k_) ?_
  refine Go.st (T' := T0) (pc' := 5) (L' := #[.val (.ref t), .val (.int (0 : Int32)), .val (.ref y), .val (.int (0 : Int32)), .val (.int (2 : Int32)), .val (.int (0 : Int32))]) (S' := [(.int (0 : Int32))]) (fun t_ k_ => XS.iload X0.here hx rfl (hb hby d12_3) rfl  k_) ?_
  refine Go.st (T' := T0) (pc' := 7) (L' := #[.val (.ref t), .val (.int (0 : Int32)), .val (.ref y), .val (.int (0 : Int32)), .val (.int (2 : Int32)), .val (.int (0 : Int32))]) (S' := [(.int (2 : Int32)), (.int (0 : Int32))]) (fun t_ k_ => XS.iload X0.here hx rfl (hb hby d12_5) rfl  k_) ?_
  refine Go.st (T' := T0) (pc' := 10) (L' := #[.val (.ref t), .val (.int (0 : Int32)), .val (.ref y), .val (.int (0 : Int32)), .val (.int (2 : Int32)), .val (.int (0 : Int32))]) (S' := []) (fun t_ k_ => XS.icmpNo X0.here hx rfl (hb hby d12_7) rfl (tlt (by decide : ((0 : Int32) < (2 : Int32)))).2.1 k_) ?_
  refine Go.st (T' := T0) (pc' := 11) (L' := #[.val (.ref t), .val (.int (0 : Int32)), .val (.ref y), .val (.int (0 : Int32)), .val (.int (2 : Int32)), .val (.int (0 : Int32))]) (S' := [(.ref y)]) (fun t_ k_ => XS.aloadN X0.here hx rfl (hb hby d12_10) rfl rfl  k_) ?_
  refine Go.st (T' := T0) (pc' := 12) (L' := #[.val (.ref t), .val (.int (0 : Int32)), .val (.ref y), .val (.int (0 : Int32)), .val (.int (2 : Int32)), .val (.int (0 : Int32))]) (S' := [(.int (0 : Int32)), (.ref y)]) (fun t_ k_ => XS.iloadN X0.here hx rfl (hb hby d12_11) rfl  k_) ?_
  refine Go.st (T' := T0) (pc' := 15) (L' := #[.val (.ref t), .val (.int (0 : Int32)), .val (.ref y), .val (.int ((0 : Int32) + (1 : Int32))), .val (.int (2 : Int32)), .val (.int (0 : Int32))]) (S' := [(.int (0 : Int32)), (.ref y)]) (fun t_ k_ => XS.iinc X0.here hx rfl (hb hby d12_12) rfl (l' := #[.val (.ref t), .val (.int (0 : Int32)), .val (.ref y), .val (.int ((0 : Int32) + (1 : Int32))), .val (.int (2 : Int32)), .val (.int (0 : Int32))]) rfl k_) ?_
  rw [show ((0 : Int32) + (1 : Int32)) = (1 : Int32) from by decide]
  refine Go.st (T' := T0) (pc' := 16) (L' := #[.val (.ref t), .val (.int (0 : Int32)), .val (.ref y), .val (.int (1 : Int32)), .val (.int (2 : Int32)), .val (.int (0 : Int32))]) (S' := [(.ref t), (.int (0 : Int32)), (.ref y)]) (fun t_ k_ => XS.aloadN X0.here hx rfl (hb hby d12_15) rfl rfl  k_) ?_
  refine Go.st (T' := T0) (pc' := 17) (L' := #[.val (.ref t), .val (.int (0 : Int32)), .val (.ref y), .val (.int (1 : Int32)), .val (.int (2 : Int32)), .val (.int (0 : Int32))]) (S' := [(.int (0 : Int32)), (.ref t), (.int (0 : Int32)), (.ref y)]) (fun t_ k_ => XS.iloadN X0.here hx rfl (hb hby d12_16) rfl  k_) ?_
  refine Go.st (T' := T0) (pc' := 20) (L' := #[.val (.ref t), .val (.int ((0 : Int32) + (1 : Int32))), .val (.ref y), .val (.int (1 : Int32)), .val (.int (2 : Int32)), .val (.int (0 : Int32))]) (S' := [(.int (0 : Int32)), (.ref t), (.int (0 : Int32)), (.ref y)]) (fun t_ k_ => XS.iinc X0.here hx rfl (hb hby d12_17) rfl (l' := #[.val (.ref t), .val (.int ((0 : Int32) + (1 : Int32))), .val (.ref y), .val (.int (1 : Int32)), .val (.int (2 : Int32)), .val (.int (0 : Int32))]) rfl k_) ?_
  rw [show ((0 : Int32) + (1 : Int32)) = (1 : Int32) from by decide]
  obtain ⟨cl1, Ar1, -, q1a, q1b, q1c, q1d⟩ := id V_t
  refine Go.st (T' := T0) (pc' := 21) (L' := #[.val (.ref t), .val (.int (1 : Int32)), .val (.ref y), .val (.int (1 : Int32)), .val (.int (2 : Int32)), .val (.int (0 : Int32))]) (S' := [(.int ((nar .char (q0.toInt32)).toInt8.toInt32)), (.int (0 : Int32)), (.ref y)]) (fun t_ k_ => X0.baloadBytes hx (j := (0 : Int32)) (v := (.int ((nar .char (q0.toInt32)).toInt8.toInt32))) (by rw [e0]; exact Ar1.1) (State.isArrayOf_alike hZ.alike Ar1.2.1) Ar1.2.2 (inb_of q1a ⟨by decide, by decide⟩) (q1c.at (inb_of q1a ⟨by decide, by decide⟩) rfl) (g := (mkF m 20 #[.val (.ref t), .val (.int (1 : Int32)), .val (.ref y), .val (.int (1 : Int32)), .val (.int (2 : Int32)), .val (.int (0 : Int32))] [(.int (0 : Int32)), (.ref t), (.int (0 : Int32)), (.ref y)])) rfl rfl (hb hby d12_20) t_ k_) ?_
  refine Go.st (T' := T0) (pc' := 24) (L' := #[.val (.ref t), .val (.int (1 : Int32)), .val (.ref y), .val (.int (1 : Int32)), .val (.int (2 : Int32)), .val (.int (0 : Int32))]) (S' := [(.int (255 : Int32)), (.int ((nar .char (q0.toInt32)).toInt8.toInt32)), (.int (0 : Int32)), (.ref y)]) (fun t_ k_ => XS.sipush X0.here hx rfl (hb hby d12_21) k_) ?_
  refine Go.st (T' := T0) (pc' := 25) (L' := #[.val (.ref t), .val (.int (1 : Int32)), .val (.ref y), .val (.int (1 : Int32)), .val (.int (2 : Int32)), .val (.int (0 : Int32))]) (S' := [(.int (((nar .char (q0.toInt32)).toInt8.toInt32) &&& (255 : Int32))), (.int (0 : Int32)), (.ref y)]) (fun t_ k_ => XS.iand X0.here hx rfl (hb hby d12_24) rfl k_) ?_
  refine Go.st (T' := T0) (pc' := 26) (L' := #[.val (.ref t), .val (.int (1 : Int32)), .val (.ref y), .val (.int (1 : Int32)), .val (.int (2 : Int32)), .val (.int (0 : Int32))]) (S' := [(.int ((((nar .char (q0.toInt32)).toInt8.toInt32) &&& (255 : Int32)).toUInt32.toUInt16.toUInt32.toInt32)), (.int (0 : Int32)), (.ref y)]) (fun t_ k_ => XS.i2c X0.here hx rfl (hb hby d12_25) rfl k_) ?_
  obtain ⟨cl2, Ar2, q21, q22, q23, q24, q25⟩ := V_y
  obtain ⟨T2, h2, X2, e2, W2, st2⟩ := stC X0 hx hZ e0 Ar2 (j := (0 : Int32)) (inb_of q22 ⟨by decide, by decide⟩) (g := (mkF m 26 #[.val (.ref t), .val (.int (1 : Int32)), .val (.ref y), .val (.int (1 : Int32)), .val (.int (2 : Int32)), .val (.int (0 : Int32))] [(.int ((((nar .char (q0.toInt32)).toInt8.toInt32) &&& (255 : Int32)).toUInt32.toUInt16.toUInt32.toInt32)), (.int (0 : Int32)), (.ref y)])) rfl rfl (hb hby d12_26)
  replace V_y := Arv.set Ar2 q21 q22 q23 q24 q25 (fits_nar_char _) W2 0 rfl (Nat.le_of_ble_eq_true rfl)
  have V_y : Arv Z h2 y ky .char (2 : Int32) [(.int (nar .char ((((nar .char (q0.toInt32)).toInt8.toInt32) &&& (255 : Int32)).toUInt32.toUInt16.toUInt32.toInt32))), (.int (0 : Int32))] (.int (0 : Int32)) := V_y
  replace Z0 := Nat.le_trans Z0 (Keep.of_wr W2).1
  replace K0 := K0.wr W2 (Or.inl (List.mem_of_getElem? (i := 0) rfl))
  replace V_t := V_t.other W2 nty
  have N2 := Fr.snoc X2 N0 g_y
  refine Go.st (T' := T2) (pc' := 27) (L' := #[.val (.ref t), .val (.int (1 : Int32)), .val (.ref y), .val (.int (1 : Int32)), .val (.int (2 : Int32)), .val (.int (0 : Int32))]) (S' := []) st2 ?_
  refine Go.st (T' := T2) (pc' := 30) (L' := #[.val (.ref t), .val (.int (1 : Int32)), .val (.ref y), .val (.int (1 : Int32)), .val (.int (2 : Int32)), .val (.int ((0 : Int32) + (1 : Int32)))]) (S' := []) (fun t_ k_ => XS.iinc X2.here hx rfl (hb hby d12_27) rfl (l' := #[.val (.ref t), .val (.int (1 : Int32)), .val (.ref y), .val (.int (1 : Int32)), .val (.int (2 : Int32)), .val (.int ((0 : Int32) + (1 : Int32)))]) rfl k_) ?_
  rw [show ((0 : Int32) + (1 : Int32)) = (1 : Int32) from by decide]
  refine Go.st (T' := T2) (pc' := 3) (L' := #[.val (.ref t), .val (.int (1 : Int32)), .val (.ref y), .val (.int (1 : Int32)), .val (.int (2 : Int32)), .val (.int (1 : Int32))]) (S' := []) (fun t_ k_ => XS.goto X2.here hx rfl (pc0 := 30) (pc' := 3) rfl (hb hby d12_30) (by decide) (by decide) k_) ?_
  refine Go.st (T' := T2) (pc' := 5) (L' := #[.val (.ref t), .val (.int (1 : Int32)), .val (.ref y), .val (.int (1 : Int32)), .val (.int (2 : Int32)), .val (.int (1 : Int32))]) (S' := [(.int (1 : Int32))]) (fun t_ k_ => XS.iload X2.here hx rfl (hb hby d12_3) rfl  k_) ?_
  refine Go.st (T' := T2) (pc' := 7) (L' := #[.val (.ref t), .val (.int (1 : Int32)), .val (.ref y), .val (.int (1 : Int32)), .val (.int (2 : Int32)), .val (.int (1 : Int32))]) (S' := [(.int (2 : Int32)), (.int (1 : Int32))]) (fun t_ k_ => XS.iload X2.here hx rfl (hb hby d12_5) rfl  k_) ?_
  refine Go.st (T' := T2) (pc' := 10) (L' := #[.val (.ref t), .val (.int (1 : Int32)), .val (.ref y), .val (.int (1 : Int32)), .val (.int (2 : Int32)), .val (.int (1 : Int32))]) (S' := []) (fun t_ k_ => XS.icmpNo X2.here hx rfl (hb hby d12_7) rfl (tlt (by decide : ((1 : Int32) < (2 : Int32)))).2.1 k_) ?_
  refine Go.st (T' := T2) (pc' := 11) (L' := #[.val (.ref t), .val (.int (1 : Int32)), .val (.ref y), .val (.int (1 : Int32)), .val (.int (2 : Int32)), .val (.int (1 : Int32))]) (S' := [(.ref y)]) (fun t_ k_ => XS.aloadN X2.here hx rfl (hb hby d12_10) rfl rfl  k_) ?_
  refine Go.st (T' := T2) (pc' := 12) (L' := #[.val (.ref t), .val (.int (1 : Int32)), .val (.ref y), .val (.int (1 : Int32)), .val (.int (2 : Int32)), .val (.int (1 : Int32))]) (S' := [(.int (1 : Int32)), (.ref y)]) (fun t_ k_ => XS.iloadN X2.here hx rfl (hb hby d12_11) rfl  k_) ?_
  refine Go.st (T' := T2) (pc' := 15) (L' := #[.val (.ref t), .val (.int (1 : Int32)), .val (.ref y), .val (.int ((1 : Int32) + (1 : Int32))), .val (.int (2 : Int32)), .val (.int (1 : Int32))]) (S' := [(.int (1 : Int32)), (.ref y)]) (fun t_ k_ => XS.iinc X2.here hx rfl (hb hby d12_12) rfl (l' := #[.val (.ref t), .val (.int (1 : Int32)), .val (.ref y), .val (.int ((1 : Int32) + (1 : Int32))), .val (.int (2 : Int32)), .val (.int (1 : Int32))]) rfl k_) ?_
  rw [show ((1 : Int32) + (1 : Int32)) = (2 : Int32) from by decide]
  refine Go.st (T' := T2) (pc' := 16) (L' := #[.val (.ref t), .val (.int (1 : Int32)), .val (.ref y), .val (.int (2 : Int32)), .val (.int (2 : Int32)), .val (.int (1 : Int32))]) (S' := [(.ref t), (.int (1 : Int32)), (.ref y)]) (fun t_ k_ => XS.aloadN X2.here hx rfl (hb hby d12_15) rfl rfl  k_) ?_
  refine Go.st (T' := T2) (pc' := 17) (L' := #[.val (.ref t), .val (.int (1 : Int32)), .val (.ref y), .val (.int (2 : Int32)), .val (.int (2 : Int32)), .val (.int (1 : Int32))]) (S' := [(.int (1 : Int32)), (.ref t), (.int (1 : Int32)), (.ref y)]) (fun t_ k_ => XS.iloadN X2.here hx rfl (hb hby d12_16) rfl  k_) ?_
  refine Go.st (T' := T2) (pc' := 20) (L' := #[.val (.ref t), .val (.int ((1 : Int32) + (1 : Int32))), .val (.ref y), .val (.int (2 : Int32)), .val (.int (2 : Int32)), .val (.int (1 : Int32))]) (S' := [(.int (1 : Int32)), (.ref t), (.int (1 : Int32)), (.ref y)]) (fun t_ k_ => XS.iinc X2.here hx rfl (hb hby d12_17) rfl (l' := #[.val (.ref t), .val (.int ((1 : Int32) + (1 : Int32))), .val (.ref y), .val (.int (2 : Int32)), .val (.int (2 : Int32)), .val (.int (1 : Int32))]) rfl k_) ?_
  rw [show ((1 : Int32) + (1 : Int32)) = (2 : Int32) from by decide]
  obtain ⟨cl3, Ar3, -, q3a, q3b, q3c, q3d⟩ := id V_t
  refine Go.st (T' := T2) (pc' := 21) (L' := #[.val (.ref t), .val (.int (2 : Int32)), .val (.ref y), .val (.int (2 : Int32)), .val (.int (2 : Int32)), .val (.int (1 : Int32))]) (S' := [(.int ((nar .char (q1.toInt32)).toInt8.toInt32)), (.int (1 : Int32)), (.ref y)]) (fun t_ k_ => X2.baloadBytes hx (j := (1 : Int32)) (v := (.int ((nar .char (q1.toInt32)).toInt8.toInt32))) (by rw [e2]; exact Ar3.1) (State.isArrayOf_alike hZ.alike Ar3.2.1) Ar3.2.2 (inb_of q3a ⟨by decide, by decide⟩) (q3c.at (inb_of q3a ⟨by decide, by decide⟩) rfl) (g := (mkF m 20 #[.val (.ref t), .val (.int (2 : Int32)), .val (.ref y), .val (.int (2 : Int32)), .val (.int (2 : Int32)), .val (.int (1 : Int32))] [(.int (1 : Int32)), (.ref t), (.int (1 : Int32)), (.ref y)])) rfl rfl (hb hby d12_20) t_ k_) ?_
  refine Go.st (T' := T2) (pc' := 24) (L' := #[.val (.ref t), .val (.int (2 : Int32)), .val (.ref y), .val (.int (2 : Int32)), .val (.int (2 : Int32)), .val (.int (1 : Int32))]) (S' := [(.int (255 : Int32)), (.int ((nar .char (q1.toInt32)).toInt8.toInt32)), (.int (1 : Int32)), (.ref y)]) (fun t_ k_ => XS.sipush X2.here hx rfl (hb hby d12_21) k_) ?_
  refine Go.st (T' := T2) (pc' := 25) (L' := #[.val (.ref t), .val (.int (2 : Int32)), .val (.ref y), .val (.int (2 : Int32)), .val (.int (2 : Int32)), .val (.int (1 : Int32))]) (S' := [(.int (((nar .char (q1.toInt32)).toInt8.toInt32) &&& (255 : Int32))), (.int (1 : Int32)), (.ref y)]) (fun t_ k_ => XS.iand X2.here hx rfl (hb hby d12_24) rfl k_) ?_
  refine Go.st (T' := T2) (pc' := 26) (L' := #[.val (.ref t), .val (.int (2 : Int32)), .val (.ref y), .val (.int (2 : Int32)), .val (.int (2 : Int32)), .val (.int (1 : Int32))]) (S' := [(.int ((((nar .char (q1.toInt32)).toInt8.toInt32) &&& (255 : Int32)).toUInt32.toUInt16.toUInt32.toInt32)), (.int (1 : Int32)), (.ref y)]) (fun t_ k_ => XS.i2c X2.here hx rfl (hb hby d12_25) rfl k_) ?_
  obtain ⟨cl4, Ar4, q41, q42, q43, q44, q45⟩ := V_y
  obtain ⟨T4, h4, X4, e4, W4, st4⟩ := stC X2 hx hZ e2 Ar4 (j := (1 : Int32)) (inb_of q42 ⟨by decide, by decide⟩) (g := (mkF m 26 #[.val (.ref t), .val (.int (2 : Int32)), .val (.ref y), .val (.int (2 : Int32)), .val (.int (2 : Int32)), .val (.int (1 : Int32))] [(.int ((((nar .char (q1.toInt32)).toInt8.toInt32) &&& (255 : Int32)).toUInt32.toUInt16.toUInt32.toInt32)), (.int (1 : Int32)), (.ref y)])) rfl rfl (hb hby d12_26)
  replace V_y := Arv.set Ar4 q41 q42 q43 q44 q45 (fits_nar_char _) W4 1 rfl (Nat.le_of_ble_eq_true rfl)
  have V_y : Arv Z h4 y ky .char (2 : Int32) [(.int (nar .char ((((nar .char (q0.toInt32)).toInt8.toInt32) &&& (255 : Int32)).toUInt32.toUInt16.toUInt32.toInt32))), (.int (nar .char ((((nar .char (q1.toInt32)).toInt8.toInt32) &&& (255 : Int32)).toUInt32.toUInt16.toUInt32.toInt32)))] (.int (0 : Int32)) := V_y
  replace Z0 := Nat.le_trans Z0 (Keep.of_wr W4).1
  replace K0 := K0.wr W4 (Or.inl (List.mem_of_getElem? (i := 0) rfl))
  replace V_t := V_t.other W4 nty
  have N4 := Fr.snoc X4 N2 g_y
  refine Go.st (T' := T4) (pc' := 27) (L' := #[.val (.ref t), .val (.int (2 : Int32)), .val (.ref y), .val (.int (2 : Int32)), .val (.int (2 : Int32)), .val (.int (1 : Int32))]) (S' := []) st4 ?_
  refine Go.st (T' := T4) (pc' := 30) (L' := #[.val (.ref t), .val (.int (2 : Int32)), .val (.ref y), .val (.int (2 : Int32)), .val (.int (2 : Int32)), .val (.int ((1 : Int32) + (1 : Int32)))]) (S' := []) (fun t_ k_ => XS.iinc X4.here hx rfl (hb hby d12_27) rfl (l' := #[.val (.ref t), .val (.int (2 : Int32)), .val (.ref y), .val (.int (2 : Int32)), .val (.int (2 : Int32)), .val (.int ((1 : Int32) + (1 : Int32)))]) rfl k_) ?_
  rw [show ((1 : Int32) + (1 : Int32)) = (2 : Int32) from by decide]
  refine Go.st (T' := T4) (pc' := 3) (L' := #[.val (.ref t), .val (.int (2 : Int32)), .val (.ref y), .val (.int (2 : Int32)), .val (.int (2 : Int32)), .val (.int (2 : Int32))]) (S' := []) (fun t_ k_ => XS.goto X4.here hx rfl (pc0 := 30) (pc' := 3) rfl (hb hby d12_30) (by decide) (by decide) k_) ?_
  refine Go.st (T' := T4) (pc' := 5) (L' := #[.val (.ref t), .val (.int (2 : Int32)), .val (.ref y), .val (.int (2 : Int32)), .val (.int (2 : Int32)), .val (.int (2 : Int32))]) (S' := [(.int (2 : Int32))]) (fun t_ k_ => XS.iload X4.here hx rfl (hb hby d12_3) rfl  k_) ?_
  refine Go.st (T' := T4) (pc' := 7) (L' := #[.val (.ref t), .val (.int (2 : Int32)), .val (.ref y), .val (.int (2 : Int32)), .val (.int (2 : Int32)), .val (.int (2 : Int32))]) (S' := [(.int (2 : Int32)), (.int (2 : Int32))]) (fun t_ k_ => XS.iload X4.here hx rfl (hb hby d12_5) rfl  k_) ?_
  refine Go.st (T' := T4) (pc' := 33) (L' := #[.val (.ref t), .val (.int (2 : Int32)), .val (.ref y), .val (.int (2 : Int32)), .val (.int (2 : Int32)), .val (.int (2 : Int32))]) (S' := []) (fun t_ k_ => XS.icmpYes X4.here hx rfl (pc0 := 7) (pc' := 33) rfl (hb hby d12_7) rfl (flt (by decide : ¬ ((2 : Int32) < (2 : Int32)))).2.1 (by decide) (by decide) k_) ?_
  rw [own_infl hq0] at V_y
  rw [own_infl hq1] at V_y
  exact Go.retV X4 hx hlk hret (hb hby d12_33) (by decide) (by decide) (by rw [e4]; exact ⟨rfl, N4, K0, V_y⟩)

def Qtch2 (Z : State) (q0 : Nat) (q1 : Nat) (h0 : Heap) (n0 : Nat) (v : Option Value) (h : Heap) (L : List Loc) : Prop := ∃ (y : Addr) (ky : ClassId), v = some (.ref y) ∧ Fr n0 L ∧ Keep h0 h [] ∧ n0 ≤ y ∧ h0.size ≤ y ∧ Arv Z h y ky .char (2 : Int32) [(.int (q0.toInt32)), (.int (q1.toInt32))] (.int (0 : Int32))
def roomtch2 : Room := { frames := 1, cells := 1, slots := 2, locals := 17 }
set_option maxRecDepth 65536 in
set_option maxHeartbeats 40000000 in
theorem rmtch2 (l : Launch) (Z : State) (a0 : Array Value) (hw : ∀ d ∈ tables_1, d.before a0 Z = true) (ws : List Jvm.Cond) (t : Addr) (kt : ClassId) (q0 : Nat) (q1 : Nat) (h0 : Heap) (n0 : Nat) (Z0 : n0 ≤ h0.size) (V_t : Arv Z h0 t kt .byte (2 : Int32) [(.int ((nar .char (q0.toInt32)).toInt8.toInt32)), (.int ((nar .char (q1.toInt32)).toInt8.toInt32))] (.int (0 : Int32)))  (hq0 : q0 < 128) (hq1 : q1 < 128) :
    MetFree l (⟨"java/lang/StringLatin1", "toChars", "([B)[C"⟩ : MethodName) (head1 (Jvm.Cond.code (⟨"java/lang/StringLatin1", "toChars", "([B)[C"⟩ : MethodName) jdk_43_method_9_code 2 (some (.array .char)) :: ws) roomtch2) (fun aa_ U_ => aa_ = #[(.ref t)] ∧ Z.Warmed39 U_.vm ∧ U_.heap = h0) (fun _ _ _ _ _ => True) (fun _ U_ o_ W_ => ∃ v_ L_, o_ = .returned v_ ∧ (Qtch2 Z q0 q1 h0 n0) v_ W_.heap L_ ∧ FrameEnd U_ o_ W_ L_ roomtch2.cells roomtch2.slots) := by
  refine own_met (Q := (Qtch2 Z q0 q1 h0 n0)) (L0 := #[.val (.ref t), .unset]) (plainFor_of_name pn_1) (fun m => by first | (simp [entryFrame, mkF, argsToLocals, Value.category]; done) | rfl) ?_
  intro p e s m below meth c T0 X0 hx hby hml hown hnm hret hlk hZ e0
  have N0 := Fr.nil n0
  have K0 := Keep.refl h0 []
  refine Go.st (T' := T0) (pc' := 1) (L' := #[.val (.ref t), .unset]) (S' := [(.ref t)]) (fun t_ k_ => XS.aloadN X0.here hx rfl (hb hby d11_0) rfl rfl  k_) ?_
  obtain ⟨cl1, Ar1, -, q1a, q1b, -, -⟩ := id V_t
  refine Go.st (T' := T0) (pc' := 2) (L' := #[.val (.ref t), .unset]) (S' := [(.int (2 : Int32))]) (fun t_ k_ => own_len X0 hx hZ e0 Ar1 q1a q1b (g := (mkF m 1 #[.val (.ref t), .unset] [(.ref t)])) rfl rfl (hb hby d11_1) t_ k_) ?_
  obtain ⟨T2, h2, k2, X2, e2, E2, A2, st2⟩ := newP X0 hx hZ (hw _ (List.mem_of_getElem? (i := 7) rfl)) e0 (g := (mkF m 2 #[.val (.ref t), .unset] [(.int (2 : Int32))])) rfl (hb hby d11_2) rfl (by decide) (cap := 2) (by decide) (by decide) (by decide) (by decide)
  obtain ⟨b2, g2⟩ : ∃ z, z = h0.size := ⟨_, rfl⟩
  rw [← g2] at A2 st2
  have ne_t_b2 : t ≠ b2 := Nat.ne_of_lt (Nat.lt_of_lt_of_le V_t.lt (Nat.le_of_eq g2.symm))
  have g_b2 : n0 ≤ b2 := Nat.le_trans Z0 (Nat.le_of_eq g2.symm)
  have sz_b2 : h0.size ≤ b2 := Nat.le_trans K0.1 (Nat.le_of_eq g2.symm)
  replace Z0 := Nat.le_trans Z0 E2.1
  replace K0 := K0.ext E2
  replace V_t := V_t.ext E2
  have V_b2 : Arv Z h2 b2 k2 .char (2 : Int32) [(.int (0 : Int32)), (.int (0 : Int32))] (.int (0 : Int32)) := (Arv.new A2 (by decide)).pad (pad_rep [] (.int (0 : Int32)) 2)
  refine Go.st (T' := T2) (pc' := 4) (L' := #[.val (.ref t), .unset]) (S' := [(.ref b2)]) st2 ?_
  refine Go.st (T' := T2) (pc' := 5) (L' := #[.val (.ref t), .val (.ref b2)]) (S' := []) (fun t_ k_ => XS.astoreN X2.here hx rfl (hb hby d11_4) rfl rfl (l' := #[.val (.ref t), .val (.ref b2)]) rfl k_) ?_
  refine Go.st (T' := T2) (pc' := 6) (L' := #[.val (.ref t), .val (.ref b2)]) (S' := [(.ref t)]) (fun t_ k_ => XS.aloadN X2.here hx rfl (hb hby d11_5) rfl rfl  k_) ?_
  refine Go.st (T' := T2) (pc' := 7) (L' := #[.val (.ref t), .val (.ref b2)]) (S' := [(.int (0 : Int32)), (.ref t)]) (fun t_ k_ => XS.iconst X2.here hx rfl (hb hby d11_6) k_) ?_
  refine Go.st (T' := T2) (pc' := 8) (L' := #[.val (.ref t), .val (.ref b2)]) (S' := [(.ref b2), (.int (0 : Int32)), (.ref t)]) (fun t_ k_ => XS.aloadN X2.here hx rfl (hb hby d11_7) rfl rfl  k_) ?_
  refine Go.st (T' := T2) (pc' := 9) (L' := #[.val (.ref t), .val (.ref b2)]) (S' := [(.int (0 : Int32)), (.ref b2), (.int (0 : Int32)), (.ref t)]) (fun t_ k_ => XS.iconst X2.here hx rfl (hb hby d11_8) k_) ?_
  refine Go.st (T' := T2) (pc' := 10) (L' := #[.val (.ref t), .val (.ref b2)]) (S' := [(.ref t), (.int (0 : Int32)), (.ref b2), (.int (0 : Int32)), (.ref t)]) (fun t_ k_ => XS.aloadN X2.here hx rfl (hb hby d11_9) rfl rfl  k_) ?_
  obtain ⟨cl3, Ar3, -, q3a, q3b, -, -⟩ := id V_t
  refine Go.st (T' := T2) (pc' := 11) (L' := #[.val (.ref t), .val (.ref b2)]) (S' := [(.int (2 : Int32)), (.int (0 : Int32)), (.ref b2), (.int (0 : Int32)), (.ref t)]) (fun t_ k_ => own_len X2 hx hZ e2 Ar3 q3a q3b (g := (mkF m 10 #[.val (.ref t), .val (.ref b2)] [(.ref t), (.int (0 : Int32)), (.ref b2), (.int (0 : Int32)), (.ref t)])) rfl rfl (hb hby d11_10) t_ k_) ?_
  obtain ⟨_, _, ⟨T4, L4, k4, n4⟩, -, X4, ⟨Lc4, hQ4, l4, y4, z4⟩, st4⟩ := Jvm.LawKit.callS X2 hx (y := (⟨"java/lang/StringLatin1", "inflate", "([BI[CII)V"⟩ : MethodName)) hown (mvT hZ (hw _ (List.mem_of_getElem? (i := 53) rfl))) (mvT hZ (hw _ (List.mem_of_getElem? (i := 54) rfl))) (mvT hZ (hw _ (List.mem_of_getElem? (i := 51) rfl))) (mvT hZ (hw _ (List.mem_of_getElem? (i := 55) rfl))) (by decide) (backOf (W := 0) (rminf2 l Z a0 hw [] t b2 _ _ q0 q1 h2 n0 Z0 V_t V_b2 ne_t_b2 g_b2 hq0 hq1) hZ (hw _ (List.mem_of_getElem? (i := 55) rfl)) (hw _ (List.mem_of_getElem? (i := 51) rfl)) (by decide) (by decide)) (g := (mkF m 11 #[.val (.ref t), .val (.ref b2)] [(.int (2 : Int32)), (.int (0 : Int32)), (.ref b2), (.int (0 : Int32)), (.ref t)])) rfl (by rw [hml]; rfl) (argsL := [(.ref t), (.int (0 : Int32)), (.ref b2), (.int (0 : Int32)), (.int (2 : Int32))]) (rest := []) (lenOf pd_1 rfl) rfl (by show 2 * 0 + _ ≤ _; exact Nat.le_of_eq rfl) (hb hby d11_11) (fun _ _ => ⟨rfl, e2, (by decide : 1 + 0 ≤ _), (by decide : 2 + 0 ≤ _)⟩)
  dsimp only [Pt.U, Pt.locs, Pt.cells, Pt.slots] at X4 l4 y4 z4 st4 hQ4
  subst l4 y4 z4
  obtain ⟨rfl, N4q, K4, Vy4⟩ := hQ4
  have N4 := Fr.app N0 N4q
  obtain ⟨h4, e4⟩ : ∃ z, T4.heap = z := ⟨_, rfl⟩
  rw [e4] at K4 Vy4
  replace Z0 := Nat.le_trans Z0 K4.1
  replace K0 := K0.trans K4 (allS (Or.inr sz_b2) all0)
  replace V_t := V_t.keep K4 (ninS ne_t_b2 nin0)
  refine Go.st (T' := T4) (pc' := 14) (L' := #[.val (.ref t), .val (.ref b2)]) (S' := []) st4 ?_
  refine Go.st (T' := T4) (pc' := 15) (L' := #[.val (.ref t), .val (.ref b2)]) (S' := [(.ref b2)]) (fun t_ k_ => XS.aloadN X4.here hx rfl (hb hby d11_14) rfl rfl  k_) ?_
  exact Go.retO X4 hx hlk hret rfl (by simp [FieldType.isReference, Value.isRef]) (hb hby d11_15) (by decide) (by decide) (by rw [e4]; exact ⟨b2, _, rfl, N4, K0, g_b2, sz_b2, Vy4⟩)

def Qtca2 (Z : State) (q0 : Nat) (q1 : Nat) (h0 : Heap) (n0 : Nat) (v : Option Value) (h : Heap) (L : List Loc) : Prop := ∃ (y : Addr) (ky : ClassId), v = some (.ref y) ∧ Fr n0 L ∧ Keep h0 h [] ∧ n0 ≤ y ∧ h0.size ≤ y ∧ Arv Z h y ky .char (2 : Int32) [(.int (q0.toInt32)), (.int (q1.toInt32))] (.int (0 : Int32))
def roomtca2 : Room := { frames := 2, cells := 1, slots := 2, locals := 30 }
set_option maxRecDepth 65536 in
set_option maxHeartbeats 40000000 in
theorem rmtca2 (l : Launch) (Z : State) (a0 : Array Value) (hw : ∀ d ∈ tables_1, d.before a0 Z = true) (ws : List Jvm.Cond) (a1 : Addr) (t : Addr) (kt : ClassId) (gC : Int32) (q0 : Nat) (q1 : Nat) (h0 : Heap) (n0 : Nat) (Z0 : n0 ≤ h0.size) (SC : Sta Z Z.heap "java/lang/String" "COMPACT_STRINGS" "Z" (.int gC)) (PC : ¬ (gC = (0 : Int32))) (O0 : Old Z n0 h0) (E_a1 : Exa Z h0 a1 "java/lang/String") (F_coder : Fld Z h0 a1 "java/lang/String" "coder" "B" (.int (0 : Int32))) (F_value : Fld Z h0 a1 "java/lang/String" "value" "[B" (.ref t)) (V_t : Arv Z h0 t kt .byte (2 : Int32) [(.int ((nar .char (q0.toInt32)).toInt8.toInt32)), (.int ((nar .char (q1.toInt32)).toInt8.toInt32))] (.int (0 : Int32)))  (hq0 : q0 < 128) (hq1 : q1 < 128) :
    MetFree l (⟨"java/lang/String", "toCharArray", "()[C"⟩ : MethodName) (head1 (Jvm.Cond.code (⟨"java/lang/String", "toCharArray", "()[C"⟩ : MethodName) jdk_42_method_129_code 1 (some (.array .char)) :: ws) roomtca2) (fun aa_ U_ => aa_ = #[(.ref a1)] ∧ Z.Warmed39 U_.vm ∧ U_.heap = h0) (fun _ _ _ _ _ => True) (fun _ U_ o_ W_ => ∃ v_ L_, o_ = .returned v_ ∧ (Qtca2 Z q0 q1 h0 n0) v_ W_.heap L_ ∧ FrameEnd U_ o_ W_ L_ roomtca2.cells roomtca2.slots) := by
  refine own_met (Q := (Qtca2 Z q0 q1 h0 n0)) (L0 := #[.val (.ref a1)]) (plainFor_of_name pn_0) (fun m => by first | (simp [entryFrame, mkF, argsToLocals, Value.category]; done) | rfl) ?_
  intro p e s m below meth c T0 X0 hx hby hml hown hnm hret hlk hZ e0
  have N0 := Fr.nil n0
  have K0 := Keep.refl h0 []
  refine Go.st (T' := T0) (pc' := 1) (L' := #[.val (.ref a1)]) (S' := [(.ref a1)]) (fun t_ k_ => XS.aloadN X0.here hx rfl (hb hby d9_0) rfl rfl  k_) ?_
  obtain ⟨cq1, kq1, q1a, q1b, q1c⟩ := isOf hZ e0 E_a1
  obtain ⟨_, _, ⟨T1, L1, k1, n1⟩, -, X1, ⟨Lc1, hQ1, l1, y1, z1⟩, st1⟩ := X0.virtualBack hx (y := (⟨"java/lang/String", "isLatin1", "()Z"⟩ : MethodName)) (z := (⟨"java/lang/String", "isLatin1", "()Z"⟩ : MethodName)) hown (mvT hZ (hw _ (List.mem_of_getElem? (i := 44) rfl))) (mvT hZ (hw _ (List.mem_of_getElem? (i := 45) rfl))) (notFace_of_selects (args := #[]) (mvT hZ (hw _ (List.mem_of_getElem? (i := 47) rfl)))) (mvT hZ (hw _ (List.mem_of_getElem? (i := 47) rfl))) (mvT hZ (hw _ (List.mem_of_getElem? (i := 46) rfl))) (by decide) (backOf (W := 0) (rm10 l Z a0 hw [] a1 gC h0 n0 Z0 SC PC O0 F_coder) hZ (hw _ (List.mem_of_getElem? (i := 48) rfl)) (hw _ (List.mem_of_getElem? (i := 6) rfl)) (by decide) (by decide)) q1a q1c (g := (mkF m 1 #[.val (.ref a1)] [(.ref a1)])) rfl (by rw [hml]; rfl) (Steps.refl _) (argsL := []) (rest := []) (lenOf pd_2 rfl) rfl (by show 2 * 0 + _ ≤ _; exact Nat.le_of_eq rfl) (hb hby d9_1) (fun _ _ => ⟨rfl, e0, (by decide : 0 + 0 ≤ _), (by decide : 0 + 0 ≤ _)⟩)
  dsimp only [Pt.U, Pt.locs, Pt.cells, Pt.slots] at X1 l1 y1 z1 st1 hQ1
  subst l1 y1 z1
  obtain ⟨rfl, N1q, e1⟩ := hQ1
  have N1 := Fr.app N0 N1q
  refine Go.tr (T' := T1) (pc' := 4) (L' := #[.val (.ref a1)]) (S' := [(.int (1 : Int32))]) st1 ?_
  refine Go.st (T' := T1) (pc' := 7) (L' := #[.val (.ref a1)]) (S' := []) (fun t_ k_ => XS.ifNo X1.here hx rfl (hb hby d9_4) rfl ((if0 _ _).trans (feq (by decide : ¬ ((1 : Int32) = (0 : Int32)))).1) k_) ?_
  refine Go.st (T' := T1) (pc' := 8) (L' := #[.val (.ref a1)]) (S' := [(.ref a1)]) (fun t_ k_ => XS.aloadN X1.here hx rfl (hb hby d9_7) rfl rfl  k_) ?_
  obtain ⟨T2, X2, e2, st2⟩ := getF X1 hx hZ hown (host := "") (Or.inl (hw _ (List.mem_of_getElem? (i := 32) rfl))) Via.refl e1 F_value (g := (mkF m 8 #[.val (.ref a1)] [(.ref a1)])) rfl rfl (hb hby d9_8)
  refine Go.st (T' := T2) (pc' := 11) (L' := #[.val (.ref a1)]) (S' := [(.ref t)]) st2 ?_
  obtain ⟨_, _, ⟨T3, L3, k3, n3⟩, -, X3, ⟨Lc3, hQ3, l3, y3, z3⟩, st3⟩ := Jvm.LawKit.callS X2 hx (y := (⟨"java/lang/StringLatin1", "toChars", "([B)[C"⟩ : MethodName)) hown (mvT hZ (hw _ (List.mem_of_getElem? (i := 49) rfl))) (mvT hZ (hw _ (List.mem_of_getElem? (i := 50) rfl))) (mvT hZ (hw _ (List.mem_of_getElem? (i := 51) rfl))) (mvT hZ (hw _ (List.mem_of_getElem? (i := 52) rfl))) (by decide) (backOf (W := 0) (rmtch2 l Z a0 hw [] t _ q0 q1 h0 n0 Z0 V_t hq0 hq1) hZ (hw _ (List.mem_of_getElem? (i := 52) rfl)) (hw _ (List.mem_of_getElem? (i := 51) rfl)) (by decide) (by decide)) (g := (mkF m 11 #[.val (.ref a1)] [(.ref t)])) rfl (by rw [hml]; rfl) (argsL := [(.ref t)]) (rest := []) (lenOf pd_3 rfl) rfl (by show 2 * 0 + _ ≤ _; exact Nat.le_of_eq rfl) (hb hby d9_11) (fun _ _ => ⟨rfl, e2, (by decide : 0 + 1 ≤ _), (by decide : 0 + 2 ≤ _)⟩)
  dsimp only [Pt.U, Pt.locs, Pt.cells, Pt.slots] at X3 l3 y3 z3 st3 hQ3
  subst l3 y3 z3
  obtain ⟨y3, ky3, rfl, N3q, K3, g_y3, lt3, Vy3⟩ := hQ3
  have N3 := Fr.app N1 N3q
  have ne_a1_y3 : a1 ≠ y3 := Nat.ne_of_lt (Nat.lt_of_lt_of_le E_a1.lt lt3)
  have ne_t_y3 : t ≠ y3 := Nat.ne_of_lt (Nat.lt_of_lt_of_le V_t.lt lt3)
  have sz_y3 : h0.size ≤ y3 := Nat.le_trans K0.1 lt3
  obtain ⟨h3, e3⟩ : ∃ z, T3.heap = z := ⟨_, rfl⟩
  rw [e3] at K3 Vy3
  replace Z0 := Nat.le_trans Z0 K3.1
  replace O0 := O0.keep K3 all0
  replace E_a1 := E_a1.keep K3
  replace F_coder := F_coder.keep K3 nin0
  replace F_value := F_value.keep K3 nin0
  replace V_t := V_t.keep K3 nin0
  replace K0 := K0.trans K3 all0
  refine Go.st (T' := T3) (pc' := 14) (L' := #[.val (.ref a1)]) (S' := [(.ref y3)]) st3 ?_
  refine Go.st (T' := T3) (pc' := 24) (L' := #[.val (.ref a1)]) (S' := [(.ref y3)]) (fun t_ k_ => XS.goto X3.here hx rfl (pc0 := 14) (pc' := 24) rfl (hb hby d9_14) (by decide) (by decide) k_) ?_
  exact Go.retO X3 hx hlk hret rfl (by simp [FieldType.isReference, Value.isRef]) (hb hby d9_24) (by decide) (by decide) (by rw [e3]; exact ⟨y3, _, rfl, N3, K0, g_y3, sz_y3, Vy3⟩)
def Qcsa2 (Z : State) (q0 : Nat) (q1 : Nat) (h0 : Heap) (n0 : Nat) (v : Option Value) (h : Heap) (L : List Loc) : Prop := ∃ (b : Addr) (kb : ClassId) (M : List Int32), v = some (.ref b) ∧ Fr n0 L ∧ Keep h0 h [] ∧ Arv Z h b kb .boolean (128 : Int32) (M.map Value.int) (.int 0) ∧ ∀ j, j < 128 → M.getD j 0 = if j < 33 ∨ j = q0 ∨ j = q1 then 1 else 0
theorem own_fin2 {M : List Int32} {q0 : Nat} {q1 : Nat} (hM : ∀ j, j < 128 → M.getD j 0 = if j < 33 then 1 else 0) (lM : M.length = 128) (hq0 : q0 < 128) (hq1 : q1 < 128) {j : Nat} (hj : j < 128) : (((M.set q0 (nar .boolean (1 : Int32))).set q1 (nar .boolean (1 : Int32)))).getD j 0 = if j < 33 ∨ j = q0 ∨ j = q1 then 1 else 0 := by
  rw [own_set1 (by first | exact lM | (simp only [List.length_set]; exact lM)) hq1 hj]
  rw [own_set1 (by first | exact lM | (simp only [List.length_set]; exact lM)) hq0 hj]
  rw [hM j hj]
  by_cases h33 : j < 33 <;> by_cases e0 : j = q0 <;> by_cases e1 : j = q1 <;> simp [h33, e0, e1]

def roomcsa2 : Room := { frames := 3, cells := 2, slots := 130, locals := 42 }
set_option maxRecDepth 65536 in
set_option maxHeartbeats 40000000 in
theorem seg24_2 {p : Program} {l : Launch} {e : Env} {s : State} {m : MethodId} {args : Array Value} {below : List Frame} {meth : Method} {c : Code} {T0 : State} {locs : List Loc} {Z : State} {a0 : Array Value} {n0 : Nat} {h0 hh : Heap} (a1 : Addr) (t : Addr) (kt : ClassId) (gC : Int32) (q0 : Nat) (q1 : Nat) (b : Addr) (kb : ClassId) (M : List Int32)
    (X0 : Stand p l e roomcsa2 s m args below meth c T0 locs 1 128) (hx : p.tables.exec = Jvm.exec) (hZ : Z.Warmed39 s.vm) (hw : ∀ d ∈ tables_1, d.before a0 Z = true) (hby : c.code = prog_43_method_2_code) (hml : c.maxLocals = 6) (hown : s.vm.findClass "com/example/traversal/traversal/graph/Iris" = some m.cls) (hnm : meth.name = "controlsSpaceAnd") (hret : meth.sig.returnType = (some (.array .boolean))) (hlk : meth.locks = false) (e0 : T0.heap = hh) (N0 : Fr n0 locs) (SC : Sta Z Z.heap "java/lang/String" "COMPACT_STRINGS" "Z" (.int gC)) (PC : ¬ (gC = (0 : Int32))) (O0 : Old Z n0 hh) (Z0 : n0 ≤ hh.size) (E_a1 : Exa Z hh a1 "java/lang/String") (F_coder : Fld Z hh a1 "java/lang/String" "coder" "B" (.int (0 : Int32))) (F_value : Fld Z hh a1 "java/lang/String" "value" "[B" (.ref t)) (V_t : Arv Z hh t kt .byte (2 : Int32) [(.int ((nar .char (q0.toInt32)).toInt8.toInt32)), (.int ((nar .char (q1.toInt32)).toInt8.toInt32))] (.int (0 : Int32)))  (hq0 : q0 < 128) (hq1 : q1 < 128) (V_b : Arv Z hh b kb .boolean (128 : Int32) (M.map Value.int) (.int 0)) (lM : M.length = 128) (g_b : n0 ≤ b) (nab : a1 ≠ b) (ntb : t ≠ b) (sz_b : h0.size ≤ b) (K0 : Keep h0 hh []) (hM : ∀ j, j < 128 → M.getD j 0 = if j < 33 then 1 else 0) :
    Go p e below s roomcsa2.cells roomcsa2.slots (Qcsa2 Z q0 q1 h0 n0) m T0 24 #[.val (.ref a1), .val (.ref b), .val (.int (Nat.toInt32 33)), .unset, .unset, .unset] [] := by
  refine Go.st (T' := T0) (pc' := 25) (L' := #[.val (.ref a1), .val (.ref b), .val (.int (Nat.toInt32 33)), .unset, .unset, .unset]) (S' := [(.ref a1)]) (fun t_ k_ => XS.aloadN X0.here hx rfl (hb hby d8_24) rfl rfl  k_) ?_
  obtain ⟨cq1, kq1, q1a, q1b, q1c⟩ := isOf hZ e0 E_a1
  obtain ⟨_, _, ⟨T1, L1, k1, n1⟩, -, X1, ⟨Lc1, hQ1, l1, y1, z1⟩, st1⟩ := X0.virtualBack hx (y := (⟨"java/lang/String", "toCharArray", "()[C"⟩ : MethodName)) (z := (⟨"java/lang/String", "toCharArray", "()[C"⟩ : MethodName)) hown (mvT hZ (hw _ (List.mem_of_getElem? (i := 39) rfl))) (mvT hZ (hw _ (List.mem_of_getElem? (i := 40) rfl))) (notFace_of_selects (args := #[]) (mvT hZ (hw _ (List.mem_of_getElem? (i := 42) rfl)))) (mvT hZ (hw _ (List.mem_of_getElem? (i := 42) rfl))) (mvT hZ (hw _ (List.mem_of_getElem? (i := 41) rfl))) (by decide) (backOf (W := 0) (rmtca2 l Z a0 hw [] a1 t _ gC q0 q1 hh n0 Z0 SC PC O0 E_a1 F_coder F_value V_t hq0 hq1) hZ (hw _ (List.mem_of_getElem? (i := 43) rfl)) (hw _ (List.mem_of_getElem? (i := 6) rfl)) (by decide) (by decide)) q1a q1c (g := (mkF m 25 #[.val (.ref a1), .val (.ref b), .val (.int (Nat.toInt32 33)), .unset, .unset, .unset] [(.ref a1)])) rfl (by rw [hml]; rfl) (Steps.refl _) (argsL := []) (rest := []) (lenOf pd_4 rfl) rfl (by show 2 * 0 + _ ≤ _; exact Nat.le_of_eq rfl) (hb hby d8_25) (fun _ _ => ⟨rfl, e0, (by decide : 1 + 1 ≤ _), (by decide : 128 + 2 ≤ _)⟩)
  dsimp only [Pt.U, Pt.locs, Pt.cells, Pt.slots] at X1 l1 y1 z1 st1 hQ1
  subst l1 y1 z1
  obtain ⟨y1, ky1, rfl, N1q, K1, g_y1, lt1, Vy1⟩ := hQ1
  have N1 := Fr.app N0 N1q
  have ne_a1_y1 : a1 ≠ y1 := Nat.ne_of_lt (Nat.lt_of_lt_of_le E_a1.lt lt1)
  have ne_t_y1 : t ≠ y1 := Nat.ne_of_lt (Nat.lt_of_lt_of_le V_t.lt lt1)
  have ne_b_y1 : b ≠ y1 := Nat.ne_of_lt (Nat.lt_of_lt_of_le V_b.lt lt1)
  have sz_y1 : h0.size ≤ y1 := Nat.le_trans K0.1 lt1
  obtain ⟨h1, e1⟩ : ∃ z, T1.heap = z := ⟨_, rfl⟩
  rw [e1] at K1 Vy1
  replace Z0 := Nat.le_trans Z0 K1.1
  replace O0 := O0.keep K1 all0
  replace E_a1 := E_a1.keep K1
  replace F_coder := F_coder.keep K1 nin0
  replace F_value := F_value.keep K1 nin0
  replace V_t := V_t.keep K1 nin0
  replace K0 := K0.trans K1 all0
  replace V_b := V_b.keep K1 nin0
  refine Go.tr (T' := T1) (pc' := 28) (L' := #[.val (.ref a1), .val (.ref b), .val (.int (Nat.toInt32 33)), .unset, .unset, .unset]) (S' := [(.ref y1)]) st1 ?_
  refine Go.st (T' := T1) (pc' := 29) (L' := #[.val (.ref a1), .val (.ref b), .val (.ref y1), .unset, .unset, .unset]) (S' := []) (fun t_ k_ => XS.astoreN X1.here hx rfl (hb hby d8_28) rfl rfl (l' := #[.val (.ref a1), .val (.ref b), .val (.ref y1), .unset, .unset, .unset]) rfl k_) ?_
  refine Go.st (T' := T1) (pc' := 30) (L' := #[.val (.ref a1), .val (.ref b), .val (.ref y1), .unset, .unset, .unset]) (S' := [(.ref y1)]) (fun t_ k_ => XS.aloadN X1.here hx rfl (hb hby d8_29) rfl rfl  k_) ?_
  obtain ⟨cl2, Ar2, -, q2a, q2b, -, -⟩ := id Vy1
  refine Go.st (T' := T1) (pc' := 31) (L' := #[.val (.ref a1), .val (.ref b), .val (.ref y1), .unset, .unset, .unset]) (S' := [(.int (2 : Int32))]) (fun t_ k_ => own_len X1 hx hZ e1 Ar2 q2a q2b (g := (mkF m 30 #[.val (.ref a1), .val (.ref b), .val (.ref y1), .unset, .unset, .unset] [(.ref y1)])) rfl rfl (hb hby d8_30) t_ k_) ?_
  refine Go.st (T' := T1) (pc' := 32) (L' := #[.val (.ref a1), .val (.ref b), .val (.ref y1), .val (.int (2 : Int32)), .unset, .unset]) (S' := []) (fun t_ k_ => XS.istoreN X1.here hx rfl (hb hby d8_31) rfl (l' := #[.val (.ref a1), .val (.ref b), .val (.ref y1), .val (.int (2 : Int32)), .unset, .unset]) rfl k_) ?_
  refine Go.st (T' := T1) (pc' := 33) (L' := #[.val (.ref a1), .val (.ref b), .val (.ref y1), .val (.int (2 : Int32)), .unset, .unset]) (S' := [(.int (0 : Int32))]) (fun t_ k_ => XS.iconst X1.here hx rfl (hb hby d8_32) k_) ?_
  refine Go.st (T' := T1) (pc' := 35) (L' := #[.val (.ref a1), .val (.ref b), .val (.ref y1), .val (.int (2 : Int32)), .val (.int (0 : Int32)), .unset]) (S' := []) (fun t_ k_ => XS.istore X1.here hx rfl (hb hby d8_33) rfl (l' := #[.val (.ref a1), .val (.ref b), .val (.ref y1), .val (.int (2 : Int32)), .val (.int (0 : Int32)), .unset]) rfl k_) ?_
  refine Go.st (T' := T1) (pc' := 37) (L' := #[.val (.ref a1), .val (.ref b), .val (.ref y1), .val (.int (2 : Int32)), .val (.int (0 : Int32)), .unset]) (S' := [(.int (0 : Int32))]) (fun t_ k_ => XS.iload X1.here hx rfl (hb hby d8_35) rfl  k_) ?_
  refine Go.st (T' := T1) (pc' := 38) (L' := #[.val (.ref a1), .val (.ref b), .val (.ref y1), .val (.int (2 : Int32)), .val (.int (0 : Int32)), .unset]) (S' := [(.int (2 : Int32)), (.int (0 : Int32))]) (fun t_ k_ => XS.iloadN X1.here hx rfl (hb hby d8_37) rfl  k_) ?_
  refine Go.st (T' := T1) (pc' := 41) (L' := #[.val (.ref a1), .val (.ref b), .val (.ref y1), .val (.int (2 : Int32)), .val (.int (0 : Int32)), .unset]) (S' := []) (fun t_ k_ => XS.icmpNo X1.here hx rfl (hb hby d8_38) rfl (tlt (by decide : ((0 : Int32) < (2 : Int32)))).2.1 k_) ?_
  refine Go.st (T' := T1) (pc' := 42) (L' := #[.val (.ref a1), .val (.ref b), .val (.ref y1), .val (.int (2 : Int32)), .val (.int (0 : Int32)), .unset]) (S' := [(.ref y1)]) (fun t_ k_ => XS.aloadN X1.here hx rfl (hb hby d8_41) rfl rfl  k_) ?_
  refine Go.st (T' := T1) (pc' := 44) (L' := #[.val (.ref a1), .val (.ref b), .val (.ref y1), .val (.int (2 : Int32)), .val (.int (0 : Int32)), .unset]) (S' := [(.int (0 : Int32)), (.ref y1)]) (fun t_ k_ => XS.iload X1.here hx rfl (hb hby d8_42) rfl  k_) ?_
  obtain ⟨cl3, Ar3, -, q3a, q3b, q3c, q3d⟩ := id Vy1
  refine Go.st (T' := T1) (pc' := 45) (L' := #[.val (.ref a1), .val (.ref b), .val (.ref y1), .val (.int (2 : Int32)), .val (.int (0 : Int32)), .unset]) (S' := [(.int (q0.toInt32))]) (fun t_ k_ => X1.caload hx (j := (0 : Int32)) (v := (.int (q0.toInt32))) (by rw [e1]; exact Ar3.1) (State.isArrayOf_alike hZ.alike Ar3.2.1) Ar3.2.2 (inb_of q3a ⟨by decide, by decide⟩) (q3c.at (inb_of q3a ⟨by decide, by decide⟩) rfl) (g := (mkF m 44 #[.val (.ref a1), .val (.ref b), .val (.ref y1), .val (.int (2 : Int32)), .val (.int (0 : Int32)), .unset] [(.int (0 : Int32)), (.ref y1)])) rfl rfl (hb hby d8_44) t_ k_) ?_
  refine Go.st (T' := T1) (pc' := 47) (L' := #[.val (.ref a1), .val (.ref b), .val (.ref y1), .val (.int (2 : Int32)), .val (.int (0 : Int32)), .val (.int (q0.toInt32))]) (S' := []) (fun t_ k_ => XS.istore X1.here hx rfl (hb hby d8_45) rfl (l' := #[.val (.ref a1), .val (.ref b), .val (.ref y1), .val (.int (2 : Int32)), .val (.int (0 : Int32)), .val (.int (q0.toInt32))]) rfl k_) ?_
  refine Go.st (T' := T1) (pc' := 48) (L' := #[.val (.ref a1), .val (.ref b), .val (.ref y1), .val (.int (2 : Int32)), .val (.int (0 : Int32)), .val (.int (q0.toInt32))]) (S' := [(.ref b)]) (fun t_ k_ => XS.aloadN X1.here hx rfl (hb hby d8_47) rfl rfl  k_) ?_
  refine Go.st (T' := T1) (pc' := 50) (L' := #[.val (.ref a1), .val (.ref b), .val (.ref y1), .val (.int (2 : Int32)), .val (.int (0 : Int32)), .val (.int (q0.toInt32))]) (S' := [(.int (q0.toInt32)), (.ref b)]) (fun t_ k_ => XS.iload X1.here hx rfl (hb hby d8_48) rfl  k_) ?_
  refine Go.st (T' := T1) (pc' := 51) (L' := #[.val (.ref a1), .val (.ref b), .val (.ref y1), .val (.int (2 : Int32)), .val (.int (0 : Int32)), .val (.int (q0.toInt32))]) (S' := [(.int (1 : Int32)), (.int (q0.toInt32)), (.ref b)]) (fun t_ k_ => XS.iconst X1.here hx rfl (hb hby d8_50) k_) ?_
  obtain ⟨cl4, Ar4, q41, q42, q43, q44, q45⟩ := V_b
  obtain ⟨T4, h4, X4, e4, W4, st4⟩ := stZ X1 hx hZ e1 Ar4 (j := (q0.toInt32)) (own_inb q42 (N := 128) (by decide) (by omega) (by decide)) (g := (mkF m 51 #[.val (.ref a1), .val (.ref b), .val (.ref y1), .val (.int (2 : Int32)), .val (.int (0 : Int32)), .val (.int (q0.toInt32))] [(.int (1 : Int32)), (.int (q0.toInt32)), (.ref b)])) rfl rfl (hb hby d8_51)
  replace V_b := Arv.set Ar4 q41 q42 q43 q44 q45 (fits_nar_bool _) W4 (q0) (own_tn (by omega)) (by rw [List.length_map, show List.length M = 128 from lM]; omega)
  rw [own_setI] at V_b
  replace Z0 := Nat.le_trans Z0 (Keep.of_wr W4).1
  replace O0 := O0.wr W4 g_b
  replace E_a1 := E_a1.wr W4
  replace F_coder := F_coder.other W4 (Or.inl nab)
  replace F_value := F_value.other W4 (Or.inl nab)
  replace V_t := V_t.other W4 ntb
  replace K0 := K0.wr W4 (Or.inr sz_b)
  replace Vy1 := Vy1.other W4 (Ne.symm ne_b_y1)
  have N4 := Fr.snoc X4 N1 g_b
  refine Go.st (T' := T4) (pc' := 52) (L' := #[.val (.ref a1), .val (.ref b), .val (.ref y1), .val (.int (2 : Int32)), .val (.int (0 : Int32)), .val (.int (q0.toInt32))]) (S' := []) st4 ?_
  refine Go.st (T' := T4) (pc' := 55) (L' := #[.val (.ref a1), .val (.ref b), .val (.ref y1), .val (.int (2 : Int32)), .val (.int ((0 : Int32) + (1 : Int32))), .val (.int (q0.toInt32))]) (S' := []) (fun t_ k_ => XS.iinc X4.here hx rfl (hb hby d8_52) rfl (l' := #[.val (.ref a1), .val (.ref b), .val (.ref y1), .val (.int (2 : Int32)), .val (.int ((0 : Int32) + (1 : Int32))), .val (.int (q0.toInt32))]) rfl k_) ?_
  rw [show ((0 : Int32) + (1 : Int32)) = (1 : Int32) from by decide]
  refine Go.st (T' := T4) (pc' := 35) (L' := #[.val (.ref a1), .val (.ref b), .val (.ref y1), .val (.int (2 : Int32)), .val (.int (1 : Int32)), .val (.int (q0.toInt32))]) (S' := []) (fun t_ k_ => XS.goto X4.here hx rfl (pc0 := 55) (pc' := 35) rfl (hb hby d8_55) (by decide) (by decide) k_) ?_
  refine Go.st (T' := T4) (pc' := 37) (L' := #[.val (.ref a1), .val (.ref b), .val (.ref y1), .val (.int (2 : Int32)), .val (.int (1 : Int32)), .val (.int (q0.toInt32))]) (S' := [(.int (1 : Int32))]) (fun t_ k_ => XS.iload X4.here hx rfl (hb hby d8_35) rfl  k_) ?_
  refine Go.st (T' := T4) (pc' := 38) (L' := #[.val (.ref a1), .val (.ref b), .val (.ref y1), .val (.int (2 : Int32)), .val (.int (1 : Int32)), .val (.int (q0.toInt32))]) (S' := [(.int (2 : Int32)), (.int (1 : Int32))]) (fun t_ k_ => XS.iloadN X4.here hx rfl (hb hby d8_37) rfl  k_) ?_
  refine Go.st (T' := T4) (pc' := 41) (L' := #[.val (.ref a1), .val (.ref b), .val (.ref y1), .val (.int (2 : Int32)), .val (.int (1 : Int32)), .val (.int (q0.toInt32))]) (S' := []) (fun t_ k_ => XS.icmpNo X4.here hx rfl (hb hby d8_38) rfl (tlt (by decide : ((1 : Int32) < (2 : Int32)))).2.1 k_) ?_
  refine Go.st (T' := T4) (pc' := 42) (L' := #[.val (.ref a1), .val (.ref b), .val (.ref y1), .val (.int (2 : Int32)), .val (.int (1 : Int32)), .val (.int (q0.toInt32))]) (S' := [(.ref y1)]) (fun t_ k_ => XS.aloadN X4.here hx rfl (hb hby d8_41) rfl rfl  k_) ?_
  refine Go.st (T' := T4) (pc' := 44) (L' := #[.val (.ref a1), .val (.ref b), .val (.ref y1), .val (.int (2 : Int32)), .val (.int (1 : Int32)), .val (.int (q0.toInt32))]) (S' := [(.int (1 : Int32)), (.ref y1)]) (fun t_ k_ => XS.iload X4.here hx rfl (hb hby d8_42) rfl  k_) ?_
  obtain ⟨cl5, Ar5, -, q5a, q5b, q5c, q5d⟩ := id Vy1
  refine Go.st (T' := T4) (pc' := 45) (L' := #[.val (.ref a1), .val (.ref b), .val (.ref y1), .val (.int (2 : Int32)), .val (.int (1 : Int32)), .val (.int (q0.toInt32))]) (S' := [(.int (q1.toInt32))]) (fun t_ k_ => X4.caload hx (j := (1 : Int32)) (v := (.int (q1.toInt32))) (by rw [e4]; exact Ar5.1) (State.isArrayOf_alike hZ.alike Ar5.2.1) Ar5.2.2 (inb_of q5a ⟨by decide, by decide⟩) (q5c.at (inb_of q5a ⟨by decide, by decide⟩) rfl) (g := (mkF m 44 #[.val (.ref a1), .val (.ref b), .val (.ref y1), .val (.int (2 : Int32)), .val (.int (1 : Int32)), .val (.int (q0.toInt32))] [(.int (1 : Int32)), (.ref y1)])) rfl rfl (hb hby d8_44) t_ k_) ?_
  refine Go.st (T' := T4) (pc' := 47) (L' := #[.val (.ref a1), .val (.ref b), .val (.ref y1), .val (.int (2 : Int32)), .val (.int (1 : Int32)), .val (.int (q1.toInt32))]) (S' := []) (fun t_ k_ => XS.istore X4.here hx rfl (hb hby d8_45) rfl (l' := #[.val (.ref a1), .val (.ref b), .val (.ref y1), .val (.int (2 : Int32)), .val (.int (1 : Int32)), .val (.int (q1.toInt32))]) rfl k_) ?_
  refine Go.st (T' := T4) (pc' := 48) (L' := #[.val (.ref a1), .val (.ref b), .val (.ref y1), .val (.int (2 : Int32)), .val (.int (1 : Int32)), .val (.int (q1.toInt32))]) (S' := [(.ref b)]) (fun t_ k_ => XS.aloadN X4.here hx rfl (hb hby d8_47) rfl rfl  k_) ?_
  refine Go.st (T' := T4) (pc' := 50) (L' := #[.val (.ref a1), .val (.ref b), .val (.ref y1), .val (.int (2 : Int32)), .val (.int (1 : Int32)), .val (.int (q1.toInt32))]) (S' := [(.int (q1.toInt32)), (.ref b)]) (fun t_ k_ => XS.iload X4.here hx rfl (hb hby d8_48) rfl  k_) ?_
  refine Go.st (T' := T4) (pc' := 51) (L' := #[.val (.ref a1), .val (.ref b), .val (.ref y1), .val (.int (2 : Int32)), .val (.int (1 : Int32)), .val (.int (q1.toInt32))]) (S' := [(.int (1 : Int32)), (.int (q1.toInt32)), (.ref b)]) (fun t_ k_ => XS.iconst X4.here hx rfl (hb hby d8_50) k_) ?_
  obtain ⟨cl6, Ar6, q61, q62, q63, q64, q65⟩ := V_b
  obtain ⟨T6, h6, X6, e6, W6, st6⟩ := stZ X4 hx hZ e4 Ar6 (j := (q1.toInt32)) (own_inb q62 (N := 128) (by decide) (by omega) (by decide)) (g := (mkF m 51 #[.val (.ref a1), .val (.ref b), .val (.ref y1), .val (.int (2 : Int32)), .val (.int (1 : Int32)), .val (.int (q1.toInt32))] [(.int (1 : Int32)), (.int (q1.toInt32)), (.ref b)])) rfl rfl (hb hby d8_51)
  replace V_b := Arv.set Ar6 q61 q62 q63 q64 q65 (fits_nar_bool _) W6 (q1) (own_tn (by omega)) (by rw [List.length_map, show List.length (M.set (q0) (nar .boolean (1 : Int32))) = 128 from (by rw [List.length_set]; exact lM)]; omega)
  rw [own_setI] at V_b
  replace Z0 := Nat.le_trans Z0 (Keep.of_wr W6).1
  replace O0 := O0.wr W6 g_b
  replace E_a1 := E_a1.wr W6
  replace F_coder := F_coder.other W6 (Or.inl nab)
  replace F_value := F_value.other W6 (Or.inl nab)
  replace V_t := V_t.other W6 ntb
  replace K0 := K0.wr W6 (Or.inr sz_b)
  replace Vy1 := Vy1.other W6 (Ne.symm ne_b_y1)
  have N6 := Fr.snoc X6 N4 g_b
  refine Go.st (T' := T6) (pc' := 52) (L' := #[.val (.ref a1), .val (.ref b), .val (.ref y1), .val (.int (2 : Int32)), .val (.int (1 : Int32)), .val (.int (q1.toInt32))]) (S' := []) st6 ?_
  refine Go.st (T' := T6) (pc' := 55) (L' := #[.val (.ref a1), .val (.ref b), .val (.ref y1), .val (.int (2 : Int32)), .val (.int ((1 : Int32) + (1 : Int32))), .val (.int (q1.toInt32))]) (S' := []) (fun t_ k_ => XS.iinc X6.here hx rfl (hb hby d8_52) rfl (l' := #[.val (.ref a1), .val (.ref b), .val (.ref y1), .val (.int (2 : Int32)), .val (.int ((1 : Int32) + (1 : Int32))), .val (.int (q1.toInt32))]) rfl k_) ?_
  rw [show ((1 : Int32) + (1 : Int32)) = (2 : Int32) from by decide]
  refine Go.st (T' := T6) (pc' := 35) (L' := #[.val (.ref a1), .val (.ref b), .val (.ref y1), .val (.int (2 : Int32)), .val (.int (2 : Int32)), .val (.int (q1.toInt32))]) (S' := []) (fun t_ k_ => XS.goto X6.here hx rfl (pc0 := 55) (pc' := 35) rfl (hb hby d8_55) (by decide) (by decide) k_) ?_
  refine Go.st (T' := T6) (pc' := 37) (L' := #[.val (.ref a1), .val (.ref b), .val (.ref y1), .val (.int (2 : Int32)), .val (.int (2 : Int32)), .val (.int (q1.toInt32))]) (S' := [(.int (2 : Int32))]) (fun t_ k_ => XS.iload X6.here hx rfl (hb hby d8_35) rfl  k_) ?_
  refine Go.st (T' := T6) (pc' := 38) (L' := #[.val (.ref a1), .val (.ref b), .val (.ref y1), .val (.int (2 : Int32)), .val (.int (2 : Int32)), .val (.int (q1.toInt32))]) (S' := [(.int (2 : Int32)), (.int (2 : Int32))]) (fun t_ k_ => XS.iloadN X6.here hx rfl (hb hby d8_37) rfl  k_) ?_
  refine Go.st (T' := T6) (pc' := 58) (L' := #[.val (.ref a1), .val (.ref b), .val (.ref y1), .val (.int (2 : Int32)), .val (.int (2 : Int32)), .val (.int (q1.toInt32))]) (S' := []) (fun t_ k_ => XS.icmpYes X6.here hx rfl (pc0 := 38) (pc' := 58) rfl (hb hby d8_38) rfl (flt (by decide : ¬ ((2 : Int32) < (2 : Int32)))).2.1 (by decide) (by decide) k_) ?_
  refine Go.st (T' := T6) (pc' := 59) (L' := #[.val (.ref a1), .val (.ref b), .val (.ref y1), .val (.int (2 : Int32)), .val (.int (2 : Int32)), .val (.int (q1.toInt32))]) (S' := [(.ref b)]) (fun t_ k_ => XS.aloadN X6.here hx rfl (hb hby d8_58) rfl rfl  k_) ?_
  exact Go.retO X6 hx hlk hret rfl (by simp [FieldType.isReference, Value.isRef]) (hb hby d8_59) (by decide) (by decide) (by rw [e6]; exact ⟨b, _, _, rfl, N6, K0, V_b, fun j hj => own_fin2 hM lM hq0 hq1 hj⟩)
set_option maxRecDepth 65536 in
set_option maxHeartbeats 40000000 in
theorem loop8_2 {p : Program} {l : Launch} {e : Env} {s : State} {m : MethodId} {args : Array Value} {below : List Frame} {meth : Method} {c : Code} {Z : State} {a0 : Array Value} {n0 : Nat} {h0 : Heap} (a1 : Addr) (t : Addr) (kt : ClassId) (gC : Int32) (q0 : Nat) (q1 : Nat) (b : Addr) (kb : ClassId) (hx : p.tables.exec = Jvm.exec) (hZ : Z.Warmed39 s.vm) (hw : ∀ d ∈ tables_1, d.before a0 Z = true) (hby : c.code = prog_43_method_2_code) (hml : c.maxLocals = 6) (hown : s.vm.findClass "com/example/traversal/traversal/graph/Iris" = some m.cls) (hnm : meth.name = "controlsSpaceAnd") (hret : meth.sig.returnType = (some (.array .boolean))) (hlk : meth.locks = false) (SC : Sta Z Z.heap "java/lang/String" "COMPACT_STRINGS" "Z" (.int gC)) (PC : ¬ (gC = (0 : Int32)))  (hq0 : q0 < 128) (hq1 : q1 < 128) (g_b : n0 ≤ b) (nab : a1 ≠ b) (ntb : t ≠ b) (sz_b : h0.size ≤ b) (k : Nat) :
    ∀ (i : Nat) (M : List Int32) (T0 : State) (locs : List Loc) (hh : Heap), i + k = 33 → Stand p l e roomcsa2 s m args below meth c T0 locs 1 128 → T0.heap = hh → Fr n0 locs → Keep h0 hh [] → Old Z n0 hh → n0 ≤ hh.size → Exa Z hh a1 "java/lang/String" → Fld Z hh a1 "java/lang/String" "coder" "B" (.int (0 : Int32)) → Fld Z hh a1 "java/lang/String" "value" "[B" (.ref t) → Arv Z hh t kt .byte (2 : Int32) [(.int ((nar .char (q0.toInt32)).toInt8.toInt32)), (.int ((nar .char (q1.toInt32)).toInt8.toInt32))] (.int (0 : Int32)) → Arv Z hh b kb .boolean (128 : Int32) (M.map Value.int) (.int 0) → M.length = 128 → (∀ j, j < 128 → M.getD j 0 = if j < i then 1 else 0) → Go p e below s roomcsa2.cells roomcsa2.slots (Qcsa2 Z q0 q1 h0 n0) m T0 8 #[.val (.ref a1), .val (.ref b), .val (.int (i.toInt32)), .unset, .unset, .unset] [] := by
  induction k with
  | zero =>
    intro i M T0 locs hh hik X0 e0 N0 K0 O0 Z0 E_a1 F_coder F_value V_t V_b lM hM
    obtain rfl : i = 33 := by omega
    refine Go.st (T' := T0) (pc' := 9) (L' := #[.val (.ref a1), .val (.ref b), .val (.int (Nat.toInt32 33)), .unset, .unset, .unset]) (S' := [(.int (Nat.toInt32 33))]) (fun t_ k_ => XS.iloadN X0.here hx rfl (hb hby d8_8) rfl  k_) ?_
    refine Go.st (T' := T0) (pc' := 11) (L' := #[.val (.ref a1), .val (.ref b), .val (.int (Nat.toInt32 33)), .unset, .unset, .unset]) (S' := [(.int (32 : Int32)), (.int (Nat.toInt32 33))]) (fun t_ k_ => XS.bipush X0.here hx rfl (hb hby d8_9) k_) ?_
    refine Go.st (T' := T0) (pc' := 24) (L' := #[.val (.ref a1), .val (.ref b), .val (.int (Nat.toInt32 33)), .unset, .unset, .unset]) (S' := []) (fun t_ k_ => XS.icmpYes X0.here hx rfl (pc0 := 11) (pc' := 24) rfl (hb hby d8_11) rfl (tlt ((own_ltI (m := 32) (n := 33) (by decide) (by decide)).mpr (by decide) : ((32 : Int32) < (Nat.toInt32 33)))).2.2.1 (by decide) (by decide) k_) ?_
    exact seg24_2 a1 t _ gC q0 q1 b _ M X0 hx hZ hw hby hml hown hnm hret hlk e0 N0 SC PC O0 Z0 E_a1 F_coder F_value V_t hq0 hq1 V_b lM g_b nab ntb sz_b K0 hM
  | succ k ih =>
    intro i M T0 locs hh hik X0 e0 N0 K0 O0 Z0 E_a1 F_coder F_value V_t V_b lM hM
    refine Go.st (T' := T0) (pc' := 9) (L' := #[.val (.ref a1), .val (.ref b), .val (.int (i.toInt32)), .unset, .unset, .unset]) (S' := [(.int (i.toInt32))]) (fun t_ k_ => XS.iloadN X0.here hx rfl (hb hby d8_8) rfl  k_) ?_
    refine Go.st (T' := T0) (pc' := 11) (L' := #[.val (.ref a1), .val (.ref b), .val (.int (i.toInt32)), .unset, .unset, .unset]) (S' := [(.int (32 : Int32)), (.int (i.toInt32))]) (fun t_ k_ => XS.bipush X0.here hx rfl (hb hby d8_9) k_) ?_
    by_cases hc11_501 : (32 : Int32) < (i.toInt32)
    · refine Go.st (T' := T0) (pc' := 24) (L' := #[.val (.ref a1), .val (.ref b), .val (.int (i.toInt32)), .unset, .unset, .unset]) (S' := []) (fun t_ k_ => XS.icmpYes X0.here hx rfl (pc0 := 11) (pc' := 24) rfl (hb hby d8_11) rfl (tlt hc11_501).2.2.1 (by decide) (by decide) k_) ?_
      have hi33 : i = 33 := by have := (own_ltI (m := 32) (by decide) (by omega)).mp hc11_501; omega
      subst hi33
      exact seg24_2 a1 t _ gC q0 q1 b _ M X0 hx hZ hw hby hml hown hnm hret hlk e0 N0 SC PC O0 Z0 E_a1 F_coder F_value V_t hq0 hq1 V_b lM g_b nab ntb sz_b K0 hM
    · refine Go.st (T' := T0) (pc' := 14) (L' := #[.val (.ref a1), .val (.ref b), .val (.int (i.toInt32)), .unset, .unset, .unset]) (S' := []) (fun t_ k_ => XS.icmpNo X0.here hx rfl (hb hby d8_11) rfl (flt hc11_501).2.2.1 k_) ?_
      have hlt : i < 33 := by have := mt (own_ltI (m := 32) (n := i) (by decide) (by omega)).mpr hc11_501; omega
      refine Go.st (T' := T0) (pc' := 15) (L' := #[.val (.ref a1), .val (.ref b), .val (.int (i.toInt32)), .unset, .unset, .unset]) (S' := [(.ref b)]) (fun t_ k_ => XS.aloadN X0.here hx rfl (hb hby d8_14) rfl rfl  k_) ?_
      refine Go.st (T' := T0) (pc' := 16) (L' := #[.val (.ref a1), .val (.ref b), .val (.int (i.toInt32)), .unset, .unset, .unset]) (S' := [(.int (i.toInt32)), (.ref b)]) (fun t_ k_ => XS.iloadN X0.here hx rfl (hb hby d8_15) rfl  k_) ?_
      refine Go.st (T' := T0) (pc' := 17) (L' := #[.val (.ref a1), .val (.ref b), .val (.int (i.toInt32)), .unset, .unset, .unset]) (S' := [(.int (1 : Int32)), (.int (i.toInt32)), (.ref b)]) (fun t_ k_ => XS.iconst X0.here hx rfl (hb hby d8_16) k_) ?_
      obtain ⟨cl502, Ar502, q5021, q5022, q5023, q5024, q5025⟩ := V_b
      obtain ⟨T502, h502, X502, e502, W502, st502⟩ := stZ X0 hx hZ e0 Ar502 (j := (i.toInt32)) (own_inb q5022 (N := 128) (by decide) (by omega) (by decide)) (g := (mkF m 17 #[.val (.ref a1), .val (.ref b), .val (.int (i.toInt32)), .unset, .unset, .unset] [(.int (1 : Int32)), (.int (i.toInt32)), (.ref b)])) rfl rfl (hb hby d8_17)
      replace V_b := Arv.set Ar502 q5021 q5022 q5023 q5024 q5025 (fits_nar_bool _) W502 (i) (own_tn (by omega)) (by rw [List.length_map, show List.length M = 128 from lM]; omega)
      rw [own_setI] at V_b
      replace Z0 := Nat.le_trans Z0 (Keep.of_wr W502).1
      replace O0 := O0.wr W502 g_b
      replace E_a1 := E_a1.wr W502
      replace F_coder := F_coder.other W502 (Or.inl nab)
      replace F_value := F_value.other W502 (Or.inl nab)
      replace V_t := V_t.other W502 ntb
      replace K0 := K0.wr W502 (Or.inr sz_b)
      have N502 := Fr.snoc X502 N0 g_b
      refine Go.st (T' := T502) (pc' := 18) (L' := #[.val (.ref a1), .val (.ref b), .val (.int (i.toInt32)), .unset, .unset, .unset]) (S' := []) st502 ?_
      refine Go.st (T' := T502) (pc' := 21) (L' := #[.val (.ref a1), .val (.ref b), .val (.int ((i.toInt32) + (1 : Int32))), .unset, .unset, .unset]) (S' := []) (fun t_ k_ => XS.iinc X502.here hx rfl (hb hby d8_18) rfl (l' := #[.val (.ref a1), .val (.ref b), .val (.int ((i.toInt32) + (1 : Int32))), .unset, .unset, .unset]) rfl k_) ?_
      rw [own_next (n := i) (by omega)]
      refine Go.st (T' := T502) (pc' := 8) (L' := #[.val (.ref a1), .val (.ref b), .val (.int ((i + 1).toInt32)), .unset, .unset, .unset]) (S' := []) (fun t_ k_ => XS.goto X502.here hx rfl (pc0 := 21) (pc' := 8) rfl (hb hby d8_21) (by decide) (by decide) k_) ?_
      exact ih (i + 1) (M.set (i) (nar .boolean (1 : Int32))) T502 _ h502 (by omega) X502 e502 N502 K0 O0 Z0 E_a1 F_coder F_value V_t V_b (by rw [List.length_set]; exact lM) (own_stepM hM lM (by omega))
set_option maxRecDepth 65536 in
set_option maxHeartbeats 40000000 in
theorem rmcsa2 (l : Launch) (Z : State) (a0 : Array Value) (hw : ∀ d ∈ tables_1, d.before a0 Z = true) (ws : List Jvm.Cond) (a1 : Addr) (t : Addr) (kt : ClassId) (gC : Int32) (q0 : Nat) (q1 : Nat) (h0 : Heap) (n0 : Nat) (Z0 : n0 ≤ h0.size) (SC : Sta Z Z.heap "java/lang/String" "COMPACT_STRINGS" "Z" (.int gC)) (PC : ¬ (gC = (0 : Int32))) (O0 : Old Z n0 h0) (E_a1 : Exa Z h0 a1 "java/lang/String") (F_coder : Fld Z h0 a1 "java/lang/String" "coder" "B" (.int (0 : Int32))) (F_value : Fld Z h0 a1 "java/lang/String" "value" "[B" (.ref t)) (V_t : Arv Z h0 t kt .byte (2 : Int32) [(.int ((nar .char (q0.toInt32)).toInt8.toInt32)), (.int ((nar .char (q1.toInt32)).toInt8.toInt32))] (.int (0 : Int32)))  (hq0 : q0 < 128) (hq1 : q1 < 128) :
    MetFree l (⟨"com/example/traversal/traversal/graph/Iris", "controlsSpaceAnd", "(Ljava/lang/String;)[Z"⟩ : MethodName) (head1 (Jvm.Cond.code (⟨"com/example/traversal/traversal/graph/Iris", "controlsSpaceAnd", "(Ljava/lang/String;)[Z"⟩ : MethodName) prog_43_method_2_code 6 (some (.array .boolean)) :: ws) roomcsa2) (fun aa_ U_ => aa_ = #[(.ref a1)] ∧ Z.Warmed39 U_.vm ∧ U_.heap = h0) (fun _ _ _ _ _ => True) (fun _ U_ o_ W_ => ∃ v_ L_, o_ = .returned v_ ∧ (Qcsa2 Z q0 q1 h0 n0) v_ W_.heap L_ ∧ FrameEnd U_ o_ W_ L_ roomcsa2.cells roomcsa2.slots) := by
  refine own_met (Q := (Qcsa2 Z q0 q1 h0 n0)) (L0 := #[.val (.ref a1), .unset, .unset, .unset, .unset, .unset]) (plainFor_of_name pn_2) (fun m => by first | (simp [entryFrame, mkF, argsToLocals, Value.category]; done) | rfl) ?_
  intro p e s m below meth c T0 X0 hx hby hml hown hnm hret hlk hZ e0
  have N0 := Fr.nil n0
  have K0 := Keep.refl h0 []
  refine Go.st (T' := T0) (pc' := 3) (L' := #[.val (.ref a1), .unset, .unset, .unset, .unset, .unset]) (S' := [(.int (128 : Int32))]) (fun t_ k_ => XS.sipush X0.here hx rfl (hb hby d8_0) k_) ?_
  obtain ⟨T901, h901, k901, X901, e901, E901, A901, st901⟩ := newP X0 hx hZ (hw _ (List.mem_of_getElem? (i := 38) rfl)) e0 (g := (mkF m 3 #[.val (.ref a1), .unset, .unset, .unset, .unset, .unset] [(.int (128 : Int32))])) rfl (hb hby d8_3) rfl (by decide) (cap := 128) (by decide) (by decide) (by decide) (by decide)
  obtain ⟨b901, g901⟩ : ∃ z, z = h0.size := ⟨_, rfl⟩
  rw [← g901] at A901 st901
  have ne_a1_b901 : a1 ≠ b901 := Nat.ne_of_lt (Nat.lt_of_lt_of_le E_a1.lt (Nat.le_of_eq g901.symm))
  have ne_t_b901 : t ≠ b901 := Nat.ne_of_lt (Nat.lt_of_lt_of_le V_t.lt (Nat.le_of_eq g901.symm))
  have g_b901 : n0 ≤ b901 := Nat.le_trans Z0 (Nat.le_of_eq g901.symm)
  have sz_b901 : h0.size ≤ b901 := Nat.le_trans K0.1 (Nat.le_of_eq g901.symm)
  replace Z0 := Nat.le_trans Z0 E901.1
  replace O0 := O0.ext E901
  replace E_a1 := E_a1.ext E901
  replace F_coder := F_coder.ext E901
  replace F_value := F_value.ext E901
  replace V_t := V_t.ext E901
  replace K0 := K0.ext E901
  have V_b901 : Arv Z h901 b901 k901 .boolean (128 : Int32) [] (.int (0 : Int32)) := Arv.new A901 (by decide)
  refine Go.st (T' := T901) (pc' := 5) (L' := #[.val (.ref a1), .unset, .unset, .unset, .unset, .unset]) (S' := [(.ref b901)]) st901 ?_
  refine Go.st (T' := T901) (pc' := 6) (L' := #[.val (.ref a1), .val (.ref b901), .unset, .unset, .unset, .unset]) (S' := []) (fun t_ k_ => XS.astoreN X901.here hx rfl (hb hby d8_5) rfl rfl (l' := #[.val (.ref a1), .val (.ref b901), .unset, .unset, .unset, .unset]) rfl k_) ?_
  have V_b901 : Arv Z h901 b901 k901 .boolean (128 : Int32) ((List.replicate 128 (0 : Int32)).map Value.int) (.int 0) := V_b901.pad (fun j => by rw [own_getI, own_rep0]; rfl)
  refine Go.st (T' := T901) (pc' := 7) (L' := #[.val (.ref a1), .val (.ref b901), .unset, .unset, .unset, .unset]) (S' := [(.int (0 : Int32))]) (fun t_ k_ => XS.iconst X901.here hx rfl (hb hby d8_6) k_) ?_
  refine Go.st (T' := T901) (pc' := 8) (L' := #[.val (.ref a1), .val (.ref b901), .val (.int (0 : Int32)), .unset, .unset, .unset]) (S' := []) (fun t_ k_ => XS.istoreN X901.here hx rfl (hb hby d8_7) rfl (l' := #[.val (.ref a1), .val (.ref b901), .val (.int (0 : Int32)), .unset, .unset, .unset]) rfl k_) ?_
  exact loop8_2 a1 t _ gC q0 q1 b901 _ hx hZ hw hby hml hown hnm hret hlk SC PC hq0 hq1 g_b901 ne_a1_b901 ne_t_b901 sz_b901 33 0 (List.replicate 128 0) T901 _ h901 (by omega) X901 e901 N0 K0 O0 Z0 E_a1 F_coder F_value V_t V_b901 rfl (fun j hj => by rw [own_rep0, if_neg (Nat.not_lt_zero j)])

def Qinf3 (Z : State) (y : Addr) (ky : ClassId) (q0 : Nat) (q1 : Nat) (q2 : Nat) (h0 : Heap) (n0 : Nat) (v : Option Value) (h : Heap) (L : List Loc) : Prop := v = none ∧ Fr n0 L ∧ Keep h0 h [y] ∧ Arv Z h y ky .char (3 : Int32) [(.int (q0.toInt32)), (.int (q1.toInt32)), (.int (q2.toInt32))] (.int (0 : Int32))
def roominf3 : Room := { frames := 0, cells := 0, slots := 0, locals := 0 }
set_option maxRecDepth 65536 in
set_option maxHeartbeats 40000000 in
theorem rminf3 (l : Launch) (Z : State) (a0 : Array Value) (hw : ∀ d ∈ tables_1, d.before a0 Z = true) (ws : List Jvm.Cond) (t : Addr) (y : Addr) (kt : ClassId) (ky : ClassId) (q0 : Nat) (q1 : Nat) (q2 : Nat) (h0 : Heap) (n0 : Nat) (Z0 : n0 ≤ h0.size) (V_t : Arv Z h0 t kt .byte (3 : Int32) [(.int ((nar .char (q0.toInt32)).toInt8.toInt32)), (.int ((nar .char (q1.toInt32)).toInt8.toInt32)), (.int ((nar .char (q2.toInt32)).toInt8.toInt32))] (.int (0 : Int32))) (V_y : Arv Z h0 y ky .char (3 : Int32) [(.int (0 : Int32)), (.int (0 : Int32)), (.int (0 : Int32))] (.int (0 : Int32))) (nty : t ≠ y) (g_y : n0 ≤ y)  (hq0 : q0 < 128) (hq1 : q1 < 128) (hq2 : q2 < 128) :
    MetFree l (⟨"java/lang/StringLatin1", "inflate", "([BI[CII)V"⟩ : MethodName) (head1 (Jvm.Cond.code (⟨"java/lang/StringLatin1", "inflate", "([BI[CII)V"⟩ : MethodName) jdk_43_method_49_code 6 none :: ws) roominf3) (fun aa_ U_ => aa_ = #[(.ref t), (.int (0 : Int32)), (.ref y), (.int (0 : Int32)), (.int (3 : Int32))] ∧ Z.Warmed39 U_.vm ∧ U_.heap = h0) (fun _ _ _ _ _ => True) (fun _ U_ o_ W_ => ∃ v_ L_, o_ = .returned v_ ∧ (Qinf3 Z y ky q0 q1 q2 h0 n0) v_ W_.heap L_ ∧ FrameEnd U_ o_ W_ L_ roominf3.cells roominf3.slots) := by
  refine own_met (Q := (Qinf3 Z y ky q0 q1 q2 h0 n0)) (L0 := #[.val (.ref t), .val (.int (0 : Int32)), .val (.ref y), .val (.int (0 : Int32)), .val (.int (3 : Int32)), .unset]) (plainFor_of_name pn_1) (fun m => by first | (simp [entryFrame, mkF, argsToLocals, Value.category]; done) | rfl) ?_
  intro p e s m below meth c T0 X0 hx hby hml hown hnm hret hlk hZ e0
  have N0 := Fr.nil n0
  have K0 := Keep.refl h0 [y]
  refine Go.st (T' := T0) (pc' := 1) (L' := #[.val (.ref t), .val (.int (0 : Int32)), .val (.ref y), .val (.int (0 : Int32)), .val (.int (3 : Int32)), .unset]) (S' := [(.int (0 : Int32))]) (fun t_ k_ => XS.iconst X0.here hx rfl (hb hby d12_0) k_) ?_
  refine Go.st (T' := T0) (pc' := 3) (L' := #[.val (.ref t), .val (.int (0 : Int32)), .val (.ref y), .val (.int (0 : Int32)), .val (.int (3 : Int32)), .val (.int (0 : Int32))]) (S' := []) (fun t_ k_ => XS.istore X0.here hx rfl (hb hby d12_1) rfl (l' := #[.val (.ref t), .val (.int (0 : Int32)), .val (.ref y), .val (.int (0 : Int32)), .val (.int (3 : Int32)), .val (.int (0 : Int32))]) rfl k_) ?_
  refine Go.st (T' := T0) (pc' := 5) (L' := #[.val (.ref t), .val (.int (0 : Int32)), .val (.ref y), .val (.int (0 : Int32)), .val (.int (3 : Int32)), .val (.int (0 : Int32))]) (S' := [(.int (0 : Int32))]) (fun t_ k_ => XS.iload X0.here hx rfl (hb hby d12_3) rfl  k_) ?_
  refine Go.st (T' := T0) (pc' := 7) (L' := #[.val (.ref t), .val (.int (0 : Int32)), .val (.ref y), .val (.int (0 : Int32)), .val (.int (3 : Int32)), .val (.int (0 : Int32))]) (S' := [(.int (3 : Int32)), (.int (0 : Int32))]) (fun t_ k_ => XS.iload X0.here hx rfl (hb hby d12_5) rfl  k_) ?_
  refine Go.st (T' := T0) (pc' := 10) (L' := #[.val (.ref t), .val (.int (0 : Int32)), .val (.ref y), .val (.int (0 : Int32)), .val (.int (3 : Int32)), .val (.int (0 : Int32))]) (S' := []) (fun t_ k_ => XS.icmpNo X0.here hx rfl (hb hby d12_7) rfl (tlt (by decide : ((0 : Int32) < (3 : Int32)))).2.1 k_) ?_
  refine Go.st (T' := T0) (pc' := 11) (L' := #[.val (.ref t), .val (.int (0 : Int32)), .val (.ref y), .val (.int (0 : Int32)), .val (.int (3 : Int32)), .val (.int (0 : Int32))]) (S' := [(.ref y)]) (fun t_ k_ => XS.aloadN X0.here hx rfl (hb hby d12_10) rfl rfl  k_) ?_
  refine Go.st (T' := T0) (pc' := 12) (L' := #[.val (.ref t), .val (.int (0 : Int32)), .val (.ref y), .val (.int (0 : Int32)), .val (.int (3 : Int32)), .val (.int (0 : Int32))]) (S' := [(.int (0 : Int32)), (.ref y)]) (fun t_ k_ => XS.iloadN X0.here hx rfl (hb hby d12_11) rfl  k_) ?_
  refine Go.st (T' := T0) (pc' := 15) (L' := #[.val (.ref t), .val (.int (0 : Int32)), .val (.ref y), .val (.int ((0 : Int32) + (1 : Int32))), .val (.int (3 : Int32)), .val (.int (0 : Int32))]) (S' := [(.int (0 : Int32)), (.ref y)]) (fun t_ k_ => XS.iinc X0.here hx rfl (hb hby d12_12) rfl (l' := #[.val (.ref t), .val (.int (0 : Int32)), .val (.ref y), .val (.int ((0 : Int32) + (1 : Int32))), .val (.int (3 : Int32)), .val (.int (0 : Int32))]) rfl k_) ?_
  rw [show ((0 : Int32) + (1 : Int32)) = (1 : Int32) from by decide]
  refine Go.st (T' := T0) (pc' := 16) (L' := #[.val (.ref t), .val (.int (0 : Int32)), .val (.ref y), .val (.int (1 : Int32)), .val (.int (3 : Int32)), .val (.int (0 : Int32))]) (S' := [(.ref t), (.int (0 : Int32)), (.ref y)]) (fun t_ k_ => XS.aloadN X0.here hx rfl (hb hby d12_15) rfl rfl  k_) ?_
  refine Go.st (T' := T0) (pc' := 17) (L' := #[.val (.ref t), .val (.int (0 : Int32)), .val (.ref y), .val (.int (1 : Int32)), .val (.int (3 : Int32)), .val (.int (0 : Int32))]) (S' := [(.int (0 : Int32)), (.ref t), (.int (0 : Int32)), (.ref y)]) (fun t_ k_ => XS.iloadN X0.here hx rfl (hb hby d12_16) rfl  k_) ?_
  refine Go.st (T' := T0) (pc' := 20) (L' := #[.val (.ref t), .val (.int ((0 : Int32) + (1 : Int32))), .val (.ref y), .val (.int (1 : Int32)), .val (.int (3 : Int32)), .val (.int (0 : Int32))]) (S' := [(.int (0 : Int32)), (.ref t), (.int (0 : Int32)), (.ref y)]) (fun t_ k_ => XS.iinc X0.here hx rfl (hb hby d12_17) rfl (l' := #[.val (.ref t), .val (.int ((0 : Int32) + (1 : Int32))), .val (.ref y), .val (.int (1 : Int32)), .val (.int (3 : Int32)), .val (.int (0 : Int32))]) rfl k_) ?_
  rw [show ((0 : Int32) + (1 : Int32)) = (1 : Int32) from by decide]
  obtain ⟨cl1, Ar1, -, q1a, q1b, q1c, q1d⟩ := id V_t
  refine Go.st (T' := T0) (pc' := 21) (L' := #[.val (.ref t), .val (.int (1 : Int32)), .val (.ref y), .val (.int (1 : Int32)), .val (.int (3 : Int32)), .val (.int (0 : Int32))]) (S' := [(.int ((nar .char (q0.toInt32)).toInt8.toInt32)), (.int (0 : Int32)), (.ref y)]) (fun t_ k_ => X0.baloadBytes hx (j := (0 : Int32)) (v := (.int ((nar .char (q0.toInt32)).toInt8.toInt32))) (by rw [e0]; exact Ar1.1) (State.isArrayOf_alike hZ.alike Ar1.2.1) Ar1.2.2 (inb_of q1a ⟨by decide, by decide⟩) (q1c.at (inb_of q1a ⟨by decide, by decide⟩) rfl) (g := (mkF m 20 #[.val (.ref t), .val (.int (1 : Int32)), .val (.ref y), .val (.int (1 : Int32)), .val (.int (3 : Int32)), .val (.int (0 : Int32))] [(.int (0 : Int32)), (.ref t), (.int (0 : Int32)), (.ref y)])) rfl rfl (hb hby d12_20) t_ k_) ?_
  refine Go.st (T' := T0) (pc' := 24) (L' := #[.val (.ref t), .val (.int (1 : Int32)), .val (.ref y), .val (.int (1 : Int32)), .val (.int (3 : Int32)), .val (.int (0 : Int32))]) (S' := [(.int (255 : Int32)), (.int ((nar .char (q0.toInt32)).toInt8.toInt32)), (.int (0 : Int32)), (.ref y)]) (fun t_ k_ => XS.sipush X0.here hx rfl (hb hby d12_21) k_) ?_
  refine Go.st (T' := T0) (pc' := 25) (L' := #[.val (.ref t), .val (.int (1 : Int32)), .val (.ref y), .val (.int (1 : Int32)), .val (.int (3 : Int32)), .val (.int (0 : Int32))]) (S' := [(.int (((nar .char (q0.toInt32)).toInt8.toInt32) &&& (255 : Int32))), (.int (0 : Int32)), (.ref y)]) (fun t_ k_ => XS.iand X0.here hx rfl (hb hby d12_24) rfl k_) ?_
  refine Go.st (T' := T0) (pc' := 26) (L' := #[.val (.ref t), .val (.int (1 : Int32)), .val (.ref y), .val (.int (1 : Int32)), .val (.int (3 : Int32)), .val (.int (0 : Int32))]) (S' := [(.int ((((nar .char (q0.toInt32)).toInt8.toInt32) &&& (255 : Int32)).toUInt32.toUInt16.toUInt32.toInt32)), (.int (0 : Int32)), (.ref y)]) (fun t_ k_ => XS.i2c X0.here hx rfl (hb hby d12_25) rfl k_) ?_
  obtain ⟨cl2, Ar2, q21, q22, q23, q24, q25⟩ := V_y
  obtain ⟨T2, h2, X2, e2, W2, st2⟩ := stC X0 hx hZ e0 Ar2 (j := (0 : Int32)) (inb_of q22 ⟨by decide, by decide⟩) (g := (mkF m 26 #[.val (.ref t), .val (.int (1 : Int32)), .val (.ref y), .val (.int (1 : Int32)), .val (.int (3 : Int32)), .val (.int (0 : Int32))] [(.int ((((nar .char (q0.toInt32)).toInt8.toInt32) &&& (255 : Int32)).toUInt32.toUInt16.toUInt32.toInt32)), (.int (0 : Int32)), (.ref y)])) rfl rfl (hb hby d12_26)
  replace V_y := Arv.set Ar2 q21 q22 q23 q24 q25 (fits_nar_char _) W2 0 rfl (Nat.le_of_ble_eq_true rfl)
  have V_y : Arv Z h2 y ky .char (3 : Int32) [(.int (nar .char ((((nar .char (q0.toInt32)).toInt8.toInt32) &&& (255 : Int32)).toUInt32.toUInt16.toUInt32.toInt32))), (.int (0 : Int32)), (.int (0 : Int32))] (.int (0 : Int32)) := V_y
  replace Z0 := Nat.le_trans Z0 (Keep.of_wr W2).1
  replace K0 := K0.wr W2 (Or.inl (List.mem_of_getElem? (i := 0) rfl))
  replace V_t := V_t.other W2 nty
  have N2 := Fr.snoc X2 N0 g_y
  refine Go.st (T' := T2) (pc' := 27) (L' := #[.val (.ref t), .val (.int (1 : Int32)), .val (.ref y), .val (.int (1 : Int32)), .val (.int (3 : Int32)), .val (.int (0 : Int32))]) (S' := []) st2 ?_
  refine Go.st (T' := T2) (pc' := 30) (L' := #[.val (.ref t), .val (.int (1 : Int32)), .val (.ref y), .val (.int (1 : Int32)), .val (.int (3 : Int32)), .val (.int ((0 : Int32) + (1 : Int32)))]) (S' := []) (fun t_ k_ => XS.iinc X2.here hx rfl (hb hby d12_27) rfl (l' := #[.val (.ref t), .val (.int (1 : Int32)), .val (.ref y), .val (.int (1 : Int32)), .val (.int (3 : Int32)), .val (.int ((0 : Int32) + (1 : Int32)))]) rfl k_) ?_
  rw [show ((0 : Int32) + (1 : Int32)) = (1 : Int32) from by decide]
  refine Go.st (T' := T2) (pc' := 3) (L' := #[.val (.ref t), .val (.int (1 : Int32)), .val (.ref y), .val (.int (1 : Int32)), .val (.int (3 : Int32)), .val (.int (1 : Int32))]) (S' := []) (fun t_ k_ => XS.goto X2.here hx rfl (pc0 := 30) (pc' := 3) rfl (hb hby d12_30) (by decide) (by decide) k_) ?_
  refine Go.st (T' := T2) (pc' := 5) (L' := #[.val (.ref t), .val (.int (1 : Int32)), .val (.ref y), .val (.int (1 : Int32)), .val (.int (3 : Int32)), .val (.int (1 : Int32))]) (S' := [(.int (1 : Int32))]) (fun t_ k_ => XS.iload X2.here hx rfl (hb hby d12_3) rfl  k_) ?_
  refine Go.st (T' := T2) (pc' := 7) (L' := #[.val (.ref t), .val (.int (1 : Int32)), .val (.ref y), .val (.int (1 : Int32)), .val (.int (3 : Int32)), .val (.int (1 : Int32))]) (S' := [(.int (3 : Int32)), (.int (1 : Int32))]) (fun t_ k_ => XS.iload X2.here hx rfl (hb hby d12_5) rfl  k_) ?_
  refine Go.st (T' := T2) (pc' := 10) (L' := #[.val (.ref t), .val (.int (1 : Int32)), .val (.ref y), .val (.int (1 : Int32)), .val (.int (3 : Int32)), .val (.int (1 : Int32))]) (S' := []) (fun t_ k_ => XS.icmpNo X2.here hx rfl (hb hby d12_7) rfl (tlt (by decide : ((1 : Int32) < (3 : Int32)))).2.1 k_) ?_
  refine Go.st (T' := T2) (pc' := 11) (L' := #[.val (.ref t), .val (.int (1 : Int32)), .val (.ref y), .val (.int (1 : Int32)), .val (.int (3 : Int32)), .val (.int (1 : Int32))]) (S' := [(.ref y)]) (fun t_ k_ => XS.aloadN X2.here hx rfl (hb hby d12_10) rfl rfl  k_) ?_
  refine Go.st (T' := T2) (pc' := 12) (L' := #[.val (.ref t), .val (.int (1 : Int32)), .val (.ref y), .val (.int (1 : Int32)), .val (.int (3 : Int32)), .val (.int (1 : Int32))]) (S' := [(.int (1 : Int32)), (.ref y)]) (fun t_ k_ => XS.iloadN X2.here hx rfl (hb hby d12_11) rfl  k_) ?_
  refine Go.st (T' := T2) (pc' := 15) (L' := #[.val (.ref t), .val (.int (1 : Int32)), .val (.ref y), .val (.int ((1 : Int32) + (1 : Int32))), .val (.int (3 : Int32)), .val (.int (1 : Int32))]) (S' := [(.int (1 : Int32)), (.ref y)]) (fun t_ k_ => XS.iinc X2.here hx rfl (hb hby d12_12) rfl (l' := #[.val (.ref t), .val (.int (1 : Int32)), .val (.ref y), .val (.int ((1 : Int32) + (1 : Int32))), .val (.int (3 : Int32)), .val (.int (1 : Int32))]) rfl k_) ?_
  rw [show ((1 : Int32) + (1 : Int32)) = (2 : Int32) from by decide]
  refine Go.st (T' := T2) (pc' := 16) (L' := #[.val (.ref t), .val (.int (1 : Int32)), .val (.ref y), .val (.int (2 : Int32)), .val (.int (3 : Int32)), .val (.int (1 : Int32))]) (S' := [(.ref t), (.int (1 : Int32)), (.ref y)]) (fun t_ k_ => XS.aloadN X2.here hx rfl (hb hby d12_15) rfl rfl  k_) ?_
  refine Go.st (T' := T2) (pc' := 17) (L' := #[.val (.ref t), .val (.int (1 : Int32)), .val (.ref y), .val (.int (2 : Int32)), .val (.int (3 : Int32)), .val (.int (1 : Int32))]) (S' := [(.int (1 : Int32)), (.ref t), (.int (1 : Int32)), (.ref y)]) (fun t_ k_ => XS.iloadN X2.here hx rfl (hb hby d12_16) rfl  k_) ?_
  refine Go.st (T' := T2) (pc' := 20) (L' := #[.val (.ref t), .val (.int ((1 : Int32) + (1 : Int32))), .val (.ref y), .val (.int (2 : Int32)), .val (.int (3 : Int32)), .val (.int (1 : Int32))]) (S' := [(.int (1 : Int32)), (.ref t), (.int (1 : Int32)), (.ref y)]) (fun t_ k_ => XS.iinc X2.here hx rfl (hb hby d12_17) rfl (l' := #[.val (.ref t), .val (.int ((1 : Int32) + (1 : Int32))), .val (.ref y), .val (.int (2 : Int32)), .val (.int (3 : Int32)), .val (.int (1 : Int32))]) rfl k_) ?_
  rw [show ((1 : Int32) + (1 : Int32)) = (2 : Int32) from by decide]
  obtain ⟨cl3, Ar3, -, q3a, q3b, q3c, q3d⟩ := id V_t
  refine Go.st (T' := T2) (pc' := 21) (L' := #[.val (.ref t), .val (.int (2 : Int32)), .val (.ref y), .val (.int (2 : Int32)), .val (.int (3 : Int32)), .val (.int (1 : Int32))]) (S' := [(.int ((nar .char (q1.toInt32)).toInt8.toInt32)), (.int (1 : Int32)), (.ref y)]) (fun t_ k_ => X2.baloadBytes hx (j := (1 : Int32)) (v := (.int ((nar .char (q1.toInt32)).toInt8.toInt32))) (by rw [e2]; exact Ar3.1) (State.isArrayOf_alike hZ.alike Ar3.2.1) Ar3.2.2 (inb_of q3a ⟨by decide, by decide⟩) (q3c.at (inb_of q3a ⟨by decide, by decide⟩) rfl) (g := (mkF m 20 #[.val (.ref t), .val (.int (2 : Int32)), .val (.ref y), .val (.int (2 : Int32)), .val (.int (3 : Int32)), .val (.int (1 : Int32))] [(.int (1 : Int32)), (.ref t), (.int (1 : Int32)), (.ref y)])) rfl rfl (hb hby d12_20) t_ k_) ?_
  refine Go.st (T' := T2) (pc' := 24) (L' := #[.val (.ref t), .val (.int (2 : Int32)), .val (.ref y), .val (.int (2 : Int32)), .val (.int (3 : Int32)), .val (.int (1 : Int32))]) (S' := [(.int (255 : Int32)), (.int ((nar .char (q1.toInt32)).toInt8.toInt32)), (.int (1 : Int32)), (.ref y)]) (fun t_ k_ => XS.sipush X2.here hx rfl (hb hby d12_21) k_) ?_
  refine Go.st (T' := T2) (pc' := 25) (L' := #[.val (.ref t), .val (.int (2 : Int32)), .val (.ref y), .val (.int (2 : Int32)), .val (.int (3 : Int32)), .val (.int (1 : Int32))]) (S' := [(.int (((nar .char (q1.toInt32)).toInt8.toInt32) &&& (255 : Int32))), (.int (1 : Int32)), (.ref y)]) (fun t_ k_ => XS.iand X2.here hx rfl (hb hby d12_24) rfl k_) ?_
  refine Go.st (T' := T2) (pc' := 26) (L' := #[.val (.ref t), .val (.int (2 : Int32)), .val (.ref y), .val (.int (2 : Int32)), .val (.int (3 : Int32)), .val (.int (1 : Int32))]) (S' := [(.int ((((nar .char (q1.toInt32)).toInt8.toInt32) &&& (255 : Int32)).toUInt32.toUInt16.toUInt32.toInt32)), (.int (1 : Int32)), (.ref y)]) (fun t_ k_ => XS.i2c X2.here hx rfl (hb hby d12_25) rfl k_) ?_
  obtain ⟨cl4, Ar4, q41, q42, q43, q44, q45⟩ := V_y
  obtain ⟨T4, h4, X4, e4, W4, st4⟩ := stC X2 hx hZ e2 Ar4 (j := (1 : Int32)) (inb_of q42 ⟨by decide, by decide⟩) (g := (mkF m 26 #[.val (.ref t), .val (.int (2 : Int32)), .val (.ref y), .val (.int (2 : Int32)), .val (.int (3 : Int32)), .val (.int (1 : Int32))] [(.int ((((nar .char (q1.toInt32)).toInt8.toInt32) &&& (255 : Int32)).toUInt32.toUInt16.toUInt32.toInt32)), (.int (1 : Int32)), (.ref y)])) rfl rfl (hb hby d12_26)
  replace V_y := Arv.set Ar4 q41 q42 q43 q44 q45 (fits_nar_char _) W4 1 rfl (Nat.le_of_ble_eq_true rfl)
  have V_y : Arv Z h4 y ky .char (3 : Int32) [(.int (nar .char ((((nar .char (q0.toInt32)).toInt8.toInt32) &&& (255 : Int32)).toUInt32.toUInt16.toUInt32.toInt32))), (.int (nar .char ((((nar .char (q1.toInt32)).toInt8.toInt32) &&& (255 : Int32)).toUInt32.toUInt16.toUInt32.toInt32))), (.int (0 : Int32))] (.int (0 : Int32)) := V_y
  replace Z0 := Nat.le_trans Z0 (Keep.of_wr W4).1
  replace K0 := K0.wr W4 (Or.inl (List.mem_of_getElem? (i := 0) rfl))
  replace V_t := V_t.other W4 nty
  have N4 := Fr.snoc X4 N2 g_y
  refine Go.st (T' := T4) (pc' := 27) (L' := #[.val (.ref t), .val (.int (2 : Int32)), .val (.ref y), .val (.int (2 : Int32)), .val (.int (3 : Int32)), .val (.int (1 : Int32))]) (S' := []) st4 ?_
  refine Go.st (T' := T4) (pc' := 30) (L' := #[.val (.ref t), .val (.int (2 : Int32)), .val (.ref y), .val (.int (2 : Int32)), .val (.int (3 : Int32)), .val (.int ((1 : Int32) + (1 : Int32)))]) (S' := []) (fun t_ k_ => XS.iinc X4.here hx rfl (hb hby d12_27) rfl (l' := #[.val (.ref t), .val (.int (2 : Int32)), .val (.ref y), .val (.int (2 : Int32)), .val (.int (3 : Int32)), .val (.int ((1 : Int32) + (1 : Int32)))]) rfl k_) ?_
  rw [show ((1 : Int32) + (1 : Int32)) = (2 : Int32) from by decide]
  refine Go.st (T' := T4) (pc' := 3) (L' := #[.val (.ref t), .val (.int (2 : Int32)), .val (.ref y), .val (.int (2 : Int32)), .val (.int (3 : Int32)), .val (.int (2 : Int32))]) (S' := []) (fun t_ k_ => XS.goto X4.here hx rfl (pc0 := 30) (pc' := 3) rfl (hb hby d12_30) (by decide) (by decide) k_) ?_
  refine Go.st (T' := T4) (pc' := 5) (L' := #[.val (.ref t), .val (.int (2 : Int32)), .val (.ref y), .val (.int (2 : Int32)), .val (.int (3 : Int32)), .val (.int (2 : Int32))]) (S' := [(.int (2 : Int32))]) (fun t_ k_ => XS.iload X4.here hx rfl (hb hby d12_3) rfl  k_) ?_
  refine Go.st (T' := T4) (pc' := 7) (L' := #[.val (.ref t), .val (.int (2 : Int32)), .val (.ref y), .val (.int (2 : Int32)), .val (.int (3 : Int32)), .val (.int (2 : Int32))]) (S' := [(.int (3 : Int32)), (.int (2 : Int32))]) (fun t_ k_ => XS.iload X4.here hx rfl (hb hby d12_5) rfl  k_) ?_
  refine Go.st (T' := T4) (pc' := 10) (L' := #[.val (.ref t), .val (.int (2 : Int32)), .val (.ref y), .val (.int (2 : Int32)), .val (.int (3 : Int32)), .val (.int (2 : Int32))]) (S' := []) (fun t_ k_ => XS.icmpNo X4.here hx rfl (hb hby d12_7) rfl (tlt (by decide : ((2 : Int32) < (3 : Int32)))).2.1 k_) ?_
  refine Go.st (T' := T4) (pc' := 11) (L' := #[.val (.ref t), .val (.int (2 : Int32)), .val (.ref y), .val (.int (2 : Int32)), .val (.int (3 : Int32)), .val (.int (2 : Int32))]) (S' := [(.ref y)]) (fun t_ k_ => XS.aloadN X4.here hx rfl (hb hby d12_10) rfl rfl  k_) ?_
  refine Go.st (T' := T4) (pc' := 12) (L' := #[.val (.ref t), .val (.int (2 : Int32)), .val (.ref y), .val (.int (2 : Int32)), .val (.int (3 : Int32)), .val (.int (2 : Int32))]) (S' := [(.int (2 : Int32)), (.ref y)]) (fun t_ k_ => XS.iloadN X4.here hx rfl (hb hby d12_11) rfl  k_) ?_
  refine Go.st (T' := T4) (pc' := 15) (L' := #[.val (.ref t), .val (.int (2 : Int32)), .val (.ref y), .val (.int ((2 : Int32) + (1 : Int32))), .val (.int (3 : Int32)), .val (.int (2 : Int32))]) (S' := [(.int (2 : Int32)), (.ref y)]) (fun t_ k_ => XS.iinc X4.here hx rfl (hb hby d12_12) rfl (l' := #[.val (.ref t), .val (.int (2 : Int32)), .val (.ref y), .val (.int ((2 : Int32) + (1 : Int32))), .val (.int (3 : Int32)), .val (.int (2 : Int32))]) rfl k_) ?_
  rw [show ((2 : Int32) + (1 : Int32)) = (3 : Int32) from by decide]
  refine Go.st (T' := T4) (pc' := 16) (L' := #[.val (.ref t), .val (.int (2 : Int32)), .val (.ref y), .val (.int (3 : Int32)), .val (.int (3 : Int32)), .val (.int (2 : Int32))]) (S' := [(.ref t), (.int (2 : Int32)), (.ref y)]) (fun t_ k_ => XS.aloadN X4.here hx rfl (hb hby d12_15) rfl rfl  k_) ?_
  refine Go.st (T' := T4) (pc' := 17) (L' := #[.val (.ref t), .val (.int (2 : Int32)), .val (.ref y), .val (.int (3 : Int32)), .val (.int (3 : Int32)), .val (.int (2 : Int32))]) (S' := [(.int (2 : Int32)), (.ref t), (.int (2 : Int32)), (.ref y)]) (fun t_ k_ => XS.iloadN X4.here hx rfl (hb hby d12_16) rfl  k_) ?_
  refine Go.st (T' := T4) (pc' := 20) (L' := #[.val (.ref t), .val (.int ((2 : Int32) + (1 : Int32))), .val (.ref y), .val (.int (3 : Int32)), .val (.int (3 : Int32)), .val (.int (2 : Int32))]) (S' := [(.int (2 : Int32)), (.ref t), (.int (2 : Int32)), (.ref y)]) (fun t_ k_ => XS.iinc X4.here hx rfl (hb hby d12_17) rfl (l' := #[.val (.ref t), .val (.int ((2 : Int32) + (1 : Int32))), .val (.ref y), .val (.int (3 : Int32)), .val (.int (3 : Int32)), .val (.int (2 : Int32))]) rfl k_) ?_
  rw [show ((2 : Int32) + (1 : Int32)) = (3 : Int32) from by decide]
  obtain ⟨cl5, Ar5, -, q5a, q5b, q5c, q5d⟩ := id V_t
  refine Go.st (T' := T4) (pc' := 21) (L' := #[.val (.ref t), .val (.int (3 : Int32)), .val (.ref y), .val (.int (3 : Int32)), .val (.int (3 : Int32)), .val (.int (2 : Int32))]) (S' := [(.int ((nar .char (q2.toInt32)).toInt8.toInt32)), (.int (2 : Int32)), (.ref y)]) (fun t_ k_ => X4.baloadBytes hx (j := (2 : Int32)) (v := (.int ((nar .char (q2.toInt32)).toInt8.toInt32))) (by rw [e4]; exact Ar5.1) (State.isArrayOf_alike hZ.alike Ar5.2.1) Ar5.2.2 (inb_of q5a ⟨by decide, by decide⟩) (q5c.at (inb_of q5a ⟨by decide, by decide⟩) rfl) (g := (mkF m 20 #[.val (.ref t), .val (.int (3 : Int32)), .val (.ref y), .val (.int (3 : Int32)), .val (.int (3 : Int32)), .val (.int (2 : Int32))] [(.int (2 : Int32)), (.ref t), (.int (2 : Int32)), (.ref y)])) rfl rfl (hb hby d12_20) t_ k_) ?_
  refine Go.st (T' := T4) (pc' := 24) (L' := #[.val (.ref t), .val (.int (3 : Int32)), .val (.ref y), .val (.int (3 : Int32)), .val (.int (3 : Int32)), .val (.int (2 : Int32))]) (S' := [(.int (255 : Int32)), (.int ((nar .char (q2.toInt32)).toInt8.toInt32)), (.int (2 : Int32)), (.ref y)]) (fun t_ k_ => XS.sipush X4.here hx rfl (hb hby d12_21) k_) ?_
  refine Go.st (T' := T4) (pc' := 25) (L' := #[.val (.ref t), .val (.int (3 : Int32)), .val (.ref y), .val (.int (3 : Int32)), .val (.int (3 : Int32)), .val (.int (2 : Int32))]) (S' := [(.int (((nar .char (q2.toInt32)).toInt8.toInt32) &&& (255 : Int32))), (.int (2 : Int32)), (.ref y)]) (fun t_ k_ => XS.iand X4.here hx rfl (hb hby d12_24) rfl k_) ?_
  refine Go.st (T' := T4) (pc' := 26) (L' := #[.val (.ref t), .val (.int (3 : Int32)), .val (.ref y), .val (.int (3 : Int32)), .val (.int (3 : Int32)), .val (.int (2 : Int32))]) (S' := [(.int ((((nar .char (q2.toInt32)).toInt8.toInt32) &&& (255 : Int32)).toUInt32.toUInt16.toUInt32.toInt32)), (.int (2 : Int32)), (.ref y)]) (fun t_ k_ => XS.i2c X4.here hx rfl (hb hby d12_25) rfl k_) ?_
  obtain ⟨cl6, Ar6, q61, q62, q63, q64, q65⟩ := V_y
  obtain ⟨T6, h6, X6, e6, W6, st6⟩ := stC X4 hx hZ e4 Ar6 (j := (2 : Int32)) (inb_of q62 ⟨by decide, by decide⟩) (g := (mkF m 26 #[.val (.ref t), .val (.int (3 : Int32)), .val (.ref y), .val (.int (3 : Int32)), .val (.int (3 : Int32)), .val (.int (2 : Int32))] [(.int ((((nar .char (q2.toInt32)).toInt8.toInt32) &&& (255 : Int32)).toUInt32.toUInt16.toUInt32.toInt32)), (.int (2 : Int32)), (.ref y)])) rfl rfl (hb hby d12_26)
  replace V_y := Arv.set Ar6 q61 q62 q63 q64 q65 (fits_nar_char _) W6 2 rfl (Nat.le_of_ble_eq_true rfl)
  have V_y : Arv Z h6 y ky .char (3 : Int32) [(.int (nar .char ((((nar .char (q0.toInt32)).toInt8.toInt32) &&& (255 : Int32)).toUInt32.toUInt16.toUInt32.toInt32))), (.int (nar .char ((((nar .char (q1.toInt32)).toInt8.toInt32) &&& (255 : Int32)).toUInt32.toUInt16.toUInt32.toInt32))), (.int (nar .char ((((nar .char (q2.toInt32)).toInt8.toInt32) &&& (255 : Int32)).toUInt32.toUInt16.toUInt32.toInt32)))] (.int (0 : Int32)) := V_y
  replace Z0 := Nat.le_trans Z0 (Keep.of_wr W6).1
  replace K0 := K0.wr W6 (Or.inl (List.mem_of_getElem? (i := 0) rfl))
  replace V_t := V_t.other W6 nty
  have N6 := Fr.snoc X6 N4 g_y
  refine Go.st (T' := T6) (pc' := 27) (L' := #[.val (.ref t), .val (.int (3 : Int32)), .val (.ref y), .val (.int (3 : Int32)), .val (.int (3 : Int32)), .val (.int (2 : Int32))]) (S' := []) st6 ?_
  refine Go.st (T' := T6) (pc' := 30) (L' := #[.val (.ref t), .val (.int (3 : Int32)), .val (.ref y), .val (.int (3 : Int32)), .val (.int (3 : Int32)), .val (.int ((2 : Int32) + (1 : Int32)))]) (S' := []) (fun t_ k_ => XS.iinc X6.here hx rfl (hb hby d12_27) rfl (l' := #[.val (.ref t), .val (.int (3 : Int32)), .val (.ref y), .val (.int (3 : Int32)), .val (.int (3 : Int32)), .val (.int ((2 : Int32) + (1 : Int32)))]) rfl k_) ?_
  rw [show ((2 : Int32) + (1 : Int32)) = (3 : Int32) from by decide]
  refine Go.st (T' := T6) (pc' := 3) (L' := #[.val (.ref t), .val (.int (3 : Int32)), .val (.ref y), .val (.int (3 : Int32)), .val (.int (3 : Int32)), .val (.int (3 : Int32))]) (S' := []) (fun t_ k_ => XS.goto X6.here hx rfl (pc0 := 30) (pc' := 3) rfl (hb hby d12_30) (by decide) (by decide) k_) ?_
  refine Go.st (T' := T6) (pc' := 5) (L' := #[.val (.ref t), .val (.int (3 : Int32)), .val (.ref y), .val (.int (3 : Int32)), .val (.int (3 : Int32)), .val (.int (3 : Int32))]) (S' := [(.int (3 : Int32))]) (fun t_ k_ => XS.iload X6.here hx rfl (hb hby d12_3) rfl  k_) ?_
  refine Go.st (T' := T6) (pc' := 7) (L' := #[.val (.ref t), .val (.int (3 : Int32)), .val (.ref y), .val (.int (3 : Int32)), .val (.int (3 : Int32)), .val (.int (3 : Int32))]) (S' := [(.int (3 : Int32)), (.int (3 : Int32))]) (fun t_ k_ => XS.iload X6.here hx rfl (hb hby d12_5) rfl  k_) ?_
  refine Go.st (T' := T6) (pc' := 33) (L' := #[.val (.ref t), .val (.int (3 : Int32)), .val (.ref y), .val (.int (3 : Int32)), .val (.int (3 : Int32)), .val (.int (3 : Int32))]) (S' := []) (fun t_ k_ => XS.icmpYes X6.here hx rfl (pc0 := 7) (pc' := 33) rfl (hb hby d12_7) rfl (flt (by decide : ¬ ((3 : Int32) < (3 : Int32)))).2.1 (by decide) (by decide) k_) ?_
  rw [own_infl hq0] at V_y
  rw [own_infl hq1] at V_y
  rw [own_infl hq2] at V_y
  exact Go.retV X6 hx hlk hret (hb hby d12_33) (by decide) (by decide) (by rw [e6]; exact ⟨rfl, N6, K0, V_y⟩)

def Qtch3 (Z : State) (q0 : Nat) (q1 : Nat) (q2 : Nat) (h0 : Heap) (n0 : Nat) (v : Option Value) (h : Heap) (L : List Loc) : Prop := ∃ (y : Addr) (ky : ClassId), v = some (.ref y) ∧ Fr n0 L ∧ Keep h0 h [] ∧ n0 ≤ y ∧ h0.size ≤ y ∧ Arv Z h y ky .char (3 : Int32) [(.int (q0.toInt32)), (.int (q1.toInt32)), (.int (q2.toInt32))] (.int (0 : Int32))
def roomtch3 : Room := { frames := 1, cells := 1, slots := 3, locals := 17 }
set_option maxRecDepth 65536 in
set_option maxHeartbeats 40000000 in
theorem rmtch3 (l : Launch) (Z : State) (a0 : Array Value) (hw : ∀ d ∈ tables_1, d.before a0 Z = true) (ws : List Jvm.Cond) (t : Addr) (kt : ClassId) (q0 : Nat) (q1 : Nat) (q2 : Nat) (h0 : Heap) (n0 : Nat) (Z0 : n0 ≤ h0.size) (V_t : Arv Z h0 t kt .byte (3 : Int32) [(.int ((nar .char (q0.toInt32)).toInt8.toInt32)), (.int ((nar .char (q1.toInt32)).toInt8.toInt32)), (.int ((nar .char (q2.toInt32)).toInt8.toInt32))] (.int (0 : Int32)))  (hq0 : q0 < 128) (hq1 : q1 < 128) (hq2 : q2 < 128) :
    MetFree l (⟨"java/lang/StringLatin1", "toChars", "([B)[C"⟩ : MethodName) (head1 (Jvm.Cond.code (⟨"java/lang/StringLatin1", "toChars", "([B)[C"⟩ : MethodName) jdk_43_method_9_code 2 (some (.array .char)) :: ws) roomtch3) (fun aa_ U_ => aa_ = #[(.ref t)] ∧ Z.Warmed39 U_.vm ∧ U_.heap = h0) (fun _ _ _ _ _ => True) (fun _ U_ o_ W_ => ∃ v_ L_, o_ = .returned v_ ∧ (Qtch3 Z q0 q1 q2 h0 n0) v_ W_.heap L_ ∧ FrameEnd U_ o_ W_ L_ roomtch3.cells roomtch3.slots) := by
  refine own_met (Q := (Qtch3 Z q0 q1 q2 h0 n0)) (L0 := #[.val (.ref t), .unset]) (plainFor_of_name pn_1) (fun m => by first | (simp [entryFrame, mkF, argsToLocals, Value.category]; done) | rfl) ?_
  intro p e s m below meth c T0 X0 hx hby hml hown hnm hret hlk hZ e0
  have N0 := Fr.nil n0
  have K0 := Keep.refl h0 []
  refine Go.st (T' := T0) (pc' := 1) (L' := #[.val (.ref t), .unset]) (S' := [(.ref t)]) (fun t_ k_ => XS.aloadN X0.here hx rfl (hb hby d11_0) rfl rfl  k_) ?_
  obtain ⟨cl1, Ar1, -, q1a, q1b, -, -⟩ := id V_t
  refine Go.st (T' := T0) (pc' := 2) (L' := #[.val (.ref t), .unset]) (S' := [(.int (3 : Int32))]) (fun t_ k_ => own_len X0 hx hZ e0 Ar1 q1a q1b (g := (mkF m 1 #[.val (.ref t), .unset] [(.ref t)])) rfl rfl (hb hby d11_1) t_ k_) ?_
  obtain ⟨T2, h2, k2, X2, e2, E2, A2, st2⟩ := newP X0 hx hZ (hw _ (List.mem_of_getElem? (i := 7) rfl)) e0 (g := (mkF m 2 #[.val (.ref t), .unset] [(.int (3 : Int32))])) rfl (hb hby d11_2) rfl (by decide) (cap := 3) (by decide) (by decide) (by decide) (by decide)
  obtain ⟨b2, g2⟩ : ∃ z, z = h0.size := ⟨_, rfl⟩
  rw [← g2] at A2 st2
  have ne_t_b2 : t ≠ b2 := Nat.ne_of_lt (Nat.lt_of_lt_of_le V_t.lt (Nat.le_of_eq g2.symm))
  have g_b2 : n0 ≤ b2 := Nat.le_trans Z0 (Nat.le_of_eq g2.symm)
  have sz_b2 : h0.size ≤ b2 := Nat.le_trans K0.1 (Nat.le_of_eq g2.symm)
  replace Z0 := Nat.le_trans Z0 E2.1
  replace K0 := K0.ext E2
  replace V_t := V_t.ext E2
  have V_b2 : Arv Z h2 b2 k2 .char (3 : Int32) [(.int (0 : Int32)), (.int (0 : Int32)), (.int (0 : Int32))] (.int (0 : Int32)) := (Arv.new A2 (by decide)).pad (pad_rep [] (.int (0 : Int32)) 3)
  refine Go.st (T' := T2) (pc' := 4) (L' := #[.val (.ref t), .unset]) (S' := [(.ref b2)]) st2 ?_
  refine Go.st (T' := T2) (pc' := 5) (L' := #[.val (.ref t), .val (.ref b2)]) (S' := []) (fun t_ k_ => XS.astoreN X2.here hx rfl (hb hby d11_4) rfl rfl (l' := #[.val (.ref t), .val (.ref b2)]) rfl k_) ?_
  refine Go.st (T' := T2) (pc' := 6) (L' := #[.val (.ref t), .val (.ref b2)]) (S' := [(.ref t)]) (fun t_ k_ => XS.aloadN X2.here hx rfl (hb hby d11_5) rfl rfl  k_) ?_
  refine Go.st (T' := T2) (pc' := 7) (L' := #[.val (.ref t), .val (.ref b2)]) (S' := [(.int (0 : Int32)), (.ref t)]) (fun t_ k_ => XS.iconst X2.here hx rfl (hb hby d11_6) k_) ?_
  refine Go.st (T' := T2) (pc' := 8) (L' := #[.val (.ref t), .val (.ref b2)]) (S' := [(.ref b2), (.int (0 : Int32)), (.ref t)]) (fun t_ k_ => XS.aloadN X2.here hx rfl (hb hby d11_7) rfl rfl  k_) ?_
  refine Go.st (T' := T2) (pc' := 9) (L' := #[.val (.ref t), .val (.ref b2)]) (S' := [(.int (0 : Int32)), (.ref b2), (.int (0 : Int32)), (.ref t)]) (fun t_ k_ => XS.iconst X2.here hx rfl (hb hby d11_8) k_) ?_
  refine Go.st (T' := T2) (pc' := 10) (L' := #[.val (.ref t), .val (.ref b2)]) (S' := [(.ref t), (.int (0 : Int32)), (.ref b2), (.int (0 : Int32)), (.ref t)]) (fun t_ k_ => XS.aloadN X2.here hx rfl (hb hby d11_9) rfl rfl  k_) ?_
  obtain ⟨cl3, Ar3, -, q3a, q3b, -, -⟩ := id V_t
  refine Go.st (T' := T2) (pc' := 11) (L' := #[.val (.ref t), .val (.ref b2)]) (S' := [(.int (3 : Int32)), (.int (0 : Int32)), (.ref b2), (.int (0 : Int32)), (.ref t)]) (fun t_ k_ => own_len X2 hx hZ e2 Ar3 q3a q3b (g := (mkF m 10 #[.val (.ref t), .val (.ref b2)] [(.ref t), (.int (0 : Int32)), (.ref b2), (.int (0 : Int32)), (.ref t)])) rfl rfl (hb hby d11_10) t_ k_) ?_
  obtain ⟨_, _, ⟨T4, L4, k4, n4⟩, -, X4, ⟨Lc4, hQ4, l4, y4, z4⟩, st4⟩ := Jvm.LawKit.callS X2 hx (y := (⟨"java/lang/StringLatin1", "inflate", "([BI[CII)V"⟩ : MethodName)) hown (mvT hZ (hw _ (List.mem_of_getElem? (i := 53) rfl))) (mvT hZ (hw _ (List.mem_of_getElem? (i := 54) rfl))) (mvT hZ (hw _ (List.mem_of_getElem? (i := 51) rfl))) (mvT hZ (hw _ (List.mem_of_getElem? (i := 55) rfl))) (by decide) (backOf (W := 0) (rminf3 l Z a0 hw [] t b2 _ _ q0 q1 q2 h2 n0 Z0 V_t V_b2 ne_t_b2 g_b2 hq0 hq1 hq2) hZ (hw _ (List.mem_of_getElem? (i := 55) rfl)) (hw _ (List.mem_of_getElem? (i := 51) rfl)) (by decide) (by decide)) (g := (mkF m 11 #[.val (.ref t), .val (.ref b2)] [(.int (3 : Int32)), (.int (0 : Int32)), (.ref b2), (.int (0 : Int32)), (.ref t)])) rfl (by rw [hml]; rfl) (argsL := [(.ref t), (.int (0 : Int32)), (.ref b2), (.int (0 : Int32)), (.int (3 : Int32))]) (rest := []) (lenOf pd_1 rfl) rfl (by show 2 * 0 + _ ≤ _; exact Nat.le_of_eq rfl) (hb hby d11_11) (fun _ _ => ⟨rfl, e2, (by decide : 1 + 0 ≤ _), (by decide : 3 + 0 ≤ _)⟩)
  dsimp only [Pt.U, Pt.locs, Pt.cells, Pt.slots] at X4 l4 y4 z4 st4 hQ4
  subst l4 y4 z4
  obtain ⟨rfl, N4q, K4, Vy4⟩ := hQ4
  have N4 := Fr.app N0 N4q
  obtain ⟨h4, e4⟩ : ∃ z, T4.heap = z := ⟨_, rfl⟩
  rw [e4] at K4 Vy4
  replace Z0 := Nat.le_trans Z0 K4.1
  replace K0 := K0.trans K4 (allS (Or.inr sz_b2) all0)
  replace V_t := V_t.keep K4 (ninS ne_t_b2 nin0)
  refine Go.st (T' := T4) (pc' := 14) (L' := #[.val (.ref t), .val (.ref b2)]) (S' := []) st4 ?_
  refine Go.st (T' := T4) (pc' := 15) (L' := #[.val (.ref t), .val (.ref b2)]) (S' := [(.ref b2)]) (fun t_ k_ => XS.aloadN X4.here hx rfl (hb hby d11_14) rfl rfl  k_) ?_
  exact Go.retO X4 hx hlk hret rfl (by simp [FieldType.isReference, Value.isRef]) (hb hby d11_15) (by decide) (by decide) (by rw [e4]; exact ⟨b2, _, rfl, N4, K0, g_b2, sz_b2, Vy4⟩)

def Qtca3 (Z : State) (q0 : Nat) (q1 : Nat) (q2 : Nat) (h0 : Heap) (n0 : Nat) (v : Option Value) (h : Heap) (L : List Loc) : Prop := ∃ (y : Addr) (ky : ClassId), v = some (.ref y) ∧ Fr n0 L ∧ Keep h0 h [] ∧ n0 ≤ y ∧ h0.size ≤ y ∧ Arv Z h y ky .char (3 : Int32) [(.int (q0.toInt32)), (.int (q1.toInt32)), (.int (q2.toInt32))] (.int (0 : Int32))
def roomtca3 : Room := { frames := 2, cells := 1, slots := 3, locals := 30 }
set_option maxRecDepth 65536 in
set_option maxHeartbeats 40000000 in
theorem rmtca3 (l : Launch) (Z : State) (a0 : Array Value) (hw : ∀ d ∈ tables_1, d.before a0 Z = true) (ws : List Jvm.Cond) (a1 : Addr) (t : Addr) (kt : ClassId) (gC : Int32) (q0 : Nat) (q1 : Nat) (q2 : Nat) (h0 : Heap) (n0 : Nat) (Z0 : n0 ≤ h0.size) (SC : Sta Z Z.heap "java/lang/String" "COMPACT_STRINGS" "Z" (.int gC)) (PC : ¬ (gC = (0 : Int32))) (O0 : Old Z n0 h0) (E_a1 : Exa Z h0 a1 "java/lang/String") (F_coder : Fld Z h0 a1 "java/lang/String" "coder" "B" (.int (0 : Int32))) (F_value : Fld Z h0 a1 "java/lang/String" "value" "[B" (.ref t)) (V_t : Arv Z h0 t kt .byte (3 : Int32) [(.int ((nar .char (q0.toInt32)).toInt8.toInt32)), (.int ((nar .char (q1.toInt32)).toInt8.toInt32)), (.int ((nar .char (q2.toInt32)).toInt8.toInt32))] (.int (0 : Int32)))  (hq0 : q0 < 128) (hq1 : q1 < 128) (hq2 : q2 < 128) :
    MetFree l (⟨"java/lang/String", "toCharArray", "()[C"⟩ : MethodName) (head1 (Jvm.Cond.code (⟨"java/lang/String", "toCharArray", "()[C"⟩ : MethodName) jdk_42_method_129_code 1 (some (.array .char)) :: ws) roomtca3) (fun aa_ U_ => aa_ = #[(.ref a1)] ∧ Z.Warmed39 U_.vm ∧ U_.heap = h0) (fun _ _ _ _ _ => True) (fun _ U_ o_ W_ => ∃ v_ L_, o_ = .returned v_ ∧ (Qtca3 Z q0 q1 q2 h0 n0) v_ W_.heap L_ ∧ FrameEnd U_ o_ W_ L_ roomtca3.cells roomtca3.slots) := by
  refine own_met (Q := (Qtca3 Z q0 q1 q2 h0 n0)) (L0 := #[.val (.ref a1)]) (plainFor_of_name pn_0) (fun m => by first | (simp [entryFrame, mkF, argsToLocals, Value.category]; done) | rfl) ?_
  intro p e s m below meth c T0 X0 hx hby hml hown hnm hret hlk hZ e0
  have N0 := Fr.nil n0
  have K0 := Keep.refl h0 []
  refine Go.st (T' := T0) (pc' := 1) (L' := #[.val (.ref a1)]) (S' := [(.ref a1)]) (fun t_ k_ => XS.aloadN X0.here hx rfl (hb hby d9_0) rfl rfl  k_) ?_
  obtain ⟨cq1, kq1, q1a, q1b, q1c⟩ := isOf hZ e0 E_a1
  obtain ⟨_, _, ⟨T1, L1, k1, n1⟩, -, X1, ⟨Lc1, hQ1, l1, y1, z1⟩, st1⟩ := X0.virtualBack hx (y := (⟨"java/lang/String", "isLatin1", "()Z"⟩ : MethodName)) (z := (⟨"java/lang/String", "isLatin1", "()Z"⟩ : MethodName)) hown (mvT hZ (hw _ (List.mem_of_getElem? (i := 44) rfl))) (mvT hZ (hw _ (List.mem_of_getElem? (i := 45) rfl))) (notFace_of_selects (args := #[]) (mvT hZ (hw _ (List.mem_of_getElem? (i := 47) rfl)))) (mvT hZ (hw _ (List.mem_of_getElem? (i := 47) rfl))) (mvT hZ (hw _ (List.mem_of_getElem? (i := 46) rfl))) (by decide) (backOf (W := 0) (rm10 l Z a0 hw [] a1 gC h0 n0 Z0 SC PC O0 F_coder) hZ (hw _ (List.mem_of_getElem? (i := 48) rfl)) (hw _ (List.mem_of_getElem? (i := 6) rfl)) (by decide) (by decide)) q1a q1c (g := (mkF m 1 #[.val (.ref a1)] [(.ref a1)])) rfl (by rw [hml]; rfl) (Steps.refl _) (argsL := []) (rest := []) (lenOf pd_2 rfl) rfl (by show 2 * 0 + _ ≤ _; exact Nat.le_of_eq rfl) (hb hby d9_1) (fun _ _ => ⟨rfl, e0, (by decide : 0 + 0 ≤ _), (by decide : 0 + 0 ≤ _)⟩)
  dsimp only [Pt.U, Pt.locs, Pt.cells, Pt.slots] at X1 l1 y1 z1 st1 hQ1
  subst l1 y1 z1
  obtain ⟨rfl, N1q, e1⟩ := hQ1
  have N1 := Fr.app N0 N1q
  refine Go.tr (T' := T1) (pc' := 4) (L' := #[.val (.ref a1)]) (S' := [(.int (1 : Int32))]) st1 ?_
  refine Go.st (T' := T1) (pc' := 7) (L' := #[.val (.ref a1)]) (S' := []) (fun t_ k_ => XS.ifNo X1.here hx rfl (hb hby d9_4) rfl ((if0 _ _).trans (feq (by decide : ¬ ((1 : Int32) = (0 : Int32)))).1) k_) ?_
  refine Go.st (T' := T1) (pc' := 8) (L' := #[.val (.ref a1)]) (S' := [(.ref a1)]) (fun t_ k_ => XS.aloadN X1.here hx rfl (hb hby d9_7) rfl rfl  k_) ?_
  obtain ⟨T2, X2, e2, st2⟩ := getF X1 hx hZ hown (host := "") (Or.inl (hw _ (List.mem_of_getElem? (i := 32) rfl))) Via.refl e1 F_value (g := (mkF m 8 #[.val (.ref a1)] [(.ref a1)])) rfl rfl (hb hby d9_8)
  refine Go.st (T' := T2) (pc' := 11) (L' := #[.val (.ref a1)]) (S' := [(.ref t)]) st2 ?_
  obtain ⟨_, _, ⟨T3, L3, k3, n3⟩, -, X3, ⟨Lc3, hQ3, l3, y3, z3⟩, st3⟩ := Jvm.LawKit.callS X2 hx (y := (⟨"java/lang/StringLatin1", "toChars", "([B)[C"⟩ : MethodName)) hown (mvT hZ (hw _ (List.mem_of_getElem? (i := 49) rfl))) (mvT hZ (hw _ (List.mem_of_getElem? (i := 50) rfl))) (mvT hZ (hw _ (List.mem_of_getElem? (i := 51) rfl))) (mvT hZ (hw _ (List.mem_of_getElem? (i := 52) rfl))) (by decide) (backOf (W := 0) (rmtch3 l Z a0 hw [] t _ q0 q1 q2 h0 n0 Z0 V_t hq0 hq1 hq2) hZ (hw _ (List.mem_of_getElem? (i := 52) rfl)) (hw _ (List.mem_of_getElem? (i := 51) rfl)) (by decide) (by decide)) (g := (mkF m 11 #[.val (.ref a1)] [(.ref t)])) rfl (by rw [hml]; rfl) (argsL := [(.ref t)]) (rest := []) (lenOf pd_3 rfl) rfl (by show 2 * 0 + _ ≤ _; exact Nat.le_of_eq rfl) (hb hby d9_11) (fun _ _ => ⟨rfl, e2, (by decide : 0 + 1 ≤ _), (by decide : 0 + 3 ≤ _)⟩)
  dsimp only [Pt.U, Pt.locs, Pt.cells, Pt.slots] at X3 l3 y3 z3 st3 hQ3
  subst l3 y3 z3
  obtain ⟨y3, ky3, rfl, N3q, K3, g_y3, lt3, Vy3⟩ := hQ3
  have N3 := Fr.app N1 N3q
  have ne_a1_y3 : a1 ≠ y3 := Nat.ne_of_lt (Nat.lt_of_lt_of_le E_a1.lt lt3)
  have ne_t_y3 : t ≠ y3 := Nat.ne_of_lt (Nat.lt_of_lt_of_le V_t.lt lt3)
  have sz_y3 : h0.size ≤ y3 := Nat.le_trans K0.1 lt3
  obtain ⟨h3, e3⟩ : ∃ z, T3.heap = z := ⟨_, rfl⟩
  rw [e3] at K3 Vy3
  replace Z0 := Nat.le_trans Z0 K3.1
  replace O0 := O0.keep K3 all0
  replace E_a1 := E_a1.keep K3
  replace F_coder := F_coder.keep K3 nin0
  replace F_value := F_value.keep K3 nin0
  replace V_t := V_t.keep K3 nin0
  replace K0 := K0.trans K3 all0
  refine Go.st (T' := T3) (pc' := 14) (L' := #[.val (.ref a1)]) (S' := [(.ref y3)]) st3 ?_
  refine Go.st (T' := T3) (pc' := 24) (L' := #[.val (.ref a1)]) (S' := [(.ref y3)]) (fun t_ k_ => XS.goto X3.here hx rfl (pc0 := 14) (pc' := 24) rfl (hb hby d9_14) (by decide) (by decide) k_) ?_
  exact Go.retO X3 hx hlk hret rfl (by simp [FieldType.isReference, Value.isRef]) (hb hby d9_24) (by decide) (by decide) (by rw [e3]; exact ⟨y3, _, rfl, N3, K0, g_y3, sz_y3, Vy3⟩)
def Qcsa3 (Z : State) (q0 : Nat) (q1 : Nat) (q2 : Nat) (h0 : Heap) (n0 : Nat) (v : Option Value) (h : Heap) (L : List Loc) : Prop := ∃ (b : Addr) (kb : ClassId) (M : List Int32), v = some (.ref b) ∧ Fr n0 L ∧ Keep h0 h [] ∧ Arv Z h b kb .boolean (128 : Int32) (M.map Value.int) (.int 0) ∧ ∀ j, j < 128 → M.getD j 0 = if j < 33 ∨ j = q0 ∨ j = q1 ∨ j = q2 then 1 else 0
theorem own_fin3 {M : List Int32} {q0 : Nat} {q1 : Nat} {q2 : Nat} (hM : ∀ j, j < 128 → M.getD j 0 = if j < 33 then 1 else 0) (lM : M.length = 128) (hq0 : q0 < 128) (hq1 : q1 < 128) (hq2 : q2 < 128) {j : Nat} (hj : j < 128) : ((((M.set q0 (nar .boolean (1 : Int32))).set q1 (nar .boolean (1 : Int32))).set q2 (nar .boolean (1 : Int32)))).getD j 0 = if j < 33 ∨ j = q0 ∨ j = q1 ∨ j = q2 then 1 else 0 := by
  rw [own_set1 (by first | exact lM | (simp only [List.length_set]; exact lM)) hq2 hj]
  rw [own_set1 (by first | exact lM | (simp only [List.length_set]; exact lM)) hq1 hj]
  rw [own_set1 (by first | exact lM | (simp only [List.length_set]; exact lM)) hq0 hj]
  rw [hM j hj]
  by_cases h33 : j < 33 <;> by_cases e0 : j = q0 <;> by_cases e1 : j = q1 <;> by_cases e2 : j = q2 <;> simp [h33, e0, e1, e2]

def roomcsa3 : Room := { frames := 3, cells := 2, slots := 131, locals := 42 }
set_option maxRecDepth 65536 in
set_option maxHeartbeats 40000000 in
theorem seg24_3 {p : Program} {l : Launch} {e : Env} {s : State} {m : MethodId} {args : Array Value} {below : List Frame} {meth : Method} {c : Code} {T0 : State} {locs : List Loc} {Z : State} {a0 : Array Value} {n0 : Nat} {h0 hh : Heap} (a1 : Addr) (t : Addr) (kt : ClassId) (gC : Int32) (q0 : Nat) (q1 : Nat) (q2 : Nat) (b : Addr) (kb : ClassId) (M : List Int32)
    (X0 : Stand p l e roomcsa3 s m args below meth c T0 locs 1 128) (hx : p.tables.exec = Jvm.exec) (hZ : Z.Warmed39 s.vm) (hw : ∀ d ∈ tables_1, d.before a0 Z = true) (hby : c.code = prog_43_method_2_code) (hml : c.maxLocals = 6) (hown : s.vm.findClass "com/example/traversal/traversal/graph/Iris" = some m.cls) (hnm : meth.name = "controlsSpaceAnd") (hret : meth.sig.returnType = (some (.array .boolean))) (hlk : meth.locks = false) (e0 : T0.heap = hh) (N0 : Fr n0 locs) (SC : Sta Z Z.heap "java/lang/String" "COMPACT_STRINGS" "Z" (.int gC)) (PC : ¬ (gC = (0 : Int32))) (O0 : Old Z n0 hh) (Z0 : n0 ≤ hh.size) (E_a1 : Exa Z hh a1 "java/lang/String") (F_coder : Fld Z hh a1 "java/lang/String" "coder" "B" (.int (0 : Int32))) (F_value : Fld Z hh a1 "java/lang/String" "value" "[B" (.ref t)) (V_t : Arv Z hh t kt .byte (3 : Int32) [(.int ((nar .char (q0.toInt32)).toInt8.toInt32)), (.int ((nar .char (q1.toInt32)).toInt8.toInt32)), (.int ((nar .char (q2.toInt32)).toInt8.toInt32))] (.int (0 : Int32)))  (hq0 : q0 < 128) (hq1 : q1 < 128) (hq2 : q2 < 128) (V_b : Arv Z hh b kb .boolean (128 : Int32) (M.map Value.int) (.int 0)) (lM : M.length = 128) (g_b : n0 ≤ b) (nab : a1 ≠ b) (ntb : t ≠ b) (sz_b : h0.size ≤ b) (K0 : Keep h0 hh []) (hM : ∀ j, j < 128 → M.getD j 0 = if j < 33 then 1 else 0) :
    Go p e below s roomcsa3.cells roomcsa3.slots (Qcsa3 Z q0 q1 q2 h0 n0) m T0 24 #[.val (.ref a1), .val (.ref b), .val (.int (Nat.toInt32 33)), .unset, .unset, .unset] [] := by
  refine Go.st (T' := T0) (pc' := 25) (L' := #[.val (.ref a1), .val (.ref b), .val (.int (Nat.toInt32 33)), .unset, .unset, .unset]) (S' := [(.ref a1)]) (fun t_ k_ => XS.aloadN X0.here hx rfl (hb hby d8_24) rfl rfl  k_) ?_
  obtain ⟨cq1, kq1, q1a, q1b, q1c⟩ := isOf hZ e0 E_a1
  obtain ⟨_, _, ⟨T1, L1, k1, n1⟩, -, X1, ⟨Lc1, hQ1, l1, y1, z1⟩, st1⟩ := X0.virtualBack hx (y := (⟨"java/lang/String", "toCharArray", "()[C"⟩ : MethodName)) (z := (⟨"java/lang/String", "toCharArray", "()[C"⟩ : MethodName)) hown (mvT hZ (hw _ (List.mem_of_getElem? (i := 39) rfl))) (mvT hZ (hw _ (List.mem_of_getElem? (i := 40) rfl))) (notFace_of_selects (args := #[]) (mvT hZ (hw _ (List.mem_of_getElem? (i := 42) rfl)))) (mvT hZ (hw _ (List.mem_of_getElem? (i := 42) rfl))) (mvT hZ (hw _ (List.mem_of_getElem? (i := 41) rfl))) (by decide) (backOf (W := 0) (rmtca3 l Z a0 hw [] a1 t _ gC q0 q1 q2 hh n0 Z0 SC PC O0 E_a1 F_coder F_value V_t hq0 hq1 hq2) hZ (hw _ (List.mem_of_getElem? (i := 43) rfl)) (hw _ (List.mem_of_getElem? (i := 6) rfl)) (by decide) (by decide)) q1a q1c (g := (mkF m 25 #[.val (.ref a1), .val (.ref b), .val (.int (Nat.toInt32 33)), .unset, .unset, .unset] [(.ref a1)])) rfl (by rw [hml]; rfl) (Steps.refl _) (argsL := []) (rest := []) (lenOf pd_4 rfl) rfl (by show 2 * 0 + _ ≤ _; exact Nat.le_of_eq rfl) (hb hby d8_25) (fun _ _ => ⟨rfl, e0, (by decide : 1 + 1 ≤ _), (by decide : 128 + 3 ≤ _)⟩)
  dsimp only [Pt.U, Pt.locs, Pt.cells, Pt.slots] at X1 l1 y1 z1 st1 hQ1
  subst l1 y1 z1
  obtain ⟨y1, ky1, rfl, N1q, K1, g_y1, lt1, Vy1⟩ := hQ1
  have N1 := Fr.app N0 N1q
  have ne_a1_y1 : a1 ≠ y1 := Nat.ne_of_lt (Nat.lt_of_lt_of_le E_a1.lt lt1)
  have ne_t_y1 : t ≠ y1 := Nat.ne_of_lt (Nat.lt_of_lt_of_le V_t.lt lt1)
  have ne_b_y1 : b ≠ y1 := Nat.ne_of_lt (Nat.lt_of_lt_of_le V_b.lt lt1)
  have sz_y1 : h0.size ≤ y1 := Nat.le_trans K0.1 lt1
  obtain ⟨h1, e1⟩ : ∃ z, T1.heap = z := ⟨_, rfl⟩
  rw [e1] at K1 Vy1
  replace Z0 := Nat.le_trans Z0 K1.1
  replace O0 := O0.keep K1 all0
  replace E_a1 := E_a1.keep K1
  replace F_coder := F_coder.keep K1 nin0
  replace F_value := F_value.keep K1 nin0
  replace V_t := V_t.keep K1 nin0
  replace K0 := K0.trans K1 all0
  replace V_b := V_b.keep K1 nin0
  refine Go.tr (T' := T1) (pc' := 28) (L' := #[.val (.ref a1), .val (.ref b), .val (.int (Nat.toInt32 33)), .unset, .unset, .unset]) (S' := [(.ref y1)]) st1 ?_
  refine Go.st (T' := T1) (pc' := 29) (L' := #[.val (.ref a1), .val (.ref b), .val (.ref y1), .unset, .unset, .unset]) (S' := []) (fun t_ k_ => XS.astoreN X1.here hx rfl (hb hby d8_28) rfl rfl (l' := #[.val (.ref a1), .val (.ref b), .val (.ref y1), .unset, .unset, .unset]) rfl k_) ?_
  refine Go.st (T' := T1) (pc' := 30) (L' := #[.val (.ref a1), .val (.ref b), .val (.ref y1), .unset, .unset, .unset]) (S' := [(.ref y1)]) (fun t_ k_ => XS.aloadN X1.here hx rfl (hb hby d8_29) rfl rfl  k_) ?_
  obtain ⟨cl2, Ar2, -, q2a, q2b, -, -⟩ := id Vy1
  refine Go.st (T' := T1) (pc' := 31) (L' := #[.val (.ref a1), .val (.ref b), .val (.ref y1), .unset, .unset, .unset]) (S' := [(.int (3 : Int32))]) (fun t_ k_ => own_len X1 hx hZ e1 Ar2 q2a q2b (g := (mkF m 30 #[.val (.ref a1), .val (.ref b), .val (.ref y1), .unset, .unset, .unset] [(.ref y1)])) rfl rfl (hb hby d8_30) t_ k_) ?_
  refine Go.st (T' := T1) (pc' := 32) (L' := #[.val (.ref a1), .val (.ref b), .val (.ref y1), .val (.int (3 : Int32)), .unset, .unset]) (S' := []) (fun t_ k_ => XS.istoreN X1.here hx rfl (hb hby d8_31) rfl (l' := #[.val (.ref a1), .val (.ref b), .val (.ref y1), .val (.int (3 : Int32)), .unset, .unset]) rfl k_) ?_
  refine Go.st (T' := T1) (pc' := 33) (L' := #[.val (.ref a1), .val (.ref b), .val (.ref y1), .val (.int (3 : Int32)), .unset, .unset]) (S' := [(.int (0 : Int32))]) (fun t_ k_ => XS.iconst X1.here hx rfl (hb hby d8_32) k_) ?_
  refine Go.st (T' := T1) (pc' := 35) (L' := #[.val (.ref a1), .val (.ref b), .val (.ref y1), .val (.int (3 : Int32)), .val (.int (0 : Int32)), .unset]) (S' := []) (fun t_ k_ => XS.istore X1.here hx rfl (hb hby d8_33) rfl (l' := #[.val (.ref a1), .val (.ref b), .val (.ref y1), .val (.int (3 : Int32)), .val (.int (0 : Int32)), .unset]) rfl k_) ?_
  refine Go.st (T' := T1) (pc' := 37) (L' := #[.val (.ref a1), .val (.ref b), .val (.ref y1), .val (.int (3 : Int32)), .val (.int (0 : Int32)), .unset]) (S' := [(.int (0 : Int32))]) (fun t_ k_ => XS.iload X1.here hx rfl (hb hby d8_35) rfl  k_) ?_
  refine Go.st (T' := T1) (pc' := 38) (L' := #[.val (.ref a1), .val (.ref b), .val (.ref y1), .val (.int (3 : Int32)), .val (.int (0 : Int32)), .unset]) (S' := [(.int (3 : Int32)), (.int (0 : Int32))]) (fun t_ k_ => XS.iloadN X1.here hx rfl (hb hby d8_37) rfl  k_) ?_
  refine Go.st (T' := T1) (pc' := 41) (L' := #[.val (.ref a1), .val (.ref b), .val (.ref y1), .val (.int (3 : Int32)), .val (.int (0 : Int32)), .unset]) (S' := []) (fun t_ k_ => XS.icmpNo X1.here hx rfl (hb hby d8_38) rfl (tlt (by decide : ((0 : Int32) < (3 : Int32)))).2.1 k_) ?_
  refine Go.st (T' := T1) (pc' := 42) (L' := #[.val (.ref a1), .val (.ref b), .val (.ref y1), .val (.int (3 : Int32)), .val (.int (0 : Int32)), .unset]) (S' := [(.ref y1)]) (fun t_ k_ => XS.aloadN X1.here hx rfl (hb hby d8_41) rfl rfl  k_) ?_
  refine Go.st (T' := T1) (pc' := 44) (L' := #[.val (.ref a1), .val (.ref b), .val (.ref y1), .val (.int (3 : Int32)), .val (.int (0 : Int32)), .unset]) (S' := [(.int (0 : Int32)), (.ref y1)]) (fun t_ k_ => XS.iload X1.here hx rfl (hb hby d8_42) rfl  k_) ?_
  obtain ⟨cl3, Ar3, -, q3a, q3b, q3c, q3d⟩ := id Vy1
  refine Go.st (T' := T1) (pc' := 45) (L' := #[.val (.ref a1), .val (.ref b), .val (.ref y1), .val (.int (3 : Int32)), .val (.int (0 : Int32)), .unset]) (S' := [(.int (q0.toInt32))]) (fun t_ k_ => X1.caload hx (j := (0 : Int32)) (v := (.int (q0.toInt32))) (by rw [e1]; exact Ar3.1) (State.isArrayOf_alike hZ.alike Ar3.2.1) Ar3.2.2 (inb_of q3a ⟨by decide, by decide⟩) (q3c.at (inb_of q3a ⟨by decide, by decide⟩) rfl) (g := (mkF m 44 #[.val (.ref a1), .val (.ref b), .val (.ref y1), .val (.int (3 : Int32)), .val (.int (0 : Int32)), .unset] [(.int (0 : Int32)), (.ref y1)])) rfl rfl (hb hby d8_44) t_ k_) ?_
  refine Go.st (T' := T1) (pc' := 47) (L' := #[.val (.ref a1), .val (.ref b), .val (.ref y1), .val (.int (3 : Int32)), .val (.int (0 : Int32)), .val (.int (q0.toInt32))]) (S' := []) (fun t_ k_ => XS.istore X1.here hx rfl (hb hby d8_45) rfl (l' := #[.val (.ref a1), .val (.ref b), .val (.ref y1), .val (.int (3 : Int32)), .val (.int (0 : Int32)), .val (.int (q0.toInt32))]) rfl k_) ?_
  refine Go.st (T' := T1) (pc' := 48) (L' := #[.val (.ref a1), .val (.ref b), .val (.ref y1), .val (.int (3 : Int32)), .val (.int (0 : Int32)), .val (.int (q0.toInt32))]) (S' := [(.ref b)]) (fun t_ k_ => XS.aloadN X1.here hx rfl (hb hby d8_47) rfl rfl  k_) ?_
  refine Go.st (T' := T1) (pc' := 50) (L' := #[.val (.ref a1), .val (.ref b), .val (.ref y1), .val (.int (3 : Int32)), .val (.int (0 : Int32)), .val (.int (q0.toInt32))]) (S' := [(.int (q0.toInt32)), (.ref b)]) (fun t_ k_ => XS.iload X1.here hx rfl (hb hby d8_48) rfl  k_) ?_
  refine Go.st (T' := T1) (pc' := 51) (L' := #[.val (.ref a1), .val (.ref b), .val (.ref y1), .val (.int (3 : Int32)), .val (.int (0 : Int32)), .val (.int (q0.toInt32))]) (S' := [(.int (1 : Int32)), (.int (q0.toInt32)), (.ref b)]) (fun t_ k_ => XS.iconst X1.here hx rfl (hb hby d8_50) k_) ?_
  obtain ⟨cl4, Ar4, q41, q42, q43, q44, q45⟩ := V_b
  obtain ⟨T4, h4, X4, e4, W4, st4⟩ := stZ X1 hx hZ e1 Ar4 (j := (q0.toInt32)) (own_inb q42 (N := 128) (by decide) (by omega) (by decide)) (g := (mkF m 51 #[.val (.ref a1), .val (.ref b), .val (.ref y1), .val (.int (3 : Int32)), .val (.int (0 : Int32)), .val (.int (q0.toInt32))] [(.int (1 : Int32)), (.int (q0.toInt32)), (.ref b)])) rfl rfl (hb hby d8_51)
  replace V_b := Arv.set Ar4 q41 q42 q43 q44 q45 (fits_nar_bool _) W4 (q0) (own_tn (by omega)) (by rw [List.length_map, show List.length M = 128 from lM]; omega)
  rw [own_setI] at V_b
  replace Z0 := Nat.le_trans Z0 (Keep.of_wr W4).1
  replace O0 := O0.wr W4 g_b
  replace E_a1 := E_a1.wr W4
  replace F_coder := F_coder.other W4 (Or.inl nab)
  replace F_value := F_value.other W4 (Or.inl nab)
  replace V_t := V_t.other W4 ntb
  replace K0 := K0.wr W4 (Or.inr sz_b)
  replace Vy1 := Vy1.other W4 (Ne.symm ne_b_y1)
  have N4 := Fr.snoc X4 N1 g_b
  refine Go.st (T' := T4) (pc' := 52) (L' := #[.val (.ref a1), .val (.ref b), .val (.ref y1), .val (.int (3 : Int32)), .val (.int (0 : Int32)), .val (.int (q0.toInt32))]) (S' := []) st4 ?_
  refine Go.st (T' := T4) (pc' := 55) (L' := #[.val (.ref a1), .val (.ref b), .val (.ref y1), .val (.int (3 : Int32)), .val (.int ((0 : Int32) + (1 : Int32))), .val (.int (q0.toInt32))]) (S' := []) (fun t_ k_ => XS.iinc X4.here hx rfl (hb hby d8_52) rfl (l' := #[.val (.ref a1), .val (.ref b), .val (.ref y1), .val (.int (3 : Int32)), .val (.int ((0 : Int32) + (1 : Int32))), .val (.int (q0.toInt32))]) rfl k_) ?_
  rw [show ((0 : Int32) + (1 : Int32)) = (1 : Int32) from by decide]
  refine Go.st (T' := T4) (pc' := 35) (L' := #[.val (.ref a1), .val (.ref b), .val (.ref y1), .val (.int (3 : Int32)), .val (.int (1 : Int32)), .val (.int (q0.toInt32))]) (S' := []) (fun t_ k_ => XS.goto X4.here hx rfl (pc0 := 55) (pc' := 35) rfl (hb hby d8_55) (by decide) (by decide) k_) ?_
  refine Go.st (T' := T4) (pc' := 37) (L' := #[.val (.ref a1), .val (.ref b), .val (.ref y1), .val (.int (3 : Int32)), .val (.int (1 : Int32)), .val (.int (q0.toInt32))]) (S' := [(.int (1 : Int32))]) (fun t_ k_ => XS.iload X4.here hx rfl (hb hby d8_35) rfl  k_) ?_
  refine Go.st (T' := T4) (pc' := 38) (L' := #[.val (.ref a1), .val (.ref b), .val (.ref y1), .val (.int (3 : Int32)), .val (.int (1 : Int32)), .val (.int (q0.toInt32))]) (S' := [(.int (3 : Int32)), (.int (1 : Int32))]) (fun t_ k_ => XS.iloadN X4.here hx rfl (hb hby d8_37) rfl  k_) ?_
  refine Go.st (T' := T4) (pc' := 41) (L' := #[.val (.ref a1), .val (.ref b), .val (.ref y1), .val (.int (3 : Int32)), .val (.int (1 : Int32)), .val (.int (q0.toInt32))]) (S' := []) (fun t_ k_ => XS.icmpNo X4.here hx rfl (hb hby d8_38) rfl (tlt (by decide : ((1 : Int32) < (3 : Int32)))).2.1 k_) ?_
  refine Go.st (T' := T4) (pc' := 42) (L' := #[.val (.ref a1), .val (.ref b), .val (.ref y1), .val (.int (3 : Int32)), .val (.int (1 : Int32)), .val (.int (q0.toInt32))]) (S' := [(.ref y1)]) (fun t_ k_ => XS.aloadN X4.here hx rfl (hb hby d8_41) rfl rfl  k_) ?_
  refine Go.st (T' := T4) (pc' := 44) (L' := #[.val (.ref a1), .val (.ref b), .val (.ref y1), .val (.int (3 : Int32)), .val (.int (1 : Int32)), .val (.int (q0.toInt32))]) (S' := [(.int (1 : Int32)), (.ref y1)]) (fun t_ k_ => XS.iload X4.here hx rfl (hb hby d8_42) rfl  k_) ?_
  obtain ⟨cl5, Ar5, -, q5a, q5b, q5c, q5d⟩ := id Vy1
  refine Go.st (T' := T4) (pc' := 45) (L' := #[.val (.ref a1), .val (.ref b), .val (.ref y1), .val (.int (3 : Int32)), .val (.int (1 : Int32)), .val (.int (q0.toInt32))]) (S' := [(.int (q1.toInt32))]) (fun t_ k_ => X4.caload hx (j := (1 : Int32)) (v := (.int (q1.toInt32))) (by rw [e4]; exact Ar5.1) (State.isArrayOf_alike hZ.alike Ar5.2.1) Ar5.2.2 (inb_of q5a ⟨by decide, by decide⟩) (q5c.at (inb_of q5a ⟨by decide, by decide⟩) rfl) (g := (mkF m 44 #[.val (.ref a1), .val (.ref b), .val (.ref y1), .val (.int (3 : Int32)), .val (.int (1 : Int32)), .val (.int (q0.toInt32))] [(.int (1 : Int32)), (.ref y1)])) rfl rfl (hb hby d8_44) t_ k_) ?_
  refine Go.st (T' := T4) (pc' := 47) (L' := #[.val (.ref a1), .val (.ref b), .val (.ref y1), .val (.int (3 : Int32)), .val (.int (1 : Int32)), .val (.int (q1.toInt32))]) (S' := []) (fun t_ k_ => XS.istore X4.here hx rfl (hb hby d8_45) rfl (l' := #[.val (.ref a1), .val (.ref b), .val (.ref y1), .val (.int (3 : Int32)), .val (.int (1 : Int32)), .val (.int (q1.toInt32))]) rfl k_) ?_
  refine Go.st (T' := T4) (pc' := 48) (L' := #[.val (.ref a1), .val (.ref b), .val (.ref y1), .val (.int (3 : Int32)), .val (.int (1 : Int32)), .val (.int (q1.toInt32))]) (S' := [(.ref b)]) (fun t_ k_ => XS.aloadN X4.here hx rfl (hb hby d8_47) rfl rfl  k_) ?_
  refine Go.st (T' := T4) (pc' := 50) (L' := #[.val (.ref a1), .val (.ref b), .val (.ref y1), .val (.int (3 : Int32)), .val (.int (1 : Int32)), .val (.int (q1.toInt32))]) (S' := [(.int (q1.toInt32)), (.ref b)]) (fun t_ k_ => XS.iload X4.here hx rfl (hb hby d8_48) rfl  k_) ?_
  refine Go.st (T' := T4) (pc' := 51) (L' := #[.val (.ref a1), .val (.ref b), .val (.ref y1), .val (.int (3 : Int32)), .val (.int (1 : Int32)), .val (.int (q1.toInt32))]) (S' := [(.int (1 : Int32)), (.int (q1.toInt32)), (.ref b)]) (fun t_ k_ => XS.iconst X4.here hx rfl (hb hby d8_50) k_) ?_
  obtain ⟨cl6, Ar6, q61, q62, q63, q64, q65⟩ := V_b
  obtain ⟨T6, h6, X6, e6, W6, st6⟩ := stZ X4 hx hZ e4 Ar6 (j := (q1.toInt32)) (own_inb q62 (N := 128) (by decide) (by omega) (by decide)) (g := (mkF m 51 #[.val (.ref a1), .val (.ref b), .val (.ref y1), .val (.int (3 : Int32)), .val (.int (1 : Int32)), .val (.int (q1.toInt32))] [(.int (1 : Int32)), (.int (q1.toInt32)), (.ref b)])) rfl rfl (hb hby d8_51)
  replace V_b := Arv.set Ar6 q61 q62 q63 q64 q65 (fits_nar_bool _) W6 (q1) (own_tn (by omega)) (by rw [List.length_map, show List.length (M.set (q0) (nar .boolean (1 : Int32))) = 128 from (by rw [List.length_set]; exact lM)]; omega)
  rw [own_setI] at V_b
  replace Z0 := Nat.le_trans Z0 (Keep.of_wr W6).1
  replace O0 := O0.wr W6 g_b
  replace E_a1 := E_a1.wr W6
  replace F_coder := F_coder.other W6 (Or.inl nab)
  replace F_value := F_value.other W6 (Or.inl nab)
  replace V_t := V_t.other W6 ntb
  replace K0 := K0.wr W6 (Or.inr sz_b)
  replace Vy1 := Vy1.other W6 (Ne.symm ne_b_y1)
  have N6 := Fr.snoc X6 N4 g_b
  refine Go.st (T' := T6) (pc' := 52) (L' := #[.val (.ref a1), .val (.ref b), .val (.ref y1), .val (.int (3 : Int32)), .val (.int (1 : Int32)), .val (.int (q1.toInt32))]) (S' := []) st6 ?_
  refine Go.st (T' := T6) (pc' := 55) (L' := #[.val (.ref a1), .val (.ref b), .val (.ref y1), .val (.int (3 : Int32)), .val (.int ((1 : Int32) + (1 : Int32))), .val (.int (q1.toInt32))]) (S' := []) (fun t_ k_ => XS.iinc X6.here hx rfl (hb hby d8_52) rfl (l' := #[.val (.ref a1), .val (.ref b), .val (.ref y1), .val (.int (3 : Int32)), .val (.int ((1 : Int32) + (1 : Int32))), .val (.int (q1.toInt32))]) rfl k_) ?_
  rw [show ((1 : Int32) + (1 : Int32)) = (2 : Int32) from by decide]
  refine Go.st (T' := T6) (pc' := 35) (L' := #[.val (.ref a1), .val (.ref b), .val (.ref y1), .val (.int (3 : Int32)), .val (.int (2 : Int32)), .val (.int (q1.toInt32))]) (S' := []) (fun t_ k_ => XS.goto X6.here hx rfl (pc0 := 55) (pc' := 35) rfl (hb hby d8_55) (by decide) (by decide) k_) ?_
  refine Go.st (T' := T6) (pc' := 37) (L' := #[.val (.ref a1), .val (.ref b), .val (.ref y1), .val (.int (3 : Int32)), .val (.int (2 : Int32)), .val (.int (q1.toInt32))]) (S' := [(.int (2 : Int32))]) (fun t_ k_ => XS.iload X6.here hx rfl (hb hby d8_35) rfl  k_) ?_
  refine Go.st (T' := T6) (pc' := 38) (L' := #[.val (.ref a1), .val (.ref b), .val (.ref y1), .val (.int (3 : Int32)), .val (.int (2 : Int32)), .val (.int (q1.toInt32))]) (S' := [(.int (3 : Int32)), (.int (2 : Int32))]) (fun t_ k_ => XS.iloadN X6.here hx rfl (hb hby d8_37) rfl  k_) ?_
  refine Go.st (T' := T6) (pc' := 41) (L' := #[.val (.ref a1), .val (.ref b), .val (.ref y1), .val (.int (3 : Int32)), .val (.int (2 : Int32)), .val (.int (q1.toInt32))]) (S' := []) (fun t_ k_ => XS.icmpNo X6.here hx rfl (hb hby d8_38) rfl (tlt (by decide : ((2 : Int32) < (3 : Int32)))).2.1 k_) ?_
  refine Go.st (T' := T6) (pc' := 42) (L' := #[.val (.ref a1), .val (.ref b), .val (.ref y1), .val (.int (3 : Int32)), .val (.int (2 : Int32)), .val (.int (q1.toInt32))]) (S' := [(.ref y1)]) (fun t_ k_ => XS.aloadN X6.here hx rfl (hb hby d8_41) rfl rfl  k_) ?_
  refine Go.st (T' := T6) (pc' := 44) (L' := #[.val (.ref a1), .val (.ref b), .val (.ref y1), .val (.int (3 : Int32)), .val (.int (2 : Int32)), .val (.int (q1.toInt32))]) (S' := [(.int (2 : Int32)), (.ref y1)]) (fun t_ k_ => XS.iload X6.here hx rfl (hb hby d8_42) rfl  k_) ?_
  obtain ⟨cl7, Ar7, -, q7a, q7b, q7c, q7d⟩ := id Vy1
  refine Go.st (T' := T6) (pc' := 45) (L' := #[.val (.ref a1), .val (.ref b), .val (.ref y1), .val (.int (3 : Int32)), .val (.int (2 : Int32)), .val (.int (q1.toInt32))]) (S' := [(.int (q2.toInt32))]) (fun t_ k_ => X6.caload hx (j := (2 : Int32)) (v := (.int (q2.toInt32))) (by rw [e6]; exact Ar7.1) (State.isArrayOf_alike hZ.alike Ar7.2.1) Ar7.2.2 (inb_of q7a ⟨by decide, by decide⟩) (q7c.at (inb_of q7a ⟨by decide, by decide⟩) rfl) (g := (mkF m 44 #[.val (.ref a1), .val (.ref b), .val (.ref y1), .val (.int (3 : Int32)), .val (.int (2 : Int32)), .val (.int (q1.toInt32))] [(.int (2 : Int32)), (.ref y1)])) rfl rfl (hb hby d8_44) t_ k_) ?_
  refine Go.st (T' := T6) (pc' := 47) (L' := #[.val (.ref a1), .val (.ref b), .val (.ref y1), .val (.int (3 : Int32)), .val (.int (2 : Int32)), .val (.int (q2.toInt32))]) (S' := []) (fun t_ k_ => XS.istore X6.here hx rfl (hb hby d8_45) rfl (l' := #[.val (.ref a1), .val (.ref b), .val (.ref y1), .val (.int (3 : Int32)), .val (.int (2 : Int32)), .val (.int (q2.toInt32))]) rfl k_) ?_
  refine Go.st (T' := T6) (pc' := 48) (L' := #[.val (.ref a1), .val (.ref b), .val (.ref y1), .val (.int (3 : Int32)), .val (.int (2 : Int32)), .val (.int (q2.toInt32))]) (S' := [(.ref b)]) (fun t_ k_ => XS.aloadN X6.here hx rfl (hb hby d8_47) rfl rfl  k_) ?_
  refine Go.st (T' := T6) (pc' := 50) (L' := #[.val (.ref a1), .val (.ref b), .val (.ref y1), .val (.int (3 : Int32)), .val (.int (2 : Int32)), .val (.int (q2.toInt32))]) (S' := [(.int (q2.toInt32)), (.ref b)]) (fun t_ k_ => XS.iload X6.here hx rfl (hb hby d8_48) rfl  k_) ?_
  refine Go.st (T' := T6) (pc' := 51) (L' := #[.val (.ref a1), .val (.ref b), .val (.ref y1), .val (.int (3 : Int32)), .val (.int (2 : Int32)), .val (.int (q2.toInt32))]) (S' := [(.int (1 : Int32)), (.int (q2.toInt32)), (.ref b)]) (fun t_ k_ => XS.iconst X6.here hx rfl (hb hby d8_50) k_) ?_
  obtain ⟨cl8, Ar8, q81, q82, q83, q84, q85⟩ := V_b
  obtain ⟨T8, h8, X8, e8, W8, st8⟩ := stZ X6 hx hZ e6 Ar8 (j := (q2.toInt32)) (own_inb q82 (N := 128) (by decide) (by omega) (by decide)) (g := (mkF m 51 #[.val (.ref a1), .val (.ref b), .val (.ref y1), .val (.int (3 : Int32)), .val (.int (2 : Int32)), .val (.int (q2.toInt32))] [(.int (1 : Int32)), (.int (q2.toInt32)), (.ref b)])) rfl rfl (hb hby d8_51)
  replace V_b := Arv.set Ar8 q81 q82 q83 q84 q85 (fits_nar_bool _) W8 (q2) (own_tn (by omega)) (by rw [List.length_map, show List.length ((M.set (q0) (nar .boolean (1 : Int32))).set (q1) (nar .boolean (1 : Int32))) = 128 from (by rw [List.length_set]; exact (by rw [List.length_set]; exact lM))]; omega)
  rw [own_setI] at V_b
  replace Z0 := Nat.le_trans Z0 (Keep.of_wr W8).1
  replace O0 := O0.wr W8 g_b
  replace E_a1 := E_a1.wr W8
  replace F_coder := F_coder.other W8 (Or.inl nab)
  replace F_value := F_value.other W8 (Or.inl nab)
  replace V_t := V_t.other W8 ntb
  replace K0 := K0.wr W8 (Or.inr sz_b)
  replace Vy1 := Vy1.other W8 (Ne.symm ne_b_y1)
  have N8 := Fr.snoc X8 N6 g_b
  refine Go.st (T' := T8) (pc' := 52) (L' := #[.val (.ref a1), .val (.ref b), .val (.ref y1), .val (.int (3 : Int32)), .val (.int (2 : Int32)), .val (.int (q2.toInt32))]) (S' := []) st8 ?_
  refine Go.st (T' := T8) (pc' := 55) (L' := #[.val (.ref a1), .val (.ref b), .val (.ref y1), .val (.int (3 : Int32)), .val (.int ((2 : Int32) + (1 : Int32))), .val (.int (q2.toInt32))]) (S' := []) (fun t_ k_ => XS.iinc X8.here hx rfl (hb hby d8_52) rfl (l' := #[.val (.ref a1), .val (.ref b), .val (.ref y1), .val (.int (3 : Int32)), .val (.int ((2 : Int32) + (1 : Int32))), .val (.int (q2.toInt32))]) rfl k_) ?_
  rw [show ((2 : Int32) + (1 : Int32)) = (3 : Int32) from by decide]
  refine Go.st (T' := T8) (pc' := 35) (L' := #[.val (.ref a1), .val (.ref b), .val (.ref y1), .val (.int (3 : Int32)), .val (.int (3 : Int32)), .val (.int (q2.toInt32))]) (S' := []) (fun t_ k_ => XS.goto X8.here hx rfl (pc0 := 55) (pc' := 35) rfl (hb hby d8_55) (by decide) (by decide) k_) ?_
  refine Go.st (T' := T8) (pc' := 37) (L' := #[.val (.ref a1), .val (.ref b), .val (.ref y1), .val (.int (3 : Int32)), .val (.int (3 : Int32)), .val (.int (q2.toInt32))]) (S' := [(.int (3 : Int32))]) (fun t_ k_ => XS.iload X8.here hx rfl (hb hby d8_35) rfl  k_) ?_
  refine Go.st (T' := T8) (pc' := 38) (L' := #[.val (.ref a1), .val (.ref b), .val (.ref y1), .val (.int (3 : Int32)), .val (.int (3 : Int32)), .val (.int (q2.toInt32))]) (S' := [(.int (3 : Int32)), (.int (3 : Int32))]) (fun t_ k_ => XS.iloadN X8.here hx rfl (hb hby d8_37) rfl  k_) ?_
  refine Go.st (T' := T8) (pc' := 58) (L' := #[.val (.ref a1), .val (.ref b), .val (.ref y1), .val (.int (3 : Int32)), .val (.int (3 : Int32)), .val (.int (q2.toInt32))]) (S' := []) (fun t_ k_ => XS.icmpYes X8.here hx rfl (pc0 := 38) (pc' := 58) rfl (hb hby d8_38) rfl (flt (by decide : ¬ ((3 : Int32) < (3 : Int32)))).2.1 (by decide) (by decide) k_) ?_
  refine Go.st (T' := T8) (pc' := 59) (L' := #[.val (.ref a1), .val (.ref b), .val (.ref y1), .val (.int (3 : Int32)), .val (.int (3 : Int32)), .val (.int (q2.toInt32))]) (S' := [(.ref b)]) (fun t_ k_ => XS.aloadN X8.here hx rfl (hb hby d8_58) rfl rfl  k_) ?_
  exact Go.retO X8 hx hlk hret rfl (by simp [FieldType.isReference, Value.isRef]) (hb hby d8_59) (by decide) (by decide) (by rw [e8]; exact ⟨b, _, _, rfl, N8, K0, V_b, fun j hj => own_fin3 hM lM hq0 hq1 hq2 hj⟩)
set_option maxRecDepth 65536 in
set_option maxHeartbeats 40000000 in
theorem loop8_3 {p : Program} {l : Launch} {e : Env} {s : State} {m : MethodId} {args : Array Value} {below : List Frame} {meth : Method} {c : Code} {Z : State} {a0 : Array Value} {n0 : Nat} {h0 : Heap} (a1 : Addr) (t : Addr) (kt : ClassId) (gC : Int32) (q0 : Nat) (q1 : Nat) (q2 : Nat) (b : Addr) (kb : ClassId) (hx : p.tables.exec = Jvm.exec) (hZ : Z.Warmed39 s.vm) (hw : ∀ d ∈ tables_1, d.before a0 Z = true) (hby : c.code = prog_43_method_2_code) (hml : c.maxLocals = 6) (hown : s.vm.findClass "com/example/traversal/traversal/graph/Iris" = some m.cls) (hnm : meth.name = "controlsSpaceAnd") (hret : meth.sig.returnType = (some (.array .boolean))) (hlk : meth.locks = false) (SC : Sta Z Z.heap "java/lang/String" "COMPACT_STRINGS" "Z" (.int gC)) (PC : ¬ (gC = (0 : Int32)))  (hq0 : q0 < 128) (hq1 : q1 < 128) (hq2 : q2 < 128) (g_b : n0 ≤ b) (nab : a1 ≠ b) (ntb : t ≠ b) (sz_b : h0.size ≤ b) (k : Nat) :
    ∀ (i : Nat) (M : List Int32) (T0 : State) (locs : List Loc) (hh : Heap), i + k = 33 → Stand p l e roomcsa3 s m args below meth c T0 locs 1 128 → T0.heap = hh → Fr n0 locs → Keep h0 hh [] → Old Z n0 hh → n0 ≤ hh.size → Exa Z hh a1 "java/lang/String" → Fld Z hh a1 "java/lang/String" "coder" "B" (.int (0 : Int32)) → Fld Z hh a1 "java/lang/String" "value" "[B" (.ref t) → Arv Z hh t kt .byte (3 : Int32) [(.int ((nar .char (q0.toInt32)).toInt8.toInt32)), (.int ((nar .char (q1.toInt32)).toInt8.toInt32)), (.int ((nar .char (q2.toInt32)).toInt8.toInt32))] (.int (0 : Int32)) → Arv Z hh b kb .boolean (128 : Int32) (M.map Value.int) (.int 0) → M.length = 128 → (∀ j, j < 128 → M.getD j 0 = if j < i then 1 else 0) → Go p e below s roomcsa3.cells roomcsa3.slots (Qcsa3 Z q0 q1 q2 h0 n0) m T0 8 #[.val (.ref a1), .val (.ref b), .val (.int (i.toInt32)), .unset, .unset, .unset] [] := by
  induction k with
  | zero =>
    intro i M T0 locs hh hik X0 e0 N0 K0 O0 Z0 E_a1 F_coder F_value V_t V_b lM hM
    obtain rfl : i = 33 := by omega
    refine Go.st (T' := T0) (pc' := 9) (L' := #[.val (.ref a1), .val (.ref b), .val (.int (Nat.toInt32 33)), .unset, .unset, .unset]) (S' := [(.int (Nat.toInt32 33))]) (fun t_ k_ => XS.iloadN X0.here hx rfl (hb hby d8_8) rfl  k_) ?_
    refine Go.st (T' := T0) (pc' := 11) (L' := #[.val (.ref a1), .val (.ref b), .val (.int (Nat.toInt32 33)), .unset, .unset, .unset]) (S' := [(.int (32 : Int32)), (.int (Nat.toInt32 33))]) (fun t_ k_ => XS.bipush X0.here hx rfl (hb hby d8_9) k_) ?_
    refine Go.st (T' := T0) (pc' := 24) (L' := #[.val (.ref a1), .val (.ref b), .val (.int (Nat.toInt32 33)), .unset, .unset, .unset]) (S' := []) (fun t_ k_ => XS.icmpYes X0.here hx rfl (pc0 := 11) (pc' := 24) rfl (hb hby d8_11) rfl (tlt ((own_ltI (m := 32) (n := 33) (by decide) (by decide)).mpr (by decide) : ((32 : Int32) < (Nat.toInt32 33)))).2.2.1 (by decide) (by decide) k_) ?_
    exact seg24_3 a1 t _ gC q0 q1 q2 b _ M X0 hx hZ hw hby hml hown hnm hret hlk e0 N0 SC PC O0 Z0 E_a1 F_coder F_value V_t hq0 hq1 hq2 V_b lM g_b nab ntb sz_b K0 hM
  | succ k ih =>
    intro i M T0 locs hh hik X0 e0 N0 K0 O0 Z0 E_a1 F_coder F_value V_t V_b lM hM
    refine Go.st (T' := T0) (pc' := 9) (L' := #[.val (.ref a1), .val (.ref b), .val (.int (i.toInt32)), .unset, .unset, .unset]) (S' := [(.int (i.toInt32))]) (fun t_ k_ => XS.iloadN X0.here hx rfl (hb hby d8_8) rfl  k_) ?_
    refine Go.st (T' := T0) (pc' := 11) (L' := #[.val (.ref a1), .val (.ref b), .val (.int (i.toInt32)), .unset, .unset, .unset]) (S' := [(.int (32 : Int32)), (.int (i.toInt32))]) (fun t_ k_ => XS.bipush X0.here hx rfl (hb hby d8_9) k_) ?_
    by_cases hc11_501 : (32 : Int32) < (i.toInt32)
    · refine Go.st (T' := T0) (pc' := 24) (L' := #[.val (.ref a1), .val (.ref b), .val (.int (i.toInt32)), .unset, .unset, .unset]) (S' := []) (fun t_ k_ => XS.icmpYes X0.here hx rfl (pc0 := 11) (pc' := 24) rfl (hb hby d8_11) rfl (tlt hc11_501).2.2.1 (by decide) (by decide) k_) ?_
      have hi33 : i = 33 := by have := (own_ltI (m := 32) (by decide) (by omega)).mp hc11_501; omega
      subst hi33
      exact seg24_3 a1 t _ gC q0 q1 q2 b _ M X0 hx hZ hw hby hml hown hnm hret hlk e0 N0 SC PC O0 Z0 E_a1 F_coder F_value V_t hq0 hq1 hq2 V_b lM g_b nab ntb sz_b K0 hM
    · refine Go.st (T' := T0) (pc' := 14) (L' := #[.val (.ref a1), .val (.ref b), .val (.int (i.toInt32)), .unset, .unset, .unset]) (S' := []) (fun t_ k_ => XS.icmpNo X0.here hx rfl (hb hby d8_11) rfl (flt hc11_501).2.2.1 k_) ?_
      have hlt : i < 33 := by have := mt (own_ltI (m := 32) (n := i) (by decide) (by omega)).mpr hc11_501; omega
      refine Go.st (T' := T0) (pc' := 15) (L' := #[.val (.ref a1), .val (.ref b), .val (.int (i.toInt32)), .unset, .unset, .unset]) (S' := [(.ref b)]) (fun t_ k_ => XS.aloadN X0.here hx rfl (hb hby d8_14) rfl rfl  k_) ?_
      refine Go.st (T' := T0) (pc' := 16) (L' := #[.val (.ref a1), .val (.ref b), .val (.int (i.toInt32)), .unset, .unset, .unset]) (S' := [(.int (i.toInt32)), (.ref b)]) (fun t_ k_ => XS.iloadN X0.here hx rfl (hb hby d8_15) rfl  k_) ?_
      refine Go.st (T' := T0) (pc' := 17) (L' := #[.val (.ref a1), .val (.ref b), .val (.int (i.toInt32)), .unset, .unset, .unset]) (S' := [(.int (1 : Int32)), (.int (i.toInt32)), (.ref b)]) (fun t_ k_ => XS.iconst X0.here hx rfl (hb hby d8_16) k_) ?_
      obtain ⟨cl502, Ar502, q5021, q5022, q5023, q5024, q5025⟩ := V_b
      obtain ⟨T502, h502, X502, e502, W502, st502⟩ := stZ X0 hx hZ e0 Ar502 (j := (i.toInt32)) (own_inb q5022 (N := 128) (by decide) (by omega) (by decide)) (g := (mkF m 17 #[.val (.ref a1), .val (.ref b), .val (.int (i.toInt32)), .unset, .unset, .unset] [(.int (1 : Int32)), (.int (i.toInt32)), (.ref b)])) rfl rfl (hb hby d8_17)
      replace V_b := Arv.set Ar502 q5021 q5022 q5023 q5024 q5025 (fits_nar_bool _) W502 (i) (own_tn (by omega)) (by rw [List.length_map, show List.length M = 128 from lM]; omega)
      rw [own_setI] at V_b
      replace Z0 := Nat.le_trans Z0 (Keep.of_wr W502).1
      replace O0 := O0.wr W502 g_b
      replace E_a1 := E_a1.wr W502
      replace F_coder := F_coder.other W502 (Or.inl nab)
      replace F_value := F_value.other W502 (Or.inl nab)
      replace V_t := V_t.other W502 ntb
      replace K0 := K0.wr W502 (Or.inr sz_b)
      have N502 := Fr.snoc X502 N0 g_b
      refine Go.st (T' := T502) (pc' := 18) (L' := #[.val (.ref a1), .val (.ref b), .val (.int (i.toInt32)), .unset, .unset, .unset]) (S' := []) st502 ?_
      refine Go.st (T' := T502) (pc' := 21) (L' := #[.val (.ref a1), .val (.ref b), .val (.int ((i.toInt32) + (1 : Int32))), .unset, .unset, .unset]) (S' := []) (fun t_ k_ => XS.iinc X502.here hx rfl (hb hby d8_18) rfl (l' := #[.val (.ref a1), .val (.ref b), .val (.int ((i.toInt32) + (1 : Int32))), .unset, .unset, .unset]) rfl k_) ?_
      rw [own_next (n := i) (by omega)]
      refine Go.st (T' := T502) (pc' := 8) (L' := #[.val (.ref a1), .val (.ref b), .val (.int ((i + 1).toInt32)), .unset, .unset, .unset]) (S' := []) (fun t_ k_ => XS.goto X502.here hx rfl (pc0 := 21) (pc' := 8) rfl (hb hby d8_21) (by decide) (by decide) k_) ?_
      exact ih (i + 1) (M.set (i) (nar .boolean (1 : Int32))) T502 _ h502 (by omega) X502 e502 N502 K0 O0 Z0 E_a1 F_coder F_value V_t V_b (by rw [List.length_set]; exact lM) (own_stepM hM lM (by omega))
set_option maxRecDepth 65536 in
set_option maxHeartbeats 40000000 in
theorem rmcsa3 (l : Launch) (Z : State) (a0 : Array Value) (hw : ∀ d ∈ tables_1, d.before a0 Z = true) (ws : List Jvm.Cond) (a1 : Addr) (t : Addr) (kt : ClassId) (gC : Int32) (q0 : Nat) (q1 : Nat) (q2 : Nat) (h0 : Heap) (n0 : Nat) (Z0 : n0 ≤ h0.size) (SC : Sta Z Z.heap "java/lang/String" "COMPACT_STRINGS" "Z" (.int gC)) (PC : ¬ (gC = (0 : Int32))) (O0 : Old Z n0 h0) (E_a1 : Exa Z h0 a1 "java/lang/String") (F_coder : Fld Z h0 a1 "java/lang/String" "coder" "B" (.int (0 : Int32))) (F_value : Fld Z h0 a1 "java/lang/String" "value" "[B" (.ref t)) (V_t : Arv Z h0 t kt .byte (3 : Int32) [(.int ((nar .char (q0.toInt32)).toInt8.toInt32)), (.int ((nar .char (q1.toInt32)).toInt8.toInt32)), (.int ((nar .char (q2.toInt32)).toInt8.toInt32))] (.int (0 : Int32)))  (hq0 : q0 < 128) (hq1 : q1 < 128) (hq2 : q2 < 128) :
    MetFree l (⟨"com/example/traversal/traversal/graph/Iris", "controlsSpaceAnd", "(Ljava/lang/String;)[Z"⟩ : MethodName) (head1 (Jvm.Cond.code (⟨"com/example/traversal/traversal/graph/Iris", "controlsSpaceAnd", "(Ljava/lang/String;)[Z"⟩ : MethodName) prog_43_method_2_code 6 (some (.array .boolean)) :: ws) roomcsa3) (fun aa_ U_ => aa_ = #[(.ref a1)] ∧ Z.Warmed39 U_.vm ∧ U_.heap = h0) (fun _ _ _ _ _ => True) (fun _ U_ o_ W_ => ∃ v_ L_, o_ = .returned v_ ∧ (Qcsa3 Z q0 q1 q2 h0 n0) v_ W_.heap L_ ∧ FrameEnd U_ o_ W_ L_ roomcsa3.cells roomcsa3.slots) := by
  refine own_met (Q := (Qcsa3 Z q0 q1 q2 h0 n0)) (L0 := #[.val (.ref a1), .unset, .unset, .unset, .unset, .unset]) (plainFor_of_name pn_2) (fun m => by first | (simp [entryFrame, mkF, argsToLocals, Value.category]; done) | rfl) ?_
  intro p e s m below meth c T0 X0 hx hby hml hown hnm hret hlk hZ e0
  have N0 := Fr.nil n0
  have K0 := Keep.refl h0 []
  refine Go.st (T' := T0) (pc' := 3) (L' := #[.val (.ref a1), .unset, .unset, .unset, .unset, .unset]) (S' := [(.int (128 : Int32))]) (fun t_ k_ => XS.sipush X0.here hx rfl (hb hby d8_0) k_) ?_
  obtain ⟨T901, h901, k901, X901, e901, E901, A901, st901⟩ := newP X0 hx hZ (hw _ (List.mem_of_getElem? (i := 38) rfl)) e0 (g := (mkF m 3 #[.val (.ref a1), .unset, .unset, .unset, .unset, .unset] [(.int (128 : Int32))])) rfl (hb hby d8_3) rfl (by decide) (cap := 128) (by decide) (by decide) (by decide) (by decide)
  obtain ⟨b901, g901⟩ : ∃ z, z = h0.size := ⟨_, rfl⟩
  rw [← g901] at A901 st901
  have ne_a1_b901 : a1 ≠ b901 := Nat.ne_of_lt (Nat.lt_of_lt_of_le E_a1.lt (Nat.le_of_eq g901.symm))
  have ne_t_b901 : t ≠ b901 := Nat.ne_of_lt (Nat.lt_of_lt_of_le V_t.lt (Nat.le_of_eq g901.symm))
  have g_b901 : n0 ≤ b901 := Nat.le_trans Z0 (Nat.le_of_eq g901.symm)
  have sz_b901 : h0.size ≤ b901 := Nat.le_trans K0.1 (Nat.le_of_eq g901.symm)
  replace Z0 := Nat.le_trans Z0 E901.1
  replace O0 := O0.ext E901
  replace E_a1 := E_a1.ext E901
  replace F_coder := F_coder.ext E901
  replace F_value := F_value.ext E901
  replace V_t := V_t.ext E901
  replace K0 := K0.ext E901
  have V_b901 : Arv Z h901 b901 k901 .boolean (128 : Int32) [] (.int (0 : Int32)) := Arv.new A901 (by decide)
  refine Go.st (T' := T901) (pc' := 5) (L' := #[.val (.ref a1), .unset, .unset, .unset, .unset, .unset]) (S' := [(.ref b901)]) st901 ?_
  refine Go.st (T' := T901) (pc' := 6) (L' := #[.val (.ref a1), .val (.ref b901), .unset, .unset, .unset, .unset]) (S' := []) (fun t_ k_ => XS.astoreN X901.here hx rfl (hb hby d8_5) rfl rfl (l' := #[.val (.ref a1), .val (.ref b901), .unset, .unset, .unset, .unset]) rfl k_) ?_
  have V_b901 : Arv Z h901 b901 k901 .boolean (128 : Int32) ((List.replicate 128 (0 : Int32)).map Value.int) (.int 0) := V_b901.pad (fun j => by rw [own_getI, own_rep0]; rfl)
  refine Go.st (T' := T901) (pc' := 7) (L' := #[.val (.ref a1), .val (.ref b901), .unset, .unset, .unset, .unset]) (S' := [(.int (0 : Int32))]) (fun t_ k_ => XS.iconst X901.here hx rfl (hb hby d8_6) k_) ?_
  refine Go.st (T' := T901) (pc' := 8) (L' := #[.val (.ref a1), .val (.ref b901), .val (.int (0 : Int32)), .unset, .unset, .unset]) (S' := []) (fun t_ k_ => XS.istoreN X901.here hx rfl (hb hby d8_7) rfl (l' := #[.val (.ref a1), .val (.ref b901), .val (.int (0 : Int32)), .unset, .unset, .unset]) rfl k_) ?_
  exact loop8_3 a1 t _ gC q0 q1 q2 b901 _ hx hZ hw hby hml hown hnm hret hlk SC PC hq0 hq1 hq2 g_b901 ne_a1_b901 ne_t_b901 sz_b901 33 0 (List.replicate 128 0) T901 _ h901 (by omega) X901 e901 N0 K0 O0 Z0 E_a1 F_coder F_value V_t V_b901 rfl (fun j hj => by rw [own_rep0, if_neg (Nat.not_lt_zero j)])
theorem d1_0 : decode method_2_code 0 = .ok (.iload_n 0, 1) := by decide +kernel
theorem d1_1 : decode method_2_code 1 = .ok (.ifCond .ne 14, 3) := by decide +kernel
theorem d1_4 : decode method_2_code 4 = .ok (.new 7, 3) := by decide +kernel
theorem d1_7 : decode method_2_code 7 = .ok (.dup, 1) := by decide +kernel
theorem d1_8 : decode method_2_code 8 = .ok (.iconst 0, 1) := by decide +kernel
theorem d1_9 : decode method_2_code 9 = .ok (.newarray .char, 2) := by decide +kernel
theorem d1_11 : decode method_2_code 11 = .ok (.invokespecial 9, 3) := by decide +kernel
theorem d1_14 : decode method_2_code 14 = .ok (.areturn, 1) := by decide +kernel
theorem pd_5 : parseMethodDescriptor "([C)V" = some ⟨[(.array .char)], none⟩ := by decide +kernel
theorem pn_3 : plainName "com/example/traversal/traversal/graph/IrisControlsSpaceAndPinLaw" = true := by first | (simp [plainName, overriddenIn]; done) | decide +kernel
def Qmk0 (Z : State) (q0 : Nat) (q1 : Nat) (q2 : Nat) (h0 : Heap) (n0 : Nat) (v : Option Value) (h : Heap) (L : List Loc) : Prop := ∃ (x t : Addr) (kt : ClassId), v = some (.ref x) ∧ Fr n0 L ∧ Keep h0 h [] ∧ n0 ≤ x ∧ Exa Z h x "java/lang/String" ∧ Fld Z h x "java/lang/String" "coder" "B" (.int (0 : Int32)) ∧ Fld Z h x "java/lang/String" "value" "[B" (.ref t) ∧ Arv Z h t kt .byte (0 : Int32) [] (.int (0 : Int32))
def roommk0 : Room := { frames := 3, cells := 6, slots := 12, locals := 43 }
set_option maxRecDepth 65536 in
set_option maxHeartbeats 40000000 in
theorem rmmk0 (l : Launch) (Z : State) (a0 : Array Value) (hw : ∀ d ∈ tables_1, d.before a0 Z = true) (ws : List Jvm.Cond) (q0 : Nat) (q1 : Nat) (q2 : Nat) (gC : Int32) (h0 : Heap) (n0 : Nat) (Z0 : n0 ≤ h0.size) (SC : Sta Z Z.heap "java/lang/String" "COMPACT_STRINGS" "Z" (.int gC)) (PC : ¬ (gC = (0 : Int32))) (O0 : Old Z n0 h0) (hq0 : q0 < 128) (hq1 : q1 < 128) (hq2 : q2 < 128) :
    MetFree l (⟨"com/example/traversal/traversal/graph/IrisControlsSpaceAndPinLaw", "make", "(ICCC)Ljava/lang/String;"⟩ : MethodName) (head1 (Jvm.Cond.code (⟨"com/example/traversal/traversal/graph/IrisControlsSpaceAndPinLaw", "make", "(ICCC)Ljava/lang/String;"⟩ : MethodName) method_2_code 4 (some (.object "java/lang/String")) :: ws) roommk0) (fun aa_ U_ => aa_ = #[(.int (0 : Int32)), (.int (q0.toInt32)), (.int (q1.toInt32)), (.int (q2.toInt32))] ∧ Z.Warmed39 U_.vm ∧ U_.heap = h0 ∧ CHv Z EL U_.vm h0) (fun _ _ _ _ _ => True) (fun _ U_ o_ W_ => ∃ v_ L_, o_ = .returned v_ ∧ (Qmk0 Z q0 q1 q2 h0 n0) v_ W_.heap L_ ∧ CHr Z EL U_.vm U_.heap W_.vm W_.heap ∧ ReturnedEndW U_ o_ W_ L_ roommk0.cells roommk0.slots) := by
  refine own_metH (Q := (Qmk0 Z q0 q1 q2 h0 n0)) (L0 := #[.val (.int (0 : Int32)), .val (.int (q0.toInt32)), .val (.int (q1.toInt32)), .val (.int (q2.toInt32))]) (plainFor_of_name pn_3) (fun m => by first | (simp [entryFrame, mkF, argsToLocals, Value.category]; done) | rfl) ?_
  intro p e s m below meth c T0 X0 hx hby hml hown hnm hret hlk hZ e0 hs0 CR hS hk
  have N0 := Fr.nil n0
  have K0 := Keep.refl h0 []
  refine GoH.st (T' := T0) (pc' := 1) (L' := #[.val (.int (0 : Int32)), .val (.int (q0.toInt32)), .val (.int (q1.toInt32)), .val (.int (q2.toInt32))]) (S' := [(.int (0 : Int32))]) (fun t_ k_ => XS.iloadN X0.here hx rfl (hb hby d1_0) rfl  k_) ?_
  refine GoH.st (T' := T0) (pc' := 4) (L' := #[.val (.int (0 : Int32)), .val (.int (q0.toInt32)), .val (.int (q1.toInt32)), .val (.int (q2.toInt32))]) (S' := []) (fun t_ k_ => XS.ifNo X0.here hx rfl (hb hby d1_1) rfl ((if0 _ _).trans (teq (by decide : ((0 : Int32) = (0 : Int32)))).2) k_) ?_
  obtain ⟨T1, h1, X1, e1, E1, A1, D1, U1, st1⟩ := newO X0 hx hZ hown (hw _ (List.mem_of_getElem? (i := 4) rfl)) (hw _ (List.mem_of_getElem? (i := 5) rfl)) (hw _ (List.mem_of_getElem? (i := 6) rfl)) e0 (g := (mkF m 4 #[.val (.int (0 : Int32)), .val (.int (q0.toInt32)), .val (.int (q1.toInt32)), .val (.int (q2.toInt32))] [])) rfl (hb hby d1_4) (by decide) (by decide)
  obtain ⟨b1, g1⟩ : ∃ z, z = h0.size := ⟨_, rfl⟩
  rw [← g1] at A1 D1 U1 st1
  have g_b1 : n0 ≤ b1 := Nat.le_trans Z0 (Nat.le_of_eq g1.symm)
  have sz_b1 : h0.size ≤ b1 := Nat.le_trans K0.1 (Nat.le_of_eq g1.symm)
  have S_b1 : Safe Z EL s.vm h1 b1 := Safe.ext E1 CR.1 (Safe.new (Nat.le_of_eq g1.symm))
  replace CR := CR.trans (CHr.ext E1 CR.1)
  replace hk := Nat.le_trans hk E1.1
  replace Z0 := Nat.le_trans Z0 E1.1
  replace K0 := K0.ext E1
  replace O0 := O0.ext E1
  have E_b1 := A1
  have F_b1_coder : Fld Z h1 b1 "java/lang/String" "coder" "B" (.int (0 : Int32)) := D1 (Or.inr (hw _ (List.mem_of_getElem? (i := 31) rfl))) (ty := .byte) (by decide)
  have F_b1_value : Fld Z h1 b1 "java/lang/String" "value" "[B" .null := D1 (Or.inr (hw _ (List.mem_of_getElem? (i := 33) rfl))) (ty := (.array .byte)) (by decide)
  refine GoH.st (T' := T1) (pc' := 7) (L' := #[.val (.int (0 : Int32)), .val (.int (q0.toInt32)), .val (.int (q1.toInt32)), .val (.int (q2.toInt32))]) (S' := [(.ref b1)]) st1 ?_
  refine GoH.st (T' := T1) (pc' := 8) (L' := #[.val (.int (0 : Int32)), .val (.int (q0.toInt32)), .val (.int (q1.toInt32)), .val (.int (q2.toInt32))]) (S' := [(.ref b1), (.ref b1)]) (fun t_ k_ => XS.dup X1.here hx rfl (hb hby d1_7) rfl rfl k_) ?_
  refine GoH.st (T' := T1) (pc' := 9) (L' := #[.val (.int (0 : Int32)), .val (.int (q0.toInt32)), .val (.int (q1.toInt32)), .val (.int (q2.toInt32))]) (S' := [(.int (0 : Int32)), (.ref b1), (.ref b1)]) (fun t_ k_ => XS.iconst X1.here hx rfl (hb hby d1_8) k_) ?_
  obtain ⟨T2, h2, k2, X2, e2, E2, A2, st2⟩ := newP X1 hx hZ (hw _ (List.mem_of_getElem? (i := 7) rfl)) e1 (g := (mkF m 9 #[.val (.int (0 : Int32)), .val (.int (q0.toInt32)), .val (.int (q1.toInt32)), .val (.int (q2.toInt32))] [(.int (0 : Int32)), (.ref b1), (.ref b1)])) rfl (hb hby d1_9) rfl (by decide) (cap := 0) (by decide) (by decide) (by decide) (by decide)
  obtain ⟨b2, g2⟩ : ∃ z, z = h1.size := ⟨_, rfl⟩
  rw [← g2] at A2 st2
  have ne_b1_b2 : b1 ≠ b2 := Nat.ne_of_lt (Nat.lt_of_lt_of_le E_b1.lt (Nat.le_of_eq g2.symm))
  have g_b2 : n0 ≤ b2 := Nat.le_trans Z0 (Nat.le_of_eq g2.symm)
  have sz_b2 : h0.size ≤ b2 := Nat.le_trans K0.1 (Nat.le_of_eq g2.symm)
  replace S_b1 := Safe.ext E2 CR.1 S_b1
  replace CR := CR.trans (CHr.ext E2 CR.1)
  replace hk := Nat.le_trans hk E2.1
  replace Z0 := Nat.le_trans Z0 E2.1
  replace K0 := K0.ext E2
  replace O0 := O0.ext E2
  replace E_b1 := E_b1.ext E2
  replace F_b1_coder := F_b1_coder.ext E2
  replace F_b1_value := F_b1_value.ext E2
  have V_b2 : Arv Z h2 b2 k2 .char (0 : Int32) [] (.int (0 : Int32)) := (Arv.new A2 (by decide)).pad (pad_rep [] (.int (0 : Int32)) 0)
  refine GoH.st (T' := T2) (pc' := 11) (L' := #[.val (.int (0 : Int32)), .val (.int (q0.toInt32)), .val (.int (q1.toInt32)), .val (.int (q2.toInt32))]) (S' := [(.ref b2), (.ref b1), (.ref b1)]) st2 ?_
  obtain ⟨_, _, ⟨T3, L3, k3, n3⟩, -, X3, hS3, hg3, ⟨Lc3, hQ3, l3, y3, z3, CR3⟩, st3⟩ := X2.specialBackS hx (y := (⟨"java/lang/String", "<init>", "([C)V"⟩ : MethodName)) rfl hown (mvT hZ (hw _ (List.mem_of_getElem? (i := 8) rfl))) (mvT hZ (hw _ (List.mem_of_getElem? (i := 9) rfl))) (mvT hZ (hw _ (List.mem_of_getElem? (i := 10) rfl))) (by decide) (backOfSH (W := 1) (rmE3 l Z a0 hw [] b1 b2 _ h2 n0 Z0 E_b1 g_b1 F_b1_value F_b1_coder V_b2 ne_b1_b2) hZ (hw _ (List.mem_of_getElem? (i := 10) rfl)) (hw _ (List.mem_of_getElem? (i := 6) rfl)) (by decide) (by decide) (own_EW hw) CR.1) (g := (mkF m 11 #[.val (.int (0 : Int32)), .val (.int (q0.toInt32)), .val (.int (q1.toInt32)), .val (.int (q2.toInt32))] [(.ref b2), (.ref b1), (.ref b1)])) rfl (by rw [hml]; rfl) (Steps.refl _) (a := b1) (argsL := [(.ref b2)]) (rest := [(.ref b1)]) (lenOf pd_5 rfl) rfl (by show 2 * 0 + _ ≤ _; exact Nat.le_of_eq rfl) (hb hby d1_11) (fun _ _ => ⟨rfl, e2, (by decide : 2 + 4 ≤ _), (by decide : 4 + 8 ≤ _)⟩)
  dsimp only [Pt.U, Pt.locs, Pt.cells, Pt.slots] at X3 l3 y3 z3 st3 hQ3 hS3 hg3 CR3
  subst l3 y3 z3
  replace hS := foldS hS (T := T2) (by rw [e2]; exact hk) hS3 hg3
  replace hk := Nat.le_refl T3.heap.size
  replace hZ : Z.Warmed39 (s.setVm T3.vm).vm := State.Warmed39.trans (t := s.setVm s.vm) hZ hS3.1
  replace hown : (s.setVm T3.vm).vm.findClass "com/example/traversal/traversal/graph/IrisControlsSpaceAndPinLaw" = some m.cls := by rw [show (s.setVm T3.vm).vm = T3.vm from rfl, hS3.1.alike.findClass]; exact hown
  obtain ⟨t3, kb3, rfl, N3q, K3, Co3, nt3, Va3, Ay3⟩ := hQ3
  have N3 := Fr.app N0 N3q
  obtain ⟨h3, e3⟩ : ∃ z, T3.heap = z := ⟨_, rfl⟩
  rw [e3] at K3 Co3 Va3 Ay3 CR3
  replace S_b1 := CR3.safe E_b1.lt S_b1
  replace CR := CR.trans CR3
  replace Z0 := Nat.le_trans Z0 K3.1
  replace K0 := K0.trans K3 (allS (Or.inr sz_b1) all0)
  replace O0 := O0.keep K3 (allS g_b1 all0)
  replace E_b1 := E_b1.keep K3
  replace V_b2 := V_b2.keep K3 (ninS (Ne.symm ne_b1_b2) nin0)
  replace hk : T3.heap.size ≤ h3.size := Nat.le_of_eq (congrArg Array.size e3)
  refine GoH.tr (T' := T3) (pc' := 14) (L' := #[.val (.int (0 : Int32)), .val (.int (q0.toInt32)), .val (.int (q1.toInt32)), .val (.int (q2.toInt32))]) (S' := [(.ref b1)]) st3 ?_
  exact GoH.retO X3 hx hlk hret rfl (by simp [FieldType.isReference, Value.isRef]) (hb hby d1_14) (by decide) (by decide) hS hk e3 hs0 hZ (own_EW hw) CR (by rw [e3]; exact ⟨b1, t3, _, rfl, N3, K0, g_b1, E_b1, Co3, Va3, Ay3⟩)
theorem pd_6 : parseMethodDescriptor "(ICCC)Ljava/lang/String;" = some ⟨[.int, .char, .char, .char], some (.object "java/lang/String")⟩ := by decide +kernel
theorem pd_7 : parseMethodDescriptor "(Ljava/lang/String;)[Z" = some ⟨[(.object "java/lang/String")], some (.array .boolean)⟩ := by decide +kernel
def Q0_0 (Z : State)  (h0 : Heap) (n0 : Nat) (v : Option Value) (h : Heap) (L : List Loc) : Prop := v = some (.int 1) ∧ Fr n0 L
set_option maxRecDepth 65536 in
set_option maxHeartbeats 40000000 in
theorem rm0_0 (l : Launch) (Z : State) (a0 : Array Value) (hw : ∀ d ∈ tables_1, d.before a0 Z = true) (ws : List Jvm.Cond) (p1 : Int32) (p2 : Int32) (p3 : Int32) (p4 : Int32) (p5 : Int32) (q0 q1 q2 qi : Nat) (gC : Int32) (h0 : Heap) (n0 : Nat) (Z0 : n0 ≤ h0.size) (SC : Sta Z Z.heap "java/lang/String" "COMPACT_STRINGS" "Z" (.int gC)) (PC : ¬ (gC = (0 : Int32))) (O0 : Old Z n0 h0) (hq0 : q0 < 128) (hq1 : q1 < 128) (hq2 : q2 < 128) (hqi : qi < 128) (hk3 : p4 &&& (3 : Int32) = (0 : Int32)) (e0q : (p1 &&& (127 : Int32)).toUInt32.toUInt16.toUInt32.toInt32 = q0.toInt32) (e1q : (p2 &&& (127 : Int32)).toUInt32.toUInt16.toUInt32.toInt32 = q1.toInt32) (e2q : (p3 &&& (127 : Int32)).toUInt32.toUInt16.toUInt32.toInt32 = q2.toInt32) (eiq : p5 &&& (127 : Int32) = qi.toInt32) :
    MetFree l x (head1 (Jvm.Cond.code x code maxLocals ret :: ws) room_1) (fun aa_ U_ => aa_ = #[(.int p1), (.int p2), (.int p3), (.int p4), (.int p5)] ∧ Z.Warmed39 U_.vm ∧ U_.heap = h0 ∧ CHv Z EL U_.vm h0) (fun _ _ _ _ _ => True) (fun _ U_ o_ W_ => ∃ v_ L_, o_ = .returned v_ ∧ (Q0_0 Z  h0 n0) v_ W_.heap L_ ∧ CHr Z EL U_.vm U_.heap W_.vm W_.heap ∧ ReturnedEndW U_ o_ W_ L_ room_1.cells room_1.slots) := by
  refine own_metH (Q := (Q0_0 Z  h0 n0)) (L0 := #[.val (.int p1), .val (.int p2), .val (.int p3), .val (.int p4), .val (.int p5), .unset, .unset, .unset, .unset, .unset, .unset, .unset, .unset]) (plainFor_of_name pn_3) (fun m => by first | (simp [entryFrame, mkF, argsToLocals, Value.category, maxLocals]; done) | rfl) ?_
  intro p e s m below meth c T0 X0 hx hby hml hown hnm hret hlk hZ e0 hs0 CR hS hk
  have N0 := Fr.nil n0
  refine GoH.st (T' := T0) (pc' := 1) (L' := #[.val (.int p1), .val (.int p2), .val (.int p3), .val (.int p4), .val (.int p5), .unset, .unset, .unset, .unset, .unset, .unset, .unset, .unset]) (S' := [(.int p4)]) (fun t_ k_ => XS.iloadN X0.here hx rfl (hb hby at_0) rfl  k_) ?_
  refine GoH.st (T' := T0) (pc' := 2) (L' := #[.val (.int p1), .val (.int p2), .val (.int p3), .val (.int p4), .val (.int p5), .unset, .unset, .unset, .unset, .unset, .unset, .unset, .unset]) (S' := [(.int (3 : Int32)), (.int p4)]) (fun t_ k_ => XS.iconst X0.here hx rfl (hb hby at_1) k_) ?_
  refine GoH.st (T' := T0) (pc' := 3) (L' := #[.val (.int p1), .val (.int p2), .val (.int p3), .val (.int p4), .val (.int p5), .unset, .unset, .unset, .unset, .unset, .unset, .unset, .unset]) (S' := [(.int (p4 &&& (3 : Int32)))]) (fun t_ k_ => XS.iand X0.here hx rfl (hb hby at_2) rfl k_) ?_
  rw [hk3]
  refine GoH.st (T' := T0) (pc' := 5) (L' := #[.val (.int p1), .val (.int p2), .val (.int p3), .val (.int p4), .val (.int p5), .val (.int (0 : Int32)), .unset, .unset, .unset, .unset, .unset, .unset, .unset]) (S' := []) (fun t_ k_ => XS.istore X0.here hx rfl (hb hby at_3) rfl (l' := #[.val (.int p1), .val (.int p2), .val (.int p3), .val (.int p4), .val (.int p5), .val (.int (0 : Int32)), .unset, .unset, .unset, .unset, .unset, .unset, .unset]) rfl k_) ?_
  refine GoH.st (T' := T0) (pc' := 6) (L' := #[.val (.int p1), .val (.int p2), .val (.int p3), .val (.int p4), .val (.int p5), .val (.int (0 : Int32)), .unset, .unset, .unset, .unset, .unset, .unset, .unset]) (S' := [(.int p1)]) (fun t_ k_ => XS.iloadN X0.here hx rfl (hb hby at_5) rfl  k_) ?_
  refine GoH.st (T' := T0) (pc' := 8) (L' := #[.val (.int p1), .val (.int p2), .val (.int p3), .val (.int p4), .val (.int p5), .val (.int (0 : Int32)), .unset, .unset, .unset, .unset, .unset, .unset, .unset]) (S' := [(.int (127 : Int32)), (.int p1)]) (fun t_ k_ => XS.bipush X0.here hx rfl (hb hby at_6) k_) ?_
  refine GoH.st (T' := T0) (pc' := 9) (L' := #[.val (.int p1), .val (.int p2), .val (.int p3), .val (.int p4), .val (.int p5), .val (.int (0 : Int32)), .unset, .unset, .unset, .unset, .unset, .unset, .unset]) (S' := [(.int (p1 &&& (127 : Int32)))]) (fun t_ k_ => XS.iand X0.here hx rfl (hb hby at_8) rfl k_) ?_
  refine GoH.st (T' := T0) (pc' := 10) (L' := #[.val (.int p1), .val (.int p2), .val (.int p3), .val (.int p4), .val (.int p5), .val (.int (0 : Int32)), .unset, .unset, .unset, .unset, .unset, .unset, .unset]) (S' := [(.int ((p1 &&& (127 : Int32)).toUInt32.toUInt16.toUInt32.toInt32))]) (fun t_ k_ => XS.i2c X0.here hx rfl (hb hby at_9) rfl k_) ?_
  rw [e0q]
  refine GoH.st (T' := T0) (pc' := 12) (L' := #[.val (.int p1), .val (.int p2), .val (.int p3), .val (.int p4), .val (.int p5), .val (.int (0 : Int32)), .val (.int (q0.toInt32)), .unset, .unset, .unset, .unset, .unset, .unset]) (S' := []) (fun t_ k_ => XS.istore X0.here hx rfl (hb hby at_10) rfl (l' := #[.val (.int p1), .val (.int p2), .val (.int p3), .val (.int p4), .val (.int p5), .val (.int (0 : Int32)), .val (.int (q0.toInt32)), .unset, .unset, .unset, .unset, .unset, .unset]) rfl k_) ?_
  refine GoH.st (T' := T0) (pc' := 13) (L' := #[.val (.int p1), .val (.int p2), .val (.int p3), .val (.int p4), .val (.int p5), .val (.int (0 : Int32)), .val (.int (q0.toInt32)), .unset, .unset, .unset, .unset, .unset, .unset]) (S' := [(.int p2)]) (fun t_ k_ => XS.iloadN X0.here hx rfl (hb hby at_12) rfl  k_) ?_
  refine GoH.st (T' := T0) (pc' := 15) (L' := #[.val (.int p1), .val (.int p2), .val (.int p3), .val (.int p4), .val (.int p5), .val (.int (0 : Int32)), .val (.int (q0.toInt32)), .unset, .unset, .unset, .unset, .unset, .unset]) (S' := [(.int (127 : Int32)), (.int p2)]) (fun t_ k_ => XS.bipush X0.here hx rfl (hb hby at_13) k_) ?_
  refine GoH.st (T' := T0) (pc' := 16) (L' := #[.val (.int p1), .val (.int p2), .val (.int p3), .val (.int p4), .val (.int p5), .val (.int (0 : Int32)), .val (.int (q0.toInt32)), .unset, .unset, .unset, .unset, .unset, .unset]) (S' := [(.int (p2 &&& (127 : Int32)))]) (fun t_ k_ => XS.iand X0.here hx rfl (hb hby at_15) rfl k_) ?_
  refine GoH.st (T' := T0) (pc' := 17) (L' := #[.val (.int p1), .val (.int p2), .val (.int p3), .val (.int p4), .val (.int p5), .val (.int (0 : Int32)), .val (.int (q0.toInt32)), .unset, .unset, .unset, .unset, .unset, .unset]) (S' := [(.int ((p2 &&& (127 : Int32)).toUInt32.toUInt16.toUInt32.toInt32))]) (fun t_ k_ => XS.i2c X0.here hx rfl (hb hby at_16) rfl k_) ?_
  rw [e1q]
  refine GoH.st (T' := T0) (pc' := 19) (L' := #[.val (.int p1), .val (.int p2), .val (.int p3), .val (.int p4), .val (.int p5), .val (.int (0 : Int32)), .val (.int (q0.toInt32)), .val (.int (q1.toInt32)), .unset, .unset, .unset, .unset, .unset]) (S' := []) (fun t_ k_ => XS.istore X0.here hx rfl (hb hby at_17) rfl (l' := #[.val (.int p1), .val (.int p2), .val (.int p3), .val (.int p4), .val (.int p5), .val (.int (0 : Int32)), .val (.int (q0.toInt32)), .val (.int (q1.toInt32)), .unset, .unset, .unset, .unset, .unset]) rfl k_) ?_
  refine GoH.st (T' := T0) (pc' := 20) (L' := #[.val (.int p1), .val (.int p2), .val (.int p3), .val (.int p4), .val (.int p5), .val (.int (0 : Int32)), .val (.int (q0.toInt32)), .val (.int (q1.toInt32)), .unset, .unset, .unset, .unset, .unset]) (S' := [(.int p3)]) (fun t_ k_ => XS.iloadN X0.here hx rfl (hb hby at_19) rfl  k_) ?_
  refine GoH.st (T' := T0) (pc' := 22) (L' := #[.val (.int p1), .val (.int p2), .val (.int p3), .val (.int p4), .val (.int p5), .val (.int (0 : Int32)), .val (.int (q0.toInt32)), .val (.int (q1.toInt32)), .unset, .unset, .unset, .unset, .unset]) (S' := [(.int (127 : Int32)), (.int p3)]) (fun t_ k_ => XS.bipush X0.here hx rfl (hb hby at_20) k_) ?_
  refine GoH.st (T' := T0) (pc' := 23) (L' := #[.val (.int p1), .val (.int p2), .val (.int p3), .val (.int p4), .val (.int p5), .val (.int (0 : Int32)), .val (.int (q0.toInt32)), .val (.int (q1.toInt32)), .unset, .unset, .unset, .unset, .unset]) (S' := [(.int (p3 &&& (127 : Int32)))]) (fun t_ k_ => XS.iand X0.here hx rfl (hb hby at_22) rfl k_) ?_
  refine GoH.st (T' := T0) (pc' := 24) (L' := #[.val (.int p1), .val (.int p2), .val (.int p3), .val (.int p4), .val (.int p5), .val (.int (0 : Int32)), .val (.int (q0.toInt32)), .val (.int (q1.toInt32)), .unset, .unset, .unset, .unset, .unset]) (S' := [(.int ((p3 &&& (127 : Int32)).toUInt32.toUInt16.toUInt32.toInt32))]) (fun t_ k_ => XS.i2c X0.here hx rfl (hb hby at_23) rfl k_) ?_
  rw [e2q]
  refine GoH.st (T' := T0) (pc' := 26) (L' := #[.val (.int p1), .val (.int p2), .val (.int p3), .val (.int p4), .val (.int p5), .val (.int (0 : Int32)), .val (.int (q0.toInt32)), .val (.int (q1.toInt32)), .val (.int (q2.toInt32)), .unset, .unset, .unset, .unset]) (S' := []) (fun t_ k_ => XS.istore X0.here hx rfl (hb hby at_24) rfl (l' := #[.val (.int p1), .val (.int p2), .val (.int p3), .val (.int p4), .val (.int p5), .val (.int (0 : Int32)), .val (.int (q0.toInt32)), .val (.int (q1.toInt32)), .val (.int (q2.toInt32)), .unset, .unset, .unset, .unset]) rfl k_) ?_
  refine GoH.st (T' := T0) (pc' := 28) (L' := #[.val (.int p1), .val (.int p2), .val (.int p3), .val (.int p4), .val (.int p5), .val (.int (0 : Int32)), .val (.int (q0.toInt32)), .val (.int (q1.toInt32)), .val (.int (q2.toInt32)), .unset, .unset, .unset, .unset]) (S' := [(.int (0 : Int32))]) (fun t_ k_ => XS.iload X0.here hx rfl (hb hby at_26) rfl  k_) ?_
  refine GoH.st (T' := T0) (pc' := 30) (L' := #[.val (.int p1), .val (.int p2), .val (.int p3), .val (.int p4), .val (.int p5), .val (.int (0 : Int32)), .val (.int (q0.toInt32)), .val (.int (q1.toInt32)), .val (.int (q2.toInt32)), .unset, .unset, .unset, .unset]) (S' := [(.int (q0.toInt32)), (.int (0 : Int32))]) (fun t_ k_ => XS.iload X0.here hx rfl (hb hby at_28) rfl  k_) ?_
  refine GoH.st (T' := T0) (pc' := 32) (L' := #[.val (.int p1), .val (.int p2), .val (.int p3), .val (.int p4), .val (.int p5), .val (.int (0 : Int32)), .val (.int (q0.toInt32)), .val (.int (q1.toInt32)), .val (.int (q2.toInt32)), .unset, .unset, .unset, .unset]) (S' := [(.int (q1.toInt32)), (.int (q0.toInt32)), (.int (0 : Int32))]) (fun t_ k_ => XS.iload X0.here hx rfl (hb hby at_30) rfl  k_) ?_
  refine GoH.st (T' := T0) (pc' := 34) (L' := #[.val (.int p1), .val (.int p2), .val (.int p3), .val (.int p4), .val (.int p5), .val (.int (0 : Int32)), .val (.int (q0.toInt32)), .val (.int (q1.toInt32)), .val (.int (q2.toInt32)), .unset, .unset, .unset, .unset]) (S' := [(.int (q2.toInt32)), (.int (q1.toInt32)), (.int (q0.toInt32)), (.int (0 : Int32))]) (fun t_ k_ => XS.iload X0.here hx rfl (hb hby at_32) rfl  k_) ?_
  obtain ⟨_, _, ⟨T1, L1, k1, n1⟩, -, X1, hS1, hg1, ⟨Lc1, hQ1, l1, y1, z1, CR1⟩, st1⟩ := callSS X0 hx (y := (⟨"com/example/traversal/traversal/graph/IrisControlsSpaceAndPinLaw", "make", "(ICCC)Ljava/lang/String;"⟩ : MethodName)) hown (mvT hZ (hw _ (List.mem_of_getElem? (i := 0) rfl))) (mvT hZ (hw _ (List.mem_of_getElem? (i := 1) rfl))) (mvT hZ (hw _ (List.mem_of_getElem? (i := 2) rfl))) (mvT hZ (hw _ (List.mem_of_getElem? (i := 3) rfl))) (by decide) (backOfSH (W := 0) (rmmk0 l Z a0 hw [] q0 q1 q2 gC h0 n0 Z0 SC PC O0 hq0 hq1 hq2) hZ (hw _ (List.mem_of_getElem? (i := 3) rfl)) (hw _ (List.mem_of_getElem? (i := 2) rfl)) (by decide) (by decide) (own_EW hw) CR.1) (g := (mkF m 34 #[.val (.int p1), .val (.int p2), .val (.int p3), .val (.int p4), .val (.int p5), .val (.int (0 : Int32)), .val (.int (q0.toInt32)), .val (.int (q1.toInt32)), .val (.int (q2.toInt32)), .unset, .unset, .unset, .unset] [(.int (q2.toInt32)), (.int (q1.toInt32)), (.int (q0.toInt32)), (.int (0 : Int32))])) rfl (by rw [hml]; rfl) (argsL := [(.int (0 : Int32)), (.int (q0.toInt32)), (.int (q1.toInt32)), (.int (q2.toInt32))]) (rest := []) (lenOf pd_6 rfl) rfl (by show 2 * 0 + _ ≤ _; exact Nat.le_of_eq rfl) (hb hby at_34) (fun _ _ => ⟨rfl, e0, (by decide : 0 + 6 ≤ _), (by decide : 0 + 12 ≤ _)⟩)
  dsimp only [Pt.U, Pt.locs, Pt.cells, Pt.slots] at X1 l1 y1 z1 st1 hQ1 hS1 hg1 CR1
  subst l1 y1 z1
  replace hS := foldS hS (T := T0) (by rw [e0]; exact hk) hS1 hg1
  replace hk := Nat.le_refl T1.heap.size
  replace hZ : Z.Warmed39 (s.setVm T1.vm).vm := State.Warmed39.trans (t := s.setVm s.vm) hZ hS1.1
  replace hown : (s.setVm T1.vm).vm.findClass "com/example/traversal/traversal/graph/IrisControlsSpaceAndPinLaw" = some m.cls := by rw [show (s.setVm T1.vm).vm = T1.vm from rfl, hS1.1.alike.findClass]; exact hown
  obtain ⟨xs, ts, kt1, rfl, N1q, K1, g_xs, E_xs, Fc_xs, Fv_xs, V_ts⟩ := hQ1
  have N1 := Fr.app N0 N1q
  obtain ⟨h1, e1⟩ : ∃ z, T1.heap = z := ⟨_, rfl⟩
  rw [e1] at K1 E_xs Fc_xs Fv_xs V_ts CR1
  replace CR := CR.trans CR1
  replace Z0 := Nat.le_trans Z0 K1.1
  replace O0 := O0.keep K1 all0
  replace hk : T1.heap.size ≤ h1.size := Nat.le_of_eq (congrArg Array.size e1)
  refine GoH.tr (T' := T1) (pc' := 37) (L' := #[.val (.int p1), .val (.int p2), .val (.int p3), .val (.int p4), .val (.int p5), .val (.int (0 : Int32)), .val (.int (q0.toInt32)), .val (.int (q1.toInt32)), .val (.int (q2.toInt32)), .unset, .unset, .unset, .unset]) (S' := [(.ref xs)]) st1 ?_
  refine GoH.st (T' := T1) (pc' := 39) (L' := #[.val (.int p1), .val (.int p2), .val (.int p3), .val (.int p4), .val (.int p5), .val (.int (0 : Int32)), .val (.int (q0.toInt32)), .val (.int (q1.toInt32)), .val (.int (q2.toInt32)), .val (.ref xs), .unset, .unset, .unset]) (S' := []) (fun t_ k_ => XS.astore X1.here hx rfl (hb hby at_37) rfl rfl (l' := #[.val (.int p1), .val (.int p2), .val (.int p3), .val (.int p4), .val (.int p5), .val (.int (0 : Int32)), .val (.int (q0.toInt32)), .val (.int (q1.toInt32)), .val (.int (q2.toInt32)), .val (.ref xs), .unset, .unset, .unset]) rfl k_) ?_
  refine GoH.st (T' := T1) (pc' := 41) (L' := #[.val (.int p1), .val (.int p2), .val (.int p3), .val (.int p4), .val (.int p5), .val (.int (0 : Int32)), .val (.int (q0.toInt32)), .val (.int (q1.toInt32)), .val (.int (q2.toInt32)), .val (.ref xs), .unset, .unset, .unset]) (S' := [(.int p5)]) (fun t_ k_ => XS.iload X1.here hx rfl (hb hby at_39) rfl  k_) ?_
  refine GoH.st (T' := T1) (pc' := 43) (L' := #[.val (.int p1), .val (.int p2), .val (.int p3), .val (.int p4), .val (.int p5), .val (.int (0 : Int32)), .val (.int (q0.toInt32)), .val (.int (q1.toInt32)), .val (.int (q2.toInt32)), .val (.ref xs), .unset, .unset, .unset]) (S' := [(.int (127 : Int32)), (.int p5)]) (fun t_ k_ => XS.bipush X1.here hx rfl (hb hby at_41) k_) ?_
  refine GoH.st (T' := T1) (pc' := 44) (L' := #[.val (.int p1), .val (.int p2), .val (.int p3), .val (.int p4), .val (.int p5), .val (.int (0 : Int32)), .val (.int (q0.toInt32)), .val (.int (q1.toInt32)), .val (.int (q2.toInt32)), .val (.ref xs), .unset, .unset, .unset]) (S' := [(.int (p5 &&& (127 : Int32)))]) (fun t_ k_ => XS.iand X1.here hx rfl (hb hby at_43) rfl k_) ?_
  rw [eiq]
  refine GoH.st (T' := T1) (pc' := 46) (L' := #[.val (.int p1), .val (.int p2), .val (.int p3), .val (.int p4), .val (.int p5), .val (.int (0 : Int32)), .val (.int (q0.toInt32)), .val (.int (q1.toInt32)), .val (.int (q2.toInt32)), .val (.ref xs), .val (.int (qi.toInt32)), .unset, .unset]) (S' := []) (fun t_ k_ => XS.istore X1.here hx rfl (hb hby at_44) rfl (l' := #[.val (.int p1), .val (.int p2), .val (.int p3), .val (.int p4), .val (.int p5), .val (.int (0 : Int32)), .val (.int (q0.toInt32)), .val (.int (q1.toInt32)), .val (.int (q2.toInt32)), .val (.ref xs), .val (.int (qi.toInt32)), .unset, .unset]) rfl k_) ?_
  refine GoH.st (T' := T1) (pc' := 48) (L' := #[.val (.int p1), .val (.int p2), .val (.int p3), .val (.int p4), .val (.int p5), .val (.int (0 : Int32)), .val (.int (q0.toInt32)), .val (.int (q1.toInt32)), .val (.int (q2.toInt32)), .val (.ref xs), .val (.int (qi.toInt32)), .unset, .unset]) (S' := [(.ref xs)]) (fun t_ k_ => XS.aload X1.here hx rfl (hb hby at_46) rfl rfl  k_) ?_
  obtain ⟨_, _, ⟨T3, L3, k3, n3⟩, -, X3, ⟨Lc3, hQ3, l3, y3, z3⟩, st3⟩ := Jvm.LawKit.callS X1 hx (y := (⟨"com/example/traversal/traversal/graph/Iris", "controlsSpaceAnd", "(Ljava/lang/String;)[Z"⟩ : MethodName)) hown (mvT hZ (hw _ (List.mem_of_getElem? (i := 34) rfl))) (mvT hZ (hw _ (List.mem_of_getElem? (i := 35) rfl))) (mvT hZ (hw _ (List.mem_of_getElem? (i := 36) rfl))) (mvT hZ (hw _ (List.mem_of_getElem? (i := 37) rfl))) (by decide) (backOf (W := 0) (rmcsa0 l Z a0 hw [] xs ts _ gC  h1 n0 Z0 SC PC O0 E_xs Fc_xs Fv_xs V_ts ) hZ (hw _ (List.mem_of_getElem? (i := 37) rfl)) (hw _ (List.mem_of_getElem? (i := 36) rfl)) (by decide) (by decide)) (g := (mkF m 48 #[.val (.int p1), .val (.int p2), .val (.int p3), .val (.int p4), .val (.int p5), .val (.int (0 : Int32)), .val (.int (q0.toInt32)), .val (.int (q1.toInt32)), .val (.int (q2.toInt32)), .val (.ref xs), .val (.int (qi.toInt32)), .unset, .unset] [(.ref xs)])) rfl (by rw [hml]; rfl) (argsL := [(.ref xs)]) (rest := []) (lenOf pd_7 rfl) rfl (by show 2 * 0 + _ ≤ _; exact Nat.le_of_eq rfl) (hb hby at_48) (fun _ _ => ⟨rfl, e1, (by decide : 6 + 2 ≤ _), (by decide : 12 + 128 ≤ _)⟩)
  dsimp only [Pt.U, Pt.locs, Pt.cells, Pt.slots] at X3 l3 y3 z3 st3 hQ3
  subst l3 y3 z3
  obtain ⟨bb, kb3, MM, rfl, N3q, K3, Vb3, hMM⟩ := hQ3
  have N3 := Fr.app N1 N3q
  obtain ⟨h3, e3⟩ : ∃ z, T3.heap = z := ⟨_, rfl⟩
  rw [e3] at K3 Vb3
  have Sk4 : ∀ x ∈ [], Safe Z EL T1.vm h1 x := all0
  replace CR := CR.trans (CHr.keep K3 Sk4 CR.1)
  replace hk := Nat.le_trans hk K3.1
  replace Z0 := Nat.le_trans Z0 K3.1
  replace O0 := O0.keep K3 all0
  replace E_xs := E_xs.keep K3
  replace Fc_xs := Fc_xs.keep K3 nin0
  replace Fv_xs := Fv_xs.keep K3 nin0
  replace V_ts := V_ts.keep K3 nin0
  refine GoH.st (T' := T3) (pc' := 51) (L' := #[.val (.int p1), .val (.int p2), .val (.int p3), .val (.int p4), .val (.int p5), .val (.int (0 : Int32)), .val (.int (q0.toInt32)), .val (.int (q1.toInt32)), .val (.int (q2.toInt32)), .val (.ref xs), .val (.int (qi.toInt32)), .unset, .unset]) (S' := [(.ref bb)]) st3 ?_
  refine GoH.st (T' := T3) (pc' := 53) (L' := #[.val (.int p1), .val (.int p2), .val (.int p3), .val (.int p4), .val (.int p5), .val (.int (0 : Int32)), .val (.int (q0.toInt32)), .val (.int (q1.toInt32)), .val (.int (q2.toInt32)), .val (.ref xs), .val (.int (qi.toInt32)), .val (.ref bb), .unset]) (S' := []) (fun t_ k_ => XS.astore X3.here hx rfl (hb hby at_51) rfl rfl (l' := #[.val (.int p1), .val (.int p2), .val (.int p3), .val (.int p4), .val (.int p5), .val (.int (0 : Int32)), .val (.int (q0.toInt32)), .val (.int (q1.toInt32)), .val (.int (q2.toInt32)), .val (.ref xs), .val (.int (qi.toInt32)), .val (.ref bb), .unset]) rfl k_) ?_
  refine GoH.st (T' := T3) (pc' := 55) (L' := #[.val (.int p1), .val (.int p2), .val (.int p3), .val (.int p4), .val (.int p5), .val (.int (0 : Int32)), .val (.int (q0.toInt32)), .val (.int (q1.toInt32)), .val (.int (q2.toInt32)), .val (.ref xs), .val (.int (qi.toInt32)), .val (.ref bb), .unset]) (S' := [(.ref bb)]) (fun t_ k_ => XS.aload X3.here hx rfl (hb hby at_53) rfl rfl  k_) ?_
  refine GoH.st (T' := T3) (pc' := 58) (L' := #[.val (.int p1), .val (.int p2), .val (.int p3), .val (.int p4), .val (.int p5), .val (.int (0 : Int32)), .val (.int (q0.toInt32)), .val (.int (q1.toInt32)), .val (.int (q2.toInt32)), .val (.ref xs), .val (.int (qi.toInt32)), .val (.ref bb), .unset]) (S' := []) (fun t_ k_ => XS.ifnullNo X3.here hx rfl (hb hby at_55) rfl k_) ?_
  refine GoH.st (T' := T3) (pc' := 60) (L' := #[.val (.int p1), .val (.int p2), .val (.int p3), .val (.int p4), .val (.int p5), .val (.int (0 : Int32)), .val (.int (q0.toInt32)), .val (.int (q1.toInt32)), .val (.int (q2.toInt32)), .val (.ref xs), .val (.int (qi.toInt32)), .val (.ref bb), .unset]) (S' := [(.ref bb)]) (fun t_ k_ => XS.aload X3.here hx rfl (hb hby at_58) rfl rfl  k_) ?_
  obtain ⟨cl5, Ar5, -, q5a, q5b, -, -⟩ := id Vb3
  refine GoH.st (T' := T3) (pc' := 61) (L' := #[.val (.int p1), .val (.int p2), .val (.int p3), .val (.int p4), .val (.int p5), .val (.int (0 : Int32)), .val (.int (q0.toInt32)), .val (.int (q1.toInt32)), .val (.int (q2.toInt32)), .val (.ref xs), .val (.int (qi.toInt32)), .val (.ref bb), .unset]) (S' := [(.int (128 : Int32))]) (fun t_ k_ => own_len X3 hx hZ e3 Ar5 q5a q5b (g := (mkF m 60 #[.val (.int p1), .val (.int p2), .val (.int p3), .val (.int p4), .val (.int p5), .val (.int (0 : Int32)), .val (.int (q0.toInt32)), .val (.int (q1.toInt32)), .val (.int (q2.toInt32)), .val (.ref xs), .val (.int (qi.toInt32)), .val (.ref bb), .unset] [(.ref bb)])) rfl rfl (hb hby at_60) t_ k_) ?_
  refine GoH.st (T' := T3) (pc' := 64) (L' := #[.val (.int p1), .val (.int p2), .val (.int p3), .val (.int p4), .val (.int p5), .val (.int (0 : Int32)), .val (.int (q0.toInt32)), .val (.int (q1.toInt32)), .val (.int (q2.toInt32)), .val (.ref xs), .val (.int (qi.toInt32)), .val (.ref bb), .unset]) (S' := [(.int (128 : Int32)), (.int (128 : Int32))]) (fun t_ k_ => XS.sipush X3.here hx rfl (hb hby at_61) k_) ?_
  refine GoH.st (T' := T3) (pc' := 69) (L' := #[.val (.int p1), .val (.int p2), .val (.int p3), .val (.int p4), .val (.int p5), .val (.int (0 : Int32)), .val (.int (q0.toInt32)), .val (.int (q1.toInt32)), .val (.int (q2.toInt32)), .val (.ref xs), .val (.int (qi.toInt32)), .val (.ref bb), .unset]) (S' := []) (fun t_ k_ => XS.icmpYes X3.here hx rfl (pc0 := 64) (pc' := 69) rfl (hb hby at_64) rfl (teq (by decide : ((128 : Int32) = (128 : Int32)))).1 (by decide) (by decide) k_) ?_
  refine GoH.st (T' := T3) (pc' := 71) (L' := #[.val (.int p1), .val (.int p2), .val (.int p3), .val (.int p4), .val (.int p5), .val (.int (0 : Int32)), .val (.int (q0.toInt32)), .val (.int (q1.toInt32)), .val (.int (q2.toInt32)), .val (.ref xs), .val (.int (qi.toInt32)), .val (.ref bb), .unset]) (S' := [(.int (qi.toInt32))]) (fun t_ k_ => XS.iload X3.here hx rfl (hb hby at_69) rfl  k_) ?_
  refine GoH.st (T' := T3) (pc' := 73) (L' := #[.val (.int p1), .val (.int p2), .val (.int p3), .val (.int p4), .val (.int p5), .val (.int (0 : Int32)), .val (.int (q0.toInt32)), .val (.int (q1.toInt32)), .val (.int (q2.toInt32)), .val (.ref xs), .val (.int (qi.toInt32)), .val (.ref bb), .unset]) (S' := [(.int (32 : Int32)), (.int (qi.toInt32))]) (fun t_ k_ => XS.bipush X3.here hx rfl (hb hby at_71) k_) ?_
  by_cases hc73_6 : (32 : Int32) < (qi.toInt32)
  · refine GoH.st (T' := T3) (pc' := 76) (L' := #[.val (.int p1), .val (.int p2), .val (.int p3), .val (.int p4), .val (.int p5), .val (.int (0 : Int32)), .val (.int (q0.toInt32)), .val (.int (q1.toInt32)), .val (.int (q2.toInt32)), .val (.ref xs), .val (.int (qi.toInt32)), .val (.ref bb), .unset]) (S' := []) (fun t_ k_ => XS.icmpNo X3.here hx rfl (hb hby at_73) rfl (tlt hc73_6).2.2.2 k_) ?_
    refine GoH.st (T' := T3) (pc' := 78) (L' := #[.val (.int p1), .val (.int p2), .val (.int p3), .val (.int p4), .val (.int p5), .val (.int (0 : Int32)), .val (.int (q0.toInt32)), .val (.int (q1.toInt32)), .val (.int (q2.toInt32)), .val (.ref xs), .val (.int (qi.toInt32)), .val (.ref bb), .unset]) (S' := [(.int (0 : Int32))]) (fun t_ k_ => XS.iload X3.here hx rfl (hb hby at_76) rfl  k_) ?_
    refine GoH.st (T' := T3) (pc' := 79) (L' := #[.val (.int p1), .val (.int p2), .val (.int p3), .val (.int p4), .val (.int p5), .val (.int (0 : Int32)), .val (.int (q0.toInt32)), .val (.int (q1.toInt32)), .val (.int (q2.toInt32)), .val (.ref xs), .val (.int (qi.toInt32)), .val (.ref bb), .unset]) (S' := [(.int (1 : Int32)), (.int (0 : Int32))]) (fun t_ k_ => XS.iconst X3.here hx rfl (hb hby at_78) k_) ?_
    refine GoH.st (T' := T3) (pc' := 89) (L' := #[.val (.int p1), .val (.int p2), .val (.int p3), .val (.int p4), .val (.int p5), .val (.int (0 : Int32)), .val (.int (q0.toInt32)), .val (.int (q1.toInt32)), .val (.int (q2.toInt32)), .val (.ref xs), .val (.int (qi.toInt32)), .val (.ref bb), .unset]) (S' := []) (fun t_ k_ => XS.icmpYes X3.here hx rfl (pc0 := 79) (pc' := 89) rfl (hb hby at_79) rfl (tlt (by decide : ((0 : Int32) < (1 : Int32)))).1 (by decide) (by decide) k_) ?_
    refine GoH.st (T' := T3) (pc' := 91) (L' := #[.val (.int p1), .val (.int p2), .val (.int p3), .val (.int p4), .val (.int p5), .val (.int (0 : Int32)), .val (.int (q0.toInt32)), .val (.int (q1.toInt32)), .val (.int (q2.toInt32)), .val (.ref xs), .val (.int (qi.toInt32)), .val (.ref bb), .unset]) (S' := [(.int (0 : Int32))]) (fun t_ k_ => XS.iload X3.here hx rfl (hb hby at_89) rfl  k_) ?_
    refine GoH.st (T' := T3) (pc' := 92) (L' := #[.val (.int p1), .val (.int p2), .val (.int p3), .val (.int p4), .val (.int p5), .val (.int (0 : Int32)), .val (.int (q0.toInt32)), .val (.int (q1.toInt32)), .val (.int (q2.toInt32)), .val (.ref xs), .val (.int (qi.toInt32)), .val (.ref bb), .unset]) (S' := [(.int (2 : Int32)), (.int (0 : Int32))]) (fun t_ k_ => XS.iconst X3.here hx rfl (hb hby at_91) k_) ?_
    refine GoH.st (T' := T3) (pc' := 102) (L' := #[.val (.int p1), .val (.int p2), .val (.int p3), .val (.int p4), .val (.int p5), .val (.int (0 : Int32)), .val (.int (q0.toInt32)), .val (.int (q1.toInt32)), .val (.int (q2.toInt32)), .val (.ref xs), .val (.int (qi.toInt32)), .val (.ref bb), .unset]) (S' := []) (fun t_ k_ => XS.icmpYes X3.here hx rfl (pc0 := 92) (pc' := 102) rfl (hb hby at_92) rfl (tlt (by decide : ((0 : Int32) < (2 : Int32)))).1 (by decide) (by decide) k_) ?_
    refine GoH.st (T' := T3) (pc' := 104) (L' := #[.val (.int p1), .val (.int p2), .val (.int p3), .val (.int p4), .val (.int p5), .val (.int (0 : Int32)), .val (.int (q0.toInt32)), .val (.int (q1.toInt32)), .val (.int (q2.toInt32)), .val (.ref xs), .val (.int (qi.toInt32)), .val (.ref bb), .unset]) (S' := [(.int (0 : Int32))]) (fun t_ k_ => XS.iload X3.here hx rfl (hb hby at_102) rfl  k_) ?_
    refine GoH.st (T' := T3) (pc' := 105) (L' := #[.val (.int p1), .val (.int p2), .val (.int p3), .val (.int p4), .val (.int p5), .val (.int (0 : Int32)), .val (.int (q0.toInt32)), .val (.int (q1.toInt32)), .val (.int (q2.toInt32)), .val (.ref xs), .val (.int (qi.toInt32)), .val (.ref bb), .unset]) (S' := [(.int (3 : Int32)), (.int (0 : Int32))]) (fun t_ k_ => XS.iconst X3.here hx rfl (hb hby at_104) k_) ?_
    refine GoH.st (T' := T3) (pc' := 119) (L' := #[.val (.int p1), .val (.int p2), .val (.int p3), .val (.int p4), .val (.int p5), .val (.int (0 : Int32)), .val (.int (q0.toInt32)), .val (.int (q1.toInt32)), .val (.int (q2.toInt32)), .val (.ref xs), .val (.int (qi.toInt32)), .val (.ref bb), .unset]) (S' := []) (fun t_ k_ => XS.icmpYes X3.here hx rfl (pc0 := 105) (pc' := 119) rfl (hb hby at_105) rfl (tlt (by decide : ((0 : Int32) < (3 : Int32)))).1 (by decide) (by decide) k_) ?_
    refine GoH.st (T' := T3) (pc' := 120) (L' := #[.val (.int p1), .val (.int p2), .val (.int p3), .val (.int p4), .val (.int p5), .val (.int (0 : Int32)), .val (.int (q0.toInt32)), .val (.int (q1.toInt32)), .val (.int (q2.toInt32)), .val (.ref xs), .val (.int (qi.toInt32)), .val (.ref bb), .unset]) (S' := [(.int (0 : Int32))]) (fun t_ k_ => XS.iconst X3.here hx rfl (hb hby at_119) k_) ?_
    refine GoH.st (T' := T3) (pc' := 122) (L' := #[.val (.int p1), .val (.int p2), .val (.int p3), .val (.int p4), .val (.int p5), .val (.int (0 : Int32)), .val (.int (q0.toInt32)), .val (.int (q1.toInt32)), .val (.int (q2.toInt32)), .val (.ref xs), .val (.int (qi.toInt32)), .val (.ref bb), .val (.int (0 : Int32))]) (S' := []) (fun t_ k_ => XS.istore X3.here hx rfl (hb hby at_120) rfl (l' := #[.val (.int p1), .val (.int p2), .val (.int p3), .val (.int p4), .val (.int p5), .val (.int (0 : Int32)), .val (.int (q0.toInt32)), .val (.int (q1.toInt32)), .val (.int (q2.toInt32)), .val (.ref xs), .val (.int (qi.toInt32)), .val (.ref bb), .val (.int (0 : Int32))]) rfl k_) ?_
    refine GoH.st (T' := T3) (pc' := 124) (L' := #[.val (.int p1), .val (.int p2), .val (.int p3), .val (.int p4), .val (.int p5), .val (.int (0 : Int32)), .val (.int (q0.toInt32)), .val (.int (q1.toInt32)), .val (.int (q2.toInt32)), .val (.ref xs), .val (.int (qi.toInt32)), .val (.ref bb), .val (.int (0 : Int32))]) (S' := [(.ref bb)]) (fun t_ k_ => XS.aload X3.here hx rfl (hb hby at_122) rfl rfl  k_) ?_
    refine GoH.st (T' := T3) (pc' := 126) (L' := #[.val (.int p1), .val (.int p2), .val (.int p3), .val (.int p4), .val (.int p5), .val (.int (0 : Int32)), .val (.int (q0.toInt32)), .val (.int (q1.toInt32)), .val (.int (q2.toInt32)), .val (.ref xs), .val (.int (qi.toInt32)), .val (.ref bb), .val (.int (0 : Int32))]) (S' := [(.int (qi.toInt32)), (.ref bb)]) (fun t_ k_ => XS.iload X3.here hx rfl (hb hby at_124) rfl  k_) ?_
    obtain ⟨cl7, Ar7, -, q7a, q7b, q7c, q7d⟩ := id Vb3
    refine GoH.st (T' := T3) (pc' := 127) (L' := #[.val (.int p1), .val (.int p2), .val (.int p3), .val (.int p4), .val (.int p5), .val (.int (0 : Int32)), .val (.int (q0.toInt32)), .val (.int (q1.toInt32)), .val (.int (q2.toInt32)), .val (.ref xs), .val (.int (qi.toInt32)), .val (.ref bb), .val (.int (0 : Int32))]) (S' := [(.int (MM.getD (qi) 0))]) (fun t_ k_ => X3.baloadBooleans hx (j := (qi.toInt32)) (v := (.int (MM.getD (qi) 0))) (by rw [e3]; exact Ar7.1) (State.isArrayOf_alike hZ.alike Ar7.2.1) Ar7.2.2 (own_inb q7a (N := 128) (by decide) (by omega) (by decide)) (q7c.at (own_inb q7a (N := 128) (by decide) (by omega) (by decide)) (own_atI _ (by omega))) (g := (mkF m 126 #[.val (.int p1), .val (.int p2), .val (.int p3), .val (.int p4), .val (.int p5), .val (.int (0 : Int32)), .val (.int (q0.toInt32)), .val (.int (q1.toInt32)), .val (.int (q2.toInt32)), .val (.ref xs), .val (.int (qi.toInt32)), .val (.ref bb), .val (.int (0 : Int32))] [(.int (qi.toInt32)), (.ref bb)])) rfl rfl (hb hby at_126) t_ k_) ?_
    refine GoH.st (T' := T3) (pc' := 129) (L' := #[.val (.int p1), .val (.int p2), .val (.int p3), .val (.int p4), .val (.int p5), .val (.int (0 : Int32)), .val (.int (q0.toInt32)), .val (.int (q1.toInt32)), .val (.int (q2.toInt32)), .val (.ref xs), .val (.int (qi.toInt32)), .val (.ref bb), .val (.int (0 : Int32))]) (S' := [(.int (0 : Int32)), (.int (MM.getD (qi) 0))]) (fun t_ k_ => XS.iload X3.here hx rfl (hb hby at_127) rfl  k_) ?_
    have hval : MM.getD qi 0 = (0 : Int32) := by
      rw [hMM qi (by omega)]
      have hA : ¬ qi < 33 := by have := (own_ltI (m := 32) (n := qi) (by decide) (by omega)).mp hc73_6; omega
      exact if_neg (by omega)
    refine GoH.st (T' := T3) (pc' := 132) (L' := #[.val (.int p1), .val (.int p2), .val (.int p3), .val (.int p4), .val (.int p5), .val (.int (0 : Int32)), .val (.int (q0.toInt32)), .val (.int (q1.toInt32)), .val (.int (q2.toInt32)), .val (.ref xs), .val (.int (qi.toInt32)), .val (.ref bb), .val (.int (0 : Int32))]) (S' := []) (fun t_ k_ => XS.icmpNo X3.here hx rfl (hb hby at_129) rfl (teq (hval : ((MM.getD (qi) 0) = (0 : Int32)))).2 k_) ?_
    refine GoH.st (T' := T3) (pc' := 133) (L' := #[.val (.int p1), .val (.int p2), .val (.int p3), .val (.int p4), .val (.int p5), .val (.int (0 : Int32)), .val (.int (q0.toInt32)), .val (.int (q1.toInt32)), .val (.int (q2.toInt32)), .val (.ref xs), .val (.int (qi.toInt32)), .val (.ref bb), .val (.int (0 : Int32))]) (S' := [(.int (1 : Int32))]) (fun t_ k_ => XS.iconst X3.here hx rfl (hb hby at_132) k_) ?_
    refine GoH.st (T' := T3) (pc' := 137) (L' := #[.val (.int p1), .val (.int p2), .val (.int p3), .val (.int p4), .val (.int p5), .val (.int (0 : Int32)), .val (.int (q0.toInt32)), .val (.int (q1.toInt32)), .val (.int (q2.toInt32)), .val (.ref xs), .val (.int (qi.toInt32)), .val (.ref bb), .val (.int (0 : Int32))]) (S' := [(.int (1 : Int32))]) (fun t_ k_ => XS.goto X3.here hx rfl (pc0 := 133) (pc' := 137) rfl (hb hby at_133) (by decide) (by decide) k_) ?_
    exact GoH.retN X3 hx hlk hret (by simp) (hb hby at_137) (by decide) (by decide) hS hk e3 hs0 hZ (own_EW hw) CR (by rw [e3]; exact ⟨rfl, N3⟩)
  · refine GoH.st (T' := T3) (pc' := 115) (L' := #[.val (.int p1), .val (.int p2), .val (.int p3), .val (.int p4), .val (.int p5), .val (.int (0 : Int32)), .val (.int (q0.toInt32)), .val (.int (q1.toInt32)), .val (.int (q2.toInt32)), .val (.ref xs), .val (.int (qi.toInt32)), .val (.ref bb), .unset]) (S' := []) (fun t_ k_ => XS.icmpYes X3.here hx rfl (pc0 := 73) (pc' := 115) rfl (hb hby at_73) rfl (flt hc73_6).2.2.2 (by decide) (by decide) k_) ?_
    refine GoH.st (T' := T3) (pc' := 116) (L' := #[.val (.int p1), .val (.int p2), .val (.int p3), .val (.int p4), .val (.int p5), .val (.int (0 : Int32)), .val (.int (q0.toInt32)), .val (.int (q1.toInt32)), .val (.int (q2.toInt32)), .val (.ref xs), .val (.int (qi.toInt32)), .val (.ref bb), .unset]) (S' := [(.int (1 : Int32))]) (fun t_ k_ => XS.iconst X3.here hx rfl (hb hby at_115) k_) ?_
    refine GoH.st (T' := T3) (pc' := 120) (L' := #[.val (.int p1), .val (.int p2), .val (.int p3), .val (.int p4), .val (.int p5), .val (.int (0 : Int32)), .val (.int (q0.toInt32)), .val (.int (q1.toInt32)), .val (.int (q2.toInt32)), .val (.ref xs), .val (.int (qi.toInt32)), .val (.ref bb), .unset]) (S' := [(.int (1 : Int32))]) (fun t_ k_ => XS.goto X3.here hx rfl (pc0 := 116) (pc' := 120) rfl (hb hby at_116) (by decide) (by decide) k_) ?_
    refine GoH.st (T' := T3) (pc' := 122) (L' := #[.val (.int p1), .val (.int p2), .val (.int p3), .val (.int p4), .val (.int p5), .val (.int (0 : Int32)), .val (.int (q0.toInt32)), .val (.int (q1.toInt32)), .val (.int (q2.toInt32)), .val (.ref xs), .val (.int (qi.toInt32)), .val (.ref bb), .val (.int (1 : Int32))]) (S' := []) (fun t_ k_ => XS.istore X3.here hx rfl (hb hby at_120) rfl (l' := #[.val (.int p1), .val (.int p2), .val (.int p3), .val (.int p4), .val (.int p5), .val (.int (0 : Int32)), .val (.int (q0.toInt32)), .val (.int (q1.toInt32)), .val (.int (q2.toInt32)), .val (.ref xs), .val (.int (qi.toInt32)), .val (.ref bb), .val (.int (1 : Int32))]) rfl k_) ?_
    refine GoH.st (T' := T3) (pc' := 124) (L' := #[.val (.int p1), .val (.int p2), .val (.int p3), .val (.int p4), .val (.int p5), .val (.int (0 : Int32)), .val (.int (q0.toInt32)), .val (.int (q1.toInt32)), .val (.int (q2.toInt32)), .val (.ref xs), .val (.int (qi.toInt32)), .val (.ref bb), .val (.int (1 : Int32))]) (S' := [(.ref bb)]) (fun t_ k_ => XS.aload X3.here hx rfl (hb hby at_122) rfl rfl  k_) ?_
    refine GoH.st (T' := T3) (pc' := 126) (L' := #[.val (.int p1), .val (.int p2), .val (.int p3), .val (.int p4), .val (.int p5), .val (.int (0 : Int32)), .val (.int (q0.toInt32)), .val (.int (q1.toInt32)), .val (.int (q2.toInt32)), .val (.ref xs), .val (.int (qi.toInt32)), .val (.ref bb), .val (.int (1 : Int32))]) (S' := [(.int (qi.toInt32)), (.ref bb)]) (fun t_ k_ => XS.iload X3.here hx rfl (hb hby at_124) rfl  k_) ?_
    obtain ⟨cl8, Ar8, -, q8a, q8b, q8c, q8d⟩ := id Vb3
    refine GoH.st (T' := T3) (pc' := 127) (L' := #[.val (.int p1), .val (.int p2), .val (.int p3), .val (.int p4), .val (.int p5), .val (.int (0 : Int32)), .val (.int (q0.toInt32)), .val (.int (q1.toInt32)), .val (.int (q2.toInt32)), .val (.ref xs), .val (.int (qi.toInt32)), .val (.ref bb), .val (.int (1 : Int32))]) (S' := [(.int (MM.getD (qi) 0))]) (fun t_ k_ => X3.baloadBooleans hx (j := (qi.toInt32)) (v := (.int (MM.getD (qi) 0))) (by rw [e3]; exact Ar8.1) (State.isArrayOf_alike hZ.alike Ar8.2.1) Ar8.2.2 (own_inb q8a (N := 128) (by decide) (by omega) (by decide)) (q8c.at (own_inb q8a (N := 128) (by decide) (by omega) (by decide)) (own_atI _ (by omega))) (g := (mkF m 126 #[.val (.int p1), .val (.int p2), .val (.int p3), .val (.int p4), .val (.int p5), .val (.int (0 : Int32)), .val (.int (q0.toInt32)), .val (.int (q1.toInt32)), .val (.int (q2.toInt32)), .val (.ref xs), .val (.int (qi.toInt32)), .val (.ref bb), .val (.int (1 : Int32))] [(.int (qi.toInt32)), (.ref bb)])) rfl rfl (hb hby at_126) t_ k_) ?_
    refine GoH.st (T' := T3) (pc' := 129) (L' := #[.val (.int p1), .val (.int p2), .val (.int p3), .val (.int p4), .val (.int p5), .val (.int (0 : Int32)), .val (.int (q0.toInt32)), .val (.int (q1.toInt32)), .val (.int (q2.toInt32)), .val (.ref xs), .val (.int (qi.toInt32)), .val (.ref bb), .val (.int (1 : Int32))]) (S' := [(.int (1 : Int32)), (.int (MM.getD (qi) 0))]) (fun t_ k_ => XS.iload X3.here hx rfl (hb hby at_127) rfl  k_) ?_
    have hval : MM.getD qi 0 = (1 : Int32) := by
      rw [hMM qi (by omega)]
      have hA : qi < 33 := by have := mt (own_ltI (m := 32) (n := qi) (by decide) (by omega)).mpr hc73_6; omega
      exact if_pos (by omega)
    refine GoH.st (T' := T3) (pc' := 132) (L' := #[.val (.int p1), .val (.int p2), .val (.int p3), .val (.int p4), .val (.int p5), .val (.int (0 : Int32)), .val (.int (q0.toInt32)), .val (.int (q1.toInt32)), .val (.int (q2.toInt32)), .val (.ref xs), .val (.int (qi.toInt32)), .val (.ref bb), .val (.int (1 : Int32))]) (S' := []) (fun t_ k_ => XS.icmpNo X3.here hx rfl (hb hby at_129) rfl (teq (hval : ((MM.getD (qi) 0) = (1 : Int32)))).2 k_) ?_
    refine GoH.st (T' := T3) (pc' := 133) (L' := #[.val (.int p1), .val (.int p2), .val (.int p3), .val (.int p4), .val (.int p5), .val (.int (0 : Int32)), .val (.int (q0.toInt32)), .val (.int (q1.toInt32)), .val (.int (q2.toInt32)), .val (.ref xs), .val (.int (qi.toInt32)), .val (.ref bb), .val (.int (1 : Int32))]) (S' := [(.int (1 : Int32))]) (fun t_ k_ => XS.iconst X3.here hx rfl (hb hby at_132) k_) ?_
    refine GoH.st (T' := T3) (pc' := 137) (L' := #[.val (.int p1), .val (.int p2), .val (.int p3), .val (.int p4), .val (.int p5), .val (.int (0 : Int32)), .val (.int (q0.toInt32)), .val (.int (q1.toInt32)), .val (.int (q2.toInt32)), .val (.ref xs), .val (.int (qi.toInt32)), .val (.ref bb), .val (.int (1 : Int32))]) (S' := [(.int (1 : Int32))]) (fun t_ k_ => XS.goto X3.here hx rfl (pc0 := 133) (pc' := 137) rfl (hb hby at_133) (by decide) (by decide) k_) ?_
    exact GoH.retN X3 hx hlk hret (by simp) (hb hby at_137) (by decide) (by decide) hS hk e3 hs0 hZ (own_EW hw) CR (by rw [e3]; exact ⟨rfl, N3⟩)
theorem d1_15 : decode method_2_code 15 = .ok (.iload_n 0, 1) := by decide +kernel
theorem d1_16 : decode method_2_code 16 = .ok (.iconst 1, 1) := by decide +kernel
theorem d1_17 : decode method_2_code 17 = .ok (.if_icmp .ne 18, 3) := by decide +kernel
theorem d1_20 : decode method_2_code 20 = .ok (.new 7, 3) := by decide +kernel
theorem d1_23 : decode method_2_code 23 = .ok (.dup, 1) := by decide +kernel
theorem d1_24 : decode method_2_code 24 = .ok (.iconst 1, 1) := by decide +kernel
theorem d1_25 : decode method_2_code 25 = .ok (.newarray .char, 2) := by decide +kernel
theorem d1_27 : decode method_2_code 27 = .ok (.dup, 1) := by decide +kernel
theorem d1_28 : decode method_2_code 28 = .ok (.iconst 0, 1) := by decide +kernel
theorem d1_29 : decode method_2_code 29 = .ok (.iload_n 1, 1) := by decide +kernel
theorem d1_30 : decode method_2_code 30 = .ok (.castore, 1) := by decide +kernel
theorem d1_31 : decode method_2_code 31 = .ok (.invokespecial 9, 3) := by decide +kernel
theorem d1_34 : decode method_2_code 34 = .ok (.areturn, 1) := by decide +kernel
def Qmk1 (Z : State) (q0 : Nat) (q1 : Nat) (q2 : Nat) (h0 : Heap) (n0 : Nat) (v : Option Value) (h : Heap) (L : List Loc) : Prop := ∃ (x t : Addr) (kt : ClassId), v = some (.ref x) ∧ Fr n0 L ∧ Keep h0 h [] ∧ n0 ≤ x ∧ Exa Z h x "java/lang/String" ∧ Fld Z h x "java/lang/String" "coder" "B" (.int (0 : Int32)) ∧ Fld Z h x "java/lang/String" "value" "[B" (.ref t) ∧ Arv Z h t kt .byte (1 : Int32) [(.int ((nar .char (q0.toInt32)).toInt8.toInt32))] (.int (0 : Int32))
def roommk1 : Room := { frames := 4, cells := 3, slots := 6, locals := 66 }
set_option maxRecDepth 65536 in
set_option maxHeartbeats 40000000 in
theorem rmmk1 (l : Launch) (Z : State) (a0 : Array Value) (hw : ∀ d ∈ tables_1, d.before a0 Z = true) (ws : List Jvm.Cond) (q0 : Nat) (q1 : Nat) (q2 : Nat) (gC : Int32) (h0 : Heap) (n0 : Nat) (Z0 : n0 ≤ h0.size) (SC : Sta Z Z.heap "java/lang/String" "COMPACT_STRINGS" "Z" (.int gC)) (PC : ¬ (gC = (0 : Int32))) (O0 : Old Z n0 h0) (hq0 : q0 < 128) (hq1 : q1 < 128) (hq2 : q2 < 128) :
    MetFree l (⟨"com/example/traversal/traversal/graph/IrisControlsSpaceAndPinLaw", "make", "(ICCC)Ljava/lang/String;"⟩ : MethodName) (head1 (Jvm.Cond.code (⟨"com/example/traversal/traversal/graph/IrisControlsSpaceAndPinLaw", "make", "(ICCC)Ljava/lang/String;"⟩ : MethodName) method_2_code 4 (some (.object "java/lang/String")) :: ws) roommk1) (fun aa_ U_ => aa_ = #[(.int (1 : Int32)), (.int (q0.toInt32)), (.int (q1.toInt32)), (.int (q2.toInt32))] ∧ Z.Warmed39 U_.vm ∧ U_.heap = h0 ∧ CHv Z EL U_.vm h0) (fun _ _ _ _ _ => True) (fun _ U_ o_ W_ => ∃ v_ L_, o_ = .returned v_ ∧ (Qmk1 Z q0 q1 q2 h0 n0) v_ W_.heap L_ ∧ CHr Z EL U_.vm U_.heap W_.vm W_.heap ∧ ReturnedEndW U_ o_ W_ L_ roommk1.cells roommk1.slots) := by
  refine own_metH (Q := (Qmk1 Z q0 q1 q2 h0 n0)) (L0 := #[.val (.int (1 : Int32)), .val (.int (q0.toInt32)), .val (.int (q1.toInt32)), .val (.int (q2.toInt32))]) (plainFor_of_name pn_3) (fun m => by first | (simp [entryFrame, mkF, argsToLocals, Value.category]; done) | rfl) ?_
  intro p e s m below meth c T0 X0 hx hby hml hown hnm hret hlk hZ e0 hs0 CR hS hk
  have N0 := Fr.nil n0
  have K0 := Keep.refl h0 []
  refine GoH.st (T' := T0) (pc' := 1) (L' := #[.val (.int (1 : Int32)), .val (.int (q0.toInt32)), .val (.int (q1.toInt32)), .val (.int (q2.toInt32))]) (S' := [(.int (1 : Int32))]) (fun t_ k_ => XS.iloadN X0.here hx rfl (hb hby d1_0) rfl  k_) ?_
  refine GoH.st (T' := T0) (pc' := 15) (L' := #[.val (.int (1 : Int32)), .val (.int (q0.toInt32)), .val (.int (q1.toInt32)), .val (.int (q2.toInt32))]) (S' := []) (fun t_ k_ => XS.ifYes X0.here hx rfl (pc0 := 1) (pc' := 15) rfl (hb hby d1_1) rfl ((if0 _ _).trans (feq (by decide : ¬ ((1 : Int32) = (0 : Int32)))).2) (by decide) (by decide) k_) ?_
  refine GoH.st (T' := T0) (pc' := 16) (L' := #[.val (.int (1 : Int32)), .val (.int (q0.toInt32)), .val (.int (q1.toInt32)), .val (.int (q2.toInt32))]) (S' := [(.int (1 : Int32))]) (fun t_ k_ => XS.iloadN X0.here hx rfl (hb hby d1_15) rfl  k_) ?_
  refine GoH.st (T' := T0) (pc' := 17) (L' := #[.val (.int (1 : Int32)), .val (.int (q0.toInt32)), .val (.int (q1.toInt32)), .val (.int (q2.toInt32))]) (S' := [(.int (1 : Int32)), (.int (1 : Int32))]) (fun t_ k_ => XS.iconst X0.here hx rfl (hb hby d1_16) k_) ?_
  refine GoH.st (T' := T0) (pc' := 20) (L' := #[.val (.int (1 : Int32)), .val (.int (q0.toInt32)), .val (.int (q1.toInt32)), .val (.int (q2.toInt32))]) (S' := []) (fun t_ k_ => XS.icmpNo X0.here hx rfl (hb hby d1_17) rfl (teq (by decide : ((1 : Int32) = (1 : Int32)))).2 k_) ?_
  obtain ⟨T1, h1, X1, e1, E1, A1, D1, U1, st1⟩ := newO X0 hx hZ hown (hw _ (List.mem_of_getElem? (i := 4) rfl)) (hw _ (List.mem_of_getElem? (i := 5) rfl)) (hw _ (List.mem_of_getElem? (i := 6) rfl)) e0 (g := (mkF m 20 #[.val (.int (1 : Int32)), .val (.int (q0.toInt32)), .val (.int (q1.toInt32)), .val (.int (q2.toInt32))] [])) rfl (hb hby d1_20) (by decide) (by decide)
  obtain ⟨b1, g1⟩ : ∃ z, z = h0.size := ⟨_, rfl⟩
  rw [← g1] at A1 D1 U1 st1
  have g_b1 : n0 ≤ b1 := Nat.le_trans Z0 (Nat.le_of_eq g1.symm)
  have sz_b1 : h0.size ≤ b1 := Nat.le_trans K0.1 (Nat.le_of_eq g1.symm)
  have S_b1 : Safe Z EL s.vm h1 b1 := Safe.ext E1 CR.1 (Safe.new (Nat.le_of_eq g1.symm))
  replace CR := CR.trans (CHr.ext E1 CR.1)
  replace hk := Nat.le_trans hk E1.1
  replace Z0 := Nat.le_trans Z0 E1.1
  replace K0 := K0.ext E1
  replace O0 := O0.ext E1
  have E_b1 := A1
  have F_b1_coder : Fld Z h1 b1 "java/lang/String" "coder" "B" (.int (0 : Int32)) := D1 (Or.inr (hw _ (List.mem_of_getElem? (i := 31) rfl))) (ty := .byte) (by decide)
  have F_b1_value : Fld Z h1 b1 "java/lang/String" "value" "[B" .null := D1 (Or.inr (hw _ (List.mem_of_getElem? (i := 33) rfl))) (ty := (.array .byte)) (by decide)
  refine GoH.st (T' := T1) (pc' := 23) (L' := #[.val (.int (1 : Int32)), .val (.int (q0.toInt32)), .val (.int (q1.toInt32)), .val (.int (q2.toInt32))]) (S' := [(.ref b1)]) st1 ?_
  refine GoH.st (T' := T1) (pc' := 24) (L' := #[.val (.int (1 : Int32)), .val (.int (q0.toInt32)), .val (.int (q1.toInt32)), .val (.int (q2.toInt32))]) (S' := [(.ref b1), (.ref b1)]) (fun t_ k_ => XS.dup X1.here hx rfl (hb hby d1_23) rfl rfl k_) ?_
  refine GoH.st (T' := T1) (pc' := 25) (L' := #[.val (.int (1 : Int32)), .val (.int (q0.toInt32)), .val (.int (q1.toInt32)), .val (.int (q2.toInt32))]) (S' := [(.int (1 : Int32)), (.ref b1), (.ref b1)]) (fun t_ k_ => XS.iconst X1.here hx rfl (hb hby d1_24) k_) ?_
  obtain ⟨T2, h2, k2, X2, e2, E2, A2, st2⟩ := newP X1 hx hZ (hw _ (List.mem_of_getElem? (i := 7) rfl)) e1 (g := (mkF m 25 #[.val (.int (1 : Int32)), .val (.int (q0.toInt32)), .val (.int (q1.toInt32)), .val (.int (q2.toInt32))] [(.int (1 : Int32)), (.ref b1), (.ref b1)])) rfl (hb hby d1_25) rfl (by decide) (cap := 1) (by decide) (by decide) (by decide) (by decide)
  obtain ⟨b2, g2⟩ : ∃ z, z = h1.size := ⟨_, rfl⟩
  rw [← g2] at A2 st2
  have ne_b1_b2 : b1 ≠ b2 := Nat.ne_of_lt (Nat.lt_of_lt_of_le E_b1.lt (Nat.le_of_eq g2.symm))
  have g_b2 : n0 ≤ b2 := Nat.le_trans Z0 (Nat.le_of_eq g2.symm)
  have sz_b2 : h0.size ≤ b2 := Nat.le_trans K0.1 (Nat.le_of_eq g2.symm)
  replace S_b1 := Safe.ext E2 CR.1 S_b1
  replace CR := CR.trans (CHr.ext E2 CR.1)
  replace hk := Nat.le_trans hk E2.1
  replace Z0 := Nat.le_trans Z0 E2.1
  replace K0 := K0.ext E2
  replace O0 := O0.ext E2
  replace E_b1 := E_b1.ext E2
  replace F_b1_coder := F_b1_coder.ext E2
  replace F_b1_value := F_b1_value.ext E2
  have V_b2 : Arv Z h2 b2 k2 .char (1 : Int32) [(.int (0 : Int32))] (.int (0 : Int32)) := (Arv.new A2 (by decide)).pad (pad_rep [] (.int (0 : Int32)) 1)
  refine GoH.st (T' := T2) (pc' := 27) (L' := #[.val (.int (1 : Int32)), .val (.int (q0.toInt32)), .val (.int (q1.toInt32)), .val (.int (q2.toInt32))]) (S' := [(.ref b2), (.ref b1), (.ref b1)]) st2 ?_
  refine GoH.st (T' := T2) (pc' := 28) (L' := #[.val (.int (1 : Int32)), .val (.int (q0.toInt32)), .val (.int (q1.toInt32)), .val (.int (q2.toInt32))]) (S' := [(.ref b2), (.ref b2), (.ref b1), (.ref b1)]) (fun t_ k_ => XS.dup X2.here hx rfl (hb hby d1_27) rfl rfl k_) ?_
  refine GoH.st (T' := T2) (pc' := 29) (L' := #[.val (.int (1 : Int32)), .val (.int (q0.toInt32)), .val (.int (q1.toInt32)), .val (.int (q2.toInt32))]) (S' := [(.int (0 : Int32)), (.ref b2), (.ref b2), (.ref b1), (.ref b1)]) (fun t_ k_ => XS.iconst X2.here hx rfl (hb hby d1_28) k_) ?_
  refine GoH.st (T' := T2) (pc' := 30) (L' := #[.val (.int (1 : Int32)), .val (.int (q0.toInt32)), .val (.int (q1.toInt32)), .val (.int (q2.toInt32))]) (S' := [(.int (q0.toInt32)), (.int (0 : Int32)), (.ref b2), (.ref b2), (.ref b1), (.ref b1)]) (fun t_ k_ => XS.iloadN X2.here hx rfl (hb hby d1_29) rfl  k_) ?_
  have Sq3 : Safe Z EL s.vm h2 b2 := (own_safeV hZ.alike V_b2 (by decide))
  obtain ⟨cl3, Ar3, q31, q32, q33, q34, q35⟩ := V_b2
  obtain ⟨T3, h3, X3, e3, W3, st3⟩ := stC X2 hx hZ e2 Ar3 (j := (0 : Int32)) (inb_of q32 ⟨by decide, by decide⟩) (g := (mkF m 30 #[.val (.int (1 : Int32)), .val (.int (q0.toInt32)), .val (.int (q1.toInt32)), .val (.int (q2.toInt32))] [(.int (q0.toInt32)), (.int (0 : Int32)), (.ref b2), (.ref b2), (.ref b1), (.ref b1)])) rfl rfl (hb hby d1_30)
  replace V_b2 := Arv.set Ar3 q31 q32 q33 q34 q35 (fits_nar_char _) W3 0 rfl (Nat.le_of_ble_eq_true rfl)
  have V_b2 : Arv Z h3 b2 k2 .char (1 : Int32) [(.int (nar .char (q0.toInt32)))] (.int (0 : Int32)) := V_b2
  replace S_b1 := Safe.wr W3 Sq3 CR.1 S_b1
  replace CR := CR.trans (CHr.wr W3 Sq3 CR.1)
  replace hk := Nat.le_trans hk (Keep.of_wr W3).1
  replace Z0 := Nat.le_trans Z0 (Keep.of_wr W3).1
  replace K0 := K0.wr W3 (Or.inr sz_b2)
  replace O0 := O0.wr W3 g_b2
  replace E_b1 := E_b1.wr W3
  replace F_b1_coder := F_b1_coder.other W3 (Or.inl ne_b1_b2)
  replace F_b1_value := F_b1_value.other W3 (Or.inl ne_b1_b2)
  have N3 := Fr.snoc X3 N0 g_b2
  refine GoH.st (T' := T3) (pc' := 31) (L' := #[.val (.int (1 : Int32)), .val (.int (q0.toInt32)), .val (.int (q1.toInt32)), .val (.int (q2.toInt32))]) (S' := [(.ref b2), (.ref b1), (.ref b1)]) st3 ?_
  have hws5 : ∀ d ∈ StrChars.Road.words, d.before a0 Z = true := fun d hd => hw d ((by decide +kernel : ∀ d ∈ StrChars.Road.words, d ∈ tables_1) d hd)
  have hlat5 : ∀ c ∈ [(nar .char (q0.toInt32))], ¬ c < 0 ∧ ¬ (255 : Int32) < c := by
    intro c hc
    simp only [List.mem_cons, List.not_mem_nil, or_false] at hc
    rcases hc with rfl
    · exact own_lat (by omega)
  obtain ⟨_, _, ⟨T5, L5, k5, n5⟩, -, X5, ⟨Lc5, hQ5, l5, y5, z5⟩, st5⟩ := X3.specialBack hx (y := (⟨"java/lang/String", "<init>", "([C)V"⟩ : MethodName)) rfl hown (mvT hZ (hw _ (List.mem_of_getElem? (i := 8) rfl))) (mvT hZ (hw _ (List.mem_of_getElem? (i := 9) rfl))) (mvT hZ (hw _ (List.mem_of_getElem? (i := 10) rfl))) (by decide) (StrChars.Road.backV (W := 1) hZ hws5 (kI := 4) (hw _ (List.mem_of_getElem? (i := 5) rfl)) (cs := [(nar .char (q0.toInt32))]) (bs := [((nar .char (q0.toInt32))).toInt8.toInt32]) (n := 1) g_b1 Z0 E_b1 F_b1_value F_b1_coder V_b2 (SC.ext O0.2) PC rfl rfl (by decide) (by decide) hlat5 rfl (by decide) (by decide)) (g := (mkF m 31 #[.val (.int (1 : Int32)), .val (.int (q0.toInt32)), .val (.int (q1.toInt32)), .val (.int (q2.toInt32))] [(.ref b2), (.ref b1), (.ref b1)])) rfl (by rw [hml]; rfl) (Steps.refl _) (a := b1) (argsL := [(.ref b2)]) (rest := [(.ref b1)]) (lenOf pd_5 rfl) rfl (by show 2 * 0 + _ ≤ _; exact Nat.le_of_eq rfl) (hb hby d1_31) (fun _ _ => ⟨rfl, e3, (by decide : 2 + 1 ≤ _), (by decide : 5 + 1 ≤ _)⟩)
  dsimp only [Pt.U, Pt.locs, Pt.cells, Pt.slots] at X5 l5 y5 z5 st5 hQ5
  subst l5 y5 z5
  obtain ⟨rfl, N5q, K5, Ex5, Co5, t5, kb5, ta5, tb5, tc5, Va5, Ay5⟩ := hQ5
  have N5 := Fr.app N3 N5q
  have ne_b1_t5 : b1 ≠ t5 := Nat.ne_of_lt (Nat.lt_of_lt_of_le E_b1.lt tb5)
  have ne_b2_t5 : b2 ≠ t5 := Nat.ne_of_lt (Nat.lt_of_lt_of_le V_b2.lt tb5)
  have sz_t5 : h0.size ≤ t5 := Nat.le_trans K0.1 tb5
  obtain ⟨h5, e5⟩ : ∃ z, T5.heap = z := ⟨_, rfl⟩
  rw [e5] at K5 Ex5 Co5 Va5 Ay5
  have Sk6 : ∀ x ∈ [b1], Safe Z EL s.vm h3 x := (allS S_b1 all0)
  replace S_b1 := Safe.keep K5 Sk6 CR.1 S_b1
  replace CR := CR.trans (CHr.keep K5 Sk6 CR.1)
  replace hk := Nat.le_trans hk K5.1
  replace Z0 := Nat.le_trans Z0 K5.1
  replace K0 := K0.trans K5 (allS (Or.inr sz_b1) all0)
  replace O0 := O0.keep K5 (allS g_b1 all0)
  replace E_b1 := E_b1.keep K5
  replace V_b2 := V_b2.keep K5 (ninS (Ne.symm ne_b1_b2) nin0)
  have Ay5 : Arv Z h5 t5 kb5 .byte (1 : Int32) [(.int (((nar .char (q0.toInt32))).toInt8.toInt32))] (.int (0 : Int32)) := Ay5
  refine GoH.tr (T' := T5) (pc' := 34) (L' := #[.val (.int (1 : Int32)), .val (.int (q0.toInt32)), .val (.int (q1.toInt32)), .val (.int (q2.toInt32))]) (S' := [(.ref b1)]) st5 ?_
  exact GoH.retO X5 hx hlk hret rfl (by simp [FieldType.isReference, Value.isRef]) (hb hby d1_34) (by decide) (by decide) hS hk e5 hs0 hZ (own_EW hw) CR (by rw [e5]; exact ⟨b1, t5, _, rfl, N5, K0, g_b1, E_b1, Co5, Va5, Ay5⟩)

def Q0_1 (Z : State)  (h0 : Heap) (n0 : Nat) (v : Option Value) (h : Heap) (L : List Loc) : Prop := v = some (.int 1) ∧ Fr n0 L
set_option maxRecDepth 65536 in
set_option maxHeartbeats 40000000 in
theorem rm0_1 (l : Launch) (Z : State) (a0 : Array Value) (hw : ∀ d ∈ tables_1, d.before a0 Z = true) (ws : List Jvm.Cond) (p1 : Int32) (p2 : Int32) (p3 : Int32) (p4 : Int32) (p5 : Int32) (q0 q1 q2 qi : Nat) (gC : Int32) (h0 : Heap) (n0 : Nat) (Z0 : n0 ≤ h0.size) (SC : Sta Z Z.heap "java/lang/String" "COMPACT_STRINGS" "Z" (.int gC)) (PC : ¬ (gC = (0 : Int32))) (O0 : Old Z n0 h0) (hq0 : q0 < 128) (hq1 : q1 < 128) (hq2 : q2 < 128) (hqi : qi < 128) (hk3 : p4 &&& (3 : Int32) = (1 : Int32)) (e0q : (p1 &&& (127 : Int32)).toUInt32.toUInt16.toUInt32.toInt32 = q0.toInt32) (e1q : (p2 &&& (127 : Int32)).toUInt32.toUInt16.toUInt32.toInt32 = q1.toInt32) (e2q : (p3 &&& (127 : Int32)).toUInt32.toUInt16.toUInt32.toInt32 = q2.toInt32) (eiq : p5 &&& (127 : Int32) = qi.toInt32) :
    MetFree l x (head1 (Jvm.Cond.code x code maxLocals ret :: ws) room_1) (fun aa_ U_ => aa_ = #[(.int p1), (.int p2), (.int p3), (.int p4), (.int p5)] ∧ Z.Warmed39 U_.vm ∧ U_.heap = h0 ∧ CHv Z EL U_.vm h0) (fun _ _ _ _ _ => True) (fun _ U_ o_ W_ => ∃ v_ L_, o_ = .returned v_ ∧ (Q0_1 Z  h0 n0) v_ W_.heap L_ ∧ CHr Z EL U_.vm U_.heap W_.vm W_.heap ∧ ReturnedEndW U_ o_ W_ L_ room_1.cells room_1.slots) := by
  refine own_metH (Q := (Q0_1 Z  h0 n0)) (L0 := #[.val (.int p1), .val (.int p2), .val (.int p3), .val (.int p4), .val (.int p5), .unset, .unset, .unset, .unset, .unset, .unset, .unset, .unset]) (plainFor_of_name pn_3) (fun m => by first | (simp [entryFrame, mkF, argsToLocals, Value.category, maxLocals]; done) | rfl) ?_
  intro p e s m below meth c T0 X0 hx hby hml hown hnm hret hlk hZ e0 hs0 CR hS hk
  have N0 := Fr.nil n0
  refine GoH.st (T' := T0) (pc' := 1) (L' := #[.val (.int p1), .val (.int p2), .val (.int p3), .val (.int p4), .val (.int p5), .unset, .unset, .unset, .unset, .unset, .unset, .unset, .unset]) (S' := [(.int p4)]) (fun t_ k_ => XS.iloadN X0.here hx rfl (hb hby at_0) rfl  k_) ?_
  refine GoH.st (T' := T0) (pc' := 2) (L' := #[.val (.int p1), .val (.int p2), .val (.int p3), .val (.int p4), .val (.int p5), .unset, .unset, .unset, .unset, .unset, .unset, .unset, .unset]) (S' := [(.int (3 : Int32)), (.int p4)]) (fun t_ k_ => XS.iconst X0.here hx rfl (hb hby at_1) k_) ?_
  refine GoH.st (T' := T0) (pc' := 3) (L' := #[.val (.int p1), .val (.int p2), .val (.int p3), .val (.int p4), .val (.int p5), .unset, .unset, .unset, .unset, .unset, .unset, .unset, .unset]) (S' := [(.int (p4 &&& (3 : Int32)))]) (fun t_ k_ => XS.iand X0.here hx rfl (hb hby at_2) rfl k_) ?_
  rw [hk3]
  refine GoH.st (T' := T0) (pc' := 5) (L' := #[.val (.int p1), .val (.int p2), .val (.int p3), .val (.int p4), .val (.int p5), .val (.int (1 : Int32)), .unset, .unset, .unset, .unset, .unset, .unset, .unset]) (S' := []) (fun t_ k_ => XS.istore X0.here hx rfl (hb hby at_3) rfl (l' := #[.val (.int p1), .val (.int p2), .val (.int p3), .val (.int p4), .val (.int p5), .val (.int (1 : Int32)), .unset, .unset, .unset, .unset, .unset, .unset, .unset]) rfl k_) ?_
  refine GoH.st (T' := T0) (pc' := 6) (L' := #[.val (.int p1), .val (.int p2), .val (.int p3), .val (.int p4), .val (.int p5), .val (.int (1 : Int32)), .unset, .unset, .unset, .unset, .unset, .unset, .unset]) (S' := [(.int p1)]) (fun t_ k_ => XS.iloadN X0.here hx rfl (hb hby at_5) rfl  k_) ?_
  refine GoH.st (T' := T0) (pc' := 8) (L' := #[.val (.int p1), .val (.int p2), .val (.int p3), .val (.int p4), .val (.int p5), .val (.int (1 : Int32)), .unset, .unset, .unset, .unset, .unset, .unset, .unset]) (S' := [(.int (127 : Int32)), (.int p1)]) (fun t_ k_ => XS.bipush X0.here hx rfl (hb hby at_6) k_) ?_
  refine GoH.st (T' := T0) (pc' := 9) (L' := #[.val (.int p1), .val (.int p2), .val (.int p3), .val (.int p4), .val (.int p5), .val (.int (1 : Int32)), .unset, .unset, .unset, .unset, .unset, .unset, .unset]) (S' := [(.int (p1 &&& (127 : Int32)))]) (fun t_ k_ => XS.iand X0.here hx rfl (hb hby at_8) rfl k_) ?_
  refine GoH.st (T' := T0) (pc' := 10) (L' := #[.val (.int p1), .val (.int p2), .val (.int p3), .val (.int p4), .val (.int p5), .val (.int (1 : Int32)), .unset, .unset, .unset, .unset, .unset, .unset, .unset]) (S' := [(.int ((p1 &&& (127 : Int32)).toUInt32.toUInt16.toUInt32.toInt32))]) (fun t_ k_ => XS.i2c X0.here hx rfl (hb hby at_9) rfl k_) ?_
  rw [e0q]
  refine GoH.st (T' := T0) (pc' := 12) (L' := #[.val (.int p1), .val (.int p2), .val (.int p3), .val (.int p4), .val (.int p5), .val (.int (1 : Int32)), .val (.int (q0.toInt32)), .unset, .unset, .unset, .unset, .unset, .unset]) (S' := []) (fun t_ k_ => XS.istore X0.here hx rfl (hb hby at_10) rfl (l' := #[.val (.int p1), .val (.int p2), .val (.int p3), .val (.int p4), .val (.int p5), .val (.int (1 : Int32)), .val (.int (q0.toInt32)), .unset, .unset, .unset, .unset, .unset, .unset]) rfl k_) ?_
  refine GoH.st (T' := T0) (pc' := 13) (L' := #[.val (.int p1), .val (.int p2), .val (.int p3), .val (.int p4), .val (.int p5), .val (.int (1 : Int32)), .val (.int (q0.toInt32)), .unset, .unset, .unset, .unset, .unset, .unset]) (S' := [(.int p2)]) (fun t_ k_ => XS.iloadN X0.here hx rfl (hb hby at_12) rfl  k_) ?_
  refine GoH.st (T' := T0) (pc' := 15) (L' := #[.val (.int p1), .val (.int p2), .val (.int p3), .val (.int p4), .val (.int p5), .val (.int (1 : Int32)), .val (.int (q0.toInt32)), .unset, .unset, .unset, .unset, .unset, .unset]) (S' := [(.int (127 : Int32)), (.int p2)]) (fun t_ k_ => XS.bipush X0.here hx rfl (hb hby at_13) k_) ?_
  refine GoH.st (T' := T0) (pc' := 16) (L' := #[.val (.int p1), .val (.int p2), .val (.int p3), .val (.int p4), .val (.int p5), .val (.int (1 : Int32)), .val (.int (q0.toInt32)), .unset, .unset, .unset, .unset, .unset, .unset]) (S' := [(.int (p2 &&& (127 : Int32)))]) (fun t_ k_ => XS.iand X0.here hx rfl (hb hby at_15) rfl k_) ?_
  refine GoH.st (T' := T0) (pc' := 17) (L' := #[.val (.int p1), .val (.int p2), .val (.int p3), .val (.int p4), .val (.int p5), .val (.int (1 : Int32)), .val (.int (q0.toInt32)), .unset, .unset, .unset, .unset, .unset, .unset]) (S' := [(.int ((p2 &&& (127 : Int32)).toUInt32.toUInt16.toUInt32.toInt32))]) (fun t_ k_ => XS.i2c X0.here hx rfl (hb hby at_16) rfl k_) ?_
  rw [e1q]
  refine GoH.st (T' := T0) (pc' := 19) (L' := #[.val (.int p1), .val (.int p2), .val (.int p3), .val (.int p4), .val (.int p5), .val (.int (1 : Int32)), .val (.int (q0.toInt32)), .val (.int (q1.toInt32)), .unset, .unset, .unset, .unset, .unset]) (S' := []) (fun t_ k_ => XS.istore X0.here hx rfl (hb hby at_17) rfl (l' := #[.val (.int p1), .val (.int p2), .val (.int p3), .val (.int p4), .val (.int p5), .val (.int (1 : Int32)), .val (.int (q0.toInt32)), .val (.int (q1.toInt32)), .unset, .unset, .unset, .unset, .unset]) rfl k_) ?_
  refine GoH.st (T' := T0) (pc' := 20) (L' := #[.val (.int p1), .val (.int p2), .val (.int p3), .val (.int p4), .val (.int p5), .val (.int (1 : Int32)), .val (.int (q0.toInt32)), .val (.int (q1.toInt32)), .unset, .unset, .unset, .unset, .unset]) (S' := [(.int p3)]) (fun t_ k_ => XS.iloadN X0.here hx rfl (hb hby at_19) rfl  k_) ?_
  refine GoH.st (T' := T0) (pc' := 22) (L' := #[.val (.int p1), .val (.int p2), .val (.int p3), .val (.int p4), .val (.int p5), .val (.int (1 : Int32)), .val (.int (q0.toInt32)), .val (.int (q1.toInt32)), .unset, .unset, .unset, .unset, .unset]) (S' := [(.int (127 : Int32)), (.int p3)]) (fun t_ k_ => XS.bipush X0.here hx rfl (hb hby at_20) k_) ?_
  refine GoH.st (T' := T0) (pc' := 23) (L' := #[.val (.int p1), .val (.int p2), .val (.int p3), .val (.int p4), .val (.int p5), .val (.int (1 : Int32)), .val (.int (q0.toInt32)), .val (.int (q1.toInt32)), .unset, .unset, .unset, .unset, .unset]) (S' := [(.int (p3 &&& (127 : Int32)))]) (fun t_ k_ => XS.iand X0.here hx rfl (hb hby at_22) rfl k_) ?_
  refine GoH.st (T' := T0) (pc' := 24) (L' := #[.val (.int p1), .val (.int p2), .val (.int p3), .val (.int p4), .val (.int p5), .val (.int (1 : Int32)), .val (.int (q0.toInt32)), .val (.int (q1.toInt32)), .unset, .unset, .unset, .unset, .unset]) (S' := [(.int ((p3 &&& (127 : Int32)).toUInt32.toUInt16.toUInt32.toInt32))]) (fun t_ k_ => XS.i2c X0.here hx rfl (hb hby at_23) rfl k_) ?_
  rw [e2q]
  refine GoH.st (T' := T0) (pc' := 26) (L' := #[.val (.int p1), .val (.int p2), .val (.int p3), .val (.int p4), .val (.int p5), .val (.int (1 : Int32)), .val (.int (q0.toInt32)), .val (.int (q1.toInt32)), .val (.int (q2.toInt32)), .unset, .unset, .unset, .unset]) (S' := []) (fun t_ k_ => XS.istore X0.here hx rfl (hb hby at_24) rfl (l' := #[.val (.int p1), .val (.int p2), .val (.int p3), .val (.int p4), .val (.int p5), .val (.int (1 : Int32)), .val (.int (q0.toInt32)), .val (.int (q1.toInt32)), .val (.int (q2.toInt32)), .unset, .unset, .unset, .unset]) rfl k_) ?_
  refine GoH.st (T' := T0) (pc' := 28) (L' := #[.val (.int p1), .val (.int p2), .val (.int p3), .val (.int p4), .val (.int p5), .val (.int (1 : Int32)), .val (.int (q0.toInt32)), .val (.int (q1.toInt32)), .val (.int (q2.toInt32)), .unset, .unset, .unset, .unset]) (S' := [(.int (1 : Int32))]) (fun t_ k_ => XS.iload X0.here hx rfl (hb hby at_26) rfl  k_) ?_
  refine GoH.st (T' := T0) (pc' := 30) (L' := #[.val (.int p1), .val (.int p2), .val (.int p3), .val (.int p4), .val (.int p5), .val (.int (1 : Int32)), .val (.int (q0.toInt32)), .val (.int (q1.toInt32)), .val (.int (q2.toInt32)), .unset, .unset, .unset, .unset]) (S' := [(.int (q0.toInt32)), (.int (1 : Int32))]) (fun t_ k_ => XS.iload X0.here hx rfl (hb hby at_28) rfl  k_) ?_
  refine GoH.st (T' := T0) (pc' := 32) (L' := #[.val (.int p1), .val (.int p2), .val (.int p3), .val (.int p4), .val (.int p5), .val (.int (1 : Int32)), .val (.int (q0.toInt32)), .val (.int (q1.toInt32)), .val (.int (q2.toInt32)), .unset, .unset, .unset, .unset]) (S' := [(.int (q1.toInt32)), (.int (q0.toInt32)), (.int (1 : Int32))]) (fun t_ k_ => XS.iload X0.here hx rfl (hb hby at_30) rfl  k_) ?_
  refine GoH.st (T' := T0) (pc' := 34) (L' := #[.val (.int p1), .val (.int p2), .val (.int p3), .val (.int p4), .val (.int p5), .val (.int (1 : Int32)), .val (.int (q0.toInt32)), .val (.int (q1.toInt32)), .val (.int (q2.toInt32)), .unset, .unset, .unset, .unset]) (S' := [(.int (q2.toInt32)), (.int (q1.toInt32)), (.int (q0.toInt32)), (.int (1 : Int32))]) (fun t_ k_ => XS.iload X0.here hx rfl (hb hby at_32) rfl  k_) ?_
  obtain ⟨_, _, ⟨T1, L1, k1, n1⟩, -, X1, hS1, hg1, ⟨Lc1, hQ1, l1, y1, z1, CR1⟩, st1⟩ := callSS X0 hx (y := (⟨"com/example/traversal/traversal/graph/IrisControlsSpaceAndPinLaw", "make", "(ICCC)Ljava/lang/String;"⟩ : MethodName)) hown (mvT hZ (hw _ (List.mem_of_getElem? (i := 0) rfl))) (mvT hZ (hw _ (List.mem_of_getElem? (i := 1) rfl))) (mvT hZ (hw _ (List.mem_of_getElem? (i := 2) rfl))) (mvT hZ (hw _ (List.mem_of_getElem? (i := 3) rfl))) (by decide) (backOfSH (W := 0) (rmmk1 l Z a0 hw [] q0 q1 q2 gC h0 n0 Z0 SC PC O0 hq0 hq1 hq2) hZ (hw _ (List.mem_of_getElem? (i := 3) rfl)) (hw _ (List.mem_of_getElem? (i := 2) rfl)) (by decide) (by decide) (own_EW hw) CR.1) (g := (mkF m 34 #[.val (.int p1), .val (.int p2), .val (.int p3), .val (.int p4), .val (.int p5), .val (.int (1 : Int32)), .val (.int (q0.toInt32)), .val (.int (q1.toInt32)), .val (.int (q2.toInt32)), .unset, .unset, .unset, .unset] [(.int (q2.toInt32)), (.int (q1.toInt32)), (.int (q0.toInt32)), (.int (1 : Int32))])) rfl (by rw [hml]; rfl) (argsL := [(.int (1 : Int32)), (.int (q0.toInt32)), (.int (q1.toInt32)), (.int (q2.toInt32))]) (rest := []) (lenOf pd_6 rfl) rfl (by show 2 * 0 + _ ≤ _; exact Nat.le_of_eq rfl) (hb hby at_34) (fun _ _ => ⟨rfl, e0, (by decide : 0 + 3 ≤ _), (by decide : 0 + 6 ≤ _)⟩)
  dsimp only [Pt.U, Pt.locs, Pt.cells, Pt.slots] at X1 l1 y1 z1 st1 hQ1 hS1 hg1 CR1
  subst l1 y1 z1
  replace hS := foldS hS (T := T0) (by rw [e0]; exact hk) hS1 hg1
  replace hk := Nat.le_refl T1.heap.size
  replace hZ : Z.Warmed39 (s.setVm T1.vm).vm := State.Warmed39.trans (t := s.setVm s.vm) hZ hS1.1
  replace hown : (s.setVm T1.vm).vm.findClass "com/example/traversal/traversal/graph/IrisControlsSpaceAndPinLaw" = some m.cls := by rw [show (s.setVm T1.vm).vm = T1.vm from rfl, hS1.1.alike.findClass]; exact hown
  obtain ⟨xs, ts, kt1, rfl, N1q, K1, g_xs, E_xs, Fc_xs, Fv_xs, V_ts⟩ := hQ1
  have N1 := Fr.app N0 N1q
  obtain ⟨h1, e1⟩ : ∃ z, T1.heap = z := ⟨_, rfl⟩
  rw [e1] at K1 E_xs Fc_xs Fv_xs V_ts CR1
  replace CR := CR.trans CR1
  replace Z0 := Nat.le_trans Z0 K1.1
  replace O0 := O0.keep K1 all0
  replace hk : T1.heap.size ≤ h1.size := Nat.le_of_eq (congrArg Array.size e1)
  refine GoH.tr (T' := T1) (pc' := 37) (L' := #[.val (.int p1), .val (.int p2), .val (.int p3), .val (.int p4), .val (.int p5), .val (.int (1 : Int32)), .val (.int (q0.toInt32)), .val (.int (q1.toInt32)), .val (.int (q2.toInt32)), .unset, .unset, .unset, .unset]) (S' := [(.ref xs)]) st1 ?_
  refine GoH.st (T' := T1) (pc' := 39) (L' := #[.val (.int p1), .val (.int p2), .val (.int p3), .val (.int p4), .val (.int p5), .val (.int (1 : Int32)), .val (.int (q0.toInt32)), .val (.int (q1.toInt32)), .val (.int (q2.toInt32)), .val (.ref xs), .unset, .unset, .unset]) (S' := []) (fun t_ k_ => XS.astore X1.here hx rfl (hb hby at_37) rfl rfl (l' := #[.val (.int p1), .val (.int p2), .val (.int p3), .val (.int p4), .val (.int p5), .val (.int (1 : Int32)), .val (.int (q0.toInt32)), .val (.int (q1.toInt32)), .val (.int (q2.toInt32)), .val (.ref xs), .unset, .unset, .unset]) rfl k_) ?_
  refine GoH.st (T' := T1) (pc' := 41) (L' := #[.val (.int p1), .val (.int p2), .val (.int p3), .val (.int p4), .val (.int p5), .val (.int (1 : Int32)), .val (.int (q0.toInt32)), .val (.int (q1.toInt32)), .val (.int (q2.toInt32)), .val (.ref xs), .unset, .unset, .unset]) (S' := [(.int p5)]) (fun t_ k_ => XS.iload X1.here hx rfl (hb hby at_39) rfl  k_) ?_
  refine GoH.st (T' := T1) (pc' := 43) (L' := #[.val (.int p1), .val (.int p2), .val (.int p3), .val (.int p4), .val (.int p5), .val (.int (1 : Int32)), .val (.int (q0.toInt32)), .val (.int (q1.toInt32)), .val (.int (q2.toInt32)), .val (.ref xs), .unset, .unset, .unset]) (S' := [(.int (127 : Int32)), (.int p5)]) (fun t_ k_ => XS.bipush X1.here hx rfl (hb hby at_41) k_) ?_
  refine GoH.st (T' := T1) (pc' := 44) (L' := #[.val (.int p1), .val (.int p2), .val (.int p3), .val (.int p4), .val (.int p5), .val (.int (1 : Int32)), .val (.int (q0.toInt32)), .val (.int (q1.toInt32)), .val (.int (q2.toInt32)), .val (.ref xs), .unset, .unset, .unset]) (S' := [(.int (p5 &&& (127 : Int32)))]) (fun t_ k_ => XS.iand X1.here hx rfl (hb hby at_43) rfl k_) ?_
  rw [eiq]
  refine GoH.st (T' := T1) (pc' := 46) (L' := #[.val (.int p1), .val (.int p2), .val (.int p3), .val (.int p4), .val (.int p5), .val (.int (1 : Int32)), .val (.int (q0.toInt32)), .val (.int (q1.toInt32)), .val (.int (q2.toInt32)), .val (.ref xs), .val (.int (qi.toInt32)), .unset, .unset]) (S' := []) (fun t_ k_ => XS.istore X1.here hx rfl (hb hby at_44) rfl (l' := #[.val (.int p1), .val (.int p2), .val (.int p3), .val (.int p4), .val (.int p5), .val (.int (1 : Int32)), .val (.int (q0.toInt32)), .val (.int (q1.toInt32)), .val (.int (q2.toInt32)), .val (.ref xs), .val (.int (qi.toInt32)), .unset, .unset]) rfl k_) ?_
  refine GoH.st (T' := T1) (pc' := 48) (L' := #[.val (.int p1), .val (.int p2), .val (.int p3), .val (.int p4), .val (.int p5), .val (.int (1 : Int32)), .val (.int (q0.toInt32)), .val (.int (q1.toInt32)), .val (.int (q2.toInt32)), .val (.ref xs), .val (.int (qi.toInt32)), .unset, .unset]) (S' := [(.ref xs)]) (fun t_ k_ => XS.aload X1.here hx rfl (hb hby at_46) rfl rfl  k_) ?_
  obtain ⟨_, _, ⟨T3, L3, k3, n3⟩, -, X3, ⟨Lc3, hQ3, l3, y3, z3⟩, st3⟩ := Jvm.LawKit.callS X1 hx (y := (⟨"com/example/traversal/traversal/graph/Iris", "controlsSpaceAnd", "(Ljava/lang/String;)[Z"⟩ : MethodName)) hown (mvT hZ (hw _ (List.mem_of_getElem? (i := 34) rfl))) (mvT hZ (hw _ (List.mem_of_getElem? (i := 35) rfl))) (mvT hZ (hw _ (List.mem_of_getElem? (i := 36) rfl))) (mvT hZ (hw _ (List.mem_of_getElem? (i := 37) rfl))) (by decide) (backOf (W := 0) (rmcsa1 l Z a0 hw [] xs ts _ gC q0 h1 n0 Z0 SC PC O0 E_xs Fc_xs Fv_xs V_ts hq0) hZ (hw _ (List.mem_of_getElem? (i := 37) rfl)) (hw _ (List.mem_of_getElem? (i := 36) rfl)) (by decide) (by decide)) (g := (mkF m 48 #[.val (.int p1), .val (.int p2), .val (.int p3), .val (.int p4), .val (.int p5), .val (.int (1 : Int32)), .val (.int (q0.toInt32)), .val (.int (q1.toInt32)), .val (.int (q2.toInt32)), .val (.ref xs), .val (.int (qi.toInt32)), .unset, .unset] [(.ref xs)])) rfl (by rw [hml]; rfl) (argsL := [(.ref xs)]) (rest := []) (lenOf pd_7 rfl) rfl (by show 2 * 0 + _ ≤ _; exact Nat.le_of_eq rfl) (hb hby at_48) (fun _ _ => ⟨rfl, e1, (by decide : 3 + 2 ≤ _), (by decide : 6 + 129 ≤ _)⟩)
  dsimp only [Pt.U, Pt.locs, Pt.cells, Pt.slots] at X3 l3 y3 z3 st3 hQ3
  subst l3 y3 z3
  obtain ⟨bb, kb3, MM, rfl, N3q, K3, Vb3, hMM⟩ := hQ3
  have N3 := Fr.app N1 N3q
  obtain ⟨h3, e3⟩ : ∃ z, T3.heap = z := ⟨_, rfl⟩
  rw [e3] at K3 Vb3
  have Sk4 : ∀ x ∈ [], Safe Z EL T1.vm h1 x := all0
  replace CR := CR.trans (CHr.keep K3 Sk4 CR.1)
  replace hk := Nat.le_trans hk K3.1
  replace Z0 := Nat.le_trans Z0 K3.1
  replace O0 := O0.keep K3 all0
  replace E_xs := E_xs.keep K3
  replace Fc_xs := Fc_xs.keep K3 nin0
  replace Fv_xs := Fv_xs.keep K3 nin0
  replace V_ts := V_ts.keep K3 nin0
  refine GoH.st (T' := T3) (pc' := 51) (L' := #[.val (.int p1), .val (.int p2), .val (.int p3), .val (.int p4), .val (.int p5), .val (.int (1 : Int32)), .val (.int (q0.toInt32)), .val (.int (q1.toInt32)), .val (.int (q2.toInt32)), .val (.ref xs), .val (.int (qi.toInt32)), .unset, .unset]) (S' := [(.ref bb)]) st3 ?_
  refine GoH.st (T' := T3) (pc' := 53) (L' := #[.val (.int p1), .val (.int p2), .val (.int p3), .val (.int p4), .val (.int p5), .val (.int (1 : Int32)), .val (.int (q0.toInt32)), .val (.int (q1.toInt32)), .val (.int (q2.toInt32)), .val (.ref xs), .val (.int (qi.toInt32)), .val (.ref bb), .unset]) (S' := []) (fun t_ k_ => XS.astore X3.here hx rfl (hb hby at_51) rfl rfl (l' := #[.val (.int p1), .val (.int p2), .val (.int p3), .val (.int p4), .val (.int p5), .val (.int (1 : Int32)), .val (.int (q0.toInt32)), .val (.int (q1.toInt32)), .val (.int (q2.toInt32)), .val (.ref xs), .val (.int (qi.toInt32)), .val (.ref bb), .unset]) rfl k_) ?_
  refine GoH.st (T' := T3) (pc' := 55) (L' := #[.val (.int p1), .val (.int p2), .val (.int p3), .val (.int p4), .val (.int p5), .val (.int (1 : Int32)), .val (.int (q0.toInt32)), .val (.int (q1.toInt32)), .val (.int (q2.toInt32)), .val (.ref xs), .val (.int (qi.toInt32)), .val (.ref bb), .unset]) (S' := [(.ref bb)]) (fun t_ k_ => XS.aload X3.here hx rfl (hb hby at_53) rfl rfl  k_) ?_
  refine GoH.st (T' := T3) (pc' := 58) (L' := #[.val (.int p1), .val (.int p2), .val (.int p3), .val (.int p4), .val (.int p5), .val (.int (1 : Int32)), .val (.int (q0.toInt32)), .val (.int (q1.toInt32)), .val (.int (q2.toInt32)), .val (.ref xs), .val (.int (qi.toInt32)), .val (.ref bb), .unset]) (S' := []) (fun t_ k_ => XS.ifnullNo X3.here hx rfl (hb hby at_55) rfl k_) ?_
  refine GoH.st (T' := T3) (pc' := 60) (L' := #[.val (.int p1), .val (.int p2), .val (.int p3), .val (.int p4), .val (.int p5), .val (.int (1 : Int32)), .val (.int (q0.toInt32)), .val (.int (q1.toInt32)), .val (.int (q2.toInt32)), .val (.ref xs), .val (.int (qi.toInt32)), .val (.ref bb), .unset]) (S' := [(.ref bb)]) (fun t_ k_ => XS.aload X3.here hx rfl (hb hby at_58) rfl rfl  k_) ?_
  obtain ⟨cl5, Ar5, -, q5a, q5b, -, -⟩ := id Vb3
  refine GoH.st (T' := T3) (pc' := 61) (L' := #[.val (.int p1), .val (.int p2), .val (.int p3), .val (.int p4), .val (.int p5), .val (.int (1 : Int32)), .val (.int (q0.toInt32)), .val (.int (q1.toInt32)), .val (.int (q2.toInt32)), .val (.ref xs), .val (.int (qi.toInt32)), .val (.ref bb), .unset]) (S' := [(.int (128 : Int32))]) (fun t_ k_ => own_len X3 hx hZ e3 Ar5 q5a q5b (g := (mkF m 60 #[.val (.int p1), .val (.int p2), .val (.int p3), .val (.int p4), .val (.int p5), .val (.int (1 : Int32)), .val (.int (q0.toInt32)), .val (.int (q1.toInt32)), .val (.int (q2.toInt32)), .val (.ref xs), .val (.int (qi.toInt32)), .val (.ref bb), .unset] [(.ref bb)])) rfl rfl (hb hby at_60) t_ k_) ?_
  refine GoH.st (T' := T3) (pc' := 64) (L' := #[.val (.int p1), .val (.int p2), .val (.int p3), .val (.int p4), .val (.int p5), .val (.int (1 : Int32)), .val (.int (q0.toInt32)), .val (.int (q1.toInt32)), .val (.int (q2.toInt32)), .val (.ref xs), .val (.int (qi.toInt32)), .val (.ref bb), .unset]) (S' := [(.int (128 : Int32)), (.int (128 : Int32))]) (fun t_ k_ => XS.sipush X3.here hx rfl (hb hby at_61) k_) ?_
  refine GoH.st (T' := T3) (pc' := 69) (L' := #[.val (.int p1), .val (.int p2), .val (.int p3), .val (.int p4), .val (.int p5), .val (.int (1 : Int32)), .val (.int (q0.toInt32)), .val (.int (q1.toInt32)), .val (.int (q2.toInt32)), .val (.ref xs), .val (.int (qi.toInt32)), .val (.ref bb), .unset]) (S' := []) (fun t_ k_ => XS.icmpYes X3.here hx rfl (pc0 := 64) (pc' := 69) rfl (hb hby at_64) rfl (teq (by decide : ((128 : Int32) = (128 : Int32)))).1 (by decide) (by decide) k_) ?_
  refine GoH.st (T' := T3) (pc' := 71) (L' := #[.val (.int p1), .val (.int p2), .val (.int p3), .val (.int p4), .val (.int p5), .val (.int (1 : Int32)), .val (.int (q0.toInt32)), .val (.int (q1.toInt32)), .val (.int (q2.toInt32)), .val (.ref xs), .val (.int (qi.toInt32)), .val (.ref bb), .unset]) (S' := [(.int (qi.toInt32))]) (fun t_ k_ => XS.iload X3.here hx rfl (hb hby at_69) rfl  k_) ?_
  refine GoH.st (T' := T3) (pc' := 73) (L' := #[.val (.int p1), .val (.int p2), .val (.int p3), .val (.int p4), .val (.int p5), .val (.int (1 : Int32)), .val (.int (q0.toInt32)), .val (.int (q1.toInt32)), .val (.int (q2.toInt32)), .val (.ref xs), .val (.int (qi.toInt32)), .val (.ref bb), .unset]) (S' := [(.int (32 : Int32)), (.int (qi.toInt32))]) (fun t_ k_ => XS.bipush X3.here hx rfl (hb hby at_71) k_) ?_
  by_cases hc73_6 : (32 : Int32) < (qi.toInt32)
  · refine GoH.st (T' := T3) (pc' := 76) (L' := #[.val (.int p1), .val (.int p2), .val (.int p3), .val (.int p4), .val (.int p5), .val (.int (1 : Int32)), .val (.int (q0.toInt32)), .val (.int (q1.toInt32)), .val (.int (q2.toInt32)), .val (.ref xs), .val (.int (qi.toInt32)), .val (.ref bb), .unset]) (S' := []) (fun t_ k_ => XS.icmpNo X3.here hx rfl (hb hby at_73) rfl (tlt hc73_6).2.2.2 k_) ?_
    refine GoH.st (T' := T3) (pc' := 78) (L' := #[.val (.int p1), .val (.int p2), .val (.int p3), .val (.int p4), .val (.int p5), .val (.int (1 : Int32)), .val (.int (q0.toInt32)), .val (.int (q1.toInt32)), .val (.int (q2.toInt32)), .val (.ref xs), .val (.int (qi.toInt32)), .val (.ref bb), .unset]) (S' := [(.int (1 : Int32))]) (fun t_ k_ => XS.iload X3.here hx rfl (hb hby at_76) rfl  k_) ?_
    refine GoH.st (T' := T3) (pc' := 79) (L' := #[.val (.int p1), .val (.int p2), .val (.int p3), .val (.int p4), .val (.int p5), .val (.int (1 : Int32)), .val (.int (q0.toInt32)), .val (.int (q1.toInt32)), .val (.int (q2.toInt32)), .val (.ref xs), .val (.int (qi.toInt32)), .val (.ref bb), .unset]) (S' := [(.int (1 : Int32)), (.int (1 : Int32))]) (fun t_ k_ => XS.iconst X3.here hx rfl (hb hby at_78) k_) ?_
    refine GoH.st (T' := T3) (pc' := 82) (L' := #[.val (.int p1), .val (.int p2), .val (.int p3), .val (.int p4), .val (.int p5), .val (.int (1 : Int32)), .val (.int (q0.toInt32)), .val (.int (q1.toInt32)), .val (.int (q2.toInt32)), .val (.ref xs), .val (.int (qi.toInt32)), .val (.ref bb), .unset]) (S' := []) (fun t_ k_ => XS.icmpNo X3.here hx rfl (hb hby at_79) rfl (flt (by decide : ¬ ((1 : Int32) < (1 : Int32)))).1 k_) ?_
    refine GoH.st (T' := T3) (pc' := 84) (L' := #[.val (.int p1), .val (.int p2), .val (.int p3), .val (.int p4), .val (.int p5), .val (.int (1 : Int32)), .val (.int (q0.toInt32)), .val (.int (q1.toInt32)), .val (.int (q2.toInt32)), .val (.ref xs), .val (.int (qi.toInt32)), .val (.ref bb), .unset]) (S' := [(.int (qi.toInt32))]) (fun t_ k_ => XS.iload X3.here hx rfl (hb hby at_82) rfl  k_) ?_
    refine GoH.st (T' := T3) (pc' := 86) (L' := #[.val (.int p1), .val (.int p2), .val (.int p3), .val (.int p4), .val (.int p5), .val (.int (1 : Int32)), .val (.int (q0.toInt32)), .val (.int (q1.toInt32)), .val (.int (q2.toInt32)), .val (.ref xs), .val (.int (qi.toInt32)), .val (.ref bb), .unset]) (S' := [(.int (q0.toInt32)), (.int (qi.toInt32))]) (fun t_ k_ => XS.iload X3.here hx rfl (hb hby at_84) rfl  k_) ?_
    by_cases hc86_7 : (qi.toInt32) = (q0.toInt32)
    · refine GoH.st (T' := T3) (pc' := 115) (L' := #[.val (.int p1), .val (.int p2), .val (.int p3), .val (.int p4), .val (.int p5), .val (.int (1 : Int32)), .val (.int (q0.toInt32)), .val (.int (q1.toInt32)), .val (.int (q2.toInt32)), .val (.ref xs), .val (.int (qi.toInt32)), .val (.ref bb), .unset]) (S' := []) (fun t_ k_ => XS.icmpYes X3.here hx rfl (pc0 := 86) (pc' := 115) rfl (hb hby at_86) rfl (teq hc86_7).1 (by decide) (by decide) k_) ?_
      refine GoH.st (T' := T3) (pc' := 116) (L' := #[.val (.int p1), .val (.int p2), .val (.int p3), .val (.int p4), .val (.int p5), .val (.int (1 : Int32)), .val (.int (q0.toInt32)), .val (.int (q1.toInt32)), .val (.int (q2.toInt32)), .val (.ref xs), .val (.int (qi.toInt32)), .val (.ref bb), .unset]) (S' := [(.int (1 : Int32))]) (fun t_ k_ => XS.iconst X3.here hx rfl (hb hby at_115) k_) ?_
      refine GoH.st (T' := T3) (pc' := 120) (L' := #[.val (.int p1), .val (.int p2), .val (.int p3), .val (.int p4), .val (.int p5), .val (.int (1 : Int32)), .val (.int (q0.toInt32)), .val (.int (q1.toInt32)), .val (.int (q2.toInt32)), .val (.ref xs), .val (.int (qi.toInt32)), .val (.ref bb), .unset]) (S' := [(.int (1 : Int32))]) (fun t_ k_ => XS.goto X3.here hx rfl (pc0 := 116) (pc' := 120) rfl (hb hby at_116) (by decide) (by decide) k_) ?_
      refine GoH.st (T' := T3) (pc' := 122) (L' := #[.val (.int p1), .val (.int p2), .val (.int p3), .val (.int p4), .val (.int p5), .val (.int (1 : Int32)), .val (.int (q0.toInt32)), .val (.int (q1.toInt32)), .val (.int (q2.toInt32)), .val (.ref xs), .val (.int (qi.toInt32)), .val (.ref bb), .val (.int (1 : Int32))]) (S' := []) (fun t_ k_ => XS.istore X3.here hx rfl (hb hby at_120) rfl (l' := #[.val (.int p1), .val (.int p2), .val (.int p3), .val (.int p4), .val (.int p5), .val (.int (1 : Int32)), .val (.int (q0.toInt32)), .val (.int (q1.toInt32)), .val (.int (q2.toInt32)), .val (.ref xs), .val (.int (qi.toInt32)), .val (.ref bb), .val (.int (1 : Int32))]) rfl k_) ?_
      refine GoH.st (T' := T3) (pc' := 124) (L' := #[.val (.int p1), .val (.int p2), .val (.int p3), .val (.int p4), .val (.int p5), .val (.int (1 : Int32)), .val (.int (q0.toInt32)), .val (.int (q1.toInt32)), .val (.int (q2.toInt32)), .val (.ref xs), .val (.int (qi.toInt32)), .val (.ref bb), .val (.int (1 : Int32))]) (S' := [(.ref bb)]) (fun t_ k_ => XS.aload X3.here hx rfl (hb hby at_122) rfl rfl  k_) ?_
      refine GoH.st (T' := T3) (pc' := 126) (L' := #[.val (.int p1), .val (.int p2), .val (.int p3), .val (.int p4), .val (.int p5), .val (.int (1 : Int32)), .val (.int (q0.toInt32)), .val (.int (q1.toInt32)), .val (.int (q2.toInt32)), .val (.ref xs), .val (.int (qi.toInt32)), .val (.ref bb), .val (.int (1 : Int32))]) (S' := [(.int (qi.toInt32)), (.ref bb)]) (fun t_ k_ => XS.iload X3.here hx rfl (hb hby at_124) rfl  k_) ?_
      obtain ⟨cl8, Ar8, -, q8a, q8b, q8c, q8d⟩ := id Vb3
      refine GoH.st (T' := T3) (pc' := 127) (L' := #[.val (.int p1), .val (.int p2), .val (.int p3), .val (.int p4), .val (.int p5), .val (.int (1 : Int32)), .val (.int (q0.toInt32)), .val (.int (q1.toInt32)), .val (.int (q2.toInt32)), .val (.ref xs), .val (.int (qi.toInt32)), .val (.ref bb), .val (.int (1 : Int32))]) (S' := [(.int (MM.getD (qi) 0))]) (fun t_ k_ => X3.baloadBooleans hx (j := (qi.toInt32)) (v := (.int (MM.getD (qi) 0))) (by rw [e3]; exact Ar8.1) (State.isArrayOf_alike hZ.alike Ar8.2.1) Ar8.2.2 (own_inb q8a (N := 128) (by decide) (by omega) (by decide)) (q8c.at (own_inb q8a (N := 128) (by decide) (by omega) (by decide)) (own_atI _ (by omega))) (g := (mkF m 126 #[.val (.int p1), .val (.int p2), .val (.int p3), .val (.int p4), .val (.int p5), .val (.int (1 : Int32)), .val (.int (q0.toInt32)), .val (.int (q1.toInt32)), .val (.int (q2.toInt32)), .val (.ref xs), .val (.int (qi.toInt32)), .val (.ref bb), .val (.int (1 : Int32))] [(.int (qi.toInt32)), (.ref bb)])) rfl rfl (hb hby at_126) t_ k_) ?_
      refine GoH.st (T' := T3) (pc' := 129) (L' := #[.val (.int p1), .val (.int p2), .val (.int p3), .val (.int p4), .val (.int p5), .val (.int (1 : Int32)), .val (.int (q0.toInt32)), .val (.int (q1.toInt32)), .val (.int (q2.toInt32)), .val (.ref xs), .val (.int (qi.toInt32)), .val (.ref bb), .val (.int (1 : Int32))]) (S' := [(.int (1 : Int32)), (.int (MM.getD (qi) 0))]) (fun t_ k_ => XS.iload X3.here hx rfl (hb hby at_127) rfl  k_) ?_
      have hval : MM.getD qi 0 = (1 : Int32) := by
        rw [hMM qi (by omega)]
        have hA : ¬ qi < 33 := by have := (own_ltI (m := 32) (n := qi) (by decide) (by omega)).mp hc73_6; omega
        have hq0e : qi = q0 := (own_inj (by omega) (by omega)).mp hc86_7
        exact if_pos (by omega)
      refine GoH.st (T' := T3) (pc' := 132) (L' := #[.val (.int p1), .val (.int p2), .val (.int p3), .val (.int p4), .val (.int p5), .val (.int (1 : Int32)), .val (.int (q0.toInt32)), .val (.int (q1.toInt32)), .val (.int (q2.toInt32)), .val (.ref xs), .val (.int (qi.toInt32)), .val (.ref bb), .val (.int (1 : Int32))]) (S' := []) (fun t_ k_ => XS.icmpNo X3.here hx rfl (hb hby at_129) rfl (teq (hval : ((MM.getD (qi) 0) = (1 : Int32)))).2 k_) ?_
      refine GoH.st (T' := T3) (pc' := 133) (L' := #[.val (.int p1), .val (.int p2), .val (.int p3), .val (.int p4), .val (.int p5), .val (.int (1 : Int32)), .val (.int (q0.toInt32)), .val (.int (q1.toInt32)), .val (.int (q2.toInt32)), .val (.ref xs), .val (.int (qi.toInt32)), .val (.ref bb), .val (.int (1 : Int32))]) (S' := [(.int (1 : Int32))]) (fun t_ k_ => XS.iconst X3.here hx rfl (hb hby at_132) k_) ?_
      refine GoH.st (T' := T3) (pc' := 137) (L' := #[.val (.int p1), .val (.int p2), .val (.int p3), .val (.int p4), .val (.int p5), .val (.int (1 : Int32)), .val (.int (q0.toInt32)), .val (.int (q1.toInt32)), .val (.int (q2.toInt32)), .val (.ref xs), .val (.int (qi.toInt32)), .val (.ref bb), .val (.int (1 : Int32))]) (S' := [(.int (1 : Int32))]) (fun t_ k_ => XS.goto X3.here hx rfl (pc0 := 133) (pc' := 137) rfl (hb hby at_133) (by decide) (by decide) k_) ?_
      exact GoH.retN X3 hx hlk hret (by simp) (hb hby at_137) (by decide) (by decide) hS hk e3 hs0 hZ (own_EW hw) CR (by rw [e3]; exact ⟨rfl, N3⟩)
    · refine GoH.st (T' := T3) (pc' := 89) (L' := #[.val (.int p1), .val (.int p2), .val (.int p3), .val (.int p4), .val (.int p5), .val (.int (1 : Int32)), .val (.int (q0.toInt32)), .val (.int (q1.toInt32)), .val (.int (q2.toInt32)), .val (.ref xs), .val (.int (qi.toInt32)), .val (.ref bb), .unset]) (S' := []) (fun t_ k_ => XS.icmpNo X3.here hx rfl (hb hby at_86) rfl (feq hc86_7).1 k_) ?_
      refine GoH.st (T' := T3) (pc' := 91) (L' := #[.val (.int p1), .val (.int p2), .val (.int p3), .val (.int p4), .val (.int p5), .val (.int (1 : Int32)), .val (.int (q0.toInt32)), .val (.int (q1.toInt32)), .val (.int (q2.toInt32)), .val (.ref xs), .val (.int (qi.toInt32)), .val (.ref bb), .unset]) (S' := [(.int (1 : Int32))]) (fun t_ k_ => XS.iload X3.here hx rfl (hb hby at_89) rfl  k_) ?_
      refine GoH.st (T' := T3) (pc' := 92) (L' := #[.val (.int p1), .val (.int p2), .val (.int p3), .val (.int p4), .val (.int p5), .val (.int (1 : Int32)), .val (.int (q0.toInt32)), .val (.int (q1.toInt32)), .val (.int (q2.toInt32)), .val (.ref xs), .val (.int (qi.toInt32)), .val (.ref bb), .unset]) (S' := [(.int (2 : Int32)), (.int (1 : Int32))]) (fun t_ k_ => XS.iconst X3.here hx rfl (hb hby at_91) k_) ?_
      refine GoH.st (T' := T3) (pc' := 102) (L' := #[.val (.int p1), .val (.int p2), .val (.int p3), .val (.int p4), .val (.int p5), .val (.int (1 : Int32)), .val (.int (q0.toInt32)), .val (.int (q1.toInt32)), .val (.int (q2.toInt32)), .val (.ref xs), .val (.int (qi.toInt32)), .val (.ref bb), .unset]) (S' := []) (fun t_ k_ => XS.icmpYes X3.here hx rfl (pc0 := 92) (pc' := 102) rfl (hb hby at_92) rfl (tlt (by decide : ((1 : Int32) < (2 : Int32)))).1 (by decide) (by decide) k_) ?_
      refine GoH.st (T' := T3) (pc' := 104) (L' := #[.val (.int p1), .val (.int p2), .val (.int p3), .val (.int p4), .val (.int p5), .val (.int (1 : Int32)), .val (.int (q0.toInt32)), .val (.int (q1.toInt32)), .val (.int (q2.toInt32)), .val (.ref xs), .val (.int (qi.toInt32)), .val (.ref bb), .unset]) (S' := [(.int (1 : Int32))]) (fun t_ k_ => XS.iload X3.here hx rfl (hb hby at_102) rfl  k_) ?_
      refine GoH.st (T' := T3) (pc' := 105) (L' := #[.val (.int p1), .val (.int p2), .val (.int p3), .val (.int p4), .val (.int p5), .val (.int (1 : Int32)), .val (.int (q0.toInt32)), .val (.int (q1.toInt32)), .val (.int (q2.toInt32)), .val (.ref xs), .val (.int (qi.toInt32)), .val (.ref bb), .unset]) (S' := [(.int (3 : Int32)), (.int (1 : Int32))]) (fun t_ k_ => XS.iconst X3.here hx rfl (hb hby at_104) k_) ?_
      refine GoH.st (T' := T3) (pc' := 119) (L' := #[.val (.int p1), .val (.int p2), .val (.int p3), .val (.int p4), .val (.int p5), .val (.int (1 : Int32)), .val (.int (q0.toInt32)), .val (.int (q1.toInt32)), .val (.int (q2.toInt32)), .val (.ref xs), .val (.int (qi.toInt32)), .val (.ref bb), .unset]) (S' := []) (fun t_ k_ => XS.icmpYes X3.here hx rfl (pc0 := 105) (pc' := 119) rfl (hb hby at_105) rfl (tlt (by decide : ((1 : Int32) < (3 : Int32)))).1 (by decide) (by decide) k_) ?_
      refine GoH.st (T' := T3) (pc' := 120) (L' := #[.val (.int p1), .val (.int p2), .val (.int p3), .val (.int p4), .val (.int p5), .val (.int (1 : Int32)), .val (.int (q0.toInt32)), .val (.int (q1.toInt32)), .val (.int (q2.toInt32)), .val (.ref xs), .val (.int (qi.toInt32)), .val (.ref bb), .unset]) (S' := [(.int (0 : Int32))]) (fun t_ k_ => XS.iconst X3.here hx rfl (hb hby at_119) k_) ?_
      refine GoH.st (T' := T3) (pc' := 122) (L' := #[.val (.int p1), .val (.int p2), .val (.int p3), .val (.int p4), .val (.int p5), .val (.int (1 : Int32)), .val (.int (q0.toInt32)), .val (.int (q1.toInt32)), .val (.int (q2.toInt32)), .val (.ref xs), .val (.int (qi.toInt32)), .val (.ref bb), .val (.int (0 : Int32))]) (S' := []) (fun t_ k_ => XS.istore X3.here hx rfl (hb hby at_120) rfl (l' := #[.val (.int p1), .val (.int p2), .val (.int p3), .val (.int p4), .val (.int p5), .val (.int (1 : Int32)), .val (.int (q0.toInt32)), .val (.int (q1.toInt32)), .val (.int (q2.toInt32)), .val (.ref xs), .val (.int (qi.toInt32)), .val (.ref bb), .val (.int (0 : Int32))]) rfl k_) ?_
      refine GoH.st (T' := T3) (pc' := 124) (L' := #[.val (.int p1), .val (.int p2), .val (.int p3), .val (.int p4), .val (.int p5), .val (.int (1 : Int32)), .val (.int (q0.toInt32)), .val (.int (q1.toInt32)), .val (.int (q2.toInt32)), .val (.ref xs), .val (.int (qi.toInt32)), .val (.ref bb), .val (.int (0 : Int32))]) (S' := [(.ref bb)]) (fun t_ k_ => XS.aload X3.here hx rfl (hb hby at_122) rfl rfl  k_) ?_
      refine GoH.st (T' := T3) (pc' := 126) (L' := #[.val (.int p1), .val (.int p2), .val (.int p3), .val (.int p4), .val (.int p5), .val (.int (1 : Int32)), .val (.int (q0.toInt32)), .val (.int (q1.toInt32)), .val (.int (q2.toInt32)), .val (.ref xs), .val (.int (qi.toInt32)), .val (.ref bb), .val (.int (0 : Int32))]) (S' := [(.int (qi.toInt32)), (.ref bb)]) (fun t_ k_ => XS.iload X3.here hx rfl (hb hby at_124) rfl  k_) ?_
      obtain ⟨cl9, Ar9, -, q9a, q9b, q9c, q9d⟩ := id Vb3
      refine GoH.st (T' := T3) (pc' := 127) (L' := #[.val (.int p1), .val (.int p2), .val (.int p3), .val (.int p4), .val (.int p5), .val (.int (1 : Int32)), .val (.int (q0.toInt32)), .val (.int (q1.toInt32)), .val (.int (q2.toInt32)), .val (.ref xs), .val (.int (qi.toInt32)), .val (.ref bb), .val (.int (0 : Int32))]) (S' := [(.int (MM.getD (qi) 0))]) (fun t_ k_ => X3.baloadBooleans hx (j := (qi.toInt32)) (v := (.int (MM.getD (qi) 0))) (by rw [e3]; exact Ar9.1) (State.isArrayOf_alike hZ.alike Ar9.2.1) Ar9.2.2 (own_inb q9a (N := 128) (by decide) (by omega) (by decide)) (q9c.at (own_inb q9a (N := 128) (by decide) (by omega) (by decide)) (own_atI _ (by omega))) (g := (mkF m 126 #[.val (.int p1), .val (.int p2), .val (.int p3), .val (.int p4), .val (.int p5), .val (.int (1 : Int32)), .val (.int (q0.toInt32)), .val (.int (q1.toInt32)), .val (.int (q2.toInt32)), .val (.ref xs), .val (.int (qi.toInt32)), .val (.ref bb), .val (.int (0 : Int32))] [(.int (qi.toInt32)), (.ref bb)])) rfl rfl (hb hby at_126) t_ k_) ?_
      refine GoH.st (T' := T3) (pc' := 129) (L' := #[.val (.int p1), .val (.int p2), .val (.int p3), .val (.int p4), .val (.int p5), .val (.int (1 : Int32)), .val (.int (q0.toInt32)), .val (.int (q1.toInt32)), .val (.int (q2.toInt32)), .val (.ref xs), .val (.int (qi.toInt32)), .val (.ref bb), .val (.int (0 : Int32))]) (S' := [(.int (0 : Int32)), (.int (MM.getD (qi) 0))]) (fun t_ k_ => XS.iload X3.here hx rfl (hb hby at_127) rfl  k_) ?_
      have hval : MM.getD qi 0 = (0 : Int32) := by
        rw [hMM qi (by omega)]
        have hA : ¬ qi < 33 := by have := (own_ltI (m := 32) (n := qi) (by decide) (by omega)).mp hc73_6; omega
        have hq0e : ¬ qi = q0 := mt (own_inj (by omega) (by omega)).mpr hc86_7
        exact if_neg (by omega)
      refine GoH.st (T' := T3) (pc' := 132) (L' := #[.val (.int p1), .val (.int p2), .val (.int p3), .val (.int p4), .val (.int p5), .val (.int (1 : Int32)), .val (.int (q0.toInt32)), .val (.int (q1.toInt32)), .val (.int (q2.toInt32)), .val (.ref xs), .val (.int (qi.toInt32)), .val (.ref bb), .val (.int (0 : Int32))]) (S' := []) (fun t_ k_ => XS.icmpNo X3.here hx rfl (hb hby at_129) rfl (teq (hval : ((MM.getD (qi) 0) = (0 : Int32)))).2 k_) ?_
      refine GoH.st (T' := T3) (pc' := 133) (L' := #[.val (.int p1), .val (.int p2), .val (.int p3), .val (.int p4), .val (.int p5), .val (.int (1 : Int32)), .val (.int (q0.toInt32)), .val (.int (q1.toInt32)), .val (.int (q2.toInt32)), .val (.ref xs), .val (.int (qi.toInt32)), .val (.ref bb), .val (.int (0 : Int32))]) (S' := [(.int (1 : Int32))]) (fun t_ k_ => XS.iconst X3.here hx rfl (hb hby at_132) k_) ?_
      refine GoH.st (T' := T3) (pc' := 137) (L' := #[.val (.int p1), .val (.int p2), .val (.int p3), .val (.int p4), .val (.int p5), .val (.int (1 : Int32)), .val (.int (q0.toInt32)), .val (.int (q1.toInt32)), .val (.int (q2.toInt32)), .val (.ref xs), .val (.int (qi.toInt32)), .val (.ref bb), .val (.int (0 : Int32))]) (S' := [(.int (1 : Int32))]) (fun t_ k_ => XS.goto X3.here hx rfl (pc0 := 133) (pc' := 137) rfl (hb hby at_133) (by decide) (by decide) k_) ?_
      exact GoH.retN X3 hx hlk hret (by simp) (hb hby at_137) (by decide) (by decide) hS hk e3 hs0 hZ (own_EW hw) CR (by rw [e3]; exact ⟨rfl, N3⟩)
  · refine GoH.st (T' := T3) (pc' := 115) (L' := #[.val (.int p1), .val (.int p2), .val (.int p3), .val (.int p4), .val (.int p5), .val (.int (1 : Int32)), .val (.int (q0.toInt32)), .val (.int (q1.toInt32)), .val (.int (q2.toInt32)), .val (.ref xs), .val (.int (qi.toInt32)), .val (.ref bb), .unset]) (S' := []) (fun t_ k_ => XS.icmpYes X3.here hx rfl (pc0 := 73) (pc' := 115) rfl (hb hby at_73) rfl (flt hc73_6).2.2.2 (by decide) (by decide) k_) ?_
    refine GoH.st (T' := T3) (pc' := 116) (L' := #[.val (.int p1), .val (.int p2), .val (.int p3), .val (.int p4), .val (.int p5), .val (.int (1 : Int32)), .val (.int (q0.toInt32)), .val (.int (q1.toInt32)), .val (.int (q2.toInt32)), .val (.ref xs), .val (.int (qi.toInt32)), .val (.ref bb), .unset]) (S' := [(.int (1 : Int32))]) (fun t_ k_ => XS.iconst X3.here hx rfl (hb hby at_115) k_) ?_
    refine GoH.st (T' := T3) (pc' := 120) (L' := #[.val (.int p1), .val (.int p2), .val (.int p3), .val (.int p4), .val (.int p5), .val (.int (1 : Int32)), .val (.int (q0.toInt32)), .val (.int (q1.toInt32)), .val (.int (q2.toInt32)), .val (.ref xs), .val (.int (qi.toInt32)), .val (.ref bb), .unset]) (S' := [(.int (1 : Int32))]) (fun t_ k_ => XS.goto X3.here hx rfl (pc0 := 116) (pc' := 120) rfl (hb hby at_116) (by decide) (by decide) k_) ?_
    refine GoH.st (T' := T3) (pc' := 122) (L' := #[.val (.int p1), .val (.int p2), .val (.int p3), .val (.int p4), .val (.int p5), .val (.int (1 : Int32)), .val (.int (q0.toInt32)), .val (.int (q1.toInt32)), .val (.int (q2.toInt32)), .val (.ref xs), .val (.int (qi.toInt32)), .val (.ref bb), .val (.int (1 : Int32))]) (S' := []) (fun t_ k_ => XS.istore X3.here hx rfl (hb hby at_120) rfl (l' := #[.val (.int p1), .val (.int p2), .val (.int p3), .val (.int p4), .val (.int p5), .val (.int (1 : Int32)), .val (.int (q0.toInt32)), .val (.int (q1.toInt32)), .val (.int (q2.toInt32)), .val (.ref xs), .val (.int (qi.toInt32)), .val (.ref bb), .val (.int (1 : Int32))]) rfl k_) ?_
    refine GoH.st (T' := T3) (pc' := 124) (L' := #[.val (.int p1), .val (.int p2), .val (.int p3), .val (.int p4), .val (.int p5), .val (.int (1 : Int32)), .val (.int (q0.toInt32)), .val (.int (q1.toInt32)), .val (.int (q2.toInt32)), .val (.ref xs), .val (.int (qi.toInt32)), .val (.ref bb), .val (.int (1 : Int32))]) (S' := [(.ref bb)]) (fun t_ k_ => XS.aload X3.here hx rfl (hb hby at_122) rfl rfl  k_) ?_
    refine GoH.st (T' := T3) (pc' := 126) (L' := #[.val (.int p1), .val (.int p2), .val (.int p3), .val (.int p4), .val (.int p5), .val (.int (1 : Int32)), .val (.int (q0.toInt32)), .val (.int (q1.toInt32)), .val (.int (q2.toInt32)), .val (.ref xs), .val (.int (qi.toInt32)), .val (.ref bb), .val (.int (1 : Int32))]) (S' := [(.int (qi.toInt32)), (.ref bb)]) (fun t_ k_ => XS.iload X3.here hx rfl (hb hby at_124) rfl  k_) ?_
    obtain ⟨cl10, Ar10, -, q10a, q10b, q10c, q10d⟩ := id Vb3
    refine GoH.st (T' := T3) (pc' := 127) (L' := #[.val (.int p1), .val (.int p2), .val (.int p3), .val (.int p4), .val (.int p5), .val (.int (1 : Int32)), .val (.int (q0.toInt32)), .val (.int (q1.toInt32)), .val (.int (q2.toInt32)), .val (.ref xs), .val (.int (qi.toInt32)), .val (.ref bb), .val (.int (1 : Int32))]) (S' := [(.int (MM.getD (qi) 0))]) (fun t_ k_ => X3.baloadBooleans hx (j := (qi.toInt32)) (v := (.int (MM.getD (qi) 0))) (by rw [e3]; exact Ar10.1) (State.isArrayOf_alike hZ.alike Ar10.2.1) Ar10.2.2 (own_inb q10a (N := 128) (by decide) (by omega) (by decide)) (q10c.at (own_inb q10a (N := 128) (by decide) (by omega) (by decide)) (own_atI _ (by omega))) (g := (mkF m 126 #[.val (.int p1), .val (.int p2), .val (.int p3), .val (.int p4), .val (.int p5), .val (.int (1 : Int32)), .val (.int (q0.toInt32)), .val (.int (q1.toInt32)), .val (.int (q2.toInt32)), .val (.ref xs), .val (.int (qi.toInt32)), .val (.ref bb), .val (.int (1 : Int32))] [(.int (qi.toInt32)), (.ref bb)])) rfl rfl (hb hby at_126) t_ k_) ?_
    refine GoH.st (T' := T3) (pc' := 129) (L' := #[.val (.int p1), .val (.int p2), .val (.int p3), .val (.int p4), .val (.int p5), .val (.int (1 : Int32)), .val (.int (q0.toInt32)), .val (.int (q1.toInt32)), .val (.int (q2.toInt32)), .val (.ref xs), .val (.int (qi.toInt32)), .val (.ref bb), .val (.int (1 : Int32))]) (S' := [(.int (1 : Int32)), (.int (MM.getD (qi) 0))]) (fun t_ k_ => XS.iload X3.here hx rfl (hb hby at_127) rfl  k_) ?_
    have hval : MM.getD qi 0 = (1 : Int32) := by
      rw [hMM qi (by omega)]
      have hA : qi < 33 := by have := mt (own_ltI (m := 32) (n := qi) (by decide) (by omega)).mpr hc73_6; omega
      exact if_pos (by omega)
    refine GoH.st (T' := T3) (pc' := 132) (L' := #[.val (.int p1), .val (.int p2), .val (.int p3), .val (.int p4), .val (.int p5), .val (.int (1 : Int32)), .val (.int (q0.toInt32)), .val (.int (q1.toInt32)), .val (.int (q2.toInt32)), .val (.ref xs), .val (.int (qi.toInt32)), .val (.ref bb), .val (.int (1 : Int32))]) (S' := []) (fun t_ k_ => XS.icmpNo X3.here hx rfl (hb hby at_129) rfl (teq (hval : ((MM.getD (qi) 0) = (1 : Int32)))).2 k_) ?_
    refine GoH.st (T' := T3) (pc' := 133) (L' := #[.val (.int p1), .val (.int p2), .val (.int p3), .val (.int p4), .val (.int p5), .val (.int (1 : Int32)), .val (.int (q0.toInt32)), .val (.int (q1.toInt32)), .val (.int (q2.toInt32)), .val (.ref xs), .val (.int (qi.toInt32)), .val (.ref bb), .val (.int (1 : Int32))]) (S' := [(.int (1 : Int32))]) (fun t_ k_ => XS.iconst X3.here hx rfl (hb hby at_132) k_) ?_
    refine GoH.st (T' := T3) (pc' := 137) (L' := #[.val (.int p1), .val (.int p2), .val (.int p3), .val (.int p4), .val (.int p5), .val (.int (1 : Int32)), .val (.int (q0.toInt32)), .val (.int (q1.toInt32)), .val (.int (q2.toInt32)), .val (.ref xs), .val (.int (qi.toInt32)), .val (.ref bb), .val (.int (1 : Int32))]) (S' := [(.int (1 : Int32))]) (fun t_ k_ => XS.goto X3.here hx rfl (pc0 := 133) (pc' := 137) rfl (hb hby at_133) (by decide) (by decide) k_) ?_
    exact GoH.retN X3 hx hlk hret (by simp) (hb hby at_137) (by decide) (by decide) hS hk e3 hs0 hZ (own_EW hw) CR (by rw [e3]; exact ⟨rfl, N3⟩)
theorem d1_35 : decode method_2_code 35 = .ok (.iload_n 0, 1) := by decide +kernel
theorem d1_36 : decode method_2_code 36 = .ok (.iconst 2, 1) := by decide +kernel
theorem d1_37 : decode method_2_code 37 = .ok (.if_icmp .ne 22, 3) := by decide +kernel
theorem d1_40 : decode method_2_code 40 = .ok (.new 7, 3) := by decide +kernel
theorem d1_43 : decode method_2_code 43 = .ok (.dup, 1) := by decide +kernel
theorem d1_44 : decode method_2_code 44 = .ok (.iconst 2, 1) := by decide +kernel
theorem d1_45 : decode method_2_code 45 = .ok (.newarray .char, 2) := by decide +kernel
theorem d1_47 : decode method_2_code 47 = .ok (.dup, 1) := by decide +kernel
theorem d1_48 : decode method_2_code 48 = .ok (.iconst 0, 1) := by decide +kernel
theorem d1_49 : decode method_2_code 49 = .ok (.iload_n 1, 1) := by decide +kernel
theorem d1_50 : decode method_2_code 50 = .ok (.castore, 1) := by decide +kernel
theorem d1_51 : decode method_2_code 51 = .ok (.dup, 1) := by decide +kernel
theorem d1_52 : decode method_2_code 52 = .ok (.iconst 1, 1) := by decide +kernel
theorem d1_53 : decode method_2_code 53 = .ok (.iload_n 2, 1) := by decide +kernel
theorem d1_54 : decode method_2_code 54 = .ok (.castore, 1) := by decide +kernel
theorem d1_55 : decode method_2_code 55 = .ok (.invokespecial 9, 3) := by decide +kernel
theorem d1_58 : decode method_2_code 58 = .ok (.areturn, 1) := by decide +kernel
def Qmk2 (Z : State) (q0 : Nat) (q1 : Nat) (q2 : Nat) (h0 : Heap) (n0 : Nat) (v : Option Value) (h : Heap) (L : List Loc) : Prop := ∃ (x t : Addr) (kt : ClassId), v = some (.ref x) ∧ Fr n0 L ∧ Keep h0 h [] ∧ n0 ≤ x ∧ Exa Z h x "java/lang/String" ∧ Fld Z h x "java/lang/String" "coder" "B" (.int (0 : Int32)) ∧ Fld Z h x "java/lang/String" "value" "[B" (.ref t) ∧ Arv Z h t kt .byte (2 : Int32) [(.int ((nar .char (q0.toInt32)).toInt8.toInt32)), (.int ((nar .char (q1.toInt32)).toInt8.toInt32))] (.int (0 : Int32))
def roommk2 : Room := { frames := 4, cells := 3, slots := 8, locals := 66 }
set_option maxRecDepth 65536 in
set_option maxHeartbeats 40000000 in
theorem rmmk2 (l : Launch) (Z : State) (a0 : Array Value) (hw : ∀ d ∈ tables_1, d.before a0 Z = true) (ws : List Jvm.Cond) (q0 : Nat) (q1 : Nat) (q2 : Nat) (gC : Int32) (h0 : Heap) (n0 : Nat) (Z0 : n0 ≤ h0.size) (SC : Sta Z Z.heap "java/lang/String" "COMPACT_STRINGS" "Z" (.int gC)) (PC : ¬ (gC = (0 : Int32))) (O0 : Old Z n0 h0) (hq0 : q0 < 128) (hq1 : q1 < 128) (hq2 : q2 < 128) :
    MetFree l (⟨"com/example/traversal/traversal/graph/IrisControlsSpaceAndPinLaw", "make", "(ICCC)Ljava/lang/String;"⟩ : MethodName) (head1 (Jvm.Cond.code (⟨"com/example/traversal/traversal/graph/IrisControlsSpaceAndPinLaw", "make", "(ICCC)Ljava/lang/String;"⟩ : MethodName) method_2_code 4 (some (.object "java/lang/String")) :: ws) roommk2) (fun aa_ U_ => aa_ = #[(.int (2 : Int32)), (.int (q0.toInt32)), (.int (q1.toInt32)), (.int (q2.toInt32))] ∧ Z.Warmed39 U_.vm ∧ U_.heap = h0 ∧ CHv Z EL U_.vm h0) (fun _ _ _ _ _ => True) (fun _ U_ o_ W_ => ∃ v_ L_, o_ = .returned v_ ∧ (Qmk2 Z q0 q1 q2 h0 n0) v_ W_.heap L_ ∧ CHr Z EL U_.vm U_.heap W_.vm W_.heap ∧ ReturnedEndW U_ o_ W_ L_ roommk2.cells roommk2.slots) := by
  refine own_metH (Q := (Qmk2 Z q0 q1 q2 h0 n0)) (L0 := #[.val (.int (2 : Int32)), .val (.int (q0.toInt32)), .val (.int (q1.toInt32)), .val (.int (q2.toInt32))]) (plainFor_of_name pn_3) (fun m => by first | (simp [entryFrame, mkF, argsToLocals, Value.category]; done) | rfl) ?_
  intro p e s m below meth c T0 X0 hx hby hml hown hnm hret hlk hZ e0 hs0 CR hS hk
  have N0 := Fr.nil n0
  have K0 := Keep.refl h0 []
  refine GoH.st (T' := T0) (pc' := 1) (L' := #[.val (.int (2 : Int32)), .val (.int (q0.toInt32)), .val (.int (q1.toInt32)), .val (.int (q2.toInt32))]) (S' := [(.int (2 : Int32))]) (fun t_ k_ => XS.iloadN X0.here hx rfl (hb hby d1_0) rfl  k_) ?_
  refine GoH.st (T' := T0) (pc' := 15) (L' := #[.val (.int (2 : Int32)), .val (.int (q0.toInt32)), .val (.int (q1.toInt32)), .val (.int (q2.toInt32))]) (S' := []) (fun t_ k_ => XS.ifYes X0.here hx rfl (pc0 := 1) (pc' := 15) rfl (hb hby d1_1) rfl ((if0 _ _).trans (feq (by decide : ¬ ((2 : Int32) = (0 : Int32)))).2) (by decide) (by decide) k_) ?_
  refine GoH.st (T' := T0) (pc' := 16) (L' := #[.val (.int (2 : Int32)), .val (.int (q0.toInt32)), .val (.int (q1.toInt32)), .val (.int (q2.toInt32))]) (S' := [(.int (2 : Int32))]) (fun t_ k_ => XS.iloadN X0.here hx rfl (hb hby d1_15) rfl  k_) ?_
  refine GoH.st (T' := T0) (pc' := 17) (L' := #[.val (.int (2 : Int32)), .val (.int (q0.toInt32)), .val (.int (q1.toInt32)), .val (.int (q2.toInt32))]) (S' := [(.int (1 : Int32)), (.int (2 : Int32))]) (fun t_ k_ => XS.iconst X0.here hx rfl (hb hby d1_16) k_) ?_
  refine GoH.st (T' := T0) (pc' := 35) (L' := #[.val (.int (2 : Int32)), .val (.int (q0.toInt32)), .val (.int (q1.toInt32)), .val (.int (q2.toInt32))]) (S' := []) (fun t_ k_ => XS.icmpYes X0.here hx rfl (pc0 := 17) (pc' := 35) rfl (hb hby d1_17) rfl (feq (by decide : ¬ ((2 : Int32) = (1 : Int32)))).2 (by decide) (by decide) k_) ?_
  refine GoH.st (T' := T0) (pc' := 36) (L' := #[.val (.int (2 : Int32)), .val (.int (q0.toInt32)), .val (.int (q1.toInt32)), .val (.int (q2.toInt32))]) (S' := [(.int (2 : Int32))]) (fun t_ k_ => XS.iloadN X0.here hx rfl (hb hby d1_35) rfl  k_) ?_
  refine GoH.st (T' := T0) (pc' := 37) (L' := #[.val (.int (2 : Int32)), .val (.int (q0.toInt32)), .val (.int (q1.toInt32)), .val (.int (q2.toInt32))]) (S' := [(.int (2 : Int32)), (.int (2 : Int32))]) (fun t_ k_ => XS.iconst X0.here hx rfl (hb hby d1_36) k_) ?_
  refine GoH.st (T' := T0) (pc' := 40) (L' := #[.val (.int (2 : Int32)), .val (.int (q0.toInt32)), .val (.int (q1.toInt32)), .val (.int (q2.toInt32))]) (S' := []) (fun t_ k_ => XS.icmpNo X0.here hx rfl (hb hby d1_37) rfl (teq (by decide : ((2 : Int32) = (2 : Int32)))).2 k_) ?_
  obtain ⟨T1, h1, X1, e1, E1, A1, D1, U1, st1⟩ := newO X0 hx hZ hown (hw _ (List.mem_of_getElem? (i := 4) rfl)) (hw _ (List.mem_of_getElem? (i := 5) rfl)) (hw _ (List.mem_of_getElem? (i := 6) rfl)) e0 (g := (mkF m 40 #[.val (.int (2 : Int32)), .val (.int (q0.toInt32)), .val (.int (q1.toInt32)), .val (.int (q2.toInt32))] [])) rfl (hb hby d1_40) (by decide) (by decide)
  obtain ⟨b1, g1⟩ : ∃ z, z = h0.size := ⟨_, rfl⟩
  rw [← g1] at A1 D1 U1 st1
  have g_b1 : n0 ≤ b1 := Nat.le_trans Z0 (Nat.le_of_eq g1.symm)
  have sz_b1 : h0.size ≤ b1 := Nat.le_trans K0.1 (Nat.le_of_eq g1.symm)
  have S_b1 : Safe Z EL s.vm h1 b1 := Safe.ext E1 CR.1 (Safe.new (Nat.le_of_eq g1.symm))
  replace CR := CR.trans (CHr.ext E1 CR.1)
  replace hk := Nat.le_trans hk E1.1
  replace Z0 := Nat.le_trans Z0 E1.1
  replace K0 := K0.ext E1
  replace O0 := O0.ext E1
  have E_b1 := A1
  have F_b1_coder : Fld Z h1 b1 "java/lang/String" "coder" "B" (.int (0 : Int32)) := D1 (Or.inr (hw _ (List.mem_of_getElem? (i := 31) rfl))) (ty := .byte) (by decide)
  have F_b1_value : Fld Z h1 b1 "java/lang/String" "value" "[B" .null := D1 (Or.inr (hw _ (List.mem_of_getElem? (i := 33) rfl))) (ty := (.array .byte)) (by decide)
  refine GoH.st (T' := T1) (pc' := 43) (L' := #[.val (.int (2 : Int32)), .val (.int (q0.toInt32)), .val (.int (q1.toInt32)), .val (.int (q2.toInt32))]) (S' := [(.ref b1)]) st1 ?_
  refine GoH.st (T' := T1) (pc' := 44) (L' := #[.val (.int (2 : Int32)), .val (.int (q0.toInt32)), .val (.int (q1.toInt32)), .val (.int (q2.toInt32))]) (S' := [(.ref b1), (.ref b1)]) (fun t_ k_ => XS.dup X1.here hx rfl (hb hby d1_43) rfl rfl k_) ?_
  refine GoH.st (T' := T1) (pc' := 45) (L' := #[.val (.int (2 : Int32)), .val (.int (q0.toInt32)), .val (.int (q1.toInt32)), .val (.int (q2.toInt32))]) (S' := [(.int (2 : Int32)), (.ref b1), (.ref b1)]) (fun t_ k_ => XS.iconst X1.here hx rfl (hb hby d1_44) k_) ?_
  obtain ⟨T2, h2, k2, X2, e2, E2, A2, st2⟩ := newP X1 hx hZ (hw _ (List.mem_of_getElem? (i := 7) rfl)) e1 (g := (mkF m 45 #[.val (.int (2 : Int32)), .val (.int (q0.toInt32)), .val (.int (q1.toInt32)), .val (.int (q2.toInt32))] [(.int (2 : Int32)), (.ref b1), (.ref b1)])) rfl (hb hby d1_45) rfl (by decide) (cap := 2) (by decide) (by decide) (by decide) (by decide)
  obtain ⟨b2, g2⟩ : ∃ z, z = h1.size := ⟨_, rfl⟩
  rw [← g2] at A2 st2
  have ne_b1_b2 : b1 ≠ b2 := Nat.ne_of_lt (Nat.lt_of_lt_of_le E_b1.lt (Nat.le_of_eq g2.symm))
  have g_b2 : n0 ≤ b2 := Nat.le_trans Z0 (Nat.le_of_eq g2.symm)
  have sz_b2 : h0.size ≤ b2 := Nat.le_trans K0.1 (Nat.le_of_eq g2.symm)
  replace S_b1 := Safe.ext E2 CR.1 S_b1
  replace CR := CR.trans (CHr.ext E2 CR.1)
  replace hk := Nat.le_trans hk E2.1
  replace Z0 := Nat.le_trans Z0 E2.1
  replace K0 := K0.ext E2
  replace O0 := O0.ext E2
  replace E_b1 := E_b1.ext E2
  replace F_b1_coder := F_b1_coder.ext E2
  replace F_b1_value := F_b1_value.ext E2
  have V_b2 : Arv Z h2 b2 k2 .char (2 : Int32) [(.int (0 : Int32)), (.int (0 : Int32))] (.int (0 : Int32)) := (Arv.new A2 (by decide)).pad (pad_rep [] (.int (0 : Int32)) 2)
  refine GoH.st (T' := T2) (pc' := 47) (L' := #[.val (.int (2 : Int32)), .val (.int (q0.toInt32)), .val (.int (q1.toInt32)), .val (.int (q2.toInt32))]) (S' := [(.ref b2), (.ref b1), (.ref b1)]) st2 ?_
  refine GoH.st (T' := T2) (pc' := 48) (L' := #[.val (.int (2 : Int32)), .val (.int (q0.toInt32)), .val (.int (q1.toInt32)), .val (.int (q2.toInt32))]) (S' := [(.ref b2), (.ref b2), (.ref b1), (.ref b1)]) (fun t_ k_ => XS.dup X2.here hx rfl (hb hby d1_47) rfl rfl k_) ?_
  refine GoH.st (T' := T2) (pc' := 49) (L' := #[.val (.int (2 : Int32)), .val (.int (q0.toInt32)), .val (.int (q1.toInt32)), .val (.int (q2.toInt32))]) (S' := [(.int (0 : Int32)), (.ref b2), (.ref b2), (.ref b1), (.ref b1)]) (fun t_ k_ => XS.iconst X2.here hx rfl (hb hby d1_48) k_) ?_
  refine GoH.st (T' := T2) (pc' := 50) (L' := #[.val (.int (2 : Int32)), .val (.int (q0.toInt32)), .val (.int (q1.toInt32)), .val (.int (q2.toInt32))]) (S' := [(.int (q0.toInt32)), (.int (0 : Int32)), (.ref b2), (.ref b2), (.ref b1), (.ref b1)]) (fun t_ k_ => XS.iloadN X2.here hx rfl (hb hby d1_49) rfl  k_) ?_
  have Sq3 : Safe Z EL s.vm h2 b2 := (own_safeV hZ.alike V_b2 (by decide))
  obtain ⟨cl3, Ar3, q31, q32, q33, q34, q35⟩ := V_b2
  obtain ⟨T3, h3, X3, e3, W3, st3⟩ := stC X2 hx hZ e2 Ar3 (j := (0 : Int32)) (inb_of q32 ⟨by decide, by decide⟩) (g := (mkF m 50 #[.val (.int (2 : Int32)), .val (.int (q0.toInt32)), .val (.int (q1.toInt32)), .val (.int (q2.toInt32))] [(.int (q0.toInt32)), (.int (0 : Int32)), (.ref b2), (.ref b2), (.ref b1), (.ref b1)])) rfl rfl (hb hby d1_50)
  replace V_b2 := Arv.set Ar3 q31 q32 q33 q34 q35 (fits_nar_char _) W3 0 rfl (Nat.le_of_ble_eq_true rfl)
  have V_b2 : Arv Z h3 b2 k2 .char (2 : Int32) [(.int (nar .char (q0.toInt32))), (.int (0 : Int32))] (.int (0 : Int32)) := V_b2
  replace S_b1 := Safe.wr W3 Sq3 CR.1 S_b1
  replace CR := CR.trans (CHr.wr W3 Sq3 CR.1)
  replace hk := Nat.le_trans hk (Keep.of_wr W3).1
  replace Z0 := Nat.le_trans Z0 (Keep.of_wr W3).1
  replace K0 := K0.wr W3 (Or.inr sz_b2)
  replace O0 := O0.wr W3 g_b2
  replace E_b1 := E_b1.wr W3
  replace F_b1_coder := F_b1_coder.other W3 (Or.inl ne_b1_b2)
  replace F_b1_value := F_b1_value.other W3 (Or.inl ne_b1_b2)
  have N3 := Fr.snoc X3 N0 g_b2
  refine GoH.st (T' := T3) (pc' := 51) (L' := #[.val (.int (2 : Int32)), .val (.int (q0.toInt32)), .val (.int (q1.toInt32)), .val (.int (q2.toInt32))]) (S' := [(.ref b2), (.ref b1), (.ref b1)]) st3 ?_
  refine GoH.st (T' := T3) (pc' := 52) (L' := #[.val (.int (2 : Int32)), .val (.int (q0.toInt32)), .val (.int (q1.toInt32)), .val (.int (q2.toInt32))]) (S' := [(.ref b2), (.ref b2), (.ref b1), (.ref b1)]) (fun t_ k_ => XS.dup X3.here hx rfl (hb hby d1_51) rfl rfl k_) ?_
  refine GoH.st (T' := T3) (pc' := 53) (L' := #[.val (.int (2 : Int32)), .val (.int (q0.toInt32)), .val (.int (q1.toInt32)), .val (.int (q2.toInt32))]) (S' := [(.int (1 : Int32)), (.ref b2), (.ref b2), (.ref b1), (.ref b1)]) (fun t_ k_ => XS.iconst X3.here hx rfl (hb hby d1_52) k_) ?_
  refine GoH.st (T' := T3) (pc' := 54) (L' := #[.val (.int (2 : Int32)), .val (.int (q0.toInt32)), .val (.int (q1.toInt32)), .val (.int (q2.toInt32))]) (S' := [(.int (q1.toInt32)), (.int (1 : Int32)), (.ref b2), (.ref b2), (.ref b1), (.ref b1)]) (fun t_ k_ => XS.iloadN X3.here hx rfl (hb hby d1_53) rfl  k_) ?_
  have Sq5 : Safe Z EL s.vm h3 b2 := (own_safeV hZ.alike V_b2 (by decide))
  obtain ⟨cl5, Ar5, q51, q52, q53, q54, q55⟩ := V_b2
  obtain ⟨T5, h5, X5, e5, W5, st5⟩ := stC X3 hx hZ e3 Ar5 (j := (1 : Int32)) (inb_of q52 ⟨by decide, by decide⟩) (g := (mkF m 54 #[.val (.int (2 : Int32)), .val (.int (q0.toInt32)), .val (.int (q1.toInt32)), .val (.int (q2.toInt32))] [(.int (q1.toInt32)), (.int (1 : Int32)), (.ref b2), (.ref b2), (.ref b1), (.ref b1)])) rfl rfl (hb hby d1_54)
  replace V_b2 := Arv.set Ar5 q51 q52 q53 q54 q55 (fits_nar_char _) W5 1 rfl (Nat.le_of_ble_eq_true rfl)
  have V_b2 : Arv Z h5 b2 k2 .char (2 : Int32) [(.int (nar .char (q0.toInt32))), (.int (nar .char (q1.toInt32)))] (.int (0 : Int32)) := V_b2
  replace S_b1 := Safe.wr W5 Sq5 CR.1 S_b1
  replace CR := CR.trans (CHr.wr W5 Sq5 CR.1)
  replace hk := Nat.le_trans hk (Keep.of_wr W5).1
  replace Z0 := Nat.le_trans Z0 (Keep.of_wr W5).1
  replace K0 := K0.wr W5 (Or.inr sz_b2)
  replace O0 := O0.wr W5 g_b2
  replace E_b1 := E_b1.wr W5
  replace F_b1_coder := F_b1_coder.other W5 (Or.inl ne_b1_b2)
  replace F_b1_value := F_b1_value.other W5 (Or.inl ne_b1_b2)
  have N5 := Fr.snoc X5 N3 g_b2
  refine GoH.st (T' := T5) (pc' := 55) (L' := #[.val (.int (2 : Int32)), .val (.int (q0.toInt32)), .val (.int (q1.toInt32)), .val (.int (q2.toInt32))]) (S' := [(.ref b2), (.ref b1), (.ref b1)]) st5 ?_
  have hws7 : ∀ d ∈ StrChars.Road.words, d.before a0 Z = true := fun d hd => hw d ((by decide +kernel : ∀ d ∈ StrChars.Road.words, d ∈ tables_1) d hd)
  have hlat7 : ∀ c ∈ [(nar .char (q0.toInt32)), (nar .char (q1.toInt32))], ¬ c < 0 ∧ ¬ (255 : Int32) < c := by
    intro c hc
    simp only [List.mem_cons, List.not_mem_nil, or_false] at hc
    rcases hc with rfl | rfl
    · exact own_lat (by omega)
    · exact own_lat (by omega)
  obtain ⟨_, _, ⟨T7, L7, k7, n7⟩, -, X7, ⟨Lc7, hQ7, l7, y7, z7⟩, st7⟩ := X5.specialBack hx (y := (⟨"java/lang/String", "<init>", "([C)V"⟩ : MethodName)) rfl hown (mvT hZ (hw _ (List.mem_of_getElem? (i := 8) rfl))) (mvT hZ (hw _ (List.mem_of_getElem? (i := 9) rfl))) (mvT hZ (hw _ (List.mem_of_getElem? (i := 10) rfl))) (by decide) (StrChars.Road.backV (W := 1) hZ hws7 (kI := 4) (hw _ (List.mem_of_getElem? (i := 5) rfl)) (cs := [(nar .char (q0.toInt32)), (nar .char (q1.toInt32))]) (bs := [((nar .char (q0.toInt32))).toInt8.toInt32, ((nar .char (q1.toInt32))).toInt8.toInt32]) (n := 2) g_b1 Z0 E_b1 F_b1_value F_b1_coder V_b2 (SC.ext O0.2) PC rfl rfl (by decide) (by decide) hlat7 rfl (by decide) (by decide)) (g := (mkF m 55 #[.val (.int (2 : Int32)), .val (.int (q0.toInt32)), .val (.int (q1.toInt32)), .val (.int (q2.toInt32))] [(.ref b2), (.ref b1), (.ref b1)])) rfl (by rw [hml]; rfl) (Steps.refl _) (a := b1) (argsL := [(.ref b2)]) (rest := [(.ref b1)]) (lenOf pd_5 rfl) rfl (by show 2 * 0 + _ ≤ _; exact Nat.le_of_eq rfl) (hb hby d1_55) (fun _ _ => ⟨rfl, e5, (by decide : 2 + 1 ≤ _), (by decide : 6 + 2 ≤ _)⟩)
  dsimp only [Pt.U, Pt.locs, Pt.cells, Pt.slots] at X7 l7 y7 z7 st7 hQ7
  subst l7 y7 z7
  obtain ⟨rfl, N7q, K7, Ex7, Co7, t7, kb7, ta7, tb7, tc7, Va7, Ay7⟩ := hQ7
  have N7 := Fr.app N5 N7q
  have ne_b1_t7 : b1 ≠ t7 := Nat.ne_of_lt (Nat.lt_of_lt_of_le E_b1.lt tb7)
  have ne_b2_t7 : b2 ≠ t7 := Nat.ne_of_lt (Nat.lt_of_lt_of_le V_b2.lt tb7)
  have sz_t7 : h0.size ≤ t7 := Nat.le_trans K0.1 tb7
  obtain ⟨h7, e7⟩ : ∃ z, T7.heap = z := ⟨_, rfl⟩
  rw [e7] at K7 Ex7 Co7 Va7 Ay7
  have Sk8 : ∀ x ∈ [b1], Safe Z EL s.vm h5 x := (allS S_b1 all0)
  replace S_b1 := Safe.keep K7 Sk8 CR.1 S_b1
  replace CR := CR.trans (CHr.keep K7 Sk8 CR.1)
  replace hk := Nat.le_trans hk K7.1
  replace Z0 := Nat.le_trans Z0 K7.1
  replace K0 := K0.trans K7 (allS (Or.inr sz_b1) all0)
  replace O0 := O0.keep K7 (allS g_b1 all0)
  replace E_b1 := E_b1.keep K7
  replace V_b2 := V_b2.keep K7 (ninS (Ne.symm ne_b1_b2) nin0)
  have Ay7 : Arv Z h7 t7 kb7 .byte (2 : Int32) [(.int (((nar .char (q0.toInt32))).toInt8.toInt32)), (.int (((nar .char (q1.toInt32))).toInt8.toInt32))] (.int (0 : Int32)) := Ay7
  refine GoH.tr (T' := T7) (pc' := 58) (L' := #[.val (.int (2 : Int32)), .val (.int (q0.toInt32)), .val (.int (q1.toInt32)), .val (.int (q2.toInt32))]) (S' := [(.ref b1)]) st7 ?_
  exact GoH.retO X7 hx hlk hret rfl (by simp [FieldType.isReference, Value.isRef]) (hb hby d1_58) (by decide) (by decide) hS hk e7 hs0 hZ (own_EW hw) CR (by rw [e7]; exact ⟨b1, t7, _, rfl, N7, K0, g_b1, E_b1, Co7, Va7, Ay7⟩)

def Q0_2 (Z : State)  (h0 : Heap) (n0 : Nat) (v : Option Value) (h : Heap) (L : List Loc) : Prop := v = some (.int 1) ∧ Fr n0 L
set_option maxRecDepth 65536 in
set_option maxHeartbeats 40000000 in
theorem rm0_2 (l : Launch) (Z : State) (a0 : Array Value) (hw : ∀ d ∈ tables_1, d.before a0 Z = true) (ws : List Jvm.Cond) (p1 : Int32) (p2 : Int32) (p3 : Int32) (p4 : Int32) (p5 : Int32) (q0 q1 q2 qi : Nat) (gC : Int32) (h0 : Heap) (n0 : Nat) (Z0 : n0 ≤ h0.size) (SC : Sta Z Z.heap "java/lang/String" "COMPACT_STRINGS" "Z" (.int gC)) (PC : ¬ (gC = (0 : Int32))) (O0 : Old Z n0 h0) (hq0 : q0 < 128) (hq1 : q1 < 128) (hq2 : q2 < 128) (hqi : qi < 128) (hk3 : p4 &&& (3 : Int32) = (2 : Int32)) (e0q : (p1 &&& (127 : Int32)).toUInt32.toUInt16.toUInt32.toInt32 = q0.toInt32) (e1q : (p2 &&& (127 : Int32)).toUInt32.toUInt16.toUInt32.toInt32 = q1.toInt32) (e2q : (p3 &&& (127 : Int32)).toUInt32.toUInt16.toUInt32.toInt32 = q2.toInt32) (eiq : p5 &&& (127 : Int32) = qi.toInt32) :
    MetFree l x (head1 (Jvm.Cond.code x code maxLocals ret :: ws) room_1) (fun aa_ U_ => aa_ = #[(.int p1), (.int p2), (.int p3), (.int p4), (.int p5)] ∧ Z.Warmed39 U_.vm ∧ U_.heap = h0 ∧ CHv Z EL U_.vm h0) (fun _ _ _ _ _ => True) (fun _ U_ o_ W_ => ∃ v_ L_, o_ = .returned v_ ∧ (Q0_2 Z  h0 n0) v_ W_.heap L_ ∧ CHr Z EL U_.vm U_.heap W_.vm W_.heap ∧ ReturnedEndW U_ o_ W_ L_ room_1.cells room_1.slots) := by
  refine own_metH (Q := (Q0_2 Z  h0 n0)) (L0 := #[.val (.int p1), .val (.int p2), .val (.int p3), .val (.int p4), .val (.int p5), .unset, .unset, .unset, .unset, .unset, .unset, .unset, .unset]) (plainFor_of_name pn_3) (fun m => by first | (simp [entryFrame, mkF, argsToLocals, Value.category, maxLocals]; done) | rfl) ?_
  intro p e s m below meth c T0 X0 hx hby hml hown hnm hret hlk hZ e0 hs0 CR hS hk
  have N0 := Fr.nil n0
  refine GoH.st (T' := T0) (pc' := 1) (L' := #[.val (.int p1), .val (.int p2), .val (.int p3), .val (.int p4), .val (.int p5), .unset, .unset, .unset, .unset, .unset, .unset, .unset, .unset]) (S' := [(.int p4)]) (fun t_ k_ => XS.iloadN X0.here hx rfl (hb hby at_0) rfl  k_) ?_
  refine GoH.st (T' := T0) (pc' := 2) (L' := #[.val (.int p1), .val (.int p2), .val (.int p3), .val (.int p4), .val (.int p5), .unset, .unset, .unset, .unset, .unset, .unset, .unset, .unset]) (S' := [(.int (3 : Int32)), (.int p4)]) (fun t_ k_ => XS.iconst X0.here hx rfl (hb hby at_1) k_) ?_
  refine GoH.st (T' := T0) (pc' := 3) (L' := #[.val (.int p1), .val (.int p2), .val (.int p3), .val (.int p4), .val (.int p5), .unset, .unset, .unset, .unset, .unset, .unset, .unset, .unset]) (S' := [(.int (p4 &&& (3 : Int32)))]) (fun t_ k_ => XS.iand X0.here hx rfl (hb hby at_2) rfl k_) ?_
  rw [hk3]
  refine GoH.st (T' := T0) (pc' := 5) (L' := #[.val (.int p1), .val (.int p2), .val (.int p3), .val (.int p4), .val (.int p5), .val (.int (2 : Int32)), .unset, .unset, .unset, .unset, .unset, .unset, .unset]) (S' := []) (fun t_ k_ => XS.istore X0.here hx rfl (hb hby at_3) rfl (l' := #[.val (.int p1), .val (.int p2), .val (.int p3), .val (.int p4), .val (.int p5), .val (.int (2 : Int32)), .unset, .unset, .unset, .unset, .unset, .unset, .unset]) rfl k_) ?_
  refine GoH.st (T' := T0) (pc' := 6) (L' := #[.val (.int p1), .val (.int p2), .val (.int p3), .val (.int p4), .val (.int p5), .val (.int (2 : Int32)), .unset, .unset, .unset, .unset, .unset, .unset, .unset]) (S' := [(.int p1)]) (fun t_ k_ => XS.iloadN X0.here hx rfl (hb hby at_5) rfl  k_) ?_
  refine GoH.st (T' := T0) (pc' := 8) (L' := #[.val (.int p1), .val (.int p2), .val (.int p3), .val (.int p4), .val (.int p5), .val (.int (2 : Int32)), .unset, .unset, .unset, .unset, .unset, .unset, .unset]) (S' := [(.int (127 : Int32)), (.int p1)]) (fun t_ k_ => XS.bipush X0.here hx rfl (hb hby at_6) k_) ?_
  refine GoH.st (T' := T0) (pc' := 9) (L' := #[.val (.int p1), .val (.int p2), .val (.int p3), .val (.int p4), .val (.int p5), .val (.int (2 : Int32)), .unset, .unset, .unset, .unset, .unset, .unset, .unset]) (S' := [(.int (p1 &&& (127 : Int32)))]) (fun t_ k_ => XS.iand X0.here hx rfl (hb hby at_8) rfl k_) ?_
  refine GoH.st (T' := T0) (pc' := 10) (L' := #[.val (.int p1), .val (.int p2), .val (.int p3), .val (.int p4), .val (.int p5), .val (.int (2 : Int32)), .unset, .unset, .unset, .unset, .unset, .unset, .unset]) (S' := [(.int ((p1 &&& (127 : Int32)).toUInt32.toUInt16.toUInt32.toInt32))]) (fun t_ k_ => XS.i2c X0.here hx rfl (hb hby at_9) rfl k_) ?_
  rw [e0q]
  refine GoH.st (T' := T0) (pc' := 12) (L' := #[.val (.int p1), .val (.int p2), .val (.int p3), .val (.int p4), .val (.int p5), .val (.int (2 : Int32)), .val (.int (q0.toInt32)), .unset, .unset, .unset, .unset, .unset, .unset]) (S' := []) (fun t_ k_ => XS.istore X0.here hx rfl (hb hby at_10) rfl (l' := #[.val (.int p1), .val (.int p2), .val (.int p3), .val (.int p4), .val (.int p5), .val (.int (2 : Int32)), .val (.int (q0.toInt32)), .unset, .unset, .unset, .unset, .unset, .unset]) rfl k_) ?_
  refine GoH.st (T' := T0) (pc' := 13) (L' := #[.val (.int p1), .val (.int p2), .val (.int p3), .val (.int p4), .val (.int p5), .val (.int (2 : Int32)), .val (.int (q0.toInt32)), .unset, .unset, .unset, .unset, .unset, .unset]) (S' := [(.int p2)]) (fun t_ k_ => XS.iloadN X0.here hx rfl (hb hby at_12) rfl  k_) ?_
  refine GoH.st (T' := T0) (pc' := 15) (L' := #[.val (.int p1), .val (.int p2), .val (.int p3), .val (.int p4), .val (.int p5), .val (.int (2 : Int32)), .val (.int (q0.toInt32)), .unset, .unset, .unset, .unset, .unset, .unset]) (S' := [(.int (127 : Int32)), (.int p2)]) (fun t_ k_ => XS.bipush X0.here hx rfl (hb hby at_13) k_) ?_
  refine GoH.st (T' := T0) (pc' := 16) (L' := #[.val (.int p1), .val (.int p2), .val (.int p3), .val (.int p4), .val (.int p5), .val (.int (2 : Int32)), .val (.int (q0.toInt32)), .unset, .unset, .unset, .unset, .unset, .unset]) (S' := [(.int (p2 &&& (127 : Int32)))]) (fun t_ k_ => XS.iand X0.here hx rfl (hb hby at_15) rfl k_) ?_
  refine GoH.st (T' := T0) (pc' := 17) (L' := #[.val (.int p1), .val (.int p2), .val (.int p3), .val (.int p4), .val (.int p5), .val (.int (2 : Int32)), .val (.int (q0.toInt32)), .unset, .unset, .unset, .unset, .unset, .unset]) (S' := [(.int ((p2 &&& (127 : Int32)).toUInt32.toUInt16.toUInt32.toInt32))]) (fun t_ k_ => XS.i2c X0.here hx rfl (hb hby at_16) rfl k_) ?_
  rw [e1q]
  refine GoH.st (T' := T0) (pc' := 19) (L' := #[.val (.int p1), .val (.int p2), .val (.int p3), .val (.int p4), .val (.int p5), .val (.int (2 : Int32)), .val (.int (q0.toInt32)), .val (.int (q1.toInt32)), .unset, .unset, .unset, .unset, .unset]) (S' := []) (fun t_ k_ => XS.istore X0.here hx rfl (hb hby at_17) rfl (l' := #[.val (.int p1), .val (.int p2), .val (.int p3), .val (.int p4), .val (.int p5), .val (.int (2 : Int32)), .val (.int (q0.toInt32)), .val (.int (q1.toInt32)), .unset, .unset, .unset, .unset, .unset]) rfl k_) ?_
  refine GoH.st (T' := T0) (pc' := 20) (L' := #[.val (.int p1), .val (.int p2), .val (.int p3), .val (.int p4), .val (.int p5), .val (.int (2 : Int32)), .val (.int (q0.toInt32)), .val (.int (q1.toInt32)), .unset, .unset, .unset, .unset, .unset]) (S' := [(.int p3)]) (fun t_ k_ => XS.iloadN X0.here hx rfl (hb hby at_19) rfl  k_) ?_
  refine GoH.st (T' := T0) (pc' := 22) (L' := #[.val (.int p1), .val (.int p2), .val (.int p3), .val (.int p4), .val (.int p5), .val (.int (2 : Int32)), .val (.int (q0.toInt32)), .val (.int (q1.toInt32)), .unset, .unset, .unset, .unset, .unset]) (S' := [(.int (127 : Int32)), (.int p3)]) (fun t_ k_ => XS.bipush X0.here hx rfl (hb hby at_20) k_) ?_
  refine GoH.st (T' := T0) (pc' := 23) (L' := #[.val (.int p1), .val (.int p2), .val (.int p3), .val (.int p4), .val (.int p5), .val (.int (2 : Int32)), .val (.int (q0.toInt32)), .val (.int (q1.toInt32)), .unset, .unset, .unset, .unset, .unset]) (S' := [(.int (p3 &&& (127 : Int32)))]) (fun t_ k_ => XS.iand X0.here hx rfl (hb hby at_22) rfl k_) ?_
  refine GoH.st (T' := T0) (pc' := 24) (L' := #[.val (.int p1), .val (.int p2), .val (.int p3), .val (.int p4), .val (.int p5), .val (.int (2 : Int32)), .val (.int (q0.toInt32)), .val (.int (q1.toInt32)), .unset, .unset, .unset, .unset, .unset]) (S' := [(.int ((p3 &&& (127 : Int32)).toUInt32.toUInt16.toUInt32.toInt32))]) (fun t_ k_ => XS.i2c X0.here hx rfl (hb hby at_23) rfl k_) ?_
  rw [e2q]
  refine GoH.st (T' := T0) (pc' := 26) (L' := #[.val (.int p1), .val (.int p2), .val (.int p3), .val (.int p4), .val (.int p5), .val (.int (2 : Int32)), .val (.int (q0.toInt32)), .val (.int (q1.toInt32)), .val (.int (q2.toInt32)), .unset, .unset, .unset, .unset]) (S' := []) (fun t_ k_ => XS.istore X0.here hx rfl (hb hby at_24) rfl (l' := #[.val (.int p1), .val (.int p2), .val (.int p3), .val (.int p4), .val (.int p5), .val (.int (2 : Int32)), .val (.int (q0.toInt32)), .val (.int (q1.toInt32)), .val (.int (q2.toInt32)), .unset, .unset, .unset, .unset]) rfl k_) ?_
  refine GoH.st (T' := T0) (pc' := 28) (L' := #[.val (.int p1), .val (.int p2), .val (.int p3), .val (.int p4), .val (.int p5), .val (.int (2 : Int32)), .val (.int (q0.toInt32)), .val (.int (q1.toInt32)), .val (.int (q2.toInt32)), .unset, .unset, .unset, .unset]) (S' := [(.int (2 : Int32))]) (fun t_ k_ => XS.iload X0.here hx rfl (hb hby at_26) rfl  k_) ?_
  refine GoH.st (T' := T0) (pc' := 30) (L' := #[.val (.int p1), .val (.int p2), .val (.int p3), .val (.int p4), .val (.int p5), .val (.int (2 : Int32)), .val (.int (q0.toInt32)), .val (.int (q1.toInt32)), .val (.int (q2.toInt32)), .unset, .unset, .unset, .unset]) (S' := [(.int (q0.toInt32)), (.int (2 : Int32))]) (fun t_ k_ => XS.iload X0.here hx rfl (hb hby at_28) rfl  k_) ?_
  refine GoH.st (T' := T0) (pc' := 32) (L' := #[.val (.int p1), .val (.int p2), .val (.int p3), .val (.int p4), .val (.int p5), .val (.int (2 : Int32)), .val (.int (q0.toInt32)), .val (.int (q1.toInt32)), .val (.int (q2.toInt32)), .unset, .unset, .unset, .unset]) (S' := [(.int (q1.toInt32)), (.int (q0.toInt32)), (.int (2 : Int32))]) (fun t_ k_ => XS.iload X0.here hx rfl (hb hby at_30) rfl  k_) ?_
  refine GoH.st (T' := T0) (pc' := 34) (L' := #[.val (.int p1), .val (.int p2), .val (.int p3), .val (.int p4), .val (.int p5), .val (.int (2 : Int32)), .val (.int (q0.toInt32)), .val (.int (q1.toInt32)), .val (.int (q2.toInt32)), .unset, .unset, .unset, .unset]) (S' := [(.int (q2.toInt32)), (.int (q1.toInt32)), (.int (q0.toInt32)), (.int (2 : Int32))]) (fun t_ k_ => XS.iload X0.here hx rfl (hb hby at_32) rfl  k_) ?_
  obtain ⟨_, _, ⟨T1, L1, k1, n1⟩, -, X1, hS1, hg1, ⟨Lc1, hQ1, l1, y1, z1, CR1⟩, st1⟩ := callSS X0 hx (y := (⟨"com/example/traversal/traversal/graph/IrisControlsSpaceAndPinLaw", "make", "(ICCC)Ljava/lang/String;"⟩ : MethodName)) hown (mvT hZ (hw _ (List.mem_of_getElem? (i := 0) rfl))) (mvT hZ (hw _ (List.mem_of_getElem? (i := 1) rfl))) (mvT hZ (hw _ (List.mem_of_getElem? (i := 2) rfl))) (mvT hZ (hw _ (List.mem_of_getElem? (i := 3) rfl))) (by decide) (backOfSH (W := 0) (rmmk2 l Z a0 hw [] q0 q1 q2 gC h0 n0 Z0 SC PC O0 hq0 hq1 hq2) hZ (hw _ (List.mem_of_getElem? (i := 3) rfl)) (hw _ (List.mem_of_getElem? (i := 2) rfl)) (by decide) (by decide) (own_EW hw) CR.1) (g := (mkF m 34 #[.val (.int p1), .val (.int p2), .val (.int p3), .val (.int p4), .val (.int p5), .val (.int (2 : Int32)), .val (.int (q0.toInt32)), .val (.int (q1.toInt32)), .val (.int (q2.toInt32)), .unset, .unset, .unset, .unset] [(.int (q2.toInt32)), (.int (q1.toInt32)), (.int (q0.toInt32)), (.int (2 : Int32))])) rfl (by rw [hml]; rfl) (argsL := [(.int (2 : Int32)), (.int (q0.toInt32)), (.int (q1.toInt32)), (.int (q2.toInt32))]) (rest := []) (lenOf pd_6 rfl) rfl (by show 2 * 0 + _ ≤ _; exact Nat.le_of_eq rfl) (hb hby at_34) (fun _ _ => ⟨rfl, e0, (by decide : 0 + 3 ≤ _), (by decide : 0 + 8 ≤ _)⟩)
  dsimp only [Pt.U, Pt.locs, Pt.cells, Pt.slots] at X1 l1 y1 z1 st1 hQ1 hS1 hg1 CR1
  subst l1 y1 z1
  replace hS := foldS hS (T := T0) (by rw [e0]; exact hk) hS1 hg1
  replace hk := Nat.le_refl T1.heap.size
  replace hZ : Z.Warmed39 (s.setVm T1.vm).vm := State.Warmed39.trans (t := s.setVm s.vm) hZ hS1.1
  replace hown : (s.setVm T1.vm).vm.findClass "com/example/traversal/traversal/graph/IrisControlsSpaceAndPinLaw" = some m.cls := by rw [show (s.setVm T1.vm).vm = T1.vm from rfl, hS1.1.alike.findClass]; exact hown
  obtain ⟨xs, ts, kt1, rfl, N1q, K1, g_xs, E_xs, Fc_xs, Fv_xs, V_ts⟩ := hQ1
  have N1 := Fr.app N0 N1q
  obtain ⟨h1, e1⟩ : ∃ z, T1.heap = z := ⟨_, rfl⟩
  rw [e1] at K1 E_xs Fc_xs Fv_xs V_ts CR1
  replace CR := CR.trans CR1
  replace Z0 := Nat.le_trans Z0 K1.1
  replace O0 := O0.keep K1 all0
  replace hk : T1.heap.size ≤ h1.size := Nat.le_of_eq (congrArg Array.size e1)
  refine GoH.tr (T' := T1) (pc' := 37) (L' := #[.val (.int p1), .val (.int p2), .val (.int p3), .val (.int p4), .val (.int p5), .val (.int (2 : Int32)), .val (.int (q0.toInt32)), .val (.int (q1.toInt32)), .val (.int (q2.toInt32)), .unset, .unset, .unset, .unset]) (S' := [(.ref xs)]) st1 ?_
  refine GoH.st (T' := T1) (pc' := 39) (L' := #[.val (.int p1), .val (.int p2), .val (.int p3), .val (.int p4), .val (.int p5), .val (.int (2 : Int32)), .val (.int (q0.toInt32)), .val (.int (q1.toInt32)), .val (.int (q2.toInt32)), .val (.ref xs), .unset, .unset, .unset]) (S' := []) (fun t_ k_ => XS.astore X1.here hx rfl (hb hby at_37) rfl rfl (l' := #[.val (.int p1), .val (.int p2), .val (.int p3), .val (.int p4), .val (.int p5), .val (.int (2 : Int32)), .val (.int (q0.toInt32)), .val (.int (q1.toInt32)), .val (.int (q2.toInt32)), .val (.ref xs), .unset, .unset, .unset]) rfl k_) ?_
  refine GoH.st (T' := T1) (pc' := 41) (L' := #[.val (.int p1), .val (.int p2), .val (.int p3), .val (.int p4), .val (.int p5), .val (.int (2 : Int32)), .val (.int (q0.toInt32)), .val (.int (q1.toInt32)), .val (.int (q2.toInt32)), .val (.ref xs), .unset, .unset, .unset]) (S' := [(.int p5)]) (fun t_ k_ => XS.iload X1.here hx rfl (hb hby at_39) rfl  k_) ?_
  refine GoH.st (T' := T1) (pc' := 43) (L' := #[.val (.int p1), .val (.int p2), .val (.int p3), .val (.int p4), .val (.int p5), .val (.int (2 : Int32)), .val (.int (q0.toInt32)), .val (.int (q1.toInt32)), .val (.int (q2.toInt32)), .val (.ref xs), .unset, .unset, .unset]) (S' := [(.int (127 : Int32)), (.int p5)]) (fun t_ k_ => XS.bipush X1.here hx rfl (hb hby at_41) k_) ?_
  refine GoH.st (T' := T1) (pc' := 44) (L' := #[.val (.int p1), .val (.int p2), .val (.int p3), .val (.int p4), .val (.int p5), .val (.int (2 : Int32)), .val (.int (q0.toInt32)), .val (.int (q1.toInt32)), .val (.int (q2.toInt32)), .val (.ref xs), .unset, .unset, .unset]) (S' := [(.int (p5 &&& (127 : Int32)))]) (fun t_ k_ => XS.iand X1.here hx rfl (hb hby at_43) rfl k_) ?_
  rw [eiq]
  refine GoH.st (T' := T1) (pc' := 46) (L' := #[.val (.int p1), .val (.int p2), .val (.int p3), .val (.int p4), .val (.int p5), .val (.int (2 : Int32)), .val (.int (q0.toInt32)), .val (.int (q1.toInt32)), .val (.int (q2.toInt32)), .val (.ref xs), .val (.int (qi.toInt32)), .unset, .unset]) (S' := []) (fun t_ k_ => XS.istore X1.here hx rfl (hb hby at_44) rfl (l' := #[.val (.int p1), .val (.int p2), .val (.int p3), .val (.int p4), .val (.int p5), .val (.int (2 : Int32)), .val (.int (q0.toInt32)), .val (.int (q1.toInt32)), .val (.int (q2.toInt32)), .val (.ref xs), .val (.int (qi.toInt32)), .unset, .unset]) rfl k_) ?_
  refine GoH.st (T' := T1) (pc' := 48) (L' := #[.val (.int p1), .val (.int p2), .val (.int p3), .val (.int p4), .val (.int p5), .val (.int (2 : Int32)), .val (.int (q0.toInt32)), .val (.int (q1.toInt32)), .val (.int (q2.toInt32)), .val (.ref xs), .val (.int (qi.toInt32)), .unset, .unset]) (S' := [(.ref xs)]) (fun t_ k_ => XS.aload X1.here hx rfl (hb hby at_46) rfl rfl  k_) ?_
  obtain ⟨_, _, ⟨T3, L3, k3, n3⟩, -, X3, ⟨Lc3, hQ3, l3, y3, z3⟩, st3⟩ := Jvm.LawKit.callS X1 hx (y := (⟨"com/example/traversal/traversal/graph/Iris", "controlsSpaceAnd", "(Ljava/lang/String;)[Z"⟩ : MethodName)) hown (mvT hZ (hw _ (List.mem_of_getElem? (i := 34) rfl))) (mvT hZ (hw _ (List.mem_of_getElem? (i := 35) rfl))) (mvT hZ (hw _ (List.mem_of_getElem? (i := 36) rfl))) (mvT hZ (hw _ (List.mem_of_getElem? (i := 37) rfl))) (by decide) (backOf (W := 0) (rmcsa2 l Z a0 hw [] xs ts _ gC q0 q1 h1 n0 Z0 SC PC O0 E_xs Fc_xs Fv_xs V_ts hq0 hq1) hZ (hw _ (List.mem_of_getElem? (i := 37) rfl)) (hw _ (List.mem_of_getElem? (i := 36) rfl)) (by decide) (by decide)) (g := (mkF m 48 #[.val (.int p1), .val (.int p2), .val (.int p3), .val (.int p4), .val (.int p5), .val (.int (2 : Int32)), .val (.int (q0.toInt32)), .val (.int (q1.toInt32)), .val (.int (q2.toInt32)), .val (.ref xs), .val (.int (qi.toInt32)), .unset, .unset] [(.ref xs)])) rfl (by rw [hml]; rfl) (argsL := [(.ref xs)]) (rest := []) (lenOf pd_7 rfl) rfl (by show 2 * 0 + _ ≤ _; exact Nat.le_of_eq rfl) (hb hby at_48) (fun _ _ => ⟨rfl, e1, (by decide : 3 + 2 ≤ _), (by decide : 8 + 130 ≤ _)⟩)
  dsimp only [Pt.U, Pt.locs, Pt.cells, Pt.slots] at X3 l3 y3 z3 st3 hQ3
  subst l3 y3 z3
  obtain ⟨bb, kb3, MM, rfl, N3q, K3, Vb3, hMM⟩ := hQ3
  have N3 := Fr.app N1 N3q
  obtain ⟨h3, e3⟩ : ∃ z, T3.heap = z := ⟨_, rfl⟩
  rw [e3] at K3 Vb3
  have Sk4 : ∀ x ∈ [], Safe Z EL T1.vm h1 x := all0
  replace CR := CR.trans (CHr.keep K3 Sk4 CR.1)
  replace hk := Nat.le_trans hk K3.1
  replace Z0 := Nat.le_trans Z0 K3.1
  replace O0 := O0.keep K3 all0
  replace E_xs := E_xs.keep K3
  replace Fc_xs := Fc_xs.keep K3 nin0
  replace Fv_xs := Fv_xs.keep K3 nin0
  replace V_ts := V_ts.keep K3 nin0
  refine GoH.st (T' := T3) (pc' := 51) (L' := #[.val (.int p1), .val (.int p2), .val (.int p3), .val (.int p4), .val (.int p5), .val (.int (2 : Int32)), .val (.int (q0.toInt32)), .val (.int (q1.toInt32)), .val (.int (q2.toInt32)), .val (.ref xs), .val (.int (qi.toInt32)), .unset, .unset]) (S' := [(.ref bb)]) st3 ?_
  refine GoH.st (T' := T3) (pc' := 53) (L' := #[.val (.int p1), .val (.int p2), .val (.int p3), .val (.int p4), .val (.int p5), .val (.int (2 : Int32)), .val (.int (q0.toInt32)), .val (.int (q1.toInt32)), .val (.int (q2.toInt32)), .val (.ref xs), .val (.int (qi.toInt32)), .val (.ref bb), .unset]) (S' := []) (fun t_ k_ => XS.astore X3.here hx rfl (hb hby at_51) rfl rfl (l' := #[.val (.int p1), .val (.int p2), .val (.int p3), .val (.int p4), .val (.int p5), .val (.int (2 : Int32)), .val (.int (q0.toInt32)), .val (.int (q1.toInt32)), .val (.int (q2.toInt32)), .val (.ref xs), .val (.int (qi.toInt32)), .val (.ref bb), .unset]) rfl k_) ?_
  refine GoH.st (T' := T3) (pc' := 55) (L' := #[.val (.int p1), .val (.int p2), .val (.int p3), .val (.int p4), .val (.int p5), .val (.int (2 : Int32)), .val (.int (q0.toInt32)), .val (.int (q1.toInt32)), .val (.int (q2.toInt32)), .val (.ref xs), .val (.int (qi.toInt32)), .val (.ref bb), .unset]) (S' := [(.ref bb)]) (fun t_ k_ => XS.aload X3.here hx rfl (hb hby at_53) rfl rfl  k_) ?_
  refine GoH.st (T' := T3) (pc' := 58) (L' := #[.val (.int p1), .val (.int p2), .val (.int p3), .val (.int p4), .val (.int p5), .val (.int (2 : Int32)), .val (.int (q0.toInt32)), .val (.int (q1.toInt32)), .val (.int (q2.toInt32)), .val (.ref xs), .val (.int (qi.toInt32)), .val (.ref bb), .unset]) (S' := []) (fun t_ k_ => XS.ifnullNo X3.here hx rfl (hb hby at_55) rfl k_) ?_
  refine GoH.st (T' := T3) (pc' := 60) (L' := #[.val (.int p1), .val (.int p2), .val (.int p3), .val (.int p4), .val (.int p5), .val (.int (2 : Int32)), .val (.int (q0.toInt32)), .val (.int (q1.toInt32)), .val (.int (q2.toInt32)), .val (.ref xs), .val (.int (qi.toInt32)), .val (.ref bb), .unset]) (S' := [(.ref bb)]) (fun t_ k_ => XS.aload X3.here hx rfl (hb hby at_58) rfl rfl  k_) ?_
  obtain ⟨cl5, Ar5, -, q5a, q5b, -, -⟩ := id Vb3
  refine GoH.st (T' := T3) (pc' := 61) (L' := #[.val (.int p1), .val (.int p2), .val (.int p3), .val (.int p4), .val (.int p5), .val (.int (2 : Int32)), .val (.int (q0.toInt32)), .val (.int (q1.toInt32)), .val (.int (q2.toInt32)), .val (.ref xs), .val (.int (qi.toInt32)), .val (.ref bb), .unset]) (S' := [(.int (128 : Int32))]) (fun t_ k_ => own_len X3 hx hZ e3 Ar5 q5a q5b (g := (mkF m 60 #[.val (.int p1), .val (.int p2), .val (.int p3), .val (.int p4), .val (.int p5), .val (.int (2 : Int32)), .val (.int (q0.toInt32)), .val (.int (q1.toInt32)), .val (.int (q2.toInt32)), .val (.ref xs), .val (.int (qi.toInt32)), .val (.ref bb), .unset] [(.ref bb)])) rfl rfl (hb hby at_60) t_ k_) ?_
  refine GoH.st (T' := T3) (pc' := 64) (L' := #[.val (.int p1), .val (.int p2), .val (.int p3), .val (.int p4), .val (.int p5), .val (.int (2 : Int32)), .val (.int (q0.toInt32)), .val (.int (q1.toInt32)), .val (.int (q2.toInt32)), .val (.ref xs), .val (.int (qi.toInt32)), .val (.ref bb), .unset]) (S' := [(.int (128 : Int32)), (.int (128 : Int32))]) (fun t_ k_ => XS.sipush X3.here hx rfl (hb hby at_61) k_) ?_
  refine GoH.st (T' := T3) (pc' := 69) (L' := #[.val (.int p1), .val (.int p2), .val (.int p3), .val (.int p4), .val (.int p5), .val (.int (2 : Int32)), .val (.int (q0.toInt32)), .val (.int (q1.toInt32)), .val (.int (q2.toInt32)), .val (.ref xs), .val (.int (qi.toInt32)), .val (.ref bb), .unset]) (S' := []) (fun t_ k_ => XS.icmpYes X3.here hx rfl (pc0 := 64) (pc' := 69) rfl (hb hby at_64) rfl (teq (by decide : ((128 : Int32) = (128 : Int32)))).1 (by decide) (by decide) k_) ?_
  refine GoH.st (T' := T3) (pc' := 71) (L' := #[.val (.int p1), .val (.int p2), .val (.int p3), .val (.int p4), .val (.int p5), .val (.int (2 : Int32)), .val (.int (q0.toInt32)), .val (.int (q1.toInt32)), .val (.int (q2.toInt32)), .val (.ref xs), .val (.int (qi.toInt32)), .val (.ref bb), .unset]) (S' := [(.int (qi.toInt32))]) (fun t_ k_ => XS.iload X3.here hx rfl (hb hby at_69) rfl  k_) ?_
  refine GoH.st (T' := T3) (pc' := 73) (L' := #[.val (.int p1), .val (.int p2), .val (.int p3), .val (.int p4), .val (.int p5), .val (.int (2 : Int32)), .val (.int (q0.toInt32)), .val (.int (q1.toInt32)), .val (.int (q2.toInt32)), .val (.ref xs), .val (.int (qi.toInt32)), .val (.ref bb), .unset]) (S' := [(.int (32 : Int32)), (.int (qi.toInt32))]) (fun t_ k_ => XS.bipush X3.here hx rfl (hb hby at_71) k_) ?_
  by_cases hc73_6 : (32 : Int32) < (qi.toInt32)
  · refine GoH.st (T' := T3) (pc' := 76) (L' := #[.val (.int p1), .val (.int p2), .val (.int p3), .val (.int p4), .val (.int p5), .val (.int (2 : Int32)), .val (.int (q0.toInt32)), .val (.int (q1.toInt32)), .val (.int (q2.toInt32)), .val (.ref xs), .val (.int (qi.toInt32)), .val (.ref bb), .unset]) (S' := []) (fun t_ k_ => XS.icmpNo X3.here hx rfl (hb hby at_73) rfl (tlt hc73_6).2.2.2 k_) ?_
    refine GoH.st (T' := T3) (pc' := 78) (L' := #[.val (.int p1), .val (.int p2), .val (.int p3), .val (.int p4), .val (.int p5), .val (.int (2 : Int32)), .val (.int (q0.toInt32)), .val (.int (q1.toInt32)), .val (.int (q2.toInt32)), .val (.ref xs), .val (.int (qi.toInt32)), .val (.ref bb), .unset]) (S' := [(.int (2 : Int32))]) (fun t_ k_ => XS.iload X3.here hx rfl (hb hby at_76) rfl  k_) ?_
    refine GoH.st (T' := T3) (pc' := 79) (L' := #[.val (.int p1), .val (.int p2), .val (.int p3), .val (.int p4), .val (.int p5), .val (.int (2 : Int32)), .val (.int (q0.toInt32)), .val (.int (q1.toInt32)), .val (.int (q2.toInt32)), .val (.ref xs), .val (.int (qi.toInt32)), .val (.ref bb), .unset]) (S' := [(.int (1 : Int32)), (.int (2 : Int32))]) (fun t_ k_ => XS.iconst X3.here hx rfl (hb hby at_78) k_) ?_
    refine GoH.st (T' := T3) (pc' := 82) (L' := #[.val (.int p1), .val (.int p2), .val (.int p3), .val (.int p4), .val (.int p5), .val (.int (2 : Int32)), .val (.int (q0.toInt32)), .val (.int (q1.toInt32)), .val (.int (q2.toInt32)), .val (.ref xs), .val (.int (qi.toInt32)), .val (.ref bb), .unset]) (S' := []) (fun t_ k_ => XS.icmpNo X3.here hx rfl (hb hby at_79) rfl (flt (by decide : ¬ ((2 : Int32) < (1 : Int32)))).1 k_) ?_
    refine GoH.st (T' := T3) (pc' := 84) (L' := #[.val (.int p1), .val (.int p2), .val (.int p3), .val (.int p4), .val (.int p5), .val (.int (2 : Int32)), .val (.int (q0.toInt32)), .val (.int (q1.toInt32)), .val (.int (q2.toInt32)), .val (.ref xs), .val (.int (qi.toInt32)), .val (.ref bb), .unset]) (S' := [(.int (qi.toInt32))]) (fun t_ k_ => XS.iload X3.here hx rfl (hb hby at_82) rfl  k_) ?_
    refine GoH.st (T' := T3) (pc' := 86) (L' := #[.val (.int p1), .val (.int p2), .val (.int p3), .val (.int p4), .val (.int p5), .val (.int (2 : Int32)), .val (.int (q0.toInt32)), .val (.int (q1.toInt32)), .val (.int (q2.toInt32)), .val (.ref xs), .val (.int (qi.toInt32)), .val (.ref bb), .unset]) (S' := [(.int (q0.toInt32)), (.int (qi.toInt32))]) (fun t_ k_ => XS.iload X3.here hx rfl (hb hby at_84) rfl  k_) ?_
    by_cases hc86_7 : (qi.toInt32) = (q0.toInt32)
    · refine GoH.st (T' := T3) (pc' := 115) (L' := #[.val (.int p1), .val (.int p2), .val (.int p3), .val (.int p4), .val (.int p5), .val (.int (2 : Int32)), .val (.int (q0.toInt32)), .val (.int (q1.toInt32)), .val (.int (q2.toInt32)), .val (.ref xs), .val (.int (qi.toInt32)), .val (.ref bb), .unset]) (S' := []) (fun t_ k_ => XS.icmpYes X3.here hx rfl (pc0 := 86) (pc' := 115) rfl (hb hby at_86) rfl (teq hc86_7).1 (by decide) (by decide) k_) ?_
      refine GoH.st (T' := T3) (pc' := 116) (L' := #[.val (.int p1), .val (.int p2), .val (.int p3), .val (.int p4), .val (.int p5), .val (.int (2 : Int32)), .val (.int (q0.toInt32)), .val (.int (q1.toInt32)), .val (.int (q2.toInt32)), .val (.ref xs), .val (.int (qi.toInt32)), .val (.ref bb), .unset]) (S' := [(.int (1 : Int32))]) (fun t_ k_ => XS.iconst X3.here hx rfl (hb hby at_115) k_) ?_
      refine GoH.st (T' := T3) (pc' := 120) (L' := #[.val (.int p1), .val (.int p2), .val (.int p3), .val (.int p4), .val (.int p5), .val (.int (2 : Int32)), .val (.int (q0.toInt32)), .val (.int (q1.toInt32)), .val (.int (q2.toInt32)), .val (.ref xs), .val (.int (qi.toInt32)), .val (.ref bb), .unset]) (S' := [(.int (1 : Int32))]) (fun t_ k_ => XS.goto X3.here hx rfl (pc0 := 116) (pc' := 120) rfl (hb hby at_116) (by decide) (by decide) k_) ?_
      refine GoH.st (T' := T3) (pc' := 122) (L' := #[.val (.int p1), .val (.int p2), .val (.int p3), .val (.int p4), .val (.int p5), .val (.int (2 : Int32)), .val (.int (q0.toInt32)), .val (.int (q1.toInt32)), .val (.int (q2.toInt32)), .val (.ref xs), .val (.int (qi.toInt32)), .val (.ref bb), .val (.int (1 : Int32))]) (S' := []) (fun t_ k_ => XS.istore X3.here hx rfl (hb hby at_120) rfl (l' := #[.val (.int p1), .val (.int p2), .val (.int p3), .val (.int p4), .val (.int p5), .val (.int (2 : Int32)), .val (.int (q0.toInt32)), .val (.int (q1.toInt32)), .val (.int (q2.toInt32)), .val (.ref xs), .val (.int (qi.toInt32)), .val (.ref bb), .val (.int (1 : Int32))]) rfl k_) ?_
      refine GoH.st (T' := T3) (pc' := 124) (L' := #[.val (.int p1), .val (.int p2), .val (.int p3), .val (.int p4), .val (.int p5), .val (.int (2 : Int32)), .val (.int (q0.toInt32)), .val (.int (q1.toInt32)), .val (.int (q2.toInt32)), .val (.ref xs), .val (.int (qi.toInt32)), .val (.ref bb), .val (.int (1 : Int32))]) (S' := [(.ref bb)]) (fun t_ k_ => XS.aload X3.here hx rfl (hb hby at_122) rfl rfl  k_) ?_
      refine GoH.st (T' := T3) (pc' := 126) (L' := #[.val (.int p1), .val (.int p2), .val (.int p3), .val (.int p4), .val (.int p5), .val (.int (2 : Int32)), .val (.int (q0.toInt32)), .val (.int (q1.toInt32)), .val (.int (q2.toInt32)), .val (.ref xs), .val (.int (qi.toInt32)), .val (.ref bb), .val (.int (1 : Int32))]) (S' := [(.int (qi.toInt32)), (.ref bb)]) (fun t_ k_ => XS.iload X3.here hx rfl (hb hby at_124) rfl  k_) ?_
      obtain ⟨cl8, Ar8, -, q8a, q8b, q8c, q8d⟩ := id Vb3
      refine GoH.st (T' := T3) (pc' := 127) (L' := #[.val (.int p1), .val (.int p2), .val (.int p3), .val (.int p4), .val (.int p5), .val (.int (2 : Int32)), .val (.int (q0.toInt32)), .val (.int (q1.toInt32)), .val (.int (q2.toInt32)), .val (.ref xs), .val (.int (qi.toInt32)), .val (.ref bb), .val (.int (1 : Int32))]) (S' := [(.int (MM.getD (qi) 0))]) (fun t_ k_ => X3.baloadBooleans hx (j := (qi.toInt32)) (v := (.int (MM.getD (qi) 0))) (by rw [e3]; exact Ar8.1) (State.isArrayOf_alike hZ.alike Ar8.2.1) Ar8.2.2 (own_inb q8a (N := 128) (by decide) (by omega) (by decide)) (q8c.at (own_inb q8a (N := 128) (by decide) (by omega) (by decide)) (own_atI _ (by omega))) (g := (mkF m 126 #[.val (.int p1), .val (.int p2), .val (.int p3), .val (.int p4), .val (.int p5), .val (.int (2 : Int32)), .val (.int (q0.toInt32)), .val (.int (q1.toInt32)), .val (.int (q2.toInt32)), .val (.ref xs), .val (.int (qi.toInt32)), .val (.ref bb), .val (.int (1 : Int32))] [(.int (qi.toInt32)), (.ref bb)])) rfl rfl (hb hby at_126) t_ k_) ?_
      refine GoH.st (T' := T3) (pc' := 129) (L' := #[.val (.int p1), .val (.int p2), .val (.int p3), .val (.int p4), .val (.int p5), .val (.int (2 : Int32)), .val (.int (q0.toInt32)), .val (.int (q1.toInt32)), .val (.int (q2.toInt32)), .val (.ref xs), .val (.int (qi.toInt32)), .val (.ref bb), .val (.int (1 : Int32))]) (S' := [(.int (1 : Int32)), (.int (MM.getD (qi) 0))]) (fun t_ k_ => XS.iload X3.here hx rfl (hb hby at_127) rfl  k_) ?_
      have hval : MM.getD qi 0 = (1 : Int32) := by
        rw [hMM qi (by omega)]
        have hA : ¬ qi < 33 := by have := (own_ltI (m := 32) (n := qi) (by decide) (by omega)).mp hc73_6; omega
        have hq0e : qi = q0 := (own_inj (by omega) (by omega)).mp hc86_7
        exact if_pos (by omega)
      refine GoH.st (T' := T3) (pc' := 132) (L' := #[.val (.int p1), .val (.int p2), .val (.int p3), .val (.int p4), .val (.int p5), .val (.int (2 : Int32)), .val (.int (q0.toInt32)), .val (.int (q1.toInt32)), .val (.int (q2.toInt32)), .val (.ref xs), .val (.int (qi.toInt32)), .val (.ref bb), .val (.int (1 : Int32))]) (S' := []) (fun t_ k_ => XS.icmpNo X3.here hx rfl (hb hby at_129) rfl (teq (hval : ((MM.getD (qi) 0) = (1 : Int32)))).2 k_) ?_
      refine GoH.st (T' := T3) (pc' := 133) (L' := #[.val (.int p1), .val (.int p2), .val (.int p3), .val (.int p4), .val (.int p5), .val (.int (2 : Int32)), .val (.int (q0.toInt32)), .val (.int (q1.toInt32)), .val (.int (q2.toInt32)), .val (.ref xs), .val (.int (qi.toInt32)), .val (.ref bb), .val (.int (1 : Int32))]) (S' := [(.int (1 : Int32))]) (fun t_ k_ => XS.iconst X3.here hx rfl (hb hby at_132) k_) ?_
      refine GoH.st (T' := T3) (pc' := 137) (L' := #[.val (.int p1), .val (.int p2), .val (.int p3), .val (.int p4), .val (.int p5), .val (.int (2 : Int32)), .val (.int (q0.toInt32)), .val (.int (q1.toInt32)), .val (.int (q2.toInt32)), .val (.ref xs), .val (.int (qi.toInt32)), .val (.ref bb), .val (.int (1 : Int32))]) (S' := [(.int (1 : Int32))]) (fun t_ k_ => XS.goto X3.here hx rfl (pc0 := 133) (pc' := 137) rfl (hb hby at_133) (by decide) (by decide) k_) ?_
      exact GoH.retN X3 hx hlk hret (by simp) (hb hby at_137) (by decide) (by decide) hS hk e3 hs0 hZ (own_EW hw) CR (by rw [e3]; exact ⟨rfl, N3⟩)
    · refine GoH.st (T' := T3) (pc' := 89) (L' := #[.val (.int p1), .val (.int p2), .val (.int p3), .val (.int p4), .val (.int p5), .val (.int (2 : Int32)), .val (.int (q0.toInt32)), .val (.int (q1.toInt32)), .val (.int (q2.toInt32)), .val (.ref xs), .val (.int (qi.toInt32)), .val (.ref bb), .unset]) (S' := []) (fun t_ k_ => XS.icmpNo X3.here hx rfl (hb hby at_86) rfl (feq hc86_7).1 k_) ?_
      refine GoH.st (T' := T3) (pc' := 91) (L' := #[.val (.int p1), .val (.int p2), .val (.int p3), .val (.int p4), .val (.int p5), .val (.int (2 : Int32)), .val (.int (q0.toInt32)), .val (.int (q1.toInt32)), .val (.int (q2.toInt32)), .val (.ref xs), .val (.int (qi.toInt32)), .val (.ref bb), .unset]) (S' := [(.int (2 : Int32))]) (fun t_ k_ => XS.iload X3.here hx rfl (hb hby at_89) rfl  k_) ?_
      refine GoH.st (T' := T3) (pc' := 92) (L' := #[.val (.int p1), .val (.int p2), .val (.int p3), .val (.int p4), .val (.int p5), .val (.int (2 : Int32)), .val (.int (q0.toInt32)), .val (.int (q1.toInt32)), .val (.int (q2.toInt32)), .val (.ref xs), .val (.int (qi.toInt32)), .val (.ref bb), .unset]) (S' := [(.int (2 : Int32)), (.int (2 : Int32))]) (fun t_ k_ => XS.iconst X3.here hx rfl (hb hby at_91) k_) ?_
      refine GoH.st (T' := T3) (pc' := 95) (L' := #[.val (.int p1), .val (.int p2), .val (.int p3), .val (.int p4), .val (.int p5), .val (.int (2 : Int32)), .val (.int (q0.toInt32)), .val (.int (q1.toInt32)), .val (.int (q2.toInt32)), .val (.ref xs), .val (.int (qi.toInt32)), .val (.ref bb), .unset]) (S' := []) (fun t_ k_ => XS.icmpNo X3.here hx rfl (hb hby at_92) rfl (flt (by decide : ¬ ((2 : Int32) < (2 : Int32)))).1 k_) ?_
      refine GoH.st (T' := T3) (pc' := 97) (L' := #[.val (.int p1), .val (.int p2), .val (.int p3), .val (.int p4), .val (.int p5), .val (.int (2 : Int32)), .val (.int (q0.toInt32)), .val (.int (q1.toInt32)), .val (.int (q2.toInt32)), .val (.ref xs), .val (.int (qi.toInt32)), .val (.ref bb), .unset]) (S' := [(.int (qi.toInt32))]) (fun t_ k_ => XS.iload X3.here hx rfl (hb hby at_95) rfl  k_) ?_
      refine GoH.st (T' := T3) (pc' := 99) (L' := #[.val (.int p1), .val (.int p2), .val (.int p3), .val (.int p4), .val (.int p5), .val (.int (2 : Int32)), .val (.int (q0.toInt32)), .val (.int (q1.toInt32)), .val (.int (q2.toInt32)), .val (.ref xs), .val (.int (qi.toInt32)), .val (.ref bb), .unset]) (S' := [(.int (q1.toInt32)), (.int (qi.toInt32))]) (fun t_ k_ => XS.iload X3.here hx rfl (hb hby at_97) rfl  k_) ?_
      by_cases hc99_9 : (qi.toInt32) = (q1.toInt32)
      · refine GoH.st (T' := T3) (pc' := 115) (L' := #[.val (.int p1), .val (.int p2), .val (.int p3), .val (.int p4), .val (.int p5), .val (.int (2 : Int32)), .val (.int (q0.toInt32)), .val (.int (q1.toInt32)), .val (.int (q2.toInt32)), .val (.ref xs), .val (.int (qi.toInt32)), .val (.ref bb), .unset]) (S' := []) (fun t_ k_ => XS.icmpYes X3.here hx rfl (pc0 := 99) (pc' := 115) rfl (hb hby at_99) rfl (teq hc99_9).1 (by decide) (by decide) k_) ?_
        refine GoH.st (T' := T3) (pc' := 116) (L' := #[.val (.int p1), .val (.int p2), .val (.int p3), .val (.int p4), .val (.int p5), .val (.int (2 : Int32)), .val (.int (q0.toInt32)), .val (.int (q1.toInt32)), .val (.int (q2.toInt32)), .val (.ref xs), .val (.int (qi.toInt32)), .val (.ref bb), .unset]) (S' := [(.int (1 : Int32))]) (fun t_ k_ => XS.iconst X3.here hx rfl (hb hby at_115) k_) ?_
        refine GoH.st (T' := T3) (pc' := 120) (L' := #[.val (.int p1), .val (.int p2), .val (.int p3), .val (.int p4), .val (.int p5), .val (.int (2 : Int32)), .val (.int (q0.toInt32)), .val (.int (q1.toInt32)), .val (.int (q2.toInt32)), .val (.ref xs), .val (.int (qi.toInt32)), .val (.ref bb), .unset]) (S' := [(.int (1 : Int32))]) (fun t_ k_ => XS.goto X3.here hx rfl (pc0 := 116) (pc' := 120) rfl (hb hby at_116) (by decide) (by decide) k_) ?_
        refine GoH.st (T' := T3) (pc' := 122) (L' := #[.val (.int p1), .val (.int p2), .val (.int p3), .val (.int p4), .val (.int p5), .val (.int (2 : Int32)), .val (.int (q0.toInt32)), .val (.int (q1.toInt32)), .val (.int (q2.toInt32)), .val (.ref xs), .val (.int (qi.toInt32)), .val (.ref bb), .val (.int (1 : Int32))]) (S' := []) (fun t_ k_ => XS.istore X3.here hx rfl (hb hby at_120) rfl (l' := #[.val (.int p1), .val (.int p2), .val (.int p3), .val (.int p4), .val (.int p5), .val (.int (2 : Int32)), .val (.int (q0.toInt32)), .val (.int (q1.toInt32)), .val (.int (q2.toInt32)), .val (.ref xs), .val (.int (qi.toInt32)), .val (.ref bb), .val (.int (1 : Int32))]) rfl k_) ?_
        refine GoH.st (T' := T3) (pc' := 124) (L' := #[.val (.int p1), .val (.int p2), .val (.int p3), .val (.int p4), .val (.int p5), .val (.int (2 : Int32)), .val (.int (q0.toInt32)), .val (.int (q1.toInt32)), .val (.int (q2.toInt32)), .val (.ref xs), .val (.int (qi.toInt32)), .val (.ref bb), .val (.int (1 : Int32))]) (S' := [(.ref bb)]) (fun t_ k_ => XS.aload X3.here hx rfl (hb hby at_122) rfl rfl  k_) ?_
        refine GoH.st (T' := T3) (pc' := 126) (L' := #[.val (.int p1), .val (.int p2), .val (.int p3), .val (.int p4), .val (.int p5), .val (.int (2 : Int32)), .val (.int (q0.toInt32)), .val (.int (q1.toInt32)), .val (.int (q2.toInt32)), .val (.ref xs), .val (.int (qi.toInt32)), .val (.ref bb), .val (.int (1 : Int32))]) (S' := [(.int (qi.toInt32)), (.ref bb)]) (fun t_ k_ => XS.iload X3.here hx rfl (hb hby at_124) rfl  k_) ?_
        obtain ⟨cl10, Ar10, -, q10a, q10b, q10c, q10d⟩ := id Vb3
        refine GoH.st (T' := T3) (pc' := 127) (L' := #[.val (.int p1), .val (.int p2), .val (.int p3), .val (.int p4), .val (.int p5), .val (.int (2 : Int32)), .val (.int (q0.toInt32)), .val (.int (q1.toInt32)), .val (.int (q2.toInt32)), .val (.ref xs), .val (.int (qi.toInt32)), .val (.ref bb), .val (.int (1 : Int32))]) (S' := [(.int (MM.getD (qi) 0))]) (fun t_ k_ => X3.baloadBooleans hx (j := (qi.toInt32)) (v := (.int (MM.getD (qi) 0))) (by rw [e3]; exact Ar10.1) (State.isArrayOf_alike hZ.alike Ar10.2.1) Ar10.2.2 (own_inb q10a (N := 128) (by decide) (by omega) (by decide)) (q10c.at (own_inb q10a (N := 128) (by decide) (by omega) (by decide)) (own_atI _ (by omega))) (g := (mkF m 126 #[.val (.int p1), .val (.int p2), .val (.int p3), .val (.int p4), .val (.int p5), .val (.int (2 : Int32)), .val (.int (q0.toInt32)), .val (.int (q1.toInt32)), .val (.int (q2.toInt32)), .val (.ref xs), .val (.int (qi.toInt32)), .val (.ref bb), .val (.int (1 : Int32))] [(.int (qi.toInt32)), (.ref bb)])) rfl rfl (hb hby at_126) t_ k_) ?_
        refine GoH.st (T' := T3) (pc' := 129) (L' := #[.val (.int p1), .val (.int p2), .val (.int p3), .val (.int p4), .val (.int p5), .val (.int (2 : Int32)), .val (.int (q0.toInt32)), .val (.int (q1.toInt32)), .val (.int (q2.toInt32)), .val (.ref xs), .val (.int (qi.toInt32)), .val (.ref bb), .val (.int (1 : Int32))]) (S' := [(.int (1 : Int32)), (.int (MM.getD (qi) 0))]) (fun t_ k_ => XS.iload X3.here hx rfl (hb hby at_127) rfl  k_) ?_
        have hval : MM.getD qi 0 = (1 : Int32) := by
          rw [hMM qi (by omega)]
          have hA : ¬ qi < 33 := by have := (own_ltI (m := 32) (n := qi) (by decide) (by omega)).mp hc73_6; omega
          have hq0e : ¬ qi = q0 := mt (own_inj (by omega) (by omega)).mpr hc86_7
          have hq1e : qi = q1 := (own_inj (by omega) (by omega)).mp hc99_9
          exact if_pos (by omega)
        refine GoH.st (T' := T3) (pc' := 132) (L' := #[.val (.int p1), .val (.int p2), .val (.int p3), .val (.int p4), .val (.int p5), .val (.int (2 : Int32)), .val (.int (q0.toInt32)), .val (.int (q1.toInt32)), .val (.int (q2.toInt32)), .val (.ref xs), .val (.int (qi.toInt32)), .val (.ref bb), .val (.int (1 : Int32))]) (S' := []) (fun t_ k_ => XS.icmpNo X3.here hx rfl (hb hby at_129) rfl (teq (hval : ((MM.getD (qi) 0) = (1 : Int32)))).2 k_) ?_
        refine GoH.st (T' := T3) (pc' := 133) (L' := #[.val (.int p1), .val (.int p2), .val (.int p3), .val (.int p4), .val (.int p5), .val (.int (2 : Int32)), .val (.int (q0.toInt32)), .val (.int (q1.toInt32)), .val (.int (q2.toInt32)), .val (.ref xs), .val (.int (qi.toInt32)), .val (.ref bb), .val (.int (1 : Int32))]) (S' := [(.int (1 : Int32))]) (fun t_ k_ => XS.iconst X3.here hx rfl (hb hby at_132) k_) ?_
        refine GoH.st (T' := T3) (pc' := 137) (L' := #[.val (.int p1), .val (.int p2), .val (.int p3), .val (.int p4), .val (.int p5), .val (.int (2 : Int32)), .val (.int (q0.toInt32)), .val (.int (q1.toInt32)), .val (.int (q2.toInt32)), .val (.ref xs), .val (.int (qi.toInt32)), .val (.ref bb), .val (.int (1 : Int32))]) (S' := [(.int (1 : Int32))]) (fun t_ k_ => XS.goto X3.here hx rfl (pc0 := 133) (pc' := 137) rfl (hb hby at_133) (by decide) (by decide) k_) ?_
        exact GoH.retN X3 hx hlk hret (by simp) (hb hby at_137) (by decide) (by decide) hS hk e3 hs0 hZ (own_EW hw) CR (by rw [e3]; exact ⟨rfl, N3⟩)
      · refine GoH.st (T' := T3) (pc' := 102) (L' := #[.val (.int p1), .val (.int p2), .val (.int p3), .val (.int p4), .val (.int p5), .val (.int (2 : Int32)), .val (.int (q0.toInt32)), .val (.int (q1.toInt32)), .val (.int (q2.toInt32)), .val (.ref xs), .val (.int (qi.toInt32)), .val (.ref bb), .unset]) (S' := []) (fun t_ k_ => XS.icmpNo X3.here hx rfl (hb hby at_99) rfl (feq hc99_9).1 k_) ?_
        refine GoH.st (T' := T3) (pc' := 104) (L' := #[.val (.int p1), .val (.int p2), .val (.int p3), .val (.int p4), .val (.int p5), .val (.int (2 : Int32)), .val (.int (q0.toInt32)), .val (.int (q1.toInt32)), .val (.int (q2.toInt32)), .val (.ref xs), .val (.int (qi.toInt32)), .val (.ref bb), .unset]) (S' := [(.int (2 : Int32))]) (fun t_ k_ => XS.iload X3.here hx rfl (hb hby at_102) rfl  k_) ?_
        refine GoH.st (T' := T3) (pc' := 105) (L' := #[.val (.int p1), .val (.int p2), .val (.int p3), .val (.int p4), .val (.int p5), .val (.int (2 : Int32)), .val (.int (q0.toInt32)), .val (.int (q1.toInt32)), .val (.int (q2.toInt32)), .val (.ref xs), .val (.int (qi.toInt32)), .val (.ref bb), .unset]) (S' := [(.int (3 : Int32)), (.int (2 : Int32))]) (fun t_ k_ => XS.iconst X3.here hx rfl (hb hby at_104) k_) ?_
        refine GoH.st (T' := T3) (pc' := 119) (L' := #[.val (.int p1), .val (.int p2), .val (.int p3), .val (.int p4), .val (.int p5), .val (.int (2 : Int32)), .val (.int (q0.toInt32)), .val (.int (q1.toInt32)), .val (.int (q2.toInt32)), .val (.ref xs), .val (.int (qi.toInt32)), .val (.ref bb), .unset]) (S' := []) (fun t_ k_ => XS.icmpYes X3.here hx rfl (pc0 := 105) (pc' := 119) rfl (hb hby at_105) rfl (tlt (by decide : ((2 : Int32) < (3 : Int32)))).1 (by decide) (by decide) k_) ?_
        refine GoH.st (T' := T3) (pc' := 120) (L' := #[.val (.int p1), .val (.int p2), .val (.int p3), .val (.int p4), .val (.int p5), .val (.int (2 : Int32)), .val (.int (q0.toInt32)), .val (.int (q1.toInt32)), .val (.int (q2.toInt32)), .val (.ref xs), .val (.int (qi.toInt32)), .val (.ref bb), .unset]) (S' := [(.int (0 : Int32))]) (fun t_ k_ => XS.iconst X3.here hx rfl (hb hby at_119) k_) ?_
        refine GoH.st (T' := T3) (pc' := 122) (L' := #[.val (.int p1), .val (.int p2), .val (.int p3), .val (.int p4), .val (.int p5), .val (.int (2 : Int32)), .val (.int (q0.toInt32)), .val (.int (q1.toInt32)), .val (.int (q2.toInt32)), .val (.ref xs), .val (.int (qi.toInt32)), .val (.ref bb), .val (.int (0 : Int32))]) (S' := []) (fun t_ k_ => XS.istore X3.here hx rfl (hb hby at_120) rfl (l' := #[.val (.int p1), .val (.int p2), .val (.int p3), .val (.int p4), .val (.int p5), .val (.int (2 : Int32)), .val (.int (q0.toInt32)), .val (.int (q1.toInt32)), .val (.int (q2.toInt32)), .val (.ref xs), .val (.int (qi.toInt32)), .val (.ref bb), .val (.int (0 : Int32))]) rfl k_) ?_
        refine GoH.st (T' := T3) (pc' := 124) (L' := #[.val (.int p1), .val (.int p2), .val (.int p3), .val (.int p4), .val (.int p5), .val (.int (2 : Int32)), .val (.int (q0.toInt32)), .val (.int (q1.toInt32)), .val (.int (q2.toInt32)), .val (.ref xs), .val (.int (qi.toInt32)), .val (.ref bb), .val (.int (0 : Int32))]) (S' := [(.ref bb)]) (fun t_ k_ => XS.aload X3.here hx rfl (hb hby at_122) rfl rfl  k_) ?_
        refine GoH.st (T' := T3) (pc' := 126) (L' := #[.val (.int p1), .val (.int p2), .val (.int p3), .val (.int p4), .val (.int p5), .val (.int (2 : Int32)), .val (.int (q0.toInt32)), .val (.int (q1.toInt32)), .val (.int (q2.toInt32)), .val (.ref xs), .val (.int (qi.toInt32)), .val (.ref bb), .val (.int (0 : Int32))]) (S' := [(.int (qi.toInt32)), (.ref bb)]) (fun t_ k_ => XS.iload X3.here hx rfl (hb hby at_124) rfl  k_) ?_
        obtain ⟨cl11, Ar11, -, q11a, q11b, q11c, q11d⟩ := id Vb3
        refine GoH.st (T' := T3) (pc' := 127) (L' := #[.val (.int p1), .val (.int p2), .val (.int p3), .val (.int p4), .val (.int p5), .val (.int (2 : Int32)), .val (.int (q0.toInt32)), .val (.int (q1.toInt32)), .val (.int (q2.toInt32)), .val (.ref xs), .val (.int (qi.toInt32)), .val (.ref bb), .val (.int (0 : Int32))]) (S' := [(.int (MM.getD (qi) 0))]) (fun t_ k_ => X3.baloadBooleans hx (j := (qi.toInt32)) (v := (.int (MM.getD (qi) 0))) (by rw [e3]; exact Ar11.1) (State.isArrayOf_alike hZ.alike Ar11.2.1) Ar11.2.2 (own_inb q11a (N := 128) (by decide) (by omega) (by decide)) (q11c.at (own_inb q11a (N := 128) (by decide) (by omega) (by decide)) (own_atI _ (by omega))) (g := (mkF m 126 #[.val (.int p1), .val (.int p2), .val (.int p3), .val (.int p4), .val (.int p5), .val (.int (2 : Int32)), .val (.int (q0.toInt32)), .val (.int (q1.toInt32)), .val (.int (q2.toInt32)), .val (.ref xs), .val (.int (qi.toInt32)), .val (.ref bb), .val (.int (0 : Int32))] [(.int (qi.toInt32)), (.ref bb)])) rfl rfl (hb hby at_126) t_ k_) ?_
        refine GoH.st (T' := T3) (pc' := 129) (L' := #[.val (.int p1), .val (.int p2), .val (.int p3), .val (.int p4), .val (.int p5), .val (.int (2 : Int32)), .val (.int (q0.toInt32)), .val (.int (q1.toInt32)), .val (.int (q2.toInt32)), .val (.ref xs), .val (.int (qi.toInt32)), .val (.ref bb), .val (.int (0 : Int32))]) (S' := [(.int (0 : Int32)), (.int (MM.getD (qi) 0))]) (fun t_ k_ => XS.iload X3.here hx rfl (hb hby at_127) rfl  k_) ?_
        have hval : MM.getD qi 0 = (0 : Int32) := by
          rw [hMM qi (by omega)]
          have hA : ¬ qi < 33 := by have := (own_ltI (m := 32) (n := qi) (by decide) (by omega)).mp hc73_6; omega
          have hq0e : ¬ qi = q0 := mt (own_inj (by omega) (by omega)).mpr hc86_7
          have hq1e : ¬ qi = q1 := mt (own_inj (by omega) (by omega)).mpr hc99_9
          exact if_neg (by omega)
        refine GoH.st (T' := T3) (pc' := 132) (L' := #[.val (.int p1), .val (.int p2), .val (.int p3), .val (.int p4), .val (.int p5), .val (.int (2 : Int32)), .val (.int (q0.toInt32)), .val (.int (q1.toInt32)), .val (.int (q2.toInt32)), .val (.ref xs), .val (.int (qi.toInt32)), .val (.ref bb), .val (.int (0 : Int32))]) (S' := []) (fun t_ k_ => XS.icmpNo X3.here hx rfl (hb hby at_129) rfl (teq (hval : ((MM.getD (qi) 0) = (0 : Int32)))).2 k_) ?_
        refine GoH.st (T' := T3) (pc' := 133) (L' := #[.val (.int p1), .val (.int p2), .val (.int p3), .val (.int p4), .val (.int p5), .val (.int (2 : Int32)), .val (.int (q0.toInt32)), .val (.int (q1.toInt32)), .val (.int (q2.toInt32)), .val (.ref xs), .val (.int (qi.toInt32)), .val (.ref bb), .val (.int (0 : Int32))]) (S' := [(.int (1 : Int32))]) (fun t_ k_ => XS.iconst X3.here hx rfl (hb hby at_132) k_) ?_
        refine GoH.st (T' := T3) (pc' := 137) (L' := #[.val (.int p1), .val (.int p2), .val (.int p3), .val (.int p4), .val (.int p5), .val (.int (2 : Int32)), .val (.int (q0.toInt32)), .val (.int (q1.toInt32)), .val (.int (q2.toInt32)), .val (.ref xs), .val (.int (qi.toInt32)), .val (.ref bb), .val (.int (0 : Int32))]) (S' := [(.int (1 : Int32))]) (fun t_ k_ => XS.goto X3.here hx rfl (pc0 := 133) (pc' := 137) rfl (hb hby at_133) (by decide) (by decide) k_) ?_
        exact GoH.retN X3 hx hlk hret (by simp) (hb hby at_137) (by decide) (by decide) hS hk e3 hs0 hZ (own_EW hw) CR (by rw [e3]; exact ⟨rfl, N3⟩)
  · refine GoH.st (T' := T3) (pc' := 115) (L' := #[.val (.int p1), .val (.int p2), .val (.int p3), .val (.int p4), .val (.int p5), .val (.int (2 : Int32)), .val (.int (q0.toInt32)), .val (.int (q1.toInt32)), .val (.int (q2.toInt32)), .val (.ref xs), .val (.int (qi.toInt32)), .val (.ref bb), .unset]) (S' := []) (fun t_ k_ => XS.icmpYes X3.here hx rfl (pc0 := 73) (pc' := 115) rfl (hb hby at_73) rfl (flt hc73_6).2.2.2 (by decide) (by decide) k_) ?_
    refine GoH.st (T' := T3) (pc' := 116) (L' := #[.val (.int p1), .val (.int p2), .val (.int p3), .val (.int p4), .val (.int p5), .val (.int (2 : Int32)), .val (.int (q0.toInt32)), .val (.int (q1.toInt32)), .val (.int (q2.toInt32)), .val (.ref xs), .val (.int (qi.toInt32)), .val (.ref bb), .unset]) (S' := [(.int (1 : Int32))]) (fun t_ k_ => XS.iconst X3.here hx rfl (hb hby at_115) k_) ?_
    refine GoH.st (T' := T3) (pc' := 120) (L' := #[.val (.int p1), .val (.int p2), .val (.int p3), .val (.int p4), .val (.int p5), .val (.int (2 : Int32)), .val (.int (q0.toInt32)), .val (.int (q1.toInt32)), .val (.int (q2.toInt32)), .val (.ref xs), .val (.int (qi.toInt32)), .val (.ref bb), .unset]) (S' := [(.int (1 : Int32))]) (fun t_ k_ => XS.goto X3.here hx rfl (pc0 := 116) (pc' := 120) rfl (hb hby at_116) (by decide) (by decide) k_) ?_
    refine GoH.st (T' := T3) (pc' := 122) (L' := #[.val (.int p1), .val (.int p2), .val (.int p3), .val (.int p4), .val (.int p5), .val (.int (2 : Int32)), .val (.int (q0.toInt32)), .val (.int (q1.toInt32)), .val (.int (q2.toInt32)), .val (.ref xs), .val (.int (qi.toInt32)), .val (.ref bb), .val (.int (1 : Int32))]) (S' := []) (fun t_ k_ => XS.istore X3.here hx rfl (hb hby at_120) rfl (l' := #[.val (.int p1), .val (.int p2), .val (.int p3), .val (.int p4), .val (.int p5), .val (.int (2 : Int32)), .val (.int (q0.toInt32)), .val (.int (q1.toInt32)), .val (.int (q2.toInt32)), .val (.ref xs), .val (.int (qi.toInt32)), .val (.ref bb), .val (.int (1 : Int32))]) rfl k_) ?_
    refine GoH.st (T' := T3) (pc' := 124) (L' := #[.val (.int p1), .val (.int p2), .val (.int p3), .val (.int p4), .val (.int p5), .val (.int (2 : Int32)), .val (.int (q0.toInt32)), .val (.int (q1.toInt32)), .val (.int (q2.toInt32)), .val (.ref xs), .val (.int (qi.toInt32)), .val (.ref bb), .val (.int (1 : Int32))]) (S' := [(.ref bb)]) (fun t_ k_ => XS.aload X3.here hx rfl (hb hby at_122) rfl rfl  k_) ?_
    refine GoH.st (T' := T3) (pc' := 126) (L' := #[.val (.int p1), .val (.int p2), .val (.int p3), .val (.int p4), .val (.int p5), .val (.int (2 : Int32)), .val (.int (q0.toInt32)), .val (.int (q1.toInt32)), .val (.int (q2.toInt32)), .val (.ref xs), .val (.int (qi.toInt32)), .val (.ref bb), .val (.int (1 : Int32))]) (S' := [(.int (qi.toInt32)), (.ref bb)]) (fun t_ k_ => XS.iload X3.here hx rfl (hb hby at_124) rfl  k_) ?_
    obtain ⟨cl12, Ar12, -, q12a, q12b, q12c, q12d⟩ := id Vb3
    refine GoH.st (T' := T3) (pc' := 127) (L' := #[.val (.int p1), .val (.int p2), .val (.int p3), .val (.int p4), .val (.int p5), .val (.int (2 : Int32)), .val (.int (q0.toInt32)), .val (.int (q1.toInt32)), .val (.int (q2.toInt32)), .val (.ref xs), .val (.int (qi.toInt32)), .val (.ref bb), .val (.int (1 : Int32))]) (S' := [(.int (MM.getD (qi) 0))]) (fun t_ k_ => X3.baloadBooleans hx (j := (qi.toInt32)) (v := (.int (MM.getD (qi) 0))) (by rw [e3]; exact Ar12.1) (State.isArrayOf_alike hZ.alike Ar12.2.1) Ar12.2.2 (own_inb q12a (N := 128) (by decide) (by omega) (by decide)) (q12c.at (own_inb q12a (N := 128) (by decide) (by omega) (by decide)) (own_atI _ (by omega))) (g := (mkF m 126 #[.val (.int p1), .val (.int p2), .val (.int p3), .val (.int p4), .val (.int p5), .val (.int (2 : Int32)), .val (.int (q0.toInt32)), .val (.int (q1.toInt32)), .val (.int (q2.toInt32)), .val (.ref xs), .val (.int (qi.toInt32)), .val (.ref bb), .val (.int (1 : Int32))] [(.int (qi.toInt32)), (.ref bb)])) rfl rfl (hb hby at_126) t_ k_) ?_
    refine GoH.st (T' := T3) (pc' := 129) (L' := #[.val (.int p1), .val (.int p2), .val (.int p3), .val (.int p4), .val (.int p5), .val (.int (2 : Int32)), .val (.int (q0.toInt32)), .val (.int (q1.toInt32)), .val (.int (q2.toInt32)), .val (.ref xs), .val (.int (qi.toInt32)), .val (.ref bb), .val (.int (1 : Int32))]) (S' := [(.int (1 : Int32)), (.int (MM.getD (qi) 0))]) (fun t_ k_ => XS.iload X3.here hx rfl (hb hby at_127) rfl  k_) ?_
    have hval : MM.getD qi 0 = (1 : Int32) := by
      rw [hMM qi (by omega)]
      have hA : qi < 33 := by have := mt (own_ltI (m := 32) (n := qi) (by decide) (by omega)).mpr hc73_6; omega
      exact if_pos (by omega)
    refine GoH.st (T' := T3) (pc' := 132) (L' := #[.val (.int p1), .val (.int p2), .val (.int p3), .val (.int p4), .val (.int p5), .val (.int (2 : Int32)), .val (.int (q0.toInt32)), .val (.int (q1.toInt32)), .val (.int (q2.toInt32)), .val (.ref xs), .val (.int (qi.toInt32)), .val (.ref bb), .val (.int (1 : Int32))]) (S' := []) (fun t_ k_ => XS.icmpNo X3.here hx rfl (hb hby at_129) rfl (teq (hval : ((MM.getD (qi) 0) = (1 : Int32)))).2 k_) ?_
    refine GoH.st (T' := T3) (pc' := 133) (L' := #[.val (.int p1), .val (.int p2), .val (.int p3), .val (.int p4), .val (.int p5), .val (.int (2 : Int32)), .val (.int (q0.toInt32)), .val (.int (q1.toInt32)), .val (.int (q2.toInt32)), .val (.ref xs), .val (.int (qi.toInt32)), .val (.ref bb), .val (.int (1 : Int32))]) (S' := [(.int (1 : Int32))]) (fun t_ k_ => XS.iconst X3.here hx rfl (hb hby at_132) k_) ?_
    refine GoH.st (T' := T3) (pc' := 137) (L' := #[.val (.int p1), .val (.int p2), .val (.int p3), .val (.int p4), .val (.int p5), .val (.int (2 : Int32)), .val (.int (q0.toInt32)), .val (.int (q1.toInt32)), .val (.int (q2.toInt32)), .val (.ref xs), .val (.int (qi.toInt32)), .val (.ref bb), .val (.int (1 : Int32))]) (S' := [(.int (1 : Int32))]) (fun t_ k_ => XS.goto X3.here hx rfl (pc0 := 133) (pc' := 137) rfl (hb hby at_133) (by decide) (by decide) k_) ?_
    exact GoH.retN X3 hx hlk hret (by simp) (hb hby at_137) (by decide) (by decide) hS hk e3 hs0 hZ (own_EW hw) CR (by rw [e3]; exact ⟨rfl, N3⟩)
theorem d1_59 : decode method_2_code 59 = .ok (.new 7, 3) := by decide +kernel
theorem d1_62 : decode method_2_code 62 = .ok (.dup, 1) := by decide +kernel
theorem d1_63 : decode method_2_code 63 = .ok (.iconst 3, 1) := by decide +kernel
theorem d1_64 : decode method_2_code 64 = .ok (.newarray .char, 2) := by decide +kernel
theorem d1_66 : decode method_2_code 66 = .ok (.dup, 1) := by decide +kernel
theorem d1_67 : decode method_2_code 67 = .ok (.iconst 0, 1) := by decide +kernel
theorem d1_68 : decode method_2_code 68 = .ok (.iload_n 1, 1) := by decide +kernel
theorem d1_69 : decode method_2_code 69 = .ok (.castore, 1) := by decide +kernel
theorem d1_70 : decode method_2_code 70 = .ok (.dup, 1) := by decide +kernel
theorem d1_71 : decode method_2_code 71 = .ok (.iconst 1, 1) := by decide +kernel
theorem d1_72 : decode method_2_code 72 = .ok (.iload_n 2, 1) := by decide +kernel
theorem d1_73 : decode method_2_code 73 = .ok (.castore, 1) := by decide +kernel
theorem d1_74 : decode method_2_code 74 = .ok (.dup, 1) := by decide +kernel
theorem d1_75 : decode method_2_code 75 = .ok (.iconst 2, 1) := by decide +kernel
theorem d1_76 : decode method_2_code 76 = .ok (.iload_n 3, 1) := by decide +kernel
theorem d1_77 : decode method_2_code 77 = .ok (.castore, 1) := by decide +kernel
theorem d1_78 : decode method_2_code 78 = .ok (.invokespecial 9, 3) := by decide +kernel
theorem d1_81 : decode method_2_code 81 = .ok (.areturn, 1) := by decide +kernel
def Qmk3 (Z : State) (q0 : Nat) (q1 : Nat) (q2 : Nat) (h0 : Heap) (n0 : Nat) (v : Option Value) (h : Heap) (L : List Loc) : Prop := ∃ (x t : Addr) (kt : ClassId), v = some (.ref x) ∧ Fr n0 L ∧ Keep h0 h [] ∧ n0 ≤ x ∧ Exa Z h x "java/lang/String" ∧ Fld Z h x "java/lang/String" "coder" "B" (.int (0 : Int32)) ∧ Fld Z h x "java/lang/String" "value" "[B" (.ref t) ∧ Arv Z h t kt .byte (3 : Int32) [(.int ((nar .char (q0.toInt32)).toInt8.toInt32)), (.int ((nar .char (q1.toInt32)).toInt8.toInt32)), (.int ((nar .char (q2.toInt32)).toInt8.toInt32))] (.int (0 : Int32))
def roommk3 : Room := { frames := 4, cells := 3, slots := 10, locals := 66 }
set_option maxRecDepth 65536 in
set_option maxHeartbeats 40000000 in
theorem rmmk3 (l : Launch) (Z : State) (a0 : Array Value) (hw : ∀ d ∈ tables_1, d.before a0 Z = true) (ws : List Jvm.Cond) (q0 : Nat) (q1 : Nat) (q2 : Nat) (gC : Int32) (h0 : Heap) (n0 : Nat) (Z0 : n0 ≤ h0.size) (SC : Sta Z Z.heap "java/lang/String" "COMPACT_STRINGS" "Z" (.int gC)) (PC : ¬ (gC = (0 : Int32))) (O0 : Old Z n0 h0) (hq0 : q0 < 128) (hq1 : q1 < 128) (hq2 : q2 < 128) :
    MetFree l (⟨"com/example/traversal/traversal/graph/IrisControlsSpaceAndPinLaw", "make", "(ICCC)Ljava/lang/String;"⟩ : MethodName) (head1 (Jvm.Cond.code (⟨"com/example/traversal/traversal/graph/IrisControlsSpaceAndPinLaw", "make", "(ICCC)Ljava/lang/String;"⟩ : MethodName) method_2_code 4 (some (.object "java/lang/String")) :: ws) roommk3) (fun aa_ U_ => aa_ = #[(.int (3 : Int32)), (.int (q0.toInt32)), (.int (q1.toInt32)), (.int (q2.toInt32))] ∧ Z.Warmed39 U_.vm ∧ U_.heap = h0 ∧ CHv Z EL U_.vm h0) (fun _ _ _ _ _ => True) (fun _ U_ o_ W_ => ∃ v_ L_, o_ = .returned v_ ∧ (Qmk3 Z q0 q1 q2 h0 n0) v_ W_.heap L_ ∧ CHr Z EL U_.vm U_.heap W_.vm W_.heap ∧ ReturnedEndW U_ o_ W_ L_ roommk3.cells roommk3.slots) := by
  refine own_metH (Q := (Qmk3 Z q0 q1 q2 h0 n0)) (L0 := #[.val (.int (3 : Int32)), .val (.int (q0.toInt32)), .val (.int (q1.toInt32)), .val (.int (q2.toInt32))]) (plainFor_of_name pn_3) (fun m => by first | (simp [entryFrame, mkF, argsToLocals, Value.category]; done) | rfl) ?_
  intro p e s m below meth c T0 X0 hx hby hml hown hnm hret hlk hZ e0 hs0 CR hS hk
  have N0 := Fr.nil n0
  have K0 := Keep.refl h0 []
  refine GoH.st (T' := T0) (pc' := 1) (L' := #[.val (.int (3 : Int32)), .val (.int (q0.toInt32)), .val (.int (q1.toInt32)), .val (.int (q2.toInt32))]) (S' := [(.int (3 : Int32))]) (fun t_ k_ => XS.iloadN X0.here hx rfl (hb hby d1_0) rfl  k_) ?_
  refine GoH.st (T' := T0) (pc' := 15) (L' := #[.val (.int (3 : Int32)), .val (.int (q0.toInt32)), .val (.int (q1.toInt32)), .val (.int (q2.toInt32))]) (S' := []) (fun t_ k_ => XS.ifYes X0.here hx rfl (pc0 := 1) (pc' := 15) rfl (hb hby d1_1) rfl ((if0 _ _).trans (feq (by decide : ¬ ((3 : Int32) = (0 : Int32)))).2) (by decide) (by decide) k_) ?_
  refine GoH.st (T' := T0) (pc' := 16) (L' := #[.val (.int (3 : Int32)), .val (.int (q0.toInt32)), .val (.int (q1.toInt32)), .val (.int (q2.toInt32))]) (S' := [(.int (3 : Int32))]) (fun t_ k_ => XS.iloadN X0.here hx rfl (hb hby d1_15) rfl  k_) ?_
  refine GoH.st (T' := T0) (pc' := 17) (L' := #[.val (.int (3 : Int32)), .val (.int (q0.toInt32)), .val (.int (q1.toInt32)), .val (.int (q2.toInt32))]) (S' := [(.int (1 : Int32)), (.int (3 : Int32))]) (fun t_ k_ => XS.iconst X0.here hx rfl (hb hby d1_16) k_) ?_
  refine GoH.st (T' := T0) (pc' := 35) (L' := #[.val (.int (3 : Int32)), .val (.int (q0.toInt32)), .val (.int (q1.toInt32)), .val (.int (q2.toInt32))]) (S' := []) (fun t_ k_ => XS.icmpYes X0.here hx rfl (pc0 := 17) (pc' := 35) rfl (hb hby d1_17) rfl (feq (by decide : ¬ ((3 : Int32) = (1 : Int32)))).2 (by decide) (by decide) k_) ?_
  refine GoH.st (T' := T0) (pc' := 36) (L' := #[.val (.int (3 : Int32)), .val (.int (q0.toInt32)), .val (.int (q1.toInt32)), .val (.int (q2.toInt32))]) (S' := [(.int (3 : Int32))]) (fun t_ k_ => XS.iloadN X0.here hx rfl (hb hby d1_35) rfl  k_) ?_
  refine GoH.st (T' := T0) (pc' := 37) (L' := #[.val (.int (3 : Int32)), .val (.int (q0.toInt32)), .val (.int (q1.toInt32)), .val (.int (q2.toInt32))]) (S' := [(.int (2 : Int32)), (.int (3 : Int32))]) (fun t_ k_ => XS.iconst X0.here hx rfl (hb hby d1_36) k_) ?_
  refine GoH.st (T' := T0) (pc' := 59) (L' := #[.val (.int (3 : Int32)), .val (.int (q0.toInt32)), .val (.int (q1.toInt32)), .val (.int (q2.toInt32))]) (S' := []) (fun t_ k_ => XS.icmpYes X0.here hx rfl (pc0 := 37) (pc' := 59) rfl (hb hby d1_37) rfl (feq (by decide : ¬ ((3 : Int32) = (2 : Int32)))).2 (by decide) (by decide) k_) ?_
  obtain ⟨T1, h1, X1, e1, E1, A1, D1, U1, st1⟩ := newO X0 hx hZ hown (hw _ (List.mem_of_getElem? (i := 4) rfl)) (hw _ (List.mem_of_getElem? (i := 5) rfl)) (hw _ (List.mem_of_getElem? (i := 6) rfl)) e0 (g := (mkF m 59 #[.val (.int (3 : Int32)), .val (.int (q0.toInt32)), .val (.int (q1.toInt32)), .val (.int (q2.toInt32))] [])) rfl (hb hby d1_59) (by decide) (by decide)
  obtain ⟨b1, g1⟩ : ∃ z, z = h0.size := ⟨_, rfl⟩
  rw [← g1] at A1 D1 U1 st1
  have g_b1 : n0 ≤ b1 := Nat.le_trans Z0 (Nat.le_of_eq g1.symm)
  have sz_b1 : h0.size ≤ b1 := Nat.le_trans K0.1 (Nat.le_of_eq g1.symm)
  have S_b1 : Safe Z EL s.vm h1 b1 := Safe.ext E1 CR.1 (Safe.new (Nat.le_of_eq g1.symm))
  replace CR := CR.trans (CHr.ext E1 CR.1)
  replace hk := Nat.le_trans hk E1.1
  replace Z0 := Nat.le_trans Z0 E1.1
  replace K0 := K0.ext E1
  replace O0 := O0.ext E1
  have E_b1 := A1
  have F_b1_coder : Fld Z h1 b1 "java/lang/String" "coder" "B" (.int (0 : Int32)) := D1 (Or.inr (hw _ (List.mem_of_getElem? (i := 31) rfl))) (ty := .byte) (by decide)
  have F_b1_value : Fld Z h1 b1 "java/lang/String" "value" "[B" .null := D1 (Or.inr (hw _ (List.mem_of_getElem? (i := 33) rfl))) (ty := (.array .byte)) (by decide)
  refine GoH.st (T' := T1) (pc' := 62) (L' := #[.val (.int (3 : Int32)), .val (.int (q0.toInt32)), .val (.int (q1.toInt32)), .val (.int (q2.toInt32))]) (S' := [(.ref b1)]) st1 ?_
  refine GoH.st (T' := T1) (pc' := 63) (L' := #[.val (.int (3 : Int32)), .val (.int (q0.toInt32)), .val (.int (q1.toInt32)), .val (.int (q2.toInt32))]) (S' := [(.ref b1), (.ref b1)]) (fun t_ k_ => XS.dup X1.here hx rfl (hb hby d1_62) rfl rfl k_) ?_
  refine GoH.st (T' := T1) (pc' := 64) (L' := #[.val (.int (3 : Int32)), .val (.int (q0.toInt32)), .val (.int (q1.toInt32)), .val (.int (q2.toInt32))]) (S' := [(.int (3 : Int32)), (.ref b1), (.ref b1)]) (fun t_ k_ => XS.iconst X1.here hx rfl (hb hby d1_63) k_) ?_
  obtain ⟨T2, h2, k2, X2, e2, E2, A2, st2⟩ := newP X1 hx hZ (hw _ (List.mem_of_getElem? (i := 7) rfl)) e1 (g := (mkF m 64 #[.val (.int (3 : Int32)), .val (.int (q0.toInt32)), .val (.int (q1.toInt32)), .val (.int (q2.toInt32))] [(.int (3 : Int32)), (.ref b1), (.ref b1)])) rfl (hb hby d1_64) rfl (by decide) (cap := 3) (by decide) (by decide) (by decide) (by decide)
  obtain ⟨b2, g2⟩ : ∃ z, z = h1.size := ⟨_, rfl⟩
  rw [← g2] at A2 st2
  have ne_b1_b2 : b1 ≠ b2 := Nat.ne_of_lt (Nat.lt_of_lt_of_le E_b1.lt (Nat.le_of_eq g2.symm))
  have g_b2 : n0 ≤ b2 := Nat.le_trans Z0 (Nat.le_of_eq g2.symm)
  have sz_b2 : h0.size ≤ b2 := Nat.le_trans K0.1 (Nat.le_of_eq g2.symm)
  replace S_b1 := Safe.ext E2 CR.1 S_b1
  replace CR := CR.trans (CHr.ext E2 CR.1)
  replace hk := Nat.le_trans hk E2.1
  replace Z0 := Nat.le_trans Z0 E2.1
  replace K0 := K0.ext E2
  replace O0 := O0.ext E2
  replace E_b1 := E_b1.ext E2
  replace F_b1_coder := F_b1_coder.ext E2
  replace F_b1_value := F_b1_value.ext E2
  have V_b2 : Arv Z h2 b2 k2 .char (3 : Int32) [(.int (0 : Int32)), (.int (0 : Int32)), (.int (0 : Int32))] (.int (0 : Int32)) := (Arv.new A2 (by decide)).pad (pad_rep [] (.int (0 : Int32)) 3)
  refine GoH.st (T' := T2) (pc' := 66) (L' := #[.val (.int (3 : Int32)), .val (.int (q0.toInt32)), .val (.int (q1.toInt32)), .val (.int (q2.toInt32))]) (S' := [(.ref b2), (.ref b1), (.ref b1)]) st2 ?_
  refine GoH.st (T' := T2) (pc' := 67) (L' := #[.val (.int (3 : Int32)), .val (.int (q0.toInt32)), .val (.int (q1.toInt32)), .val (.int (q2.toInt32))]) (S' := [(.ref b2), (.ref b2), (.ref b1), (.ref b1)]) (fun t_ k_ => XS.dup X2.here hx rfl (hb hby d1_66) rfl rfl k_) ?_
  refine GoH.st (T' := T2) (pc' := 68) (L' := #[.val (.int (3 : Int32)), .val (.int (q0.toInt32)), .val (.int (q1.toInt32)), .val (.int (q2.toInt32))]) (S' := [(.int (0 : Int32)), (.ref b2), (.ref b2), (.ref b1), (.ref b1)]) (fun t_ k_ => XS.iconst X2.here hx rfl (hb hby d1_67) k_) ?_
  refine GoH.st (T' := T2) (pc' := 69) (L' := #[.val (.int (3 : Int32)), .val (.int (q0.toInt32)), .val (.int (q1.toInt32)), .val (.int (q2.toInt32))]) (S' := [(.int (q0.toInt32)), (.int (0 : Int32)), (.ref b2), (.ref b2), (.ref b1), (.ref b1)]) (fun t_ k_ => XS.iloadN X2.here hx rfl (hb hby d1_68) rfl  k_) ?_
  have Sq3 : Safe Z EL s.vm h2 b2 := (own_safeV hZ.alike V_b2 (by decide))
  obtain ⟨cl3, Ar3, q31, q32, q33, q34, q35⟩ := V_b2
  obtain ⟨T3, h3, X3, e3, W3, st3⟩ := stC X2 hx hZ e2 Ar3 (j := (0 : Int32)) (inb_of q32 ⟨by decide, by decide⟩) (g := (mkF m 69 #[.val (.int (3 : Int32)), .val (.int (q0.toInt32)), .val (.int (q1.toInt32)), .val (.int (q2.toInt32))] [(.int (q0.toInt32)), (.int (0 : Int32)), (.ref b2), (.ref b2), (.ref b1), (.ref b1)])) rfl rfl (hb hby d1_69)
  replace V_b2 := Arv.set Ar3 q31 q32 q33 q34 q35 (fits_nar_char _) W3 0 rfl (Nat.le_of_ble_eq_true rfl)
  have V_b2 : Arv Z h3 b2 k2 .char (3 : Int32) [(.int (nar .char (q0.toInt32))), (.int (0 : Int32)), (.int (0 : Int32))] (.int (0 : Int32)) := V_b2
  replace S_b1 := Safe.wr W3 Sq3 CR.1 S_b1
  replace CR := CR.trans (CHr.wr W3 Sq3 CR.1)
  replace hk := Nat.le_trans hk (Keep.of_wr W3).1
  replace Z0 := Nat.le_trans Z0 (Keep.of_wr W3).1
  replace K0 := K0.wr W3 (Or.inr sz_b2)
  replace O0 := O0.wr W3 g_b2
  replace E_b1 := E_b1.wr W3
  replace F_b1_coder := F_b1_coder.other W3 (Or.inl ne_b1_b2)
  replace F_b1_value := F_b1_value.other W3 (Or.inl ne_b1_b2)
  have N3 := Fr.snoc X3 N0 g_b2
  refine GoH.st (T' := T3) (pc' := 70) (L' := #[.val (.int (3 : Int32)), .val (.int (q0.toInt32)), .val (.int (q1.toInt32)), .val (.int (q2.toInt32))]) (S' := [(.ref b2), (.ref b1), (.ref b1)]) st3 ?_
  refine GoH.st (T' := T3) (pc' := 71) (L' := #[.val (.int (3 : Int32)), .val (.int (q0.toInt32)), .val (.int (q1.toInt32)), .val (.int (q2.toInt32))]) (S' := [(.ref b2), (.ref b2), (.ref b1), (.ref b1)]) (fun t_ k_ => XS.dup X3.here hx rfl (hb hby d1_70) rfl rfl k_) ?_
  refine GoH.st (T' := T3) (pc' := 72) (L' := #[.val (.int (3 : Int32)), .val (.int (q0.toInt32)), .val (.int (q1.toInt32)), .val (.int (q2.toInt32))]) (S' := [(.int (1 : Int32)), (.ref b2), (.ref b2), (.ref b1), (.ref b1)]) (fun t_ k_ => XS.iconst X3.here hx rfl (hb hby d1_71) k_) ?_
  refine GoH.st (T' := T3) (pc' := 73) (L' := #[.val (.int (3 : Int32)), .val (.int (q0.toInt32)), .val (.int (q1.toInt32)), .val (.int (q2.toInt32))]) (S' := [(.int (q1.toInt32)), (.int (1 : Int32)), (.ref b2), (.ref b2), (.ref b1), (.ref b1)]) (fun t_ k_ => XS.iloadN X3.here hx rfl (hb hby d1_72) rfl  k_) ?_
  have Sq5 : Safe Z EL s.vm h3 b2 := (own_safeV hZ.alike V_b2 (by decide))
  obtain ⟨cl5, Ar5, q51, q52, q53, q54, q55⟩ := V_b2
  obtain ⟨T5, h5, X5, e5, W5, st5⟩ := stC X3 hx hZ e3 Ar5 (j := (1 : Int32)) (inb_of q52 ⟨by decide, by decide⟩) (g := (mkF m 73 #[.val (.int (3 : Int32)), .val (.int (q0.toInt32)), .val (.int (q1.toInt32)), .val (.int (q2.toInt32))] [(.int (q1.toInt32)), (.int (1 : Int32)), (.ref b2), (.ref b2), (.ref b1), (.ref b1)])) rfl rfl (hb hby d1_73)
  replace V_b2 := Arv.set Ar5 q51 q52 q53 q54 q55 (fits_nar_char _) W5 1 rfl (Nat.le_of_ble_eq_true rfl)
  have V_b2 : Arv Z h5 b2 k2 .char (3 : Int32) [(.int (nar .char (q0.toInt32))), (.int (nar .char (q1.toInt32))), (.int (0 : Int32))] (.int (0 : Int32)) := V_b2
  replace S_b1 := Safe.wr W5 Sq5 CR.1 S_b1
  replace CR := CR.trans (CHr.wr W5 Sq5 CR.1)
  replace hk := Nat.le_trans hk (Keep.of_wr W5).1
  replace Z0 := Nat.le_trans Z0 (Keep.of_wr W5).1
  replace K0 := K0.wr W5 (Or.inr sz_b2)
  replace O0 := O0.wr W5 g_b2
  replace E_b1 := E_b1.wr W5
  replace F_b1_coder := F_b1_coder.other W5 (Or.inl ne_b1_b2)
  replace F_b1_value := F_b1_value.other W5 (Or.inl ne_b1_b2)
  have N5 := Fr.snoc X5 N3 g_b2
  refine GoH.st (T' := T5) (pc' := 74) (L' := #[.val (.int (3 : Int32)), .val (.int (q0.toInt32)), .val (.int (q1.toInt32)), .val (.int (q2.toInt32))]) (S' := [(.ref b2), (.ref b1), (.ref b1)]) st5 ?_
  refine GoH.st (T' := T5) (pc' := 75) (L' := #[.val (.int (3 : Int32)), .val (.int (q0.toInt32)), .val (.int (q1.toInt32)), .val (.int (q2.toInt32))]) (S' := [(.ref b2), (.ref b2), (.ref b1), (.ref b1)]) (fun t_ k_ => XS.dup X5.here hx rfl (hb hby d1_74) rfl rfl k_) ?_
  refine GoH.st (T' := T5) (pc' := 76) (L' := #[.val (.int (3 : Int32)), .val (.int (q0.toInt32)), .val (.int (q1.toInt32)), .val (.int (q2.toInt32))]) (S' := [(.int (2 : Int32)), (.ref b2), (.ref b2), (.ref b1), (.ref b1)]) (fun t_ k_ => XS.iconst X5.here hx rfl (hb hby d1_75) k_) ?_
  refine GoH.st (T' := T5) (pc' := 77) (L' := #[.val (.int (3 : Int32)), .val (.int (q0.toInt32)), .val (.int (q1.toInt32)), .val (.int (q2.toInt32))]) (S' := [(.int (q2.toInt32)), (.int (2 : Int32)), (.ref b2), (.ref b2), (.ref b1), (.ref b1)]) (fun t_ k_ => XS.iloadN X5.here hx rfl (hb hby d1_76) rfl  k_) ?_
  have Sq7 : Safe Z EL s.vm h5 b2 := (own_safeV hZ.alike V_b2 (by decide))
  obtain ⟨cl7, Ar7, q71, q72, q73, q74, q75⟩ := V_b2
  obtain ⟨T7, h7, X7, e7, W7, st7⟩ := stC X5 hx hZ e5 Ar7 (j := (2 : Int32)) (inb_of q72 ⟨by decide, by decide⟩) (g := (mkF m 77 #[.val (.int (3 : Int32)), .val (.int (q0.toInt32)), .val (.int (q1.toInt32)), .val (.int (q2.toInt32))] [(.int (q2.toInt32)), (.int (2 : Int32)), (.ref b2), (.ref b2), (.ref b1), (.ref b1)])) rfl rfl (hb hby d1_77)
  replace V_b2 := Arv.set Ar7 q71 q72 q73 q74 q75 (fits_nar_char _) W7 2 rfl (Nat.le_of_ble_eq_true rfl)
  have V_b2 : Arv Z h7 b2 k2 .char (3 : Int32) [(.int (nar .char (q0.toInt32))), (.int (nar .char (q1.toInt32))), (.int (nar .char (q2.toInt32)))] (.int (0 : Int32)) := V_b2
  replace S_b1 := Safe.wr W7 Sq7 CR.1 S_b1
  replace CR := CR.trans (CHr.wr W7 Sq7 CR.1)
  replace hk := Nat.le_trans hk (Keep.of_wr W7).1
  replace Z0 := Nat.le_trans Z0 (Keep.of_wr W7).1
  replace K0 := K0.wr W7 (Or.inr sz_b2)
  replace O0 := O0.wr W7 g_b2
  replace E_b1 := E_b1.wr W7
  replace F_b1_coder := F_b1_coder.other W7 (Or.inl ne_b1_b2)
  replace F_b1_value := F_b1_value.other W7 (Or.inl ne_b1_b2)
  have N7 := Fr.snoc X7 N5 g_b2
  refine GoH.st (T' := T7) (pc' := 78) (L' := #[.val (.int (3 : Int32)), .val (.int (q0.toInt32)), .val (.int (q1.toInt32)), .val (.int (q2.toInt32))]) (S' := [(.ref b2), (.ref b1), (.ref b1)]) st7 ?_
  have hws9 : ∀ d ∈ StrChars.Road.words, d.before a0 Z = true := fun d hd => hw d ((by decide +kernel : ∀ d ∈ StrChars.Road.words, d ∈ tables_1) d hd)
  have hlat9 : ∀ c ∈ [(nar .char (q0.toInt32)), (nar .char (q1.toInt32)), (nar .char (q2.toInt32))], ¬ c < 0 ∧ ¬ (255 : Int32) < c := by
    intro c hc
    simp only [List.mem_cons, List.not_mem_nil, or_false] at hc
    rcases hc with rfl | rfl | rfl
    · exact own_lat (by omega)
    · exact own_lat (by omega)
    · exact own_lat (by omega)
  obtain ⟨_, _, ⟨T9, L9, k9, n9⟩, -, X9, ⟨Lc9, hQ9, l9, y9, z9⟩, st9⟩ := X7.specialBack hx (y := (⟨"java/lang/String", "<init>", "([C)V"⟩ : MethodName)) rfl hown (mvT hZ (hw _ (List.mem_of_getElem? (i := 8) rfl))) (mvT hZ (hw _ (List.mem_of_getElem? (i := 9) rfl))) (mvT hZ (hw _ (List.mem_of_getElem? (i := 10) rfl))) (by decide) (StrChars.Road.backV (W := 1) hZ hws9 (kI := 4) (hw _ (List.mem_of_getElem? (i := 5) rfl)) (cs := [(nar .char (q0.toInt32)), (nar .char (q1.toInt32)), (nar .char (q2.toInt32))]) (bs := [((nar .char (q0.toInt32))).toInt8.toInt32, ((nar .char (q1.toInt32))).toInt8.toInt32, ((nar .char (q2.toInt32))).toInt8.toInt32]) (n := 3) g_b1 Z0 E_b1 F_b1_value F_b1_coder V_b2 (SC.ext O0.2) PC rfl rfl (by decide) (by decide) hlat9 rfl (by decide) (by decide)) (g := (mkF m 78 #[.val (.int (3 : Int32)), .val (.int (q0.toInt32)), .val (.int (q1.toInt32)), .val (.int (q2.toInt32))] [(.ref b2), (.ref b1), (.ref b1)])) rfl (by rw [hml]; rfl) (Steps.refl _) (a := b1) (argsL := [(.ref b2)]) (rest := [(.ref b1)]) (lenOf pd_5 rfl) rfl (by show 2 * 0 + _ ≤ _; exact Nat.le_of_eq rfl) (hb hby d1_78) (fun _ _ => ⟨rfl, e7, (by decide : 2 + 1 ≤ _), (by decide : 7 + 3 ≤ _)⟩)
  dsimp only [Pt.U, Pt.locs, Pt.cells, Pt.slots] at X9 l9 y9 z9 st9 hQ9
  subst l9 y9 z9
  obtain ⟨rfl, N9q, K9, Ex9, Co9, t9, kb9, ta9, tb9, tc9, Va9, Ay9⟩ := hQ9
  have N9 := Fr.app N7 N9q
  have ne_b1_t9 : b1 ≠ t9 := Nat.ne_of_lt (Nat.lt_of_lt_of_le E_b1.lt tb9)
  have ne_b2_t9 : b2 ≠ t9 := Nat.ne_of_lt (Nat.lt_of_lt_of_le V_b2.lt tb9)
  have sz_t9 : h0.size ≤ t9 := Nat.le_trans K0.1 tb9
  obtain ⟨h9, e9⟩ : ∃ z, T9.heap = z := ⟨_, rfl⟩
  rw [e9] at K9 Ex9 Co9 Va9 Ay9
  have Sk10 : ∀ x ∈ [b1], Safe Z EL s.vm h7 x := (allS S_b1 all0)
  replace S_b1 := Safe.keep K9 Sk10 CR.1 S_b1
  replace CR := CR.trans (CHr.keep K9 Sk10 CR.1)
  replace hk := Nat.le_trans hk K9.1
  replace Z0 := Nat.le_trans Z0 K9.1
  replace K0 := K0.trans K9 (allS (Or.inr sz_b1) all0)
  replace O0 := O0.keep K9 (allS g_b1 all0)
  replace E_b1 := E_b1.keep K9
  replace V_b2 := V_b2.keep K9 (ninS (Ne.symm ne_b1_b2) nin0)
  have Ay9 : Arv Z h9 t9 kb9 .byte (3 : Int32) [(.int (((nar .char (q0.toInt32))).toInt8.toInt32)), (.int (((nar .char (q1.toInt32))).toInt8.toInt32)), (.int (((nar .char (q2.toInt32))).toInt8.toInt32))] (.int (0 : Int32)) := Ay9
  refine GoH.tr (T' := T9) (pc' := 81) (L' := #[.val (.int (3 : Int32)), .val (.int (q0.toInt32)), .val (.int (q1.toInt32)), .val (.int (q2.toInt32))]) (S' := [(.ref b1)]) st9 ?_
  exact GoH.retO X9 hx hlk hret rfl (by simp [FieldType.isReference, Value.isRef]) (hb hby d1_81) (by decide) (by decide) hS hk e9 hs0 hZ (own_EW hw) CR (by rw [e9]; exact ⟨b1, t9, _, rfl, N9, K0, g_b1, E_b1, Co9, Va9, Ay9⟩)

def Q0_3 (Z : State)  (h0 : Heap) (n0 : Nat) (v : Option Value) (h : Heap) (L : List Loc) : Prop := v = some (.int 1) ∧ Fr n0 L
set_option maxRecDepth 65536 in
set_option maxHeartbeats 40000000 in
theorem rm0_3 (l : Launch) (Z : State) (a0 : Array Value) (hw : ∀ d ∈ tables_1, d.before a0 Z = true) (ws : List Jvm.Cond) (p1 : Int32) (p2 : Int32) (p3 : Int32) (p4 : Int32) (p5 : Int32) (q0 q1 q2 qi : Nat) (gC : Int32) (h0 : Heap) (n0 : Nat) (Z0 : n0 ≤ h0.size) (SC : Sta Z Z.heap "java/lang/String" "COMPACT_STRINGS" "Z" (.int gC)) (PC : ¬ (gC = (0 : Int32))) (O0 : Old Z n0 h0) (hq0 : q0 < 128) (hq1 : q1 < 128) (hq2 : q2 < 128) (hqi : qi < 128) (hk3 : p4 &&& (3 : Int32) = (3 : Int32)) (e0q : (p1 &&& (127 : Int32)).toUInt32.toUInt16.toUInt32.toInt32 = q0.toInt32) (e1q : (p2 &&& (127 : Int32)).toUInt32.toUInt16.toUInt32.toInt32 = q1.toInt32) (e2q : (p3 &&& (127 : Int32)).toUInt32.toUInt16.toUInt32.toInt32 = q2.toInt32) (eiq : p5 &&& (127 : Int32) = qi.toInt32) :
    MetFree l x (head1 (Jvm.Cond.code x code maxLocals ret :: ws) room_1) (fun aa_ U_ => aa_ = #[(.int p1), (.int p2), (.int p3), (.int p4), (.int p5)] ∧ Z.Warmed39 U_.vm ∧ U_.heap = h0 ∧ CHv Z EL U_.vm h0) (fun _ _ _ _ _ => True) (fun _ U_ o_ W_ => ∃ v_ L_, o_ = .returned v_ ∧ (Q0_3 Z  h0 n0) v_ W_.heap L_ ∧ CHr Z EL U_.vm U_.heap W_.vm W_.heap ∧ ReturnedEndW U_ o_ W_ L_ room_1.cells room_1.slots) := by
  refine own_metH (Q := (Q0_3 Z  h0 n0)) (L0 := #[.val (.int p1), .val (.int p2), .val (.int p3), .val (.int p4), .val (.int p5), .unset, .unset, .unset, .unset, .unset, .unset, .unset, .unset]) (plainFor_of_name pn_3) (fun m => by first | (simp [entryFrame, mkF, argsToLocals, Value.category, maxLocals]; done) | rfl) ?_
  intro p e s m below meth c T0 X0 hx hby hml hown hnm hret hlk hZ e0 hs0 CR hS hk
  have N0 := Fr.nil n0
  refine GoH.st (T' := T0) (pc' := 1) (L' := #[.val (.int p1), .val (.int p2), .val (.int p3), .val (.int p4), .val (.int p5), .unset, .unset, .unset, .unset, .unset, .unset, .unset, .unset]) (S' := [(.int p4)]) (fun t_ k_ => XS.iloadN X0.here hx rfl (hb hby at_0) rfl  k_) ?_
  refine GoH.st (T' := T0) (pc' := 2) (L' := #[.val (.int p1), .val (.int p2), .val (.int p3), .val (.int p4), .val (.int p5), .unset, .unset, .unset, .unset, .unset, .unset, .unset, .unset]) (S' := [(.int (3 : Int32)), (.int p4)]) (fun t_ k_ => XS.iconst X0.here hx rfl (hb hby at_1) k_) ?_
  refine GoH.st (T' := T0) (pc' := 3) (L' := #[.val (.int p1), .val (.int p2), .val (.int p3), .val (.int p4), .val (.int p5), .unset, .unset, .unset, .unset, .unset, .unset, .unset, .unset]) (S' := [(.int (p4 &&& (3 : Int32)))]) (fun t_ k_ => XS.iand X0.here hx rfl (hb hby at_2) rfl k_) ?_
  rw [hk3]
  refine GoH.st (T' := T0) (pc' := 5) (L' := #[.val (.int p1), .val (.int p2), .val (.int p3), .val (.int p4), .val (.int p5), .val (.int (3 : Int32)), .unset, .unset, .unset, .unset, .unset, .unset, .unset]) (S' := []) (fun t_ k_ => XS.istore X0.here hx rfl (hb hby at_3) rfl (l' := #[.val (.int p1), .val (.int p2), .val (.int p3), .val (.int p4), .val (.int p5), .val (.int (3 : Int32)), .unset, .unset, .unset, .unset, .unset, .unset, .unset]) rfl k_) ?_
  refine GoH.st (T' := T0) (pc' := 6) (L' := #[.val (.int p1), .val (.int p2), .val (.int p3), .val (.int p4), .val (.int p5), .val (.int (3 : Int32)), .unset, .unset, .unset, .unset, .unset, .unset, .unset]) (S' := [(.int p1)]) (fun t_ k_ => XS.iloadN X0.here hx rfl (hb hby at_5) rfl  k_) ?_
  refine GoH.st (T' := T0) (pc' := 8) (L' := #[.val (.int p1), .val (.int p2), .val (.int p3), .val (.int p4), .val (.int p5), .val (.int (3 : Int32)), .unset, .unset, .unset, .unset, .unset, .unset, .unset]) (S' := [(.int (127 : Int32)), (.int p1)]) (fun t_ k_ => XS.bipush X0.here hx rfl (hb hby at_6) k_) ?_
  refine GoH.st (T' := T0) (pc' := 9) (L' := #[.val (.int p1), .val (.int p2), .val (.int p3), .val (.int p4), .val (.int p5), .val (.int (3 : Int32)), .unset, .unset, .unset, .unset, .unset, .unset, .unset]) (S' := [(.int (p1 &&& (127 : Int32)))]) (fun t_ k_ => XS.iand X0.here hx rfl (hb hby at_8) rfl k_) ?_
  refine GoH.st (T' := T0) (pc' := 10) (L' := #[.val (.int p1), .val (.int p2), .val (.int p3), .val (.int p4), .val (.int p5), .val (.int (3 : Int32)), .unset, .unset, .unset, .unset, .unset, .unset, .unset]) (S' := [(.int ((p1 &&& (127 : Int32)).toUInt32.toUInt16.toUInt32.toInt32))]) (fun t_ k_ => XS.i2c X0.here hx rfl (hb hby at_9) rfl k_) ?_
  rw [e0q]
  refine GoH.st (T' := T0) (pc' := 12) (L' := #[.val (.int p1), .val (.int p2), .val (.int p3), .val (.int p4), .val (.int p5), .val (.int (3 : Int32)), .val (.int (q0.toInt32)), .unset, .unset, .unset, .unset, .unset, .unset]) (S' := []) (fun t_ k_ => XS.istore X0.here hx rfl (hb hby at_10) rfl (l' := #[.val (.int p1), .val (.int p2), .val (.int p3), .val (.int p4), .val (.int p5), .val (.int (3 : Int32)), .val (.int (q0.toInt32)), .unset, .unset, .unset, .unset, .unset, .unset]) rfl k_) ?_
  refine GoH.st (T' := T0) (pc' := 13) (L' := #[.val (.int p1), .val (.int p2), .val (.int p3), .val (.int p4), .val (.int p5), .val (.int (3 : Int32)), .val (.int (q0.toInt32)), .unset, .unset, .unset, .unset, .unset, .unset]) (S' := [(.int p2)]) (fun t_ k_ => XS.iloadN X0.here hx rfl (hb hby at_12) rfl  k_) ?_
  refine GoH.st (T' := T0) (pc' := 15) (L' := #[.val (.int p1), .val (.int p2), .val (.int p3), .val (.int p4), .val (.int p5), .val (.int (3 : Int32)), .val (.int (q0.toInt32)), .unset, .unset, .unset, .unset, .unset, .unset]) (S' := [(.int (127 : Int32)), (.int p2)]) (fun t_ k_ => XS.bipush X0.here hx rfl (hb hby at_13) k_) ?_
  refine GoH.st (T' := T0) (pc' := 16) (L' := #[.val (.int p1), .val (.int p2), .val (.int p3), .val (.int p4), .val (.int p5), .val (.int (3 : Int32)), .val (.int (q0.toInt32)), .unset, .unset, .unset, .unset, .unset, .unset]) (S' := [(.int (p2 &&& (127 : Int32)))]) (fun t_ k_ => XS.iand X0.here hx rfl (hb hby at_15) rfl k_) ?_
  refine GoH.st (T' := T0) (pc' := 17) (L' := #[.val (.int p1), .val (.int p2), .val (.int p3), .val (.int p4), .val (.int p5), .val (.int (3 : Int32)), .val (.int (q0.toInt32)), .unset, .unset, .unset, .unset, .unset, .unset]) (S' := [(.int ((p2 &&& (127 : Int32)).toUInt32.toUInt16.toUInt32.toInt32))]) (fun t_ k_ => XS.i2c X0.here hx rfl (hb hby at_16) rfl k_) ?_
  rw [e1q]
  refine GoH.st (T' := T0) (pc' := 19) (L' := #[.val (.int p1), .val (.int p2), .val (.int p3), .val (.int p4), .val (.int p5), .val (.int (3 : Int32)), .val (.int (q0.toInt32)), .val (.int (q1.toInt32)), .unset, .unset, .unset, .unset, .unset]) (S' := []) (fun t_ k_ => XS.istore X0.here hx rfl (hb hby at_17) rfl (l' := #[.val (.int p1), .val (.int p2), .val (.int p3), .val (.int p4), .val (.int p5), .val (.int (3 : Int32)), .val (.int (q0.toInt32)), .val (.int (q1.toInt32)), .unset, .unset, .unset, .unset, .unset]) rfl k_) ?_
  refine GoH.st (T' := T0) (pc' := 20) (L' := #[.val (.int p1), .val (.int p2), .val (.int p3), .val (.int p4), .val (.int p5), .val (.int (3 : Int32)), .val (.int (q0.toInt32)), .val (.int (q1.toInt32)), .unset, .unset, .unset, .unset, .unset]) (S' := [(.int p3)]) (fun t_ k_ => XS.iloadN X0.here hx rfl (hb hby at_19) rfl  k_) ?_
  refine GoH.st (T' := T0) (pc' := 22) (L' := #[.val (.int p1), .val (.int p2), .val (.int p3), .val (.int p4), .val (.int p5), .val (.int (3 : Int32)), .val (.int (q0.toInt32)), .val (.int (q1.toInt32)), .unset, .unset, .unset, .unset, .unset]) (S' := [(.int (127 : Int32)), (.int p3)]) (fun t_ k_ => XS.bipush X0.here hx rfl (hb hby at_20) k_) ?_
  refine GoH.st (T' := T0) (pc' := 23) (L' := #[.val (.int p1), .val (.int p2), .val (.int p3), .val (.int p4), .val (.int p5), .val (.int (3 : Int32)), .val (.int (q0.toInt32)), .val (.int (q1.toInt32)), .unset, .unset, .unset, .unset, .unset]) (S' := [(.int (p3 &&& (127 : Int32)))]) (fun t_ k_ => XS.iand X0.here hx rfl (hb hby at_22) rfl k_) ?_
  refine GoH.st (T' := T0) (pc' := 24) (L' := #[.val (.int p1), .val (.int p2), .val (.int p3), .val (.int p4), .val (.int p5), .val (.int (3 : Int32)), .val (.int (q0.toInt32)), .val (.int (q1.toInt32)), .unset, .unset, .unset, .unset, .unset]) (S' := [(.int ((p3 &&& (127 : Int32)).toUInt32.toUInt16.toUInt32.toInt32))]) (fun t_ k_ => XS.i2c X0.here hx rfl (hb hby at_23) rfl k_) ?_
  rw [e2q]
  refine GoH.st (T' := T0) (pc' := 26) (L' := #[.val (.int p1), .val (.int p2), .val (.int p3), .val (.int p4), .val (.int p5), .val (.int (3 : Int32)), .val (.int (q0.toInt32)), .val (.int (q1.toInt32)), .val (.int (q2.toInt32)), .unset, .unset, .unset, .unset]) (S' := []) (fun t_ k_ => XS.istore X0.here hx rfl (hb hby at_24) rfl (l' := #[.val (.int p1), .val (.int p2), .val (.int p3), .val (.int p4), .val (.int p5), .val (.int (3 : Int32)), .val (.int (q0.toInt32)), .val (.int (q1.toInt32)), .val (.int (q2.toInt32)), .unset, .unset, .unset, .unset]) rfl k_) ?_
  refine GoH.st (T' := T0) (pc' := 28) (L' := #[.val (.int p1), .val (.int p2), .val (.int p3), .val (.int p4), .val (.int p5), .val (.int (3 : Int32)), .val (.int (q0.toInt32)), .val (.int (q1.toInt32)), .val (.int (q2.toInt32)), .unset, .unset, .unset, .unset]) (S' := [(.int (3 : Int32))]) (fun t_ k_ => XS.iload X0.here hx rfl (hb hby at_26) rfl  k_) ?_
  refine GoH.st (T' := T0) (pc' := 30) (L' := #[.val (.int p1), .val (.int p2), .val (.int p3), .val (.int p4), .val (.int p5), .val (.int (3 : Int32)), .val (.int (q0.toInt32)), .val (.int (q1.toInt32)), .val (.int (q2.toInt32)), .unset, .unset, .unset, .unset]) (S' := [(.int (q0.toInt32)), (.int (3 : Int32))]) (fun t_ k_ => XS.iload X0.here hx rfl (hb hby at_28) rfl  k_) ?_
  refine GoH.st (T' := T0) (pc' := 32) (L' := #[.val (.int p1), .val (.int p2), .val (.int p3), .val (.int p4), .val (.int p5), .val (.int (3 : Int32)), .val (.int (q0.toInt32)), .val (.int (q1.toInt32)), .val (.int (q2.toInt32)), .unset, .unset, .unset, .unset]) (S' := [(.int (q1.toInt32)), (.int (q0.toInt32)), (.int (3 : Int32))]) (fun t_ k_ => XS.iload X0.here hx rfl (hb hby at_30) rfl  k_) ?_
  refine GoH.st (T' := T0) (pc' := 34) (L' := #[.val (.int p1), .val (.int p2), .val (.int p3), .val (.int p4), .val (.int p5), .val (.int (3 : Int32)), .val (.int (q0.toInt32)), .val (.int (q1.toInt32)), .val (.int (q2.toInt32)), .unset, .unset, .unset, .unset]) (S' := [(.int (q2.toInt32)), (.int (q1.toInt32)), (.int (q0.toInt32)), (.int (3 : Int32))]) (fun t_ k_ => XS.iload X0.here hx rfl (hb hby at_32) rfl  k_) ?_
  obtain ⟨_, _, ⟨T1, L1, k1, n1⟩, -, X1, hS1, hg1, ⟨Lc1, hQ1, l1, y1, z1, CR1⟩, st1⟩ := callSS X0 hx (y := (⟨"com/example/traversal/traversal/graph/IrisControlsSpaceAndPinLaw", "make", "(ICCC)Ljava/lang/String;"⟩ : MethodName)) hown (mvT hZ (hw _ (List.mem_of_getElem? (i := 0) rfl))) (mvT hZ (hw _ (List.mem_of_getElem? (i := 1) rfl))) (mvT hZ (hw _ (List.mem_of_getElem? (i := 2) rfl))) (mvT hZ (hw _ (List.mem_of_getElem? (i := 3) rfl))) (by decide) (backOfSH (W := 0) (rmmk3 l Z a0 hw [] q0 q1 q2 gC h0 n0 Z0 SC PC O0 hq0 hq1 hq2) hZ (hw _ (List.mem_of_getElem? (i := 3) rfl)) (hw _ (List.mem_of_getElem? (i := 2) rfl)) (by decide) (by decide) (own_EW hw) CR.1) (g := (mkF m 34 #[.val (.int p1), .val (.int p2), .val (.int p3), .val (.int p4), .val (.int p5), .val (.int (3 : Int32)), .val (.int (q0.toInt32)), .val (.int (q1.toInt32)), .val (.int (q2.toInt32)), .unset, .unset, .unset, .unset] [(.int (q2.toInt32)), (.int (q1.toInt32)), (.int (q0.toInt32)), (.int (3 : Int32))])) rfl (by rw [hml]; rfl) (argsL := [(.int (3 : Int32)), (.int (q0.toInt32)), (.int (q1.toInt32)), (.int (q2.toInt32))]) (rest := []) (lenOf pd_6 rfl) rfl (by show 2 * 0 + _ ≤ _; exact Nat.le_of_eq rfl) (hb hby at_34) (fun _ _ => ⟨rfl, e0, (by decide : 0 + 3 ≤ _), (by decide : 0 + 10 ≤ _)⟩)
  dsimp only [Pt.U, Pt.locs, Pt.cells, Pt.slots] at X1 l1 y1 z1 st1 hQ1 hS1 hg1 CR1
  subst l1 y1 z1
  replace hS := foldS hS (T := T0) (by rw [e0]; exact hk) hS1 hg1
  replace hk := Nat.le_refl T1.heap.size
  replace hZ : Z.Warmed39 (s.setVm T1.vm).vm := State.Warmed39.trans (t := s.setVm s.vm) hZ hS1.1
  replace hown : (s.setVm T1.vm).vm.findClass "com/example/traversal/traversal/graph/IrisControlsSpaceAndPinLaw" = some m.cls := by rw [show (s.setVm T1.vm).vm = T1.vm from rfl, hS1.1.alike.findClass]; exact hown
  obtain ⟨xs, ts, kt1, rfl, N1q, K1, g_xs, E_xs, Fc_xs, Fv_xs, V_ts⟩ := hQ1
  have N1 := Fr.app N0 N1q
  obtain ⟨h1, e1⟩ : ∃ z, T1.heap = z := ⟨_, rfl⟩
  rw [e1] at K1 E_xs Fc_xs Fv_xs V_ts CR1
  replace CR := CR.trans CR1
  replace Z0 := Nat.le_trans Z0 K1.1
  replace O0 := O0.keep K1 all0
  replace hk : T1.heap.size ≤ h1.size := Nat.le_of_eq (congrArg Array.size e1)
  refine GoH.tr (T' := T1) (pc' := 37) (L' := #[.val (.int p1), .val (.int p2), .val (.int p3), .val (.int p4), .val (.int p5), .val (.int (3 : Int32)), .val (.int (q0.toInt32)), .val (.int (q1.toInt32)), .val (.int (q2.toInt32)), .unset, .unset, .unset, .unset]) (S' := [(.ref xs)]) st1 ?_
  refine GoH.st (T' := T1) (pc' := 39) (L' := #[.val (.int p1), .val (.int p2), .val (.int p3), .val (.int p4), .val (.int p5), .val (.int (3 : Int32)), .val (.int (q0.toInt32)), .val (.int (q1.toInt32)), .val (.int (q2.toInt32)), .val (.ref xs), .unset, .unset, .unset]) (S' := []) (fun t_ k_ => XS.astore X1.here hx rfl (hb hby at_37) rfl rfl (l' := #[.val (.int p1), .val (.int p2), .val (.int p3), .val (.int p4), .val (.int p5), .val (.int (3 : Int32)), .val (.int (q0.toInt32)), .val (.int (q1.toInt32)), .val (.int (q2.toInt32)), .val (.ref xs), .unset, .unset, .unset]) rfl k_) ?_
  refine GoH.st (T' := T1) (pc' := 41) (L' := #[.val (.int p1), .val (.int p2), .val (.int p3), .val (.int p4), .val (.int p5), .val (.int (3 : Int32)), .val (.int (q0.toInt32)), .val (.int (q1.toInt32)), .val (.int (q2.toInt32)), .val (.ref xs), .unset, .unset, .unset]) (S' := [(.int p5)]) (fun t_ k_ => XS.iload X1.here hx rfl (hb hby at_39) rfl  k_) ?_
  refine GoH.st (T' := T1) (pc' := 43) (L' := #[.val (.int p1), .val (.int p2), .val (.int p3), .val (.int p4), .val (.int p5), .val (.int (3 : Int32)), .val (.int (q0.toInt32)), .val (.int (q1.toInt32)), .val (.int (q2.toInt32)), .val (.ref xs), .unset, .unset, .unset]) (S' := [(.int (127 : Int32)), (.int p5)]) (fun t_ k_ => XS.bipush X1.here hx rfl (hb hby at_41) k_) ?_
  refine GoH.st (T' := T1) (pc' := 44) (L' := #[.val (.int p1), .val (.int p2), .val (.int p3), .val (.int p4), .val (.int p5), .val (.int (3 : Int32)), .val (.int (q0.toInt32)), .val (.int (q1.toInt32)), .val (.int (q2.toInt32)), .val (.ref xs), .unset, .unset, .unset]) (S' := [(.int (p5 &&& (127 : Int32)))]) (fun t_ k_ => XS.iand X1.here hx rfl (hb hby at_43) rfl k_) ?_
  rw [eiq]
  refine GoH.st (T' := T1) (pc' := 46) (L' := #[.val (.int p1), .val (.int p2), .val (.int p3), .val (.int p4), .val (.int p5), .val (.int (3 : Int32)), .val (.int (q0.toInt32)), .val (.int (q1.toInt32)), .val (.int (q2.toInt32)), .val (.ref xs), .val (.int (qi.toInt32)), .unset, .unset]) (S' := []) (fun t_ k_ => XS.istore X1.here hx rfl (hb hby at_44) rfl (l' := #[.val (.int p1), .val (.int p2), .val (.int p3), .val (.int p4), .val (.int p5), .val (.int (3 : Int32)), .val (.int (q0.toInt32)), .val (.int (q1.toInt32)), .val (.int (q2.toInt32)), .val (.ref xs), .val (.int (qi.toInt32)), .unset, .unset]) rfl k_) ?_
  refine GoH.st (T' := T1) (pc' := 48) (L' := #[.val (.int p1), .val (.int p2), .val (.int p3), .val (.int p4), .val (.int p5), .val (.int (3 : Int32)), .val (.int (q0.toInt32)), .val (.int (q1.toInt32)), .val (.int (q2.toInt32)), .val (.ref xs), .val (.int (qi.toInt32)), .unset, .unset]) (S' := [(.ref xs)]) (fun t_ k_ => XS.aload X1.here hx rfl (hb hby at_46) rfl rfl  k_) ?_
  obtain ⟨_, _, ⟨T3, L3, k3, n3⟩, -, X3, ⟨Lc3, hQ3, l3, y3, z3⟩, st3⟩ := Jvm.LawKit.callS X1 hx (y := (⟨"com/example/traversal/traversal/graph/Iris", "controlsSpaceAnd", "(Ljava/lang/String;)[Z"⟩ : MethodName)) hown (mvT hZ (hw _ (List.mem_of_getElem? (i := 34) rfl))) (mvT hZ (hw _ (List.mem_of_getElem? (i := 35) rfl))) (mvT hZ (hw _ (List.mem_of_getElem? (i := 36) rfl))) (mvT hZ (hw _ (List.mem_of_getElem? (i := 37) rfl))) (by decide) (backOf (W := 0) (rmcsa3 l Z a0 hw [] xs ts _ gC q0 q1 q2 h1 n0 Z0 SC PC O0 E_xs Fc_xs Fv_xs V_ts hq0 hq1 hq2) hZ (hw _ (List.mem_of_getElem? (i := 37) rfl)) (hw _ (List.mem_of_getElem? (i := 36) rfl)) (by decide) (by decide)) (g := (mkF m 48 #[.val (.int p1), .val (.int p2), .val (.int p3), .val (.int p4), .val (.int p5), .val (.int (3 : Int32)), .val (.int (q0.toInt32)), .val (.int (q1.toInt32)), .val (.int (q2.toInt32)), .val (.ref xs), .val (.int (qi.toInt32)), .unset, .unset] [(.ref xs)])) rfl (by rw [hml]; rfl) (argsL := [(.ref xs)]) (rest := []) (lenOf pd_7 rfl) rfl (by show 2 * 0 + _ ≤ _; exact Nat.le_of_eq rfl) (hb hby at_48) (fun _ _ => ⟨rfl, e1, (by decide : 3 + 2 ≤ _), (by decide : 10 + 131 ≤ _)⟩)
  dsimp only [Pt.U, Pt.locs, Pt.cells, Pt.slots] at X3 l3 y3 z3 st3 hQ3
  subst l3 y3 z3
  obtain ⟨bb, kb3, MM, rfl, N3q, K3, Vb3, hMM⟩ := hQ3
  have N3 := Fr.app N1 N3q
  obtain ⟨h3, e3⟩ : ∃ z, T3.heap = z := ⟨_, rfl⟩
  rw [e3] at K3 Vb3
  have Sk4 : ∀ x ∈ [], Safe Z EL T1.vm h1 x := all0
  replace CR := CR.trans (CHr.keep K3 Sk4 CR.1)
  replace hk := Nat.le_trans hk K3.1
  replace Z0 := Nat.le_trans Z0 K3.1
  replace O0 := O0.keep K3 all0
  replace E_xs := E_xs.keep K3
  replace Fc_xs := Fc_xs.keep K3 nin0
  replace Fv_xs := Fv_xs.keep K3 nin0
  replace V_ts := V_ts.keep K3 nin0
  refine GoH.st (T' := T3) (pc' := 51) (L' := #[.val (.int p1), .val (.int p2), .val (.int p3), .val (.int p4), .val (.int p5), .val (.int (3 : Int32)), .val (.int (q0.toInt32)), .val (.int (q1.toInt32)), .val (.int (q2.toInt32)), .val (.ref xs), .val (.int (qi.toInt32)), .unset, .unset]) (S' := [(.ref bb)]) st3 ?_
  refine GoH.st (T' := T3) (pc' := 53) (L' := #[.val (.int p1), .val (.int p2), .val (.int p3), .val (.int p4), .val (.int p5), .val (.int (3 : Int32)), .val (.int (q0.toInt32)), .val (.int (q1.toInt32)), .val (.int (q2.toInt32)), .val (.ref xs), .val (.int (qi.toInt32)), .val (.ref bb), .unset]) (S' := []) (fun t_ k_ => XS.astore X3.here hx rfl (hb hby at_51) rfl rfl (l' := #[.val (.int p1), .val (.int p2), .val (.int p3), .val (.int p4), .val (.int p5), .val (.int (3 : Int32)), .val (.int (q0.toInt32)), .val (.int (q1.toInt32)), .val (.int (q2.toInt32)), .val (.ref xs), .val (.int (qi.toInt32)), .val (.ref bb), .unset]) rfl k_) ?_
  refine GoH.st (T' := T3) (pc' := 55) (L' := #[.val (.int p1), .val (.int p2), .val (.int p3), .val (.int p4), .val (.int p5), .val (.int (3 : Int32)), .val (.int (q0.toInt32)), .val (.int (q1.toInt32)), .val (.int (q2.toInt32)), .val (.ref xs), .val (.int (qi.toInt32)), .val (.ref bb), .unset]) (S' := [(.ref bb)]) (fun t_ k_ => XS.aload X3.here hx rfl (hb hby at_53) rfl rfl  k_) ?_
  refine GoH.st (T' := T3) (pc' := 58) (L' := #[.val (.int p1), .val (.int p2), .val (.int p3), .val (.int p4), .val (.int p5), .val (.int (3 : Int32)), .val (.int (q0.toInt32)), .val (.int (q1.toInt32)), .val (.int (q2.toInt32)), .val (.ref xs), .val (.int (qi.toInt32)), .val (.ref bb), .unset]) (S' := []) (fun t_ k_ => XS.ifnullNo X3.here hx rfl (hb hby at_55) rfl k_) ?_
  refine GoH.st (T' := T3) (pc' := 60) (L' := #[.val (.int p1), .val (.int p2), .val (.int p3), .val (.int p4), .val (.int p5), .val (.int (3 : Int32)), .val (.int (q0.toInt32)), .val (.int (q1.toInt32)), .val (.int (q2.toInt32)), .val (.ref xs), .val (.int (qi.toInt32)), .val (.ref bb), .unset]) (S' := [(.ref bb)]) (fun t_ k_ => XS.aload X3.here hx rfl (hb hby at_58) rfl rfl  k_) ?_
  obtain ⟨cl5, Ar5, -, q5a, q5b, -, -⟩ := id Vb3
  refine GoH.st (T' := T3) (pc' := 61) (L' := #[.val (.int p1), .val (.int p2), .val (.int p3), .val (.int p4), .val (.int p5), .val (.int (3 : Int32)), .val (.int (q0.toInt32)), .val (.int (q1.toInt32)), .val (.int (q2.toInt32)), .val (.ref xs), .val (.int (qi.toInt32)), .val (.ref bb), .unset]) (S' := [(.int (128 : Int32))]) (fun t_ k_ => own_len X3 hx hZ e3 Ar5 q5a q5b (g := (mkF m 60 #[.val (.int p1), .val (.int p2), .val (.int p3), .val (.int p4), .val (.int p5), .val (.int (3 : Int32)), .val (.int (q0.toInt32)), .val (.int (q1.toInt32)), .val (.int (q2.toInt32)), .val (.ref xs), .val (.int (qi.toInt32)), .val (.ref bb), .unset] [(.ref bb)])) rfl rfl (hb hby at_60) t_ k_) ?_
  refine GoH.st (T' := T3) (pc' := 64) (L' := #[.val (.int p1), .val (.int p2), .val (.int p3), .val (.int p4), .val (.int p5), .val (.int (3 : Int32)), .val (.int (q0.toInt32)), .val (.int (q1.toInt32)), .val (.int (q2.toInt32)), .val (.ref xs), .val (.int (qi.toInt32)), .val (.ref bb), .unset]) (S' := [(.int (128 : Int32)), (.int (128 : Int32))]) (fun t_ k_ => XS.sipush X3.here hx rfl (hb hby at_61) k_) ?_
  refine GoH.st (T' := T3) (pc' := 69) (L' := #[.val (.int p1), .val (.int p2), .val (.int p3), .val (.int p4), .val (.int p5), .val (.int (3 : Int32)), .val (.int (q0.toInt32)), .val (.int (q1.toInt32)), .val (.int (q2.toInt32)), .val (.ref xs), .val (.int (qi.toInt32)), .val (.ref bb), .unset]) (S' := []) (fun t_ k_ => XS.icmpYes X3.here hx rfl (pc0 := 64) (pc' := 69) rfl (hb hby at_64) rfl (teq (by decide : ((128 : Int32) = (128 : Int32)))).1 (by decide) (by decide) k_) ?_
  refine GoH.st (T' := T3) (pc' := 71) (L' := #[.val (.int p1), .val (.int p2), .val (.int p3), .val (.int p4), .val (.int p5), .val (.int (3 : Int32)), .val (.int (q0.toInt32)), .val (.int (q1.toInt32)), .val (.int (q2.toInt32)), .val (.ref xs), .val (.int (qi.toInt32)), .val (.ref bb), .unset]) (S' := [(.int (qi.toInt32))]) (fun t_ k_ => XS.iload X3.here hx rfl (hb hby at_69) rfl  k_) ?_
  refine GoH.st (T' := T3) (pc' := 73) (L' := #[.val (.int p1), .val (.int p2), .val (.int p3), .val (.int p4), .val (.int p5), .val (.int (3 : Int32)), .val (.int (q0.toInt32)), .val (.int (q1.toInt32)), .val (.int (q2.toInt32)), .val (.ref xs), .val (.int (qi.toInt32)), .val (.ref bb), .unset]) (S' := [(.int (32 : Int32)), (.int (qi.toInt32))]) (fun t_ k_ => XS.bipush X3.here hx rfl (hb hby at_71) k_) ?_
  by_cases hc73_6 : (32 : Int32) < (qi.toInt32)
  · refine GoH.st (T' := T3) (pc' := 76) (L' := #[.val (.int p1), .val (.int p2), .val (.int p3), .val (.int p4), .val (.int p5), .val (.int (3 : Int32)), .val (.int (q0.toInt32)), .val (.int (q1.toInt32)), .val (.int (q2.toInt32)), .val (.ref xs), .val (.int (qi.toInt32)), .val (.ref bb), .unset]) (S' := []) (fun t_ k_ => XS.icmpNo X3.here hx rfl (hb hby at_73) rfl (tlt hc73_6).2.2.2 k_) ?_
    refine GoH.st (T' := T3) (pc' := 78) (L' := #[.val (.int p1), .val (.int p2), .val (.int p3), .val (.int p4), .val (.int p5), .val (.int (3 : Int32)), .val (.int (q0.toInt32)), .val (.int (q1.toInt32)), .val (.int (q2.toInt32)), .val (.ref xs), .val (.int (qi.toInt32)), .val (.ref bb), .unset]) (S' := [(.int (3 : Int32))]) (fun t_ k_ => XS.iload X3.here hx rfl (hb hby at_76) rfl  k_) ?_
    refine GoH.st (T' := T3) (pc' := 79) (L' := #[.val (.int p1), .val (.int p2), .val (.int p3), .val (.int p4), .val (.int p5), .val (.int (3 : Int32)), .val (.int (q0.toInt32)), .val (.int (q1.toInt32)), .val (.int (q2.toInt32)), .val (.ref xs), .val (.int (qi.toInt32)), .val (.ref bb), .unset]) (S' := [(.int (1 : Int32)), (.int (3 : Int32))]) (fun t_ k_ => XS.iconst X3.here hx rfl (hb hby at_78) k_) ?_
    refine GoH.st (T' := T3) (pc' := 82) (L' := #[.val (.int p1), .val (.int p2), .val (.int p3), .val (.int p4), .val (.int p5), .val (.int (3 : Int32)), .val (.int (q0.toInt32)), .val (.int (q1.toInt32)), .val (.int (q2.toInt32)), .val (.ref xs), .val (.int (qi.toInt32)), .val (.ref bb), .unset]) (S' := []) (fun t_ k_ => XS.icmpNo X3.here hx rfl (hb hby at_79) rfl (flt (by decide : ¬ ((3 : Int32) < (1 : Int32)))).1 k_) ?_
    refine GoH.st (T' := T3) (pc' := 84) (L' := #[.val (.int p1), .val (.int p2), .val (.int p3), .val (.int p4), .val (.int p5), .val (.int (3 : Int32)), .val (.int (q0.toInt32)), .val (.int (q1.toInt32)), .val (.int (q2.toInt32)), .val (.ref xs), .val (.int (qi.toInt32)), .val (.ref bb), .unset]) (S' := [(.int (qi.toInt32))]) (fun t_ k_ => XS.iload X3.here hx rfl (hb hby at_82) rfl  k_) ?_
    refine GoH.st (T' := T3) (pc' := 86) (L' := #[.val (.int p1), .val (.int p2), .val (.int p3), .val (.int p4), .val (.int p5), .val (.int (3 : Int32)), .val (.int (q0.toInt32)), .val (.int (q1.toInt32)), .val (.int (q2.toInt32)), .val (.ref xs), .val (.int (qi.toInt32)), .val (.ref bb), .unset]) (S' := [(.int (q0.toInt32)), (.int (qi.toInt32))]) (fun t_ k_ => XS.iload X3.here hx rfl (hb hby at_84) rfl  k_) ?_
    by_cases hc86_7 : (qi.toInt32) = (q0.toInt32)
    · refine GoH.st (T' := T3) (pc' := 115) (L' := #[.val (.int p1), .val (.int p2), .val (.int p3), .val (.int p4), .val (.int p5), .val (.int (3 : Int32)), .val (.int (q0.toInt32)), .val (.int (q1.toInt32)), .val (.int (q2.toInt32)), .val (.ref xs), .val (.int (qi.toInt32)), .val (.ref bb), .unset]) (S' := []) (fun t_ k_ => XS.icmpYes X3.here hx rfl (pc0 := 86) (pc' := 115) rfl (hb hby at_86) rfl (teq hc86_7).1 (by decide) (by decide) k_) ?_
      refine GoH.st (T' := T3) (pc' := 116) (L' := #[.val (.int p1), .val (.int p2), .val (.int p3), .val (.int p4), .val (.int p5), .val (.int (3 : Int32)), .val (.int (q0.toInt32)), .val (.int (q1.toInt32)), .val (.int (q2.toInt32)), .val (.ref xs), .val (.int (qi.toInt32)), .val (.ref bb), .unset]) (S' := [(.int (1 : Int32))]) (fun t_ k_ => XS.iconst X3.here hx rfl (hb hby at_115) k_) ?_
      refine GoH.st (T' := T3) (pc' := 120) (L' := #[.val (.int p1), .val (.int p2), .val (.int p3), .val (.int p4), .val (.int p5), .val (.int (3 : Int32)), .val (.int (q0.toInt32)), .val (.int (q1.toInt32)), .val (.int (q2.toInt32)), .val (.ref xs), .val (.int (qi.toInt32)), .val (.ref bb), .unset]) (S' := [(.int (1 : Int32))]) (fun t_ k_ => XS.goto X3.here hx rfl (pc0 := 116) (pc' := 120) rfl (hb hby at_116) (by decide) (by decide) k_) ?_
      refine GoH.st (T' := T3) (pc' := 122) (L' := #[.val (.int p1), .val (.int p2), .val (.int p3), .val (.int p4), .val (.int p5), .val (.int (3 : Int32)), .val (.int (q0.toInt32)), .val (.int (q1.toInt32)), .val (.int (q2.toInt32)), .val (.ref xs), .val (.int (qi.toInt32)), .val (.ref bb), .val (.int (1 : Int32))]) (S' := []) (fun t_ k_ => XS.istore X3.here hx rfl (hb hby at_120) rfl (l' := #[.val (.int p1), .val (.int p2), .val (.int p3), .val (.int p4), .val (.int p5), .val (.int (3 : Int32)), .val (.int (q0.toInt32)), .val (.int (q1.toInt32)), .val (.int (q2.toInt32)), .val (.ref xs), .val (.int (qi.toInt32)), .val (.ref bb), .val (.int (1 : Int32))]) rfl k_) ?_
      refine GoH.st (T' := T3) (pc' := 124) (L' := #[.val (.int p1), .val (.int p2), .val (.int p3), .val (.int p4), .val (.int p5), .val (.int (3 : Int32)), .val (.int (q0.toInt32)), .val (.int (q1.toInt32)), .val (.int (q2.toInt32)), .val (.ref xs), .val (.int (qi.toInt32)), .val (.ref bb), .val (.int (1 : Int32))]) (S' := [(.ref bb)]) (fun t_ k_ => XS.aload X3.here hx rfl (hb hby at_122) rfl rfl  k_) ?_
      refine GoH.st (T' := T3) (pc' := 126) (L' := #[.val (.int p1), .val (.int p2), .val (.int p3), .val (.int p4), .val (.int p5), .val (.int (3 : Int32)), .val (.int (q0.toInt32)), .val (.int (q1.toInt32)), .val (.int (q2.toInt32)), .val (.ref xs), .val (.int (qi.toInt32)), .val (.ref bb), .val (.int (1 : Int32))]) (S' := [(.int (qi.toInt32)), (.ref bb)]) (fun t_ k_ => XS.iload X3.here hx rfl (hb hby at_124) rfl  k_) ?_
      obtain ⟨cl8, Ar8, -, q8a, q8b, q8c, q8d⟩ := id Vb3
      refine GoH.st (T' := T3) (pc' := 127) (L' := #[.val (.int p1), .val (.int p2), .val (.int p3), .val (.int p4), .val (.int p5), .val (.int (3 : Int32)), .val (.int (q0.toInt32)), .val (.int (q1.toInt32)), .val (.int (q2.toInt32)), .val (.ref xs), .val (.int (qi.toInt32)), .val (.ref bb), .val (.int (1 : Int32))]) (S' := [(.int (MM.getD (qi) 0))]) (fun t_ k_ => X3.baloadBooleans hx (j := (qi.toInt32)) (v := (.int (MM.getD (qi) 0))) (by rw [e3]; exact Ar8.1) (State.isArrayOf_alike hZ.alike Ar8.2.1) Ar8.2.2 (own_inb q8a (N := 128) (by decide) (by omega) (by decide)) (q8c.at (own_inb q8a (N := 128) (by decide) (by omega) (by decide)) (own_atI _ (by omega))) (g := (mkF m 126 #[.val (.int p1), .val (.int p2), .val (.int p3), .val (.int p4), .val (.int p5), .val (.int (3 : Int32)), .val (.int (q0.toInt32)), .val (.int (q1.toInt32)), .val (.int (q2.toInt32)), .val (.ref xs), .val (.int (qi.toInt32)), .val (.ref bb), .val (.int (1 : Int32))] [(.int (qi.toInt32)), (.ref bb)])) rfl rfl (hb hby at_126) t_ k_) ?_
      refine GoH.st (T' := T3) (pc' := 129) (L' := #[.val (.int p1), .val (.int p2), .val (.int p3), .val (.int p4), .val (.int p5), .val (.int (3 : Int32)), .val (.int (q0.toInt32)), .val (.int (q1.toInt32)), .val (.int (q2.toInt32)), .val (.ref xs), .val (.int (qi.toInt32)), .val (.ref bb), .val (.int (1 : Int32))]) (S' := [(.int (1 : Int32)), (.int (MM.getD (qi) 0))]) (fun t_ k_ => XS.iload X3.here hx rfl (hb hby at_127) rfl  k_) ?_
      have hval : MM.getD qi 0 = (1 : Int32) := by
        rw [hMM qi (by omega)]
        have hA : ¬ qi < 33 := by have := (own_ltI (m := 32) (n := qi) (by decide) (by omega)).mp hc73_6; omega
        have hq0e : qi = q0 := (own_inj (by omega) (by omega)).mp hc86_7
        exact if_pos (by omega)
      refine GoH.st (T' := T3) (pc' := 132) (L' := #[.val (.int p1), .val (.int p2), .val (.int p3), .val (.int p4), .val (.int p5), .val (.int (3 : Int32)), .val (.int (q0.toInt32)), .val (.int (q1.toInt32)), .val (.int (q2.toInt32)), .val (.ref xs), .val (.int (qi.toInt32)), .val (.ref bb), .val (.int (1 : Int32))]) (S' := []) (fun t_ k_ => XS.icmpNo X3.here hx rfl (hb hby at_129) rfl (teq (hval : ((MM.getD (qi) 0) = (1 : Int32)))).2 k_) ?_
      refine GoH.st (T' := T3) (pc' := 133) (L' := #[.val (.int p1), .val (.int p2), .val (.int p3), .val (.int p4), .val (.int p5), .val (.int (3 : Int32)), .val (.int (q0.toInt32)), .val (.int (q1.toInt32)), .val (.int (q2.toInt32)), .val (.ref xs), .val (.int (qi.toInt32)), .val (.ref bb), .val (.int (1 : Int32))]) (S' := [(.int (1 : Int32))]) (fun t_ k_ => XS.iconst X3.here hx rfl (hb hby at_132) k_) ?_
      refine GoH.st (T' := T3) (pc' := 137) (L' := #[.val (.int p1), .val (.int p2), .val (.int p3), .val (.int p4), .val (.int p5), .val (.int (3 : Int32)), .val (.int (q0.toInt32)), .val (.int (q1.toInt32)), .val (.int (q2.toInt32)), .val (.ref xs), .val (.int (qi.toInt32)), .val (.ref bb), .val (.int (1 : Int32))]) (S' := [(.int (1 : Int32))]) (fun t_ k_ => XS.goto X3.here hx rfl (pc0 := 133) (pc' := 137) rfl (hb hby at_133) (by decide) (by decide) k_) ?_
      exact GoH.retN X3 hx hlk hret (by simp) (hb hby at_137) (by decide) (by decide) hS hk e3 hs0 hZ (own_EW hw) CR (by rw [e3]; exact ⟨rfl, N3⟩)
    · refine GoH.st (T' := T3) (pc' := 89) (L' := #[.val (.int p1), .val (.int p2), .val (.int p3), .val (.int p4), .val (.int p5), .val (.int (3 : Int32)), .val (.int (q0.toInt32)), .val (.int (q1.toInt32)), .val (.int (q2.toInt32)), .val (.ref xs), .val (.int (qi.toInt32)), .val (.ref bb), .unset]) (S' := []) (fun t_ k_ => XS.icmpNo X3.here hx rfl (hb hby at_86) rfl (feq hc86_7).1 k_) ?_
      refine GoH.st (T' := T3) (pc' := 91) (L' := #[.val (.int p1), .val (.int p2), .val (.int p3), .val (.int p4), .val (.int p5), .val (.int (3 : Int32)), .val (.int (q0.toInt32)), .val (.int (q1.toInt32)), .val (.int (q2.toInt32)), .val (.ref xs), .val (.int (qi.toInt32)), .val (.ref bb), .unset]) (S' := [(.int (3 : Int32))]) (fun t_ k_ => XS.iload X3.here hx rfl (hb hby at_89) rfl  k_) ?_
      refine GoH.st (T' := T3) (pc' := 92) (L' := #[.val (.int p1), .val (.int p2), .val (.int p3), .val (.int p4), .val (.int p5), .val (.int (3 : Int32)), .val (.int (q0.toInt32)), .val (.int (q1.toInt32)), .val (.int (q2.toInt32)), .val (.ref xs), .val (.int (qi.toInt32)), .val (.ref bb), .unset]) (S' := [(.int (2 : Int32)), (.int (3 : Int32))]) (fun t_ k_ => XS.iconst X3.here hx rfl (hb hby at_91) k_) ?_
      refine GoH.st (T' := T3) (pc' := 95) (L' := #[.val (.int p1), .val (.int p2), .val (.int p3), .val (.int p4), .val (.int p5), .val (.int (3 : Int32)), .val (.int (q0.toInt32)), .val (.int (q1.toInt32)), .val (.int (q2.toInt32)), .val (.ref xs), .val (.int (qi.toInt32)), .val (.ref bb), .unset]) (S' := []) (fun t_ k_ => XS.icmpNo X3.here hx rfl (hb hby at_92) rfl (flt (by decide : ¬ ((3 : Int32) < (2 : Int32)))).1 k_) ?_
      refine GoH.st (T' := T3) (pc' := 97) (L' := #[.val (.int p1), .val (.int p2), .val (.int p3), .val (.int p4), .val (.int p5), .val (.int (3 : Int32)), .val (.int (q0.toInt32)), .val (.int (q1.toInt32)), .val (.int (q2.toInt32)), .val (.ref xs), .val (.int (qi.toInt32)), .val (.ref bb), .unset]) (S' := [(.int (qi.toInt32))]) (fun t_ k_ => XS.iload X3.here hx rfl (hb hby at_95) rfl  k_) ?_
      refine GoH.st (T' := T3) (pc' := 99) (L' := #[.val (.int p1), .val (.int p2), .val (.int p3), .val (.int p4), .val (.int p5), .val (.int (3 : Int32)), .val (.int (q0.toInt32)), .val (.int (q1.toInt32)), .val (.int (q2.toInt32)), .val (.ref xs), .val (.int (qi.toInt32)), .val (.ref bb), .unset]) (S' := [(.int (q1.toInt32)), (.int (qi.toInt32))]) (fun t_ k_ => XS.iload X3.here hx rfl (hb hby at_97) rfl  k_) ?_
      by_cases hc99_9 : (qi.toInt32) = (q1.toInt32)
      · refine GoH.st (T' := T3) (pc' := 115) (L' := #[.val (.int p1), .val (.int p2), .val (.int p3), .val (.int p4), .val (.int p5), .val (.int (3 : Int32)), .val (.int (q0.toInt32)), .val (.int (q1.toInt32)), .val (.int (q2.toInt32)), .val (.ref xs), .val (.int (qi.toInt32)), .val (.ref bb), .unset]) (S' := []) (fun t_ k_ => XS.icmpYes X3.here hx rfl (pc0 := 99) (pc' := 115) rfl (hb hby at_99) rfl (teq hc99_9).1 (by decide) (by decide) k_) ?_
        refine GoH.st (T' := T3) (pc' := 116) (L' := #[.val (.int p1), .val (.int p2), .val (.int p3), .val (.int p4), .val (.int p5), .val (.int (3 : Int32)), .val (.int (q0.toInt32)), .val (.int (q1.toInt32)), .val (.int (q2.toInt32)), .val (.ref xs), .val (.int (qi.toInt32)), .val (.ref bb), .unset]) (S' := [(.int (1 : Int32))]) (fun t_ k_ => XS.iconst X3.here hx rfl (hb hby at_115) k_) ?_
        refine GoH.st (T' := T3) (pc' := 120) (L' := #[.val (.int p1), .val (.int p2), .val (.int p3), .val (.int p4), .val (.int p5), .val (.int (3 : Int32)), .val (.int (q0.toInt32)), .val (.int (q1.toInt32)), .val (.int (q2.toInt32)), .val (.ref xs), .val (.int (qi.toInt32)), .val (.ref bb), .unset]) (S' := [(.int (1 : Int32))]) (fun t_ k_ => XS.goto X3.here hx rfl (pc0 := 116) (pc' := 120) rfl (hb hby at_116) (by decide) (by decide) k_) ?_
        refine GoH.st (T' := T3) (pc' := 122) (L' := #[.val (.int p1), .val (.int p2), .val (.int p3), .val (.int p4), .val (.int p5), .val (.int (3 : Int32)), .val (.int (q0.toInt32)), .val (.int (q1.toInt32)), .val (.int (q2.toInt32)), .val (.ref xs), .val (.int (qi.toInt32)), .val (.ref bb), .val (.int (1 : Int32))]) (S' := []) (fun t_ k_ => XS.istore X3.here hx rfl (hb hby at_120) rfl (l' := #[.val (.int p1), .val (.int p2), .val (.int p3), .val (.int p4), .val (.int p5), .val (.int (3 : Int32)), .val (.int (q0.toInt32)), .val (.int (q1.toInt32)), .val (.int (q2.toInt32)), .val (.ref xs), .val (.int (qi.toInt32)), .val (.ref bb), .val (.int (1 : Int32))]) rfl k_) ?_
        refine GoH.st (T' := T3) (pc' := 124) (L' := #[.val (.int p1), .val (.int p2), .val (.int p3), .val (.int p4), .val (.int p5), .val (.int (3 : Int32)), .val (.int (q0.toInt32)), .val (.int (q1.toInt32)), .val (.int (q2.toInt32)), .val (.ref xs), .val (.int (qi.toInt32)), .val (.ref bb), .val (.int (1 : Int32))]) (S' := [(.ref bb)]) (fun t_ k_ => XS.aload X3.here hx rfl (hb hby at_122) rfl rfl  k_) ?_
        refine GoH.st (T' := T3) (pc' := 126) (L' := #[.val (.int p1), .val (.int p2), .val (.int p3), .val (.int p4), .val (.int p5), .val (.int (3 : Int32)), .val (.int (q0.toInt32)), .val (.int (q1.toInt32)), .val (.int (q2.toInt32)), .val (.ref xs), .val (.int (qi.toInt32)), .val (.ref bb), .val (.int (1 : Int32))]) (S' := [(.int (qi.toInt32)), (.ref bb)]) (fun t_ k_ => XS.iload X3.here hx rfl (hb hby at_124) rfl  k_) ?_
        obtain ⟨cl10, Ar10, -, q10a, q10b, q10c, q10d⟩ := id Vb3
        refine GoH.st (T' := T3) (pc' := 127) (L' := #[.val (.int p1), .val (.int p2), .val (.int p3), .val (.int p4), .val (.int p5), .val (.int (3 : Int32)), .val (.int (q0.toInt32)), .val (.int (q1.toInt32)), .val (.int (q2.toInt32)), .val (.ref xs), .val (.int (qi.toInt32)), .val (.ref bb), .val (.int (1 : Int32))]) (S' := [(.int (MM.getD (qi) 0))]) (fun t_ k_ => X3.baloadBooleans hx (j := (qi.toInt32)) (v := (.int (MM.getD (qi) 0))) (by rw [e3]; exact Ar10.1) (State.isArrayOf_alike hZ.alike Ar10.2.1) Ar10.2.2 (own_inb q10a (N := 128) (by decide) (by omega) (by decide)) (q10c.at (own_inb q10a (N := 128) (by decide) (by omega) (by decide)) (own_atI _ (by omega))) (g := (mkF m 126 #[.val (.int p1), .val (.int p2), .val (.int p3), .val (.int p4), .val (.int p5), .val (.int (3 : Int32)), .val (.int (q0.toInt32)), .val (.int (q1.toInt32)), .val (.int (q2.toInt32)), .val (.ref xs), .val (.int (qi.toInt32)), .val (.ref bb), .val (.int (1 : Int32))] [(.int (qi.toInt32)), (.ref bb)])) rfl rfl (hb hby at_126) t_ k_) ?_
        refine GoH.st (T' := T3) (pc' := 129) (L' := #[.val (.int p1), .val (.int p2), .val (.int p3), .val (.int p4), .val (.int p5), .val (.int (3 : Int32)), .val (.int (q0.toInt32)), .val (.int (q1.toInt32)), .val (.int (q2.toInt32)), .val (.ref xs), .val (.int (qi.toInt32)), .val (.ref bb), .val (.int (1 : Int32))]) (S' := [(.int (1 : Int32)), (.int (MM.getD (qi) 0))]) (fun t_ k_ => XS.iload X3.here hx rfl (hb hby at_127) rfl  k_) ?_
        have hval : MM.getD qi 0 = (1 : Int32) := by
          rw [hMM qi (by omega)]
          have hA : ¬ qi < 33 := by have := (own_ltI (m := 32) (n := qi) (by decide) (by omega)).mp hc73_6; omega
          have hq0e : ¬ qi = q0 := mt (own_inj (by omega) (by omega)).mpr hc86_7
          have hq1e : qi = q1 := (own_inj (by omega) (by omega)).mp hc99_9
          exact if_pos (by omega)
        refine GoH.st (T' := T3) (pc' := 132) (L' := #[.val (.int p1), .val (.int p2), .val (.int p3), .val (.int p4), .val (.int p5), .val (.int (3 : Int32)), .val (.int (q0.toInt32)), .val (.int (q1.toInt32)), .val (.int (q2.toInt32)), .val (.ref xs), .val (.int (qi.toInt32)), .val (.ref bb), .val (.int (1 : Int32))]) (S' := []) (fun t_ k_ => XS.icmpNo X3.here hx rfl (hb hby at_129) rfl (teq (hval : ((MM.getD (qi) 0) = (1 : Int32)))).2 k_) ?_
        refine GoH.st (T' := T3) (pc' := 133) (L' := #[.val (.int p1), .val (.int p2), .val (.int p3), .val (.int p4), .val (.int p5), .val (.int (3 : Int32)), .val (.int (q0.toInt32)), .val (.int (q1.toInt32)), .val (.int (q2.toInt32)), .val (.ref xs), .val (.int (qi.toInt32)), .val (.ref bb), .val (.int (1 : Int32))]) (S' := [(.int (1 : Int32))]) (fun t_ k_ => XS.iconst X3.here hx rfl (hb hby at_132) k_) ?_
        refine GoH.st (T' := T3) (pc' := 137) (L' := #[.val (.int p1), .val (.int p2), .val (.int p3), .val (.int p4), .val (.int p5), .val (.int (3 : Int32)), .val (.int (q0.toInt32)), .val (.int (q1.toInt32)), .val (.int (q2.toInt32)), .val (.ref xs), .val (.int (qi.toInt32)), .val (.ref bb), .val (.int (1 : Int32))]) (S' := [(.int (1 : Int32))]) (fun t_ k_ => XS.goto X3.here hx rfl (pc0 := 133) (pc' := 137) rfl (hb hby at_133) (by decide) (by decide) k_) ?_
        exact GoH.retN X3 hx hlk hret (by simp) (hb hby at_137) (by decide) (by decide) hS hk e3 hs0 hZ (own_EW hw) CR (by rw [e3]; exact ⟨rfl, N3⟩)
      · refine GoH.st (T' := T3) (pc' := 102) (L' := #[.val (.int p1), .val (.int p2), .val (.int p3), .val (.int p4), .val (.int p5), .val (.int (3 : Int32)), .val (.int (q0.toInt32)), .val (.int (q1.toInt32)), .val (.int (q2.toInt32)), .val (.ref xs), .val (.int (qi.toInt32)), .val (.ref bb), .unset]) (S' := []) (fun t_ k_ => XS.icmpNo X3.here hx rfl (hb hby at_99) rfl (feq hc99_9).1 k_) ?_
        refine GoH.st (T' := T3) (pc' := 104) (L' := #[.val (.int p1), .val (.int p2), .val (.int p3), .val (.int p4), .val (.int p5), .val (.int (3 : Int32)), .val (.int (q0.toInt32)), .val (.int (q1.toInt32)), .val (.int (q2.toInt32)), .val (.ref xs), .val (.int (qi.toInt32)), .val (.ref bb), .unset]) (S' := [(.int (3 : Int32))]) (fun t_ k_ => XS.iload X3.here hx rfl (hb hby at_102) rfl  k_) ?_
        refine GoH.st (T' := T3) (pc' := 105) (L' := #[.val (.int p1), .val (.int p2), .val (.int p3), .val (.int p4), .val (.int p5), .val (.int (3 : Int32)), .val (.int (q0.toInt32)), .val (.int (q1.toInt32)), .val (.int (q2.toInt32)), .val (.ref xs), .val (.int (qi.toInt32)), .val (.ref bb), .unset]) (S' := [(.int (3 : Int32)), (.int (3 : Int32))]) (fun t_ k_ => XS.iconst X3.here hx rfl (hb hby at_104) k_) ?_
        refine GoH.st (T' := T3) (pc' := 108) (L' := #[.val (.int p1), .val (.int p2), .val (.int p3), .val (.int p4), .val (.int p5), .val (.int (3 : Int32)), .val (.int (q0.toInt32)), .val (.int (q1.toInt32)), .val (.int (q2.toInt32)), .val (.ref xs), .val (.int (qi.toInt32)), .val (.ref bb), .unset]) (S' := []) (fun t_ k_ => XS.icmpNo X3.here hx rfl (hb hby at_105) rfl (flt (by decide : ¬ ((3 : Int32) < (3 : Int32)))).1 k_) ?_
        refine GoH.st (T' := T3) (pc' := 110) (L' := #[.val (.int p1), .val (.int p2), .val (.int p3), .val (.int p4), .val (.int p5), .val (.int (3 : Int32)), .val (.int (q0.toInt32)), .val (.int (q1.toInt32)), .val (.int (q2.toInt32)), .val (.ref xs), .val (.int (qi.toInt32)), .val (.ref bb), .unset]) (S' := [(.int (qi.toInt32))]) (fun t_ k_ => XS.iload X3.here hx rfl (hb hby at_108) rfl  k_) ?_
        refine GoH.st (T' := T3) (pc' := 112) (L' := #[.val (.int p1), .val (.int p2), .val (.int p3), .val (.int p4), .val (.int p5), .val (.int (3 : Int32)), .val (.int (q0.toInt32)), .val (.int (q1.toInt32)), .val (.int (q2.toInt32)), .val (.ref xs), .val (.int (qi.toInt32)), .val (.ref bb), .unset]) (S' := [(.int (q2.toInt32)), (.int (qi.toInt32))]) (fun t_ k_ => XS.iload X3.here hx rfl (hb hby at_110) rfl  k_) ?_
        by_cases hc112_11 : (qi.toInt32) = (q2.toInt32)
        · refine GoH.st (T' := T3) (pc' := 115) (L' := #[.val (.int p1), .val (.int p2), .val (.int p3), .val (.int p4), .val (.int p5), .val (.int (3 : Int32)), .val (.int (q0.toInt32)), .val (.int (q1.toInt32)), .val (.int (q2.toInt32)), .val (.ref xs), .val (.int (qi.toInt32)), .val (.ref bb), .unset]) (S' := []) (fun t_ k_ => XS.icmpNo X3.here hx rfl (hb hby at_112) rfl (teq hc112_11).2 k_) ?_
          refine GoH.st (T' := T3) (pc' := 116) (L' := #[.val (.int p1), .val (.int p2), .val (.int p3), .val (.int p4), .val (.int p5), .val (.int (3 : Int32)), .val (.int (q0.toInt32)), .val (.int (q1.toInt32)), .val (.int (q2.toInt32)), .val (.ref xs), .val (.int (qi.toInt32)), .val (.ref bb), .unset]) (S' := [(.int (1 : Int32))]) (fun t_ k_ => XS.iconst X3.here hx rfl (hb hby at_115) k_) ?_
          refine GoH.st (T' := T3) (pc' := 120) (L' := #[.val (.int p1), .val (.int p2), .val (.int p3), .val (.int p4), .val (.int p5), .val (.int (3 : Int32)), .val (.int (q0.toInt32)), .val (.int (q1.toInt32)), .val (.int (q2.toInt32)), .val (.ref xs), .val (.int (qi.toInt32)), .val (.ref bb), .unset]) (S' := [(.int (1 : Int32))]) (fun t_ k_ => XS.goto X3.here hx rfl (pc0 := 116) (pc' := 120) rfl (hb hby at_116) (by decide) (by decide) k_) ?_
          refine GoH.st (T' := T3) (pc' := 122) (L' := #[.val (.int p1), .val (.int p2), .val (.int p3), .val (.int p4), .val (.int p5), .val (.int (3 : Int32)), .val (.int (q0.toInt32)), .val (.int (q1.toInt32)), .val (.int (q2.toInt32)), .val (.ref xs), .val (.int (qi.toInt32)), .val (.ref bb), .val (.int (1 : Int32))]) (S' := []) (fun t_ k_ => XS.istore X3.here hx rfl (hb hby at_120) rfl (l' := #[.val (.int p1), .val (.int p2), .val (.int p3), .val (.int p4), .val (.int p5), .val (.int (3 : Int32)), .val (.int (q0.toInt32)), .val (.int (q1.toInt32)), .val (.int (q2.toInt32)), .val (.ref xs), .val (.int (qi.toInt32)), .val (.ref bb), .val (.int (1 : Int32))]) rfl k_) ?_
          refine GoH.st (T' := T3) (pc' := 124) (L' := #[.val (.int p1), .val (.int p2), .val (.int p3), .val (.int p4), .val (.int p5), .val (.int (3 : Int32)), .val (.int (q0.toInt32)), .val (.int (q1.toInt32)), .val (.int (q2.toInt32)), .val (.ref xs), .val (.int (qi.toInt32)), .val (.ref bb), .val (.int (1 : Int32))]) (S' := [(.ref bb)]) (fun t_ k_ => XS.aload X3.here hx rfl (hb hby at_122) rfl rfl  k_) ?_
          refine GoH.st (T' := T3) (pc' := 126) (L' := #[.val (.int p1), .val (.int p2), .val (.int p3), .val (.int p4), .val (.int p5), .val (.int (3 : Int32)), .val (.int (q0.toInt32)), .val (.int (q1.toInt32)), .val (.int (q2.toInt32)), .val (.ref xs), .val (.int (qi.toInt32)), .val (.ref bb), .val (.int (1 : Int32))]) (S' := [(.int (qi.toInt32)), (.ref bb)]) (fun t_ k_ => XS.iload X3.here hx rfl (hb hby at_124) rfl  k_) ?_
          obtain ⟨cl12, Ar12, -, q12a, q12b, q12c, q12d⟩ := id Vb3
          refine GoH.st (T' := T3) (pc' := 127) (L' := #[.val (.int p1), .val (.int p2), .val (.int p3), .val (.int p4), .val (.int p5), .val (.int (3 : Int32)), .val (.int (q0.toInt32)), .val (.int (q1.toInt32)), .val (.int (q2.toInt32)), .val (.ref xs), .val (.int (qi.toInt32)), .val (.ref bb), .val (.int (1 : Int32))]) (S' := [(.int (MM.getD (qi) 0))]) (fun t_ k_ => X3.baloadBooleans hx (j := (qi.toInt32)) (v := (.int (MM.getD (qi) 0))) (by rw [e3]; exact Ar12.1) (State.isArrayOf_alike hZ.alike Ar12.2.1) Ar12.2.2 (own_inb q12a (N := 128) (by decide) (by omega) (by decide)) (q12c.at (own_inb q12a (N := 128) (by decide) (by omega) (by decide)) (own_atI _ (by omega))) (g := (mkF m 126 #[.val (.int p1), .val (.int p2), .val (.int p3), .val (.int p4), .val (.int p5), .val (.int (3 : Int32)), .val (.int (q0.toInt32)), .val (.int (q1.toInt32)), .val (.int (q2.toInt32)), .val (.ref xs), .val (.int (qi.toInt32)), .val (.ref bb), .val (.int (1 : Int32))] [(.int (qi.toInt32)), (.ref bb)])) rfl rfl (hb hby at_126) t_ k_) ?_
          refine GoH.st (T' := T3) (pc' := 129) (L' := #[.val (.int p1), .val (.int p2), .val (.int p3), .val (.int p4), .val (.int p5), .val (.int (3 : Int32)), .val (.int (q0.toInt32)), .val (.int (q1.toInt32)), .val (.int (q2.toInt32)), .val (.ref xs), .val (.int (qi.toInt32)), .val (.ref bb), .val (.int (1 : Int32))]) (S' := [(.int (1 : Int32)), (.int (MM.getD (qi) 0))]) (fun t_ k_ => XS.iload X3.here hx rfl (hb hby at_127) rfl  k_) ?_
          have hval : MM.getD qi 0 = (1 : Int32) := by
            rw [hMM qi (by omega)]
            have hA : ¬ qi < 33 := by have := (own_ltI (m := 32) (n := qi) (by decide) (by omega)).mp hc73_6; omega
            have hq0e : ¬ qi = q0 := mt (own_inj (by omega) (by omega)).mpr hc86_7
            have hq1e : ¬ qi = q1 := mt (own_inj (by omega) (by omega)).mpr hc99_9
            have hq2e : qi = q2 := (own_inj (by omega) (by omega)).mp hc112_11
            exact if_pos (by omega)
          refine GoH.st (T' := T3) (pc' := 132) (L' := #[.val (.int p1), .val (.int p2), .val (.int p3), .val (.int p4), .val (.int p5), .val (.int (3 : Int32)), .val (.int (q0.toInt32)), .val (.int (q1.toInt32)), .val (.int (q2.toInt32)), .val (.ref xs), .val (.int (qi.toInt32)), .val (.ref bb), .val (.int (1 : Int32))]) (S' := []) (fun t_ k_ => XS.icmpNo X3.here hx rfl (hb hby at_129) rfl (teq (hval : ((MM.getD (qi) 0) = (1 : Int32)))).2 k_) ?_
          refine GoH.st (T' := T3) (pc' := 133) (L' := #[.val (.int p1), .val (.int p2), .val (.int p3), .val (.int p4), .val (.int p5), .val (.int (3 : Int32)), .val (.int (q0.toInt32)), .val (.int (q1.toInt32)), .val (.int (q2.toInt32)), .val (.ref xs), .val (.int (qi.toInt32)), .val (.ref bb), .val (.int (1 : Int32))]) (S' := [(.int (1 : Int32))]) (fun t_ k_ => XS.iconst X3.here hx rfl (hb hby at_132) k_) ?_
          refine GoH.st (T' := T3) (pc' := 137) (L' := #[.val (.int p1), .val (.int p2), .val (.int p3), .val (.int p4), .val (.int p5), .val (.int (3 : Int32)), .val (.int (q0.toInt32)), .val (.int (q1.toInt32)), .val (.int (q2.toInt32)), .val (.ref xs), .val (.int (qi.toInt32)), .val (.ref bb), .val (.int (1 : Int32))]) (S' := [(.int (1 : Int32))]) (fun t_ k_ => XS.goto X3.here hx rfl (pc0 := 133) (pc' := 137) rfl (hb hby at_133) (by decide) (by decide) k_) ?_
          exact GoH.retN X3 hx hlk hret (by simp) (hb hby at_137) (by decide) (by decide) hS hk e3 hs0 hZ (own_EW hw) CR (by rw [e3]; exact ⟨rfl, N3⟩)
        · refine GoH.st (T' := T3) (pc' := 119) (L' := #[.val (.int p1), .val (.int p2), .val (.int p3), .val (.int p4), .val (.int p5), .val (.int (3 : Int32)), .val (.int (q0.toInt32)), .val (.int (q1.toInt32)), .val (.int (q2.toInt32)), .val (.ref xs), .val (.int (qi.toInt32)), .val (.ref bb), .unset]) (S' := []) (fun t_ k_ => XS.icmpYes X3.here hx rfl (pc0 := 112) (pc' := 119) rfl (hb hby at_112) rfl (feq hc112_11).2 (by decide) (by decide) k_) ?_
          refine GoH.st (T' := T3) (pc' := 120) (L' := #[.val (.int p1), .val (.int p2), .val (.int p3), .val (.int p4), .val (.int p5), .val (.int (3 : Int32)), .val (.int (q0.toInt32)), .val (.int (q1.toInt32)), .val (.int (q2.toInt32)), .val (.ref xs), .val (.int (qi.toInt32)), .val (.ref bb), .unset]) (S' := [(.int (0 : Int32))]) (fun t_ k_ => XS.iconst X3.here hx rfl (hb hby at_119) k_) ?_
          refine GoH.st (T' := T3) (pc' := 122) (L' := #[.val (.int p1), .val (.int p2), .val (.int p3), .val (.int p4), .val (.int p5), .val (.int (3 : Int32)), .val (.int (q0.toInt32)), .val (.int (q1.toInt32)), .val (.int (q2.toInt32)), .val (.ref xs), .val (.int (qi.toInt32)), .val (.ref bb), .val (.int (0 : Int32))]) (S' := []) (fun t_ k_ => XS.istore X3.here hx rfl (hb hby at_120) rfl (l' := #[.val (.int p1), .val (.int p2), .val (.int p3), .val (.int p4), .val (.int p5), .val (.int (3 : Int32)), .val (.int (q0.toInt32)), .val (.int (q1.toInt32)), .val (.int (q2.toInt32)), .val (.ref xs), .val (.int (qi.toInt32)), .val (.ref bb), .val (.int (0 : Int32))]) rfl k_) ?_
          refine GoH.st (T' := T3) (pc' := 124) (L' := #[.val (.int p1), .val (.int p2), .val (.int p3), .val (.int p4), .val (.int p5), .val (.int (3 : Int32)), .val (.int (q0.toInt32)), .val (.int (q1.toInt32)), .val (.int (q2.toInt32)), .val (.ref xs), .val (.int (qi.toInt32)), .val (.ref bb), .val (.int (0 : Int32))]) (S' := [(.ref bb)]) (fun t_ k_ => XS.aload X3.here hx rfl (hb hby at_122) rfl rfl  k_) ?_
          refine GoH.st (T' := T3) (pc' := 126) (L' := #[.val (.int p1), .val (.int p2), .val (.int p3), .val (.int p4), .val (.int p5), .val (.int (3 : Int32)), .val (.int (q0.toInt32)), .val (.int (q1.toInt32)), .val (.int (q2.toInt32)), .val (.ref xs), .val (.int (qi.toInt32)), .val (.ref bb), .val (.int (0 : Int32))]) (S' := [(.int (qi.toInt32)), (.ref bb)]) (fun t_ k_ => XS.iload X3.here hx rfl (hb hby at_124) rfl  k_) ?_
          obtain ⟨cl13, Ar13, -, q13a, q13b, q13c, q13d⟩ := id Vb3
          refine GoH.st (T' := T3) (pc' := 127) (L' := #[.val (.int p1), .val (.int p2), .val (.int p3), .val (.int p4), .val (.int p5), .val (.int (3 : Int32)), .val (.int (q0.toInt32)), .val (.int (q1.toInt32)), .val (.int (q2.toInt32)), .val (.ref xs), .val (.int (qi.toInt32)), .val (.ref bb), .val (.int (0 : Int32))]) (S' := [(.int (MM.getD (qi) 0))]) (fun t_ k_ => X3.baloadBooleans hx (j := (qi.toInt32)) (v := (.int (MM.getD (qi) 0))) (by rw [e3]; exact Ar13.1) (State.isArrayOf_alike hZ.alike Ar13.2.1) Ar13.2.2 (own_inb q13a (N := 128) (by decide) (by omega) (by decide)) (q13c.at (own_inb q13a (N := 128) (by decide) (by omega) (by decide)) (own_atI _ (by omega))) (g := (mkF m 126 #[.val (.int p1), .val (.int p2), .val (.int p3), .val (.int p4), .val (.int p5), .val (.int (3 : Int32)), .val (.int (q0.toInt32)), .val (.int (q1.toInt32)), .val (.int (q2.toInt32)), .val (.ref xs), .val (.int (qi.toInt32)), .val (.ref bb), .val (.int (0 : Int32))] [(.int (qi.toInt32)), (.ref bb)])) rfl rfl (hb hby at_126) t_ k_) ?_
          refine GoH.st (T' := T3) (pc' := 129) (L' := #[.val (.int p1), .val (.int p2), .val (.int p3), .val (.int p4), .val (.int p5), .val (.int (3 : Int32)), .val (.int (q0.toInt32)), .val (.int (q1.toInt32)), .val (.int (q2.toInt32)), .val (.ref xs), .val (.int (qi.toInt32)), .val (.ref bb), .val (.int (0 : Int32))]) (S' := [(.int (0 : Int32)), (.int (MM.getD (qi) 0))]) (fun t_ k_ => XS.iload X3.here hx rfl (hb hby at_127) rfl  k_) ?_
          have hval : MM.getD qi 0 = (0 : Int32) := by
            rw [hMM qi (by omega)]
            have hA : ¬ qi < 33 := by have := (own_ltI (m := 32) (n := qi) (by decide) (by omega)).mp hc73_6; omega
            have hq0e : ¬ qi = q0 := mt (own_inj (by omega) (by omega)).mpr hc86_7
            have hq1e : ¬ qi = q1 := mt (own_inj (by omega) (by omega)).mpr hc99_9
            have hq2e : ¬ qi = q2 := mt (own_inj (by omega) (by omega)).mpr hc112_11
            exact if_neg (by omega)
          refine GoH.st (T' := T3) (pc' := 132) (L' := #[.val (.int p1), .val (.int p2), .val (.int p3), .val (.int p4), .val (.int p5), .val (.int (3 : Int32)), .val (.int (q0.toInt32)), .val (.int (q1.toInt32)), .val (.int (q2.toInt32)), .val (.ref xs), .val (.int (qi.toInt32)), .val (.ref bb), .val (.int (0 : Int32))]) (S' := []) (fun t_ k_ => XS.icmpNo X3.here hx rfl (hb hby at_129) rfl (teq (hval : ((MM.getD (qi) 0) = (0 : Int32)))).2 k_) ?_
          refine GoH.st (T' := T3) (pc' := 133) (L' := #[.val (.int p1), .val (.int p2), .val (.int p3), .val (.int p4), .val (.int p5), .val (.int (3 : Int32)), .val (.int (q0.toInt32)), .val (.int (q1.toInt32)), .val (.int (q2.toInt32)), .val (.ref xs), .val (.int (qi.toInt32)), .val (.ref bb), .val (.int (0 : Int32))]) (S' := [(.int (1 : Int32))]) (fun t_ k_ => XS.iconst X3.here hx rfl (hb hby at_132) k_) ?_
          refine GoH.st (T' := T3) (pc' := 137) (L' := #[.val (.int p1), .val (.int p2), .val (.int p3), .val (.int p4), .val (.int p5), .val (.int (3 : Int32)), .val (.int (q0.toInt32)), .val (.int (q1.toInt32)), .val (.int (q2.toInt32)), .val (.ref xs), .val (.int (qi.toInt32)), .val (.ref bb), .val (.int (0 : Int32))]) (S' := [(.int (1 : Int32))]) (fun t_ k_ => XS.goto X3.here hx rfl (pc0 := 133) (pc' := 137) rfl (hb hby at_133) (by decide) (by decide) k_) ?_
          exact GoH.retN X3 hx hlk hret (by simp) (hb hby at_137) (by decide) (by decide) hS hk e3 hs0 hZ (own_EW hw) CR (by rw [e3]; exact ⟨rfl, N3⟩)
  · refine GoH.st (T' := T3) (pc' := 115) (L' := #[.val (.int p1), .val (.int p2), .val (.int p3), .val (.int p4), .val (.int p5), .val (.int (3 : Int32)), .val (.int (q0.toInt32)), .val (.int (q1.toInt32)), .val (.int (q2.toInt32)), .val (.ref xs), .val (.int (qi.toInt32)), .val (.ref bb), .unset]) (S' := []) (fun t_ k_ => XS.icmpYes X3.here hx rfl (pc0 := 73) (pc' := 115) rfl (hb hby at_73) rfl (flt hc73_6).2.2.2 (by decide) (by decide) k_) ?_
    refine GoH.st (T' := T3) (pc' := 116) (L' := #[.val (.int p1), .val (.int p2), .val (.int p3), .val (.int p4), .val (.int p5), .val (.int (3 : Int32)), .val (.int (q0.toInt32)), .val (.int (q1.toInt32)), .val (.int (q2.toInt32)), .val (.ref xs), .val (.int (qi.toInt32)), .val (.ref bb), .unset]) (S' := [(.int (1 : Int32))]) (fun t_ k_ => XS.iconst X3.here hx rfl (hb hby at_115) k_) ?_
    refine GoH.st (T' := T3) (pc' := 120) (L' := #[.val (.int p1), .val (.int p2), .val (.int p3), .val (.int p4), .val (.int p5), .val (.int (3 : Int32)), .val (.int (q0.toInt32)), .val (.int (q1.toInt32)), .val (.int (q2.toInt32)), .val (.ref xs), .val (.int (qi.toInt32)), .val (.ref bb), .unset]) (S' := [(.int (1 : Int32))]) (fun t_ k_ => XS.goto X3.here hx rfl (pc0 := 116) (pc' := 120) rfl (hb hby at_116) (by decide) (by decide) k_) ?_
    refine GoH.st (T' := T3) (pc' := 122) (L' := #[.val (.int p1), .val (.int p2), .val (.int p3), .val (.int p4), .val (.int p5), .val (.int (3 : Int32)), .val (.int (q0.toInt32)), .val (.int (q1.toInt32)), .val (.int (q2.toInt32)), .val (.ref xs), .val (.int (qi.toInt32)), .val (.ref bb), .val (.int (1 : Int32))]) (S' := []) (fun t_ k_ => XS.istore X3.here hx rfl (hb hby at_120) rfl (l' := #[.val (.int p1), .val (.int p2), .val (.int p3), .val (.int p4), .val (.int p5), .val (.int (3 : Int32)), .val (.int (q0.toInt32)), .val (.int (q1.toInt32)), .val (.int (q2.toInt32)), .val (.ref xs), .val (.int (qi.toInt32)), .val (.ref bb), .val (.int (1 : Int32))]) rfl k_) ?_
    refine GoH.st (T' := T3) (pc' := 124) (L' := #[.val (.int p1), .val (.int p2), .val (.int p3), .val (.int p4), .val (.int p5), .val (.int (3 : Int32)), .val (.int (q0.toInt32)), .val (.int (q1.toInt32)), .val (.int (q2.toInt32)), .val (.ref xs), .val (.int (qi.toInt32)), .val (.ref bb), .val (.int (1 : Int32))]) (S' := [(.ref bb)]) (fun t_ k_ => XS.aload X3.here hx rfl (hb hby at_122) rfl rfl  k_) ?_
    refine GoH.st (T' := T3) (pc' := 126) (L' := #[.val (.int p1), .val (.int p2), .val (.int p3), .val (.int p4), .val (.int p5), .val (.int (3 : Int32)), .val (.int (q0.toInt32)), .val (.int (q1.toInt32)), .val (.int (q2.toInt32)), .val (.ref xs), .val (.int (qi.toInt32)), .val (.ref bb), .val (.int (1 : Int32))]) (S' := [(.int (qi.toInt32)), (.ref bb)]) (fun t_ k_ => XS.iload X3.here hx rfl (hb hby at_124) rfl  k_) ?_
    obtain ⟨cl14, Ar14, -, q14a, q14b, q14c, q14d⟩ := id Vb3
    refine GoH.st (T' := T3) (pc' := 127) (L' := #[.val (.int p1), .val (.int p2), .val (.int p3), .val (.int p4), .val (.int p5), .val (.int (3 : Int32)), .val (.int (q0.toInt32)), .val (.int (q1.toInt32)), .val (.int (q2.toInt32)), .val (.ref xs), .val (.int (qi.toInt32)), .val (.ref bb), .val (.int (1 : Int32))]) (S' := [(.int (MM.getD (qi) 0))]) (fun t_ k_ => X3.baloadBooleans hx (j := (qi.toInt32)) (v := (.int (MM.getD (qi) 0))) (by rw [e3]; exact Ar14.1) (State.isArrayOf_alike hZ.alike Ar14.2.1) Ar14.2.2 (own_inb q14a (N := 128) (by decide) (by omega) (by decide)) (q14c.at (own_inb q14a (N := 128) (by decide) (by omega) (by decide)) (own_atI _ (by omega))) (g := (mkF m 126 #[.val (.int p1), .val (.int p2), .val (.int p3), .val (.int p4), .val (.int p5), .val (.int (3 : Int32)), .val (.int (q0.toInt32)), .val (.int (q1.toInt32)), .val (.int (q2.toInt32)), .val (.ref xs), .val (.int (qi.toInt32)), .val (.ref bb), .val (.int (1 : Int32))] [(.int (qi.toInt32)), (.ref bb)])) rfl rfl (hb hby at_126) t_ k_) ?_
    refine GoH.st (T' := T3) (pc' := 129) (L' := #[.val (.int p1), .val (.int p2), .val (.int p3), .val (.int p4), .val (.int p5), .val (.int (3 : Int32)), .val (.int (q0.toInt32)), .val (.int (q1.toInt32)), .val (.int (q2.toInt32)), .val (.ref xs), .val (.int (qi.toInt32)), .val (.ref bb), .val (.int (1 : Int32))]) (S' := [(.int (1 : Int32)), (.int (MM.getD (qi) 0))]) (fun t_ k_ => XS.iload X3.here hx rfl (hb hby at_127) rfl  k_) ?_
    have hval : MM.getD qi 0 = (1 : Int32) := by
      rw [hMM qi (by omega)]
      have hA : qi < 33 := by have := mt (own_ltI (m := 32) (n := qi) (by decide) (by omega)).mpr hc73_6; omega
      exact if_pos (by omega)
    refine GoH.st (T' := T3) (pc' := 132) (L' := #[.val (.int p1), .val (.int p2), .val (.int p3), .val (.int p4), .val (.int p5), .val (.int (3 : Int32)), .val (.int (q0.toInt32)), .val (.int (q1.toInt32)), .val (.int (q2.toInt32)), .val (.ref xs), .val (.int (qi.toInt32)), .val (.ref bb), .val (.int (1 : Int32))]) (S' := []) (fun t_ k_ => XS.icmpNo X3.here hx rfl (hb hby at_129) rfl (teq (hval : ((MM.getD (qi) 0) = (1 : Int32)))).2 k_) ?_
    refine GoH.st (T' := T3) (pc' := 133) (L' := #[.val (.int p1), .val (.int p2), .val (.int p3), .val (.int p4), .val (.int p5), .val (.int (3 : Int32)), .val (.int (q0.toInt32)), .val (.int (q1.toInt32)), .val (.int (q2.toInt32)), .val (.ref xs), .val (.int (qi.toInt32)), .val (.ref bb), .val (.int (1 : Int32))]) (S' := [(.int (1 : Int32))]) (fun t_ k_ => XS.iconst X3.here hx rfl (hb hby at_132) k_) ?_
    refine GoH.st (T' := T3) (pc' := 137) (L' := #[.val (.int p1), .val (.int p2), .val (.int p3), .val (.int p4), .val (.int p5), .val (.int (3 : Int32)), .val (.int (q0.toInt32)), .val (.int (q1.toInt32)), .val (.int (q2.toInt32)), .val (.ref xs), .val (.int (qi.toInt32)), .val (.ref bb), .val (.int (1 : Int32))]) (S' := [(.int (1 : Int32))]) (fun t_ k_ => XS.goto X3.here hx rfl (pc0 := 133) (pc' := 137) rfl (hb hby at_133) (by decide) (by decide) k_) ?_
    exact GoH.retN X3 hx hlk hret (by simp) (hb hby at_137) (by decide) (by decide) hS hk e3 hs0 hZ (own_EW hw) CR (by rw [e3]; exact ⟨rfl, N3⟩)
theorem rm0 (l : Launch) (Z : State) (a0 : Array Value) (hw : ∀ d ∈ tables_1, d.before a0 Z = true) (ws : List Jvm.Cond) (p1 p2 p3 p4 p5 : Int32) (gC : Int32) (h0 : Heap) (n0 : Nat) (Z0 : n0 ≤ h0.size) (SC : Sta Z Z.heap "java/lang/String" "COMPACT_STRINGS" "Z" (.int gC)) (PC : ¬ (gC = (0 : Int32))) (O0 : Old Z n0 h0) :
    MetFree l x (head1 (Jvm.Cond.code x code maxLocals ret :: ws) room_1) (fun aa_ U_ => aa_ = #[(.int p1), (.int p2), (.int p3), (.int p4), (.int p5)] ∧ Z.Warmed39 U_.vm ∧ U_.heap = h0 ∧ CHv Z EL U_.vm h0) (fun _ _ _ _ _ => True) (fun _ U_ o_ W_ => ∃ v_ L_, o_ = .returned v_ ∧ (v_ = some (.int 1) ∧ Fr n0 L_) ∧ CHr Z EL U_.vm U_.heap W_.vm W_.heap ∧ ReturnedEndW U_ o_ W_ L_ room_1.cells room_1.slots) := by
  obtain ⟨q0, hq0, e0⟩ := own_m127 p1
  obtain ⟨q1, hq1, e1⟩ := own_m127 p2
  obtain ⟨q2, hq2, e2⟩ := own_m127 p3
  obtain ⟨qi, hqi, ei⟩ := own_k127 p5
  rcases own_m3 p4 with h | h | h | h
  · exact rm0_0 l Z a0 hw ws p1 p2 p3 p4 p5 q0 q1 q2 qi gC h0 n0 Z0 SC PC O0 hq0 hq1 hq2 hqi h e0 e1 e2 ei
  · exact rm0_1 l Z a0 hw ws p1 p2 p3 p4 p5 q0 q1 q2 qi gC h0 n0 Z0 SC PC O0 hq0 hq1 hq2 hqi h e0 e1 e2 ei
  · exact rm0_2 l Z a0 hw ws p1 p2 p3 p4 p5 q0 q1 q2 qi gC h0 n0 Z0 SC PC O0 hq0 hq1 hq2 hqi h e0 e1 e2 ei
  · exact rm0_3 l Z a0 hw ws p1 p2 p3 p4 p5 q0 q1 q2 qi gC h0 n0 Z0 SC PC O0 hq0 hq1 hq2 hqi h e0 e1 e2 ei
theorem own_sub : ∀ q ∈ EL, q ∈ consts_1 := by decide
set_option maxRecDepth 65536 in
set_option maxHeartbeats 40000000 in
theorem comes_1 {Post : Tables → Env → Array Value → State → Outcome → State → Prop} (hpost : ∀ tb e args s v u, (limb_1_1.after args s (.returned v) u = true ∧ limb_1_2.after args s (.returned v) u = true ∧ True) → Jvm.D.FramedW s (.returned v) u (Jvm.fieldLocs frame_1_writes args s ++ Jvm.arrayLocs frame_1_arrays args s ++ Jvm.staticLocs frame_1_statics s) 24 1408 → Post tb e args s (.returned v) u) :
    ArmFor flags0 classFile x code maxLocals ret World_1 tables_1 room_1 Calls_1 rest_1 Pre_1 Post := by
  intro l hfl _ _ p e ha hc hk s m args below hf hA hF happ hP
  obtain ⟨hcalls, hrest, hpre⟩ := hP
  obtain ⟨-, -, -, hnamed, -, -, -, hat⟩ := (Spec.applies_iff hf).mp happ
  obtain ⟨hg, hn⟩ := and_e (Cond.before_iff.mp (show (Jvm.Cond.and given_1 narrow_1).before args s = true from hpre))
  obtain ⟨gc, gr0⟩ := and_e hg
  obtain ⟨ga0, gr1⟩ := and_e gr0
  obtain ⟨ga1, gr2⟩ := and_e gr1
  obtain ⟨ga2, gr3⟩ := and_e gr2
  obtain ⟨ga3, gr4⟩ := and_e gr3
  have ga4 := gr4
  obtain ⟨w0, w1, w2, w3, w4, rfl⟩ : ∃ w0 w1 w2 w3 w4 : Value, args = #[w0, w1, w2, w3, w4] := by
    have hs : args.size = 5 := by simpa [Cond.value, given_1] using gc
    obtain ⟨L⟩ := args
    match L, hs with
    | [w0, w1, w2, w3, w4], _ => exact ⟨w0, w1, w2, w3, w4, rfl⟩
  have hw := fun d (hd : d ∈ tables_1) => atoms_spec (ws := Jvm.Cond.code x code maxLocals ret :: tables_1) hat d (List.mem_cons_of_mem _ hd)
  have hfit : Fit s := fun {y c} hc i hi => by
    obtain ⟨ha, rfl⟩ := Array.getElem?_eq_some_iff.mp hc
    have q := List.all_eq_true.mp ((Array.all_eq_true_iff_forall_mem.mp hF) _ (Array.getElem_mem ha)) i (List.mem_range.mpr hi)
    simpa [Array.getElem?_eq_getElem hi] using q
  obtain ⟨hsets, hown0⟩ := atoms_of _ (rest_1_c_eq ▸ (show rest_1_c.before _ s = true from hrest))
  obtain ⟨i0, ei0⟩ := is_v ga0
  obtain rfl : w0 = (.int i0) := Option.some.inj ei0
  obtain ⟨i1, ei1⟩ := is_v ga1
  obtain rfl : w1 = (.int i1) := Option.some.inj ei1
  obtain ⟨i2, ei2⟩ := is_v ga2
  obtain rfl : w2 = (.int i2) := Option.some.inj ei2
  obtain ⟨i3, ei3⟩ := is_v ga3
  obtain rfl : w3 = (.int i3) := Option.some.inj ei3
  obtain ⟨i4, ei4⟩ := is_v ga4
  obtain rfl : w4 = (.int i4) := Option.some.inj ei4
  have nc0 := not_v (Cond.before_iff.mp (hsets _ (List.mem_of_getElem? (i := 2) rfl)))
  obtain ⟨gC, eC⟩ := is_v (Cond.before_iff.mp (hsets _ (List.mem_of_getElem? (i := 1) rfl)))
  have SC : Sta s s.heap "java/lang/String" "COMPACT_STRINGS" "Z" (.int gC) := Sta.start eC (Or.inl (hsets _ (List.mem_of_getElem? (i := 0) rfl)))
  have PC : ¬ (gC = (0 : Int32)) := gotF (Cond.eq_ints eC (Term.int_eval (0))) nc0
  have hH0 : CHv s EL s.vm s.heap := CHv.start (own_EW hw) (fun q hq => hcalls.1 q (own_sub q hq)) (hsets _ (List.mem_of_getElem? (i := 2) rfl)) (own_wS hw _ (by simp [Bundle.stringAtoms])) (own_wS hw _ (by simp [Bundle.stringAtoms, Bundle.sN]))
  obtain ⟨n, o, h1, h2, h3, _, L, rfl, ⟨rfl, N⟩, -, hq⟩ := rm0 l s _ hw tables_1 i0 i1 i2 i3 i4 gC s.heap s.heap.size (Nat.le_refl _) SC PC (Old.start s) p e ha hc hk s m _ below hf ((Spec.applies_iff_loose hf).mp happ).1 ⟨rfl, State.Warmed39.refl s, rfl, hH0⟩ trivial
  refine ⟨n, _, h1, h2, h3, hpost _ _ _ _ _ _ ⟨Cond.after_iff.mpr rfl, Cond.after_iff.mpr (eq_i res_at (Term.int_eval (1)) rfl), trivial⟩ ⟨hq.1, hq.2.1, hq.2.2.1, (hq.2.2.2.sift fun y hy => Or.inr (N y hy)).mono (by decide) (by decide)⟩⟩
theorem main_1_1 : Claimed_1_1 := comes_1 fun _ _ _ _ _ _ h hF => ⟨h.1, hF⟩
theorem main_1_2 : Claimed_1_2 := comes_1 fun _ _ _ _ _ _ h hF => ⟨h.2.1, hF⟩
end Jvm.Pilot.@@N@@
namespace Jvm.Pilot.@@N@@
open Jvm Jvm.ClassFile Sem Op Lib Jvm.Free Jvm.Stand Jvm.Pilot.@@N@@.Jvm.D
/-! MADE BY PROGRAM (witnessworld.py) out of the Statement's table words and the real class files: 22 classes; the members and pool entries that the words name. The judged class is class 1, her method 2. -/
namespace start1
open Jvm.ClassFile
def u (s : String) : CpInfo := .utf8 (stringToUtf16 s)
/-- a pool by its gaps: so many unusable entries, then the entry; so many at the end -/
def gap : Nat → List CpInfo → List CpInfo
  | 0, r => r
  | n + 1, r => .unusable :: gap n r
def poolList (es : List (Nat × CpInfo)) (last : Nat) : List CpInfo := es.foldr (fun e r => gap e.1 (e.2 :: r)) (gap last [])
def pool (es : List (Nat × CpInfo)) (last : Nat) : Array CpInfo := ⟨poolList es last⟩
def fileOf (pool : Array CpInfo) (this : Nat) (attrs : Array Attribute := #[]) (ms : Array MethodInfo := #[]) (fl : Nat := 33) (sup : Nat := 0) (ifs : Array Nat := #[]) (fds : Array FieldInfo := #[]) : ClassFile where
  minorVersion := 0
  majorVersion := 65
  constantPool := pool
  accessFlags := fl
  thisClass := this
  superClass := sup
  interfaces := ifs
  fields := fds
  methods := ms
  attributes := attrs
def plain (name : String) (sup : Option ClassId) : Class where
  name := name
  kind := .ordinary
  loader := none
  accessFlags := 33
  super := sup
  interfaces := #[]
  cf := none
  fields := #[]
  methods := #[]
  instanceTypes := #[]
  staticTypes := #[]
  resolved := #[]
  callSites := []
  init := .initialized
  statics := none
  mirror := none

def pool0 : Array CpInfo := pool [(5, u "<init>"), (0, u "()V"), (1, .class_ 10), (1, u "java/lang/Object")] 113

def k0c0 : Code := { maxStack := 0, maxLocals := 1, code := object_method_1_code, exceptionTable := #[], attributes := #[] }
def k0m0 : Method := { name := "<init>", desc := "()V", sig := { parameters := [], returnType := none }, accessFlags := 1, code := some k0c0 }
/-- java/lang/Object -/
def k0 : Class := { plain "java/lang/Object" none with
  accessFlags := 33
  interfaces := #[]
  cf := some (fileOf pool0 8 #[] #[{ accessFlags := 1, nameIndex := 5, descriptorIndex := 6, attributes := #[] }] 33 0 #[] #[])
  fields := #[]
  methods := #[k0m0]
  instanceTypes := #[]
  staticTypes := #[]
  resolved := Array.replicate 124 none
  statics := none }

def pool1 : Array CpInfo := pool [(2, .class_ 4), (1, u "java/lang/Object"), (0, u "<init>"), (0, u "()V"), (0, .class_ 8), (0, u "java/lang/String"), (0, .methodref 7 10), (0, .nameAndType 5 11), (0, u "([C)V"), (0, .methodref 13 14), (0, .class_ 15), (0, .nameAndType 16 17), (0, u "com/example/traversal/traversal/graph/IrisControlsSpaceAndPinLaw"), (0, u "make"), (0, u "(ICCC)Ljava/lang/String;"), (0, .methodref 19 20), (0, .class_ 21), (0, .nameAndType 22 23), (0, u "com/example/traversal/traversal/graph/Iris"), (0, u "controlsSpaceAnd"), (0, u "(Ljava/lang/String;)[Z"), (3, u "law"), (0, u "(IIIII)Z")] 4

def k1m0 : Method := { name := "<init>", desc := "()V", sig := { parameters := [], returnType := none }, accessFlags := 2, code := none }
def k1c1 : Code := { maxStack := 6, maxLocals := 4, code := method_2_code, exceptionTable := #[], attributes := #[] }
def k1m1 : Method := { name := "make", desc := "(ICCC)Ljava/lang/String;", sig := { parameters := [.int, .char, .char, .char], returnType := some (.object "java/lang/String") }, accessFlags := 10, code := some k1c1 }
def k1c2 : Code := { maxStack := 4, maxLocals := 13, code := code, exceptionTable := #[], attributes := #[] }
def k1m2 : Method := { name := "law", desc := "(IIIII)Z", sig := { parameters := [.int, .int, .int, .int, .int], returnType := some .boolean }, accessFlags := 9, code := some k1c2 }
/-- com/example/traversal/traversal/graph/IrisControlsSpaceAndPinLaw -/
def k1 : Class := { plain "com/example/traversal/traversal/graph/IrisControlsSpaceAndPinLaw" (some 0) with
  accessFlags := 49
  interfaces := #[]
  cf := some (fileOf pool1 13 #[] #[{ accessFlags := 2, nameIndex := 5, descriptorIndex := 6, attributes := #[] }, { accessFlags := 10, nameIndex := 16, descriptorIndex := 17, attributes := #[] }, { accessFlags := 9, nameIndex := 27, descriptorIndex := 28, attributes := #[] }] 49 2 #[] #[])
  fields := #[]
  methods := #[k1m0, k1m1, k1m2]
  instanceTypes := #[]
  staticTypes := #[]
  resolved := Array.replicate 33 none
  statics := none }

def pool2 : Array CpInfo := pool [(1, .class_ 2), (0, u "java/io/Serializable"), (0, .class_ 4), (0, u "java/lang/Object")] 2

/-- java/io/Serializable -/
def k2 : Class := { plain "java/io/Serializable" (some 0) with
  accessFlags := 1537
  interfaces := #[]
  cf := some (fileOf pool2 1 #[] #[] 1537 3 #[] #[])
  fields := #[]
  methods := #[]
  instanceTypes := #[]
  staticTypes := #[]
  resolved := Array.replicate 7 none
  statics := none }

def pool3 : Array CpInfo := pool [(1, .class_ 2), (0, u "java/lang/Comparable"), (0, .class_ 4), (0, u "java/lang/Object")] 7

/-- java/lang/Comparable -/
def k3 : Class := { plain "java/lang/Comparable" (some 0) with
  accessFlags := 1537
  interfaces := #[]
  cf := some (fileOf pool3 1 #[] #[] 1537 3 #[] #[])
  fields := #[]
  methods := #[]
  instanceTypes := #[]
  staticTypes := #[]
  resolved := Array.replicate 12 none
  statics := none }

def pool4 : Array CpInfo := pool [(2, .class_ 4), (1, u "java/lang/CharSequence"), (42, .class_ 48), (0, u "java/lang/CharSequence$1CodePointIterator"), (10, .class_ 60), (0, u "java/lang/CharSequence$1CharIterator"), (5, .class_ 67), (0, u "java/lang/Object")] 63

/-- java/lang/CharSequence -/
def k4 : Class := { plain "java/lang/CharSequence" (some 0) with
  accessFlags := 1537
  interfaces := #[]
  cf := some (fileOf pool4 2 #[.nestMembers #[47, 59]] #[] 1537 66 #[] #[])
  fields := #[]
  methods := #[]
  instanceTypes := #[]
  staticTypes := #[]
  resolved := Array.replicate 131 none
  statics := none }

def pool5 : Array CpInfo := pool [(1, .class_ 2), (0, u "java/lang/constant/Constable"), (0, .class_ 4), (0, u "java/lang/Object")] 6

/-- java/lang/constant/Constable -/
def k5 : Class := { plain "java/lang/constant/Constable" (some 0) with
  accessFlags := 1537
  interfaces := #[]
  cf := some (fileOf pool5 1 #[] #[] 1537 3 #[] #[])
  fields := #[]
  methods := #[]
  instanceTypes := #[]
  staticTypes := #[]
  resolved := Array.replicate 11 none
  statics := none }

def pool6 : Array CpInfo := pool [(1, .class_ 2), (0, u "java/lang/constant/ConstantDesc"), (0, .class_ 4), (0, u "java/lang/Object")] 32

/-- java/lang/constant/ConstantDesc -/
def k6 : Class := { plain "java/lang/constant/ConstantDesc" (some 0) with
  accessFlags := 1537
  interfaces := #[]
  cf := some (fileOf pool6 1 #[] #[] 1537 3 #[] #[])
  fields := #[]
  methods := #[]
  instanceTypes := #[]
  staticTypes := #[]
  resolved := Array.replicate 37 none
  statics := none }

def pool7 : Array CpInfo := pool [(1, .methodref 2 3), (0, .class_ 4), (0, .nameAndType 5 6), (0, u "java/lang/Object"), (0, u "<init>"), (0, u "()V"), (0, .string 8), (0, u ""), (0, .fieldref 10 11), (0, .class_ 12), (0, .nameAndType 13 14), (0, u "java/lang/String"), (0, u "value"), (0, u "[B"), (0, .fieldref 10 16), (0, .nameAndType 17 18), (0, u "coder"), (0, u "B"), (2, u "hash"), (0, u "I"), (2, u "hashIsZero"), (0, u "Z"), (0, .methodref 10 28), (0, .nameAndType 5 29), (0, u "([CIILjava/lang/Void;)V"), (8, .fieldref 10 39), (0, .nameAndType 40 26), (0, u "COMPACT_STRINGS"), (1, .class_ 44), (1, u "java/lang/StringUTF16"), (0, u "compress"), (1, .methodref 42 48), (0, .nameAndType 49 50), (0, u "coderFromArrayLen"), (0, u "([BI)B"), (56, .class_ 109), (1, u "java/lang/StringLatin1"), (32, u "()Z"), (34, .methodref 42 178), (0, .nameAndType 45 179), (0, u "([CII)[B"), (119, .methodref 107 300), (0, .nameAndType 301 302), (0, u "toChars"), (0, u "([B)[C"), (189, .methodref 10 493), (0, .nameAndType 494 142), (0, u "isLatin1"), (80, .class_ 576), (0, u "java/lang/CharSequence"), (22, u "CASE_INSENSITIVE_ORDER"), (0, u "Ljava/util/Comparator;"), (354, u "toCharArray"), (0, u "()[C"), (53, u "([C)V"), (90, u "serialPersistentFields"), (0, u "[Ljava/io/ObjectStreamField;"), (0, .class_ 1104), (0, u "java/lang/String$CaseInsensitiveComparator"), (1, .class_ 1107), (0, u "java/io/Serializable"), (0, .class_ 1109), (0, u "java/lang/Comparable"), (0, .class_ 1111), (0, u "java/lang/constant/Constable"), (0, .class_ 1113), (0, u "java/lang/constant/ConstantDesc"), (2, u "serialVersionUID"), (0, u "J"), (3, u "REPL"), (0, u "C"), (2, u "LATIN1"), (1, u "UTF16")] 323

def k7m0 : Method := { name := "<init>", desc := "()V", sig := { parameters := [], returnType := none }, accessFlags := 1, code := none }
def k7c1 : Code := { maxStack := 5, maxLocals := 2, code := jdk_42_method_3_code, exceptionTable := #[], attributes := #[] }
def k7m1 : Method := { name := "<init>", desc := "([C)V", sig := { parameters := [(.array .char)], returnType := none }, accessFlags := 1, code := some k7c1 }
def k7c2 : Code := { maxStack := 1, maxLocals := 1, code := jdk_42_method_129_code, exceptionTable := #[], attributes := #[] }
def k7m2 : Method := { name := "toCharArray", desc := "()[C", sig := { parameters := [], returnType := some (.array .char) }, accessFlags := 1, code := some k7c2 }
def k7c3 : Code := { maxStack := 4, maxLocals := 6, code := jdk_42_method_149_code, exceptionTable := #[], attributes := #[] }
def k7m3 : Method := { name := "<init>", desc := "([CIILjava/lang/Void;)V", sig := { parameters := [(.array .char), .int, .int, (.object "java/lang/Void")], returnType := none }, accessFlags := 2, code := some k7c3 }
def k7c4 : Code := { maxStack := 1, maxLocals := 1, code := jdk_42_method_154_code, exceptionTable := #[], attributes := #[] }
def k7m4 : Method := { name := "isLatin1", desc := "()Z", sig := { parameters := [], returnType := some .boolean }, accessFlags := 0, code := some k7c4 }
/-- java/lang/String -/
def k7 : Class := { plain "java/lang/String" (some 0) with
  accessFlags := 49
  interfaces := #[2, 3, 4, 5, 6]
  cf := some (fileOf pool7 10 #[.nestMembers #[1103]] #[{ accessFlags := 1, nameIndex := 5, descriptorIndex := 6, attributes := #[] }, { accessFlags := 1, nameIndex := 5, descriptorIndex := 1010, attributes := #[] }, { accessFlags := 1, nameIndex := 955, descriptorIndex := 956, attributes := #[] }, { accessFlags := 2, nameIndex := 5, descriptorIndex := 29, attributes := #[] }, { accessFlags := 0, nameIndex := 494, descriptorIndex := 142, attributes := #[] }] 49 2 #[1106, 1108, 575, 1110, 1112] #[{ accessFlags := 18, nameIndex := 13, descriptorIndex := 14, attributes := #[] }, { accessFlags := 18, nameIndex := 17, descriptorIndex := 18, attributes := #[] }, { accessFlags := 2, nameIndex := 21, descriptorIndex := 22, attributes := #[] }, { accessFlags := 2, nameIndex := 25, descriptorIndex := 26, attributes := #[] }, { accessFlags := 26, nameIndex := 1116, descriptorIndex := 1117, attributes := #[] }, { accessFlags := 24, nameIndex := 40, descriptorIndex := 26, attributes := #[] }, { accessFlags := 26, nameIndex := 1101, descriptorIndex := 1102, attributes := #[] }, { accessFlags := 26, nameIndex := 1121, descriptorIndex := 1122, attributes := #[] }, { accessFlags := 25, nameIndex := 599, descriptorIndex := 600, attributes := #[] }, { accessFlags := 24, nameIndex := 1125, descriptorIndex := 18, attributes := #[] }, { accessFlags := 24, nameIndex := 1127, descriptorIndex := 18, attributes := #[] }])
  fields := #[{ name := "value", type := (.array .byte), accessFlags := 18, slot := 0, constantValue := 0 }, { name := "coder", type := .byte, accessFlags := 18, slot := 1, constantValue := 0 }, { name := "hash", type := .int, accessFlags := 2, slot := 2, constantValue := 0 }, { name := "hashIsZero", type := .boolean, accessFlags := 2, slot := 3, constantValue := 0 }, { name := "serialVersionUID", type := .long, accessFlags := 26, slot := 0, constantValue := 0 }, { name := "COMPACT_STRINGS", type := .boolean, accessFlags := 24, slot := 1, constantValue := 0 }, { name := "serialPersistentFields", type := (.array (.object "java/io/ObjectStreamField")), accessFlags := 26, slot := 2, constantValue := 0 }, { name := "REPL", type := .char, accessFlags := 26, slot := 3, constantValue := 0 }, { name := "CASE_INSENSITIVE_ORDER", type := (.object "java/util/Comparator"), accessFlags := 25, slot := 4, constantValue := 0 }, { name := "LATIN1", type := .byte, accessFlags := 24, slot := 5, constantValue := 0 }, { name := "UTF16", type := .byte, accessFlags := 24, slot := 6, constantValue := 0 }]
  methods := #[k7m0, k7m1, k7m2, k7m3, k7m4]
  instanceTypes := #[(.array .byte), .byte, .int, .boolean]
  staticTypes := #[.long, .boolean, (.array (.object "java/io/ObjectStreamField")), .char, (.object "java/util/Comparator"), .byte, .byte]
  resolved := Array.replicate 1451 none
  statics := some 0 }

def pool8 : Array CpInfo := pool [(6, .class_ 8), (1, u "java/lang/Object"), (0, u "<init>"), (0, u "()V"), (1, .class_ 14), (1, u "java/lang/StringUTF16"), (31, u "$assertionsDisabled"), (0, u "Z"), (13, u "HI_BYTE_SHIFT"), (0, u "I"), (2, u "LO_BYTE_SHIFT"), (49, .methodref 12 116), (0, .nameAndType 117 118), (0, u "compress"), (0, u "([CI[BII)I"), (3, u "([CII)[B"), (138, u "coderFromArrayLen"), (0, u "([BI)B"), (106, .class_ 371), (1, u "java/lang/StringUTF16$LinesSpliterator"), (58, u "MAX_LENGTH"), (196, .class_ 628), (0, u "java/lang/StringUTF16$CodePointsSpliterator"), (0, .class_ 630), (0, u "java/lang/StringUTF16$CharsSpliterator")] 4

def k8m0 : Method := { name := "<init>", desc := "()V", sig := { parameters := [], returnType := none }, accessFlags := 0, code := none }
def k8c1 : Code := { maxStack := 2, maxLocals := 2, code := jdk_52_method_15_code, exceptionTable := #[], attributes := #[] }
def k8m1 : Method := { name := "coderFromArrayLen", desc := "([BI)B", sig := { parameters := [(.array .byte), .int], returnType := some .byte }, accessFlags := 8, code := some k8c1 }
def k8c2 : Code := { maxStack := 5, maxLocals := 6, code := jdk_52_method_16_code, exceptionTable := #[], attributes := #[] }
def k8m2 : Method := { name := "compress", desc := "([CII)[B", sig := { parameters := [(.array .char), .int, .int], returnType := some (.array .byte) }, accessFlags := 9, code := some k8c2 }
def k8c3 : Code := { maxStack := 3, maxLocals := 7, code := jdk_52_method_21_code, exceptionTable := #[], attributes := #[] }
def k8m3 : Method := { name := "compress", desc := "([CI[BII)I", sig := { parameters := [(.array .char), .int, (.array .byte), .int, .int], returnType := some .int }, accessFlags := 9, code := some k8c3 }
/-- java/lang/StringUTF16 -/
def k8 : Class := { plain "java/lang/StringUTF16" (some 0) with
  accessFlags := 48
  interfaces := #[]
  cf := some (fileOf pool8 12 #[.nestMembers #[627, 629, 369]] #[{ accessFlags := 0, nameIndex := 9, descriptorIndex := 10, attributes := #[] }, { accessFlags := 8, nameIndex := 261, descriptorIndex := 262, attributes := #[] }, { accessFlags := 9, nameIndex := 117, descriptorIndex := 122, attributes := #[] }, { accessFlags := 9, nameIndex := 117, descriptorIndex := 118, attributes := #[] }] 48 6 #[] #[{ accessFlags := 26, nameIndex := 61, descriptorIndex := 62, attributes := #[] }, { accessFlags := 26, nameIndex := 65, descriptorIndex := 62, attributes := #[] }, { accessFlags := 24, nameIndex := 430, descriptorIndex := 62, attributes := #[] }, { accessFlags := 4120, nameIndex := 46, descriptorIndex := 47, attributes := #[] }])
  fields := #[{ name := "HI_BYTE_SHIFT", type := .int, accessFlags := 26, slot := 0, constantValue := 0 }, { name := "LO_BYTE_SHIFT", type := .int, accessFlags := 26, slot := 1, constantValue := 0 }, { name := "MAX_LENGTH", type := .int, accessFlags := 24, slot := 2, constantValue := 0 }, { name := "$assertionsDisabled", type := .boolean, accessFlags := 4120, slot := 3, constantValue := 0 }]
  methods := #[k8m0, k8m1, k8m2, k8m3]
  instanceTypes := #[]
  staticTypes := #[.int, .int, .int, .boolean]
  resolved := Array.replicate 635 none
  statics := none }

def pool9 : Array CpInfo := pool [(2, .class_ 4), (1, u "java/lang/Object"), (0, u "<init>"), (0, u "()V"), (0, .methodref 8 9), (0, .class_ 10), (0, .nameAndType 11 12), (0, u "java/lang/String"), (0, u "toCharArray"), (0, u "()[C"), (1, .class_ 16), (1, u "com/example/traversal/traversal/graph/Iris"), (71, u "SPECIAL"), (0, u "[Z"), (38, u "PARTS"), (0, u "Ljava/util/regex/Pattern;"), (71, u "controlsSpaceAnd"), (0, u "(Ljava/lang/String;)[Z")] 33

def k9m0 : Method := { name := "<init>", desc := "()V", sig := { parameters := [], returnType := none }, accessFlags := 2, code := none }
def k9c1 : Code := { maxStack := 3, maxLocals := 6, code := prog_43_method_2_code, exceptionTable := #[], attributes := #[] }
def k9m1 : Method := { name := "controlsSpaceAnd", desc := "(Ljava/lang/String;)[Z", sig := { parameters := [(.object "java/lang/String")], returnType := some (.array .boolean) }, accessFlags := 8, code := some k9c1 }
/-- com/example/traversal/traversal/graph/Iris -/
def k9 : Class := { plain "com/example/traversal/traversal/graph/Iris" (some 0) with
  accessFlags := 32
  interfaces := #[]
  cf := some (fileOf pool9 14 #[] #[{ accessFlags := 2, nameIndex := 5, descriptorIndex := 6, attributes := #[] }, { accessFlags := 8, nameIndex := 201, descriptorIndex := 202, attributes := #[] }] 32 2 #[] #[{ accessFlags := 26, nameIndex := 128, descriptorIndex := 129, attributes := #[] }, { accessFlags := 26, nameIndex := 88, descriptorIndex := 89, attributes := #[] }])
  fields := #[{ name := "PARTS", type := (.object "java/util/regex/Pattern"), accessFlags := 26, slot := 0, constantValue := 0 }, { name := "SPECIAL", type := (.array .boolean), accessFlags := 26, slot := 1, constantValue := 0 }]
  methods := #[k9m0, k9m1]
  instanceTypes := #[]
  staticTypes := #[(.object "java/util/regex/Pattern"), (.array .boolean)]
  resolved := Array.replicate 236 none
  statics := none }

def pool10 : Array CpInfo := pool [(4, .class_ 6), (1, u "java/lang/Object"), (0, u "<init>"), (0, u "()V"), (4, .methodref 14 15), (0, .class_ 16), (0, .nameAndType 17 18), (0, u "java/lang/StringLatin1"), (0, u "inflate"), (0, u "([BI[CII)V"), (102, u "$assertionsDisabled"), (0, u "Z"), (69, u "toChars"), (28, .class_ 223), (1, u "java/lang/StringLatin1$LinesSpliterator"), (44, u "([B)[C"), (121, .class_ 391), (0, u "java/lang/StringLatin1$CharsSpliterator")] 3

def k10m0 : Method := { name := "<init>", desc := "()V", sig := { parameters := [], returnType := none }, accessFlags := 0, code := none }
def k10c1 : Code := { maxStack := 5, maxLocals := 2, code := jdk_43_method_9_code, exceptionTable := #[], attributes := #[] }
def k10m1 : Method := { name := "toChars", desc := "([B)[C", sig := { parameters := [(.array .byte)], returnType := some (.array .char) }, accessFlags := 9, code := some k10c1 }
def k10c2 : Code := { maxStack := 4, maxLocals := 6, code := jdk_43_method_49_code, exceptionTable := #[], attributes := #[] }
def k10m2 : Method := { name := "inflate", desc := "([BI[CII)V", sig := { parameters := [(.array .byte), .int, (.array .char), .int, .int], returnType := none }, accessFlags := 9, code := some k10c2 }
/-- java/lang/StringLatin1 -/
def k10 : Class := { plain "java/lang/StringLatin1" (some 0) with
  accessFlags := 48
  interfaces := #[]
  cf := some (fileOf pool10 14 #[.nestMembers #[390, 221]] #[{ accessFlags := 0, nameIndex := 7, descriptorIndex := 8, attributes := #[] }, { accessFlags := 9, nameIndex := 192, descriptorIndex := 268, attributes := #[] }, { accessFlags := 9, nameIndex := 17, descriptorIndex := 18, attributes := #[] }] 48 4 #[] #[{ accessFlags := 4120, nameIndex := 121, descriptorIndex := 122, attributes := #[] }])
  fields := #[{ name := "$assertionsDisabled", type := .boolean, accessFlags := 4120, slot := 0, constantValue := 0 }]
  methods := #[k10m0, k10m1, k10m2]
  instanceTypes := #[]
  staticTypes := #[.boolean]
  resolved := Array.replicate 395 none
  statics := none }

def pool11 : Array CpInfo := pool [(2, .class_ 4), (1, u "java/lang/Object"), (0, u "<init>"), (0, u "()V"), (17, .class_ 26), (1, u "jdk/internal/util/Preconditions"), (28, .class_ 56), (0, u "jdk/internal/util/Preconditions$4"), (57, .class_ 115), (0, u "jdk/internal/util/Preconditions$1"), (7, u "SIOOBE_FORMATTER"), (0, u "Ljava/util/function/BiFunction;"), (0, .class_ 126), (0, u "jdk/internal/util/Preconditions$2"), (3, u "AIOOBE_FORMATTER"), (0, .class_ 132), (0, u "jdk/internal/util/Preconditions$3"), (3, u "IOOBE_FORMATTER")] 57

def k11m0 : Method := { name := "<init>", desc := "()V", sig := { parameters := [], returnType := none }, accessFlags := 1, code := none }
/-- jdk/internal/util/Preconditions -/
def k11 : Class := { plain "jdk/internal/util/Preconditions" (some 0) with
  accessFlags := 33
  interfaces := #[]
  cf := some (fileOf pool11 24 #[.nestMembers #[55, 131, 125, 114]] #[{ accessFlags := 1, nameIndex := 5, descriptorIndex := 6, attributes := #[] }] 33 2 #[] #[{ accessFlags := 25, nameIndex := 123, descriptorIndex := 124, attributes := #[] }, { accessFlags := 25, nameIndex := 130, descriptorIndex := 124, attributes := #[] }, { accessFlags := 25, nameIndex := 136, descriptorIndex := 124, attributes := #[] }])
  fields := #[{ name := "SIOOBE_FORMATTER", type := (.object "java/util/function/BiFunction"), accessFlags := 25, slot := 0, constantValue := 0 }, { name := "AIOOBE_FORMATTER", type := (.object "java/util/function/BiFunction"), accessFlags := 25, slot := 1, constantValue := 0 }, { name := "IOOBE_FORMATTER", type := (.object "java/util/function/BiFunction"), accessFlags := 25, slot := 2, constantValue := 0 }]
  methods := #[k11m0]
  instanceTypes := #[]
  staticTypes := #[(.object "java/util/function/BiFunction"), (.object "java/util/function/BiFunction"), (.object "java/util/function/BiFunction")]
  resolved := Array.replicate 194 none
  statics := some 1 }

def pool12 : Array CpInfo := pool [(9, u "<init>"), (6, .class_ 18), (1, u "java/lang/Object"), (0, u "()V"), (1, .class_ 23), (1, u "jdk/internal/util/ArraysSupport"), (0, u "LOG2_ARRAY_LONG_INDEX_SCALE"), (0, u "I"), (2, u "U"), (0, u "Ljdk/internal/misc/Unsafe;"), (8, u "BIG_ENDIAN"), (0, u "Z"), (8, u "LOG2_BYTE_BIT_SIZE"), (4, u "LOG2_ARRAY_INT_INDEX_SCALE"), (54, u "JLA"), (0, u "Ljdk/internal/access/JavaLangAccess;"), (11, u "LOG2_ARRAY_BOOLEAN_INDEX_SCALE"), (9, u "LOG2_ARRAY_BYTE_INDEX_SCALE"), (5, u "LOG2_ARRAY_CHAR_INDEX_SCALE"), (5, u "LOG2_ARRAY_SHORT_INDEX_SCALE"), (18, u "LOG2_ARRAY_FLOAT_INDEX_SCALE"), (24, u "LOG2_ARRAY_DOUBLE_INDEX_SCALE"), (89, u "T_BOOLEAN"), (2, u "T_CHAR"), (1, u "T_FLOAT"), (1, u "T_DOUBLE"), (1, u "T_BYTE"), (1, u "T_SHORT"), (1, u "T_INT"), (1, u "T_LONG"), (1, u "SOFT_MAX_ARRAY_LENGTH")] 83

def k12m0 : Method := { name := "<init>", desc := "()V", sig := { parameters := [], returnType := none }, accessFlags := 2, code := none }
/-- jdk/internal/util/ArraysSupport -/
def k12 : Class := { plain "jdk/internal/util/ArraysSupport" (some 0) with
  accessFlags := 33
  interfaces := #[]
  cf := some (fileOf pool12 21 #[] #[{ accessFlags := 2, nameIndex := 9, descriptorIndex := 19, attributes := #[] }] 33 16 #[] #[{ accessFlags := 24, nameIndex := 28, descriptorIndex := 29, attributes := #[] }, { accessFlags := 26, nameIndex := 38, descriptorIndex := 39, attributes := #[] }, { accessFlags := 25, nameIndex := 121, descriptorIndex := 25, attributes := #[] }, { accessFlags := 25, nameIndex := 131, descriptorIndex := 25, attributes := #[] }, { accessFlags := 25, nameIndex := 137, descriptorIndex := 25, attributes := #[] }, { accessFlags := 25, nameIndex := 143, descriptorIndex := 25, attributes := #[] }, { accessFlags := 25, nameIndex := 53, descriptorIndex := 25, attributes := #[] }, { accessFlags := 25, nameIndex := 24, descriptorIndex := 25, attributes := #[] }, { accessFlags := 25, nameIndex := 162, descriptorIndex := 25, attributes := #[] }, { accessFlags := 25, nameIndex := 187, descriptorIndex := 25, attributes := #[] }, { accessFlags := 26, nameIndex := 48, descriptorIndex := 25, attributes := #[] }, { accessFlags := 25, nameIndex := 277, descriptorIndex := 25, attributes := #[] }, { accessFlags := 25, nameIndex := 280, descriptorIndex := 25, attributes := #[] }, { accessFlags := 25, nameIndex := 282, descriptorIndex := 25, attributes := #[] }, { accessFlags := 25, nameIndex := 284, descriptorIndex := 25, attributes := #[] }, { accessFlags := 25, nameIndex := 286, descriptorIndex := 25, attributes := #[] }, { accessFlags := 25, nameIndex := 288, descriptorIndex := 25, attributes := #[] }, { accessFlags := 25, nameIndex := 290, descriptorIndex := 25, attributes := #[] }, { accessFlags := 25, nameIndex := 292, descriptorIndex := 25, attributes := #[] }, { accessFlags := 26, nameIndex := 108, descriptorIndex := 109, attributes := #[] }, { accessFlags := 25, nameIndex := 294, descriptorIndex := 25, attributes := #[] }])
  fields := #[{ name := "U", type := (.object "jdk/internal/misc/Unsafe"), accessFlags := 24, slot := 0, constantValue := 0 }, { name := "BIG_ENDIAN", type := .boolean, accessFlags := 26, slot := 1, constantValue := 0 }, { name := "LOG2_ARRAY_BOOLEAN_INDEX_SCALE", type := .int, accessFlags := 25, slot := 2, constantValue := 0 }, { name := "LOG2_ARRAY_BYTE_INDEX_SCALE", type := .int, accessFlags := 25, slot := 3, constantValue := 0 }, { name := "LOG2_ARRAY_CHAR_INDEX_SCALE", type := .int, accessFlags := 25, slot := 4, constantValue := 0 }, { name := "LOG2_ARRAY_SHORT_INDEX_SCALE", type := .int, accessFlags := 25, slot := 5, constantValue := 0 }, { name := "LOG2_ARRAY_INT_INDEX_SCALE", type := .int, accessFlags := 25, slot := 6, constantValue := 0 }, { name := "LOG2_ARRAY_LONG_INDEX_SCALE", type := .int, accessFlags := 25, slot := 7, constantValue := 0 }, { name := "LOG2_ARRAY_FLOAT_INDEX_SCALE", type := .int, accessFlags := 25, slot := 8, constantValue := 0 }, { name := "LOG2_ARRAY_DOUBLE_INDEX_SCALE", type := .int, accessFlags := 25, slot := 9, constantValue := 0 }, { name := "LOG2_BYTE_BIT_SIZE", type := .int, accessFlags := 26, slot := 10, constantValue := 0 }, { name := "T_BOOLEAN", type := .int, accessFlags := 25, slot := 11, constantValue := 0 }, { name := "T_CHAR", type := .int, accessFlags := 25, slot := 12, constantValue := 0 }, { name := "T_FLOAT", type := .int, accessFlags := 25, slot := 13, constantValue := 0 }, { name := "T_DOUBLE", type := .int, accessFlags := 25, slot := 14, constantValue := 0 }, { name := "T_BYTE", type := .int, accessFlags := 25, slot := 15, constantValue := 0 }, { name := "T_SHORT", type := .int, accessFlags := 25, slot := 16, constantValue := 0 }, { name := "T_INT", type := .int, accessFlags := 25, slot := 17, constantValue := 0 }, { name := "T_LONG", type := .int, accessFlags := 25, slot := 18, constantValue := 0 }, { name := "JLA", type := (.object "jdk/internal/access/JavaLangAccess"), accessFlags := 26, slot := 19, constantValue := 0 }, { name := "SOFT_MAX_ARRAY_LENGTH", type := .int, accessFlags := 25, slot := 20, constantValue := 0 }]
  methods := #[k12m0]
  instanceTypes := #[]
  staticTypes := #[(.object "jdk/internal/misc/Unsafe"), .boolean, .int, .int, .int, .int, .int, .int, .int, .int, .int, .int, .int, .int, .int, .int, .int, .int, .int, (.object "jdk/internal/access/JavaLangAccess"), .int]
  resolved := Array.replicate 378 none
  statics := none }

def pool13 : Array CpInfo := pool [(1, u "java/lang/Cloneable"), (0, .class_ 1), (0, u "java/lang/Object"), (0, .class_ 3)] 3

/-- java/lang/Cloneable -/
def k13 : Class := { plain "java/lang/Cloneable" (some 0) with
  accessFlags := 1537
  interfaces := #[]
  cf := some (fileOf pool13 2 #[] #[] 1537 4 #[] #[])
  fields := #[]
  methods := #[]
  instanceTypes := #[]
  staticTypes := #[]
  resolved := Array.replicate 8 none
  statics := none }

/-- the primitive boolean -/
def k14 : Class := { plain "boolean" none with kind := .primitive 'Z', accessFlags := 0x411 }
/-- [Z -/
def k15 : Class := { plain "[Z" (some 0) with kind := .array 14 .boolean, interfaces := #[13, 2], accessFlags := 1041 }

/-- the primitive byte -/
def k16 : Class := { plain "byte" none with kind := .primitive 'B', accessFlags := 0x411 }
/-- [B -/
def k17 : Class := { plain "[B" (some 0) with kind := .array 16 .byte, interfaces := #[13, 2], accessFlags := 1041 }

/-- the primitive char -/
def k18 : Class := { plain "char" none with kind := .primitive 'C', accessFlags := 0x411 }
/-- [C -/
def k19 : Class := { plain "[C" (some 0) with kind := .array 18 .char, interfaces := #[13, 2], accessFlags := 1041 }

/-- the primitive int -/
def k20 : Class := { plain "int" none with kind := .primitive 'I', accessFlags := 0x411 }
/-- [I -/
def k21 : Class := { plain "[I" (some 0) with kind := .array 20 .int, interfaces := #[13, 2], accessFlags := 1041 }

def heap : Heap := #[{ cls := 7, slots := #[.long 0, .int 1, .null, .int 0, .null, .int 0, .int 0], vm := .statics 7 },
  { cls := 11, slots := #[.null, .null, .null], vm := .statics 11 }]
def classes : Array Class := #[k0, k1, k2, k3, k4, k5, k6, k7, k8, k9, k10, k11, k12, k13, k14, k15, k16, k17, k18, k19, k20, k21]
def interned : List (Array UInt16 × Addr) := []
def slotsUsed : Nat := 10
def theMethod : MethodId := ⟨1, 2⟩
def args0 : Array Value := #[.int 65, .int 66, .int 67, .int 2, .int 40]
def aboutOver (below : List Frame) : State where
  vm := { classes := classes, interned := interned.toArray }
  heap := heap
  slotsUsed := slotsUsed
  threads := #[{ frames := .invoking theMethod args0 :: below }]
def below0 : List Frame := [.native { method := ⟨0, 0⟩, args := #[] }]
def about1 : State := aboutOver below0
def p0 : Program := .bare "" "" ""
def e0 : Env := launch0.env 0 0 0
theorem w_frames : about1.frames = Frame.invoking theMethod args0 :: below0 := rfl
set_option maxRecDepth 65536 in
theorem w_args : argsFit about1.vm theMethod args0 = true := by decide +kernel
set_option maxRecDepth 65536 in
theorem w_heap : heapFits about1 = true := by decide +kernel
set_option maxRecDepth 65536 in
theorem w_runnable : about1.curStatus? = some .runnable := by decide +kernel
set_option maxRecDepth 65536 in
theorem w_alone : about1.alone = true := by decide +kernel
set_option maxRecDepth 65536 in
theorem w_named : about1.methodNamed? x = some theMethod := by decide +kernel
set_option maxRecDepth 65536 in
theorem w_hears : about1.hears theMethod below0 = true := by decide +kernel
set_option maxRecDepth 65536 in
theorem w_ripe : about1.ripe theMethod args0 below0 = true := by decide +kernel
theorem w_running : about1.status = .running := rfl
set_option maxRecDepth 65536 in
theorem w_room : about1.hasRoom e0.platform room_1 = true :=
  launch0.hasRoom_least _ room_1 (by decide +kernel) (by decide +kernel) (by decide +kernel) (by decide +kernel) (by decide +kernel) (by decide +kernel)
theorem allAtoms_all (ts : List Jvm.Cond) (a : Array Jvm.Value) (st : Jvm.State) : (allAtoms ts).before a st = ts.all (fun c => c.before a st) := by
  induction ts with
  | nil => rfl
  | cons c t ih =>
    show (Jvm.Cond.and c (allAtoms t)).before a st = _
    rw [Jvm.Cond.before_and, ih, List.all_cons]
def words1 : List Jvm.Cond := Jvm.Cond.code x code maxLocals ret :: tables_1
/-- a 'code' word, met by the world's own term for the bytes: nothing is compared byte by byte -/
theorem code_word {y : MethodName} {bytes : ByteArray} {mx : Nat} {rt : Option FieldType} {a : Array Value} {s : State} {m : MethodId} {meth : Method} {c : Code} (h1 : s.methodNamed? y = some m) (h2 : s.vm.method? m = some meth) (h3 : meth.code = some c) (h4 : c.code = bytes)
    (h5 : (c.maxLocals == mx && c.exceptionTable.isEmpty && decide (c.maxStack ≤ mostOperands) && decide (meth.sig.returnType = rt) && !meth.locks && decide (parseMethodDescriptor y.desc = some meth.sig)) = true) : (Jvm.Cond.code y bytes mx rt).before a s = true := by
  simp only [Bool.and_eq_true, beq_iff_eq, Bool.not_eq_true', decide_eq_true_eq] at h5
  obtain ⟨⟨⟨⟨⟨g1, g2⟩, g3⟩, g4⟩, g5⟩, g6⟩ := h5
  simp [Cond.before, Cond.holds, Cond.value, h1, h2, h3, h4, g1, g2, g3, g4, g5, g6]
def isCode : Jvm.Cond → Bool
  | .code _ _ _ _ => true
  | _ => false
theorem all_split {L : List Jvm.Cond} {P : Jvm.Cond → Bool} (h1 : L.all (fun c => isCode c || P c) = true) (h2 : ∀ c ∈ L.filter isCode, P c = true) : L.all P = true := by
  refine List.all_eq_true.mpr fun c hc => ?_
  have h := List.all_eq_true.mp h1 c hc
  rcases Bool.eq_false_or_eq_true (isCode c) with hi | hi
  · exact h2 c (List.mem_filter.mpr ⟨hc, hi⟩)
  · simpa [hi] using h
set_option maxRecDepth 65536 in
theorem w_c0 : (Jvm.Cond.code x code maxLocals ret).before args0 about1 = true := code_word (m := ⟨1, 2⟩) (meth := k1m2) (c := k1c2) (by decide +kernel) rfl rfl rfl (by decide +kernel)
set_option maxRecDepth 65536 in
theorem w_c1 : (Jvm.Cond.code ({ cls := "com/example/traversal/traversal/graph/IrisControlsSpaceAndPinLaw", name := "make", desc := "(ICCC)Ljava/lang/String;" } : Jvm.MethodName) method_2_code (4 : Nat) (Option.some (Jvm.ClassFile.FieldType.object "java/lang/String"))).before args0 about1 = true := code_word (m := ⟨1, 1⟩) (meth := k1m1) (c := k1c1) (by decide +kernel) rfl rfl rfl (by decide +kernel)
set_option maxRecDepth 65536 in
theorem w_c2 : (Jvm.Cond.code ({ cls := "java/lang/String", name := "<init>", desc := "([C)V" } : Jvm.MethodName) jdk_42_method_3_code (2 : Nat) (Option.none : Option Jvm.ClassFile.FieldType)).before args0 about1 = true := code_word (m := ⟨7, 1⟩) (meth := k7m1) (c := k7c1) (by decide +kernel) rfl rfl rfl (by decide +kernel)
set_option maxRecDepth 65536 in
theorem w_c3 : (Jvm.Cond.code ({ cls := "java/lang/String", name := "<init>", desc := "([CIILjava/lang/Void;)V" } : Jvm.MethodName) jdk_42_method_149_code (6 : Nat) (Option.none : Option Jvm.ClassFile.FieldType)).before args0 about1 = true := code_word (m := ⟨7, 3⟩) (meth := k7m3) (c := k7c3) (by decide +kernel) rfl rfl rfl (by decide +kernel)
set_option maxRecDepth 65536 in
theorem w_c4 : (Jvm.Cond.code ({ cls := "java/lang/Object", name := "<init>", desc := "()V" } : Jvm.MethodName) object_method_1_code (1 : Nat) (Option.none : Option Jvm.ClassFile.FieldType)).before args0 about1 = true := code_word (m := ⟨0, 0⟩) (meth := k0m0) (c := k0c0) (by decide +kernel) rfl rfl rfl (by decide +kernel)
set_option maxRecDepth 65536 in
theorem w_c5 : (Jvm.Cond.code ({ cls := "java/lang/StringUTF16", name := "compress", desc := "([CII)[B" } : Jvm.MethodName) jdk_52_method_16_code (6 : Nat) (Option.some (Jvm.ClassFile.FieldType.array Jvm.ClassFile.FieldType.byte))).before args0 about1 = true := code_word (m := ⟨8, 2⟩) (meth := k8m2) (c := k8c2) (by decide +kernel) rfl rfl rfl (by decide +kernel)
set_option maxRecDepth 65536 in
theorem w_c6 : (Jvm.Cond.code ({ cls := "java/lang/StringUTF16", name := "compress", desc := "([CI[BII)I" } : Jvm.MethodName) jdk_52_method_21_code (7 : Nat) (Option.some Jvm.ClassFile.FieldType.int)).before args0 about1 = true := code_word (m := ⟨8, 3⟩) (meth := k8m3) (c := k8c3) (by decide +kernel) rfl rfl rfl (by decide +kernel)
set_option maxRecDepth 65536 in
theorem w_c7 : (Jvm.Cond.code ({ cls := "java/lang/StringUTF16", name := "coderFromArrayLen", desc := "([BI)B" } : Jvm.MethodName) jdk_52_method_15_code (2 : Nat) (Option.some Jvm.ClassFile.FieldType.byte)).before args0 about1 = true := code_word (m := ⟨8, 1⟩) (meth := k8m1) (c := k8c1) (by decide +kernel) rfl rfl rfl (by decide +kernel)
set_option maxRecDepth 65536 in
theorem w_c8 : (Jvm.Cond.code ({ cls := "com/example/traversal/traversal/graph/Iris", name := "controlsSpaceAnd", desc := "(Ljava/lang/String;)[Z" } : Jvm.MethodName) prog_43_method_2_code (6 : Nat) (Option.some (Jvm.ClassFile.FieldType.array Jvm.ClassFile.FieldType.boolean))).before args0 about1 = true := code_word (m := ⟨9, 1⟩) (meth := k9m1) (c := k9c1) (by decide +kernel) rfl rfl rfl (by decide +kernel)
set_option maxRecDepth 65536 in
theorem w_c9 : (Jvm.Cond.code ({ cls := "java/lang/String", name := "toCharArray", desc := "()[C" } : Jvm.MethodName) jdk_42_method_129_code (1 : Nat) (Option.some (Jvm.ClassFile.FieldType.array Jvm.ClassFile.FieldType.char))).before args0 about1 = true := code_word (m := ⟨7, 2⟩) (meth := k7m2) (c := k7c2) (by decide +kernel) rfl rfl rfl (by decide +kernel)
set_option maxRecDepth 65536 in
theorem w_c10 : (Jvm.Cond.code ({ cls := "java/lang/String", name := "isLatin1", desc := "()Z" } : Jvm.MethodName) jdk_42_method_154_code (1 : Nat) (Option.some Jvm.ClassFile.FieldType.boolean)).before args0 about1 = true := code_word (m := ⟨7, 4⟩) (meth := k7m4) (c := k7c4) (by decide +kernel) rfl rfl rfl (by decide +kernel)
set_option maxRecDepth 65536 in
theorem w_c11 : (Jvm.Cond.code ({ cls := "java/lang/StringLatin1", name := "toChars", desc := "([B)[C" } : Jvm.MethodName) jdk_43_method_9_code (2 : Nat) (Option.some (Jvm.ClassFile.FieldType.array Jvm.ClassFile.FieldType.char))).before args0 about1 = true := code_word (m := ⟨10, 1⟩) (meth := k10m1) (c := k10c1) (by decide +kernel) rfl rfl rfl (by decide +kernel)
set_option maxRecDepth 65536 in
theorem w_c12 : (Jvm.Cond.code ({ cls := "java/lang/StringLatin1", name := "inflate", desc := "([BI[CII)V" } : Jvm.MethodName) jdk_43_method_49_code (6 : Nat) (Option.none : Option Jvm.ClassFile.FieldType)).before args0 about1 = true := code_word (m := ⟨10, 2⟩) (meth := k10m2) (c := k10c2) (by decide +kernel) rfl rfl rfl (by decide +kernel)
def codes1 : List Jvm.Cond := [Jvm.Cond.code x code maxLocals ret, Jvm.Cond.code ({ cls := "com/example/traversal/traversal/graph/IrisControlsSpaceAndPinLaw", name := "make", desc := "(ICCC)Ljava/lang/String;" } : Jvm.MethodName) method_2_code (4 : Nat) (Option.some (Jvm.ClassFile.FieldType.object "java/lang/String")), Jvm.Cond.code ({ cls := "java/lang/String", name := "<init>", desc := "([C)V" } : Jvm.MethodName) jdk_42_method_3_code (2 : Nat) (Option.none : Option Jvm.ClassFile.FieldType), Jvm.Cond.code ({ cls := "java/lang/String", name := "<init>", desc := "([CIILjava/lang/Void;)V" } : Jvm.MethodName) jdk_42_method_149_code (6 : Nat) (Option.none : Option Jvm.ClassFile.FieldType), Jvm.Cond.code ({ cls := "java/lang/Object", name := "<init>", desc := "()V" } : Jvm.MethodName) object_method_1_code (1 : Nat) (Option.none : Option Jvm.ClassFile.FieldType), Jvm.Cond.code ({ cls := "java/lang/StringUTF16", name := "compress", desc := "([CII)[B" } : Jvm.MethodName) jdk_52_method_16_code (6 : Nat) (Option.some (Jvm.ClassFile.FieldType.array Jvm.ClassFile.FieldType.byte)), Jvm.Cond.code ({ cls := "java/lang/StringUTF16", name := "compress", desc := "([CI[BII)I" } : Jvm.MethodName) jdk_52_method_21_code (7 : Nat) (Option.some Jvm.ClassFile.FieldType.int), Jvm.Cond.code ({ cls := "java/lang/StringUTF16", name := "coderFromArrayLen", desc := "([BI)B" } : Jvm.MethodName) jdk_52_method_15_code (2 : Nat) (Option.some Jvm.ClassFile.FieldType.byte), Jvm.Cond.code ({ cls := "com/example/traversal/traversal/graph/Iris", name := "controlsSpaceAnd", desc := "(Ljava/lang/String;)[Z" } : Jvm.MethodName) prog_43_method_2_code (6 : Nat) (Option.some (Jvm.ClassFile.FieldType.array Jvm.ClassFile.FieldType.boolean)), Jvm.Cond.code ({ cls := "java/lang/String", name := "toCharArray", desc := "()[C" } : Jvm.MethodName) jdk_42_method_129_code (1 : Nat) (Option.some (Jvm.ClassFile.FieldType.array Jvm.ClassFile.FieldType.char)), Jvm.Cond.code ({ cls := "java/lang/String", name := "isLatin1", desc := "()Z" } : Jvm.MethodName) jdk_42_method_154_code (1 : Nat) (Option.some Jvm.ClassFile.FieldType.boolean), Jvm.Cond.code ({ cls := "java/lang/StringLatin1", name := "toChars", desc := "([B)[C" } : Jvm.MethodName) jdk_43_method_9_code (2 : Nat) (Option.some (Jvm.ClassFile.FieldType.array Jvm.ClassFile.FieldType.char)), Jvm.Cond.code ({ cls := "java/lang/StringLatin1", name := "inflate", desc := "([BI[CII)V" } : Jvm.MethodName) jdk_43_method_49_code (6 : Nat) (Option.none : Option Jvm.ClassFile.FieldType)]
set_option maxRecDepth 65536 in
theorem codes_eq : words1.filter isCode = codes1 := rfl
theorem w_codes : ∀ c ∈ words1.filter isCode, c.before args0 about1 = true := by
  rw [codes_eq]
  intro c hc
  simp only [codes1, List.mem_cons, List.not_mem_nil, or_false] at hc
  rcases hc with rfl | rfl | rfl | rfl | rfl | rfl | rfl | rfl | rfl | rfl | rfl | rfl | rfl
  · exact w_c0
  · exact w_c1
  · exact w_c2
  · exact w_c3
  · exact w_c4
  · exact w_c5
  · exact w_c6
  · exact w_c7
  · exact w_c8
  · exact w_c9
  · exact w_c10
  · exact w_c11
  · exact w_c12
set_option maxRecDepth 65536 in
theorem w_t1 : (words1.take 24).all (fun c => isCode c || c.before args0 about1) = true := by decide +kernel
set_option maxRecDepth 65536 in
theorem w_t2 : ((words1.drop 24).take 24).all (fun c => isCode c || c.before args0 about1) = true := by decide +kernel
set_option maxRecDepth 65536 in
theorem w_t3 : ((words1.drop 24).drop 24).all (fun c => isCode c || c.before args0 about1) = true := by decide +kernel
theorem w_tables : (allAtoms (Jvm.Cond.code x code maxLocals ret :: tables_1)).before args0 about1 = true := by
  rw [allAtoms_all]
  show words1.all (fun c => c.before args0 about1) = true
  refine all_split ?_ w_codes
  rw [← List.take_append_drop 24 words1, List.all_append, w_t1, ← List.take_append_drop 24 (words1.drop 24), List.all_append, w_t2, w_t3]
  rfl
set_option maxRecDepth 65536 in
theorem w_rest : rest_1_c.before args0 about1 = true := by decide +kernel
set_option maxRecDepth 65536 in
theorem w_case : (Jvm.Cond.and given_1 narrow_1).before args0 about1 = true := by decide +kernel
set_option maxRecDepth 65536 in
theorem w_consts : constsHeld consts_1 about1 := Jvm.Lit.constsHeldB_iff.mp (by decide +kernel)
theorem w_applies : (headSpec (Jvm.Cond.code x code maxLocals ret :: tables_1) room_1).applies x e0.platform about1 = true :=
  (Spec.applies_iff w_frames).mpr ⟨w_running, w_runnable, w_alone, w_named, w_hears, w_ripe, w_room, w_tables⟩
theorem atStart : AtStart classFile x code maxLocals ret World_1 tables_1 room_1 Calls_1 rest_1 Pre_1 launch0 p0 e0 about1 theMethod args0 below0 :=
  ⟨lists_1, trivial, launch0.admits_env _ _ _, launch0.least_env, fairChoices_fair.cas, fairChoices_fair.clock, w_frames, w_args, w_heap, w_applies, ⟨w_consts, trivial⟩, w_rest, w_case⟩
end start1
theorem witness_1 : WitnessClaimed_1 := ⟨start1.p0, start1.e0, start1.about1, start1.theMethod, start1.args0, start1.below0, start1.atStart⟩
end Jvm.Pilot.@@N@@
