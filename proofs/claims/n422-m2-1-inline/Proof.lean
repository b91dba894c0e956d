import JvmDerived
import JvmDerived.Pilot.@@N@@Statement
import JvmDerived.Pilot.@@N@@Code
set_option linter.unusedVariables false
set_option linter.unusedSimpArgs false
/- laws to paste: Road.backV (cut by pick.py; bodies as the Statement names them) -/
namespace Jvm.Pilot.@@N@@
namespace StrChars
open Jvm Sem ClassFile Op Lib Jvm.Stand Jvm.Free.XT Jvm.Free.ALB Jvm.Free.JM Jvm.Free
open Jvm.Lib.Cold (StaticIs)
/-- a char array whose places are chars -/
def Ch (a : Addr) (A : Cell) (U : State) : Prop := Arr .char a A U ∧ Typed .char A
theorem Ch.mv {a : Addr} {A : Cell} {U U' : State} (h : Ch a A U) (hal : U.vm.Alike U'.vm) (hh : U'.heap = U.heap) : Ch a A U' := ⟨h.1.mv hal hh, h.2⟩
theorem Ch.keep {a : Addr} {A : Cell} {U U' : State} (h : Ch a A U) (hal : U.vm.Alike U'.vm) (hk : U'.heap[a]? = some A) : Ch a A U' := ⟨h.1.keep hal hk, h.2⟩
/-- what place i of a char[]'s cell holds -/
def cv (A : Cell) (i : Nat) : Int32 := match A.slots[i]? with | some (.int x) => x | _ => 0
theorem Ch.get {a : Addr} {A : Cell} {U : State} (h : Ch a A U) {i : Nat} (hi : i < A.slots.size) : A.slots[i]? = some (.int (cv A i)) := by
  have e := Array.getElem?_eq_getElem hi
  have f := h.2 i _ e
  unfold cv; rw [e]
  generalize A.slots[i] = v at f
  cases v <;> simp [fits] at f ⊢
/-- the byte that i2b leaves of a char -/
def lo8 (x : Int32) : Int32 := x.toInt8.toInt32
theorem fits_lo8 (y : Int32) : fits .byte (.int (lo8 y)) = true := by
  have h1 := y.toInt8.le_toInt
  have h2 := y.toInt8.toInt_lt
  simp only [lo8, fits, Bool.and_eq_true, decide_eq_true_eq, Int32.le_iff_toInt_le, Int8.toInt_toInt32, show (-128 : Int32).toInt = -128 from by decide, show (127 : Int32).toInt = 127 from by decide]
  omega
/-- A' is A but that each place j of lo .. hi - 1 holds f j -/
def Laid (A A' : Cell) (lo hi : Nat) (f : Nat → Value) : Prop := A'.cls = A.cls ∧ A'.vm = A.vm ∧ A'.slots.size = A.slots.size ∧ ∀ i, A'.slots[i]? = if lo ≤ i ∧ i < hi then some (f i) else A.slots[i]?
theorem Laid.zero (A : Cell) (lo : Nat) (f : Nat → Value) : Laid A A lo (lo + 0) f := ⟨rfl, rfl, rfl, fun i => by rw [if_neg (by omega)]⟩
theorem Laid.step {A Ak : Cell} {lo k : Nat} {f : Nat → Value} {v : Value} (h : Laid A Ak lo k f) (hlo : lo ≤ k) (hk : k < Ak.slots.size) (hv : v = f k) : Laid A (Ak.setSlot k v) lo (k + 1) f := by
  refine ⟨h.1, h.2.1, by simpa [Cell.setSlot] using h.2.2.1, fun i => ?_⟩
  by_cases e : k = i
  · subst e; rw [Cell.slots_setSlot_self v hk, if_pos (by omega), hv]
  · rw [Cell.slots_setSlot_ne v e, h.2.2.2 i]
    by_cases q : lo ≤ i ∧ i < k
    · rw [if_pos q, if_pos (by omega)]
    · rw [if_neg q, if_neg (by omega)]
def U16 : String := "java/lang/StringUTF16"
namespace Cmp5
def yN : MethodName := ⟨"java/lang/StringUTF16", "compress", "([CI[BII)I"⟩
abbrev yB : ByteArray := jdk_52_method_21_code
theorem d0 : decode yB 0 = .ok (.iconst 0, 1) := by decide +kernel
theorem d1 : decode yB 1 = .ok (.istore 5, 2) := by decide +kernel
theorem d3 : decode yB 3 = .ok (.iload 5, 2) := by decide +kernel
theorem d5 : decode yB 5 = .ok (.iload 4, 2) := by decide +kernel
theorem d7 : decode yB 7 = .ok (.if_icmp (.ge) 37, 3) := by decide +kernel
theorem d10 : decode yB 10 = .ok (.aload_n 0, 1) := by decide +kernel
theorem d11 : decode yB 11 = .ok (.iload_n 1, 1) := by decide +kernel
theorem d12 : decode yB 12 = .ok (.caload, 1) := by decide +kernel
theorem d13 : decode yB 13 = .ok (.istore 6, 2) := by decide +kernel
theorem d15 : decode yB 15 = .ok (.iload 6, 2) := by decide +kernel
theorem d17 : decode yB 17 = .ok (.sipush 255, 3) := by decide +kernel
theorem d20 : decode yB 20 = .ok (.if_icmp (.le) 6, 3) := by decide +kernel
theorem d26 : decode yB 26 = .ok (.aload_n 2, 1) := by decide +kernel
theorem d27 : decode yB 27 = .ok (.iload_n 3, 1) := by decide +kernel
theorem d28 : decode yB 28 = .ok (.iload 6, 2) := by decide +kernel
theorem d30 : decode yB 30 = .ok (.i2b, 1) := by decide +kernel
theorem d31 : decode yB 31 = .ok (.bastore, 1) := by decide +kernel
theorem d32 : decode yB 32 = .ok (.iinc 1 1, 3) := by decide +kernel
theorem d35 : decode yB 35 = .ok (.iinc 3 1, 3) := by decide +kernel
theorem d38 : decode yB 38 = .ok (.iinc 5 1, 3) := by decide +kernel
theorem d41 : decode yB 41 = .ok (.goto (-38), 3) := by decide +kernel
theorem d44 : decode yB 44 = .ok (.iload 4, 2) := by decide +kernel
theorem d46 : decode yB 46 = .ok (.ireturn, 1) := by decide +kernel
def site : List Cond := []
def tab : Cond := tabOf yN yB 7 (some .int) site
def P (b : Addr) (A : Cell) (d : Addr) (B : Cell) (o q len : Nat) (args : Array Value) (s : State) : Prop := args = #[.ref b, .int (Int32.ofNat o), .ref d, .int (Int32.ofNat q), .int (Int32.ofNat len)] ∧ Ch b A s ∧ Arr .byte d B s ∧ b ≠ d ∧ o + len ≤ A.slots.size ∧ q + len ≤ B.slots.size ∧ ∀ i, i < len → ¬ 255 < cv A (o + i)
def E (b : Addr) (A : Cell) (d : Addr) (B : Cell) (o q len : Nat) (r : Option Value) (s u : State) : Prop := r = some (.int (Int32.ofNat len)) ∧ ∃ B', Put d B' s u ∧ Laid B B' q (q + len) (fun j => Value.int (lo8 (cv A (o + (j - q)))))
/-- no char of the range above 255: len; the places written hold each char's low byte -/
theorem law (l : Launch) (b : Addr) (A : Cell) (d : Addr) (B : Cell) (o q len : Nat) : Law l yN 5 5 0 0 yB 7 (some .int) site (P b A d B o q len) (E b A d B o q len) (copyLocs d q len) 0 0 := by
  refine Law.of_walk (plainFor_of_name (by decide +kernel)) (by decide +kernel) (by decide +kernel) (by decide) (fun _ _ h => by rw [h.1]; rfl) (fun _ U U' hal hh h => ⟨h.1, h.2.1.mv hal hh, h.2.2.1.mv hal hh, h.2.2.2⟩) (fun r U U' V V' h1 hal h2 h => ⟨h.1, h.2.elim fun B' q => ⟨B', q.1.mv h1 h2, q.2⟩⟩) ?_
  intro p e s m args below meth c s₁ X0 hexec hbytes hml hret hlk hnm hown hh0 W hP
  obtain ⟨rfl, hA, hB, hne, l1, l2, hp⟩ := hP
  have c1 : Steps p.tables e below (s₁.setTop (entryFrame m #[.ref b, .int (Int32.ofNat o), .ref d, .int (Int32.ofNat q), .int (Int32.ofNat len)] 7)) (s₁.setTop (mkF m 0 #[.val (.ref b), .val (.int (Int32.ofNat o)), .val (.ref d), .val (.int (Int32.ofNat q)), .val (.int (Int32.ofNat len)), .unset, .unset] [])) := entry rfl
  have hA0 := hA.1.mv X0.warmed.alike hh0
  have hB0 := hB.mv X0.warmed.alike hh0
  have a31 := hA.1.2.2.2
  have c2 : Steps p.tables e below (s₁.setTop (entryFrame m #[.ref b, .int (Int32.ofNat o), .ref d, .int (Int32.ofNat q), .int (Int32.ofNat len)] 7)) (s₁.setTop (mkF m 3 #[.val (.ref b), .val (.int (Int32.ofNat o)), .val (.ref d), .val (.int (Int32.ofNat q)), .val (.int (Int32.ofNat len)), .val (.int 0), .unset] [])) := c1.trans (by
    refine iconstV X0.here hexec rfl 0 (hb hbytes d0) (by decide) ?_
    refine XS.istore X0.here hexec rfl (hb hbytes d1) rfl rfl ?_
    exact Steps.refl _)
  have loop : ∀ (r i : Nat), i + r = len → ∀ (z : Slot), (z = .unset ∨ ∃ w, z = .val w ∧ w.category = 1) → ∀ (Tl : State) (Bk : Cell), Stand p l e { frames := 0, locals := 0, cells := 0, slots := 0 } s m #[.ref b, .int (Int32.ofNat o), .ref d, .int (Int32.ofNat q), .int (Int32.ofNat len)] below meth c Tl ([] ++ copyLocs d q i) 0 0 → Put d Bk s₁ Tl → Laid B Bk q (q + i) (fun j => Value.int (lo8 (cv A (o + (j - q))))) →
      Steps p.tables e below (s₁.setTop (entryFrame m #[.ref b, .int (Int32.ofNat o), .ref d, .int (Int32.ofNat q), .int (Int32.ofNat len)] 7)) (Tl.setTop (mkF m 3 #[.val (.ref b), .val (.int (Int32.ofNat (o + i))), .val (.ref d), .val (.int (Int32.ofNat (q + i))), .val (.int (Int32.ofNat len)), .val (.int (Int32.ofNat i)), z] [])) → ∃ (T' : State) (B' : Cell) (z' : Slot), Stand p l e { frames := 0, locals := 0, cells := 0, slots := 0 } s m #[.ref b, .int (Int32.ofNat o), .ref d, .int (Int32.ofNat q), .int (Int32.ofNat len)] below meth c T' ([] ++ copyLocs d q len) 0 0 ∧ Put d B' s₁ T' ∧ Laid B B' q (q + len) (fun j => Value.int (lo8 (cv A (o + (j - q))))) ∧
      Steps p.tables e below (s₁.setTop (entryFrame m #[.ref b, .int (Int32.ofNat o), .ref d, .int (Int32.ofNat q), .int (Int32.ofNat len)] 7)) (T'.setTop (mkF m 3 #[.val (.ref b), .val (.int (Int32.ofNat (o + len))), .val (.ref d), .val (.int (Int32.ofNat (q + len))), .val (.int (Int32.ofNat len)), .val (.int (Int32.ofNat len)), z'] [])) := by
    intro r
    induction r with
    | zero =>
      intro i hi z hz Tl Bk Xl pl fl cl
      have hil : i = len := by omega
      rw [hil] at Xl fl cl
      exact ⟨Tl, Bk, z, Xl, pl, fl, cl⟩
    | succ r ih =>
      intro i hi z hz Tl Bk Xl pl fl cl
      have all := X0.warmed.alike.symm.trans Xl.warmed.alike
      have hAl := hA0.keep all (pl.other hne hA0.1)
      have hBk := hB0.like all pl.1 fl.1 fl.2.1 fl.2.2.1
      have hlt : q + i < Bk.slots.size := by rw [fl.2.2.1]; omega
      have c3 : Steps p.tables e below (s₁.setTop (entryFrame m #[.ref b, .int (Int32.ofNat o), .ref d, .int (Int32.ofNat q), .int (Int32.ofNat len)] 7)) (Tl.setTop (mkF m 12 #[.val (.ref b), .val (.int (Int32.ofNat (o + i))), .val (.ref d), .val (.int (Int32.ofNat (q + i))), .val (.int (Int32.ofNat len)), .val (.int (Int32.ofNat i)), z] [.int (Int32.ofNat (o + i)), .ref b])) := cl.trans (by
        refine XS.iload Xl.here hexec rfl (hb hbytes d3) rfl ?_
        refine XS.iload Xl.here hexec rfl (hb hbytes d5) rfl ?_
        refine XS.icmpNo Xl.here hexec rfl (hb hbytes d7) rfl (ii_ge_f (lt32 (by omega) (by omega))) ?_
        refine XS.aloadN Xl.here hexec rfl (hb hbytes d10) rfl rfl ?_
        refine XS.iloadN Xl.here hexec rfl (hb hbytes d11) rfl ?_
        exact Steps.refl _)
      have c4 : Steps p.tables e below (s₁.setTop (entryFrame m #[.ref b, .int (Int32.ofNat o), .ref d, .int (Int32.ofNat q), .int (Int32.ofNat len)] 7)) (Tl.setTop (mkF m 13 #[.val (.ref b), .val (.int (Int32.ofNat (o + i))), .val (.ref d), .val (.int (Int32.ofNat (q + i))), .val (.int (Int32.ofNat len)), .val (.int (Int32.ofNat i)), z] [.int (cv A (o + i))])) := c3.trans (by
        refine Xl.aget hexec hAl rfl (hA.get (i := o + i) (by omega)) rfl rfl (hb hbytes d12) ?_
        exact Steps.refl _)
      have c5 : Steps p.tables e below (s₁.setTop (entryFrame m #[.ref b, .int (Int32.ofNat o), .ref d, .int (Int32.ofNat q), .int (Int32.ofNat len)] 7)) (Tl.setTop (mkF m 15 #[.val (.ref b), .val (.int (Int32.ofNat (o + i))), .val (.ref d), .val (.int (Int32.ofNat (q + i))), .val (.int (Int32.ofNat len)), .val (.int (Int32.ofNat i)), .val (.int (cv A (o + i)))] [])) := c4.trans (by
        refine XS.istoreS Xl.here hexec rfl (hb hbytes d13) rfl rfl hz ?_
        exact Steps.refl _)
      have c6 : Steps p.tables e below (s₁.setTop (entryFrame m #[.ref b, .int (Int32.ofNat o), .ref d, .int (Int32.ofNat q), .int (Int32.ofNat len)] 7)) (Tl.setTop (mkF m 31 #[.val (.ref b), .val (.int (Int32.ofNat (o + i))), .val (.ref d), .val (.int (Int32.ofNat (q + i))), .val (.int (Int32.ofNat len)), .val (.int (Int32.ofNat i)), .val (.int (cv A (o + i)))] [.int (lo8 (cv A (o + i))), .int (Int32.ofNat (q + i)), .ref d])) := c5.trans (by
        refine XS.iload Xl.here hexec rfl (hb hbytes d15) rfl ?_
        refine sipushV Xl.here hexec rfl 255 (hb hbytes d17) (by decide) ?_
        refine XS.icmpYes Xl.here hexec rfl (pc0 := 20) rfl (hb hbytes d20) rfl (ii_le_t (hp i (by omega))) (by decide) rfl ?_
        refine XS.aloadN Xl.here hexec rfl (hb hbytes d26) rfl rfl ?_
        refine XS.iloadN Xl.here hexec rfl (hb hbytes d27) rfl ?_
        refine XS.iload Xl.here hexec rfl (hb hbytes d28) rfl ?_
        refine i2b Xl.here hexec rfl (hb hbytes d30) rfl ?_
        exact Steps.refl _)
      obtain ⟨T7, X7, p7, st7⟩ := Xl.aput hexec hBk rfl hlt rfl (fits_lo8 (cv A (o + i))) (g := (mkF m 31 #[.val (.ref b), .val (.int (Int32.ofNat (o + i))), .val (.ref d), .val (.int (Int32.ofNat (q + i))), .val (.int (Int32.ofNat len)), .val (.int (Int32.ofNat i)), .val (.int (cv A (o + i)))] [.int (lo8 (cv A (o + i))), .int (Int32.ofNat (q + i)), .ref d])) rfl (rest := []) rfl (hb hbytes d31)
      have c8 : Steps p.tables e below (s₁.setTop (entryFrame m #[.ref b, .int (Int32.ofNat o), .ref d, .int (Int32.ofNat q), .int (Int32.ofNat len)] 7)) (T7.setTop (mkF m 32 #[.val (.ref b), .val (.int (Int32.ofNat (o + i))), .val (.ref d), .val (.int (Int32.ofNat (q + i))), .val (.int (Int32.ofNat len)), .val (.int (Int32.ofNat i)), .val (.int (cv A (o + i)))] [])) := c6.trans (st7 _ (Steps.refl _))
      have c9 : Steps p.tables e below (s₁.setTop (entryFrame m #[.ref b, .int (Int32.ofNat o), .ref d, .int (Int32.ofNat q), .int (Int32.ofNat len)] 7)) (T7.setTop (mkF m 3 #[.val (.ref b), .val (.int (Int32.ofNat (o + i) + 1)), .val (.ref d), .val (.int (Int32.ofNat (q + i) + 1)), .val (.int (Int32.ofNat len)), .val (.int (Int32.ofNat i + 1)), .val (.int (cv A (o + i)))] [])) := c8.trans (by
        refine iincV X7.here hexec rfl 1 (hb hbytes d32) (by decide) rfl rfl ?_
        refine iincV X7.here hexec rfl 1 (hb hbytes d35) (by decide) rfl rfl ?_
        refine iincV X7.here hexec rfl 1 (hb hbytes d38) (by decide) rfl rfl ?_
        refine XS.goto X7.here hexec rfl (pc0 := 41) rfl (hb hbytes d41) (by decide) rfl ?_
        exact Steps.refl _)
      have c10 : Steps p.tables e below (s₁.setTop (entryFrame m #[.ref b, .int (Int32.ofNat o), .ref d, .int (Int32.ofNat q), .int (Int32.ofNat len)] 7)) (T7.setTop (mkF m 3 #[.val (.ref b), .val (.int (Int32.ofNat (o + (i + 1)))), .val (.ref d), .val (.int (Int32.ofNat (q + (i + 1)))), .val (.int (Int32.ofNat len)), .val (.int (Int32.ofNat (i + 1))), .val (.int (cv A (o + i)))] [])) := by
        have := c9
        rw [succ32, succ32, succ32] at this
        exact this
      exact ih (i + 1) (by omega) _ (Or.inr ⟨_, rfl, rfl⟩) T7 _ (by rw [copyLocs_step, ← List.append_assoc]; exact X7) (pl.trans p7) (fl.step (by omega) hlt (by simp)) c10
  obtain ⟨T9, B9, z9, X9, p9, f9, g9⟩ := loop len 0 (by omega) .unset (Or.inl rfl) s₁ B (by simpa [copyLocs] using X0) ⟨hB0.1, fun _ _ => rfl, rfl⟩ (Laid.zero _ _ _) c2
  have c11 : Steps p.tables e below (s₁.setTop (entryFrame m #[.ref b, .int (Int32.ofNat o), .ref d, .int (Int32.ofNat q), .int (Int32.ofNat len)] 7)) (T9.setTop (mkF m 46 #[.val (.ref b), .val (.int (Int32.ofNat (o + len))), .val (.ref d), .val (.int (Int32.ofNat (q + len))), .val (.int (Int32.ofNat len)), .val (.int (Int32.ofNat len)), z9] [.int (Int32.ofNat len)])) := g9.trans (by
    refine XS.iload X9.here hexec rfl (hb hbytes d3) rfl ?_
    refine XS.iload X9.here hexec rfl (hb hbytes d5) rfl ?_
    refine XS.icmpYes X9.here hexec rfl (pc0 := 7) rfl (hb hbytes d7) rfl (ii_ge_t (nlt32 (by omega) (Nat.le_refl _))) (by decide) rfl ?_
    refine XS.iload X9.here hexec rfl (hb hbytes d44) rfl ?_
    exact Steps.refl _)
  exact ⟨T9, some (.int (Int32.ofNat len)), _, _, _, X9, by simp, rfl, rfl, (fun h => by cases h), ⟨rfl, B9, p9.from hh0, f9⟩, fun fs hl => c11.trans (X9.ireturnOut hexec hret rfl (Or.inl rfl) (hb hbytes d46) hl)⟩
end Cmp5
namespace Cmp3
def yN : MethodName := ⟨"java/lang/StringUTF16", "compress", "([CII)[B"⟩
abbrev yB : ByteArray := jdk_52_method_16_code
theorem d0 : decode yB 0 = .ok (.iload_n 2, 1) := by decide +kernel
theorem d1 : decode yB 1 = .ok (.newarray .byte, 2) := by decide +kernel
theorem d3 : decode yB 3 = .ok (.astore_n 3, 1) := by decide +kernel
theorem d4 : decode yB 4 = .ok (.aload_n 0, 1) := by decide +kernel
theorem d5 : decode yB 5 = .ok (.iload_n 1, 1) := by decide +kernel
theorem d6 : decode yB 6 = .ok (.aload_n 3, 1) := by decide +kernel
theorem d7 : decode yB 7 = .ok (.iconst 0, 1) := by decide +kernel
theorem d8 : decode yB 8 = .ok (.iload_n 2, 1) := by decide +kernel
theorem d9 : decode yB 9 = .ok (.invokestatic 115, 3) := by decide +kernel
theorem d12 : decode yB 12 = .ok (.istore 4, 2) := by decide +kernel
theorem d14 : decode yB 14 = .ok (.iload 4, 2) := by decide +kernel
theorem d16 : decode yB 16 = .ok (.iload_n 2, 1) := by decide +kernel
theorem d17 : decode yB 17 = .ok (.if_icmp (.eq) 40, 3) := by decide +kernel
theorem d57 : decode yB 57 = .ok (.aload_n 3, 1) := by decide +kernel
theorem d58 : decode yB 58 = .ok (.areturn, 1) := by decide +kernel
def site : List Cond := [.arrayClass .byte, Cmp5.tab] ++ staticW U16 115 Cmp5.yN
def tab : Cond := tabOf yN yB 6 (some (.array .byte)) site
def P (b : Addr) (A : Cell) (o len : Nat) (args : Array Value) (s : State) : Prop := args = #[.ref b, .int (Int32.ofNat o), .int (Int32.ofNat len)] ∧ Ch b A s ∧ o + len ≤ A.slots.size ∧ len ≤ 536870912 ∧ ∀ i, i < len → ¬ 255 < cv A (o + i)
def E (b : Addr) (A : Cell) (o len : Nat) (r : Option Value) (s u : State) : Prop := NewArr .byte "[B" len (fun j => .int (lo8 (cv A (o + j)))) r s u ∧ u.heap.size = s.heap.size + 1
/-- no char of the range above 255: a new byte[] of their low bytes -/
theorem law (l : Launch) (b : Addr) (A : Cell) (o len : Nat) : Law l yN 3 3 1 18 yB 6 (some (.array .byte)) site (P b A o len) (E b A o len) [] 1 len := by
  refine Law.of_walk (plainFor_of_name (by decide +kernel)) (by decide +kernel) (by decide +kernel) (by decide) (fun _ _ h => by rw [h.1]; rfl) (fun _ U U' hal hh h => ⟨h.1, h.2.1.mv hal hh, h.2.2⟩) (fun r U U' V V' h1 hal h2 h => ⟨NewArr.mv r U U' V V' h1 hal h2 h.1, by rw [h1, h2]; exact h.2⟩) ?_
  intro p e s m args below meth c s₁ X0 hexec hbytes hml hret hlk hnm hown hh0 W hP
  obtain ⟨rfl, hA, l1, l2, hp⟩ := hP
  have a31 := hA.1.2.2.2
  have c1 : Steps p.tables e below (s₁.setTop (entryFrame m #[.ref b, .int (Int32.ofNat o), .int (Int32.ofNat len)] 6)) (s₁.setTop (mkF m 0 #[.val (.ref b), .val (.int (Int32.ofNat o)), .val (.int (Int32.ofNat len)), .unset, .unset, .unset] [])) := entry rfl
  have c2 : Steps p.tables e below (s₁.setTop (entryFrame m #[.ref b, .int (Int32.ofNat o), .int (Int32.ofNat len)] 6)) (s₁.setTop (mkF m 1 #[.val (.ref b), .val (.int (Int32.ofNat o)), .val (.int (Int32.ofNat len)), .unset, .unset, .unset] [.int (Int32.ofNat len)])) := c1.trans (by
    refine XS.iloadN X0.here hexec rfl (hb hbytes d0) rfl ?_
    exact Steps.refl _)
  obtain ⟨T3, B3, X3, ba3, bs3, bv3, bh3, bf3, st3⟩ := X0.anew hexec (atype := .byte) (wk W (.arrayClass .byte)) rfl (by show len * 1 ≤ _; omega) (by omega) (g := (mkF m 1 #[.val (.ref b), .val (.int (Int32.ofNat o)), .val (.int (Int32.ofNat len)), .unset, .unset, .unset] [.int (Int32.ofNat len)])) rfl (hb hbytes d1) (rest := []) rfl (Nat.le_refl _) (by show 0 + len ≤ len; omega)
  rw [hh0] at ba3 st3
  have kp3 : XT.Kept s T3 := (XT.Kept.of_eq hh0).push bh3
  have hA3 := hA.keep X3.warmed.alike (kp3 _ _ hA.1.1)
  have hne : b ≠ s.heap.size := hA.1.ne
  have c4 : Steps p.tables e below (s₁.setTop (entryFrame m #[.ref b, .int (Int32.ofNat o), .int (Int32.ofNat len)] 6)) (T3.setTop (mkF m 3 #[.val (.ref b), .val (.int (Int32.ofNat o)), .val (.int (Int32.ofNat len)), .unset, .unset, .unset] [.ref s.heap.size])) := c2.trans (st3 _ (Steps.refl _))
  have c5 : Steps p.tables e below (s₁.setTop (entryFrame m #[.ref b, .int (Int32.ofNat o), .int (Int32.ofNat len)] 6)) (T3.setTop (mkF m 9 #[.val (.ref b), .val (.int (Int32.ofNat o)), .val (.int (Int32.ofNat len)), .val (.ref s.heap.size), .unset, .unset] [.int (Int32.ofNat len), .int 0, .ref s.heap.size, .int (Int32.ofNat o), .ref b])) := c4.trans (by
    refine XS.astoreN X3.here hexec rfl (hb hbytes d3) rfl rfl rfl ?_
    refine XS.aloadN X3.here hexec rfl (hb hbytes d4) rfl rfl ?_
    refine XS.iloadN X3.here hexec rfl (hb hbytes d5) rfl ?_
    refine XS.aloadN X3.here hexec rfl (hb hbytes d6) rfl rfl ?_
    refine iconstV X3.here hexec rfl 0 (hb hbytes d7) (by decide) ?_
    refine XS.iloadN X3.here hexec rfl (hb hbytes d8) rfl ?_
    exact Steps.refl _)
  obtain ⟨v6, T6, X6, E6, g6⟩ := X3.callS hexec (Cmp5.law l b A s.heap.size B3 o 0 len) hown (wks W (staticW U16 115 Cmp5.yN)) (wk W Cmp5.tab) (W := 0) (Nat.le_of_ble_eq_true rfl) (Nat.le_of_ble_eq_true rfl) (Nat.le_refl _) (by show 0 + len + 0 ≤ len; omega) (g := (mkF m 9 #[.val (.ref b), .val (.int (Int32.ofNat o)), .val (.int (Int32.ofNat len)), .val (.ref s.heap.size), .unset, .unset] [.int (Int32.ofNat len), .int (Int32.ofNat 0), .ref s.heap.size, .int (Int32.ofNat o), .ref b])) rfl (by rw [hml]; rfl) c5 (argsL := [.ref b, .int (Int32.ofNat o), .ref s.heap.size, .int (Int32.ofNat 0), .int (Int32.ofNat len)]) (rest := []) rfl rfl (by show 2 * 0 + 0 ≤ _; decide) (hb hbytes d9) (⟨rfl, hA3, ba3, hne, l1, by rw [bs3]; simp, hp⟩)
  obtain ⟨rfl, B6, p6, f6⟩ := E6
  have c7 : Steps p.tables e below (s₁.setTop (entryFrame m #[.ref b, .int (Int32.ofNat o), .int (Int32.ofNat len)] 6)) (T6.setTop (mkF m 12 #[.val (.ref b), .val (.int (Int32.ofNat o)), .val (.int (Int32.ofNat len)), .val (.ref s.heap.size), .unset, .unset] [.int (Int32.ofNat len)])) := g6
  have c8 : Steps p.tables e below (s₁.setTop (entryFrame m #[.ref b, .int (Int32.ofNat o), .int (Int32.ofNat len)] 6)) (T6.setTop (mkF m 58 #[.val (.ref b), .val (.int (Int32.ofNat o)), .val (.int (Int32.ofNat len)), .val (.ref s.heap.size), .val (.int (Int32.ofNat len)), .unset] [.ref s.heap.size])) := c7.trans (by
    refine XS.istore X6.here hexec rfl (hb hbytes d12) rfl rfl ?_
    refine XS.iload X6.here hexec rfl (hb hbytes d14) rfl ?_
    refine XS.iloadN X6.here hexec rfl (hb hbytes d16) rfl ?_
    refine XS.icmpYes X6.here hexec rfl (pc0 := 17) rfl (hb hbytes d17) rfl (ii_eq_t rfl) (by decide) rfl ?_
    refine XS.aloadN X6.here hexec rfl (hb hbytes d57) rfl rfl ?_
    exact Steps.refl _)
  have X8 := X6.wide (L' := []) (cells' := 1) (slots' := len) (fun x hx hlt => by
    simp only [List.nil_append, copyLocs, List.mem_map, List.mem_range] at hx
    obtain ⟨i, -, rfl⟩ := hx
    exact absurd hlt (Nat.lt_irrefl _)) (Nat.le_refl _) (by omega)
  exact ⟨T6, some (.ref s.heap.size), _, _, _, X8, rfl, rfl, rfl, (fun h => by cases h), ⟨⟨rfl, B6, ba3.like (X3.warmed.alike.symm.trans X6.warmed.alike) p6.1 f6.1 f6.2.1 f6.2.2.1, f6.2.1.trans bv3, by rw [X6.warmed.alike.findClass, f6.1]; exact bf3, by rw [f6.2.2.1, bs3]; simp, fun j hj => by rw [f6.2.2.2 j, if_pos (by omega)]; rfl, kp3.put p6 (Nat.le_refl _)⟩, by rw [p6.2.2, bh3, hh0]; simp⟩, fun fs hl => c8.trans (X8.areturnOut hexec rfl hret rfl (hb hbytes d58) hl)⟩
end Cmp3
namespace CodL
def yN : MethodName := ⟨"java/lang/StringUTF16", "coderFromArrayLen", "([BI)B"⟩
abbrev yB : ByteArray := jdk_52_method_15_code
theorem d0 : decode yB 0 = .ok (.iload_n 1, 1) := by decide +kernel
theorem d1 : decode yB 1 = .ok (.aload_n 0, 1) := by decide +kernel
theorem d2 : decode yB 2 = .ok (.arraylength, 1) := by decide +kernel
theorem d3 : decode yB 3 = .ok (.isub, 1) := by decide +kernel
theorem d4 : decode yB 4 = .ok (.bipush 31, 2) := by decide +kernel
theorem d6 : decode yB 6 = .ok (.iushr, 1) := by decide +kernel
theorem d7 : decode yB 7 = .ok (.i2b, 1) := by decide +kernel
theorem d8 : decode yB 8 = .ok (.ireturn, 1) := by decide +kernel
def site : List Cond := []
def tab : Cond := tabOf yN yB 2 (some .byte) site
def P (d : Addr) (B : Cell) (args : Array Value) (s : State) : Prop := args = #[.ref d, .int (Int32.ofNat B.slots.size)] ∧ Arr .byte d B s
def E (r : Option Value) (s u : State) : Prop := XT.PureE (some (.int 0)) r s u
/-- an array as long as the number of chars: LATIN1 -/
theorem law (l : Launch) (d : Addr) (B : Cell) : Law l yN 2 2 0 0 yB 2 (some .byte) site (P d B) E [] 0 0 := by
  refine Law.of_walk (plainFor_of_name (by decide +kernel)) (by decide +kernel) (by decide +kernel) (by decide) (fun _ _ h => by rw [h.1]; rfl) (fun _ U U' hal hh h => ⟨h.1, h.2.mv hal hh⟩) (fun r U U' V V' h1 hal h2 h => XT.PureE.mv r U U' V V' h1 hal h2 h) ?_
  intro p e s m args below meth c s₁ X0 hexec hbytes hml hret hlk hnm hown hh0 W hP
  obtain ⟨rfl, hB⟩ := hP
  have hB0 := hB.mv X0.warmed.alike hh0
  have c1 : Steps p.tables e below (s₁.setTop (entryFrame m #[.ref d, .int (Int32.ofNat B.slots.size)] 2)) (s₁.setTop (mkF m 0 #[.val (.ref d), .val (.int (Int32.ofNat B.slots.size))] [])) := entry rfl
  have c2 : Steps p.tables e below (s₁.setTop (entryFrame m #[.ref d, .int (Int32.ofNat B.slots.size)] 2)) (s₁.setTop (mkF m 2 #[.val (.ref d), .val (.int (Int32.ofNat B.slots.size))] [.ref d, .int (Int32.ofNat B.slots.size)])) := c1.trans (by
    refine XS.iloadN X0.here hexec rfl (hb hbytes d0) rfl ?_
    refine XS.aloadN X0.here hexec rfl (hb hbytes d1) rfl rfl ?_
    exact Steps.refl _)
  have c3 : Steps p.tables e below (s₁.setTop (entryFrame m #[.ref d, .int (Int32.ofNat B.slots.size)] 2)) (s₁.setTop (mkF m 8 #[.val (.ref d), .val (.int (Int32.ofNat B.slots.size))] [.int (lo8 (ushr (Int32.ofNat B.slots.size - Int32.ofNat B.slots.size) 31))])) := c2.trans (by
    refine X0.alen hexec hB0 rfl rfl (hb hbytes d2) ?_
    refine XS.isub X0.here hexec rfl (hb hbytes d3) rfl ?_
    refine bipushV X0.here hexec rfl 31 (hb hbytes d4) (by decide) ?_
    refine iushr X0.here hexec rfl (hb hbytes d6) rfl ?_
    refine i2b X0.here hexec rfl (hb hbytes d7) rfl ?_
    exact Steps.refl _)
  have e0 : lo8 (ushr (Int32.ofNat B.slots.size - Int32.ofNat B.slots.size) 31) = 0 := by rw [Int32.sub_self]; decide
  rw [e0] at c3
  exact ⟨s₁, some (.int 0), _, _, _, X0, rfl, rfl, rfl, (fun h => by cases h), ⟨rfl, hh0⟩, fun fs hl => c3.trans (X0.ireturnOut hexec hret rfl (Or.inr (Or.inr (Or.inl rfl))) (hb hbytes d8) hl)⟩
end CodL
/-- the String at a is Latin-1 over a new byte[] (the heap's one new cell): the low bytes of the len chars of A from o on; every cell but a is kept -/
def Got (a : Addr) (D : Cell) (fV fC : Field) (A : Cell) (o len : Nat) (r : Option Value) (s u : State) : Prop := r = none ∧ ∃ D' V : Cell, Blank "java/lang/String" a D' u ∧ Same D D' [fV.slot, fC.slot] ∧ D'.slots[fV.slot]? = some (.ref s.heap.size) ∧ D'.slots[fC.slot]? = some (.int 0) ∧ Arr .byte s.heap.size V u ∧ V.vm = .none ∧ u.vm.findClass "[B" = some V.cls ∧ V.slots.size = len ∧ (∀ j, j < len → V.slots[j]? = some (.int (lo8 (cv A (o + j))))) ∧ (∀ (y : Addr) (c : Cell), y ≠ a → s.heap[y]? = some c → u.heap[y]? = some c) ∧ u.heap.size = s.heap.size + 1
theorem Got.mv {a : Addr} {D A : Cell} {fV fC : Field} {o len : Nat} : ∀ r (U U' V V' : State), U'.heap = U.heap → V.vm.Alike V'.vm → V'.heap = V.heap → Got a D fV fC A o len r U V → Got a D fV fC A o len r U' V' :=
  fun r U U' V V' h1 hal h2 ⟨e0, D', X, a1, a2, a3, a4, a5, a6, a7, a8, a9, a10, a11⟩ => ⟨e0, D', X, a1.mv hal h2, a2, by rw [h1]; exact a3, a4, by rw [h1]; exact a5.mv hal h2, a6, by rw [hal.findClass]; exact a7, a8, a9, by rw [h1, h2]; exact a10, by rw [h1, h2]; exact a11⟩
namespace New4
def yN : MethodName := ⟨"java/lang/String", "<init>", "([CIILjava/lang/Void;)V"⟩
abbrev yB : ByteArray := jdk_42_method_149_code
theorem d0 : decode yB 0 = .ok (.aload_n 0, 1) := by decide +kernel
theorem d1 : decode yB 1 = .ok (.invokespecial 1, 3) := by decide +kernel
theorem d4 : decode yB 4 = .ok (.iload_n 3, 1) := by decide +kernel
theorem d5 : decode yB 5 = .ok (.ifCond (.ne) 22, 3) := by decide +kernel
theorem d27 : decode yB 27 = .ok (.getstatic 38, 3) := by decide +kernel
theorem d30 : decode yB 30 = .ok (.ifCond (.eq) 28, 3) := by decide +kernel
theorem d33 : decode yB 33 = .ok (.aload_n 1, 1) := by decide +kernel
theorem d34 : decode yB 34 = .ok (.iload_n 2, 1) := by decide +kernel
theorem d35 : decode yB 35 = .ok (.iload_n 3, 1) := by decide +kernel
theorem d36 : decode yB 36 = .ok (.invokestatic 177, 3) := by decide +kernel
theorem d39 : decode yB 39 = .ok (.astore 5, 2) := by decide +kernel
theorem d41 : decode yB 41 = .ok (.aload_n 0, 1) := by decide +kernel
theorem d42 : decode yB 42 = .ok (.aload 5, 2) := by decide +kernel
theorem d44 : decode yB 44 = .ok (.iload_n 3, 1) := by decide +kernel
theorem d45 : decode yB 45 = .ok (.invokestatic 47, 3) := by decide +kernel
theorem d48 : decode yB 48 = .ok (.putfield 15, 3) := by decide +kernel
theorem d51 : decode yB 51 = .ok (.aload_n 0, 1) := by decide +kernel
theorem d52 : decode yB 52 = .ok (.aload 5, 2) := by decide +kernel
theorem d54 : decode yB 54 = .ok (.putfield 9, 3) := by decide +kernel
theorem d57 : decode yB 57 = .ok (.return_, 1) := by decide +kernel
def site : List Cond := [.fieldLink "java/lang/String" 38 "java/lang/String" "COMPACT_STRINGS" "Z", Cmp3.tab, CodL.tab, .laysFinal "java/lang/String" "java/lang/String" "value" "[B", .fieldLink "java/lang/String" 9 "java/lang/String" "value" "[B", .laysFinal "java/lang/String" "java/lang/String" "coder" "B", .fieldLink "java/lang/String" 15 "java/lang/String" "coder" "B"] ++ objW "java/lang/String" 1 ++ staticW "java/lang/String" 177 Cmp3.yN ++ staticW "java/lang/String" 47 CodL.yN
def tab : Cond := tabOf yN yB 6 none site
def P (a : Addr) (D : Cell) (fV fC : Field) (b : Addr) (A : Cell) (z : Int32) (o len : Nat) (args : Array Value) (s : State) : Prop := args = #[.ref a, .ref b, .int (Int32.ofNat o), .int (Int32.ofNat len), .null] ∧ Blank "java/lang/String" a D s ∧ Found "java/lang/String" "value" "[B" fV s ∧ Found "java/lang/String" "coder" "B" fC s ∧ Ch b A s ∧ StaticIs s "java/lang/String" "COMPACT_STRINGS" "Z" (.int z) ∧ ¬ z = 0 ∧ 0 < len ∧ o + len ≤ A.slots.size ∧ len ≤ 536870912 ∧ ∀ i, i < len → ¬ 255 < cv A (o + i)
def E (a : Addr) (D : Cell) (fV fC : Field) (A : Cell) (o len : Nat) (r : Option Value) (s u : State) : Prop := Got a D fV fC A o len r s u
/-- len > 0, no char of the range above 255: a Latin-1 String of their low bytes -/
theorem law (l : Launch) (a : Addr) (D : Cell) (fV fC : Field) (b : Addr) (A : Cell) (z : Int32) (o len : Nat) : Law l yN 5 4 2 35 yB 6 none site (P a D fV fC b A z o len) (E a D fV fC A o len) [⟨a, fC.slot⟩, ⟨a, fV.slot⟩] 1 len := by
  refine Law.of_walk (plainFor_of_name (by decide +kernel)) (by decide +kernel) (by decide +kernel) (by decide) (fun _ _ h => by rw [h.1]; rfl) (fun _ U U' hal hh h => ⟨h.1, h.2.1.mv hal hh, h.2.2.1.al hal, h.2.2.2.1.al hal, h.2.2.2.2.1.mv hal hh, h.2.2.2.2.2.1.there hal hh, h.2.2.2.2.2.2⟩) (fun r U U' V V' h1 hal h2 h => Got.mv r U U' V V' h1 hal h2 h) ?_
  intro p e s m args below meth c s₁ X0 hexec hbytes hml hret hlk hnm hown hh0 W hP
  obtain ⟨rfl, hB, f1, f2, hA, s1, hz, l0, l1, l2, hp⟩ := hP
  have a31 := hA.1.2.2.2
  have c1 : Steps p.tables e below (s₁.setTop (entryFrame m #[.ref a, .ref b, .int (Int32.ofNat o), .int (Int32.ofNat len), .null] 6)) (s₁.setTop (mkF m 0 #[.val (.ref a), .val (.ref b), .val (.int (Int32.ofNat o)), .val (.int (Int32.ofNat len)), .val .null, .unset] [])) := entry rfl
  have c2 : Steps p.tables e below (s₁.setTop (entryFrame m #[.ref a, .ref b, .int (Int32.ofNat o), .int (Int32.ofNat len), .null] 6)) (s₁.setTop (mkF m 1 #[.val (.ref a), .val (.ref b), .val (.int (Int32.ofNat o)), .val (.int (Int32.ofNat len)), .val .null, .unset] [.ref a])) := c1.trans (by
    refine XS.aloadN X0.here hexec rfl (hb hbytes d0) rfl rfl ?_
    exact Steps.refl _)
  obtain ⟨T3, X3, q3, st3⟩ := X0.oinit hexec hown (wks W (objW "java/lang/String" 1)) (g := (mkF m 1 #[.val (.ref a), .val (.ref b), .val (.int (Int32.ofNat o)), .val (.int (Int32.ofNat len)), .val .null, .unset] [.ref a])) rfl (by rw [hml]; rfl) (rest := []) rfl (hb hbytes d1) (W := 0) (by show 2 * 0 + 0 ≤ _; decide) (Nat.le_of_ble_eq_true rfl) (Nat.le_of_ble_eq_true rfl)
  have hh3 := q3.trans hh0
  have c4 : Steps p.tables e below (s₁.setTop (entryFrame m #[.ref a, .ref b, .int (Int32.ofNat o), .int (Int32.ofNat len), .null] 6)) (T3.setTop (mkF m 27 #[.val (.ref a), .val (.ref b), .val (.int (Int32.ofNat o)), .val (.int (Int32.ofNat len)), .val .null, .unset] [])) := (c2.trans (st3 _ (Steps.refl _))).trans (by
    refine XS.iloadN X3.here hexec rfl (hb hbytes d4) rfl ?_
    refine XS.ifYes X3.here hexec rfl (pc0 := 5) rfl (hb hbytes d5) rfl (i0_ne_t (nz32 (by omega) l0)) (by decide) rfl ?_
    exact Steps.refl _)
  obtain ⟨T5, X5, q5, st5⟩ := X3.sget hexec hown (wk W (.fieldLink "java/lang/String" 38 "java/lang/String" "COMPACT_STRINGS" "Z")) s1 (fun _ _ h => by rw [hh3]; exact h) (g := (mkF m 27 #[.val (.ref a), .val (.ref b), .val (.int (Int32.ofNat o)), .val (.int (Int32.ofNat len)), .val .null, .unset] [])) rfl (hb hbytes d27)
  have hh5 := q5.trans hh3
  have c6 : Steps p.tables e below (s₁.setTop (entryFrame m #[.ref a, .ref b, .int (Int32.ofNat o), .int (Int32.ofNat len), .null] 6)) (T5.setTop (mkF m 30 #[.val (.ref a), .val (.ref b), .val (.int (Int32.ofNat o)), .val (.int (Int32.ofNat len)), .val .null, .unset] [.int z])) := c4.trans (st5 _ (Steps.refl _))
  have c7 : Steps p.tables e below (s₁.setTop (entryFrame m #[.ref a, .ref b, .int (Int32.ofNat o), .int (Int32.ofNat len), .null] 6)) (T5.setTop (mkF m 36 #[.val (.ref a), .val (.ref b), .val (.int (Int32.ofNat o)), .val (.int (Int32.ofNat len)), .val .null, .unset] [.int (Int32.ofNat len), .int (Int32.ofNat o), .ref b])) := c6.trans (by
    refine XS.ifNo X5.here hexec rfl (hb hbytes d30) rfl (i0_eq_f hz) ?_
    refine XS.aloadN X5.here hexec rfl (hb hbytes d33) rfl rfl ?_
    refine XS.iloadN X5.here hexec rfl (hb hbytes d34) rfl ?_
    refine XS.iloadN X5.here hexec rfl (hb hbytes d35) rfl ?_
    exact Steps.refl _)
  obtain ⟨v8, T8, X8, E8, g8⟩ := X5.callS hexec (Cmp3.law l b A o len) hown (wks W (staticW "java/lang/String" 177 Cmp3.yN)) (wk W Cmp3.tab) (W := 0) (Nat.le_of_ble_eq_true rfl) (Nat.le_of_ble_eq_true rfl) (Nat.le_refl _) (by show 0 + len ≤ len; omega) (g := (mkF m 36 #[.val (.ref a), .val (.ref b), .val (.int (Int32.ofNat o)), .val (.int (Int32.ofNat len)), .val .null, .unset] [.int (Int32.ofNat len), .int (Int32.ofNat o), .ref b])) rfl (by rw [hml]; rfl) c7 (argsL := [.ref b, .int (Int32.ofNat o), .int (Int32.ofNat len)]) (rest := []) rfl rfl (by show 2 * 0 + 0 ≤ _; decide) (hb hbytes d36) (⟨rfl, hA.mv X5.warmed.alike hh5, l1, l2, hp⟩)
  obtain ⟨e8, z8⟩ := E8
  obtain ⟨rfl, N, n1, n2, n3, n4, n5, n6⟩ := NewArr.mv _ T5 s _ _ hh5.symm (Vm.Alike.refl _) rfl e8
  rw [hh5] at z8
  have hB1 := hB.keep X8.warmed.alike (n6 _ _ hB.1)
  have hne : s.heap.size ≠ a := (Nat.ne_of_lt (Array.getElem?_eq_some_iff.mp hB.1).1).symm
  have c9 : Steps p.tables e below (s₁.setTop (entryFrame m #[.ref a, .ref b, .int (Int32.ofNat o), .int (Int32.ofNat len), .null] 6)) (T8.setTop (mkF m 39 #[.val (.ref a), .val (.ref b), .val (.int (Int32.ofNat o)), .val (.int (Int32.ofNat len)), .val .null, .unset] [.ref s.heap.size])) := g8
  have c10 : Steps p.tables e below (s₁.setTop (entryFrame m #[.ref a, .ref b, .int (Int32.ofNat o), .int (Int32.ofNat len), .null] 6)) (T8.setTop (mkF m 45 #[.val (.ref a), .val (.ref b), .val (.int (Int32.ofNat o)), .val (.int (Int32.ofNat len)), .val .null, .val (.ref s.heap.size)] [.int (Int32.ofNat N.slots.size), .ref s.heap.size, .ref a])) := by
    have hc : Steps p.tables e below (s₁.setTop (entryFrame m #[.ref a, .ref b, .int (Int32.ofNat o), .int (Int32.ofNat len), .null] 6)) (T8.setTop (mkF m 45 #[.val (.ref a), .val (.ref b), .val (.int (Int32.ofNat o)), .val (.int (Int32.ofNat len)), .val .null, .val (.ref s.heap.size)] [.int (Int32.ofNat len), .ref s.heap.size, .ref a])) := c9.trans (by
      refine XS.astore X8.here hexec rfl (hb hbytes d39) rfl rfl rfl ?_
      refine XS.aloadN X8.here hexec rfl (hb hbytes d41) rfl rfl ?_
      refine XS.aload X8.here hexec rfl (hb hbytes d42) rfl rfl ?_
      refine XS.iloadN X8.here hexec rfl (hb hbytes d44) rfl ?_
      exact Steps.refl _)
    rw [n4]; exact hc
  obtain ⟨v11, T11, X11, E11, g11⟩ := X8.callS hexec (CodL.law l s.heap.size N) hown (wks W (staticW "java/lang/String" 47 CodL.yN)) (wk W CodL.tab) (W := 1) (Nat.le_of_ble_eq_true rfl) (Nat.le_of_ble_eq_true rfl) (Nat.le_refl _) (by show 0 + len + 0 ≤ len; omega) (g := (mkF m 45 #[.val (.ref a), .val (.ref b), .val (.int (Int32.ofNat o)), .val (.int (Int32.ofNat len)), .val .null, .val (.ref s.heap.size)] [.int (Int32.ofNat N.slots.size), .ref s.heap.size, .ref a])) rfl (by rw [hml]; rfl) c10 (argsL := [.ref s.heap.size, .int (Int32.ofNat N.slots.size)]) (rest := [.ref a]) rfl rfl (by show 2 * 0 + (1 + 0) ≤ _; decide) (hb hbytes d45) (⟨rfl, n1⟩)
  obtain ⟨rfl, q11⟩ := E11
  have hB11 := hB1.mv (X8.warmed.alike.symm.trans X11.warmed.alike) q11
  have c12 : Steps p.tables e below (s₁.setTop (entryFrame m #[.ref a, .ref b, .int (Int32.ofNat o), .int (Int32.ofNat len), .null] 6)) (T11.setTop (mkF m 48 #[.val (.ref a), .val (.ref b), .val (.int (Int32.ofNat o)), .val (.int (Int32.ofNat len)), .val .null, .val (.ref s.heap.size)] [.int 0, .ref a])) := g11
  obtain ⟨T13, X13, p13, bl13, sl13, st13⟩ := X11.finit hexec hown (wk W (.fieldLink "java/lang/String" 15 "java/lang/String" "coder" "B")) (Or.inr ⟨_, (wk W (.laysFinal "java/lang/String" "java/lang/String" "coder" "B"))⟩) (Or.inl ⟨rfl, hnm⟩) f2 (Or.inl rfl) hB11 (t := .byte) (by decide +kernel) rfl (g := (mkF m 48 #[.val (.ref a), .val (.ref b), .val (.int (Int32.ofNat o)), .val (.int (Int32.ofNat len)), .val .null, .val (.ref s.heap.size)] [.int 0, .ref a])) rfl (rest := []) rfl (hb hbytes d48)
  have c14 : Steps p.tables e below (s₁.setTop (entryFrame m #[.ref a, .ref b, .int (Int32.ofNat o), .int (Int32.ofNat len), .null] 6)) (T13.setTop (mkF m 54 #[.val (.ref a), .val (.ref b), .val (.int (Int32.ofNat o)), .val (.int (Int32.ofNat len)), .val .null, .val (.ref s.heap.size)] [.ref s.heap.size, .ref a])) := (c12.trans (st13 _ (Steps.refl _))).trans (by
    refine XS.aloadN X13.here hexec rfl (hb hbytes d51) rfl rfl ?_
    refine XS.aload X13.here hexec rfl (hb hbytes d52) rfl rfl ?_
    exact Steps.refl _)
  obtain ⟨T15, X15, p15, bl15, sl15, st15⟩ := X13.finit hexec hown (wk W (.fieldLink "java/lang/String" 9 "java/lang/String" "value" "[B")) (Or.inr ⟨_, (wk W (.laysFinal "java/lang/String" "java/lang/String" "value" "[B"))⟩) (Or.inl ⟨rfl, hnm⟩) f1 (Or.inl rfl) bl13 (t := (.array .byte)) (by decide +kernel) rfl (g := (mkF m 54 #[.val (.ref a), .val (.ref b), .val (.int (Int32.ofNat o)), .val (.int (Int32.ofNat len)), .val .null, .val (.ref s.heap.size)] [.ref s.heap.size, .ref a])) rfl (rest := []) rfl (hb hbytes d54)
  have c16 : Steps p.tables e below (s₁.setTop (entryFrame m #[.ref a, .ref b, .int (Int32.ofNat o), .int (Int32.ofNat len), .null] 6)) (T15.setTop (mkF m 57 #[.val (.ref a), .val (.ref b), .val (.int (Int32.ofNat o)), .val (.int (Int32.ofNat len)), .val .null, .val (.ref s.heap.size)] [])) := c14.trans (st15 _ (Steps.refl _))
  have ap := apart (Or.inr ⟨_, (wk W (.laysFinal "java/lang/String" "java/lang/String" "value" "[B"))⟩) (Or.inr ⟨_, (wk W (.laysFinal "java/lang/String" "java/lang/String" "coder" "B"))⟩) f1 f2 (t₁ := .array .byte) (t₂ := .byte) (by decide +kernel) (by decide +kernel) (by decide)
  have al := X8.warmed.alike.symm.trans X15.warmed.alike
  have n7 : T11.heap[s.heap.size]? = some N := by rw [q11]; exact n1.1
  exact ⟨T15, none, _, _, _, X15, by simp, rfl, by omega, (fun _ => rfl), ⟨rfl, _, N, bl15, ((Same.refl D _).set _ (by simp)).set _ (by simp), sl15, (Cell.slots_setSlot_ne _ ap).trans sl13, n1.keep al (p15.other hne (p13.other hne n7)), n2, by rw [al.findClass]; exact n3, n4, n5, fun y c h1 h2 => p15.other h1 (p13.other h1 (by rw [q11]; exact n6 y c h2)), by rw [p15.2.2, p13.2.2, q11]; exact z8⟩, fun fs hl => c16.trans (X15.returnOut hexec hret (hb hbytes d57) hl)⟩
end New4
namespace New1
def yN : MethodName := ⟨"java/lang/String", "<init>", "([C)V"⟩
abbrev yB : ByteArray := jdk_42_method_3_code
theorem d0 : decode yB 0 = .ok (.aload_n 0, 1) := by decide +kernel
theorem d1 : decode yB 1 = .ok (.aload_n 1, 1) := by decide +kernel
theorem d2 : decode yB 2 = .ok (.iconst 0, 1) := by decide +kernel
theorem d3 : decode yB 3 = .ok (.aload_n 1, 1) := by decide +kernel
theorem d4 : decode yB 4 = .ok (.arraylength, 1) := by decide +kernel
theorem d5 : decode yB 5 = .ok (.aconst_null, 1) := by decide +kernel
theorem d6 : decode yB 6 = .ok (.invokespecial 27, 3) := by decide +kernel
theorem d9 : decode yB 9 = .ok (.return_, 1) := by decide +kernel
def site : List Cond := [New4.tab] ++ initW "java/lang/String" 27 New4.yN
def tab : Cond := tabOf yN yB 2 none site
def P (a : Addr) (D : Cell) (fV fC : Field) (b : Addr) (A : Cell) (z : Int32) (args : Array Value) (s : State) : Prop := args = #[.ref a, .ref b] ∧ Blank "java/lang/String" a D s ∧ Found "java/lang/String" "value" "[B" fV s ∧ Found "java/lang/String" "coder" "B" fC s ∧ Ch b A s ∧ StaticIs s "java/lang/String" "COMPACT_STRINGS" "Z" (.int z) ∧ ¬ z = 0 ∧ 0 < A.slots.size ∧ A.slots.size ≤ 536870912 ∧ ∀ i, i < A.slots.size → ¬ 255 < cv A i
def E (a : Addr) (D : Cell) (fV fC : Field) (A : Cell) (r : Option Value) (s u : State) : Prop := Got a D fV fC A 0 A.slots.size r s u
/-- new String(chars), not empty, no char above 255: a Latin-1 String of their low bytes -/
theorem law (l : Launch) (a : Addr) (D : Cell) (fV fC : Field) (b : Addr) (A : Cell) (z : Int32) : Law l yN 2 1 3 52 yB 2 none site (P a D fV fC b A z) (E a D fV fC A) [⟨a, fC.slot⟩, ⟨a, fV.slot⟩] 1 A.slots.size := by
  refine Law.of_walk (plainFor_of_name (by decide +kernel)) (by decide +kernel) (by decide +kernel) (by decide) (fun _ _ h => by rw [h.1]; rfl) (fun _ U U' hal hh h => ⟨h.1, h.2.1.mv hal hh, h.2.2.1.al hal, h.2.2.2.1.al hal, h.2.2.2.2.1.mv hal hh, h.2.2.2.2.2.1.there hal hh, h.2.2.2.2.2.2⟩) (fun r U U' V V' h1 hal h2 h => Got.mv r U U' V V' h1 hal h2 h) ?_
  intro p e s m args below meth c s₁ X0 hexec hbytes hml hret hlk hnm hown hh0 W hP
  obtain ⟨rfl, hB, f1, f2, hA, s1, hz, l0, l2, hp⟩ := hP
  have c1 : Steps p.tables e below (s₁.setTop (entryFrame m #[.ref a, .ref b] 2)) (s₁.setTop (mkF m 0 #[.val (.ref a), .val (.ref b)] [])) := entry rfl
  have c2 : Steps p.tables e below (s₁.setTop (entryFrame m #[.ref a, .ref b] 2)) (s₁.setTop (mkF m 6 #[.val (.ref a), .val (.ref b)] [.null, .int (Int32.ofNat A.slots.size), .int 0, .ref b, .ref a])) := c1.trans (by
    refine XS.aloadN X0.here hexec rfl (hb hbytes d0) rfl rfl ?_
    refine XS.aloadN X0.here hexec rfl (hb hbytes d1) rfl rfl ?_
    refine iconstV X0.here hexec rfl 0 (hb hbytes d2) (by decide) ?_
    refine XS.aloadN X0.here hexec rfl (hb hbytes d3) rfl rfl ?_
    refine X0.alen hexec (hA.1.mv X0.warmed.alike hh0) rfl rfl (hb hbytes d4) ?_
    refine XS.aconstNull X0.here hexec rfl (hb hbytes d5) ?_
    exact Steps.refl _)
  obtain ⟨v3, T3, X3, E3, g3⟩ := X0.callN hexec (New4.law l a D fV fC b A z 0 A.slots.size) rfl hown (wks W (initW "java/lang/String" 27 New4.yN)) (W New4.tab (by simp only [site, List.mem_cons, List.mem_append, true_or, or_true])) (W := 0) (Nat.le_of_ble_eq_true rfl) (Nat.le_of_ble_eq_true rfl) (Nat.le_refl _) (by show 0 + A.slots.size ≤ A.slots.size; omega) (g := (mkF m 6 #[.val (.ref a), .val (.ref b)] [.null, .int (Int32.ofNat A.slots.size), .int (Int32.ofNat 0), .ref b, .ref a])) rfl (by rw [hml]; rfl) c2 (argsL := [.ref b, .int (Int32.ofNat 0), .int (Int32.ofNat A.slots.size), .null]) (rest := []) rfl rfl (by show 2 * 0 + 0 ≤ _; decide) (hb hbytes d6) (⟨rfl, hB.mv X0.warmed.alike hh0, f1.al X0.warmed.alike, f2.al X0.warmed.alike, hA.mv X0.warmed.alike hh0, s1.there X0.warmed.alike hh0, hz, l0, by omega, l2, fun i hi => by rw [Nat.zero_add]; exact hp i hi⟩)
  have e0 := Got.mv _ s₁ s _ _ hh0.symm (Vm.Alike.refl _) rfl E3
  obtain rfl := e0.1
  have c4 : Steps p.tables e below (s₁.setTop (entryFrame m #[.ref a, .ref b] 2)) (T3.setTop (mkF m 9 #[.val (.ref a), .val (.ref b)] [])) := g3
  exact ⟨T3, none, _, _, _, X3, by simp, rfl, by omega, (fun _ => rfl), e0, fun fs hl => c4.trans (X3.returnOut hexec hret (hb hbytes d9) hl)⟩
theorem pays {l : Launch} {R : Room} {p : Program} {e : Env} {below : List Frame} {s : State} {sargs : Array Value} {len W : Nat} (a : Addr) (D : Cell) (fV fC : Field) (b : Addr) (A : Cell) (z : Int32) (htab : tab.before sargs s = true) (hfr : 4 ≤ R.frames) (hlo : W + 65 ≤ R.locals) :
    Back l R p e below s sargs yN len W (fun A₁ a₁ => A₁.cells + 1 ≤ R.cells ∧ A₁.slots + A.slots.size ≤ R.slots ∧ P a D fV fC b A z a₁ A₁.U) (fun A₁ _ v₁ B₁ => E a D fV fC A v₁ A₁.U B₁.U ∧ B₁.locs = A₁.locs ++ [⟨a, fC.slot⟩, ⟨a, fV.slot⟩] ∧ B₁.cells = A₁.cells + 1 ∧ B₁.slots = A₁.slots + A.slots.size) :=
  (law l a D fV fC b A z).pays htab hfr (by omega)
end New1
end StrChars
namespace StrChars.Road
open Jvm Sem ClassFile Op Lib Jvm.Stand Jvm.Free Jvm.Free.XT
open Jvm.Lib.Cold (StaticIs)
abbrev ST : String := "java/lang/String"
/-- every table word that New1's law asks, flat -/
abbrev words : List Jvm.Cond := [.code New1.yN New1.yB 2 none, .initialized ST, .methodLink ST 27 New4.yN, .instanceMethod New4.yN,
  .code New4.yN New4.yB 6 none, .fieldLink ST 38 ST "COMPACT_STRINGS" "Z", .laysFinal ST ST "value" "[B", .fieldLink ST 9 ST "value" "[B", .laysFinal ST ST "coder" "B", .fieldLink ST 15 ST "coder" "B",
  .methodLink ST 1 Lib.objectInit, .instanceMethod Lib.objectInit, .code Lib.objectInit ⟨#[0xb1]⟩ 1 none, .methodLink ST 177 Cmp3.yN, .static Cmp3.yN, .methodLink ST 47 CodL.yN, .static CodL.yN,
  .code Cmp3.yN Cmp3.yB 6 (some (.array .byte)), .initialized U16, .arrayClass .byte, .methodLink U16 115 Cmp5.yN, .static Cmp5.yN, .code Cmp5.yN Cmp5.yB 7 (some .int), .code CodL.yN CodL.yB 2 (some .byte)]
theorem tab_of {a : Array Value} {s : State} (h : ∀ w ∈ words, w.before a s = true) : New1.tab.before a s = true := by
  have h5 : Cmp5.tab.before a s = true := unparts (wk h (.code Cmp5.yN Cmp5.yB 7 (some .int))) (wks h (.initialized Cmp5.yN.cls :: Cmp5.site))
  have hc : CodL.tab.before a s = true := unparts (wk h (.code CodL.yN CodL.yB 2 (some .byte))) (wks h (.initialized CodL.yN.cls :: CodL.site))
  have q5 : ∀ w ∈ Cmp5.tab :: words, w.before a s = true := fun w hw => (List.mem_cons.mp hw).elim (fun e => e ▸ h5) (h w)
  have h3 : Cmp3.tab.before a s = true := unparts (wk q5 (.code Cmp3.yN Cmp3.yB 6 (some (.array .byte)))) (wks q5 (.initialized Cmp3.yN.cls :: Cmp3.site))
  have q3 : ∀ w ∈ Cmp3.tab :: CodL.tab :: words, w.before a s = true := fun w hw => (List.mem_cons.mp hw).elim (fun e => e ▸ h3) fun hw => (List.mem_cons.mp hw).elim (fun e => e ▸ hc) (h w)
  have h4 : New4.tab.before a s = true := unparts (wk q3 (.code New4.yN New4.yB 6 none)) (wks q3 (.initialized New4.yN.cls :: New4.site))
  have q4 : ∀ w ∈ New4.tab :: words, w.before a s = true := fun w hw => (List.mem_cons.mp hw).elim (fun e => e ▸ h4) (h w)
  exact unparts (wk q4 (.code New1.yN New1.yB 2 none)) (wks q4 (.initialized New1.yN.cls :: New1.site))
/-- the words ride from the start Z to the walk's own state -/
theorem moved {Z s : State} {a0 args : Array Value} (hZ : Z.Warmed39 s.vm) (hw : ∀ d ∈ words, d.before a0 Z = true) : ∀ d ∈ words, d.before args s = true := fun d hd => by
  have q := hw d hd
  have t : ∀ d ∈ words, d = .arrayClass .byte ∨ (d.onTables && d.keepsFace) = true := by decide +kernel
  rcases t d hd with rfl | t
  · exact RoadKit.mvA hZ q
  · exact RoadKit.mv hZ q t
/-- WHAT COMES BACK, over the tables of the start Z: h the heap at the call, h' behind it -/
def Q (Z : State) (x : Addr) (A : Cell) (h : Heap) (v : Option Value) (h' : Heap) (L : List Loc) : Prop := v = none ∧ (∀ y ∈ L, y.base = x) ∧ RoadKit.Keep h h' [x] ∧ h'.size = h.size + 1 ∧ RoadKit.Exa Z h' x ST ∧ RoadKit.Fld Z h' x ST "value" "[B" (.ref h.size) ∧ RoadKit.Fld Z h' x ST "coder" "B" (.int 0) ∧
  (∃ V : Cell, RoadKit.Arr Z h' h.size V .byte ∧ V.vm = .none ∧ Z.vm.findClass "[B" = some V.cls ∧ V.slots.size = A.slots.size ∧ ∀ j, j < A.slots.size → V.slots[j]? = some (.int (lo8 (cv A j)))) ∧
  ∀ (O n d : String) (w : Value), RoadKit.Fld Z h x O n d w → RoadKit.slotOf Z O n d ≠ RoadKit.slotOf Z ST "value" "[B" → RoadKit.slotOf Z O n d ≠ RoadKit.slotOf Z ST "coder" "B" → RoadKit.Fld Z h' x O n d w
/-- **new String(chars) AT A CALL, IN THE ROAD'S FORM**: for specialBack behind newO: x the fresh String, b the char[] with the cell A -/
theorem back {p : Program} {l : Launch} {e : Env} {R : Room} {s : State} {args : Array Value} {below : List Frame} {len W : Nat} {Z : State} {a0 : Array Value} {h : Heap} (hZ : Z.Warmed39 s.vm) (hw : ∀ d ∈ words, d.before a0 Z = true) {kI : Nat} (wi : (Jvm.Cond.instantiable ST kI).before a0 Z = true)
    {x b : Addr} {A : Cell} {z : Int32} {v0 c0 : Value} (E : RoadKit.Exa Z h x ST) (V : RoadKit.Fld Z h x ST "value" "[B" v0) (C : RoadKit.Fld Z h x ST "coder" "B" c0) (K : RoadKit.Arr Z h b A .char) (hty : Typed .char A) (S : RoadKit.Sta Z h ST "COMPACT_STRINGS" "Z" (.int z)) (hz : ¬ z = 0)
    (l0 : 0 < A.slots.size) (l2 : A.slots.size ≤ 536870912) (hp : ∀ i, i < A.slots.size → ¬ 255 < cv A i) (hfr : 4 ≤ R.frames) (hlo : W + 65 ≤ R.locals) :
    Back l R p e below s args New1.yN len W (fun P a => a = #[.ref x, .ref b] ∧ P.U.heap = h ∧ P.cells + 1 ≤ R.cells ∧ P.slots + A.slots.size ≤ R.slots)
      (fun P _ v B => ∃ L, Q Z x A h v B.U.heap L ∧ B.locs = P.locs ++ L ∧ B.cells = P.cells + 1 ∧ B.slots = P.slots + A.slots.size) := by
  intro m meth c P g ig mk a X hg hsize hdg hW hn hp'
  obtain ⟨rfl, rfl, r1, r2⟩ := hp'
  have al : Z.vm.Alike P.U.vm := hZ.alike.trans X.warmed.alike
  obtain ⟨D, cfV, kV, iV, fV, hD, gV, stV, knV, obV, asV, slV⟩ := id V
  obtain ⟨D', cfC, kC, iC, fC, hD', gC, stC, -, -, asC, slC⟩ := id C
  cases hD.symm.trans hD'
  obtain ⟨D2, kD, e1, e2, e3, e4, e5⟩ := id E
  cases hD.symm.trans e1
  obtain ⟨c2, k2, i1, i2, i3, -⟩ := Cond.instantiable_spec wi
  cases e2.symm.trans i1
  cases e3.symm.trans i2
  obtain ⟨kU, u1, u2⟩ := al.2.2 _ _ e3
  have hB : Blank ST x D P.U := ⟨hD, ⟨knV, fun q hq => by rw [hq] at obV; cases obV⟩, by rw [al.findClass]; exact e2, kU, u1, by rw [u2]; exact i3, by rw [u2]; exact e5 i3⟩
  have F1 : Found ST "value" "[B" fV P.U := ⟨SBG.found_only al ⟨cfV, kV, iV, gV⟩, stV⟩
  have F2 : Found ST "coder" "B" fC P.U := ⟨SBG.found_only al ⟨cfC, kC, iC, gC⟩, stC⟩
  have hA : Ch b A P.U := ⟨⟨K.1, State.isArrayOf_alike al K.2.1, K.2.2, by omega⟩, hty⟩
  have hS : StaticIs P.U ST "COMPACT_STRINGS" "Z" (.int z) := by
    obtain ⟨cfS, iS, kS, fS, st, cS, t1, t2, t3, t4, t5, t6, t7⟩ := S
    exact StaticIs.there (s := { Z with heap := P.U.heap }) ⟨cfS, iS, kS, fS, st, cS, t1, t2, t3, t4, t5, (fun q => by rw [q] at t6; cases t6), t7⟩ al rfl
  obtain ⟨v, B, X', ⟨⟨hv, E', V', q1, q2, q3, q4, q5, q6, q7, q8, q9, q10, q11⟩, hl, hc, hs⟩, st⟩ := New1.pays x D fV fC b A z (tab_of (moved hZ hw)) hfr hlo m meth c P g ig mk _ X hg hsize hdg hW hn ⟨r1, r2, rfl, hB, F1, F2, hA, hS, hz, l0, l2, hp⟩
  have al' : Z.vm.Alike B.U.vm := hZ.alike.trans X'.warmed.alike
  have hsz : E'.slots.size = D.slots.size := by
    obtain ⟨-, -, -, kB, w1, w2, w3⟩ := q1
    obtain ⟨kB', y1, y2⟩ := al'.2.2 _ _ e3
    rw [q2.2.1] at w1
    cases w1.symm.trans y1
    rw [w3, e5 i3, y2]
  refine ⟨v, B, X', ⟨_, ⟨hv, ?_, ⟨by omega, fun y cy hy hn' => q10 y cy (by simpa using hn') hy, fun y cy hy => ?_⟩, q11, ⟨E', _, q1.1, by rw [q2.2.1]; exact e2, by rw [q2.2.1]; exact e3, by rw [q2.1]; exact obV, fun _ => by rw [hsz]; exact e5 i3⟩,
    ⟨E', cfV, kV, iV, fV, q1.1, gV, stV, by rw [q2.1]; exact knV, by rw [q2.1]; exact obV, by rw [q2.2.1]; exact asV, q3⟩, ⟨E', cfC, kC, iC, fC, q1.1, gC, stC, by rw [q2.1]; exact knV, by rw [q2.1]; exact obV, by rw [q2.2.1]; exact asC, q4⟩,
    ⟨V', ⟨q5.1, State.isArrayOf_alike al'.symm q5.2.1, q5.2.2.1⟩, q6, by rw [← al'.findClass]; exact q7, q8, fun j hj => by have := q9 j hj; rwa [Nat.zero_add] at this⟩, fun O n d w F n1 n2 => ?_⟩, hl, hc, hs⟩, st⟩
  · intro y hy
    simp only [List.mem_cons, List.not_mem_nil, or_false] at hy
    rcases hy with rfl | rfl <;> rfl
  · by_cases q : y = x
    · subst q
      cases hD.symm.trans hy
      exact ⟨E', q1.1, q2.2.1, q2.1, hsz⟩
    · exact ⟨cy, q10 y cy q hy, rfl, rfl, rfl⟩
  · obtain ⟨D3, cf, k, i, f, g1, g2, g3, g4, g5, g6, g7⟩ := F
    cases hD.symm.trans g1
    simp only [RoadKit.slotOf, g2, gV, gC, Option.map_some, Option.getD_some] at n1 n2
    exact ⟨E', cf, k, i, f, q1.1, g2, g3, by rw [q2.1]; exact g4, by rw [q2.1]; exact g5, by rw [q2.2.1]; exact g6, by rw [q2.2.2 f.slot (by simp [n1, n2])]; exact g7⟩
end StrChars.Road
namespace StrChars.Road
open Jvm Sem ClassFile Op Lib Jvm.Stand Jvm.Free Jvm.Free.XT
/-- WHAT COMES BACK, the byte[] as a list of values -/
def QA (Z : State) (x : Addr) (zn : Int32) (cs : List Int32) (h : Heap) (v : Option Value) (h' : Heap) (L : List Loc) : Prop := v = none ∧ (∀ y ∈ L, y.base = x) ∧ RoadKit.Keep h h' [x] ∧ h'.size = h.size + 1 ∧ RoadKit.Exa Z h' x ST ∧ RoadKit.Fld Z h' x ST "value" "[B" (.ref h.size) ∧ RoadKit.Fld Z h' x ST "coder" "B" (.int 0) ∧
  (∃ kb, Z.vm.findClass "[B" = some kb ∧ RoadKit.Arv Z h' h.size kb .byte zn (cs.map fun c => .int (lo8 c)) (.int 0)) ∧
  ∀ (O n d : String) (w : Value), RoadKit.Fld Z h x O n d w → RoadKit.slotOf Z O n d ≠ RoadKit.slotOf Z ST "value" "[B" → RoadKit.slotOf Z O n d ≠ RoadKit.slotOf Z ST "coder" "B" → RoadKit.Fld Z h' x O n d w
/-- **new String(chars) AT A CALL, THE ARRAYS AS LISTS**: the char[] at b holds cs, not empty, no char above 255 -/
theorem backArv {p : Program} {l : Launch} {e : Env} {R : Room} {s : State} {args : Array Value} {below : List Frame} {len W : Nat} {Z : State} {a0 : Array Value} {h : Heap} (hZ : Z.Warmed39 s.vm) (hw : ∀ d ∈ words, d.before a0 Z = true) {kI : Nat} (wi : (Jvm.Cond.instantiable ST kI).before a0 Z = true)
    {x b : Addr} {k : ClassId} {zn z : Int32} {cs : List Int32} {dv v0 c0 : Value} (E : RoadKit.Exa Z h x ST) (V : RoadKit.Fld Z h x ST "value" "[B" v0) (C : RoadKit.Fld Z h x ST "coder" "B" c0) (K : RoadKit.Arv Z h b k .char zn (cs.map Value.int) dv) (S : RoadKit.Sta Z h ST "COMPACT_STRINGS" "Z" (.int z)) (hz : ¬ z = 0)
    (hlen : zn.toNatClampNeg = cs.length) (h0 : 0 < cs.length) (hbig : cs.length ≤ 536870912) (hall : ∀ c ∈ cs, ¬ 255 < c) (hfr : 4 ≤ R.frames) (hlo : W + 65 ≤ R.locals) :
    Back l R p e below s args New1.yN len W (fun P a => a = #[.ref x, .ref b] ∧ P.U.heap = h ∧ P.cells + 1 ≤ R.cells ∧ P.slots + cs.length ≤ R.slots)
      (fun P _ v B => ∃ L, QA Z x zn cs h v B.U.heap L ∧ B.locs = P.locs ++ L ∧ B.cells = P.cells + 1 ∧ B.slots = P.slots + cs.length) := by
  obtain ⟨A, K1, K2, K3, K4, K5, K6⟩ := K
  have e : A.slots.size = cs.length := K3.trans hlen
  have hat : ∀ (i : Nat) (hi : i < cs.length), A.slots[i]? = some (.int cs[i]) := fun i hi => by rw [K5 i (by omega)]; simp [List.getD_eq_getElem?_getD, hi]
  have hcv : ∀ (i : Nat) (hi : i < cs.length), cv A i = cs[i] := fun i hi => by unfold cv; rw [hat i hi]
  have hty : Typed .char A := fun i v hv => by
    have hi : i < A.slots.size := (Array.getElem?_eq_some_iff.mp hv).1
    have q := K5 i hi
    rw [hv] at q
    rw [Option.some.inj q]
    exact K6 i hi
  refine Back.mono (back hZ hw wi E V C K1 hty S hz (by omega) (by omega) (fun i hi => by rw [hcv i (by omega)]; exact hall _ (List.getElem_mem _)) hfr hlo) (fun P a hp => ⟨hp.1, hp.2.1, hp.2.2.1, by rw [e]; exact hp.2.2.2⟩) (fun P a v B hp hq => ?_)
  obtain ⟨L, ⟨q1, q2, q3, q4, q5, q6, q7, ⟨V', v1, v2, v3, v4, v5⟩, q9⟩, hl, hc, hs⟩ := hq
  refine ⟨L, ⟨q1, q2, q3, q4, q5, q6, q7, ⟨V'.cls, v3, V', v1, rfl, by rw [v4, e, hlen], K4, fun i hi => ?_, fun i hi => ?_⟩, q9⟩, hl, hc, by rw [hs, e]⟩
  · have hi' : i < cs.length := by omega
    rw [v5 i (by omega), hcv i hi']; simp [List.getD_eq_getElem?_getD, hi']
  · have hi' : i < cs.length := by omega
    simp only [List.getD_eq_getElem?_getD, List.getElem?_map, List.getElem?_eq_getElem hi', Option.map_some, Option.getD_some]
    exact fits_lo8 _
end StrChars.Road
namespace StrChars.Road
open Jvm Sem ClassFile Op Lib Jvm.Stand Jvm.Free Jvm.Free.XT
/-- WHAT COMES BACK, in the writer's own shape -/
def QV (Z : State) (x : Addr) (N : Int32) (bs : List Int32) (h : Heap) (n0 : Nat) (v : Option Value) (h' : Heap) (L : List Loc) : Prop := v = none ∧ RoadKit.Fr n0 L ∧ RoadKit.Keep h h' [x] ∧ RoadKit.Exa Z h' x ST ∧ RoadKit.Fld Z h' x ST "coder" "B" (.int 0) ∧
  ∃ (t : Addr) (kb : ClassId), n0 ≤ t ∧ h.size ≤ t ∧ ¬ t = x ∧ RoadKit.Fld Z h' x ST "value" "[B" (.ref t) ∧ RoadKit.Arv Z h' t kb .byte N (bs.map Value.int) (.int 0)
/-- **new String(chars) AT A CALL, FOR THE WRITER**: a char[] of n known ints, each 0 to 255 -/
theorem backV {p : Program} {l : Launch} {e : Env} {R : Room} {s : State} {args : Array Value} {below : List Frame} {len W : Nat} {Z : State} {a0 : Array Value} {h : Heap} (hZ : Z.Warmed39 s.vm) (hw : ∀ d ∈ words, d.before a0 Z = true) {kI : Nat} (wi : (Jvm.Cond.instantiable ST kI).before a0 Z = true)
    {x b : Addr} {kC : ClassId} {cs bs : List Int32} {d v0 c0 : Value} {z N : Int32} {n n0 : Nat} (hx0 : n0 ≤ x) (hh0 : n0 ≤ h.size) (E : RoadKit.Exa Z h x ST) (V : RoadKit.Fld Z h x ST "value" "[B" v0) (C : RoadKit.Fld Z h x ST "coder" "B" c0) (K : RoadKit.Arv Z h b kC .char N (cs.map Value.int) d) (S : RoadKit.Sta Z h ST "COMPACT_STRINGS" "Z" (.int z)) (hz : ¬ z = 0)
    (hn : cs.length = n) (hN : N = Int32.ofNat n) (l0 : 0 < n) (l2 : n ≤ 4000) (hp : ∀ c ∈ cs, ¬ c < 0 ∧ ¬ (255 : Int32) < c) (hb : bs = cs.map (fun c => c.toInt8.toInt32)) (hfr : 4 ≤ R.frames) (hlo : W + 65 ≤ R.locals) :
    Back l R p e below s args (⟨"java/lang/String", "<init>", "([C)V"⟩ : MethodName) len W (fun P a => a = #[.ref x, .ref b] ∧ P.U.heap = h ∧ P.cells + 1 ≤ R.cells ∧ P.slots + n ≤ R.slots)
      (fun P _ v B => ∃ L, QV Z x N bs h n0 v B.U.heap L ∧ B.locs = P.locs ++ L ∧ B.cells = P.cells + 1 ∧ B.slots = P.slots + n) := by
  subst hn hN hb
  refine Back.mono (backArv hZ hw wi E V C K S hz (n32 (by omega)) l0 (by omega) (fun c hc => (hp c hc).2) hfr hlo) (fun P a hp => hp) (fun P a v B hp hq => ?_)
  obtain ⟨L, ⟨q1, q2, q3, q4, q5, q6, q7, ⟨kb, v1, v2⟩, q9⟩, hl, hc, hs⟩ := hq
  exact ⟨L, ⟨q1, fun y hy => by rw [q2 y hy]; exact hx0, q3, q5, q7, h.size, kb, hh0, Nat.le_refl _, Nat.ne_of_gt E.lt, q6, by rw [List.map_map]; exact v2⟩, hl, hc, hs⟩
end StrChars.Road
end Jvm.Pilot.@@N@@
namespace Jvm.Pilot.@@N@@
open Jvm Jvm.ClassFile Sem Op Lib Jvm.Free Jvm.Stand Jvm.LawKit Jvm.RoadKit Bundle Jvm.Pilot.@@N@@.Jvm.D
section OwnGo
/-- from this frame the run ends, and leaves what Q says -/
def Go (p : Program) (e : Env) (below : List Frame) (s : State) (k n : Nat) (Q : Option Value → Heap → List Loc → Prop) (m : MethodId) (T : State) (pc : Nat) (L : Array Slot) (S : List Value) : Prop :=
  ∃ s₂ o, Steps p.tables e below (T.setTop (mkF m pc L S)) s₂ ∧ s₂.status = .running ∧ Ended s₂ below o ∧ ∃ v Ls, o = .returned v ∧ Q v s₂.heap Ls ∧ FrameEnd s o s₂ Ls k n
variable {p : Program} {l : Launch} {e : Env} {R : Room} {s : State} {m : MethodId} {args : Array Value} {below : List Frame} {meth : Method} {c : Code} {T T' : State} {locs : List Loc} {cells slots k n : Nat} {Z : State} {h : Heap} {Q : Option Value → Heap → List Loc → Prop} {pc pc' : Nat} {L L' : Array Slot} {S S' : List Value}
theorem Go.st (h : ∀ t, Steps p.tables e below (T'.setTop (mkF m pc' L' S')) t → Steps p.tables e below (T.setTop (mkF m pc L S)) t) (g : Go p e below s k n Q m T' pc' L' S') : Go p e below s k n Q m T pc L S := by
  obtain ⟨a, b, c, d⟩ := g; exact ⟨a, b, h _ c, d⟩
theorem Go.tr (h : Steps p.tables e below (T.setTop (mkF m pc L S)) (T'.setTop (mkF m pc' L' S'))) (g : Go p e below s k n Q m T' pc' L' S') : Go p e below s k n Q m T pc L S := Go.st (fun _ q => h.trans q) g
theorem Go.retV (X : Stand p l e R s m args below meth c T locs cells slots) (hx : p.tables.exec = Jvm.exec) (hlk : meth.locks = false) (hret : meth.sig.returnType = none) (hd : decode c.code pc = .ok (.return_, 1)) (hk : cells ≤ k) (hn : slots ≤ n) (hq : Q none T.heap locs) : Go p e below s k n Q m T pc L [] := by
  obtain ⟨fs, hr, hrun, hended, hW, hsame⟩ := X.leave (v := none) (fun _ => rfl) hlk
  exact ⟨_, _, X.returnOut hx hret hd hr, hrun, hended, _, _, rfl, hq, ⟨_, rfl⟩, hW, hsame.mono hk hn⟩
theorem Go.retN (X : Stand p l e R s m args below meth c T locs cells slots) (hx : p.tables.exec = Jvm.exec) (hlk : meth.locks = false) {t : FieldType} {z : Int32} {rest : List Value} (hret : meth.sig.returnType = some t) (ht : t = .boolean ∨ t = .byte ∨ t = .char ∨ t = .short) (hd : decode c.code pc = .ok (.ireturn, 1)) (hk : cells ≤ k) (hn : slots ≤ n) (hq : Q (some (.int (nar t z))) T.heap locs) : Go p e below s k n Q m T pc L (.int z :: rest) := by
  obtain ⟨fs, hr, hrun, hended, hW, hsame⟩ := X.leave (v := some (.int (nar t z))) (fun h => by rw [hret] at h; cases h) hlk
  exact ⟨_, _, Jvm.RoadKit.retN X hx hret ht hd hr, hrun, hended, _, _, rfl, hq, ⟨_, rfl⟩, hW, hsame.mono hk hn⟩
theorem Go.retO (X : Stand p l e R s m args below meth c T locs cells slots) (hx : p.tables.exec = Jvm.exec) (hlk : meth.locks = false) {t : FieldType} {w : Value} {i : Instr} {rest : List Value} (hret : meth.sig.returnType = some t) (hw : narrow t w = w) (hi : (i = .ireturn ∧ (t = .int ∨ t = .boolean ∨ t = .byte ∨ t = .char ∨ t = .short) ∧ ∃ z, w = .int z) ∨ (i = .lreturn ∧ t = .long ∧ ∃ z, w = .long z) ∨ (i = .dreturn ∧ t = .double ∧ ∃ z, w = .double z) ∨ (i = .freturn ∧ t = .float ∧ ∃ z, w = .float z) ∨ (i = .areturn ∧ t.isReference = true ∧ w.isRef = true)) (hd : decode c.code pc = .ok (i, 1)) (hk : cells ≤ k) (hn : slots ≤ n) (hq : Q (some w) T.heap locs) : Go p e below s k n Q m T pc L (w :: rest) := by
  obtain ⟨fs, hr, hrun, hended, hW, hsame⟩ := X.leave (v := some w) (fun h => by rw [hret] at h; cases h) hlk
  exact ⟨_, _, retOut X hx hret hw hi hd hr, hrun, hended, _, _, rfl, hq, ⟨_, rfl⟩, hW, hsame.mono hk hn⟩
theorem Stand.up (X : Stand p l e R s m args below meth c T locs cells slots) (hk : cells ≤ k) (hn : slots ≤ n) : Stand p l e R s m args below meth c T locs k n :=
  ⟨X.admits, X.cas, X.clock, X.frames, X.room, X.hears, X.method, X.code, X.here, X.tail, X.warmed, X.limits, X.bytes, X.same.mono hk hn⟩
theorem own_len (X : Stand p l e R s m args below meth c T locs cells slots) (hx : p.tables.exec = Jvm.exec) (hZ : Z.Warmed39 s.vm) (eT : T.heap = h) {a : Addr} {cl : Cell} {ty : FieldType} {z : Int32} (A : Arr Z h a cl ty) (S : cl.slots.size = z.toNatClampNeg) (q : ¬ z < 0) {g : JFrame} (hg : g.method = m) {rest : List Value} (hs : g.stack = .ref a :: rest) (hd : decode c.code g.pc = .ok (.arraylength, 1)) (t : State)
    (k : Steps p.tables e below (T.setTop { g with pc := g.pc + 1, stack := .int z :: rest }) t) : Steps p.tables e below (T.setTop g) t := by
  refine X.arraylength hx (by rw [eT]; exact A.1) (State.isArrayOf_alike hZ.alike A.2.1) (g := g) hg hs hd _ ?_
  rw [len_of S q]; exact k
theorem own_met {l : Launch} {y : MethodName} {bytes : ByteArray} {maxL : Nat} {ret : Option FieldType} {ws : List Jvm.Cond} {rm : Room} {A : Array Value} {Z : State} {h0 : Heap} {Q : Option Value → Heap → List Loc → Prop} {L0 : Array Slot} {K N : Nat} (hpl : plainFor y = true) (hef : ∀ m, entryFrame m A maxL = mkF m 0 L0 [])
    (body : ∀ (p : Program) (e : Env) (s : State) (m : MethodId) (below : List Frame) (meth : Method) (c : Code) (s₁ : State), Stand p l e rm s m A below meth c s₁ [] 0 0 → p.tables.exec = Jvm.exec → c.code = bytes → c.maxLocals = maxL → s.vm.findClass y.cls = some m.cls → meth.name = y.name → meth.sig.returnType = ret → meth.locks = false → Z.Warmed39 s.vm → s₁.heap = h0 → Go p e below s K N Q m s₁ 0 L0 []) :
    MetFree l y (head1 (Jvm.Cond.code y bytes maxL ret :: ws) rm) (fun a U => a = A ∧ Z.Warmed39 U.vm ∧ U.heap = h0) (fun _ _ _ _ _ => True) (fun _ U o U' => ∃ v L, o = .returned v ∧ Q v U'.heap L ∧ FrameEnd U o U' L K N) := by
  refine MetFree.of_bodySF hpl hisR ?_
  intro p e s m args below meth c s₁ Bd hml0 hP hK
  obtain ⟨rfl, hZ, hh⟩ := hP
  obtain ⟨s₂, o, h1, h2⟩ := body p e s m below meth c s₁ (Stand.of_body Bd) Bd.exec Bd.bytes hml0 (findClass_of_methodNamed Bd.named) (name_of_methodNamed Bd.named Bd.method).1 Bd.returns Bd.notSynchronized hZ (by rw [← hh, Bd.state]; rfl)
  exact ⟨s₂, o, castTop (hef m) h1, h2⟩
end OwnGo
theorem own_and255 (x : Int32) : ¬ nar .char ((x &&& (255 : Int32)).toUInt32.toUInt16.toUInt32.toInt32) < 0 ∧ ¬ (255 : Int32) < nar .char ((x &&& (255 : Int32)).toUInt32.toUInt16.toUInt32.toInt32) := by
  have e1 : nar .char ((x &&& (255 : Int32)).toUInt32.toUInt16.toUInt32.toInt32) = x &&& 255 := by simp only [nar, i2c_mask]
  rw [e1]
  have h := c_mask x 255 8 (by decide) (by decide)
  have e0 : (0 : Int32).toInt = 0 := rfl
  have e2 : (255 : Int32).toInt = 255 := rfl
  simp only [Int32.lt_iff_toInt_lt, h, e0, e2]
  omega
theorem own_c255 (x : Int32) : ¬ (x &&& (255 : Int32)).toUInt32.toUInt16.toUInt32.toInt32 < 0 ∧ ¬ (255 : Int32) < (x &&& (255 : Int32)).toUInt32.toUInt16.toUInt32.toInt32 := by
  rw [i2c_mask]
  have h := c_mask x 255 8 (by decide) (by decide)
  have e0 : (0 : Int32).toInt = 0 := rfl
  have e2 : (255 : Int32).toInt = 255 := rfl
  simp only [Int32.lt_iff_toInt_lt, h, e0, e2]
  omega
theorem own_neArv {Z : State} {h : Heap} {a b : Addr} {k k' : ClassId} {ty ty' : FieldType} {z z' : Int32} {vs vs' : List Value} {d d' : Value} (A : Arv Z h a k ty z vs d) (B : Arv Z h b k' ty' z' vs' d') (hz : z.toNatClampNeg ≠ z'.toNatClampNeg) : a ≠ b := fun e => by
  subst e
  obtain ⟨c, A1, -, A2, -⟩ := A
  obtain ⟨c', B1, -, B2, -⟩ := B
  cases A1.1.symm.trans B1.1
  exact hz (A2.symm.trans B2)
theorem own_oneF {Z : State} {h : Heap} {a : Addr} {C n d : String} {v w : Value} (F : Fld Z h a C n d v) (G : Fld Z h a C n d w) : v = w := by
  obtain ⟨c1, _, _, _, _, h1, h2, -, -, -, -, h7⟩ := F
  obtain ⟨c2, _, _, _, _, g1, g2, -, -, -, -, g7⟩ := G
  cases h1.symm.trans g1; cases h2.symm.trans g2; exact Option.some.inj (h7.symm.trans g7)
section OwnGoH
/-- as Go, where String constants may be loaded: the wide frame, and the invariant of the constants held -/
def GoH (Z : State) (EL : List (String × Nat)) (p : Program) (e : Env) (below : List Frame) (s : State) (k n : Nat) (Q : Option Value → Heap → List Loc → Prop) (m : MethodId) (T : State) (pc : Nat) (L : Array Slot) (S : List Value) : Prop :=
  ∃ s₂ o, Steps p.tables e below (T.setTop (mkF m pc L S)) s₂ ∧ s₂.status = .running ∧ Ended s₂ below o ∧ ∃ v Ls, o = .returned v ∧ Q v s₂.heap Ls ∧ CHr Z EL s.vm s.heap s₂.vm s₂.heap ∧ ReturnedEndW s o s₂ Ls k n
variable {p : Program} {l : Launch} {e : Env} {R : Room} {s : State} {m : MethodId} {args : Array Value} {below : List Frame} {meth : Method} {c : Code} {T T' : State} {locs : List Loc} {cells slots k n k0 : Nat} {Z : State} {a0 : Array Value} {h h0 : Heap} {vm0 : Vm} {EL : List (String × Nat)} {Q : Option Value → Heap → List Loc → Prop} {pc pc' : Nat} {L L' : Array Slot} {S S' : List Value}
theorem GoH.st (h : ∀ t, Steps p.tables e below (T'.setTop (mkF m pc' L' S')) t → Steps p.tables e below (T.setTop (mkF m pc L S)) t) (g : GoH Z EL p e below s k n Q m T' pc' L' S') : GoH Z EL p e below s k n Q m T pc L S := by
  obtain ⟨a, b, c, d⟩ := g; exact ⟨a, b, h _ c, d⟩
theorem GoH.tr (h : Steps p.tables e below (T.setTop (mkF m pc L S)) (T'.setTop (mkF m pc' L' S'))) (g : GoH Z EL p e below s k n Q m T' pc' L' S') : GoH Z EL p e below s k n Q m T pc L S := GoH.st (fun _ q => h.trans q) g
theorem own_upW {s t : State} {o : Outcome} {L : List Loc} {k n k' n' : Nat} (h : ReturnedEndW s o t L k n) (hk : k ≤ k') (hn : n ≤ n') : ReturnedEndW s o t L k' n' := ⟨h.1, h.2.1, h.2.2.1, h.2.2.2.mono hk hn⟩
theorem own_chr (X : Stand p l e R (s.setVm vm0) m args below meth c T locs cells slots) (eT : T.heap = h) (hs0 : s.heap = h0) (hZ : Z.Warmed39 vm0) (hEL : EW Z a0 EL) (CR : CHr Z EL s.vm h0 vm0 h) : CHr Z EL s.vm s.heap T.vm T.heap := by
  rw [eT, hs0]; exact CR.trans (CHv.at X hZ hEL CR.1)
theorem GoH.retV (X : Stand p l e R (s.setVm vm0) m args below meth c T locs cells slots) (hx : p.tables.exec = Jvm.exec) (hlk : meth.locks = false) (hret : meth.sig.returnType = none) (hd : decode c.code pc = .ok (.return_, 1)) (hk : cells ≤ k) (hn : slots ≤ n) (hS : s.Since vm0 k0) (hk0 : k0 ≤ h.size) (eT : T.heap = h) (hs0 : s.heap = h0) (hZ : Z.Warmed39 vm0) (hEL : EW Z a0 EL) (CR : CHr Z EL s.vm h0 vm0 h) (hq : Q none T.heap locs) : GoH Z EL p e below s k n Q m T pc L [] := by
  obtain ⟨fs, hr, hrun, hended, hW⟩ := X.leaveW hS (by rw [eT]; exact hk0) (v := none) (fun _ => rfl) hlk
  have hc := own_chr X eT hs0 hZ hEL CR
  exact ⟨_, _, X.returnOut hx hret hd hr, hrun, hended, _, _, rfl, hq, hc, own_upW hW hk hn⟩
theorem GoH.retN (X : Stand p l e R (s.setVm vm0) m args below meth c T locs cells slots) (hx : p.tables.exec = Jvm.exec) (hlk : meth.locks = false) {t : FieldType} {z : Int32} {rest : List Value} (hret : meth.sig.returnType = some t) (ht : t = .boolean ∨ t = .byte ∨ t = .char ∨ t = .short) (hd : decode c.code pc = .ok (.ireturn, 1)) (hk : cells ≤ k) (hn : slots ≤ n) (hS : s.Since vm0 k0) (hk0 : k0 ≤ h.size) (eT : T.heap = h) (hs0 : s.heap = h0) (hZ : Z.Warmed39 vm0) (hEL : EW Z a0 EL) (CR : CHr Z EL s.vm h0 vm0 h) (hq : Q (some (.int (nar t z))) T.heap locs) : GoH Z EL p e below s k n Q m T pc L (.int z :: rest) := by
  obtain ⟨fs, hr, hrun, hended, hW⟩ := X.leaveW hS (by rw [eT]; exact hk0) (v := some (.int (nar t z))) (fun h => by rw [hret] at h; cases h) hlk
  have hc := own_chr X eT hs0 hZ hEL CR
  exact ⟨_, _, Jvm.RoadKit.retN X hx hret ht hd hr, hrun, hended, _, _, rfl, hq, hc, own_upW hW hk hn⟩
theorem GoH.retO (X : Stand p l e R (s.setVm vm0) m args below meth c T locs cells slots) (hx : p.tables.exec = Jvm.exec) (hlk : meth.locks = false) {t : FieldType} {w : Value} {i : Instr} {rest : List Value} (hret : meth.sig.returnType = some t) (hw : narrow t w = w) (hi : (i = .ireturn ∧ (t = .int ∨ t = .boolean ∨ t = .byte ∨ t = .char ∨ t = .short) ∧ ∃ z, w = .int z) ∨ (i = .lreturn ∧ t = .long ∧ ∃ z, w = .long z) ∨ (i = .dreturn ∧ t = .double ∧ ∃ z, w = .double z) ∨ (i = .freturn ∧ t = .float ∧ ∃ z, w = .float z) ∨ (i = .areturn ∧ t.isReference = true ∧ w.isRef = true)) (hd : decode c.code pc = .ok (i, 1)) (hk : cells ≤ k) (hn : slots ≤ n) (hS : s.Since vm0 k0) (hk0 : k0 ≤ h.size) (eT : T.heap = h) (hs0 : s.heap = h0) (hZ : Z.Warmed39 vm0) (hEL : EW Z a0 EL) (CR : CHr Z EL s.vm h0 vm0 h) (hq : Q (some w) T.heap locs) : GoH Z EL p e below s k n Q m T pc L (w :: rest) := by
  obtain ⟨fs, hr, hrun, hended, hW⟩ := X.leaveW hS (by rw [eT]; exact hk0) (v := some w) (fun h => by rw [hret] at h; cases h) hlk
  have hc := own_chr X eT hs0 hZ hEL CR
  exact ⟨_, _, retOut X hx hret hw hi hd hr, hrun, hended, _, _, rfl, hq, hc, own_upW hW hk hn⟩
theorem own_metH {l : Launch} {y : MethodName} {bytes : ByteArray} {maxL : Nat} {ret : Option FieldType} {ws : List Jvm.Cond} {rm : Room} {A : Array Value} {Z : State} {EL : List (String × Nat)} {h0 : Heap} {Q : Option Value → Heap → List Loc → Prop} {L0 : Array Slot} {K N : Nat} (hpl : plainFor y = true) (hef : ∀ m, entryFrame m A maxL = mkF m 0 L0 [])
    (body : ∀ (p : Program) (e : Env) (s : State) (m : MethodId) (below : List Frame) (meth : Method) (c : Code) (s₁ : State), Stand p l e rm (s.setVm s.vm) m A below meth c s₁ [] 0 0 → p.tables.exec = Jvm.exec → c.code = bytes → c.maxLocals = maxL → (s.setVm s.vm).vm.findClass y.cls = some m.cls → meth.name = y.name → meth.sig.returnType = ret → meth.locks = false → Z.Warmed39 (s.setVm s.vm).vm → s₁.heap = h0 → s.heap = h0 → CHr Z EL s.vm h0 s.vm h0 → s.Since s.vm 0 → 0 ≤ h0.size → GoH Z EL p e below s K N Q m s₁ 0 L0 []) :
    MetFree l y (head1 (Jvm.Cond.code y bytes maxL ret :: ws) rm) (fun a U => a = A ∧ Z.Warmed39 U.vm ∧ U.heap = h0 ∧ CHv Z EL U.vm h0) (fun _ _ _ _ _ => True) (fun _ U o U' => ∃ v L, o = .returned v ∧ Q v U'.heap L ∧ CHr Z EL U.vm U.heap U'.vm U'.heap ∧ ReturnedEndW U o U' L K N) := by
  refine MetFree.of_bodySF hpl hisR ?_
  intro p e s m args below meth c s₁ Bd hml0 hP hK
  obtain ⟨rfl, hZ, hh, hC⟩ := hP
  obtain ⟨s₂, o, h1, h2⟩ := body p e s m below meth c s₁ (Stand.of_body Bd) Bd.exec Bd.bytes hml0 (findClass_of_methodNamed Bd.named) (name_of_methodNamed Bd.named Bd.method).1 Bd.returns Bd.notSynchronized hZ (by rw [← hh, Bd.state]; rfl) hh (CHr.refl hC) ((State.WarmedH.refl s).since 0) (Nat.zero_le _)
  exact ⟨s₂, o, castTop (hef m) h1, h2⟩
theorem own_safeV {x : Addr} {kk : ClassId} {ty : FieldType} {z : Int32} {vs : List Value} {dv : Value} (hal : Z.vm.Alike vm0) (V : Arv Z h x kk ty z vs dv) (ht : ty ≠ .byte) : Safe Z EL vm0 h x := by
  obtain ⟨cl, A, -⟩ := V; exact Safe.arr hal A ht
theorem own_safeS {x : Addr} (hal : Z.vm.Alike vm0) (E : Exa Z h x "java/lang/String") (F : Fld Z h x "java/lang/String" "value" "[B" .null) : Safe Z EL vm0 h x := fun B => by
  obtain ⟨cell, kE, e1, e2, e3, -, -⟩ := E
  obtain ⟨cell', cf, kF, iF, f, f1, f2, f3, f4, f5, f6, f7⟩ := F
  cases e1.symm.trans f1
  obtain ⟨p, -, u, a, -, q, -, G, rfl | rfl⟩ := B
  · cases (show h[q.sa]? = some q.sC from G.ha).symm.trans e1
    obtain ⟨cS, ⟨⟨-, -, -, ⟨c1, k1, i1, g1, -⟩, -, -, -, v1, -⟩, -⟩, -⟩ := G
    obtain ⟨k3, g3, -⟩ := State.fieldFound?_setVm (s := Z) (vm' := vm0) hal f2
    have g4 := (show (Wst Z vm0 h).fieldFound? "java/lang/String" "value" "[B" = _ from g3).symm.trans g1
    simp only [Option.some.injEq, Prod.mk.injEq] at g4
    rw [← g4.2.2.2, f7] at v1
    cases v1
  · cases (show h[q.sd]? = some q.SA from G.hd).symm.trans e1
    obtain ⟨cS, -, -, g1, -⟩ := G
    have g2 : vm0.findClass "[B" = some q.SA.cls := g1
    rw [hal.findClass] at g2
    obtain ⟨k1, q1, q2⟩ := Vm.findClass_spec g2
    obtain ⟨k2, q3, q4⟩ := Vm.findClass_spec e2
    cases q1.symm.trans q3
    exact absurd (q2.symm.trans q4) (by decide)
end OwnGoH
theorem own_wS {Z : State} {a0 : Array Value} (hw : ∀ d ∈ tables_1, d.before a0 Z = true) : ∀ a ∈ Bundle.stringAtoms, a.before a0 Z = true := fun d hd => hw d ((by decide +kernel : ∀ d ∈ Bundle.stringAtoms, d ∈ tables_1) d hd)

def EL : List (String × Nat) := [("com/example/vestry/vestry/plan/PlanSection", 23), ("com/example/vestry/vestry/plan/PlanSectionToStringPinLaw", 22), ("java/lang/String", 7)]
theorem own_EW {Z : State} {a0 : Array Value} (hw : ∀ d ∈ tables_1, d.before a0 Z = true) : EW Z a0 EL := (EW.cons (hw _ (List.mem_of_getElem? (i := 113) rfl)) (by decide) (EW.cons (hw _ (List.mem_of_getElem? (i := 201) rfl)) (by decide) (EW.cons (hw _ (List.mem_of_getElem? (i := 18) rfl)) (by decide) EW.nil)))
theorem d3_0 : decode jdk_42_method_149_code 0 = .ok (.aload_n 0, 1) := by decide +kernel
theorem d3_1 : decode jdk_42_method_149_code 1 = .ok (.invokespecial 1, 3) := by decide +kernel
theorem d3_4 : decode jdk_42_method_149_code 4 = .ok (.iload_n 3, 1) := by decide +kernel
theorem d3_5 : decode jdk_42_method_149_code 5 = .ok (.ifCond .ne 22, 3) := by decide +kernel
theorem d3_8 : decode jdk_42_method_149_code 8 = .ok (.aload_n 0, 1) := by decide +kernel
theorem d3_9 : decode jdk_42_method_149_code 9 = .ok (.ldc 7, 2) := by decide +kernel
theorem d3_11 : decode jdk_42_method_149_code 11 = .ok (.getfield 9, 3) := by decide +kernel
theorem d3_14 : decode jdk_42_method_149_code 14 = .ok (.putfield 9, 3) := by decide +kernel
theorem d3_17 : decode jdk_42_method_149_code 17 = .ok (.aload_n 0, 1) := by decide +kernel
theorem d3_18 : decode jdk_42_method_149_code 18 = .ok (.ldc 7, 2) := by decide +kernel
theorem d3_20 : decode jdk_42_method_149_code 20 = .ok (.getfield 15, 3) := by decide +kernel
theorem d3_23 : decode jdk_42_method_149_code 23 = .ok (.putfield 15, 3) := by decide +kernel
theorem d3_26 : decode jdk_42_method_149_code 26 = .ok (.return_, 1) := by decide +kernel
theorem pn_0 : plainName "java/lang/String" = true := by first | (simp [plainName, overriddenIn]; done) | decide +kernel
def QE149 (Z : State) (a1 : Addr) (h0 : Heap) (n0 : Nat) (v : Option Value) (h : Heap) (L : List Loc) : Prop := ∃ (t : Addr) (kb : ClassId), v = none ∧ Fr n0 L ∧ Keep h0 h [a1] ∧ Fld Z h a1 "java/lang/String" "coder" "B" (.int 0) ∧ a1 ≠ t ∧ Fld Z h a1 "java/lang/String" "value" "[B" (.ref t) ∧ Arv Z h t kb .byte (0 : Int32) [] (.int (0 : Int32))
def roomE149 : Room := { frames := 1, cells := 4, slots := 8, locals := 12 }
set_option maxRecDepth 65536 in
set_option maxHeartbeats 40000000 in
theorem rmE149 (l : Launch) (Z : State) (a0 : Array Value) (hw : ∀ d ∈ tables_1, d.before a0 Z = true) (ws : List Jvm.Cond) (a1 : Addr) (a2 : Addr) (h0 : Heap) (n0 : Nat) (Z0 : n0 ≤ h0.size) (E_a1 : Exa Z h0 a1 "java/lang/String") (g_a1 : n0 ≤ a1) (F_value : Fld Z h0 a1 "java/lang/String" "value" "[B" .null) (F_coder : Fld Z h0 a1 "java/lang/String" "coder" "B" (.int (0 : Int32))) :
    MetFree l (⟨"java/lang/String", "<init>", "([CIILjava/lang/Void;)V"⟩ : MethodName) (head1 (Jvm.Cond.code (⟨"java/lang/String", "<init>", "([CIILjava/lang/Void;)V"⟩ : MethodName) jdk_42_method_149_code 6 none :: ws) roomE149) (fun aa_ U_ => aa_ = #[(.ref a1), (.ref a2), (.int (0 : Int32)), (.int (0 : Int32)), .null] ∧ Z.Warmed39 U_.vm ∧ U_.heap = h0 ∧ CHv Z EL U_.vm h0) (fun _ _ _ _ _ => True) (fun _ U_ o_ W_ => ∃ v_ L_, o_ = .returned v_ ∧ (QE149 Z a1 h0 n0) v_ W_.heap L_ ∧ CHr Z EL U_.vm U_.heap W_.vm W_.heap ∧ ReturnedEndW U_ o_ W_ L_ roomE149.cells roomE149.slots) := by
  refine own_metH (Q := (QE149 Z a1 h0 n0)) (L0 := #[.val (.ref a1), .val (.ref a2), .val (.int (0 : Int32)), .val (.int (0 : Int32)), .val .null, .unset]) (plainFor_of_name pn_0) (fun m => by first | (simp [entryFrame, mkF, argsToLocals, Value.category]; done) | rfl) ?_
  intro p e s m below meth c T0 X0 hx hby hml hown hnm hret hlk hZ e0 hs0 CR hS hk
  have N0 := Fr.nil n0
  have K0 := Keep.refl h0 [a1]
  have S_a1 : Safe Z EL s.vm h0 a1 := own_safeS hZ.alike E_a1 F_value
  refine GoH.st (T' := T0) (pc' := 1) (L' := #[.val (.ref a1), .val (.ref a2), .val (.int (0 : Int32)), .val (.int (0 : Int32)), .val .null, .unset]) (S' := [(.ref a1)]) (fun t_ k_ => XS.aloadN X0.here hx rfl (hb hby d3_0) rfl rfl  k_) ?_
  obtain ⟨T1, X1, e1, st1⟩ := initO X0 hx hZ hown (hw _ (List.mem_of_getElem? (i := 15) rfl)) (hw _ (List.mem_of_getElem? (i := 16) rfl)) (hw _ (List.mem_of_getElem? (i := 17) rfl)) e0 (g := (mkF m 1 #[.val (.ref a1), .val (.ref a2), .val (.int (0 : Int32)), .val (.int (0 : Int32)), .val .null, .unset] [(.ref a1)])) rfl (by rw [hml]; rfl) rfl (hb hby d3_1) (by decide) (W := 0) (by show 2 * 0 + _ ≤ _; exact Nat.le_of_eq rfl) (by decide)
  refine GoH.st (T' := T1) (pc' := 4) (L' := #[.val (.ref a1), .val (.ref a2), .val (.int (0 : Int32)), .val (.int (0 : Int32)), .val .null, .unset]) (S' := []) st1 ?_
  refine GoH.st (T' := T1) (pc' := 5) (L' := #[.val (.ref a1), .val (.ref a2), .val (.int (0 : Int32)), .val (.int (0 : Int32)), .val .null, .unset]) (S' := [(.int (0 : Int32))]) (fun t_ k_ => XS.iloadN X1.here hx rfl (hb hby d3_4) rfl  k_) ?_
  refine GoH.st (T' := T1) (pc' := 8) (L' := #[.val (.ref a1), .val (.ref a2), .val (.int (0 : Int32)), .val (.int (0 : Int32)), .val .null, .unset]) (S' := []) (fun t_ k_ => XS.ifNo X1.here hx rfl (hb hby d3_5) rfl ((if0 _ _).trans (teq (by decide : ((0 : Int32) = (0 : Int32)))).2) k_) ?_
  refine GoH.st (T' := T1) (pc' := 9) (L' := #[.val (.ref a1), .val (.ref a2), .val (.int (0 : Int32)), .val (.int (0 : Int32)), .val .null, .unset]) (S' := [(.ref a1)]) (fun t_ k_ => XS.aloadN X1.here hx rfl (hb hby d3_8) rfl rfl  k_) ?_
  obtain ⟨a2_, T2, h2, k2, b2_, c2, X2, e2, E2, hS2, hk2, hZ2, ho2, E_a2_, Fc_a2_, Fv_a2_, V_b2_, lta2, ltb2, CR2, -, Sf2, st2⟩ := ldcCH X1 hx hZ hown (hw _ (List.mem_of_getElem? (i := 18) rfl)) (own_wS hw) e1 hS hk (own_EW hw) (by decide : ("java/lang/String", 7) ∈ EL) CR.1 (vs := []) (z := (0 : Int32)) ⟨by decide, by decide⟩ (by decide) rfl (g := (mkF m 9 #[.val (.ref a1), .val (.ref a2), .val (.int (0 : Int32)), .val (.int (0 : Int32)), .val .null, .unset] [(.ref a1)])) rfl (hb hby d3_9) (n := 0) (by decide) (by decide) (by decide) (by decide)
  replace S_a1 := CR2.safe E_a1.lt S_a1
  replace CR := CR.trans CR2
  replace Z0 := Nat.le_trans Z0 E2.1
  replace K0 := K0.ext E2
  replace E_a1 := E_a1.ext E2
  replace F_value := F_value.ext E2
  replace F_coder := F_coder.ext E2
  replace hZ := hZ2
  replace hown := ho2
  replace hS := hS2
  replace hk := hk2
  have ne_a1_a2_ := (Sf2 _ S_a1).1
  have ne_a1_b2_ := (Sf2 _ S_a1).2
  refine GoH.st (T' := T2) (pc' := 11) (L' := #[.val (.ref a1), .val (.ref a2), .val (.int (0 : Int32)), .val (.int (0 : Int32)), .val .null, .unset]) (S' := [(.ref a2_), (.ref a1)]) st2 ?_
  obtain ⟨T3, X3, e3, st3⟩ := getF X2 hx hZ hown (host := "") (Or.inl (hw _ (List.mem_of_getElem? (i := 24) rfl))) Via.refl e2 Fv_a2_ (g := (mkF m 11 #[.val (.ref a1), .val (.ref a2), .val (.int (0 : Int32)), .val (.int (0 : Int32)), .val .null, .unset] [(.ref a2_), (.ref a1)])) rfl rfl (hb hby d3_11)
  refine GoH.st (T' := T3) (pc' := 14) (L' := #[.val (.ref a1), .val (.ref a2), .val (.int (0 : Int32)), .val (.int (0 : Int32)), .val .null, .unset]) (S' := [(.ref b2_), (.ref a1)]) st3 ?_
  obtain ⟨T4, h4, X4, e4, W4, st4⟩ := putF X3 hx hZ hown (host := "") (Or.inl (hw _ (List.mem_of_getElem? (i := 24) rfl))) Via.refl e3 F_value E_a1 (Or.inr ⟨(hw _ (List.mem_of_getElem? (i := 20) rfl)), rfl, hnm⟩) (hw _ (List.mem_of_getElem? (i := 5) rfl)) (ty := (.array .byte)) (by decide) rfl rfl (g := (mkF m 14 #[.val (.ref a1), .val (.ref a2), .val (.int (0 : Int32)), .val (.int (0 : Int32)), .val .null, .unset] [(.ref b2_), (.ref a1)])) rfl rfl (hb hby d3_14)
  have Sw5 : Safe Z EL T2.vm h2 a1 := S_a1
  replace S_a1 := Safe.wr W4 Sw5 CR.1 S_a1
  replace CR := CR.trans (CHr.wr W4 Sw5 CR.1)
  replace hk := Nat.le_trans hk (Keep.of_wr W4).1
  replace Z0 := Nat.le_trans Z0 (Keep.of_wr W4).1
  replace K0 := K0.wr W4 (Or.inl (List.mem_of_getElem? (i := 0) rfl))
  replace E_a1 := E_a1.wr W4
  replace F_coder := F_coder.other W4 (Or.inr (slot_ne (Or.inr (hw _ (List.mem_of_getElem? (i := 21) rfl))) (Or.inr (hw _ (List.mem_of_getElem? (i := 20) rfl))) (by decide) (t := .byte) (t' := (.array .byte)) (by decide) (by decide)))
  replace E_a2_ := E_a2_.wr W4
  replace Fc_a2_ := Fc_a2_.other W4 (Or.inl (Ne.symm ne_a1_a2_))
  replace Fv_a2_ := Fv_a2_.other W4 (Or.inl (Ne.symm ne_a1_a2_))
  replace V_b2_ := V_b2_.other W4 (Ne.symm ne_a1_b2_)
  replace F_value := F_value.same W4
  have N4 := Fr.snoc X4 N0 g_a1
  refine GoH.st (T' := T4) (pc' := 17) (L' := #[.val (.ref a1), .val (.ref a2), .val (.int (0 : Int32)), .val (.int (0 : Int32)), .val .null, .unset]) (S' := []) st4 ?_
  refine GoH.st (T' := T4) (pc' := 18) (L' := #[.val (.ref a1), .val (.ref a2), .val (.int (0 : Int32)), .val (.int (0 : Int32)), .val .null, .unset]) (S' := [(.ref a1)]) (fun t_ k_ => XS.aloadN X4.here hx rfl (hb hby d3_17) rfl rfl  k_) ?_
  obtain ⟨a6_, T6, h6, k6, b6_, c6, X6, e6, E6, hS6, hk6, hZ6, ho6, E_a6_, Fc_a6_, Fv_a6_, V_b6_, lta6, ltb6, CR6, -, Sf6, st6⟩ := ldcCH X4 hx hZ hown (hw _ (List.mem_of_getElem? (i := 18) rfl)) (own_wS hw) e4 hS hk (own_EW hw) (by decide : ("java/lang/String", 7) ∈ EL) CR.1 (vs := []) (z := (0 : Int32)) ⟨by decide, by decide⟩ (by decide) rfl (g := (mkF m 18 #[.val (.ref a1), .val (.ref a2), .val (.int (0 : Int32)), .val (.int (0 : Int32)), .val .null, .unset] [(.ref a1)])) rfl (hb hby d3_18) (n := 0) (by decide) (by decide) (by decide) (by decide)
  replace S_a1 := CR6.safe E_a1.lt S_a1
  replace CR := CR.trans CR6
  replace Z0 := Nat.le_trans Z0 E6.1
  replace K0 := K0.ext E6
  replace E_a1 := E_a1.ext E6
  replace F_value := F_value.ext E6
  replace F_coder := F_coder.ext E6
  replace E_a2_ := E_a2_.ext E6
  replace Fc_a2_ := Fc_a2_.ext E6
  replace Fv_a2_ := Fv_a2_.ext E6
  replace V_b2_ := V_b2_.ext E6
  replace hZ := hZ6
  replace hown := ho6
  replace hS := hS6
  replace hk := hk6
  have ne_a1_a6_ := (Sf6 _ S_a1).1
  have ne_a1_b6_ := (Sf6 _ S_a1).2
  refine GoH.st (T' := T6) (pc' := 20) (L' := #[.val (.ref a1), .val (.ref a2), .val (.int (0 : Int32)), .val (.int (0 : Int32)), .val .null, .unset]) (S' := [(.ref a6_), (.ref a1)]) st6 ?_
  obtain ⟨T7, X7, e7, st7⟩ := getF X6 hx hZ hown (host := "") (Or.inl (hw _ (List.mem_of_getElem? (i := 25) rfl))) Via.refl e6 Fc_a6_ (g := (mkF m 20 #[.val (.ref a1), .val (.ref a2), .val (.int (0 : Int32)), .val (.int (0 : Int32)), .val .null, .unset] [(.ref a6_), (.ref a1)])) rfl rfl (hb hby d3_20)
  refine GoH.st (T' := T7) (pc' := 23) (L' := #[.val (.ref a1), .val (.ref a2), .val (.int (0 : Int32)), .val (.int (0 : Int32)), .val .null, .unset]) (S' := [(.int (0 : Int32)), (.ref a1)]) st7 ?_
  obtain ⟨T8, h8, X8, e8, W8, st8⟩ := putFN X7 hx hZ hown (hw _ (List.mem_of_getElem? (i := 25) rfl)) Via.refl e7 F_coder E_a1 (Or.inr ⟨(hw _ (List.mem_of_getElem? (i := 21) rfl)), rfl, hnm⟩) (hw _ (List.mem_of_getElem? (i := 5) rfl)) (ty := .byte) (v' := (.int (0 : Int32))) (by decide) rfl rfl (g := (mkF m 23 #[.val (.ref a1), .val (.ref a2), .val (.int (0 : Int32)), .val (.int (0 : Int32)), .val .null, .unset] [(.int (0 : Int32)), (.ref a1)])) rfl rfl (hb hby d3_23)
  have Sw9 : Safe Z EL T6.vm h6 a1 := S_a1
  replace S_a1 := Safe.wr W8 Sw9 CR.1 S_a1
  replace CR := CR.trans (CHr.wr W8 Sw9 CR.1)
  replace hk := Nat.le_trans hk (Keep.of_wr W8).1
  replace Z0 := Nat.le_trans Z0 (Keep.of_wr W8).1
  replace K0 := K0.wr W8 (Or.inl (List.mem_of_getElem? (i := 0) rfl))
  replace E_a1 := E_a1.wr W8
  replace F_value := F_value.other W8 (Or.inr (slot_ne (Or.inr (hw _ (List.mem_of_getElem? (i := 20) rfl))) (Or.inr (hw _ (List.mem_of_getElem? (i := 21) rfl))) (by decide) (t := (.array .byte)) (t' := .byte) (by decide) (by decide)))
  replace E_a2_ := E_a2_.wr W8
  replace Fc_a2_ := Fc_a2_.other W8 (Or.inl (Ne.symm ne_a1_a2_))
  replace Fv_a2_ := Fv_a2_.other W8 (Or.inl (Ne.symm ne_a1_a2_))
  replace V_b2_ := V_b2_.other W8 (Ne.symm ne_a1_b2_)
  replace E_a6_ := E_a6_.wr W8
  replace Fc_a6_ := Fc_a6_.other W8 (Or.inl (Ne.symm ne_a1_a6_))
  replace Fv_a6_ := Fv_a6_.other W8 (Or.inl (Ne.symm ne_a1_a6_))
  replace V_b6_ := V_b6_.other W8 (Ne.symm ne_a1_b6_)
  replace F_coder := F_coder.same W8
  have N8 := Fr.snoc X8 N4 g_a1
  refine GoH.st (T' := T8) (pc' := 26) (L' := #[.val (.ref a1), .val (.ref a2), .val (.int (0 : Int32)), .val (.int (0 : Int32)), .val .null, .unset]) (S' := []) st8 ?_
  exact GoH.retV X8 hx hlk hret (hb hby d3_26) (by decide) (by decide) hS hk e8 hs0 hZ (own_EW hw) CR (by rw [e8]; exact ⟨b2_, _, rfl, N8, K0, F_coder, ne_a1_b2_, F_value, V_b2_⟩)
theorem d2_0 : decode jdk_42_method_3_code 0 = .ok (.aload_n 0, 1) := by decide +kernel
theorem d2_1 : decode jdk_42_method_3_code 1 = .ok (.aload_n 1, 1) := by decide +kernel
theorem d2_2 : decode jdk_42_method_3_code 2 = .ok (.iconst 0, 1) := by decide +kernel
theorem d2_3 : decode jdk_42_method_3_code 3 = .ok (.aload_n 1, 1) := by decide +kernel
theorem d2_4 : decode jdk_42_method_3_code 4 = .ok (.arraylength, 1) := by decide +kernel
theorem d2_5 : decode jdk_42_method_3_code 5 = .ok (.aconst_null, 1) := by decide +kernel
theorem d2_6 : decode jdk_42_method_3_code 6 = .ok (.invokespecial 27, 3) := by decide +kernel
theorem d2_9 : decode jdk_42_method_3_code 9 = .ok (.return_, 1) := by decide +kernel
theorem pd_0 : parseMethodDescriptor "([CIILjava/lang/Void;)V" = some ⟨[(.array .char), .int, .int, (.object "java/lang/Void")], none⟩ := by decide +kernel
def QE3 (Z : State) (a1 : Addr) (h0 : Heap) (n0 : Nat) (v : Option Value) (h : Heap) (L : List Loc) : Prop := ∃ (t : Addr) (kb : ClassId), v = none ∧ Fr n0 L ∧ Keep h0 h [a1] ∧ Fld Z h a1 "java/lang/String" "coder" "B" (.int 0) ∧ a1 ≠ t ∧ Fld Z h a1 "java/lang/String" "value" "[B" (.ref t) ∧ Arv Z h t kb .byte (0 : Int32) [] (.int (0 : Int32))
def roomE3 : Room := { frames := 2, cells := 4, slots := 8, locals := 29 }
set_option maxRecDepth 65536 in
set_option maxHeartbeats 40000000 in
theorem rmE3 (l : Launch) (Z : State) (a0 : Array Value) (hw : ∀ d ∈ tables_1, d.before a0 Z = true) (ws : List Jvm.Cond) (a1 : Addr) (a2 : Addr) (ka : ClassId) (h0 : Heap) (n0 : Nat) (Z0 : n0 ≤ h0.size) (E_a1 : Exa Z h0 a1 "java/lang/String") (g_a1 : n0 ≤ a1) (F_value : Fld Z h0 a1 "java/lang/String" "value" "[B" .null) (F_coder : Fld Z h0 a1 "java/lang/String" "coder" "B" (.int (0 : Int32))) (V_a2 : Arv Z h0 a2 ka .char (0 : Int32) [] (.int (0 : Int32))) (ne12 : a1 ≠ a2) :
    MetFree l (⟨"java/lang/String", "<init>", "([C)V"⟩ : MethodName) (head1 (Jvm.Cond.code (⟨"java/lang/String", "<init>", "([C)V"⟩ : MethodName) jdk_42_method_3_code 2 none :: ws) roomE3) (fun aa_ U_ => aa_ = #[(.ref a1), (.ref a2)] ∧ Z.Warmed39 U_.vm ∧ U_.heap = h0 ∧ CHv Z EL U_.vm h0) (fun _ _ _ _ _ => True) (fun _ U_ o_ W_ => ∃ v_ L_, o_ = .returned v_ ∧ (QE3 Z a1 h0 n0) v_ W_.heap L_ ∧ CHr Z EL U_.vm U_.heap W_.vm W_.heap ∧ ReturnedEndW U_ o_ W_ L_ roomE3.cells roomE3.slots) := by
  refine own_metH (Q := (QE3 Z a1 h0 n0)) (L0 := #[.val (.ref a1), .val (.ref a2)]) (plainFor_of_name pn_0) (fun m => by first | (simp [entryFrame, mkF, argsToLocals, Value.category]; done) | rfl) ?_
  intro p e s m below meth c T0 X0 hx hby hml hown hnm hret hlk hZ e0 hs0 CR hS hk
  have N0 := Fr.nil n0
  have K0 := Keep.refl h0 [a1]
  have S_a1 : Safe Z EL s.vm h0 a1 := own_safeS hZ.alike E_a1 F_value
  refine GoH.st (T' := T0) (pc' := 1) (L' := #[.val (.ref a1), .val (.ref a2)]) (S' := [(.ref a1)]) (fun t_ k_ => XS.aloadN X0.here hx rfl (hb hby d2_0) rfl rfl  k_) ?_
  refine GoH.st (T' := T0) (pc' := 2) (L' := #[.val (.ref a1), .val (.ref a2)]) (S' := [(.ref a2), (.ref a1)]) (fun t_ k_ => XS.aloadN X0.here hx rfl (hb hby d2_1) rfl rfl  k_) ?_
  refine GoH.st (T' := T0) (pc' := 3) (L' := #[.val (.ref a1), .val (.ref a2)]) (S' := [(.int (0 : Int32)), (.ref a2), (.ref a1)]) (fun t_ k_ => XS.iconst X0.here hx rfl (hb hby d2_2) k_) ?_
  refine GoH.st (T' := T0) (pc' := 4) (L' := #[.val (.ref a1), .val (.ref a2)]) (S' := [(.ref a2), (.int (0 : Int32)), (.ref a2), (.ref a1)]) (fun t_ k_ => XS.aloadN X0.here hx rfl (hb hby d2_3) rfl rfl  k_) ?_
  obtain ⟨cl1, Ar1, -, q1a, q1b, -, -⟩ := id V_a2
  refine GoH.st (T' := T0) (pc' := 5) (L' := #[.val (.ref a1), .val (.ref a2)]) (S' := [(.int (0 : Int32)), (.int (0 : Int32)), (.ref a2), (.ref a1)]) (fun t_ k_ => own_len X0 hx hZ e0 Ar1 q1a q1b (g := (mkF m 4 #[.val (.ref a1), .val (.ref a2)] [(.ref a2), (.int (0 : Int32)), (.ref a2), (.ref a1)])) rfl rfl (hb hby d2_4) t_ k_) ?_
  refine GoH.st (T' := T0) (pc' := 6) (L' := #[.val (.ref a1), .val (.ref a2)]) (S' := [.null, (.int (0 : Int32)), (.int (0 : Int32)), (.ref a2), (.ref a1)]) (fun t_ k_ => XS.aconstNull X0.here hx rfl (hb hby d2_5) k_) ?_
  obtain ⟨_, _, ⟨T2, L2, k2, n2⟩, -, X2, hS2, hg2, ⟨Lc2, hQ2, l2, y2, z2, CR2⟩, st2⟩ := X0.specialBackS hx (y := (⟨"java/lang/String", "<init>", "([CIILjava/lang/Void;)V"⟩ : MethodName)) rfl hown (mvT hZ (hw _ (List.mem_of_getElem? (i := 11) rfl))) (mvT hZ (hw _ (List.mem_of_getElem? (i := 12) rfl))) (mvT hZ (hw _ (List.mem_of_getElem? (i := 14) rfl))) (by decide) (backOfSH (W := 0) (rmE149 l Z a0 hw [] a1 a2 h0 n0 Z0 E_a1 g_a1 F_value F_coder) hZ (hw _ (List.mem_of_getElem? (i := 14) rfl)) (hw _ (List.mem_of_getElem? (i := 6) rfl)) (by decide) (by decide) (own_EW hw) CR.1) (g := (mkF m 6 #[.val (.ref a1), .val (.ref a2)] [.null, (.int (0 : Int32)), (.int (0 : Int32)), (.ref a2), (.ref a1)])) rfl (by rw [hml]; rfl) (Steps.refl _) (a := a1) (argsL := [(.ref a2), (.int (0 : Int32)), (.int (0 : Int32)), .null]) (rest := []) (lenOf pd_0 rfl) rfl (by show 2 * 0 + _ ≤ _; exact Nat.le_of_eq rfl) (hb hby d2_6) (fun _ _ => ⟨rfl, e0, (by decide : 0 + 4 ≤ _), (by decide : 0 + 8 ≤ _)⟩)
  dsimp only [Pt.U, Pt.locs, Pt.cells, Pt.slots] at X2 l2 y2 z2 st2 hQ2 hS2 hg2 CR2
  subst l2 y2 z2
  replace X2 : Stand p l e _ (s.setVm T2.vm) m _ below meth c T2 _ _ _ := X2
  replace hS := foldS hS (T := T0) (Nat.le_trans hk (Nat.le_of_eq (congrArg Array.size e0.symm))) hS2 hg2
  replace hk := Nat.le_refl T2.heap.size
  replace hZ : Z.Warmed39 (s.setVm T2.vm).vm := State.Warmed39.trans (t := s.setVm s.vm) hZ hS2.1
  replace hown : (s.setVm T2.vm).vm.findClass "java/lang/String" = some m.cls := by rw [show (s.setVm T2.vm).vm = T2.vm from rfl, hS2.1.alike.findClass]; exact hown
  obtain ⟨t2, kb2, rfl, N2q, K2, Co2, nt2, Va2, Ay2⟩ := hQ2
  have N2 := Fr.app N0 N2q
  obtain ⟨h2, e2⟩ : ∃ z, T2.heap = z := ⟨_, rfl⟩
  rw [e2] at K2 Co2 Va2 Ay2 CR2
  replace S_a1 := CR2.safe E_a1.lt S_a1
  replace CR := CR.trans CR2
  replace Z0 := Nat.le_trans Z0 K2.1
  replace K0 := K0.trans K2 (allS (Or.inl (List.mem_of_getElem? (i := 0) rfl)) all0)
  replace E_a1 := E_a1.keep K2
  replace V_a2 := V_a2.keep K2 (ninS (Ne.symm ne12) nin0)
  replace hk : T2.heap.size ≤ h2.size := Nat.le_of_eq (congrArg Array.size e2)
  refine GoH.tr (T' := T2) (pc' := 9) (L' := #[.val (.ref a1), .val (.ref a2)]) (S' := []) st2 ?_
  exact GoH.retV X2 hx hlk hret (hb hby d2_9) (by decide) (by decide) hS hk e2 hs0 hZ (own_EW hw) CR (by rw [e2]; exact ⟨t2, _, rfl, N2, K0, Co2, nt2, Va2, Ay2⟩)
section OwnArr
theorem own_tn {i : Nat} (h : i < 2147483648) : i.toInt32.toNatClampNeg = i := by
  simp only [Int32.toNatClampNeg, len_toInt (n := i) h]; rfl
theorem own_inb {c : Cell} {z : Int32} {i N : Nat} (S : c.slots.size = z.toNatClampNeg) (hz : z.toNatClampNeg = N) (hi : i < N) (hN : N < 2147483648) : ¬ (i.toInt32 < 0 ∨ c.slots.size ≤ i.toInt32.toNatClampNeg) := by
  rw [S, hz]; exact idx_in hi hN
theorem own_getI (M : List Int32) (i : Nat) : (M.map Value.int).getD i (.int 0) = .int (M.getD i 0) := by
  simp only [List.getD_eq_getElem?_getD, List.getElem?_map]; cases M[i]? <;> rfl
theorem own_getD (M : List UInt64) (i : Nat) : (M.map Value.double).getD i (.double 0) = .double (M.getD i 0) := by
  simp only [List.getD_eq_getElem?_getD, List.getElem?_map]; cases M[i]? <;> rfl
theorem own_atI (M : List Int32) {i : Nat} (h : i < 2147483648) : (M.map Value.int).getD i.toInt32.toNatClampNeg (.int 0) = .int (M.getD i 0) := by rw [own_tn h, own_getI]
theorem own_atD (M : List UInt64) {i : Nat} (h : i < 2147483648) : (M.map Value.double).getD i.toInt32.toNatClampNeg (.double 0) = .double (M.getD i 0) := by rw [own_tn h, own_getD]
theorem own_setI (M : List Int32) (i : Nat) (v : Int32) : (M.map Value.int).set i (.int v) = (M.set i v).map Value.int := by rw [List.map_set]
theorem own_setD (M : List UInt64) (i : Nat) (v : UInt64) : (M.map Value.double).set i (.double v) = (M.set i v).map Value.double := by rw [List.map_set]
theorem own_next {n : Nat} (h : n < 2147483647) : n.toInt32 + 1 = (n + 1).toInt32 := by
  apply Int32.toInt_inj.mp
  have h1 := c_iadd n.toInt32 1
  rw [len_toInt (n := n) (by omega)] at h1
  rw [len_toInt (n := n + 1) (by omega)]
  have h2 := rng32 (n.toInt32 + 1)
  have e1 : (1 : Int32).toInt = 1 := rfl
  omega
theorem own_inj {m n : Nat} (hm : m < 2147483648) (hn : n < 2147483648) : m.toInt32 = n.toInt32 ↔ m = n := by
  rw [← Int32.toInt_inj, len_toInt (n := m) hm, len_toInt (n := n) hn]; omega
theorem own_ltI {m n : Nat} (hm : m < 2147483648) (hn : n < 2147483648) : m.toInt32 < n.toInt32 ↔ m < n := by
  rw [Int32.lt_iff_toInt_lt, len_toInt (n := m) hm, len_toInt (n := n) hn]; omega
end OwnArr

section OwnSB
theorem own_nf {s : State} {args : Array Value} {K : String} {y z u : MethodName} (h : (Cond.selects K u z).before args s = true) (hz : z.cls = y.cls) : NotFace s y := fun r0 h0 => by
  obtain ⟨c, r, m, h1, h2, h3, h4, k, h5, h6⟩ := Cond.selects_spec h
  have hc2 := findClass_of_methodNamed h3
  rw [hz] at hc2
  have e : m.cls = r0.cls := Option.some.inj (hc2.symm.trans (findClass_of_methodNamed h0))
  exact ⟨k, e ▸ h5, h6⟩
theorem own_same {s : State} {args : Array Value} {K : String} {y z u : MethodName} (hi : (Cond.instanceMethod y).before args s = true) (hne : y.cls ≠ "java/lang/invoke/MethodHandle" ∧ y.cls ≠ "java/lang/invoke/VarHandle") (h : (Cond.selects K u z).before args s = true) (hz : z.cls = y.cls) : (Cond.sameMethod y.cls y.cls y.name y.desc).before args s = true := by
  obtain ⟨c, r, m, h1, h2, h3, h4, k, h5, h6⟩ := Cond.selects_spec h
  obtain ⟨m', meth, g1, g2, g3, g4⟩ := Cond.instanceMethod_spec hi
  have hc := findClass_of_methodNamed g1
  have hc2 := findClass_of_methodNamed h3
  rw [hz] at hc2
  have e : m.cls = m'.cls := Option.some.inj (hc2.symm.trans hc)
  have hf := State.methodFound?_of_named g1 hne
  have g1' : s.methodNamed? ⟨y.cls, y.name, y.desc⟩ = some m' := g1
  rw [e] at h5
  show (Cond.sameMethod y.cls y.cls y.name y.desc).holds _ _ _ _ _ = true
  simp only [Cond.holds, Cond.value, hc, hf, g1', h5]
  simp [h6]
theorem own_selP {s : State} {args : Array Value} {K : String} {y : MethodName} (hp : s.PrivateAt y) (hi : (Cond.instanceMethod y).before args s = true) (hne : y.cls ≠ "java/lang/invoke/MethodHandle" ∧ y.cls ≠ "java/lang/invoke/VarHandle") (h : (Cond.selects K y y).before args s = true) : (Cond.selects y.cls y y).before args s = true := by
  obtain ⟨c, r, m, h1, h2, h3, h4, k, h5, h6⟩ := Cond.selects_spec h
  obtain ⟨m', meth, g1, g2, g3, g4⟩ := Cond.instanceMethod_spec hi
  cases h3.symm.trans g1
  have hc := findClass_of_methodNamed h3
  have hf := State.methodFound?_of_named h3 hne
  cases hf.symm.trans h2
  show (Cond.selects y.cls y y).holds _ _ _ _ _ = true
  simp only [Cond.holds, Cond.value, hc, h2, h3, selectMethod_private g2 (hp _ _ h3 g2), h5]
  simp [h6]
theorem own_shr0 (x : Int32) : x >>> ((0 : Int32) &&& 31) = x := by
  rw [show (0 : Int32) &&& 31 = 0 from by decide]; exact Int32.shiftRight_zero
theorem own_shl0 (x : Int32) : x <<< ((0 : Int32) &&& 31) = x := by
  rw [show (0 : Int32) &&& 31 = 0 from by decide]; exact Int32.shiftLeft_zero
theorem own_addN {m n : Nat} (h : m + n < 2147483648) : m.toInt32 + n.toInt32 = (m + n).toInt32 := by
  apply Int32.toInt_inj.mp
  have h1 := c_iadd m.toInt32 n.toInt32
  rw [len_toInt (n := m) (by omega), len_toInt (n := n) (by omega)] at h1
  rw [len_toInt (n := m + n) (by omega)]
  have h2 := rng32 (m.toInt32 + n.toInt32)
  omega
theorem own_nnN {i : Nat} (h : i < 2147483648) : ¬ i.toInt32 < 0 := by
  rw [Int32.lt_iff_toInt_lt, len_toInt (n := i) h]; have e0 : (0 : Int32).toInt = 0 := rfl; omega
theorem own_le16f : ∀ i : Fin 17, ¬ (0 : Int32) < Nat.toInt32 i.val - (16 : Int32) := by decide
theorem own_lt16f : ∀ i : Fin 16, ¬ (Nat.toInt32 i.val = (16 : Int32)) ∧ (Nat.toInt32 i.val < (16 : Int32)) ∧ ¬ (Nat.toInt32 i.val < (0 : Int32)) ∧ (Nat.toInt32 i.val - (0 : Int32) = Nat.toInt32 i.val) := by decide
theorem own_e0 : (0 : Int32).toNatClampNeg = 0 := rfl
theorem own_e16 : (16 : Int32).toNatClampNeg = 16 := rfl
theorem own_h4 {x : Nat} : (0 : Int32).toNatClampNeg + x ≤ x := by rw [own_e0]; omega
theorem own_h4' {N : Nat} (h : N ≤ 16) : (0 : Int32).toNatClampNeg + N.toInt32.toNatClampNeg ≤ (16 : Int32).toNatClampNeg := by rw [own_e0, own_e16, own_tn (by omega)]; omega
theorem own_h5 {c n : Nat} (h : c + n ≤ 16) : c.toInt32.toNatClampNeg + n.toInt32.toNatClampNeg ≤ (16 : Int32).toNatClampNeg := by rw [own_e16, own_tn (by omega), own_tn (by omega)]; omega
theorem own_hl {ys : List Int32} {c n : Nat} (hc : ys.length = c) (h : c + n ≤ 16) : c.toInt32.toNatClampNeg + n.toInt32.toNatClampNeg ≤ (ys.map Value.int ++ List.replicate n (Value.int 0)).length := by
  rw [own_tn (by omega), own_tn (by omega)]; simp only [List.length_append, List.length_map, List.length_replicate]; omega
theorem own_rng (bs : List Int32) : (List.range bs.length).map (fun i => (bs.map Value.int).getD (0 + i) (.int 0)) = bs.map Value.int := by
  apply List.ext_getElem
  · simp
  · intro i h1 h2
    simp only [List.length_map, List.length_range] at h1
    simp [h1]
theorem own_cat {ys bs : List Int32} {c n : Nat} (hc : ys.length = c) (hn : bs.length = n) (hcn : c + n ≤ 16) :
    (ys.map Value.int ++ List.replicate n (Value.int 0)).take c.toInt32.toNatClampNeg ++ (List.range n.toInt32.toNatClampNeg).map (fun i => (bs.map Value.int).getD ((0 : Int32).toNatClampNeg + i) (.int 0)) ++ (ys.map Value.int ++ List.replicate n (Value.int 0)).drop (c.toInt32.toNatClampNeg + n.toInt32.toNatClampNeg) = (ys ++ bs).map Value.int := by
  rw [own_tn (by omega), own_tn (by omega), own_e0]
  subst hc hn
  rw [own_rng, List.take_left' (by simp), List.drop_eq_nil_of_le (by simp), List.append_nil, List.map_append]
theorem own_inbS {c : Cell} {n i : Nat} (S : c.slots.size = n.toInt32.toNatClampNeg) (hi : i < n) (hn : n < 2147483648) : ¬ (i.toInt32 < 0 ∨ c.slots.size ≤ i.toInt32.toNatClampNeg) := own_inb S (own_tn hn) hi hn
theorem own_padN {Z : State} {h : Heap} {a : Addr} {k : ClassId} {z : Int32} {ys : List Int32} (n : Nat) (A : Arv Z h a k .byte z (ys.map Value.int) (.int (0 : Int32))) : Arv Z h a k .byte z (ys.map Value.int ++ List.replicate n (Value.int 0)) (.int (0 : Int32)) := A.pad (pad_rep _ _ n)
theorem own_null {ys : List Int32} {c : Nat} (hc : ys.length = c) : ((((ys ++ [0, 0, 0, 0]).set c ((110 : Int32).toInt8.toInt32)).set (c + 1) ((117 : Int32).toInt8.toInt32)).set (c + 1 + 1) ((108 : Int32).toInt8.toInt32)).set (c + 1 + 1 + 1) ((108 : Int32).toInt8.toInt32) = ys ++ [110, 117, 108, 108] := by
  subst hc
  apply List.ext_getElem?
  intro i
  simp only [List.getElem?_set, List.length_set, List.length_append, List.length_cons, List.length_nil]
  by_cases h0 : i < ys.length
  · rw [if_neg (by omega), if_neg (by omega), if_neg (by omega), if_neg (by omega), List.getElem?_append_left h0, List.getElem?_append_left h0]
  · rw [List.getElem?_append_right (by omega), List.getElem?_append_right (by omega)]
    rcases (by omega : i = ys.length ∨ i = ys.length + 1 ∨ i = ys.length + 2 ∨ i = ys.length + 3 ∨ ys.length + 4 ≤ i) with h | h | h | h | h
    · subst h; simp [show ¬ ys.length + 1 + 1 + 1 = ys.length from by omega, show ¬ ys.length + 1 + 1 = ys.length from by omega]
    · subst h; simp [show ¬ ys.length + 1 + 1 = ys.length from by omega]
    · subst h; simp
    · subst h; simp
    · rw [if_neg (by omega), if_neg (by omega), if_neg (by omega), if_neg (by omega), List.getElem?_eq_none (by simp; omega), List.getElem?_eq_none (by simp; omega)]
def own_ch (x : Int32) : Int32 := nar .char (nar .char ((x &&& (255 : Int32)).toUInt32.toUInt16.toUInt32.toInt32))
theorem own_la {xs ys : List Int32} {m n : Nat} (h : xs.length = m) (g : ys.length = n) : (xs ++ ys).length = m + n := by rw [List.length_append, h, g]
end OwnSB
theorem d13_0 : decode jdk_42_method_152_code 0 = .ok (.getstatic 38, 3) := by decide +kernel
theorem d13_3 : decode jdk_42_method_152_code 3 = .ok (.ifCond .eq 10, 3) := by decide +kernel
theorem d13_6 : decode jdk_42_method_152_code 6 = .ok (.aload_n 0, 1) := by decide +kernel
theorem d13_7 : decode jdk_42_method_152_code 7 = .ok (.getfield 15, 3) := by decide +kernel
theorem d13_10 : decode jdk_42_method_152_code 10 = .ok (.goto 4, 3) := by decide +kernel
theorem d13_14 : decode jdk_42_method_152_code 14 = .ok (.ireturn, 1) := by decide +kernel
def Q13 (Z : State) (a1 : Addr) (gC : Int32) (h0 : Heap) (n0 : Nat) (v : Option Value) (h : Heap) (L : List Loc) : Prop := v = some (.int 0) ∧ Fr n0 L ∧ h = h0
def room13 : Room := { frames := 0, cells := 0, slots := 0, locals := 0 }
set_option maxRecDepth 65536 in
set_option maxHeartbeats 40000000 in
theorem rm13 (l : Launch) (Z : State) (a0 : Array Value) (hw : ∀ d ∈ tables_1, d.before a0 Z = true) (ws : List Jvm.Cond) (a1 : Addr) (gC : Int32) (h0 : Heap) (n0 : Nat) (Z0 : n0 ≤ h0.size) (SC : Sta Z Z.heap "java/lang/String" "COMPACT_STRINGS" "Z" (.int gC)) (PC : ¬ (gC = (0 : Int32))) (O0 : Old Z n0 h0) (Fc : Fld Z h0 a1 "java/lang/String" "coder" "B" (.int (0 : Int32))) :
    MetFree l (⟨"java/lang/String", "coder", "()B"⟩ : MethodName) (head1 (Jvm.Cond.code (⟨"java/lang/String", "coder", "()B"⟩ : MethodName) jdk_42_method_152_code 1 (some .byte) :: ws) room13) (fun aa_ U_ => aa_ = #[(.ref a1)] ∧ Z.Warmed39 U_.vm ∧ U_.heap = h0) (fun _ _ _ _ _ => True) (fun _ U_ o_ W_ => ∃ v_ L_, o_ = .returned v_ ∧ (Q13 Z a1 gC h0 n0) v_ W_.heap L_ ∧ FrameEnd U_ o_ W_ L_ room13.cells room13.slots) := by
  refine own_met (Q := (Q13 Z a1 gC h0 n0)) (L0 := #[.val (.ref a1)]) (plainFor_of_name pn_0) (fun m => by first | (simp [entryFrame, mkF, argsToLocals, Value.category]; done) | rfl) ?_
  intro p e s m below meth c T0 X0 hx hby hml hown hnm hret hlk hZ e0
  have N0 := Fr.nil n0
  obtain ⟨T1, X1, e1, st1⟩ := getS2 X0 hx hZ hown (host := "") (Or.inl (hw _ (List.mem_of_getElem? (i := 85) rfl))) Via.refl e0 (SC.ext O0.2) (g := (mkF m 0 #[.val (.ref a1)] [])) rfl (hb hby d13_0)
  refine Go.st (T' := T1) (pc' := 3) (L' := #[.val (.ref a1)]) (S' := [(.int gC)]) st1 ?_
  refine Go.st (T' := T1) (pc' := 6) (L' := #[.val (.ref a1)]) (S' := []) (fun t_ k_ => XS.ifNo X1.here hx rfl (hb hby d13_3) rfl ((if0 _ _).trans (feq (PC : ¬ (gC = (0 : Int32)))).1) k_) ?_
  refine Go.st (T' := T1) (pc' := 7) (L' := #[.val (.ref a1)]) (S' := [(.ref a1)]) (fun t_ k_ => XS.aloadN X1.here hx rfl (hb hby d13_6) rfl rfl  k_) ?_
  obtain ⟨T2, X2, e2, st2⟩ := getF X1 hx hZ hown (host := "") (Or.inl (hw _ (List.mem_of_getElem? (i := 25) rfl))) Via.refl e1 Fc (g := (mkF m 7 #[.val (.ref a1)] [(.ref a1)])) rfl rfl (hb hby d13_7)
  refine Go.st (T' := T2) (pc' := 10) (L' := #[.val (.ref a1)]) (S' := [(.int (0 : Int32))]) st2 ?_
  refine Go.st (T' := T2) (pc' := 14) (L' := #[.val (.ref a1)]) (S' := [(.int (0 : Int32))]) (fun t_ k_ => XS.goto X2.here hx rfl (pc0 := 10) (pc' := 14) rfl (hb hby d13_10) (by decide) (by decide) k_) ?_
  exact Go.retN X2 hx hlk hret (by simp) (hb hby d13_14) (by decide) (by decide) (by rw [e2]; exact ⟨rfl, N0, rfl⟩)
theorem d31_0 : decode jdk_42_method_154_code 0 = .ok (.getstatic 38, 3) := by decide +kernel
theorem d31_3 : decode jdk_42_method_154_code 3 = .ok (.ifCond .eq 14, 3) := by decide +kernel
theorem d31_6 : decode jdk_42_method_154_code 6 = .ok (.aload_n 0, 1) := by decide +kernel
theorem d31_7 : decode jdk_42_method_154_code 7 = .ok (.getfield 15, 3) := by decide +kernel
theorem d31_10 : decode jdk_42_method_154_code 10 = .ok (.ifCond .ne 7, 3) := by decide +kernel
theorem d31_13 : decode jdk_42_method_154_code 13 = .ok (.iconst 1, 1) := by decide +kernel
theorem d31_14 : decode jdk_42_method_154_code 14 = .ok (.goto 4, 3) := by decide +kernel
theorem d31_18 : decode jdk_42_method_154_code 18 = .ok (.ireturn, 1) := by decide +kernel
def Q31 (Z : State) (a1 : Addr) (gC : Int32) (h0 : Heap) (n0 : Nat) (v : Option Value) (h : Heap) (L : List Loc) : Prop := v = some (.int 1) ∧ Fr n0 L ∧ h = h0
def room31 : Room := { frames := 0, cells := 0, slots := 0, locals := 0 }
set_option maxRecDepth 65536 in
set_option maxHeartbeats 40000000 in
theorem rm31 (l : Launch) (Z : State) (a0 : Array Value) (hw : ∀ d ∈ tables_1, d.before a0 Z = true) (ws : List Jvm.Cond) (a1 : Addr) (gC : Int32) (h0 : Heap) (n0 : Nat) (Z0 : n0 ≤ h0.size) (SC : Sta Z Z.heap "java/lang/String" "COMPACT_STRINGS" "Z" (.int gC)) (PC : ¬ (gC = (0 : Int32))) (O0 : Old Z n0 h0) (Fc : Fld Z h0 a1 "java/lang/String" "coder" "B" (.int (0 : Int32))) :
    MetFree l (⟨"java/lang/String", "isLatin1", "()Z"⟩ : MethodName) (head1 (Jvm.Cond.code (⟨"java/lang/String", "isLatin1", "()Z"⟩ : MethodName) jdk_42_method_154_code 1 (some .boolean) :: ws) room31) (fun aa_ U_ => aa_ = #[(.ref a1)] ∧ Z.Warmed39 U_.vm ∧ U_.heap = h0) (fun _ _ _ _ _ => True) (fun _ U_ o_ W_ => ∃ v_ L_, o_ = .returned v_ ∧ (Q31 Z a1 gC h0 n0) v_ W_.heap L_ ∧ FrameEnd U_ o_ W_ L_ room31.cells room31.slots) := by
  refine own_met (Q := (Q31 Z a1 gC h0 n0)) (L0 := #[.val (.ref a1)]) (plainFor_of_name pn_0) (fun m => by first | (simp [entryFrame, mkF, argsToLocals, Value.category]; done) | rfl) ?_
  intro p e s m below meth c T0 X0 hx hby hml hown hnm hret hlk hZ e0
  have N0 := Fr.nil n0
  obtain ⟨T1, X1, e1, st1⟩ := getS2 X0 hx hZ hown (host := "") (Or.inl (hw _ (List.mem_of_getElem? (i := 85) rfl))) Via.refl e0 (SC.ext O0.2) (g := (mkF m 0 #[.val (.ref a1)] [])) rfl (hb hby d31_0)
  refine Go.st (T' := T1) (pc' := 3) (L' := #[.val (.ref a1)]) (S' := [(.int gC)]) st1 ?_
  refine Go.st (T' := T1) (pc' := 6) (L' := #[.val (.ref a1)]) (S' := []) (fun t_ k_ => XS.ifNo X1.here hx rfl (hb hby d31_3) rfl ((if0 _ _).trans (feq (PC : ¬ (gC = (0 : Int32)))).1) k_) ?_
  refine Go.st (T' := T1) (pc' := 7) (L' := #[.val (.ref a1)]) (S' := [(.ref a1)]) (fun t_ k_ => XS.aloadN X1.here hx rfl (hb hby d31_6) rfl rfl  k_) ?_
  obtain ⟨T2, X2, e2, st2⟩ := getF X1 hx hZ hown (host := "") (Or.inl (hw _ (List.mem_of_getElem? (i := 25) rfl))) Via.refl e1 Fc (g := (mkF m 7 #[.val (.ref a1)] [(.ref a1)])) rfl rfl (hb hby d31_7)
  refine Go.st (T' := T2) (pc' := 10) (L' := #[.val (.ref a1)]) (S' := [(.int (0 : Int32))]) st2 ?_
  refine Go.st (T' := T2) (pc' := 13) (L' := #[.val (.ref a1)]) (S' := []) (fun t_ k_ => XS.ifNo X2.here hx rfl (hb hby d31_10) rfl ((if0 _ _).trans (teq (by decide : ((0 : Int32) = (0 : Int32)))).2) k_) ?_
  refine Go.st (T' := T2) (pc' := 14) (L' := #[.val (.ref a1)]) (S' := [(.int (1 : Int32))]) (fun t_ k_ => XS.iconst X2.here hx rfl (hb hby d31_13) k_) ?_
  refine Go.st (T' := T2) (pc' := 18) (L' := #[.val (.ref a1)]) (S' := [(.int (1 : Int32))]) (fun t_ k_ => XS.goto X2.here hx rfl (pc0 := 14) (pc' := 18) rfl (hb hby d31_14) (by decide) (by decide) k_) ?_
  exact Go.retN X2 hx hlk hret (by simp) (hb hby d31_18) (by decide) (by decide) (by rw [e2]; exact ⟨rfl, N0, rfl⟩)
theorem d12_0 : decode jdk_42_method_54_code 0 = .ok (.aload_n 0, 1) := by decide +kernel
theorem d12_1 : decode jdk_42_method_54_code 1 = .ok (.getfield 9, 3) := by decide +kernel
theorem d12_4 : decode jdk_42_method_54_code 4 = .ok (.arraylength, 1) := by decide +kernel
theorem d12_5 : decode jdk_42_method_54_code 5 = .ok (.aload_n 0, 1) := by decide +kernel
theorem d12_6 : decode jdk_42_method_54_code 6 = .ok (.invokevirtual 335, 3) := by decide +kernel
theorem d12_9 : decode jdk_42_method_54_code 9 = .ok (.ishr, 1) := by decide +kernel
theorem d12_10 : decode jdk_42_method_54_code 10 = .ok (.ireturn, 1) := by decide +kernel
theorem pd_1 : parseMethodDescriptor "()B" = some ⟨[], some .byte⟩ := by decide +kernel
def Q12 (Z : State) (a1 : Addr) (t1 : Addr) (k1 : ClassId) (gC : Int32) (z1 : Int32) (bs : List Int32) (h0 : Heap) (n0 : Nat) (v : Option Value) (h : Heap) (L : List Loc) : Prop := v = some (.int z1) ∧ Fr n0 L ∧ h = h0
def room12 : Room := { frames := 1, cells := 0, slots := 0, locals := 13 }
set_option maxRecDepth 65536 in
set_option maxHeartbeats 40000000 in
theorem rm12 (l : Launch) (Z : State) (a0 : Array Value) (hw : ∀ d ∈ tables_1, d.before a0 Z = true) (ws : List Jvm.Cond) (a1 : Addr) (t1 : Addr) (k1 : ClassId) (gC : Int32) (z1 : Int32) (bs : List Int32) (h0 : Heap) (n0 : Nat) (Z0 : n0 ≤ h0.size) (SC : Sta Z Z.heap "java/lang/String" "COMPACT_STRINGS" "Z" (.int gC)) (PC : ¬ (gC = (0 : Int32))) (O0 : Old Z n0 h0) (E_a1 : Exa Z h0 a1 "java/lang/String") (Fc_a1 : Fld Z h0 a1 "java/lang/String" "coder" "B" (.int (0 : Int32))) (Fv_a1 : Fld Z h0 a1 "java/lang/String" "value" "[B" (.ref t1)) (V_t1 : Arv Z h0 t1 k1 .byte z1 (bs.map Value.int) (.int (0 : Int32))) :
    MetFree l (⟨"java/lang/String", "length", "()I"⟩ : MethodName) (head1 (Jvm.Cond.code (⟨"java/lang/String", "length", "()I"⟩ : MethodName) jdk_42_method_54_code 1 (some .int) :: ws) room12) (fun aa_ U_ => aa_ = #[(.ref a1)] ∧ Z.Warmed39 U_.vm ∧ U_.heap = h0) (fun _ _ _ _ _ => True) (fun _ U_ o_ W_ => ∃ v_ L_, o_ = .returned v_ ∧ (Q12 Z a1 t1 k1 gC z1 bs h0 n0) v_ W_.heap L_ ∧ FrameEnd U_ o_ W_ L_ room12.cells room12.slots) := by
  refine own_met (Q := (Q12 Z a1 t1 k1 gC z1 bs h0 n0)) (L0 := #[.val (.ref a1)]) (plainFor_of_name pn_0) (fun m => by first | (simp [entryFrame, mkF, argsToLocals, Value.category]; done) | rfl) ?_
  intro p e s m below meth c T0 X0 hx hby hml hown hnm hret hlk hZ e0
  have N0 := Fr.nil n0
  refine Go.st (T' := T0) (pc' := 1) (L' := #[.val (.ref a1)]) (S' := [(.ref a1)]) (fun t_ k_ => XS.aloadN X0.here hx rfl (hb hby d12_0) rfl rfl  k_) ?_
  obtain ⟨T1, X1, e1, st1⟩ := getF X0 hx hZ hown (host := "") (Or.inl (hw _ (List.mem_of_getElem? (i := 24) rfl))) Via.refl e0 Fv_a1 (g := (mkF m 1 #[.val (.ref a1)] [(.ref a1)])) rfl rfl (hb hby d12_1)
  refine Go.st (T' := T1) (pc' := 4) (L' := #[.val (.ref a1)]) (S' := [(.ref t1)]) st1 ?_
  obtain ⟨cl2, Ar2, -, q2a, q2b, -, -⟩ := id V_t1
  refine Go.st (T' := T1) (pc' := 5) (L' := #[.val (.ref a1)]) (S' := [(.int z1)]) (fun t_ k_ => own_len X1 hx hZ e1 Ar2 q2a q2b (g := (mkF m 4 #[.val (.ref a1)] [(.ref t1)])) rfl rfl (hb hby d12_4) t_ k_) ?_
  refine Go.st (T' := T1) (pc' := 6) (L' := #[.val (.ref a1)]) (S' := [(.ref a1), (.int z1)]) (fun t_ k_ => XS.aloadN X1.here hx rfl (hb hby d12_5) rfl rfl  k_) ?_
  obtain ⟨cq3, kq3, q3a, q3b, q3c⟩ := isOf hZ e1 E_a1
  obtain ⟨_, _, ⟨T3, L3, k3, n3⟩, -, X3, ⟨Lc3, hQ3, l3, y3, z3⟩, st3⟩ := X1.virtualBack hx (y := (⟨"java/lang/String", "coder", "()B"⟩ : MethodName)) (z := (⟨"java/lang/String", "coder", "()B"⟩ : MethodName)) hown (mvT hZ (hw _ (List.mem_of_getElem? (i := 80) rfl))) (mvT hZ (hw _ (List.mem_of_getElem? (i := 81) rfl))) (notFace_of_selects (args := #[]) (mvT hZ (hw _ (List.mem_of_getElem? (i := 83) rfl)))) (mvT hZ (hw _ (List.mem_of_getElem? (i := 83) rfl))) (mvT hZ (hw _ (List.mem_of_getElem? (i := 82) rfl))) (by decide) (backOf (W := 1) (rm13 l Z a0 hw [] a1 gC h0 n0 Z0 SC PC O0 Fc_a1) hZ (hw _ (List.mem_of_getElem? (i := 84) rfl)) (hw _ (List.mem_of_getElem? (i := 6) rfl)) (by decide) (by decide)) q3a q3c (g := (mkF m 6 #[.val (.ref a1)] [(.ref a1), (.int z1)])) rfl (by rw [hml]; rfl) (Steps.refl _) (argsL := []) (rest := [(.int z1)]) (lenOf pd_1 rfl) rfl (by show 2 * 0 + _ ≤ _; exact Nat.le_of_eq rfl) (hb hby d12_6) (fun _ _ => ⟨rfl, e1, (by decide : 0 + 0 ≤ _), (by decide : 0 + 0 ≤ _)⟩)
  dsimp only [Pt.U, Pt.locs, Pt.cells, Pt.slots] at X3 l3 y3 z3 st3 hQ3
  subst l3 y3 z3
  obtain ⟨rfl, N3q, e3⟩ := hQ3
  have N3 := Fr.app N0 N3q
  refine Go.tr (T' := T3) (pc' := 9) (L' := #[.val (.ref a1)]) (S' := [(.int (0 : Int32)), (.int z1)]) st3 ?_
  refine Go.st (T' := T3) (pc' := 10) (L' := #[.val (.ref a1)]) (S' := [(.int (z1 >>> ((0 : Int32) &&& 31)))]) (fun t_ k_ => XS.ishr X3.here hx rfl (hb hby d12_9) rfl k_) ?_
  rw [own_shr0]
  exact Go.retO X3 hx hlk hret rfl (by simp [FieldType.isReference, Value.isRef]) (hb hby d12_10) (by decide) (by decide) (by rw [e3]; exact ⟨rfl, N3, rfl⟩)
theorem d14_0 : decode jdk_68_method_9_code 0 = .ok (.aload_n 0, 1) := by decide +kernel
theorem d14_1 : decode jdk_68_method_9_code 1 = .ok (.getfield 15, 3) := by decide +kernel
theorem d14_4 : decode jdk_68_method_9_code 4 = .ok (.arraylength, 1) := by decide +kernel
theorem d14_5 : decode jdk_68_method_9_code 5 = .ok (.aload_n 0, 1) := by decide +kernel
theorem d14_6 : decode jdk_68_method_9_code 6 = .ok (.getfield 22, 3) := by decide +kernel
theorem d14_9 : decode jdk_68_method_9_code 9 = .ok (.ishr, 1) := by decide +kernel
theorem d14_10 : decode jdk_68_method_9_code 10 = .ok (.istore_n 2, 1) := by decide +kernel
theorem d14_11 : decode jdk_68_method_9_code 11 = .ok (.iload_n 1, 1) := by decide +kernel
theorem d14_12 : decode jdk_68_method_9_code 12 = .ok (.iload_n 2, 1) := by decide +kernel
theorem d14_13 : decode jdk_68_method_9_code 13 = .ok (.isub, 1) := by decide +kernel
theorem d14_14 : decode jdk_68_method_9_code 14 = .ok (.ifCond .le 24, 3) := by decide +kernel
theorem d14_38 : decode jdk_68_method_9_code 38 = .ok (.return_, 1) := by decide +kernel
theorem pn_1 : plainName "java/lang/AbstractStringBuilder" = true := by first | (simp [plainName, overriddenIn]; done) | decide +kernel
def Q14 (Z : State) (a1 : Addr) (b : Addr) (kb : ClassId) (ys : List Int32) (cn : Nat) (h0 : Heap) (n0 : Nat) (v : Option Value) (h : Heap) (L : List Loc) : Prop := v = none ∧ Fr n0 L ∧ h = h0
def room14 : Room := { frames := 0, cells := 0, slots := 0, locals := 0 }
set_option maxRecDepth 65536 in
set_option maxHeartbeats 40000000 in
theorem rm14 (l : Launch) (Z : State) (a0 : Array Value) (hw : ∀ d ∈ tables_1, d.before a0 Z = true) (ws : List Jvm.Cond) (a1 : Addr) (b : Addr) (kb : ClassId) (ys : List Int32) (cn : Nat) (h0 : Heap) (n0 : Nat) (Z0 : n0 ≤ h0.size) (F_value : Fld Z h0 a1 "java/lang/AbstractStringBuilder" "value" "[B" (.ref b)) (F_coder : Fld Z h0 a1 "java/lang/AbstractStringBuilder" "coder" "B" (.int (0 : Int32))) (V_b : Arv Z h0 b kb .byte (16 : Int32) (ys.map Value.int) (.int (0 : Int32))) (hc : cn ≤ 16) :
    MetFree l (⟨"java/lang/AbstractStringBuilder", "ensureCapacityInternal", "(I)V"⟩ : MethodName) (head1 (Jvm.Cond.code (⟨"java/lang/AbstractStringBuilder", "ensureCapacityInternal", "(I)V"⟩ : MethodName) jdk_68_method_9_code 3 none :: ws) room14) (fun aa_ U_ => aa_ = #[(.ref a1), (.int (cn.toInt32))] ∧ Z.Warmed39 U_.vm ∧ U_.heap = h0) (fun _ _ _ _ _ => True) (fun _ U_ o_ W_ => ∃ v_ L_, o_ = .returned v_ ∧ (Q14 Z a1 b kb ys cn h0 n0) v_ W_.heap L_ ∧ FrameEnd U_ o_ W_ L_ room14.cells room14.slots) := by
  refine own_met (Q := (Q14 Z a1 b kb ys cn h0 n0)) (L0 := #[.val (.ref a1), .val (.int (cn.toInt32)), .unset]) (plainFor_of_name pn_1) (fun m => by first | (simp [entryFrame, mkF, argsToLocals, Value.category]; done) | rfl) ?_
  intro p e s m below meth c T0 X0 hx hby hml hown hnm hret hlk hZ e0
  have N0 := Fr.nil n0
  refine Go.st (T' := T0) (pc' := 1) (L' := #[.val (.ref a1), .val (.int (cn.toInt32)), .unset]) (S' := [(.ref a1)]) (fun t_ k_ => XS.aloadN X0.here hx rfl (hb hby d14_0) rfl rfl  k_) ?_
  obtain ⟨T1, X1, e1, st1⟩ := getF X0 hx hZ hown (host := "") (Or.inl (hw _ (List.mem_of_getElem? (i := 61) rfl))) Via.refl e0 F_value (g := (mkF m 1 #[.val (.ref a1), .val (.int (cn.toInt32)), .unset] [(.ref a1)])) rfl rfl (hb hby d14_1)
  refine Go.st (T' := T1) (pc' := 4) (L' := #[.val (.ref a1), .val (.int (cn.toInt32)), .unset]) (S' := [(.ref b)]) st1 ?_
  obtain ⟨cl2, Ar2, -, q2a, q2b, -, -⟩ := id V_b
  refine Go.st (T' := T1) (pc' := 5) (L' := #[.val (.ref a1), .val (.int (cn.toInt32)), .unset]) (S' := [(.int (16 : Int32))]) (fun t_ k_ => own_len X1 hx hZ e1 Ar2 q2a q2b (g := (mkF m 4 #[.val (.ref a1), .val (.int (cn.toInt32)), .unset] [(.ref b)])) rfl rfl (hb hby d14_4) t_ k_) ?_
  refine Go.st (T' := T1) (pc' := 6) (L' := #[.val (.ref a1), .val (.int (cn.toInt32)), .unset]) (S' := [(.ref a1), (.int (16 : Int32))]) (fun t_ k_ => XS.aloadN X1.here hx rfl (hb hby d14_5) rfl rfl  k_) ?_
  obtain ⟨T3, X3, e3, st3⟩ := getF X1 hx hZ hown (host := "") (Or.inl (hw _ (List.mem_of_getElem? (i := 63) rfl))) Via.refl e1 F_coder (g := (mkF m 6 #[.val (.ref a1), .val (.int (cn.toInt32)), .unset] [(.ref a1), (.int (16 : Int32))])) rfl rfl (hb hby d14_6)
  refine Go.st (T' := T3) (pc' := 9) (L' := #[.val (.ref a1), .val (.int (cn.toInt32)), .unset]) (S' := [(.int (0 : Int32)), (.int (16 : Int32))]) st3 ?_
  refine Go.st (T' := T3) (pc' := 10) (L' := #[.val (.ref a1), .val (.int (cn.toInt32)), .unset]) (S' := [(.int ((16 : Int32) >>> ((0 : Int32) &&& 31)))]) (fun t_ k_ => XS.ishr X3.here hx rfl (hb hby d14_9) rfl k_) ?_
  rw [show ((16 : Int32) >>> ((0 : Int32) &&& 31)) = (16 : Int32) from by decide]
  refine Go.st (T' := T3) (pc' := 11) (L' := #[.val (.ref a1), .val (.int (cn.toInt32)), .val (.int (16 : Int32))]) (S' := []) (fun t_ k_ => XS.istoreN X3.here hx rfl (hb hby d14_10) rfl (l' := #[.val (.ref a1), .val (.int (cn.toInt32)), .val (.int (16 : Int32))]) rfl k_) ?_
  refine Go.st (T' := T3) (pc' := 12) (L' := #[.val (.ref a1), .val (.int (cn.toInt32)), .val (.int (16 : Int32))]) (S' := [(.int (cn.toInt32))]) (fun t_ k_ => XS.iloadN X3.here hx rfl (hb hby d14_11) rfl  k_) ?_
  refine Go.st (T' := T3) (pc' := 13) (L' := #[.val (.ref a1), .val (.int (cn.toInt32)), .val (.int (16 : Int32))]) (S' := [(.int (16 : Int32)), (.int (cn.toInt32))]) (fun t_ k_ => XS.iloadN X3.here hx rfl (hb hby d14_12) rfl  k_) ?_
  refine Go.st (T' := T3) (pc' := 14) (L' := #[.val (.ref a1), .val (.int (cn.toInt32)), .val (.int (16 : Int32))]) (S' := [(.int ((cn.toInt32) - (16 : Int32)))]) (fun t_ k_ => XS.isub X3.here hx rfl (hb hby d14_13) rfl k_) ?_
  refine Go.st (T' := T3) (pc' := 38) (L' := #[.val (.ref a1), .val (.int (cn.toInt32)), .val (.int (16 : Int32))]) (S' := []) (fun t_ k_ => XS.ifYes X3.here hx rfl (pc0 := 14) (pc' := 38) rfl (hb hby d14_14) rfl ((if0 _ _).trans (flt (own_le16f ⟨cn, by omega⟩ : ¬ ((0 : Int32) < ((cn.toInt32) - (16 : Int32))))).2.2.2) (by decide) (by decide) k_) ?_
  exact Go.retV X3 hx hlk hret (hb hby d14_38) (by decide) (by decide) (by rw [e3]; exact ⟨rfl, N0, rfl⟩)
theorem d16_0 : decode jdk_68_method_71_code 0 = .ok (.getstatic 18, 3) := by decide +kernel
theorem d16_3 : decode jdk_68_method_71_code 3 = .ok (.ifCond .eq 18, 3) := by decide +kernel
theorem d16_6 : decode jdk_68_method_71_code 6 = .ok (.aload_n 0, 1) := by decide +kernel
theorem d16_7 : decode jdk_68_method_71_code 7 = .ok (.getfield 22, 3) := by decide +kernel
theorem d16_10 : decode jdk_68_method_71_code 10 = .ok (.aload_n 1, 1) := by decide +kernel
theorem d16_11 : decode jdk_68_method_71_code 11 = .ok (.invokevirtual 40, 3) := by decide +kernel
theorem d16_14 : decode jdk_68_method_71_code 14 = .ok (.if_icmp .eq 7, 3) := by decide +kernel
theorem d16_21 : decode jdk_68_method_71_code 21 = .ok (.return_, 1) := by decide +kernel
def Q16 (Z : State) (a1 : Addr) (a2 : Addr) (gC : Int32) (h0 : Heap) (n0 : Nat) (v : Option Value) (h : Heap) (L : List Loc) : Prop := v = none ∧ Fr n0 L ∧ h = h0
def room16 : Room := { frames := 1, cells := 0, slots := 0, locals := 13 }
set_option maxRecDepth 65536 in
set_option maxHeartbeats 40000000 in
theorem rm16 (l : Launch) (Z : State) (a0 : Array Value) (hw : ∀ d ∈ tables_1, d.before a0 Z = true) (ws : List Jvm.Cond) (a1 : Addr) (a2 : Addr) (gC : Int32) (h0 : Heap) (n0 : Nat) (Z0 : n0 ≤ h0.size) (SC : Sta Z Z.heap "java/lang/String" "COMPACT_STRINGS" "Z" (.int gC)) (PC : ¬ (gC = (0 : Int32))) (O0 : Old Z n0 h0) (F_coder : Fld Z h0 a1 "java/lang/AbstractStringBuilder" "coder" "B" (.int (0 : Int32))) (E2 : Exa Z h0 a2 "java/lang/String") (Fc : Fld Z h0 a2 "java/lang/String" "coder" "B" (.int (0 : Int32))) :
    MetFree l (⟨"java/lang/AbstractStringBuilder", "inflateIfNeededFor", "(Ljava/lang/String;)V"⟩ : MethodName) (head1 (Jvm.Cond.code (⟨"java/lang/AbstractStringBuilder", "inflateIfNeededFor", "(Ljava/lang/String;)V"⟩ : MethodName) jdk_68_method_71_code 2 none :: ws) room16) (fun aa_ U_ => aa_ = #[(.ref a1), (.ref a2)] ∧ Z.Warmed39 U_.vm ∧ U_.heap = h0) (fun _ _ _ _ _ => True) (fun _ U_ o_ W_ => ∃ v_ L_, o_ = .returned v_ ∧ (Q16 Z a1 a2 gC h0 n0) v_ W_.heap L_ ∧ FrameEnd U_ o_ W_ L_ room16.cells room16.slots) := by
  refine own_met (Q := (Q16 Z a1 a2 gC h0 n0)) (L0 := #[.val (.ref a1), .val (.ref a2)]) (plainFor_of_name pn_1) (fun m => by first | (simp [entryFrame, mkF, argsToLocals, Value.category]; done) | rfl) ?_
  intro p e s m below meth c T0 X0 hx hby hml hown hnm hret hlk hZ e0
  have N0 := Fr.nil n0
  obtain ⟨T1, X1, e1, st1⟩ := getS2 X0 hx hZ hown (host := "") (Or.inl (hw _ (List.mem_of_getElem? (i := 60) rfl))) Via.refl e0 (SC.ext O0.2) (g := (mkF m 0 #[.val (.ref a1), .val (.ref a2)] [])) rfl (hb hby d16_0)
  refine Go.st (T' := T1) (pc' := 3) (L' := #[.val (.ref a1), .val (.ref a2)]) (S' := [(.int gC)]) st1 ?_
  refine Go.st (T' := T1) (pc' := 6) (L' := #[.val (.ref a1), .val (.ref a2)]) (S' := []) (fun t_ k_ => XS.ifNo X1.here hx rfl (hb hby d16_3) rfl ((if0 _ _).trans (feq (PC : ¬ (gC = (0 : Int32)))).1) k_) ?_
  refine Go.st (T' := T1) (pc' := 7) (L' := #[.val (.ref a1), .val (.ref a2)]) (S' := [(.ref a1)]) (fun t_ k_ => XS.aloadN X1.here hx rfl (hb hby d16_6) rfl rfl  k_) ?_
  obtain ⟨T2, X2, e2, st2⟩ := getF X1 hx hZ hown (host := "") (Or.inl (hw _ (List.mem_of_getElem? (i := 63) rfl))) Via.refl e1 F_coder (g := (mkF m 7 #[.val (.ref a1), .val (.ref a2)] [(.ref a1)])) rfl rfl (hb hby d16_7)
  refine Go.st (T' := T2) (pc' := 10) (L' := #[.val (.ref a1), .val (.ref a2)]) (S' := [(.int (0 : Int32))]) st2 ?_
  refine Go.st (T' := T2) (pc' := 11) (L' := #[.val (.ref a1), .val (.ref a2)]) (S' := [(.ref a2), (.int (0 : Int32))]) (fun t_ k_ => XS.aloadN X2.here hx rfl (hb hby d16_10) rfl rfl  k_) ?_
  obtain ⟨cq3, kq3, q3a, q3b, q3c⟩ := isOf hZ e2 E2
  obtain ⟨_, _, ⟨T3, L3, k3, n3⟩, -, X3, ⟨Lc3, hQ3, l3, y3, z3⟩, st3⟩ := X2.virtualBack hx (y := (⟨"java/lang/String", "coder", "()B"⟩ : MethodName)) (z := (⟨"java/lang/String", "coder", "()B"⟩ : MethodName)) hown (mvT hZ (hw _ (List.mem_of_getElem? (i := 103) rfl))) (mvT hZ (hw _ (List.mem_of_getElem? (i := 81) rfl))) (notFace_of_selects (args := #[]) (mvT hZ (hw _ (List.mem_of_getElem? (i := 83) rfl)))) (mvT hZ (hw _ (List.mem_of_getElem? (i := 83) rfl))) (mvT hZ (hw _ (List.mem_of_getElem? (i := 82) rfl))) (by decide) (backOf (W := 1) (rm13 l Z a0 hw [] a2 gC h0 n0 Z0 SC PC O0 Fc) hZ (hw _ (List.mem_of_getElem? (i := 84) rfl)) (hw _ (List.mem_of_getElem? (i := 6) rfl)) (by decide) (by decide)) q3a q3c (g := (mkF m 11 #[.val (.ref a1), .val (.ref a2)] [(.ref a2), (.int (0 : Int32))])) rfl (by rw [hml]; rfl) (Steps.refl _) (argsL := []) (rest := [(.int (0 : Int32))]) (lenOf pd_1 rfl) rfl (by show 2 * 0 + _ ≤ _; exact Nat.le_of_eq rfl) (hb hby d16_11) (fun _ _ => ⟨rfl, e2, (by decide : 0 + 0 ≤ _), (by decide : 0 + 0 ≤ _)⟩)
  dsimp only [Pt.U, Pt.locs, Pt.cells, Pt.slots] at X3 l3 y3 z3 st3 hQ3
  subst l3 y3 z3
  obtain ⟨rfl, N3q, e3⟩ := hQ3
  have N3 := Fr.app N0 N3q
  refine Go.tr (T' := T3) (pc' := 14) (L' := #[.val (.ref a1), .val (.ref a2)]) (S' := [(.int (0 : Int32)), (.int (0 : Int32))]) st3 ?_
  refine Go.st (T' := T3) (pc' := 21) (L' := #[.val (.ref a1), .val (.ref a2)]) (S' := []) (fun t_ k_ => XS.icmpYes X3.here hx rfl (pc0 := 14) (pc' := 21) rfl (hb hby d16_14) rfl (teq (by decide : ((0 : Int32) = (0 : Int32)))).1 (by decide) (by decide) k_) ?_
  exact Go.retV X3 hx hlk hret (hb hby d16_21) (by decide) (by decide) (by rw [e3]; exact ⟨rfl, N3, rfl⟩)
theorem d17_0 : decode jdk_42_method_147_code 0 = .ok (.aload_n 0, 1) := by decide +kernel
theorem d17_1 : decode jdk_42_method_147_code 1 = .ok (.invokevirtual 335, 3) := by decide +kernel
theorem d17_4 : decode jdk_42_method_147_code 4 = .ok (.iload_n 3, 1) := by decide +kernel
theorem d17_5 : decode jdk_42_method_147_code 5 = .ok (.if_icmp .ne 23, 3) := by decide +kernel
theorem d17_8 : decode jdk_42_method_147_code 8 = .ok (.aload_n 0, 1) := by decide +kernel
theorem d17_9 : decode jdk_42_method_147_code 9 = .ok (.getfield 9, 3) := by decide +kernel
theorem d17_12 : decode jdk_42_method_147_code 12 = .ok (.iconst 0, 1) := by decide +kernel
theorem d17_13 : decode jdk_42_method_147_code 13 = .ok (.aload_n 1, 1) := by decide +kernel
theorem d17_14 : decode jdk_42_method_147_code 14 = .ok (.iload_n 2, 1) := by decide +kernel
theorem d17_15 : decode jdk_42_method_147_code 15 = .ok (.iload_n 3, 1) := by decide +kernel
theorem d17_16 : decode jdk_42_method_147_code 16 = .ok (.ishl, 1) := by decide +kernel
theorem d17_17 : decode jdk_42_method_147_code 17 = .ok (.aload_n 0, 1) := by decide +kernel
theorem d17_18 : decode jdk_42_method_147_code 18 = .ok (.getfield 9, 3) := by decide +kernel
theorem d17_21 : decode jdk_42_method_147_code 21 = .ok (.arraylength, 1) := by decide +kernel
theorem d17_22 : decode jdk_42_method_147_code 22 = .ok (.invokestatic 212, 3) := by decide +kernel
theorem d17_25 : decode jdk_42_method_147_code 25 = .ok (.goto 18, 3) := by decide +kernel
theorem d17_43 : decode jdk_42_method_147_code 43 = .ok (.return_, 1) := by decide +kernel
def Q17 (Z : State) (b : Addr) (kb : ClassId) (ys : List Int32) (bs : List Int32) (h0 : Heap) (n0 : Nat) (v : Option Value) (h : Heap) (L : List Loc) : Prop := v = none ∧ Fr n0 L ∧ Keep h0 h [b] ∧ Arv Z h b kb .byte (16 : Int32) ((ys ++ bs).map Value.int) (.int (0 : Int32))
def room17 : Room := { frames := 1, cells := 0, slots := 0, locals := 40 }
set_option maxRecDepth 65536 in
set_option maxHeartbeats 40000000 in
theorem rm17 (l : Launch) (Z : State) (a0 : Array Value) (hw : ∀ d ∈ tables_1, d.before a0 Z = true) (ws : List Jvm.Cond) (a1 : Addr) (t1 : Addr) (k1 : ClassId) (b : Addr) (kb : ClassId) (ys : List Int32) (bs : List Int32) (cn : Nat) (k : Nat) (gC : Int32) (h0 : Heap) (n0 : Nat) (Z0 : n0 ≤ h0.size) (SC : Sta Z Z.heap "java/lang/String" "COMPACT_STRINGS" "Z" (.int gC)) (PC : ¬ (gC = (0 : Int32))) (O0 : Old Z n0 h0) (E_a1 : Exa Z h0 a1 "java/lang/String") (Fc_a1 : Fld Z h0 a1 "java/lang/String" "coder" "B" (.int (0 : Int32))) (Fv_a1 : Fld Z h0 a1 "java/lang/String" "value" "[B" (.ref t1)) (V_t1 : Arv Z h0 t1 k1 .byte (k.toInt32) (bs.map Value.int) (.int (0 : Int32))) (V_b : Arv Z h0 b kb .byte (16 : Int32) (ys.map Value.int) (.int (0 : Int32))) (g_b : n0 ≤ b) (n1 : a1 ≠ b) (n2 : t1 ≠ b) (hy : ys.length = cn) (hbl : bs.length = k) (hck : cn + k ≤ 16) :
    MetFree l (⟨"java/lang/String", "getBytes", "([BIB)V"⟩ : MethodName) (head1 (Jvm.Cond.code (⟨"java/lang/String", "getBytes", "([BIB)V"⟩ : MethodName) jdk_42_method_147_code 4 none :: ws) room17) (fun aa_ U_ => aa_ = #[(.ref a1), (.ref b), (.int (cn.toInt32)), (.int (0 : Int32))] ∧ Z.Warmed39 U_.vm ∧ U_.heap = h0) (fun _ _ _ _ _ => True) (fun _ U_ o_ W_ => ∃ v_ L_, o_ = .returned v_ ∧ (Q17 Z b kb ys bs h0 n0) v_ W_.heap L_ ∧ FrameEnd U_ o_ W_ L_ room17.cells room17.slots) := by
  refine own_met (Q := (Q17 Z b kb ys bs h0 n0)) (L0 := #[.val (.ref a1), .val (.ref b), .val (.int (cn.toInt32)), .val (.int (0 : Int32))]) (plainFor_of_name pn_0) (fun m => by first | (simp [entryFrame, mkF, argsToLocals, Value.category]; done) | rfl) ?_
  intro p e s m below meth c T0 X0 hx hby hml hown hnm hret hlk hZ e0
  have N0 := Fr.nil n0
  have K0 := Keep.refl h0 [b]
  refine Go.st (T' := T0) (pc' := 1) (L' := #[.val (.ref a1), .val (.ref b), .val (.int (cn.toInt32)), .val (.int (0 : Int32))]) (S' := [(.ref a1)]) (fun t_ k_ => XS.aloadN X0.here hx rfl (hb hby d17_0) rfl rfl  k_) ?_
  obtain ⟨cq1, kq1, q1a, q1b, q1c⟩ := isOf hZ e0 E_a1
  obtain ⟨_, _, ⟨T1, L1, k1, n1⟩, -, X1, ⟨Lc1, hQ1, l1, y1, z1⟩, st1⟩ := X0.virtualBack hx (y := (⟨"java/lang/String", "coder", "()B"⟩ : MethodName)) (z := (⟨"java/lang/String", "coder", "()B"⟩ : MethodName)) hown (mvT hZ (hw _ (List.mem_of_getElem? (i := 80) rfl))) (mvT hZ (hw _ (List.mem_of_getElem? (i := 81) rfl))) (notFace_of_selects (args := #[]) (mvT hZ (hw _ (List.mem_of_getElem? (i := 83) rfl)))) (mvT hZ (hw _ (List.mem_of_getElem? (i := 83) rfl))) (mvT hZ (hw _ (List.mem_of_getElem? (i := 82) rfl))) (by decide) (backOf (W := 0) (rm13 l Z a0 hw [] a1 gC h0 n0 Z0 SC PC O0 Fc_a1) hZ (hw _ (List.mem_of_getElem? (i := 84) rfl)) (hw _ (List.mem_of_getElem? (i := 6) rfl)) (by decide) (by decide)) q1a q1c (g := (mkF m 1 #[.val (.ref a1), .val (.ref b), .val (.int (cn.toInt32)), .val (.int (0 : Int32))] [(.ref a1)])) rfl (by rw [hml]; rfl) (Steps.refl _) (argsL := []) (rest := []) (lenOf pd_1 rfl) rfl (by show 2 * 0 + _ ≤ _; exact Nat.le_of_eq rfl) (hb hby d17_1) (fun _ _ => ⟨rfl, e0, (by decide : 0 + 0 ≤ _), (by decide : 0 + 0 ≤ _)⟩)
  dsimp only [Pt.U, Pt.locs, Pt.cells, Pt.slots] at X1 l1 y1 z1 st1 hQ1
  subst l1 y1 z1
  obtain ⟨rfl, N1q, e1⟩ := hQ1
  have N1 := Fr.app N0 N1q
  refine Go.tr (T' := T1) (pc' := 4) (L' := #[.val (.ref a1), .val (.ref b), .val (.int (cn.toInt32)), .val (.int (0 : Int32))]) (S' := [(.int (0 : Int32))]) st1 ?_
  refine Go.st (T' := T1) (pc' := 5) (L' := #[.val (.ref a1), .val (.ref b), .val (.int (cn.toInt32)), .val (.int (0 : Int32))]) (S' := [(.int (0 : Int32)), (.int (0 : Int32))]) (fun t_ k_ => XS.iloadN X1.here hx rfl (hb hby d17_4) rfl  k_) ?_
  refine Go.st (T' := T1) (pc' := 8) (L' := #[.val (.ref a1), .val (.ref b), .val (.int (cn.toInt32)), .val (.int (0 : Int32))]) (S' := []) (fun t_ k_ => XS.icmpNo X1.here hx rfl (hb hby d17_5) rfl (teq (by decide : ((0 : Int32) = (0 : Int32)))).2 k_) ?_
  refine Go.st (T' := T1) (pc' := 9) (L' := #[.val (.ref a1), .val (.ref b), .val (.int (cn.toInt32)), .val (.int (0 : Int32))]) (S' := [(.ref a1)]) (fun t_ k_ => XS.aloadN X1.here hx rfl (hb hby d17_8) rfl rfl  k_) ?_
  obtain ⟨T2, X2, e2, st2⟩ := getF X1 hx hZ hown (host := "") (Or.inl (hw _ (List.mem_of_getElem? (i := 24) rfl))) Via.refl e1 Fv_a1 (g := (mkF m 9 #[.val (.ref a1), .val (.ref b), .val (.int (cn.toInt32)), .val (.int (0 : Int32))] [(.ref a1)])) rfl rfl (hb hby d17_9)
  refine Go.st (T' := T2) (pc' := 12) (L' := #[.val (.ref a1), .val (.ref b), .val (.int (cn.toInt32)), .val (.int (0 : Int32))]) (S' := [(.ref t1)]) st2 ?_
  refine Go.st (T' := T2) (pc' := 13) (L' := #[.val (.ref a1), .val (.ref b), .val (.int (cn.toInt32)), .val (.int (0 : Int32))]) (S' := [(.int (0 : Int32)), (.ref t1)]) (fun t_ k_ => XS.iconst X2.here hx rfl (hb hby d17_12) k_) ?_
  refine Go.st (T' := T2) (pc' := 14) (L' := #[.val (.ref a1), .val (.ref b), .val (.int (cn.toInt32)), .val (.int (0 : Int32))]) (S' := [(.ref b), (.int (0 : Int32)), (.ref t1)]) (fun t_ k_ => XS.aloadN X2.here hx rfl (hb hby d17_13) rfl rfl  k_) ?_
  refine Go.st (T' := T2) (pc' := 15) (L' := #[.val (.ref a1), .val (.ref b), .val (.int (cn.toInt32)), .val (.int (0 : Int32))]) (S' := [(.int (cn.toInt32)), (.ref b), (.int (0 : Int32)), (.ref t1)]) (fun t_ k_ => XS.iloadN X2.here hx rfl (hb hby d17_14) rfl  k_) ?_
  refine Go.st (T' := T2) (pc' := 16) (L' := #[.val (.ref a1), .val (.ref b), .val (.int (cn.toInt32)), .val (.int (0 : Int32))]) (S' := [(.int (0 : Int32)), (.int (cn.toInt32)), (.ref b), (.int (0 : Int32)), (.ref t1)]) (fun t_ k_ => XS.iloadN X2.here hx rfl (hb hby d17_15) rfl  k_) ?_
  refine Go.st (T' := T2) (pc' := 17) (L' := #[.val (.ref a1), .val (.ref b), .val (.int (cn.toInt32)), .val (.int (0 : Int32))]) (S' := [(.int ((cn.toInt32) <<< ((0 : Int32) &&& 31))), (.ref b), (.int (0 : Int32)), (.ref t1)]) (fun t_ k_ => XS.ishl X2.here hx rfl (hb hby d17_16) rfl k_) ?_
  rw [own_shl0]
  refine Go.st (T' := T2) (pc' := 18) (L' := #[.val (.ref a1), .val (.ref b), .val (.int (cn.toInt32)), .val (.int (0 : Int32))]) (S' := [(.ref a1), (.int (cn.toInt32)), (.ref b), (.int (0 : Int32)), (.ref t1)]) (fun t_ k_ => XS.aloadN X2.here hx rfl (hb hby d17_17) rfl rfl  k_) ?_
  obtain ⟨T3, X3, e3, st3⟩ := getF X2 hx hZ hown (host := "") (Or.inl (hw _ (List.mem_of_getElem? (i := 24) rfl))) Via.refl e2 Fv_a1 (g := (mkF m 18 #[.val (.ref a1), .val (.ref b), .val (.int (cn.toInt32)), .val (.int (0 : Int32))] [(.ref a1), (.int (cn.toInt32)), (.ref b), (.int (0 : Int32)), (.ref t1)])) rfl rfl (hb hby d17_18)
  refine Go.st (T' := T3) (pc' := 21) (L' := #[.val (.ref a1), .val (.ref b), .val (.int (cn.toInt32)), .val (.int (0 : Int32))]) (S' := [(.ref t1), (.int (cn.toInt32)), (.ref b), (.int (0 : Int32)), (.ref t1)]) st3 ?_
  obtain ⟨cl4, Ar4, -, q4a, q4b, -, -⟩ := id V_t1
  refine Go.st (T' := T3) (pc' := 22) (L' := #[.val (.ref a1), .val (.ref b), .val (.int (cn.toInt32)), .val (.int (0 : Int32))]) (S' := [(.int (k.toInt32)), (.int (cn.toInt32)), (.ref b), (.int (0 : Int32)), (.ref t1)]) (fun t_ k_ => own_len X3 hx hZ e3 Ar4 q4a q4b (g := (mkF m 21 #[.val (.ref a1), .val (.ref b), .val (.int (cn.toInt32)), .val (.int (0 : Int32))] [(.ref t1), (.int (cn.toInt32)), (.ref b), (.int (0 : Int32)), (.ref t1)])) rfl rfl (hb hby d17_21) t_ k_) ?_
  have Vp5 := own_padN (ys := ys) (k) V_b
  obtain ⟨T5, h5, L5, X5, e5, N5, K5, V5, st5⟩ := cpA X3 hx hZ hown (hw _ (List.mem_of_getElem? (i := 109) rfl)) (hw _ (List.mem_of_getElem? (i := 112) rfl)) (hw _ (List.mem_of_getElem? (i := 110) rfl)) (hw _ (List.mem_of_getElem? (i := 111) rfl)) e3 V_t1 Vp5 (Or.inl ⟨rfl, rfl⟩) (by decide) (own_nnN (by omega)) (own_nnN (by omega)) own_h4 (own_h5 hck) rfl (own_hl hy hck) N1 g_b (g := (mkF m 22 #[.val (.ref a1), .val (.ref b), .val (.int (cn.toInt32)), .val (.int (0 : Int32))] [(.int (k.toInt32)), (.int (cn.toInt32)), (.ref b), (.int (0 : Int32)), (.ref t1)])) rfl (by rw [hml]; rfl) rfl (hb hby d17_22) (by decide) (W := 0) (by show 2 * 0 + _ ≤ _; exact Nat.le_of_eq rfl) (by decide)
  replace Z0 := Nat.le_trans Z0 K5.1
  replace K0 := K0.trans K5 (allS (Or.inl (List.mem_of_getElem? (i := 0) rfl)) all0)
  replace O0 := O0.keep K5 (allS g_b all0)
  replace E_a1 := E_a1.keep K5
  replace Fc_a1 := Fc_a1.keep K5 (ninS n1 nin0)
  replace Fv_a1 := Fv_a1.keep K5 (ninS n1 nin0)
  replace V_t1 := V_t1.keep K5 (ninS n2 nin0)
  have V_b : Arv Z h5 b kb .byte (16 : Int32) ((ys ++ bs).map Value.int) (.int (0 : Int32)) := (congrArg (fun z_ => Arv Z h5 b kb .byte (16 : Int32) z_ (.int (0 : Int32))) (own_cat hy hbl hck)).mp V5
  refine Go.st (T' := T5) (pc' := 25) (L' := #[.val (.ref a1), .val (.ref b), .val (.int (cn.toInt32)), .val (.int (0 : Int32))]) (S' := []) st5 ?_
  refine Go.st (T' := T5) (pc' := 43) (L' := #[.val (.ref a1), .val (.ref b), .val (.int (cn.toInt32)), .val (.int (0 : Int32))]) (S' := []) (fun t_ k_ => XS.goto X5.here hx rfl (pc0 := 25) (pc' := 43) rfl (hb hby d17_25) (by decide) (by decide) k_) ?_
  exact Go.retV X5 hx hlk hret (hb hby d17_43) (by decide) (by decide) (by rw [e5]; exact ⟨rfl, N5, K0, V_b⟩)
theorem d15_0 : decode jdk_68_method_73_code 0 = .ok (.aload_n 0, 1) := by decide +kernel
theorem d15_1 : decode jdk_68_method_73_code 1 = .ok (.aload_n 2, 1) := by decide +kernel
theorem d15_2 : decode jdk_68_method_73_code 2 = .ok (.invokevirtual 397, 3) := by decide +kernel
theorem d15_5 : decode jdk_68_method_73_code 5 = .ok (.aload_n 2, 1) := by decide +kernel
theorem d15_6 : decode jdk_68_method_73_code 6 = .ok (.aload_n 0, 1) := by decide +kernel
theorem d15_7 : decode jdk_68_method_73_code 7 = .ok (.getfield 15, 3) := by decide +kernel
theorem d15_10 : decode jdk_68_method_73_code 10 = .ok (.iload_n 1, 1) := by decide +kernel
theorem d15_11 : decode jdk_68_method_73_code 11 = .ok (.aload_n 0, 1) := by decide +kernel
theorem d15_12 : decode jdk_68_method_73_code 12 = .ok (.getfield 22, 3) := by decide +kernel
theorem d15_15 : decode jdk_68_method_73_code 15 = .ok (.invokevirtual 399, 3) := by decide +kernel
theorem d15_18 : decode jdk_68_method_73_code 18 = .ok (.return_, 1) := by decide +kernel
theorem pd_2 : parseMethodDescriptor "(Ljava/lang/String;)V" = some ⟨[(.object "java/lang/String")], none⟩ := by decide +kernel
theorem pd_3 : parseMethodDescriptor "([BIB)V" = some ⟨[(.array .byte), .int, .byte], none⟩ := by decide +kernel
def Q15 (Z : State) (b : Addr) (kb : ClassId) (ys : List Int32) (bs : List Int32) (h0 : Heap) (n0 : Nat) (v : Option Value) (h : Heap) (L : List Loc) : Prop := v = none ∧ Fr n0 L ∧ Keep h0 h [b] ∧ Arv Z h b kb .byte (16 : Int32) ((ys ++ bs).map Value.int) (.int (0 : Int32))
def room15 : Room := { frames := 2, cells := 0, slots := 0, locals := 55 }
set_option maxRecDepth 65536 in
set_option maxHeartbeats 40000000 in
theorem rm15 (l : Launch) (Z : State) (a0 : Array Value) (hw : ∀ d ∈ tables_1, d.before a0 Z = true) (ws : List Jvm.Cond) (a1 : Addr) (a2 : Addr) (t2 : Addr) (k2 : ClassId) (b : Addr) (kb : ClassId) (ys : List Int32) (bs : List Int32) (cn : Nat) (k : Nat) (gC : Int32) (h0 : Heap) (n0 : Nat) (Z0 : n0 ≤ h0.size) (SC : Sta Z Z.heap "java/lang/String" "COMPACT_STRINGS" "Z" (.int gC)) (PC : ¬ (gC = (0 : Int32))) (O0 : Old Z n0 h0) (E_a1 : Exa Z h0 a1 "java/lang/StringBuilder") (g_a1 : n0 ≤ a1) (n3 : a1 ≠ b) (F_value : Fld Z h0 a1 "java/lang/AbstractStringBuilder" "value" "[B" (.ref b)) (F_coder : Fld Z h0 a1 "java/lang/AbstractStringBuilder" "coder" "B" (.int (0 : Int32))) (V_b : Arv Z h0 b kb .byte (16 : Int32) (ys.map Value.int) (.int (0 : Int32))) (E_a2 : Exa Z h0 a2 "java/lang/String") (Fc_a2 : Fld Z h0 a2 "java/lang/String" "coder" "B" (.int (0 : Int32))) (Fv_a2 : Fld Z h0 a2 "java/lang/String" "value" "[B" (.ref t2)) (V_t2 : Arv Z h0 t2 k2 .byte (k.toInt32) (bs.map Value.int) (.int (0 : Int32))) (g_b : n0 ≤ b) (n1 : a2 ≠ b) (n2 : t2 ≠ b) (hy : ys.length = cn) (hbl : bs.length = k) (hck : cn + k ≤ 16) :
    MetFree l (⟨"java/lang/AbstractStringBuilder", "putStringAt", "(ILjava/lang/String;)V"⟩ : MethodName) (head1 (Jvm.Cond.code (⟨"java/lang/AbstractStringBuilder", "putStringAt", "(ILjava/lang/String;)V"⟩ : MethodName) jdk_68_method_73_code 3 none :: ws) room15) (fun aa_ U_ => aa_ = #[(.ref a1), (.int (cn.toInt32)), (.ref a2)] ∧ Z.Warmed39 U_.vm ∧ U_.heap = h0) (fun _ _ _ _ _ => True) (fun _ U_ o_ W_ => ∃ v_ L_, o_ = .returned v_ ∧ (Q15 Z b kb ys bs h0 n0) v_ W_.heap L_ ∧ FrameEnd U_ o_ W_ L_ room15.cells room15.slots) := by
  refine own_met (Q := (Q15 Z b kb ys bs h0 n0)) (L0 := #[.val (.ref a1), .val (.int (cn.toInt32)), .val (.ref a2)]) (plainFor_of_name pn_1) (fun m => by first | (simp [entryFrame, mkF, argsToLocals, Value.category]; done) | rfl) ?_
  intro p e s m below meth c T0 X0 hx hby hml hown hnm hret hlk hZ e0
  have N0 := Fr.nil n0
  have K0 := Keep.refl h0 [b]
  refine Go.st (T' := T0) (pc' := 1) (L' := #[.val (.ref a1), .val (.int (cn.toInt32)), .val (.ref a2)]) (S' := [(.ref a1)]) (fun t_ k_ => XS.aloadN X0.here hx rfl (hb hby d15_0) rfl rfl  k_) ?_
  refine Go.st (T' := T0) (pc' := 2) (L' := #[.val (.ref a1), .val (.int (cn.toInt32)), .val (.ref a2)]) (S' := [(.ref a2), (.ref a1)]) (fun t_ k_ => XS.aloadN X0.here hx rfl (hb hby d15_1) rfl rfl  k_) ?_
  obtain ⟨cq1, q1, q1'⟩ := E_a1.cell
  obtain ⟨_, _, ⟨T1, L1, k1, n1⟩, -, X1, ⟨Lc1, hQ1, l1, y1, z1⟩, st1⟩ := X0.privateBack hx (y := (⟨"java/lang/AbstractStringBuilder", "inflateIfNeededFor", "(Ljava/lang/String;)V"⟩ : MethodName)) hown (mvT hZ (hw _ (List.mem_of_getElem? (i := 98) rfl))) (mvT hZ (hw _ (List.mem_of_getElem? (i := 99) rfl))) (own_selP (Cond.privateMethod_at (mvP hZ (hw _ (List.mem_of_getElem? (i := 100) rfl)) (args := #[]))) (mvT hZ (hw _ (List.mem_of_getElem? (i := 99) rfl))) (by decide) (mvT hZ (hw _ (List.mem_of_getElem? (i := 101) rfl)))) (Cond.privateMethod_at (mvP hZ (hw _ (List.mem_of_getElem? (i := 100) rfl)) (args := #[]))) (mvT hZ (hw _ (List.mem_of_getElem? (i := 102) rfl))) (by decide) (backOf (W := 0) (rm16 l Z a0 hw [] a1 a2 gC h0 n0 Z0 SC PC O0 F_coder E_a2 Fc_a2) hZ (hw _ (List.mem_of_getElem? (i := 102) rfl)) (hw _ (List.mem_of_getElem? (i := 57) rfl)) (by decide) (by decide)) (g := (mkF m 2 #[.val (.ref a1), .val (.int (cn.toInt32)), .val (.ref a2)] [(.ref a2), (.ref a1)])) rfl (by rw [hml]; rfl) (Steps.refl _) (a := a1) (by rw [e0]; exact q1) q1' (argsL := [(.ref a2)]) (rest := []) (lenOf pd_2 rfl) rfl (by show 2 * 0 + _ ≤ _; exact Nat.le_of_eq rfl) (hb hby d15_2) (fun _ _ => ⟨rfl, e0, (by decide : 0 + 0 ≤ _), (by decide : 0 + 0 ≤ _)⟩)
  dsimp only [Pt.U, Pt.locs, Pt.cells, Pt.slots] at X1 l1 y1 z1 st1 hQ1
  subst l1 y1 z1
  obtain ⟨rfl, N1q, e1⟩ := hQ1
  have N1 := Fr.app N0 N1q
  refine Go.tr (T' := T1) (pc' := 5) (L' := #[.val (.ref a1), .val (.int (cn.toInt32)), .val (.ref a2)]) (S' := []) st1 ?_
  refine Go.st (T' := T1) (pc' := 6) (L' := #[.val (.ref a1), .val (.int (cn.toInt32)), .val (.ref a2)]) (S' := [(.ref a2)]) (fun t_ k_ => XS.aloadN X1.here hx rfl (hb hby d15_5) rfl rfl  k_) ?_
  refine Go.st (T' := T1) (pc' := 7) (L' := #[.val (.ref a1), .val (.int (cn.toInt32)), .val (.ref a2)]) (S' := [(.ref a1), (.ref a2)]) (fun t_ k_ => XS.aloadN X1.here hx rfl (hb hby d15_6) rfl rfl  k_) ?_
  obtain ⟨T2, X2, e2, st2⟩ := getF X1 hx hZ hown (host := "") (Or.inl (hw _ (List.mem_of_getElem? (i := 61) rfl))) Via.refl e1 F_value (g := (mkF m 7 #[.val (.ref a1), .val (.int (cn.toInt32)), .val (.ref a2)] [(.ref a1), (.ref a2)])) rfl rfl (hb hby d15_7)
  refine Go.st (T' := T2) (pc' := 10) (L' := #[.val (.ref a1), .val (.int (cn.toInt32)), .val (.ref a2)]) (S' := [(.ref b), (.ref a2)]) st2 ?_
  refine Go.st (T' := T2) (pc' := 11) (L' := #[.val (.ref a1), .val (.int (cn.toInt32)), .val (.ref a2)]) (S' := [(.int (cn.toInt32)), (.ref b), (.ref a2)]) (fun t_ k_ => XS.iloadN X2.here hx rfl (hb hby d15_10) rfl  k_) ?_
  refine Go.st (T' := T2) (pc' := 12) (L' := #[.val (.ref a1), .val (.int (cn.toInt32)), .val (.ref a2)]) (S' := [(.ref a1), (.int (cn.toInt32)), (.ref b), (.ref a2)]) (fun t_ k_ => XS.aloadN X2.here hx rfl (hb hby d15_11) rfl rfl  k_) ?_
  obtain ⟨T3, X3, e3, st3⟩ := getF X2 hx hZ hown (host := "") (Or.inl (hw _ (List.mem_of_getElem? (i := 63) rfl))) Via.refl e2 F_coder (g := (mkF m 12 #[.val (.ref a1), .val (.int (cn.toInt32)), .val (.ref a2)] [(.ref a1), (.int (cn.toInt32)), (.ref b), (.ref a2)])) rfl rfl (hb hby d15_12)
  refine Go.st (T' := T3) (pc' := 15) (L' := #[.val (.ref a1), .val (.int (cn.toInt32)), .val (.ref a2)]) (S' := [(.int (0 : Int32)), (.int (cn.toInt32)), (.ref b), (.ref a2)]) st3 ?_
  obtain ⟨cq4, kq4, q4a, q4b, q4c⟩ := isOf hZ e3 E_a2
  obtain ⟨_, _, ⟨T4, L4, k4, n4⟩, -, X4, ⟨Lc4, hQ4, l4, y4, z4⟩, st4⟩ := X3.virtualBack hx (y := (⟨"java/lang/String", "getBytes", "([BIB)V"⟩ : MethodName)) (z := (⟨"java/lang/String", "getBytes", "([BIB)V"⟩ : MethodName)) hown (mvT hZ (hw _ (List.mem_of_getElem? (i := 104) rfl))) (mvT hZ (hw _ (List.mem_of_getElem? (i := 105) rfl))) (notFace_of_selects (args := #[]) (mvT hZ (hw _ (List.mem_of_getElem? (i := 107) rfl)))) (mvT hZ (hw _ (List.mem_of_getElem? (i := 107) rfl))) (mvT hZ (hw _ (List.mem_of_getElem? (i := 106) rfl))) (by decide) (backOf (W := 0) (rm17 l Z a0 hw [] a2 t2 _ b _ _ (bs) (cn) (k) gC h0 n0 Z0 SC PC O0 E_a2 Fc_a2 Fv_a2 V_t2 V_b g_b n1 n2 hy hbl hck) hZ (hw _ (List.mem_of_getElem? (i := 108) rfl)) (hw _ (List.mem_of_getElem? (i := 6) rfl)) (by decide) (by decide)) q4a q4c (g := (mkF m 15 #[.val (.ref a1), .val (.int (cn.toInt32)), .val (.ref a2)] [(.int (0 : Int32)), (.int (cn.toInt32)), (.ref b), (.ref a2)])) rfl (by rw [hml]; rfl) (Steps.refl _) (argsL := [(.ref b), (.int (cn.toInt32)), (.int (0 : Int32))]) (rest := []) (lenOf pd_3 rfl) rfl (by show 2 * 0 + _ ≤ _; exact Nat.le_of_eq rfl) (hb hby d15_15) (fun _ _ => ⟨rfl, e3, (by decide : 0 + 0 ≤ _), (by decide : 0 + 0 ≤ _)⟩)
  dsimp only [Pt.U, Pt.locs, Pt.cells, Pt.slots] at X4 l4 y4 z4 st4 hQ4
  subst l4 y4 z4
  obtain ⟨rfl, N4q, K4, Vb4⟩ := hQ4
  have N4 := Fr.app N1 N4q
  obtain ⟨h4, e4⟩ : ∃ z, T4.heap = z := ⟨_, rfl⟩
  rw [e4] at K4 Vb4
  replace Z0 := Nat.le_trans Z0 K4.1
  replace K0 := K0.trans K4 (allS (Or.inl (List.mem_of_getElem? (i := 0) rfl)) all0)
  replace O0 := O0.keep K4 (allS g_b all0)
  replace F_value := F_value.keep K4 (ninS n3 nin0)
  replace F_coder := F_coder.keep K4 (ninS n3 nin0)
  replace E_a1 := E_a1.keep K4
  replace E_a2 := E_a2.keep K4
  replace Fc_a2 := Fc_a2.keep K4 (ninS n1 nin0)
  replace Fv_a2 := Fv_a2.keep K4 (ninS n1 nin0)
  replace V_t2 := V_t2.keep K4 (ninS n2 nin0)
  refine Go.tr (T' := T4) (pc' := 18) (L' := #[.val (.ref a1), .val (.int (cn.toInt32)), .val (.ref a2)]) (S' := []) st4 ?_
  exact Go.retV X4 hx hlk hret (hb hby d15_18) (by decide) (by decide) (by rw [e4]; exact ⟨rfl, N4, K0, Vb4⟩)
theorem d11_0 : decode jdk_68_method_22_code 0 = .ok (.aload_n 1, 1) := by decide +kernel
theorem d11_1 : decode jdk_68_method_22_code 1 = .ok (.ifnonnull 8, 3) := by decide +kernel
theorem d11_9 : decode jdk_68_method_22_code 9 = .ok (.aload_n 1, 1) := by decide +kernel
theorem d11_10 : decode jdk_68_method_22_code 10 = .ok (.invokevirtual 32, 3) := by decide +kernel
theorem d11_13 : decode jdk_68_method_22_code 13 = .ok (.istore_n 2, 1) := by decide +kernel
theorem d11_14 : decode jdk_68_method_22_code 14 = .ok (.aload_n 0, 1) := by decide +kernel
theorem d11_15 : decode jdk_68_method_22_code 15 = .ok (.aload_n 0, 1) := by decide +kernel
theorem d11_16 : decode jdk_68_method_22_code 16 = .ok (.getfield 79, 3) := by decide +kernel
theorem d11_19 : decode jdk_68_method_22_code 19 = .ok (.iload_n 2, 1) := by decide +kernel
theorem d11_20 : decode jdk_68_method_22_code 20 = .ok (.iadd, 1) := by decide +kernel
theorem d11_21 : decode jdk_68_method_22_code 21 = .ok (.invokevirtual 100, 3) := by decide +kernel
theorem d11_24 : decode jdk_68_method_22_code 24 = .ok (.aload_n 0, 1) := by decide +kernel
theorem d11_25 : decode jdk_68_method_22_code 25 = .ok (.aload_n 0, 1) := by decide +kernel
theorem d11_26 : decode jdk_68_method_22_code 26 = .ok (.getfield 79, 3) := by decide +kernel
theorem d11_29 : decode jdk_68_method_22_code 29 = .ok (.aload_n 1, 1) := by decide +kernel
theorem d11_30 : decode jdk_68_method_22_code 30 = .ok (.invokevirtual 208, 3) := by decide +kernel
theorem d11_33 : decode jdk_68_method_22_code 33 = .ok (.aload_n 0, 1) := by decide +kernel
theorem d11_34 : decode jdk_68_method_22_code 34 = .ok (.dup, 1) := by decide +kernel
theorem d11_35 : decode jdk_68_method_22_code 35 = .ok (.getfield 79, 3) := by decide +kernel
theorem d11_38 : decode jdk_68_method_22_code 38 = .ok (.iload_n 2, 1) := by decide +kernel
theorem d11_39 : decode jdk_68_method_22_code 39 = .ok (.iadd, 1) := by decide +kernel
theorem d11_40 : decode jdk_68_method_22_code 40 = .ok (.putfield 79, 3) := by decide +kernel
theorem d11_43 : decode jdk_68_method_22_code 43 = .ok (.aload_n 0, 1) := by decide +kernel
theorem d11_44 : decode jdk_68_method_22_code 44 = .ok (.areturn, 1) := by decide +kernel
theorem pd_4 : parseMethodDescriptor "()I" = some ⟨[], some .int⟩ := by decide +kernel
theorem pd_5 : parseMethodDescriptor "(I)V" = some ⟨[.int], none⟩ := by decide +kernel
theorem pd_6 : parseMethodDescriptor "(ILjava/lang/String;)V" = some ⟨[.int, (.object "java/lang/String")], none⟩ := by decide +kernel
def Q11 (Z : State) (a1 : Addr) (b : Addr) (kb : ClassId) (ys : List Int32) (bs : List Int32) (cn : Nat) (k : Nat) (h0 : Heap) (n0 : Nat) (v : Option Value) (h : Heap) (L : List Loc) : Prop := v = some (.ref a1) ∧ Fr n0 L ∧ Keep h0 h [a1, b] ∧ Fld Z h a1 "java/lang/AbstractStringBuilder" "value" "[B" (.ref b) ∧ Fld Z h a1 "java/lang/AbstractStringBuilder" "coder" "B" (.int (0 : Int32)) ∧ Fld Z h a1 "java/lang/AbstractStringBuilder" "count" "I" (.int ((cn + k).toInt32)) ∧ Arv Z h b kb .byte (16 : Int32) ((ys ++ bs).map Value.int) (.int (0 : Int32))
def room11 : Room := { frames := 3, cells := 0, slots := 0, locals := 69 }
set_option maxRecDepth 65536 in
set_option maxHeartbeats 40000000 in
theorem rm11 (l : Launch) (Z : State) (a0 : Array Value) (hw : ∀ d ∈ tables_1, d.before a0 Z = true) (ws : List Jvm.Cond) (a1 : Addr) (a2 : Addr) (t2 : Addr) (k2 : ClassId) (b : Addr) (kb : ClassId) (ys : List Int32) (bs : List Int32) (cn : Nat) (k : Nat) (gC : Int32) (h0 : Heap) (n0 : Nat) (Z0 : n0 ≤ h0.size) (SC : Sta Z Z.heap "java/lang/String" "COMPACT_STRINGS" "Z" (.int gC)) (PC : ¬ (gC = (0 : Int32))) (O0 : Old Z n0 h0) (E_a1 : Exa Z h0 a1 "java/lang/StringBuilder") (g_a1 : n0 ≤ a1) (n3 : a1 ≠ b) (F_value : Fld Z h0 a1 "java/lang/AbstractStringBuilder" "value" "[B" (.ref b)) (F_coder : Fld Z h0 a1 "java/lang/AbstractStringBuilder" "coder" "B" (.int (0 : Int32))) (V_b : Arv Z h0 b kb .byte (16 : Int32) (ys.map Value.int) (.int (0 : Int32))) (F_count : Fld Z h0 a1 "java/lang/AbstractStringBuilder" "count" "I" (.int (cn.toInt32))) (E_a2 : Exa Z h0 a2 "java/lang/String") (Fc_a2 : Fld Z h0 a2 "java/lang/String" "coder" "B" (.int (0 : Int32))) (Fv_a2 : Fld Z h0 a2 "java/lang/String" "value" "[B" (.ref t2)) (V_t2 : Arv Z h0 t2 k2 .byte (k.toInt32) (bs.map Value.int) (.int (0 : Int32))) (g_b : n0 ≤ b) (n1 : a2 ≠ b) (n2 : t2 ≠ b) (hy : ys.length = cn) (hbl : bs.length = k) (hck : cn + k ≤ 16) (n4 : a2 ≠ a1) (n5 : t2 ≠ a1) :
    MetFree l (⟨"java/lang/AbstractStringBuilder", "append", "(Ljava/lang/String;)Ljava/lang/AbstractStringBuilder;"⟩ : MethodName) (head1 (Jvm.Cond.code (⟨"java/lang/AbstractStringBuilder", "append", "(Ljava/lang/String;)Ljava/lang/AbstractStringBuilder;"⟩ : MethodName) jdk_68_method_22_code 3 (some (.object "java/lang/AbstractStringBuilder")) :: ws) room11) (fun aa_ U_ => aa_ = #[(.ref a1), (.ref a2)] ∧ Z.Warmed39 U_.vm ∧ U_.heap = h0) (fun _ _ _ _ _ => True) (fun _ U_ o_ W_ => ∃ v_ L_, o_ = .returned v_ ∧ (Q11 Z a1 b kb ys bs cn k h0 n0) v_ W_.heap L_ ∧ FrameEnd U_ o_ W_ L_ room11.cells room11.slots) := by
  refine own_met (Q := (Q11 Z a1 b kb ys bs cn k h0 n0)) (L0 := #[.val (.ref a1), .val (.ref a2), .unset]) (plainFor_of_name pn_1) (fun m => by first | (simp [entryFrame, mkF, argsToLocals, Value.category]; done) | rfl) ?_
  intro p e s m below meth c T0 X0 hx hby hml hown hnm hret hlk hZ e0
  have N0 := Fr.nil n0
  have K0 := Keep.refl h0 [a1, b]
  refine Go.st (T' := T0) (pc' := 1) (L' := #[.val (.ref a1), .val (.ref a2), .unset]) (S' := [(.ref a2)]) (fun t_ k_ => XS.aloadN X0.here hx rfl (hb hby d11_0) rfl rfl  k_) ?_
  refine Go.st (T' := T0) (pc' := 9) (L' := #[.val (.ref a1), .val (.ref a2), .unset]) (S' := []) (fun t_ k_ => XS.ifnonnullYes X0.here hx rfl (pc0 := 1) (pc' := 9) rfl (hb hby d11_1) rfl (by decide) (by decide) k_) ?_
  refine Go.st (T' := T0) (pc' := 10) (L' := #[.val (.ref a1), .val (.ref a2), .unset]) (S' := [(.ref a2)]) (fun t_ k_ => XS.aloadN X0.here hx rfl (hb hby d11_9) rfl rfl  k_) ?_
  obtain ⟨cq1, kq1, q1a, q1b, q1c⟩ := isOf hZ e0 E_a2
  obtain ⟨_, _, ⟨T1, L1, k1, n1⟩, -, X1, ⟨Lc1, hQ1, l1, y1, z1⟩, st1⟩ := X0.virtualBack hx (y := (⟨"java/lang/String", "length", "()I"⟩ : MethodName)) (z := (⟨"java/lang/String", "length", "()I"⟩ : MethodName)) hown (mvT hZ (hw _ (List.mem_of_getElem? (i := 75) rfl))) (mvT hZ (hw _ (List.mem_of_getElem? (i := 76) rfl))) (notFace_of_selects (args := #[]) (mvT hZ (hw _ (List.mem_of_getElem? (i := 78) rfl)))) (mvT hZ (hw _ (List.mem_of_getElem? (i := 78) rfl))) (mvT hZ (hw _ (List.mem_of_getElem? (i := 77) rfl))) (by decide) (backOf (W := 0) (rm12 l Z a0 hw [] a2 t2 _ gC (k.toInt32) (bs) h0 n0 Z0 SC PC O0 E_a2 Fc_a2 Fv_a2 V_t2) hZ (hw _ (List.mem_of_getElem? (i := 79) rfl)) (hw _ (List.mem_of_getElem? (i := 6) rfl)) (by decide) (by decide)) q1a q1c (g := (mkF m 10 #[.val (.ref a1), .val (.ref a2), .unset] [(.ref a2)])) rfl (by rw [hml]; rfl) (Steps.refl _) (argsL := []) (rest := []) (lenOf pd_4 rfl) rfl (by show 2 * 0 + _ ≤ _; exact Nat.le_of_eq rfl) (hb hby d11_10) (fun _ _ => ⟨rfl, e0, (by decide : 0 + 0 ≤ _), (by decide : 0 + 0 ≤ _)⟩)
  dsimp only [Pt.U, Pt.locs, Pt.cells, Pt.slots] at X1 l1 y1 z1 st1 hQ1
  subst l1 y1 z1
  obtain ⟨rfl, N1q, e1⟩ := hQ1
  have N1 := Fr.app N0 N1q
  refine Go.tr (T' := T1) (pc' := 13) (L' := #[.val (.ref a1), .val (.ref a2), .unset]) (S' := [(.int (k.toInt32))]) st1 ?_
  refine Go.st (T' := T1) (pc' := 14) (L' := #[.val (.ref a1), .val (.ref a2), .val (.int (k.toInt32))]) (S' := []) (fun t_ k_ => XS.istoreN X1.here hx rfl (hb hby d11_13) rfl (l' := #[.val (.ref a1), .val (.ref a2), .val (.int (k.toInt32))]) rfl k_) ?_
  refine Go.st (T' := T1) (pc' := 15) (L' := #[.val (.ref a1), .val (.ref a2), .val (.int (k.toInt32))]) (S' := [(.ref a1)]) (fun t_ k_ => XS.aloadN X1.here hx rfl (hb hby d11_14) rfl rfl  k_) ?_
  refine Go.st (T' := T1) (pc' := 16) (L' := #[.val (.ref a1), .val (.ref a2), .val (.int (k.toInt32))]) (S' := [(.ref a1), (.ref a1)]) (fun t_ k_ => XS.aloadN X1.here hx rfl (hb hby d11_15) rfl rfl  k_) ?_
  obtain ⟨T2, X2, e2, st2⟩ := getF X1 hx hZ hown (host := "") (Or.inl (hw _ (List.mem_of_getElem? (i := 86) rfl))) Via.refl e1 F_count (g := (mkF m 16 #[.val (.ref a1), .val (.ref a2), .val (.int (k.toInt32))] [(.ref a1), (.ref a1)])) rfl rfl (hb hby d11_16)
  refine Go.st (T' := T2) (pc' := 19) (L' := #[.val (.ref a1), .val (.ref a2), .val (.int (k.toInt32))]) (S' := [(.int (cn.toInt32)), (.ref a1)]) st2 ?_
  refine Go.st (T' := T2) (pc' := 20) (L' := #[.val (.ref a1), .val (.ref a2), .val (.int (k.toInt32))]) (S' := [(.int (k.toInt32)), (.int (cn.toInt32)), (.ref a1)]) (fun t_ k_ => XS.iloadN X2.here hx rfl (hb hby d11_19) rfl  k_) ?_
  refine Go.st (T' := T2) (pc' := 21) (L' := #[.val (.ref a1), .val (.ref a2), .val (.int (k.toInt32))]) (S' := [(.int ((cn.toInt32) + (k.toInt32))), (.ref a1)]) (fun t_ k_ => XS.iadd X2.here hx rfl (hb hby d11_20) rfl k_) ?_
  rw [own_addN (m := cn) (n := k) (by omega)]
  obtain ⟨cq3, q3, q3'⟩ := E_a1.cell
  obtain ⟨_, _, ⟨T3, L3, k3, n3⟩, -, X3, ⟨Lc3, hQ3, l3, y3, z3⟩, st3⟩ := X2.privateBack hx (y := (⟨"java/lang/AbstractStringBuilder", "ensureCapacityInternal", "(I)V"⟩ : MethodName)) hown (mvT hZ (hw _ (List.mem_of_getElem? (i := 88) rfl))) (mvT hZ (hw _ (List.mem_of_getElem? (i := 89) rfl))) (own_selP (Cond.privateMethod_at (mvP hZ (hw _ (List.mem_of_getElem? (i := 90) rfl)) (args := #[]))) (mvT hZ (hw _ (List.mem_of_getElem? (i := 89) rfl))) (by decide) (mvT hZ (hw _ (List.mem_of_getElem? (i := 91) rfl)))) (Cond.privateMethod_at (mvP hZ (hw _ (List.mem_of_getElem? (i := 90) rfl)) (args := #[]))) (mvT hZ (hw _ (List.mem_of_getElem? (i := 92) rfl))) (by decide) (backOf (W := 0) (rm14 l Z a0 hw [] a1 b _ _ ((cn + k)) h0 n0 Z0 F_value F_coder V_b (by omega)) hZ (hw _ (List.mem_of_getElem? (i := 92) rfl)) (hw _ (List.mem_of_getElem? (i := 57) rfl)) (by decide) (by decide)) (g := (mkF m 21 #[.val (.ref a1), .val (.ref a2), .val (.int (k.toInt32))] [(.int ((cn + k).toInt32)), (.ref a1)])) rfl (by rw [hml]; rfl) (Steps.refl _) (a := a1) (by rw [e2]; exact q3) q3' (argsL := [(.int ((cn + k).toInt32))]) (rest := []) (lenOf pd_5 rfl) rfl (by show 2 * 0 + _ ≤ _; exact Nat.le_of_eq rfl) (hb hby d11_21) (fun _ _ => ⟨rfl, e2, (by decide : 0 + 0 ≤ _), (by decide : 0 + 0 ≤ _)⟩)
  dsimp only [Pt.U, Pt.locs, Pt.cells, Pt.slots] at X3 l3 y3 z3 st3 hQ3
  subst l3 y3 z3
  obtain ⟨rfl, N3q, e3⟩ := hQ3
  have N3 := Fr.app N1 N3q
  refine Go.tr (T' := T3) (pc' := 24) (L' := #[.val (.ref a1), .val (.ref a2), .val (.int (k.toInt32))]) (S' := []) st3 ?_
  refine Go.st (T' := T3) (pc' := 25) (L' := #[.val (.ref a1), .val (.ref a2), .val (.int (k.toInt32))]) (S' := [(.ref a1)]) (fun t_ k_ => XS.aloadN X3.here hx rfl (hb hby d11_24) rfl rfl  k_) ?_
  refine Go.st (T' := T3) (pc' := 26) (L' := #[.val (.ref a1), .val (.ref a2), .val (.int (k.toInt32))]) (S' := [(.ref a1), (.ref a1)]) (fun t_ k_ => XS.aloadN X3.here hx rfl (hb hby d11_25) rfl rfl  k_) ?_
  obtain ⟨T4, X4, e4, st4⟩ := getF X3 hx hZ hown (host := "") (Or.inl (hw _ (List.mem_of_getElem? (i := 86) rfl))) Via.refl e3 F_count (g := (mkF m 26 #[.val (.ref a1), .val (.ref a2), .val (.int (k.toInt32))] [(.ref a1), (.ref a1)])) rfl rfl (hb hby d11_26)
  refine Go.st (T' := T4) (pc' := 29) (L' := #[.val (.ref a1), .val (.ref a2), .val (.int (k.toInt32))]) (S' := [(.int (cn.toInt32)), (.ref a1)]) st4 ?_
  refine Go.st (T' := T4) (pc' := 30) (L' := #[.val (.ref a1), .val (.ref a2), .val (.int (k.toInt32))]) (S' := [(.ref a2), (.int (cn.toInt32)), (.ref a1)]) (fun t_ k_ => XS.aloadN X4.here hx rfl (hb hby d11_29) rfl rfl  k_) ?_
  obtain ⟨cq5, q5, q5'⟩ := E_a1.cell
  obtain ⟨_, _, ⟨T5, L5, k5, n5⟩, -, X5, ⟨Lc5, hQ5, l5, y5, z5⟩, st5⟩ := X4.privateBack hx (y := (⟨"java/lang/AbstractStringBuilder", "putStringAt", "(ILjava/lang/String;)V"⟩ : MethodName)) hown (mvT hZ (hw _ (List.mem_of_getElem? (i := 93) rfl))) (mvT hZ (hw _ (List.mem_of_getElem? (i := 94) rfl))) (own_selP (Cond.privateMethod_at (mvP hZ (hw _ (List.mem_of_getElem? (i := 95) rfl)) (args := #[]))) (mvT hZ (hw _ (List.mem_of_getElem? (i := 94) rfl))) (by decide) (mvT hZ (hw _ (List.mem_of_getElem? (i := 96) rfl)))) (Cond.privateMethod_at (mvP hZ (hw _ (List.mem_of_getElem? (i := 95) rfl)) (args := #[]))) (mvT hZ (hw _ (List.mem_of_getElem? (i := 97) rfl))) (by decide) (backOf (W := 0) (rm15 l Z a0 hw [] a1 a2 t2 _ b _ _ (bs) (cn) (k) gC h0 n0 Z0 SC PC O0 E_a1 g_a1 n3 F_value F_coder V_b E_a2 Fc_a2 Fv_a2 V_t2 g_b n1 n2 hy hbl hck) hZ (hw _ (List.mem_of_getElem? (i := 97) rfl)) (hw _ (List.mem_of_getElem? (i := 57) rfl)) (by decide) (by decide)) (g := (mkF m 30 #[.val (.ref a1), .val (.ref a2), .val (.int (k.toInt32))] [(.ref a2), (.int (cn.toInt32)), (.ref a1)])) rfl (by rw [hml]; rfl) (Steps.refl _) (a := a1) (by rw [e4]; exact q5) q5' (argsL := [(.int (cn.toInt32)), (.ref a2)]) (rest := []) (lenOf pd_6 rfl) rfl (by show 2 * 0 + _ ≤ _; exact Nat.le_of_eq rfl) (hb hby d11_30) (fun _ _ => ⟨rfl, e4, (by decide : 0 + 0 ≤ _), (by decide : 0 + 0 ≤ _)⟩)
  dsimp only [Pt.U, Pt.locs, Pt.cells, Pt.slots] at X5 l5 y5 z5 st5 hQ5
  subst l5 y5 z5
  obtain ⟨rfl, N5q, K5, Vb5⟩ := hQ5
  have N5 := Fr.app N3 N5q
  obtain ⟨h5, e5⟩ : ∃ z, T5.heap = z := ⟨_, rfl⟩
  rw [e5] at K5 Vb5
  replace Z0 := Nat.le_trans Z0 K5.1
  replace K0 := K0.trans K5 (allS (Or.inl (List.mem_of_getElem? (i := 1) rfl)) all0)
  replace O0 := O0.keep K5 (allS g_b all0)
  replace F_value := F_value.keep K5 (ninS n3 nin0)
  replace F_coder := F_coder.keep K5 (ninS n3 nin0)
  replace E_a1 := E_a1.keep K5
  replace E_a2 := E_a2.keep K5
  replace Fc_a2 := Fc_a2.keep K5 (ninS n1 nin0)
  replace Fv_a2 := Fv_a2.keep K5 (ninS n1 nin0)
  replace V_t2 := V_t2.keep K5 (ninS n2 nin0)
  replace F_count := F_count.keep K5 (ninS n3 nin0)
  refine Go.tr (T' := T5) (pc' := 33) (L' := #[.val (.ref a1), .val (.ref a2), .val (.int (k.toInt32))]) (S' := []) st5 ?_
  refine Go.st (T' := T5) (pc' := 34) (L' := #[.val (.ref a1), .val (.ref a2), .val (.int (k.toInt32))]) (S' := [(.ref a1)]) (fun t_ k_ => XS.aloadN X5.here hx rfl (hb hby d11_33) rfl rfl  k_) ?_
  refine Go.st (T' := T5) (pc' := 35) (L' := #[.val (.ref a1), .val (.ref a2), .val (.int (k.toInt32))]) (S' := [(.ref a1), (.ref a1)]) (fun t_ k_ => XS.dup X5.here hx rfl (hb hby d11_34) rfl rfl k_) ?_
  obtain ⟨T6, X6, e6, st6⟩ := getF X5 hx hZ hown (host := "") (Or.inl (hw _ (List.mem_of_getElem? (i := 86) rfl))) Via.refl e5 F_count (g := (mkF m 35 #[.val (.ref a1), .val (.ref a2), .val (.int (k.toInt32))] [(.ref a1), (.ref a1)])) rfl rfl (hb hby d11_35)
  refine Go.st (T' := T6) (pc' := 38) (L' := #[.val (.ref a1), .val (.ref a2), .val (.int (k.toInt32))]) (S' := [(.int (cn.toInt32)), (.ref a1)]) st6 ?_
  refine Go.st (T' := T6) (pc' := 39) (L' := #[.val (.ref a1), .val (.ref a2), .val (.int (k.toInt32))]) (S' := [(.int (k.toInt32)), (.int (cn.toInt32)), (.ref a1)]) (fun t_ k_ => XS.iloadN X6.here hx rfl (hb hby d11_38) rfl  k_) ?_
  refine Go.st (T' := T6) (pc' := 40) (L' := #[.val (.ref a1), .val (.ref a2), .val (.int (k.toInt32))]) (S' := [(.int ((cn.toInt32) + (k.toInt32))), (.ref a1)]) (fun t_ k_ => XS.iadd X6.here hx rfl (hb hby d11_39) rfl k_) ?_
  rw [own_addN (m := cn) (n := k) (by omega)]
  obtain ⟨T7, h7, X7, e7, W7, st7⟩ := putF X6 hx hZ hown (host := "") (Or.inl (hw _ (List.mem_of_getElem? (i := 86) rfl))) Via.refl e6 F_count E_a1 (Or.inl (hw _ (List.mem_of_getElem? (i := 87) rfl))) (hw _ (List.mem_of_getElem? (i := 48) rfl)) (ty := .int) (by decide) rfl rfl (g := (mkF m 40 #[.val (.ref a1), .val (.ref a2), .val (.int (k.toInt32))] [(.int ((cn + k).toInt32)), (.ref a1)])) rfl rfl (hb hby d11_40)
  replace Z0 := Nat.le_trans Z0 (Keep.of_wr W7).1
  replace K0 := K0.wr W7 (Or.inl (List.mem_of_getElem? (i := 0) rfl))
  replace O0 := O0.wr W7 g_a1
  replace F_value := F_value.other W7 (Or.inr (slot_ne (Or.inl (hw _ (List.mem_of_getElem? (i := 62) rfl))) (Or.inl (hw _ (List.mem_of_getElem? (i := 87) rfl))) (by decide) (t := (.array .byte)) (t' := .int) (by decide) (by decide)))
  replace F_coder := F_coder.other W7 (Or.inr (slot_ne (Or.inl (hw _ (List.mem_of_getElem? (i := 64) rfl))) (Or.inl (hw _ (List.mem_of_getElem? (i := 87) rfl))) (by decide) (t := .byte) (t' := .int) (by decide) (by decide)))
  replace E_a1 := E_a1.wr W7
  replace E_a2 := E_a2.wr W7
  replace Fc_a2 := Fc_a2.other W7 (Or.inl n4)
  replace Fv_a2 := Fv_a2.other W7 (Or.inl n4)
  replace V_t2 := V_t2.other W7 n5
  replace Vb5 := Vb5.other W7 (Ne.symm n3)
  replace F_count := F_count.same W7
  have N7 := Fr.snoc X7 N5 g_a1
  refine Go.st (T' := T7) (pc' := 43) (L' := #[.val (.ref a1), .val (.ref a2), .val (.int (k.toInt32))]) (S' := []) st7 ?_
  refine Go.st (T' := T7) (pc' := 44) (L' := #[.val (.ref a1), .val (.ref a2), .val (.int (k.toInt32))]) (S' := [(.ref a1)]) (fun t_ k_ => XS.aloadN X7.here hx rfl (hb hby d11_43) rfl rfl  k_) ?_
  exact Go.retO X7 hx hlk hret rfl (by simp [FieldType.isReference, Value.isRef]) (hb hby d11_44) (by decide) (by decide) (by rw [e7]; exact ⟨rfl, N7, K0, F_value, F_coder, F_count, Vb5⟩)
theorem d10_0 : decode jdk_67_method_7_code 0 = .ok (.aload_n 0, 1) := by decide +kernel
theorem d10_1 : decode jdk_67_method_7_code 1 = .ok (.aload_n 1, 1) := by decide +kernel
theorem d10_2 : decode jdk_67_method_7_code 2 = .ok (.invokespecial 29, 3) := by decide +kernel
theorem d10_5 : decode jdk_67_method_7_code 5 = .ok (.pop, 1) := by decide +kernel
theorem d10_6 : decode jdk_67_method_7_code 6 = .ok (.aload_n 0, 1) := by decide +kernel
theorem d10_7 : decode jdk_67_method_7_code 7 = .ok (.areturn, 1) := by decide +kernel
theorem pd_7 : parseMethodDescriptor "(Ljava/lang/String;)Ljava/lang/AbstractStringBuilder;" = some ⟨[(.object "java/lang/String")], some (.object "java/lang/AbstractStringBuilder")⟩ := by decide +kernel
theorem pn_2 : plainName "java/lang/StringBuilder" = true := by first | (simp [plainName, overriddenIn]; done) | decide +kernel
def Q10 (Z : State) (a1 : Addr) (b : Addr) (kb : ClassId) (ys : List Int32) (bs : List Int32) (cn : Nat) (k : Nat) (h0 : Heap) (n0 : Nat) (v : Option Value) (h : Heap) (L : List Loc) : Prop := v = some (.ref a1) ∧ Fr n0 L ∧ Keep h0 h [a1, b] ∧ Fld Z h a1 "java/lang/AbstractStringBuilder" "value" "[B" (.ref b) ∧ Fld Z h a1 "java/lang/AbstractStringBuilder" "coder" "B" (.int (0 : Int32)) ∧ Fld Z h a1 "java/lang/AbstractStringBuilder" "count" "I" (.int ((cn + k).toInt32)) ∧ Arv Z h b kb .byte (16 : Int32) ((ys ++ bs).map Value.int) (.int (0 : Int32))
def room10 : Room := { frames := 4, cells := 0, slots := 0, locals := 83 }
set_option maxRecDepth 65536 in
set_option maxHeartbeats 40000000 in
theorem rm10 (l : Launch) (Z : State) (a0 : Array Value) (hw : ∀ d ∈ tables_1, d.before a0 Z = true) (ws : List Jvm.Cond) (a1 : Addr) (a2 : Addr) (t2 : Addr) (k2 : ClassId) (b : Addr) (kb : ClassId) (ys : List Int32) (bs : List Int32) (cn : Nat) (k : Nat) (gC : Int32) (h0 : Heap) (n0 : Nat) (Z0 : n0 ≤ h0.size) (SC : Sta Z Z.heap "java/lang/String" "COMPACT_STRINGS" "Z" (.int gC)) (PC : ¬ (gC = (0 : Int32))) (O0 : Old Z n0 h0) (E_a1 : Exa Z h0 a1 "java/lang/StringBuilder") (g_a1 : n0 ≤ a1) (n3 : a1 ≠ b) (F_value : Fld Z h0 a1 "java/lang/AbstractStringBuilder" "value" "[B" (.ref b)) (F_coder : Fld Z h0 a1 "java/lang/AbstractStringBuilder" "coder" "B" (.int (0 : Int32))) (V_b : Arv Z h0 b kb .byte (16 : Int32) (ys.map Value.int) (.int (0 : Int32))) (F_count : Fld Z h0 a1 "java/lang/AbstractStringBuilder" "count" "I" (.int (cn.toInt32))) (E_a2 : Exa Z h0 a2 "java/lang/String") (Fc_a2 : Fld Z h0 a2 "java/lang/String" "coder" "B" (.int (0 : Int32))) (Fv_a2 : Fld Z h0 a2 "java/lang/String" "value" "[B" (.ref t2)) (V_t2 : Arv Z h0 t2 k2 .byte (k.toInt32) (bs.map Value.int) (.int (0 : Int32))) (g_b : n0 ≤ b) (n1 : a2 ≠ b) (n2 : t2 ≠ b) (hy : ys.length = cn) (hbl : bs.length = k) (hck : cn + k ≤ 16) (n4 : a2 ≠ a1) (n5 : t2 ≠ a1) :
    MetFree l (⟨"java/lang/StringBuilder", "append", "(Ljava/lang/String;)Ljava/lang/StringBuilder;"⟩ : MethodName) (head1 (Jvm.Cond.code (⟨"java/lang/StringBuilder", "append", "(Ljava/lang/String;)Ljava/lang/StringBuilder;"⟩ : MethodName) jdk_67_method_7_code 2 (some (.object "java/lang/StringBuilder")) :: ws) room10) (fun aa_ U_ => aa_ = #[(.ref a1), (.ref a2)] ∧ Z.Warmed39 U_.vm ∧ U_.heap = h0) (fun _ _ _ _ _ => True) (fun _ U_ o_ W_ => ∃ v_ L_, o_ = .returned v_ ∧ (Q10 Z a1 b kb ys bs cn k h0 n0) v_ W_.heap L_ ∧ FrameEnd U_ o_ W_ L_ room10.cells room10.slots) := by
  refine own_met (Q := (Q10 Z a1 b kb ys bs cn k h0 n0)) (L0 := #[.val (.ref a1), .val (.ref a2)]) (plainFor_of_name pn_2) (fun m => by first | (simp [entryFrame, mkF, argsToLocals, Value.category]; done) | rfl) ?_
  intro p e s m below meth c T0 X0 hx hby hml hown hnm hret hlk hZ e0
  have N0 := Fr.nil n0
  have K0 := Keep.refl h0 [a1, b]
  refine Go.st (T' := T0) (pc' := 1) (L' := #[.val (.ref a1), .val (.ref a2)]) (S' := [(.ref a1)]) (fun t_ k_ => XS.aloadN X0.here hx rfl (hb hby d10_0) rfl rfl  k_) ?_
  refine Go.st (T' := T0) (pc' := 2) (L' := #[.val (.ref a1), .val (.ref a2)]) (S' := [(.ref a2), (.ref a1)]) (fun t_ k_ => XS.aloadN X0.here hx rfl (hb hby d10_1) rfl rfl  k_) ?_
  obtain ⟨_, _, ⟨T1, L1, k1, n1⟩, -, X1, ⟨Lc1, hQ1, l1, y1, z1⟩, st1⟩ := superBack X0 hx hZ (y := (⟨"java/lang/AbstractStringBuilder", "append", "(Ljava/lang/String;)Ljava/lang/AbstractStringBuilder;"⟩ : MethodName)) hown (hw _ (List.mem_of_getElem? (i := 70) rfl)) (own_same (y := (⟨"java/lang/AbstractStringBuilder", "append", "(Ljava/lang/String;)Ljava/lang/AbstractStringBuilder;"⟩ : MethodName)) (hw _ (List.mem_of_getElem? (i := 71) rfl)) (by decide) (hw _ (List.mem_of_getElem? (i := 91) rfl)) rfl) (hw _ (List.mem_of_getElem? (i := 71) rfl)) (hw _ (List.mem_of_getElem? (i := 72) rfl)) (by decide) (backOf (W := 0) (rm11 l Z a0 hw [] a1 a2 t2 _ b _ _ (bs) (cn) (k) gC h0 n0 Z0 SC PC O0 E_a1 g_a1 n3 F_value F_coder V_b F_count E_a2 Fc_a2 Fv_a2 V_t2 g_b n1 n2 hy hbl hck n4 n5) hZ (hw _ (List.mem_of_getElem? (i := 74) rfl)) (hw _ (List.mem_of_getElem? (i := 57) rfl)) (by decide) (by decide)) e0 (Ins.self E_a1) (g := (mkF m 2 #[.val (.ref a1), .val (.ref a2)] [(.ref a2), (.ref a1)])) rfl (by rw [hml]; rfl) (hw _ (List.mem_of_getElem? (i := 74) rfl)) (argsL := [(.ref a2)]) (rest := []) (lenOf pd_7 rfl) rfl (by show 2 * 0 + _ ≤ _; exact Nat.le_of_eq rfl) (hb hby d10_2) (fun _ _ => ⟨rfl, e0, (by decide : 0 + 0 ≤ _), (by decide : 0 + 0 ≤ _)⟩)
  dsimp only [Pt.U, Pt.locs, Pt.cells, Pt.slots] at X1 l1 y1 z1 st1 hQ1
  subst l1 y1 z1
  obtain ⟨rfl, N1q, K1, Fv1, Fd1, Fn1, Vb1⟩ := hQ1
  have N1 := Fr.app N0 N1q
  obtain ⟨h1, e1⟩ : ∃ z, T1.heap = z := ⟨_, rfl⟩
  rw [e1] at K1 Fv1 Fd1 Fn1 Vb1
  replace Z0 := Nat.le_trans Z0 K1.1
  replace K0 := K0.trans K1 (allS (Or.inl (List.mem_of_getElem? (i := 0) rfl)) (allS (Or.inl (List.mem_of_getElem? (i := 1) rfl)) all0))
  replace O0 := O0.keep K1 (allS g_a1 (allS g_b all0))
  replace E_a1 := E_a1.keep K1
  replace E_a2 := E_a2.keep K1
  replace Fc_a2 := Fc_a2.keep K1 (ninS n4 (ninS n1 nin0))
  replace Fv_a2 := Fv_a2.keep K1 (ninS n4 (ninS n1 nin0))
  replace V_t2 := V_t2.keep K1 (ninS n5 (ninS n2 nin0))
  refine Go.tr (T' := T1) (pc' := 5) (L' := #[.val (.ref a1), .val (.ref a2)]) (S' := [(.ref a1)]) st1 ?_
  refine Go.st (T' := T1) (pc' := 6) (L' := #[.val (.ref a1), .val (.ref a2)]) (S' := []) (fun t_ k_ => XS.pop X1.here hx rfl (hb hby d10_5) rfl rfl k_) ?_
  refine Go.st (T' := T1) (pc' := 7) (L' := #[.val (.ref a1), .val (.ref a2)]) (S' := [(.ref a1)]) (fun t_ k_ => XS.aloadN X1.here hx rfl (hb hby d10_6) rfl rfl  k_) ?_
  exact Go.retO X1 hx hlk hret rfl (by simp [FieldType.isReference, Value.isRef]) (hb hby d10_7) (by decide) (by decide) (by rw [e1]; exact ⟨rfl, N1, K0, Fv1, Fd1, Fn1, Vb1⟩)
theorem d24_0 : decode jdk_68_method_68_code 0 = .ok (.getstatic 18, 3) := by decide +kernel
theorem d24_3 : decode jdk_68_method_68_code 3 = .ok (.ifCond .eq 14, 3) := by decide +kernel
theorem d24_6 : decode jdk_68_method_68_code 6 = .ok (.aload_n 0, 1) := by decide +kernel
theorem d24_7 : decode jdk_68_method_68_code 7 = .ok (.getfield 22, 3) := by decide +kernel
theorem d24_10 : decode jdk_68_method_68_code 10 = .ok (.ifCond .ne 7, 3) := by decide +kernel
theorem d24_13 : decode jdk_68_method_68_code 13 = .ok (.iconst 1, 1) := by decide +kernel
theorem d24_14 : decode jdk_68_method_68_code 14 = .ok (.goto 4, 3) := by decide +kernel
theorem d24_18 : decode jdk_68_method_68_code 18 = .ok (.ireturn, 1) := by decide +kernel
def Q24 (Z : State) (a1 : Addr) (gC : Int32) (h0 : Heap) (n0 : Nat) (v : Option Value) (h : Heap) (L : List Loc) : Prop := v = some (.int 1) ∧ Fr n0 L ∧ h = h0
def room24 : Room := { frames := 0, cells := 0, slots := 0, locals := 0 }
set_option maxRecDepth 65536 in
set_option maxHeartbeats 40000000 in
theorem rm24 (l : Launch) (Z : State) (a0 : Array Value) (hw : ∀ d ∈ tables_1, d.before a0 Z = true) (ws : List Jvm.Cond) (a1 : Addr) (gC : Int32) (h0 : Heap) (n0 : Nat) (Z0 : n0 ≤ h0.size) (SC : Sta Z Z.heap "java/lang/String" "COMPACT_STRINGS" "Z" (.int gC)) (PC : ¬ (gC = (0 : Int32))) (O0 : Old Z n0 h0) (F_coder : Fld Z h0 a1 "java/lang/AbstractStringBuilder" "coder" "B" (.int (0 : Int32))) :
    MetFree l (⟨"java/lang/AbstractStringBuilder", "isLatin1", "()Z"⟩ : MethodName) (head1 (Jvm.Cond.code (⟨"java/lang/AbstractStringBuilder", "isLatin1", "()Z"⟩ : MethodName) jdk_68_method_68_code 1 (some .boolean) :: ws) room24) (fun aa_ U_ => aa_ = #[(.ref a1)] ∧ Z.Warmed39 U_.vm ∧ U_.heap = h0) (fun _ _ _ _ _ => True) (fun _ U_ o_ W_ => ∃ v_ L_, o_ = .returned v_ ∧ (Q24 Z a1 gC h0 n0) v_ W_.heap L_ ∧ FrameEnd U_ o_ W_ L_ room24.cells room24.slots) := by
  refine own_met (Q := (Q24 Z a1 gC h0 n0)) (L0 := #[.val (.ref a1)]) (plainFor_of_name pn_1) (fun m => by first | (simp [entryFrame, mkF, argsToLocals, Value.category]; done) | rfl) ?_
  intro p e s m below meth c T0 X0 hx hby hml hown hnm hret hlk hZ e0
  have N0 := Fr.nil n0
  obtain ⟨T1, X1, e1, st1⟩ := getS2 X0 hx hZ hown (host := "") (Or.inl (hw _ (List.mem_of_getElem? (i := 60) rfl))) Via.refl e0 (SC.ext O0.2) (g := (mkF m 0 #[.val (.ref a1)] [])) rfl (hb hby d24_0)
  refine Go.st (T' := T1) (pc' := 3) (L' := #[.val (.ref a1)]) (S' := [(.int gC)]) st1 ?_
  refine Go.st (T' := T1) (pc' := 6) (L' := #[.val (.ref a1)]) (S' := []) (fun t_ k_ => XS.ifNo X1.here hx rfl (hb hby d24_3) rfl ((if0 _ _).trans (feq (PC : ¬ (gC = (0 : Int32)))).1) k_) ?_
  refine Go.st (T' := T1) (pc' := 7) (L' := #[.val (.ref a1)]) (S' := [(.ref a1)]) (fun t_ k_ => XS.aloadN X1.here hx rfl (hb hby d24_6) rfl rfl  k_) ?_
  obtain ⟨T2, X2, e2, st2⟩ := getF X1 hx hZ hown (host := "") (Or.inl (hw _ (List.mem_of_getElem? (i := 63) rfl))) Via.refl e1 F_coder (g := (mkF m 7 #[.val (.ref a1)] [(.ref a1)])) rfl rfl (hb hby d24_7)
  refine Go.st (T' := T2) (pc' := 10) (L' := #[.val (.ref a1)]) (S' := [(.int (0 : Int32))]) st2 ?_
  refine Go.st (T' := T2) (pc' := 13) (L' := #[.val (.ref a1)]) (S' := []) (fun t_ k_ => XS.ifNo X2.here hx rfl (hb hby d24_10) rfl ((if0 _ _).trans (teq (by decide : ((0 : Int32) = (0 : Int32)))).2) k_) ?_
  refine Go.st (T' := T2) (pc' := 14) (L' := #[.val (.ref a1)]) (S' := [(.int (1 : Int32))]) (fun t_ k_ => XS.iconst X2.here hx rfl (hb hby d24_13) k_) ?_
  refine Go.st (T' := T2) (pc' := 18) (L' := #[.val (.ref a1)]) (S' := [(.int (1 : Int32))]) (fun t_ k_ => XS.goto X2.here hx rfl (pc0 := 14) (pc' := 18) rfl (hb hby d24_14) (by decide) (by decide) k_) ?_
  exact Go.retN X2 hx hlk hret (by simp) (hb hby d24_18) (by decide) (by decide) (by rw [e2]; exact ⟨rfl, N0, rfl⟩)
theorem d38_0 : decode jdk_68_method_26_code 0 = .ok (.aload_n 0, 1) := by decide +kernel
theorem d38_1 : decode jdk_68_method_26_code 1 = .ok (.aload_n 0, 1) := by decide +kernel
theorem d38_2 : decode jdk_68_method_26_code 2 = .ok (.getfield 79, 3) := by decide +kernel
theorem d38_5 : decode jdk_68_method_26_code 5 = .ok (.iconst 4, 1) := by decide +kernel
theorem d38_6 : decode jdk_68_method_26_code 6 = .ok (.iadd, 1) := by decide +kernel
theorem d38_7 : decode jdk_68_method_26_code 7 = .ok (.invokevirtual 100, 3) := by decide +kernel
theorem d38_10 : decode jdk_68_method_26_code 10 = .ok (.aload_n 0, 1) := by decide +kernel
theorem d38_11 : decode jdk_68_method_26_code 11 = .ok (.getfield 79, 3) := by decide +kernel
theorem d38_14 : decode jdk_68_method_26_code 14 = .ok (.istore_n 1, 1) := by decide +kernel
theorem d38_15 : decode jdk_68_method_26_code 15 = .ok (.aload_n 0, 1) := by decide +kernel
theorem d38_16 : decode jdk_68_method_26_code 16 = .ok (.getfield 15, 3) := by decide +kernel
theorem d38_19 : decode jdk_68_method_26_code 19 = .ok (.astore_n 2, 1) := by decide +kernel
theorem d38_20 : decode jdk_68_method_26_code 20 = .ok (.aload_n 0, 1) := by decide +kernel
theorem d38_21 : decode jdk_68_method_26_code 21 = .ok (.invokevirtual 83, 3) := by decide +kernel
theorem d38_24 : decode jdk_68_method_26_code 24 = .ok (.ifCond .eq 38, 3) := by decide +kernel
theorem d38_27 : decode jdk_68_method_26_code 27 = .ok (.aload_n 2, 1) := by decide +kernel
theorem d38_28 : decode jdk_68_method_26_code 28 = .ok (.iload_n 1, 1) := by decide +kernel
theorem d38_29 : decode jdk_68_method_26_code 29 = .ok (.iinc 1 1, 3) := by decide +kernel
theorem d38_32 : decode jdk_68_method_26_code 32 = .ok (.bipush 110, 2) := by decide +kernel
theorem d38_34 : decode jdk_68_method_26_code 34 = .ok (.bastore, 1) := by decide +kernel
theorem d38_35 : decode jdk_68_method_26_code 35 = .ok (.aload_n 2, 1) := by decide +kernel
theorem d38_36 : decode jdk_68_method_26_code 36 = .ok (.iload_n 1, 1) := by decide +kernel
theorem d38_37 : decode jdk_68_method_26_code 37 = .ok (.iinc 1 1, 3) := by decide +kernel
theorem d38_40 : decode jdk_68_method_26_code 40 = .ok (.bipush 117, 2) := by decide +kernel
theorem d38_42 : decode jdk_68_method_26_code 42 = .ok (.bastore, 1) := by decide +kernel
theorem d38_43 : decode jdk_68_method_26_code 43 = .ok (.aload_n 2, 1) := by decide +kernel
theorem d38_44 : decode jdk_68_method_26_code 44 = .ok (.iload_n 1, 1) := by decide +kernel
theorem d38_45 : decode jdk_68_method_26_code 45 = .ok (.iinc 1 1, 3) := by decide +kernel
theorem d38_48 : decode jdk_68_method_26_code 48 = .ok (.bipush 108, 2) := by decide +kernel
theorem d38_50 : decode jdk_68_method_26_code 50 = .ok (.bastore, 1) := by decide +kernel
theorem d38_51 : decode jdk_68_method_26_code 51 = .ok (.aload_n 2, 1) := by decide +kernel
theorem d38_52 : decode jdk_68_method_26_code 52 = .ok (.iload_n 1, 1) := by decide +kernel
theorem d38_53 : decode jdk_68_method_26_code 53 = .ok (.iinc 1 1, 3) := by decide +kernel
theorem d38_56 : decode jdk_68_method_26_code 56 = .ok (.bipush 108, 2) := by decide +kernel
theorem d38_58 : decode jdk_68_method_26_code 58 = .ok (.bastore, 1) := by decide +kernel
theorem d38_59 : decode jdk_68_method_26_code 59 = .ok (.goto 17, 3) := by decide +kernel
theorem d38_76 : decode jdk_68_method_26_code 76 = .ok (.aload_n 0, 1) := by decide +kernel
theorem d38_77 : decode jdk_68_method_26_code 77 = .ok (.iload_n 1, 1) := by decide +kernel
theorem d38_78 : decode jdk_68_method_26_code 78 = .ok (.putfield 79, 3) := by decide +kernel
theorem d38_81 : decode jdk_68_method_26_code 81 = .ok (.aload_n 0, 1) := by decide +kernel
theorem d38_82 : decode jdk_68_method_26_code 82 = .ok (.areturn, 1) := by decide +kernel
theorem pd_8 : parseMethodDescriptor "()Z" = some ⟨[], some .boolean⟩ := by decide +kernel
def Q38 (Z : State) (a1 : Addr) (b : Addr) (kb : ClassId) (ys : List Int32) (cn : Nat) (h0 : Heap) (n0 : Nat) (v : Option Value) (h : Heap) (L : List Loc) : Prop := v = some (.ref a1) ∧ Fr n0 L ∧ Keep h0 h [a1, b] ∧ Fld Z h a1 "java/lang/AbstractStringBuilder" "value" "[B" (.ref b) ∧ Fld Z h a1 "java/lang/AbstractStringBuilder" "coder" "B" (.int (0 : Int32)) ∧ Fld Z h a1 "java/lang/AbstractStringBuilder" "count" "I" (.int ((cn + 4).toInt32)) ∧ Arv Z h b kb .byte (16 : Int32) ((ys ++ ([110, 117, 108, 108] : List Int32)).map Value.int) (.int (0 : Int32))
def room38 : Room := { frames := 1, cells := 0, slots := 0, locals := 14 }
set_option maxRecDepth 65536 in
set_option maxHeartbeats 40000000 in
theorem rm38 (l : Launch) (Z : State) (a0 : Array Value) (hw : ∀ d ∈ tables_1, d.before a0 Z = true) (ws : List Jvm.Cond) (a1 : Addr) (b : Addr) (kb : ClassId) (ys : List Int32) (cn : Nat) (gC : Int32) (h0 : Heap) (n0 : Nat) (Z0 : n0 ≤ h0.size) (SC : Sta Z Z.heap "java/lang/String" "COMPACT_STRINGS" "Z" (.int gC)) (PC : ¬ (gC = (0 : Int32))) (O0 : Old Z n0 h0) (E_a1 : Exa Z h0 a1 "java/lang/StringBuilder") (g_a1 : n0 ≤ a1) (n3 : a1 ≠ b) (F_value : Fld Z h0 a1 "java/lang/AbstractStringBuilder" "value" "[B" (.ref b)) (F_coder : Fld Z h0 a1 "java/lang/AbstractStringBuilder" "coder" "B" (.int (0 : Int32))) (V_b : Arv Z h0 b kb .byte (16 : Int32) (ys.map Value.int) (.int (0 : Int32))) (F_count : Fld Z h0 a1 "java/lang/AbstractStringBuilder" "count" "I" (.int (cn.toInt32))) (g_b : n0 ≤ b) (hy : ys.length = cn) (hck : cn + 4 ≤ 16) :
    MetFree l (⟨"java/lang/AbstractStringBuilder", "appendNull", "()Ljava/lang/AbstractStringBuilder;"⟩ : MethodName) (head1 (Jvm.Cond.code (⟨"java/lang/AbstractStringBuilder", "appendNull", "()Ljava/lang/AbstractStringBuilder;"⟩ : MethodName) jdk_68_method_26_code 3 (some (.object "java/lang/AbstractStringBuilder")) :: ws) room38) (fun aa_ U_ => aa_ = #[(.ref a1)] ∧ Z.Warmed39 U_.vm ∧ U_.heap = h0) (fun _ _ _ _ _ => True) (fun _ U_ o_ W_ => ∃ v_ L_, o_ = .returned v_ ∧ (Q38 Z a1 b kb ys cn h0 n0) v_ W_.heap L_ ∧ FrameEnd U_ o_ W_ L_ room38.cells room38.slots) := by
  refine own_met (Q := (Q38 Z a1 b kb ys cn h0 n0)) (L0 := #[.val (.ref a1), .unset, .unset]) (plainFor_of_name pn_1) (fun m => by first | (simp [entryFrame, mkF, argsToLocals, Value.category]; done) | rfl) ?_
  intro p e s m below meth c T0 X0 hx hby hml hown hnm hret hlk hZ e0
  have N0 := Fr.nil n0
  have K0 := Keep.refl h0 [a1, b]
  refine Go.st (T' := T0) (pc' := 1) (L' := #[.val (.ref a1), .unset, .unset]) (S' := [(.ref a1)]) (fun t_ k_ => XS.aloadN X0.here hx rfl (hb hby d38_0) rfl rfl  k_) ?_
  refine Go.st (T' := T0) (pc' := 2) (L' := #[.val (.ref a1), .unset, .unset]) (S' := [(.ref a1), (.ref a1)]) (fun t_ k_ => XS.aloadN X0.here hx rfl (hb hby d38_1) rfl rfl  k_) ?_
  obtain ⟨T1, X1, e1, st1⟩ := getF X0 hx hZ hown (host := "") (Or.inl (hw _ (List.mem_of_getElem? (i := 86) rfl))) Via.refl e0 F_count (g := (mkF m 2 #[.val (.ref a1), .unset, .unset] [(.ref a1), (.ref a1)])) rfl rfl (hb hby d38_2)
  refine Go.st (T' := T1) (pc' := 5) (L' := #[.val (.ref a1), .unset, .unset]) (S' := [(.int (cn.toInt32)), (.ref a1)]) st1 ?_
  refine Go.st (T' := T1) (pc' := 6) (L' := #[.val (.ref a1), .unset, .unset]) (S' := [(.int (4 : Int32)), (.int (cn.toInt32)), (.ref a1)]) (fun t_ k_ => XS.iconst X1.here hx rfl (hb hby d38_5) k_) ?_
  refine Go.st (T' := T1) (pc' := 7) (L' := #[.val (.ref a1), .unset, .unset]) (S' := [(.int ((cn.toInt32) + (4 : Int32))), (.ref a1)]) (fun t_ k_ => XS.iadd X1.here hx rfl (hb hby d38_6) rfl k_) ?_
  rw [show (cn.toInt32) + (4 : Int32) = (cn + 4).toInt32 from own_addN (m := cn) (n := 4) (by omega)]
  obtain ⟨cq2, q2, q2'⟩ := E_a1.cell
  obtain ⟨_, _, ⟨T2, L2, k2, n2⟩, -, X2, ⟨Lc2, hQ2, l2, y2, z2⟩, st2⟩ := X1.privateBack hx (y := (⟨"java/lang/AbstractStringBuilder", "ensureCapacityInternal", "(I)V"⟩ : MethodName)) hown (mvT hZ (hw _ (List.mem_of_getElem? (i := 88) rfl))) (mvT hZ (hw _ (List.mem_of_getElem? (i := 89) rfl))) (own_selP (Cond.privateMethod_at (mvP hZ (hw _ (List.mem_of_getElem? (i := 90) rfl)) (args := #[]))) (mvT hZ (hw _ (List.mem_of_getElem? (i := 89) rfl))) (by decide) (mvT hZ (hw _ (List.mem_of_getElem? (i := 91) rfl)))) (Cond.privateMethod_at (mvP hZ (hw _ (List.mem_of_getElem? (i := 90) rfl)) (args := #[]))) (mvT hZ (hw _ (List.mem_of_getElem? (i := 92) rfl))) (by decide) (backOf (W := 0) (rm14 l Z a0 hw [] a1 b _ _ ((cn + 4)) h0 n0 Z0 F_value F_coder V_b (by omega)) hZ (hw _ (List.mem_of_getElem? (i := 92) rfl)) (hw _ (List.mem_of_getElem? (i := 57) rfl)) (by decide) (by decide)) (g := (mkF m 7 #[.val (.ref a1), .unset, .unset] [(.int ((cn + 4).toInt32)), (.ref a1)])) rfl (by rw [hml]; rfl) (Steps.refl _) (a := a1) (by rw [e1]; exact q2) q2' (argsL := [(.int ((cn + 4).toInt32))]) (rest := []) (lenOf pd_5 rfl) rfl (by show 2 * 0 + _ ≤ _; exact Nat.le_of_eq rfl) (hb hby d38_7) (fun _ _ => ⟨rfl, e1, (by decide : 0 + 0 ≤ _), (by decide : 0 + 0 ≤ _)⟩)
  dsimp only [Pt.U, Pt.locs, Pt.cells, Pt.slots] at X2 l2 y2 z2 st2 hQ2
  subst l2 y2 z2
  obtain ⟨rfl, N2q, e2⟩ := hQ2
  have N2 := Fr.app N0 N2q
  refine Go.tr (T' := T2) (pc' := 10) (L' := #[.val (.ref a1), .unset, .unset]) (S' := []) st2 ?_
  refine Go.st (T' := T2) (pc' := 11) (L' := #[.val (.ref a1), .unset, .unset]) (S' := [(.ref a1)]) (fun t_ k_ => XS.aloadN X2.here hx rfl (hb hby d38_10) rfl rfl  k_) ?_
  obtain ⟨T3, X3, e3, st3⟩ := getF X2 hx hZ hown (host := "") (Or.inl (hw _ (List.mem_of_getElem? (i := 86) rfl))) Via.refl e2 F_count (g := (mkF m 11 #[.val (.ref a1), .unset, .unset] [(.ref a1)])) rfl rfl (hb hby d38_11)
  refine Go.st (T' := T3) (pc' := 14) (L' := #[.val (.ref a1), .unset, .unset]) (S' := [(.int (cn.toInt32))]) st3 ?_
  refine Go.st (T' := T3) (pc' := 15) (L' := #[.val (.ref a1), .val (.int (cn.toInt32)), .unset]) (S' := []) (fun t_ k_ => XS.istoreN X3.here hx rfl (hb hby d38_14) rfl (l' := #[.val (.ref a1), .val (.int (cn.toInt32)), .unset]) rfl k_) ?_
  refine Go.st (T' := T3) (pc' := 16) (L' := #[.val (.ref a1), .val (.int (cn.toInt32)), .unset]) (S' := [(.ref a1)]) (fun t_ k_ => XS.aloadN X3.here hx rfl (hb hby d38_15) rfl rfl  k_) ?_
  obtain ⟨T4, X4, e4, st4⟩ := getF X3 hx hZ hown (host := "") (Or.inl (hw _ (List.mem_of_getElem? (i := 61) rfl))) Via.refl e3 F_value (g := (mkF m 16 #[.val (.ref a1), .val (.int (cn.toInt32)), .unset] [(.ref a1)])) rfl rfl (hb hby d38_16)
  refine Go.st (T' := T4) (pc' := 19) (L' := #[.val (.ref a1), .val (.int (cn.toInt32)), .unset]) (S' := [(.ref b)]) st4 ?_
  refine Go.st (T' := T4) (pc' := 20) (L' := #[.val (.ref a1), .val (.int (cn.toInt32)), .val (.ref b)]) (S' := []) (fun t_ k_ => XS.astoreN X4.here hx rfl (hb hby d38_19) rfl rfl (l' := #[.val (.ref a1), .val (.int (cn.toInt32)), .val (.ref b)]) rfl k_) ?_
  refine Go.st (T' := T4) (pc' := 21) (L' := #[.val (.ref a1), .val (.int (cn.toInt32)), .val (.ref b)]) (S' := [(.ref a1)]) (fun t_ k_ => XS.aloadN X4.here hx rfl (hb hby d38_20) rfl rfl  k_) ?_
  obtain ⟨cq5, kq5, q5a, q5b, q5c⟩ := isOf hZ e4 E_a1
  obtain ⟨_, _, ⟨T5, L5, k5, n5⟩, -, X5, ⟨Lc5, hQ5, l5, y5, z5⟩, st5⟩ := X4.virtualBack hx (y := (⟨"java/lang/AbstractStringBuilder", "isLatin1", "()Z"⟩ : MethodName)) (z := (⟨"java/lang/AbstractStringBuilder", "isLatin1", "()Z"⟩ : MethodName)) hown (mvT hZ (hw _ (List.mem_of_getElem? (i := 200) rfl))) (mvT hZ (hw _ (List.mem_of_getElem? (i := 140) rfl))) (notFace_of_selects (args := #[]) (mvT hZ (hw _ (List.mem_of_getElem? (i := 142) rfl)))) (mvT hZ (hw _ (List.mem_of_getElem? (i := 142) rfl))) (mvT hZ (hw _ (List.mem_of_getElem? (i := 141) rfl))) (by decide) (backOf (W := 0) (rm24 l Z a0 hw [] a1 gC h0 n0 Z0 SC PC O0 F_coder) hZ (hw _ (List.mem_of_getElem? (i := 143) rfl)) (hw _ (List.mem_of_getElem? (i := 57) rfl)) (by decide) (by decide)) q5a q5c (g := (mkF m 21 #[.val (.ref a1), .val (.int (cn.toInt32)), .val (.ref b)] [(.ref a1)])) rfl (by rw [hml]; rfl) (Steps.refl _) (argsL := []) (rest := []) (lenOf pd_8 rfl) rfl (by show 2 * 0 + _ ≤ _; exact Nat.le_of_eq rfl) (hb hby d38_21) (fun _ _ => ⟨rfl, e4, (by decide : 0 + 0 ≤ _), (by decide : 0 + 0 ≤ _)⟩)
  dsimp only [Pt.U, Pt.locs, Pt.cells, Pt.slots] at X5 l5 y5 z5 st5 hQ5
  subst l5 y5 z5
  obtain ⟨rfl, N5q, e5⟩ := hQ5
  have N5 := Fr.app N2 N5q
  refine Go.tr (T' := T5) (pc' := 24) (L' := #[.val (.ref a1), .val (.int (cn.toInt32)), .val (.ref b)]) (S' := [(.int (1 : Int32))]) st5 ?_
  refine Go.st (T' := T5) (pc' := 27) (L' := #[.val (.ref a1), .val (.int (cn.toInt32)), .val (.ref b)]) (S' := []) (fun t_ k_ => XS.ifNo X5.here hx rfl (hb hby d38_24) rfl ((if0 _ _).trans (feq (by decide : ¬ ((1 : Int32) = (0 : Int32)))).1) k_) ?_
  obtain ⟨zs, hzs⟩ : ∃ z : List Int32, z = ys ++ [0, 0, 0, 0] := ⟨_, rfl⟩
  replace V_b : Arv Z h0 b kb .byte (16 : Int32) (zs.map Value.int) (.int (0 : Int32)) := by rw [hzs, List.map_append]; exact V_b.pad (pad_rep _ _ 4)
  refine Go.st (T' := T5) (pc' := 28) (L' := #[.val (.ref a1), .val (.int (cn.toInt32)), .val (.ref b)]) (S' := [(.ref b)]) (fun t_ k_ => XS.aloadN X5.here hx rfl (hb hby d38_27) rfl rfl  k_) ?_
  refine Go.st (T' := T5) (pc' := 29) (L' := #[.val (.ref a1), .val (.int (cn.toInt32)), .val (.ref b)]) (S' := [(.int (cn.toInt32)), (.ref b)]) (fun t_ k_ => XS.iloadN X5.here hx rfl (hb hby d38_28) rfl  k_) ?_
  refine Go.st (T' := T5) (pc' := 32) (L' := #[.val (.ref a1), .val (.int ((cn.toInt32) + (1 : Int32))), .val (.ref b)]) (S' := [(.int (cn.toInt32)), (.ref b)]) (fun t_ k_ => XS.iinc X5.here hx rfl (hb hby d38_29) rfl (l' := #[.val (.ref a1), .val (.int ((cn.toInt32) + (1 : Int32))), .val (.ref b)]) rfl k_) ?_
  rw [show (cn).toInt32 + (1 : Int32) = (cn + 1).toInt32 from own_next (by omega)]
  refine Go.st (T' := T5) (pc' := 34) (L' := #[.val (.ref a1), .val (.int ((cn + 1).toInt32)), .val (.ref b)]) (S' := [(.int (110 : Int32)), (.int (cn.toInt32)), (.ref b)]) (fun t_ k_ => XS.bipush X5.here hx rfl (hb hby d38_32) k_) ?_
  obtain ⟨cl6, Ar6, q61, q62, q63, q64, q65⟩ := V_b
  obtain ⟨T6, h6, X6, e6, W6, st6⟩ := stB X5 hx hZ e5 Ar6 (j := (cn.toInt32)) (own_inb q62 (N := 16) (by decide) (by omega) (by decide)) (g := (mkF m 34 #[.val (.ref a1), .val (.int ((cn + 1).toInt32)), .val (.ref b)] [(.int (110 : Int32)), (.int (cn.toInt32)), (.ref b)])) rfl rfl (hb hby d38_34)
  replace V_b := Arv.set Ar6 q61 q62 q63 q64 q65 (fits_nar_byte _) W6 (cn) (own_tn (by omega)) (by rw [List.length_map, show List.length zs = cn + 4 from (by rw [hzs]; simp [hy])]; omega)
  rw [own_setI] at V_b
  replace Z0 := Nat.le_trans Z0 (Keep.of_wr W6).1
  replace K0 := K0.wr W6 (Or.inl (List.mem_of_getElem? (i := 1) rfl))
  replace O0 := O0.wr W6 g_b
  replace F_value := F_value.other W6 (Or.inl n3)
  replace F_coder := F_coder.other W6 (Or.inl n3)
  replace E_a1 := E_a1.wr W6
  replace F_count := F_count.other W6 (Or.inl n3)
  have N6 := Fr.snoc X6 N5 g_b
  refine Go.st (T' := T6) (pc' := 35) (L' := #[.val (.ref a1), .val (.int ((cn + 1).toInt32)), .val (.ref b)]) (S' := []) st6 ?_
  refine Go.st (T' := T6) (pc' := 36) (L' := #[.val (.ref a1), .val (.int ((cn + 1).toInt32)), .val (.ref b)]) (S' := [(.ref b)]) (fun t_ k_ => XS.aloadN X6.here hx rfl (hb hby d38_35) rfl rfl  k_) ?_
  refine Go.st (T' := T6) (pc' := 37) (L' := #[.val (.ref a1), .val (.int ((cn + 1).toInt32)), .val (.ref b)]) (S' := [(.int ((cn + 1).toInt32)), (.ref b)]) (fun t_ k_ => XS.iloadN X6.here hx rfl (hb hby d38_36) rfl  k_) ?_
  refine Go.st (T' := T6) (pc' := 40) (L' := #[.val (.ref a1), .val (.int (((cn + 1).toInt32) + (1 : Int32))), .val (.ref b)]) (S' := [(.int ((cn + 1).toInt32)), (.ref b)]) (fun t_ k_ => XS.iinc X6.here hx rfl (hb hby d38_37) rfl (l' := #[.val (.ref a1), .val (.int (((cn + 1).toInt32) + (1 : Int32))), .val (.ref b)]) rfl k_) ?_
  rw [show (cn + 1).toInt32 + (1 : Int32) = (cn + 1 + 1).toInt32 from own_next (by omega)]
  refine Go.st (T' := T6) (pc' := 42) (L' := #[.val (.ref a1), .val (.int ((cn + 1 + 1).toInt32)), .val (.ref b)]) (S' := [(.int (117 : Int32)), (.int ((cn + 1).toInt32)), (.ref b)]) (fun t_ k_ => XS.bipush X6.here hx rfl (hb hby d38_40) k_) ?_
  obtain ⟨cl7, Ar7, q71, q72, q73, q74, q75⟩ := V_b
  obtain ⟨T7, h7, X7, e7, W7, st7⟩ := stB X6 hx hZ e6 Ar7 (j := ((cn + 1).toInt32)) (own_inb q72 (N := 16) (by decide) (by omega) (by decide)) (g := (mkF m 42 #[.val (.ref a1), .val (.int ((cn + 1 + 1).toInt32)), .val (.ref b)] [(.int (117 : Int32)), (.int ((cn + 1).toInt32)), (.ref b)])) rfl rfl (hb hby d38_42)
  replace V_b := Arv.set Ar7 q71 q72 q73 q74 q75 (fits_nar_byte _) W7 ((cn + 1)) (own_tn (by omega)) (by rw [List.length_map, show List.length (zs.set (cn) ((110 : Int32).toInt8.toInt32)) = cn + 4 from (by rw [List.length_set]; exact (by rw [hzs]; simp [hy]))]; omega)
  rw [own_setI] at V_b
  replace Z0 := Nat.le_trans Z0 (Keep.of_wr W7).1
  replace K0 := K0.wr W7 (Or.inl (List.mem_of_getElem? (i := 1) rfl))
  replace O0 := O0.wr W7 g_b
  replace F_value := F_value.other W7 (Or.inl n3)
  replace F_coder := F_coder.other W7 (Or.inl n3)
  replace E_a1 := E_a1.wr W7
  replace F_count := F_count.other W7 (Or.inl n3)
  have N7 := Fr.snoc X7 N6 g_b
  refine Go.st (T' := T7) (pc' := 43) (L' := #[.val (.ref a1), .val (.int ((cn + 1 + 1).toInt32)), .val (.ref b)]) (S' := []) st7 ?_
  refine Go.st (T' := T7) (pc' := 44) (L' := #[.val (.ref a1), .val (.int ((cn + 1 + 1).toInt32)), .val (.ref b)]) (S' := [(.ref b)]) (fun t_ k_ => XS.aloadN X7.here hx rfl (hb hby d38_43) rfl rfl  k_) ?_
  refine Go.st (T' := T7) (pc' := 45) (L' := #[.val (.ref a1), .val (.int ((cn + 1 + 1).toInt32)), .val (.ref b)]) (S' := [(.int ((cn + 1 + 1).toInt32)), (.ref b)]) (fun t_ k_ => XS.iloadN X7.here hx rfl (hb hby d38_44) rfl  k_) ?_
  refine Go.st (T' := T7) (pc' := 48) (L' := #[.val (.ref a1), .val (.int (((cn + 1 + 1).toInt32) + (1 : Int32))), .val (.ref b)]) (S' := [(.int ((cn + 1 + 1).toInt32)), (.ref b)]) (fun t_ k_ => XS.iinc X7.here hx rfl (hb hby d38_45) rfl (l' := #[.val (.ref a1), .val (.int (((cn + 1 + 1).toInt32) + (1 : Int32))), .val (.ref b)]) rfl k_) ?_
  rw [show (cn + 1 + 1).toInt32 + (1 : Int32) = (cn + 1 + 1 + 1).toInt32 from own_next (by omega)]
  refine Go.st (T' := T7) (pc' := 50) (L' := #[.val (.ref a1), .val (.int ((cn + 1 + 1 + 1).toInt32)), .val (.ref b)]) (S' := [(.int (108 : Int32)), (.int ((cn + 1 + 1).toInt32)), (.ref b)]) (fun t_ k_ => XS.bipush X7.here hx rfl (hb hby d38_48) k_) ?_
  obtain ⟨cl8, Ar8, q81, q82, q83, q84, q85⟩ := V_b
  obtain ⟨T8, h8, X8, e8, W8, st8⟩ := stB X7 hx hZ e7 Ar8 (j := ((cn + 1 + 1).toInt32)) (own_inb q82 (N := 16) (by decide) (by omega) (by decide)) (g := (mkF m 50 #[.val (.ref a1), .val (.int ((cn + 1 + 1 + 1).toInt32)), .val (.ref b)] [(.int (108 : Int32)), (.int ((cn + 1 + 1).toInt32)), (.ref b)])) rfl rfl (hb hby d38_50)
  replace V_b := Arv.set Ar8 q81 q82 q83 q84 q85 (fits_nar_byte _) W8 ((cn + 1 + 1)) (own_tn (by omega)) (by rw [List.length_map, show List.length ((zs.set (cn) ((110 : Int32).toInt8.toInt32)).set ((cn + 1)) ((117 : Int32).toInt8.toInt32)) = cn + 4 from (by rw [List.length_set]; exact (by rw [List.length_set]; exact (by rw [hzs]; simp [hy])))]; omega)
  rw [own_setI] at V_b
  replace Z0 := Nat.le_trans Z0 (Keep.of_wr W8).1
  replace K0 := K0.wr W8 (Or.inl (List.mem_of_getElem? (i := 1) rfl))
  replace O0 := O0.wr W8 g_b
  replace F_value := F_value.other W8 (Or.inl n3)
  replace F_coder := F_coder.other W8 (Or.inl n3)
  replace E_a1 := E_a1.wr W8
  replace F_count := F_count.other W8 (Or.inl n3)
  have N8 := Fr.snoc X8 N7 g_b
  refine Go.st (T' := T8) (pc' := 51) (L' := #[.val (.ref a1), .val (.int ((cn + 1 + 1 + 1).toInt32)), .val (.ref b)]) (S' := []) st8 ?_
  refine Go.st (T' := T8) (pc' := 52) (L' := #[.val (.ref a1), .val (.int ((cn + 1 + 1 + 1).toInt32)), .val (.ref b)]) (S' := [(.ref b)]) (fun t_ k_ => XS.aloadN X8.here hx rfl (hb hby d38_51) rfl rfl  k_) ?_
  refine Go.st (T' := T8) (pc' := 53) (L' := #[.val (.ref a1), .val (.int ((cn + 1 + 1 + 1).toInt32)), .val (.ref b)]) (S' := [(.int ((cn + 1 + 1 + 1).toInt32)), (.ref b)]) (fun t_ k_ => XS.iloadN X8.here hx rfl (hb hby d38_52) rfl  k_) ?_
  refine Go.st (T' := T8) (pc' := 56) (L' := #[.val (.ref a1), .val (.int (((cn + 1 + 1 + 1).toInt32) + (1 : Int32))), .val (.ref b)]) (S' := [(.int ((cn + 1 + 1 + 1).toInt32)), (.ref b)]) (fun t_ k_ => XS.iinc X8.here hx rfl (hb hby d38_53) rfl (l' := #[.val (.ref a1), .val (.int (((cn + 1 + 1 + 1).toInt32) + (1 : Int32))), .val (.ref b)]) rfl k_) ?_
  rw [show (cn + 1 + 1 + 1).toInt32 + (1 : Int32) = (cn + 1 + 1 + 1 + 1).toInt32 from own_next (by omega)]
  refine Go.st (T' := T8) (pc' := 58) (L' := #[.val (.ref a1), .val (.int ((cn + 1 + 1 + 1 + 1).toInt32)), .val (.ref b)]) (S' := [(.int (108 : Int32)), (.int ((cn + 1 + 1 + 1).toInt32)), (.ref b)]) (fun t_ k_ => XS.bipush X8.here hx rfl (hb hby d38_56) k_) ?_
  obtain ⟨cl9, Ar9, q91, q92, q93, q94, q95⟩ := V_b
  obtain ⟨T9, h9, X9, e9, W9, st9⟩ := stB X8 hx hZ e8 Ar9 (j := ((cn + 1 + 1 + 1).toInt32)) (own_inb q92 (N := 16) (by decide) (by omega) (by decide)) (g := (mkF m 58 #[.val (.ref a1), .val (.int ((cn + 1 + 1 + 1 + 1).toInt32)), .val (.ref b)] [(.int (108 : Int32)), (.int ((cn + 1 + 1 + 1).toInt32)), (.ref b)])) rfl rfl (hb hby d38_58)
  replace V_b := Arv.set Ar9 q91 q92 q93 q94 q95 (fits_nar_byte _) W9 ((cn + 1 + 1 + 1)) (own_tn (by omega)) (by rw [List.length_map, show List.length (((zs.set (cn) ((110 : Int32).toInt8.toInt32)).set ((cn + 1)) ((117 : Int32).toInt8.toInt32)).set ((cn + 1 + 1)) ((108 : Int32).toInt8.toInt32)) = cn + 4 from (by rw [List.length_set]; exact (by rw [List.length_set]; exact (by rw [List.length_set]; exact (by rw [hzs]; simp [hy]))))]; omega)
  rw [own_setI] at V_b
  replace Z0 := Nat.le_trans Z0 (Keep.of_wr W9).1
  replace K0 := K0.wr W9 (Or.inl (List.mem_of_getElem? (i := 1) rfl))
  replace O0 := O0.wr W9 g_b
  replace F_value := F_value.other W9 (Or.inl n3)
  replace F_coder := F_coder.other W9 (Or.inl n3)
  replace E_a1 := E_a1.wr W9
  replace F_count := F_count.other W9 (Or.inl n3)
  have N9 := Fr.snoc X9 N8 g_b
  refine Go.st (T' := T9) (pc' := 59) (L' := #[.val (.ref a1), .val (.int ((cn + 1 + 1 + 1 + 1).toInt32)), .val (.ref b)]) (S' := []) st9 ?_
  refine Go.st (T' := T9) (pc' := 76) (L' := #[.val (.ref a1), .val (.int ((cn + 1 + 1 + 1 + 1).toInt32)), .val (.ref b)]) (S' := []) (fun t_ k_ => XS.goto X9.here hx rfl (pc0 := 59) (pc' := 76) rfl (hb hby d38_59) (by decide) (by decide) k_) ?_
  rw [hzs, own_null hy] at V_b
  rw [show (cn + 1 + 1 + 1 + 1) = cn + 4 from rfl]
  refine Go.st (T' := T9) (pc' := 77) (L' := #[.val (.ref a1), .val (.int ((cn + 4).toInt32)), .val (.ref b)]) (S' := [(.ref a1)]) (fun t_ k_ => XS.aloadN X9.here hx rfl (hb hby d38_76) rfl rfl  k_) ?_
  refine Go.st (T' := T9) (pc' := 78) (L' := #[.val (.ref a1), .val (.int ((cn + 4).toInt32)), .val (.ref b)]) (S' := [(.int ((cn + 4).toInt32)), (.ref a1)]) (fun t_ k_ => XS.iloadN X9.here hx rfl (hb hby d38_77) rfl  k_) ?_
  obtain ⟨T10, h10, X10, e10, W10, st10⟩ := putF X9 hx hZ hown (host := "") (Or.inl (hw _ (List.mem_of_getElem? (i := 86) rfl))) Via.refl e9 F_count E_a1 (Or.inl (hw _ (List.mem_of_getElem? (i := 87) rfl))) (hw _ (List.mem_of_getElem? (i := 48) rfl)) (ty := .int) (by decide) rfl rfl (g := (mkF m 78 #[.val (.ref a1), .val (.int ((cn + 4).toInt32)), .val (.ref b)] [(.int ((cn + 4).toInt32)), (.ref a1)])) rfl rfl (hb hby d38_78)
  replace Z0 := Nat.le_trans Z0 (Keep.of_wr W10).1
  replace K0 := K0.wr W10 (Or.inl (List.mem_of_getElem? (i := 0) rfl))
  replace O0 := O0.wr W10 g_a1
  replace F_value := F_value.other W10 (Or.inr (slot_ne (Or.inl (hw _ (List.mem_of_getElem? (i := 62) rfl))) (Or.inl (hw _ (List.mem_of_getElem? (i := 87) rfl))) (by decide) (t := (.array .byte)) (t' := .int) (by decide) (by decide)))
  replace F_coder := F_coder.other W10 (Or.inr (slot_ne (Or.inl (hw _ (List.mem_of_getElem? (i := 64) rfl))) (Or.inl (hw _ (List.mem_of_getElem? (i := 87) rfl))) (by decide) (t := .byte) (t' := .int) (by decide) (by decide)))
  replace V_b := V_b.other W10 (Ne.symm n3)
  replace E_a1 := E_a1.wr W10
  replace F_count := F_count.same W10
  have N10 := Fr.snoc X10 N9 g_a1
  refine Go.st (T' := T10) (pc' := 81) (L' := #[.val (.ref a1), .val (.int ((cn + 4).toInt32)), .val (.ref b)]) (S' := []) st10 ?_
  refine Go.st (T' := T10) (pc' := 82) (L' := #[.val (.ref a1), .val (.int ((cn + 4).toInt32)), .val (.ref b)]) (S' := [(.ref a1)]) (fun t_ k_ => XS.aloadN X10.here hx rfl (hb hby d38_81) rfl rfl  k_) ?_
  exact Go.retO X10 hx hlk hret rfl (by simp [FieldType.isReference, Value.isRef]) (hb hby d38_82) (by decide) (by decide) (by rw [e10]; exact ⟨rfl, N10, K0, F_value, F_coder, F_count, V_b⟩)
theorem d11_4 : decode jdk_68_method_22_code 4 = .ok (.aload_n 0, 1) := by decide +kernel
theorem d11_5 : decode jdk_68_method_22_code 5 = .ok (.invokevirtual 204, 3) := by decide +kernel
theorem d11_8 : decode jdk_68_method_22_code 8 = .ok (.areturn, 1) := by decide +kernel
theorem pd_9 : parseMethodDescriptor "()Ljava/lang/AbstractStringBuilder;" = some ⟨[], some (.object "java/lang/AbstractStringBuilder")⟩ := by decide +kernel
def QappN (Z : State) (a1 : Addr) (b : Addr) (kb : ClassId) (ys : List Int32) (cn : Nat) (h0 : Heap) (n0 : Nat) (v : Option Value) (h : Heap) (L : List Loc) : Prop := v = some (.ref a1) ∧ Fr n0 L ∧ Keep h0 h [a1, b] ∧ Fld Z h a1 "java/lang/AbstractStringBuilder" "value" "[B" (.ref b) ∧ Fld Z h a1 "java/lang/AbstractStringBuilder" "coder" "B" (.int (0 : Int32)) ∧ Fld Z h a1 "java/lang/AbstractStringBuilder" "count" "I" (.int ((cn + 4).toInt32)) ∧ Arv Z h b kb .byte (16 : Int32) ((ys ++ ([110, 117, 108, 108] : List Int32)).map Value.int) (.int (0 : Int32))
def roomappN : Room := { frames := 2, cells := 0, slots := 0, locals := 28 }
set_option maxRecDepth 65536 in
set_option maxHeartbeats 40000000 in
theorem rmappN (l : Launch) (Z : State) (a0 : Array Value) (hw : ∀ d ∈ tables_1, d.before a0 Z = true) (ws : List Jvm.Cond) (a1 : Addr) (b : Addr) (kb : ClassId) (ys : List Int32) (cn : Nat) (gC : Int32) (h0 : Heap) (n0 : Nat) (Z0 : n0 ≤ h0.size) (SC : Sta Z Z.heap "java/lang/String" "COMPACT_STRINGS" "Z" (.int gC)) (PC : ¬ (gC = (0 : Int32))) (O0 : Old Z n0 h0) (E_a1 : Exa Z h0 a1 "java/lang/StringBuilder") (g_a1 : n0 ≤ a1) (n3 : a1 ≠ b) (F_value : Fld Z h0 a1 "java/lang/AbstractStringBuilder" "value" "[B" (.ref b)) (F_coder : Fld Z h0 a1 "java/lang/AbstractStringBuilder" "coder" "B" (.int (0 : Int32))) (V_b : Arv Z h0 b kb .byte (16 : Int32) (ys.map Value.int) (.int (0 : Int32))) (F_count : Fld Z h0 a1 "java/lang/AbstractStringBuilder" "count" "I" (.int (cn.toInt32))) (g_b : n0 ≤ b) (hy : ys.length = cn) (hck : cn + 4 ≤ 16) :
    MetFree l (⟨"java/lang/AbstractStringBuilder", "append", "(Ljava/lang/String;)Ljava/lang/AbstractStringBuilder;"⟩ : MethodName) (head1 (Jvm.Cond.code (⟨"java/lang/AbstractStringBuilder", "append", "(Ljava/lang/String;)Ljava/lang/AbstractStringBuilder;"⟩ : MethodName) jdk_68_method_22_code 3 (some (.object "java/lang/AbstractStringBuilder")) :: ws) roomappN) (fun aa_ U_ => aa_ = #[(.ref a1), .null] ∧ Z.Warmed39 U_.vm ∧ U_.heap = h0) (fun _ _ _ _ _ => True) (fun _ U_ o_ W_ => ∃ v_ L_, o_ = .returned v_ ∧ (QappN Z a1 b kb ys cn h0 n0) v_ W_.heap L_ ∧ FrameEnd U_ o_ W_ L_ roomappN.cells roomappN.slots) := by
  refine own_met (Q := (QappN Z a1 b kb ys cn h0 n0)) (L0 := #[.val (.ref a1), .val .null, .unset]) (plainFor_of_name pn_1) (fun m => by first | (simp [entryFrame, mkF, argsToLocals, Value.category]; done) | rfl) ?_
  intro p e s m below meth c T0 X0 hx hby hml hown hnm hret hlk hZ e0
  have N0 := Fr.nil n0
  have K0 := Keep.refl h0 [a1, b]
  refine Go.st (T' := T0) (pc' := 1) (L' := #[.val (.ref a1), .val .null, .unset]) (S' := [.null]) (fun t_ k_ => XS.aloadN X0.here hx rfl (hb hby d11_0) rfl rfl  k_) ?_
  refine Go.st (T' := T0) (pc' := 4) (L' := #[.val (.ref a1), .val .null, .unset]) (S' := []) (fun t_ k_ => XS.ifnonnullNo X0.here hx rfl (hb hby d11_1) rfl k_) ?_
  refine Go.st (T' := T0) (pc' := 5) (L' := #[.val (.ref a1), .val .null, .unset]) (S' := [(.ref a1)]) (fun t_ k_ => XS.aloadN X0.here hx rfl (hb hby d11_4) rfl rfl  k_) ?_
  obtain ⟨cq1, q1, q1'⟩ := E_a1.cell
  obtain ⟨_, _, ⟨T1, L1, k1, n1⟩, -, X1, ⟨Lc1, hQ1, l1, y1, z1⟩, st1⟩ := X0.privateBack hx (y := (⟨"java/lang/AbstractStringBuilder", "appendNull", "()Ljava/lang/AbstractStringBuilder;"⟩ : MethodName)) hown (mvT hZ (hw _ (List.mem_of_getElem? (i := 195) rfl))) (mvT hZ (hw _ (List.mem_of_getElem? (i := 196) rfl))) (own_selP (Cond.privateMethod_at (mvP hZ (hw _ (List.mem_of_getElem? (i := 197) rfl)) (args := #[]))) (mvT hZ (hw _ (List.mem_of_getElem? (i := 196) rfl))) (by decide) (mvT hZ (hw _ (List.mem_of_getElem? (i := 198) rfl)))) (Cond.privateMethod_at (mvP hZ (hw _ (List.mem_of_getElem? (i := 197) rfl)) (args := #[]))) (mvT hZ (hw _ (List.mem_of_getElem? (i := 199) rfl))) (by decide) (backOf (W := 0) (rm38 l Z a0 hw [] a1 b _ _ (cn) gC h0 n0 Z0 SC PC O0 E_a1 g_a1 n3 F_value F_coder V_b F_count g_b hy hck) hZ (hw _ (List.mem_of_getElem? (i := 199) rfl)) (hw _ (List.mem_of_getElem? (i := 57) rfl)) (by decide) (by decide)) (g := (mkF m 5 #[.val (.ref a1), .val .null, .unset] [(.ref a1)])) rfl (by rw [hml]; rfl) (Steps.refl _) (a := a1) (by rw [e0]; exact q1) q1' (argsL := []) (rest := []) (lenOf pd_9 rfl) rfl (by show 2 * 0 + _ ≤ _; exact Nat.le_of_eq rfl) (hb hby d11_5) (fun _ _ => ⟨rfl, e0, (by decide : 0 + 0 ≤ _), (by decide : 0 + 0 ≤ _)⟩)
  dsimp only [Pt.U, Pt.locs, Pt.cells, Pt.slots] at X1 l1 y1 z1 st1 hQ1
  subst l1 y1 z1
  obtain ⟨rfl, N1q, K1, Fv1, Fd1, Fn1, Vb1⟩ := hQ1
  have N1 := Fr.app N0 N1q
  obtain ⟨h1, e1⟩ : ∃ z, T1.heap = z := ⟨_, rfl⟩
  rw [e1] at K1 Fv1 Fd1 Fn1 Vb1
  replace Z0 := Nat.le_trans Z0 K1.1
  replace K0 := K0.trans K1 (allS (Or.inl (List.mem_of_getElem? (i := 0) rfl)) (allS (Or.inl (List.mem_of_getElem? (i := 1) rfl)) all0))
  replace O0 := O0.keep K1 (allS g_a1 (allS g_b all0))
  replace E_a1 := E_a1.keep K1
  refine Go.tr (T' := T1) (pc' := 8) (L' := #[.val (.ref a1), .val .null, .unset]) (S' := [(.ref a1)]) st1 ?_
  exact Go.retO X1 hx hlk hret rfl (by simp [FieldType.isReference, Value.isRef]) (hb hby d11_8) (by decide) (by decide) (by rw [e1]; exact ⟨rfl, N1, K0, Fv1, Fd1, Fn1, Vb1⟩)

def QappNS (Z : State) (a1 : Addr) (b : Addr) (kb : ClassId) (ys : List Int32) (cn : Nat) (h0 : Heap) (n0 : Nat) (v : Option Value) (h : Heap) (L : List Loc) : Prop := v = some (.ref a1) ∧ Fr n0 L ∧ Keep h0 h [a1, b] ∧ Fld Z h a1 "java/lang/AbstractStringBuilder" "value" "[B" (.ref b) ∧ Fld Z h a1 "java/lang/AbstractStringBuilder" "coder" "B" (.int (0 : Int32)) ∧ Fld Z h a1 "java/lang/AbstractStringBuilder" "count" "I" (.int ((cn + 4).toInt32)) ∧ Arv Z h b kb .byte (16 : Int32) ((ys ++ ([110, 117, 108, 108] : List Int32)).map Value.int) (.int (0 : Int32))
def roomappNS : Room := { frames := 3, cells := 0, slots := 0, locals := 42 }
set_option maxRecDepth 65536 in
set_option maxHeartbeats 40000000 in
theorem rmappNS (l : Launch) (Z : State) (a0 : Array Value) (hw : ∀ d ∈ tables_1, d.before a0 Z = true) (ws : List Jvm.Cond) (a1 : Addr) (b : Addr) (kb : ClassId) (ys : List Int32) (cn : Nat) (gC : Int32) (h0 : Heap) (n0 : Nat) (Z0 : n0 ≤ h0.size) (SC : Sta Z Z.heap "java/lang/String" "COMPACT_STRINGS" "Z" (.int gC)) (PC : ¬ (gC = (0 : Int32))) (O0 : Old Z n0 h0) (E_a1 : Exa Z h0 a1 "java/lang/StringBuilder") (g_a1 : n0 ≤ a1) (n3 : a1 ≠ b) (F_value : Fld Z h0 a1 "java/lang/AbstractStringBuilder" "value" "[B" (.ref b)) (F_coder : Fld Z h0 a1 "java/lang/AbstractStringBuilder" "coder" "B" (.int (0 : Int32))) (V_b : Arv Z h0 b kb .byte (16 : Int32) (ys.map Value.int) (.int (0 : Int32))) (F_count : Fld Z h0 a1 "java/lang/AbstractStringBuilder" "count" "I" (.int (cn.toInt32))) (g_b : n0 ≤ b) (hy : ys.length = cn) (hck : cn + 4 ≤ 16) :
    MetFree l (⟨"java/lang/StringBuilder", "append", "(Ljava/lang/String;)Ljava/lang/StringBuilder;"⟩ : MethodName) (head1 (Jvm.Cond.code (⟨"java/lang/StringBuilder", "append", "(Ljava/lang/String;)Ljava/lang/StringBuilder;"⟩ : MethodName) jdk_67_method_7_code 2 (some (.object "java/lang/StringBuilder")) :: ws) roomappNS) (fun aa_ U_ => aa_ = #[(.ref a1), .null] ∧ Z.Warmed39 U_.vm ∧ U_.heap = h0) (fun _ _ _ _ _ => True) (fun _ U_ o_ W_ => ∃ v_ L_, o_ = .returned v_ ∧ (QappNS Z a1 b kb ys cn h0 n0) v_ W_.heap L_ ∧ FrameEnd U_ o_ W_ L_ roomappNS.cells roomappNS.slots) := by
  refine own_met (Q := (QappNS Z a1 b kb ys cn h0 n0)) (L0 := #[.val (.ref a1), .val .null]) (plainFor_of_name pn_2) (fun m => by first | (simp [entryFrame, mkF, argsToLocals, Value.category]; done) | rfl) ?_
  intro p e s m below meth c T0 X0 hx hby hml hown hnm hret hlk hZ e0
  have N0 := Fr.nil n0
  have K0 := Keep.refl h0 [a1, b]
  refine Go.st (T' := T0) (pc' := 1) (L' := #[.val (.ref a1), .val .null]) (S' := [(.ref a1)]) (fun t_ k_ => XS.aloadN X0.here hx rfl (hb hby d10_0) rfl rfl  k_) ?_
  refine Go.st (T' := T0) (pc' := 2) (L' := #[.val (.ref a1), .val .null]) (S' := [.null, (.ref a1)]) (fun t_ k_ => XS.aloadN X0.here hx rfl (hb hby d10_1) rfl rfl  k_) ?_
  obtain ⟨_, _, ⟨T1, L1, k1, n1⟩, -, X1, ⟨Lc1, hQ1, l1, y1, z1⟩, st1⟩ := superBack X0 hx hZ (y := (⟨"java/lang/AbstractStringBuilder", "append", "(Ljava/lang/String;)Ljava/lang/AbstractStringBuilder;"⟩ : MethodName)) hown (hw _ (List.mem_of_getElem? (i := 70) rfl)) (own_same (y := (⟨"java/lang/AbstractStringBuilder", "append", "(Ljava/lang/String;)Ljava/lang/AbstractStringBuilder;"⟩ : MethodName)) (hw _ (List.mem_of_getElem? (i := 71) rfl)) (by decide) (hw _ (List.mem_of_getElem? (i := 91) rfl)) rfl) (hw _ (List.mem_of_getElem? (i := 71) rfl)) (hw _ (List.mem_of_getElem? (i := 72) rfl)) (by decide) (backOf (W := 0) (rmappN l Z a0 hw [] a1 b _ _ (cn) gC h0 n0 Z0 SC PC O0 E_a1 g_a1 n3 F_value F_coder V_b F_count g_b hy hck) hZ (hw _ (List.mem_of_getElem? (i := 74) rfl)) (hw _ (List.mem_of_getElem? (i := 57) rfl)) (by decide) (by decide)) e0 (Ins.self E_a1) (g := (mkF m 2 #[.val (.ref a1), .val .null] [.null, (.ref a1)])) rfl (by rw [hml]; rfl) (hw _ (List.mem_of_getElem? (i := 74) rfl)) (argsL := [.null]) (rest := []) (lenOf pd_7 rfl) rfl (by show 2 * 0 + _ ≤ _; exact Nat.le_of_eq rfl) (hb hby d10_2) (fun _ _ => ⟨rfl, e0, (by decide : 0 + 0 ≤ _), (by decide : 0 + 0 ≤ _)⟩)
  dsimp only [Pt.U, Pt.locs, Pt.cells, Pt.slots] at X1 l1 y1 z1 st1 hQ1
  subst l1 y1 z1
  obtain ⟨rfl, N1q, K1, Fv1, Fd1, Fn1, Vb1⟩ := hQ1
  have N1 := Fr.app N0 N1q
  obtain ⟨h1, e1⟩ : ∃ z, T1.heap = z := ⟨_, rfl⟩
  rw [e1] at K1 Fv1 Fd1 Fn1 Vb1
  replace Z0 := Nat.le_trans Z0 K1.1
  replace K0 := K0.trans K1 (allS (Or.inl (List.mem_of_getElem? (i := 0) rfl)) (allS (Or.inl (List.mem_of_getElem? (i := 1) rfl)) all0))
  replace O0 := O0.keep K1 (allS g_a1 (allS g_b all0))
  replace E_a1 := E_a1.keep K1
  refine Go.tr (T' := T1) (pc' := 5) (L' := #[.val (.ref a1), .val .null]) (S' := [(.ref a1)]) st1 ?_
  refine Go.st (T' := T1) (pc' := 6) (L' := #[.val (.ref a1), .val .null]) (S' := []) (fun t_ k_ => XS.pop X1.here hx rfl (hb hby d10_5) rfl rfl k_) ?_
  refine Go.st (T' := T1) (pc' := 7) (L' := #[.val (.ref a1), .val .null]) (S' := [(.ref a1)]) (fun t_ k_ => XS.aloadN X1.here hx rfl (hb hby d10_6) rfl rfl  k_) ?_
  exact Go.retO X1 hx hlk hret rfl (by simp [FieldType.isReference, Value.isRef]) (hb hby d10_7) (by decide) (by decide) (by rw [e1]; exact ⟨rfl, N1, K0, Fv1, Fd1, Fn1, Vb1⟩)
theorem d9_0 : decode jdk_68_method_2_code 0 = .ok (.aload_n 0, 1) := by decide +kernel
theorem d9_1 : decode jdk_68_method_2_code 1 = .ok (.invokespecial 3, 3) := by decide +kernel
theorem d9_4 : decode jdk_68_method_2_code 4 = .ok (.getstatic 18, 3) := by decide +kernel
theorem d9_7 : decode jdk_68_method_2_code 7 = .ok (.ifCond .eq 18, 3) := by decide +kernel
theorem d9_10 : decode jdk_68_method_2_code 10 = .ok (.aload_n 0, 1) := by decide +kernel
theorem d9_11 : decode jdk_68_method_2_code 11 = .ok (.iload_n 1, 1) := by decide +kernel
theorem d9_12 : decode jdk_68_method_2_code 12 = .ok (.newarray .byte, 2) := by decide +kernel
theorem d9_14 : decode jdk_68_method_2_code 14 = .ok (.putfield 15, 3) := by decide +kernel
theorem d9_17 : decode jdk_68_method_2_code 17 = .ok (.aload_n 0, 1) := by decide +kernel
theorem d9_18 : decode jdk_68_method_2_code 18 = .ok (.iconst 0, 1) := by decide +kernel
theorem d9_19 : decode jdk_68_method_2_code 19 = .ok (.putfield 22, 3) := by decide +kernel
theorem d9_22 : decode jdk_68_method_2_code 22 = .ok (.goto 16, 3) := by decide +kernel
theorem d9_38 : decode jdk_68_method_2_code 38 = .ok (.return_, 1) := by decide +kernel
def Q9 (Z : State) (a1 : Addr) (h0 : Heap) (n0 : Nat) (v : Option Value) (h : Heap) (L : List Loc) : Prop := ∃ (b : Addr) (kb : ClassId), v = none ∧ Fr n0 L ∧ Keep h0 h [a1] ∧ n0 ≤ b ∧ h0.size ≤ b ∧ Fld Z h a1 "java/lang/AbstractStringBuilder" "value" "[B" (.ref b) ∧ Fld Z h a1 "java/lang/AbstractStringBuilder" "coder" "B" (.int (0 : Int32)) ∧ Fld Z h a1 "java/lang/AbstractStringBuilder" "count" "I" (.int (0 : Int32)) ∧ Arv Z h b kb .byte (16 : Int32) ([].map Value.int) (.int (0 : Int32))
def room9 : Room := { frames := 1, cells := 1, slots := 16, locals := 12 }
set_option maxRecDepth 65536 in
set_option maxHeartbeats 40000000 in
theorem rm9 (l : Launch) (Z : State) (a0 : Array Value) (hw : ∀ d ∈ tables_1, d.before a0 Z = true) (ws : List Jvm.Cond) (a1 : Addr) (gC : Int32) (h0 : Heap) (n0 : Nat) (Z0 : n0 ≤ h0.size) (E_a1 : Exa Z h0 a1 "java/lang/StringBuilder") (g_a1 : n0 ≤ a1) (SC : Sta Z Z.heap "java/lang/String" "COMPACT_STRINGS" "Z" (.int gC)) (PC : ¬ (gC = (0 : Int32))) (O0 : Old Z n0 h0) (F_value : Fld Z h0 a1 "java/lang/AbstractStringBuilder" "value" "[B" .null) (F_coder : Fld Z h0 a1 "java/lang/AbstractStringBuilder" "coder" "B" (.int (0 : Int32))) (F_count : Fld Z h0 a1 "java/lang/AbstractStringBuilder" "count" "I" (.int (0 : Int32))) :
    MetFree l (⟨"java/lang/AbstractStringBuilder", "<init>", "(I)V"⟩ : MethodName) (head1 (Jvm.Cond.code (⟨"java/lang/AbstractStringBuilder", "<init>", "(I)V"⟩ : MethodName) jdk_68_method_2_code 2 none :: ws) room9) (fun aa_ U_ => aa_ = #[(.ref a1), (.int (16 : Int32))] ∧ Z.Warmed39 U_.vm ∧ U_.heap = h0) (fun _ _ _ _ _ => True) (fun _ U_ o_ W_ => ∃ v_ L_, o_ = .returned v_ ∧ (Q9 Z a1 h0 n0) v_ W_.heap L_ ∧ FrameEnd U_ o_ W_ L_ room9.cells room9.slots) := by
  refine own_met (Q := (Q9 Z a1 h0 n0)) (L0 := #[.val (.ref a1), .val (.int (16 : Int32))]) (plainFor_of_name pn_1) (fun m => by first | (simp [entryFrame, mkF, argsToLocals, Value.category]; done) | rfl) ?_
  intro p e s m below meth c T0 X0 hx hby hml hown hnm hret hlk hZ e0
  have N0 := Fr.nil n0
  have K0 := Keep.refl h0 [a1]
  refine Go.st (T' := T0) (pc' := 1) (L' := #[.val (.ref a1), .val (.int (16 : Int32))]) (S' := [(.ref a1)]) (fun t_ k_ => XS.aloadN X0.here hx rfl (hb hby d9_0) rfl rfl  k_) ?_
  obtain ⟨T1, X1, e1, st1⟩ := initO X0 hx hZ hown (hw _ (List.mem_of_getElem? (i := 59) rfl)) (hw _ (List.mem_of_getElem? (i := 16) rfl)) (hw _ (List.mem_of_getElem? (i := 17) rfl)) e0 (g := (mkF m 1 #[.val (.ref a1), .val (.int (16 : Int32))] [(.ref a1)])) rfl (by rw [hml]; rfl) rfl (hb hby d9_1) (by decide) (W := 0) (by show 2 * 0 + _ ≤ _; exact Nat.le_of_eq rfl) (by decide)
  refine Go.st (T' := T1) (pc' := 4) (L' := #[.val (.ref a1), .val (.int (16 : Int32))]) (S' := []) st1 ?_
  obtain ⟨T2, X2, e2, st2⟩ := getS2 X1 hx hZ hown (host := "") (Or.inl (hw _ (List.mem_of_getElem? (i := 60) rfl))) Via.refl e1 (SC.ext O0.2) (g := (mkF m 4 #[.val (.ref a1), .val (.int (16 : Int32))] [])) rfl (hb hby d9_4)
  refine Go.st (T' := T2) (pc' := 7) (L' := #[.val (.ref a1), .val (.int (16 : Int32))]) (S' := [(.int gC)]) st2 ?_
  refine Go.st (T' := T2) (pc' := 10) (L' := #[.val (.ref a1), .val (.int (16 : Int32))]) (S' := []) (fun t_ k_ => XS.ifNo X2.here hx rfl (hb hby d9_7) rfl ((if0 _ _).trans (feq (PC : ¬ (gC = (0 : Int32)))).1) k_) ?_
  refine Go.st (T' := T2) (pc' := 11) (L' := #[.val (.ref a1), .val (.int (16 : Int32))]) (S' := [(.ref a1)]) (fun t_ k_ => XS.aloadN X2.here hx rfl (hb hby d9_10) rfl rfl  k_) ?_
  refine Go.st (T' := T2) (pc' := 12) (L' := #[.val (.ref a1), .val (.int (16 : Int32))]) (S' := [(.int (16 : Int32)), (.ref a1)]) (fun t_ k_ => XS.iloadN X2.here hx rfl (hb hby d9_11) rfl  k_) ?_
  obtain ⟨T3, h3, k3, X3, e3, E3, A3, st3⟩ := newP X2 hx hZ (hw _ (List.mem_of_getElem? (i := 19) rfl)) e2 (g := (mkF m 12 #[.val (.ref a1), .val (.int (16 : Int32))] [(.int (16 : Int32)), (.ref a1)])) rfl (hb hby d9_12) rfl (by decide) (cap := 16) (by decide) (by decide) (by decide) (by decide)
  obtain ⟨b3, g3⟩ : ∃ z, z = h0.size := ⟨_, rfl⟩
  rw [← g3] at A3 st3
  have ne_a1_b3 : a1 ≠ b3 := Nat.ne_of_lt (Nat.lt_of_lt_of_le E_a1.lt (Nat.le_of_eq g3.symm))
  have g_b3 : n0 ≤ b3 := Nat.le_trans Z0 (Nat.le_of_eq g3.symm)
  have sz_b3 : h0.size ≤ b3 := Nat.le_trans K0.1 (Nat.le_of_eq g3.symm)
  replace Z0 := Nat.le_trans Z0 E3.1
  replace K0 := K0.ext E3
  replace O0 := O0.ext E3
  replace E_a1 := E_a1.ext E3
  replace F_value := F_value.ext E3
  replace F_coder := F_coder.ext E3
  replace F_count := F_count.ext E3
  have V_b3 : Arv Z h3 b3 k3 .byte (16 : Int32) [(.int (0 : Int32)), (.int (0 : Int32)), (.int (0 : Int32)), (.int (0 : Int32)), (.int (0 : Int32)), (.int (0 : Int32)), (.int (0 : Int32)), (.int (0 : Int32)), (.int (0 : Int32)), (.int (0 : Int32)), (.int (0 : Int32)), (.int (0 : Int32)), (.int (0 : Int32)), (.int (0 : Int32)), (.int (0 : Int32)), (.int (0 : Int32))] (.int (0 : Int32)) := (Arv.new A3 (by decide)).pad (pad_rep [] (.int (0 : Int32)) 16)
  refine Go.st (T' := T3) (pc' := 14) (L' := #[.val (.ref a1), .val (.int (16 : Int32))]) (S' := [(.ref b3), (.ref a1)]) st3 ?_
  obtain ⟨T4, h4, X4, e4, W4, st4⟩ := putF X3 hx hZ hown (host := "") (Or.inl (hw _ (List.mem_of_getElem? (i := 61) rfl))) Via.refl e3 F_value E_a1 (Or.inl (hw _ (List.mem_of_getElem? (i := 62) rfl))) (hw _ (List.mem_of_getElem? (i := 48) rfl)) (ty := (.array .byte)) (by decide) rfl rfl (g := (mkF m 14 #[.val (.ref a1), .val (.int (16 : Int32))] [(.ref b3), (.ref a1)])) rfl rfl (hb hby d9_14)
  replace Z0 := Nat.le_trans Z0 (Keep.of_wr W4).1
  replace K0 := K0.wr W4 (Or.inl (List.mem_of_getElem? (i := 0) rfl))
  replace O0 := O0.wr W4 g_a1
  replace E_a1 := E_a1.wr W4
  replace F_coder := F_coder.other W4 (Or.inr (slot_ne (Or.inl (hw _ (List.mem_of_getElem? (i := 64) rfl))) (Or.inl (hw _ (List.mem_of_getElem? (i := 62) rfl))) (by decide) (t := .byte) (t' := (.array .byte)) (by decide) (by decide)))
  replace F_count := F_count.other W4 (Or.inr (slot_ne (Or.inl (hw _ (List.mem_of_getElem? (i := 87) rfl))) (Or.inl (hw _ (List.mem_of_getElem? (i := 62) rfl))) (by decide) (t := .int) (t' := (.array .byte)) (by decide) (by decide)))
  replace V_b3 := V_b3.other W4 (Ne.symm ne_a1_b3)
  replace F_value := F_value.same W4
  have N4 := Fr.snoc X4 N0 g_a1
  refine Go.st (T' := T4) (pc' := 17) (L' := #[.val (.ref a1), .val (.int (16 : Int32))]) (S' := []) st4 ?_
  refine Go.st (T' := T4) (pc' := 18) (L' := #[.val (.ref a1), .val (.int (16 : Int32))]) (S' := [(.ref a1)]) (fun t_ k_ => XS.aloadN X4.here hx rfl (hb hby d9_17) rfl rfl  k_) ?_
  refine Go.st (T' := T4) (pc' := 19) (L' := #[.val (.ref a1), .val (.int (16 : Int32))]) (S' := [(.int (0 : Int32)), (.ref a1)]) (fun t_ k_ => XS.iconst X4.here hx rfl (hb hby d9_18) k_) ?_
  obtain ⟨T5, h5, X5, e5, W5, st5⟩ := putFN X4 hx hZ hown (hw _ (List.mem_of_getElem? (i := 63) rfl)) Via.refl e4 F_coder E_a1 (Or.inl (hw _ (List.mem_of_getElem? (i := 64) rfl))) (hw _ (List.mem_of_getElem? (i := 48) rfl)) (ty := .byte) (v' := (.int (0 : Int32))) (by decide) rfl rfl (g := (mkF m 19 #[.val (.ref a1), .val (.int (16 : Int32))] [(.int (0 : Int32)), (.ref a1)])) rfl rfl (hb hby d9_19)
  replace Z0 := Nat.le_trans Z0 (Keep.of_wr W5).1
  replace K0 := K0.wr W5 (Or.inl (List.mem_of_getElem? (i := 0) rfl))
  replace O0 := O0.wr W5 g_a1
  replace E_a1 := E_a1.wr W5
  replace F_value := F_value.other W5 (Or.inr (slot_ne (Or.inl (hw _ (List.mem_of_getElem? (i := 62) rfl))) (Or.inl (hw _ (List.mem_of_getElem? (i := 64) rfl))) (by decide) (t := (.array .byte)) (t' := .byte) (by decide) (by decide)))
  replace F_count := F_count.other W5 (Or.inr (slot_ne (Or.inl (hw _ (List.mem_of_getElem? (i := 87) rfl))) (Or.inl (hw _ (List.mem_of_getElem? (i := 64) rfl))) (by decide) (t := .int) (t' := .byte) (by decide) (by decide)))
  replace V_b3 := V_b3.other W5 (Ne.symm ne_a1_b3)
  replace F_coder := F_coder.same W5
  have N5 := Fr.snoc X5 N4 g_a1
  refine Go.st (T' := T5) (pc' := 22) (L' := #[.val (.ref a1), .val (.int (16 : Int32))]) (S' := []) st5 ?_
  refine Go.st (T' := T5) (pc' := 38) (L' := #[.val (.ref a1), .val (.int (16 : Int32))]) (S' := []) (fun t_ k_ => XS.goto X5.here hx rfl (pc0 := 22) (pc' := 38) rfl (hb hby d9_22) (by decide) (by decide) k_) ?_
  exact Go.retV X5 hx hlk hret (hb hby d9_38) (by decide) (by decide) (by rw [e5]; exact ⟨b3, _, rfl, N5, K0, g_b3, sz_b3, F_value, F_coder, F_count, V_b3.pad (fun i => (pad_rep [] _ 16 i).symm)⟩)
theorem d8_0 : decode jdk_67_method_1_code 0 = .ok (.aload_n 0, 1) := by decide +kernel
theorem d8_1 : decode jdk_67_method_1_code 1 = .ok (.bipush 16, 2) := by decide +kernel
theorem d8_3 : decode jdk_67_method_1_code 3 = .ok (.invokespecial 1, 3) := by decide +kernel
theorem d8_6 : decode jdk_67_method_1_code 6 = .ok (.return_, 1) := by decide +kernel
def Q8 (Z : State) (a1 : Addr) (h0 : Heap) (n0 : Nat) (v : Option Value) (h : Heap) (L : List Loc) : Prop := ∃ (b : Addr) (kb : ClassId), v = none ∧ Fr n0 L ∧ Keep h0 h [a1] ∧ n0 ≤ b ∧ h0.size ≤ b ∧ Fld Z h a1 "java/lang/AbstractStringBuilder" "value" "[B" (.ref b) ∧ Fld Z h a1 "java/lang/AbstractStringBuilder" "coder" "B" (.int (0 : Int32)) ∧ Fld Z h a1 "java/lang/AbstractStringBuilder" "count" "I" (.int (0 : Int32)) ∧ Arv Z h b kb .byte (16 : Int32) ([].map Value.int) (.int (0 : Int32))
def room8 : Room := { frames := 2, cells := 1, slots := 16, locals := 25 }
set_option maxRecDepth 65536 in
set_option maxHeartbeats 40000000 in
theorem rm8 (l : Launch) (Z : State) (a0 : Array Value) (hw : ∀ d ∈ tables_1, d.before a0 Z = true) (ws : List Jvm.Cond) (a1 : Addr) (gC : Int32) (h0 : Heap) (n0 : Nat) (Z0 : n0 ≤ h0.size) (E_a1 : Exa Z h0 a1 "java/lang/StringBuilder") (g_a1 : n0 ≤ a1) (SC : Sta Z Z.heap "java/lang/String" "COMPACT_STRINGS" "Z" (.int gC)) (PC : ¬ (gC = (0 : Int32))) (O0 : Old Z n0 h0) (F_value : Fld Z h0 a1 "java/lang/AbstractStringBuilder" "value" "[B" .null) (F_coder : Fld Z h0 a1 "java/lang/AbstractStringBuilder" "coder" "B" (.int (0 : Int32))) (F_count : Fld Z h0 a1 "java/lang/AbstractStringBuilder" "count" "I" (.int (0 : Int32))) :
    MetFree l (⟨"java/lang/StringBuilder", "<init>", "()V"⟩ : MethodName) (head1 (Jvm.Cond.code (⟨"java/lang/StringBuilder", "<init>", "()V"⟩ : MethodName) jdk_67_method_1_code 1 none :: ws) room8) (fun aa_ U_ => aa_ = #[(.ref a1)] ∧ Z.Warmed39 U_.vm ∧ U_.heap = h0) (fun _ _ _ _ _ => True) (fun _ U_ o_ W_ => ∃ v_ L_, o_ = .returned v_ ∧ (Q8 Z a1 h0 n0) v_ W_.heap L_ ∧ FrameEnd U_ o_ W_ L_ room8.cells room8.slots) := by
  refine own_met (Q := (Q8 Z a1 h0 n0)) (L0 := #[.val (.ref a1)]) (plainFor_of_name pn_2) (fun m => by first | (simp [entryFrame, mkF, argsToLocals, Value.category]; done) | rfl) ?_
  intro p e s m below meth c T0 X0 hx hby hml hown hnm hret hlk hZ e0
  have N0 := Fr.nil n0
  have K0 := Keep.refl h0 [a1]
  refine Go.st (T' := T0) (pc' := 1) (L' := #[.val (.ref a1)]) (S' := [(.ref a1)]) (fun t_ k_ => XS.aloadN X0.here hx rfl (hb hby d8_0) rfl rfl  k_) ?_
  refine Go.st (T' := T0) (pc' := 3) (L' := #[.val (.ref a1)]) (S' := [(.int (16 : Int32)), (.ref a1)]) (fun t_ k_ => XS.bipush X0.here hx rfl (hb hby d8_1) k_) ?_
  obtain ⟨_, _, ⟨T1, L1, k1, n1⟩, -, X1, ⟨Lc1, hQ1, l1, y1, z1⟩, st1⟩ := X0.specialBack hx (y := (⟨"java/lang/AbstractStringBuilder", "<init>", "(I)V"⟩ : MethodName)) rfl hown (mvT hZ (hw _ (List.mem_of_getElem? (i := 53) rfl))) (mvT hZ (hw _ (List.mem_of_getElem? (i := 54) rfl))) (mvT hZ (hw _ (List.mem_of_getElem? (i := 58) rfl))) (by decide) (backOf (W := 0) (rm9 l Z a0 hw [] a1 gC h0 n0 Z0 E_a1 g_a1 SC PC O0 F_value F_coder F_count) hZ (hw _ (List.mem_of_getElem? (i := 58) rfl)) (hw _ (List.mem_of_getElem? (i := 57) rfl)) (by decide) (by decide)) (g := (mkF m 3 #[.val (.ref a1)] [(.int (16 : Int32)), (.ref a1)])) rfl (by rw [hml]; rfl) (Steps.refl _) (a := a1) (argsL := [(.int (16 : Int32))]) (rest := []) (lenOf pd_5 rfl) rfl (by show 2 * 0 + _ ≤ _; exact Nat.le_of_eq rfl) (hb hby d8_3) (fun _ _ => ⟨rfl, e0, (by decide : 0 + 1 ≤ _), (by decide : 0 + 16 ≤ _)⟩)
  dsimp only [Pt.U, Pt.locs, Pt.cells, Pt.slots] at X1 l1 y1 z1 st1 hQ1
  subst l1 y1 z1
  obtain ⟨bb1, kb1, rfl, N1q, K1, g_bb1, lt1, Fv1, Fd1, Fn1, Vb1⟩ := hQ1
  have N1 := Fr.app N0 N1q
  have ne_a1_bb1 : a1 ≠ bb1 := Nat.ne_of_lt (Nat.lt_of_lt_of_le E_a1.lt lt1)
  have sz_bb1 : h0.size ≤ bb1 := Nat.le_trans K0.1 lt1
  obtain ⟨h1, e1⟩ : ∃ z, T1.heap = z := ⟨_, rfl⟩
  rw [e1] at K1 Fv1 Fd1 Fn1 Vb1
  replace Z0 := Nat.le_trans Z0 K1.1
  replace K0 := K0.trans K1 (allS (Or.inl (List.mem_of_getElem? (i := 0) rfl)) all0)
  replace O0 := O0.keep K1 (allS g_a1 all0)
  replace E_a1 := E_a1.keep K1
  refine Go.tr (T' := T1) (pc' := 6) (L' := #[.val (.ref a1)]) (S' := []) st1 ?_
  exact Go.retV X1 hx hlk hret (hb hby d8_6) (by decide) (by decide) (by rw [e1]; exact ⟨bb1, _, rfl, N1, K0, g_bb1, sz_bb1, Fv1, Fd1, Fn1, Vb1⟩)
theorem d21_0 : decode jdk_68_method_64_code 0 = .ok (.aload_n 0, 1) := by decide +kernel
theorem d21_1 : decode jdk_68_method_64_code 1 = .ok (.getfield 15, 3) := by decide +kernel
theorem d21_4 : decode jdk_68_method_64_code 4 = .ok (.areturn, 1) := by decide +kernel
def Q21 (Z : State) (a1 : Addr) (x1 : Addr) (h0 : Heap) (n0 : Nat) (v : Option Value) (h : Heap) (L : List Loc) : Prop := v = some (.ref x1) ∧ Fr n0 L ∧ h = h0
def room21 : Room := { frames := 0, cells := 0, slots := 0, locals := 0 }
set_option maxRecDepth 65536 in
set_option maxHeartbeats 40000000 in
theorem rm21 (l : Launch) (Z : State) (a0 : Array Value) (hw : ∀ d ∈ tables_1, d.before a0 Z = true) (ws : List Jvm.Cond) (a1 : Addr) (x1 : Addr) (h0 : Heap) (n0 : Nat) (Z0 : n0 ≤ h0.size) (F1 : Fld Z h0 a1 "java/lang/AbstractStringBuilder" "value" "[B" (.ref x1)) :
    MetFree l (⟨"java/lang/AbstractStringBuilder", "getValue", "()[B"⟩ : MethodName) (head1 (Jvm.Cond.code (⟨"java/lang/AbstractStringBuilder", "getValue", "()[B"⟩ : MethodName) jdk_68_method_64_code 1 (some (.array .byte)) :: ws) room21) (fun aa_ U_ => aa_ = #[(.ref a1)] ∧ Z.Warmed39 U_.vm ∧ U_.heap = h0) (fun _ _ _ _ _ => True) (fun _ U_ o_ W_ => ∃ v_ L_, o_ = .returned v_ ∧ (Q21 Z a1 x1 h0 n0) v_ W_.heap L_ ∧ FrameEnd U_ o_ W_ L_ room21.cells room21.slots) := by
  refine own_met (Q := (Q21 Z a1 x1 h0 n0)) (L0 := #[.val (.ref a1)]) (plainFor_of_name pn_1) (fun m => by first | (simp [entryFrame, mkF, argsToLocals, Value.category]; done) | rfl) ?_
  intro p e s m below meth c T0 X0 hx hby hml hown hnm hret hlk hZ e0
  have N0 := Fr.nil n0
  refine Go.st (T' := T0) (pc' := 1) (L' := #[.val (.ref a1)]) (S' := [(.ref a1)]) (fun t_ k_ => XS.aloadN X0.here hx rfl (hb hby d21_0) rfl rfl  k_) ?_
  obtain ⟨T1, X1, e1, st1⟩ := getF X0 hx hZ hown (host := "") (Or.inl (hw _ (List.mem_of_getElem? (i := 61) rfl))) Via.refl e0 F1 (g := (mkF m 1 #[.val (.ref a1)] [(.ref a1)])) rfl rfl (hb hby d21_1)
  refine Go.st (T' := T1) (pc' := 4) (L' := #[.val (.ref a1)]) (S' := [(.ref x1)]) st1 ?_
  exact Go.retO X1 hx hlk hret rfl (by simp [FieldType.isReference, Value.isRef]) (hb hby d21_4) (by decide) (by decide) (by rw [e1]; exact ⟨rfl, N0, rfl⟩)
theorem d23_0 : decode jdk_68_method_6_code 0 = .ok (.aload_n 0, 1) := by decide +kernel
theorem d23_1 : decode jdk_68_method_6_code 1 = .ok (.getfield 79, 3) := by decide +kernel
theorem d23_4 : decode jdk_68_method_6_code 4 = .ok (.ireturn, 1) := by decide +kernel
def Q23 (Z : State) (a1 : Addr) (cn : Nat) (h0 : Heap) (n0 : Nat) (v : Option Value) (h : Heap) (L : List Loc) : Prop := v = some (.int (cn.toInt32)) ∧ Fr n0 L ∧ h = h0
def room23 : Room := { frames := 0, cells := 0, slots := 0, locals := 0 }
set_option maxRecDepth 65536 in
set_option maxHeartbeats 40000000 in
theorem rm23 (l : Launch) (Z : State) (a0 : Array Value) (hw : ∀ d ∈ tables_1, d.before a0 Z = true) (ws : List Jvm.Cond) (a1 : Addr) (cn : Nat) (h0 : Heap) (n0 : Nat) (Z0 : n0 ≤ h0.size) (E_a1 : Exa Z h0 a1 "java/lang/StringBuilder") (F_count : Fld Z h0 a1 "java/lang/AbstractStringBuilder" "count" "I" (.int (cn.toInt32))) :
    MetFree l (⟨"java/lang/AbstractStringBuilder", "length", "()I"⟩ : MethodName) (head1 (Jvm.Cond.code (⟨"java/lang/AbstractStringBuilder", "length", "()I"⟩ : MethodName) jdk_68_method_6_code 1 (some .int) :: ws) room23) (fun aa_ U_ => aa_ = #[(.ref a1)] ∧ Z.Warmed39 U_.vm ∧ U_.heap = h0) (fun _ _ _ _ _ => True) (fun _ U_ o_ W_ => ∃ v_ L_, o_ = .returned v_ ∧ (Q23 Z a1 cn h0 n0) v_ W_.heap L_ ∧ FrameEnd U_ o_ W_ L_ room23.cells room23.slots) := by
  refine own_met (Q := (Q23 Z a1 cn h0 n0)) (L0 := #[.val (.ref a1)]) (plainFor_of_name pn_1) (fun m => by first | (simp [entryFrame, mkF, argsToLocals, Value.category]; done) | rfl) ?_
  intro p e s m below meth c T0 X0 hx hby hml hown hnm hret hlk hZ e0
  have N0 := Fr.nil n0
  refine Go.st (T' := T0) (pc' := 1) (L' := #[.val (.ref a1)]) (S' := [(.ref a1)]) (fun t_ k_ => XS.aloadN X0.here hx rfl (hb hby d23_0) rfl rfl  k_) ?_
  obtain ⟨T1, X1, e1, st1⟩ := getF X0 hx hZ hown (host := "") (Or.inl (hw _ (List.mem_of_getElem? (i := 86) rfl))) Via.refl e0 F_count (g := (mkF m 1 #[.val (.ref a1)] [(.ref a1)])) rfl rfl (hb hby d23_1)
  refine Go.st (T' := T1) (pc' := 4) (L' := #[.val (.ref a1)]) (S' := [(.int (cn.toInt32))]) st1 ?_
  exact Go.retO X1 hx hlk hret rfl (by simp [FieldType.isReference, Value.isRef]) (hb hby d23_4) (by decide) (by decide) (by rw [e1]; exact ⟨rfl, N0, rfl⟩)
theorem d22_0 : decode jdk_67_method_93_code 0 = .ok (.aload_n 0, 1) := by decide +kernel
theorem d22_1 : decode jdk_67_method_93_code 1 = .ok (.invokespecial 343, 3) := by decide +kernel
theorem d22_4 : decode jdk_67_method_93_code 4 = .ok (.ireturn, 1) := by decide +kernel
def Q22 (Z : State) (a1 : Addr) (cn : Nat) (h0 : Heap) (n0 : Nat) (v : Option Value) (h : Heap) (L : List Loc) : Prop := v = some (.int (cn.toInt32)) ∧ Fr n0 L ∧ h = h0
def room22 : Room := { frames := 1, cells := 0, slots := 0, locals := 12 }
set_option maxRecDepth 65536 in
set_option maxHeartbeats 40000000 in
theorem rm22 (l : Launch) (Z : State) (a0 : Array Value) (hw : ∀ d ∈ tables_1, d.before a0 Z = true) (ws : List Jvm.Cond) (a1 : Addr) (cn : Nat) (h0 : Heap) (n0 : Nat) (Z0 : n0 ≤ h0.size) (E_a1 : Exa Z h0 a1 "java/lang/StringBuilder") (F_count : Fld Z h0 a1 "java/lang/AbstractStringBuilder" "count" "I" (.int (cn.toInt32))) :
    MetFree l (⟨"java/lang/StringBuilder", "length", "()I"⟩ : MethodName) (head1 (Jvm.Cond.code (⟨"java/lang/StringBuilder", "length", "()I"⟩ : MethodName) jdk_67_method_93_code 1 (some .int) :: ws) room22) (fun aa_ U_ => aa_ = #[(.ref a1)] ∧ Z.Warmed39 U_.vm ∧ U_.heap = h0) (fun _ _ _ _ _ => True) (fun _ U_ o_ W_ => ∃ v_ L_, o_ = .returned v_ ∧ (Q22 Z a1 cn h0 n0) v_ W_.heap L_ ∧ FrameEnd U_ o_ W_ L_ room22.cells room22.slots) := by
  refine own_met (Q := (Q22 Z a1 cn h0 n0)) (L0 := #[.val (.ref a1)]) (plainFor_of_name pn_2) (fun m => by first | (simp [entryFrame, mkF, argsToLocals, Value.category]; done) | rfl) ?_
  intro p e s m below meth c T0 X0 hx hby hml hown hnm hret hlk hZ e0
  have N0 := Fr.nil n0
  refine Go.st (T' := T0) (pc' := 1) (L' := #[.val (.ref a1)]) (S' := [(.ref a1)]) (fun t_ k_ => XS.aloadN X0.here hx rfl (hb hby d22_0) rfl rfl  k_) ?_
  obtain ⟨_, _, ⟨T1, L1, k1, n1⟩, -, X1, ⟨Lc1, hQ1, l1, y1, z1⟩, st1⟩ := superBack X0 hx hZ (y := (⟨"java/lang/AbstractStringBuilder", "length", "()I"⟩ : MethodName)) hown (hw _ (List.mem_of_getElem? (i := 137) rfl)) (own_same (y := (⟨"java/lang/AbstractStringBuilder", "length", "()I"⟩ : MethodName)) (hw _ (List.mem_of_getElem? (i := 133) rfl)) (by decide) (hw _ (List.mem_of_getElem? (i := 91) rfl)) rfl) (hw _ (List.mem_of_getElem? (i := 133) rfl)) (hw _ (List.mem_of_getElem? (i := 72) rfl)) (by decide) (backOf (W := 0) (rm23 l Z a0 hw [] a1 (cn) h0 n0 Z0 E_a1 F_count) hZ (hw _ (List.mem_of_getElem? (i := 138) rfl)) (hw _ (List.mem_of_getElem? (i := 57) rfl)) (by decide) (by decide)) e0 (Ins.self E_a1) (g := (mkF m 1 #[.val (.ref a1)] [(.ref a1)])) rfl (by rw [hml]; rfl) (hw _ (List.mem_of_getElem? (i := 138) rfl)) (argsL := []) (rest := []) (lenOf pd_4 rfl) rfl (by show 2 * 0 + _ ≤ _; exact Nat.le_of_eq rfl) (hb hby d22_1) (fun _ _ => ⟨rfl, e0, (by decide : 0 + 0 ≤ _), (by decide : 0 + 0 ≤ _)⟩)
  dsimp only [Pt.U, Pt.locs, Pt.cells, Pt.slots] at X1 l1 y1 z1 st1 hQ1
  subst l1 y1 z1
  obtain ⟨rfl, N1q, e1⟩ := hQ1
  have N1 := Fr.app N0 N1q
  refine Go.tr (T' := T1) (pc' := 4) (L' := #[.val (.ref a1)]) (S' := [(.int (cn.toInt32))]) st1 ?_
  exact Go.retO X1 hx hlk hret rfl (by simp [FieldType.isReference, Value.isRef]) (hb hby d22_4) (by decide) (by decide) (by rw [e1]; exact ⟨rfl, N1, rfl⟩)
theorem d27_0 : decode jdk_65_method_131_code 0 = .ok (.iload_n 1, 1) := by decide +kernel
theorem d27_1 : decode jdk_65_method_131_code 1 = .ok (.iload_n 0, 1) := by decide +kernel
theorem d27_2 : decode jdk_65_method_131_code 2 = .ok (.if_icmp .ge 35, 3) := by decide +kernel
theorem d27_37 : decode jdk_65_method_131_code 37 = .ok (.return_, 1) := by decide +kernel
theorem pn_3 : plainName "java/util/Arrays" = true := by first | (simp [plainName, overriddenIn]; done) | decide +kernel
def Q27 (Z : State) (cn : Nat) (h0 : Heap) (n0 : Nat) (v : Option Value) (h : Heap) (L : List Loc) : Prop := v = none ∧ Fr n0 L ∧ h = h0
def room27 : Room := { frames := 0, cells := 0, slots := 0, locals := 0 }
set_option maxRecDepth 65536 in
set_option maxHeartbeats 40000000 in
theorem rm27 (l : Launch) (Z : State) (a0 : Array Value) (hw : ∀ d ∈ tables_1, d.before a0 Z = true) (ws : List Jvm.Cond) (cn : Nat) (h0 : Heap) (n0 : Nat) (Z0 : n0 ≤ h0.size) (hc : cn < 16) :
    MetFree l (⟨"java/util/Arrays", "checkLength", "(II)V"⟩ : MethodName) (head1 (Jvm.Cond.code (⟨"java/util/Arrays", "checkLength", "(II)V"⟩ : MethodName) jdk_65_method_131_code 2 none :: ws) room27) (fun aa_ U_ => aa_ = #[(.int (0 : Int32)), (.int (cn.toInt32))] ∧ Z.Warmed39 U_.vm ∧ U_.heap = h0) (fun _ _ _ _ _ => True) (fun _ U_ o_ W_ => ∃ v_ L_, o_ = .returned v_ ∧ (Q27 Z cn h0 n0) v_ W_.heap L_ ∧ FrameEnd U_ o_ W_ L_ room27.cells room27.slots) := by
  refine own_met (Q := (Q27 Z cn h0 n0)) (L0 := #[.val (.int (0 : Int32)), .val (.int (cn.toInt32))]) (plainFor_of_name pn_3) (fun m => by first | (simp [entryFrame, mkF, argsToLocals, Value.category]; done) | rfl) ?_
  intro p e s m below meth c T0 X0 hx hby hml hown hnm hret hlk hZ e0
  have N0 := Fr.nil n0
  refine Go.st (T' := T0) (pc' := 1) (L' := #[.val (.int (0 : Int32)), .val (.int (cn.toInt32))]) (S' := [(.int (cn.toInt32))]) (fun t_ k_ => XS.iloadN X0.here hx rfl (hb hby d27_0) rfl  k_) ?_
  refine Go.st (T' := T0) (pc' := 2) (L' := #[.val (.int (0 : Int32)), .val (.int (cn.toInt32))]) (S' := [(.int (0 : Int32)), (.int (cn.toInt32))]) (fun t_ k_ => XS.iloadN X0.here hx rfl (hb hby d27_1) rfl  k_) ?_
  refine Go.st (T' := T0) (pc' := 37) (L' := #[.val (.int (0 : Int32)), .val (.int (cn.toInt32))]) (S' := []) (fun t_ k_ => XS.icmpYes X0.here hx rfl (pc0 := 2) (pc' := 37) rfl (hb hby d27_2) rfl (flt ((own_lt16f ⟨cn, hc⟩).2.2.1 : ¬ ((cn.toInt32) < (0 : Int32)))).2.1 (by decide) (by decide) k_) ?_
  exact Go.retV X0 hx hlk hret (hb hby d27_37) (by decide) (by decide) (by rw [e0]; exact ⟨rfl, N0, rfl⟩)
theorem d28_0 : decode jdk_29_method_69_code 0 = .ok (.iload_n 0, 1) := by decide +kernel
theorem d28_1 : decode jdk_29_method_69_code 1 = .ok (.iload_n 1, 1) := by decide +kernel
theorem d28_2 : decode jdk_29_method_69_code 2 = .ok (.if_icmp .gt 7, 3) := by decide +kernel
theorem d28_9 : decode jdk_29_method_69_code 9 = .ok (.iload_n 1, 1) := by decide +kernel
theorem d28_10 : decode jdk_29_method_69_code 10 = .ok (.ireturn, 1) := by decide +kernel
def Q28 (Z : State) (cn : Nat) (h0 : Heap) (n0 : Nat) (v : Option Value) (h : Heap) (L : List Loc) : Prop := v = some (.int (cn.toInt32)) ∧ Fr n0 L ∧ h = h0
def room28 : Room := { frames := 0, cells := 0, slots := 0, locals := 0 }
set_option maxRecDepth 65536 in
set_option maxHeartbeats 40000000 in
theorem rm28 (l : Launch) (Z : State) (a0 : Array Value) (hw : ∀ d ∈ tables_1, d.before a0 Z = true) (ws : List Jvm.Cond) (cn : Nat) (h0 : Heap) (n0 : Nat) (Z0 : n0 ≤ h0.size) (hc : cn < 16) :
    MetFree l (⟨"java/lang/Math", "min", "(II)I"⟩ : MethodName) (head1 (Jvm.Cond.code (⟨"java/lang/Math", "min", "(II)I"⟩ : MethodName) jdk_29_method_69_code 2 (some .int) :: ws) room28) (fun aa_ U_ => aa_ = #[(.int (16 : Int32)), (.int (cn.toInt32))] ∧ Z.Warmed39 U_.vm ∧ U_.heap = h0) (fun _ _ _ _ _ => True) (fun _ U_ o_ W_ => ∃ v_ L_, o_ = .returned v_ ∧ (Q28 Z cn h0 n0) v_ W_.heap L_ ∧ FrameEnd U_ o_ W_ L_ room28.cells room28.slots) := by
  refine own_met (Q := (Q28 Z cn h0 n0)) (L0 := #[.val (.int (16 : Int32)), .val (.int (cn.toInt32))]) (Jvm.Free.JP.mathPlain rfl (by decide +kernel)) (fun m => by first | (simp [entryFrame, mkF, argsToLocals, Value.category]; done) | rfl) ?_
  intro p e s m below meth c T0 X0 hx hby hml hown hnm hret hlk hZ e0
  have N0 := Fr.nil n0
  refine Go.st (T' := T0) (pc' := 1) (L' := #[.val (.int (16 : Int32)), .val (.int (cn.toInt32))]) (S' := [(.int (16 : Int32))]) (fun t_ k_ => XS.iloadN X0.here hx rfl (hb hby d28_0) rfl  k_) ?_
  refine Go.st (T' := T0) (pc' := 2) (L' := #[.val (.int (16 : Int32)), .val (.int (cn.toInt32))]) (S' := [(.int (cn.toInt32)), (.int (16 : Int32))]) (fun t_ k_ => XS.iloadN X0.here hx rfl (hb hby d28_1) rfl  k_) ?_
  refine Go.st (T' := T0) (pc' := 9) (L' := #[.val (.int (16 : Int32)), .val (.int (cn.toInt32))]) (S' := []) (fun t_ k_ => XS.icmpYes X0.here hx rfl (pc0 := 2) (pc' := 9) rfl (hb hby d28_2) rfl (tlt ((own_lt16f ⟨cn, hc⟩).2.1 : ((cn.toInt32) < (16 : Int32)))).2.2.1 (by decide) (by decide) k_) ?_
  refine Go.st (T' := T0) (pc' := 10) (L' := #[.val (.int (16 : Int32)), .val (.int (cn.toInt32))]) (S' := [(.int (cn.toInt32))]) (fun t_ k_ => XS.iloadN X0.here hx rfl (hb hby d28_9) rfl  k_) ?_
  exact Go.retO X0 hx hlk hret rfl (by simp [FieldType.isReference, Value.isRef]) (hb hby d28_10) (by decide) (by decide) (by rw [e0]; exact ⟨rfl, N0, rfl⟩)
theorem d26_0 : decode jdk_65_method_133_code 0 = .ok (.iload_n 1, 1) := by decide +kernel
theorem d26_1 : decode jdk_65_method_133_code 1 = .ok (.iload_n 2, 1) := by decide +kernel
theorem d26_2 : decode jdk_65_method_133_code 2 = .ok (.invokestatic 343, 3) := by decide +kernel
theorem d26_5 : decode jdk_65_method_133_code 5 = .ok (.iload_n 2, 1) := by decide +kernel
theorem d26_6 : decode jdk_65_method_133_code 6 = .ok (.iload_n 1, 1) := by decide +kernel
theorem d26_7 : decode jdk_65_method_133_code 7 = .ok (.isub, 1) := by decide +kernel
theorem d26_8 : decode jdk_65_method_133_code 8 = .ok (.istore_n 3, 1) := by decide +kernel
theorem d26_9 : decode jdk_65_method_133_code 9 = .ok (.iload_n 3, 1) := by decide +kernel
theorem d26_10 : decode jdk_65_method_133_code 10 = .ok (.newarray .byte, 2) := by decide +kernel
theorem d26_12 : decode jdk_65_method_133_code 12 = .ok (.astore 4, 2) := by decide +kernel
theorem d26_14 : decode jdk_65_method_133_code 14 = .ok (.aload_n 0, 1) := by decide +kernel
theorem d26_15 : decode jdk_65_method_133_code 15 = .ok (.iload_n 1, 1) := by decide +kernel
theorem d26_16 : decode jdk_65_method_133_code 16 = .ok (.aload 4, 2) := by decide +kernel
theorem d26_18 : decode jdk_65_method_133_code 18 = .ok (.iconst 0, 1) := by decide +kernel
theorem d26_19 : decode jdk_65_method_133_code 19 = .ok (.aload_n 0, 1) := by decide +kernel
theorem d26_20 : decode jdk_65_method_133_code 20 = .ok (.arraylength, 1) := by decide +kernel
theorem d26_21 : decode jdk_65_method_133_code 21 = .ok (.iload_n 1, 1) := by decide +kernel
theorem d26_22 : decode jdk_65_method_133_code 22 = .ok (.isub, 1) := by decide +kernel
theorem d26_23 : decode jdk_65_method_133_code 23 = .ok (.iload_n 3, 1) := by decide +kernel
theorem d26_24 : decode jdk_65_method_133_code 24 = .ok (.invokestatic 304, 3) := by decide +kernel
theorem d26_27 : decode jdk_65_method_133_code 27 = .ok (.invokestatic 150, 3) := by decide +kernel
theorem d26_30 : decode jdk_65_method_133_code 30 = .ok (.aload 4, 2) := by decide +kernel
theorem d26_32 : decode jdk_65_method_133_code 32 = .ok (.areturn, 1) := by decide +kernel
theorem pd_10 : parseMethodDescriptor "(II)V" = some ⟨[.int, .int], none⟩ := by decide +kernel
theorem pd_11 : parseMethodDescriptor "(II)I" = some ⟨[.int, .int], some .int⟩ := by decide +kernel
def Q26 (Z : State) (ys : List Int32) (cn : Nat) (h0 : Heap) (n0 : Nat) (v : Option Value) (h : Heap) (L : List Loc) : Prop := ∃ (t : Addr) (kt : ClassId), v = some (.ref t) ∧ Fr n0 L ∧ Keep h0 h [] ∧ n0 ≤ t ∧ h0.size ≤ t ∧ Arv Z h t kt .byte (cn.toInt32) (ys.map Value.int) (.int (0 : Int32))
def room26 : Room := { frames := 1, cells := 1, slots := 16, locals := 40 }
set_option maxRecDepth 65536 in
set_option maxHeartbeats 40000000 in
theorem rm26 (l : Launch) (Z : State) (a0 : Array Value) (hw : ∀ d ∈ tables_1, d.before a0 Z = true) (ws : List Jvm.Cond) (b : Addr) (kb : ClassId) (ys : List Int32) (cn : Nat) (h0 : Heap) (n0 : Nat) (Z0 : n0 ≤ h0.size) (V_b : Arv Z h0 b kb .byte (16 : Int32) (ys.map Value.int) (.int (0 : Int32))) (hy : ys.length = cn) (hc : cn < 16) :
    MetFree l (⟨"java/util/Arrays", "copyOfRangeByte", "([BII)[B"⟩ : MethodName) (head1 (Jvm.Cond.code (⟨"java/util/Arrays", "copyOfRangeByte", "([BII)[B"⟩ : MethodName) jdk_65_method_133_code 5 (some (.array .byte)) :: ws) room26) (fun aa_ U_ => aa_ = #[(.ref b), (.int (0 : Int32)), (.int (cn.toInt32))] ∧ Z.Warmed39 U_.vm ∧ U_.heap = h0) (fun _ _ _ _ _ => True) (fun _ U_ o_ W_ => ∃ v_ L_, o_ = .returned v_ ∧ (Q26 Z ys cn h0 n0) v_ W_.heap L_ ∧ FrameEnd U_ o_ W_ L_ room26.cells room26.slots) := by
  refine own_met (Q := (Q26 Z ys cn h0 n0)) (L0 := #[.val (.ref b), .val (.int (0 : Int32)), .val (.int (cn.toInt32)), .unset, .unset]) (plainFor_of_name pn_3) (fun m => by first | (simp [entryFrame, mkF, argsToLocals, Value.category]; done) | rfl) ?_
  intro p e s m below meth c T0 X0 hx hby hml hown hnm hret hlk hZ e0
  have N0 := Fr.nil n0
  have K0 := Keep.refl h0 []
  refine Go.st (T' := T0) (pc' := 1) (L' := #[.val (.ref b), .val (.int (0 : Int32)), .val (.int (cn.toInt32)), .unset, .unset]) (S' := [(.int (0 : Int32))]) (fun t_ k_ => XS.iloadN X0.here hx rfl (hb hby d26_0) rfl  k_) ?_
  refine Go.st (T' := T0) (pc' := 2) (L' := #[.val (.ref b), .val (.int (0 : Int32)), .val (.int (cn.toInt32)), .unset, .unset]) (S' := [(.int (cn.toInt32)), (.int (0 : Int32))]) (fun t_ k_ => XS.iloadN X0.here hx rfl (hb hby d26_1) rfl  k_) ?_
  obtain ⟨_, _, ⟨T1, L1, k1, n1⟩, -, X1, ⟨Lc1, hQ1, l1, y1, z1⟩, st1⟩ := Jvm.LawKit.callS X0 hx (y := (⟨"java/util/Arrays", "checkLength", "(II)V"⟩ : MethodName)) hown (mvT hZ (hw _ (List.mem_of_getElem? (i := 151) rfl))) (mvT hZ (hw _ (List.mem_of_getElem? (i := 152) rfl))) (mvT hZ (hw _ (List.mem_of_getElem? (i := 146) rfl))) (mvT hZ (hw _ (List.mem_of_getElem? (i := 153) rfl))) (by decide) (backOf (W := 0) (rm27 l Z a0 hw [] cn h0 n0 Z0 hc) hZ (hw _ (List.mem_of_getElem? (i := 153) rfl)) (hw _ (List.mem_of_getElem? (i := 146) rfl)) (by decide) (by decide)) (g := (mkF m 2 #[.val (.ref b), .val (.int (0 : Int32)), .val (.int (cn.toInt32)), .unset, .unset] [(.int (cn.toInt32)), (.int (0 : Int32))])) rfl (by rw [hml]; rfl) (argsL := [(.int (0 : Int32)), (.int (cn.toInt32))]) (rest := []) (lenOf pd_10 rfl) rfl (by show 2 * 0 + _ ≤ _; exact Nat.le_of_eq rfl) (hb hby d26_2) (fun _ _ => ⟨rfl, e0, (by decide : 0 + 0 ≤ _), (by decide : 0 + 0 ≤ _)⟩)
  dsimp only [Pt.U, Pt.locs, Pt.cells, Pt.slots] at X1 l1 y1 z1 st1 hQ1
  subst l1 y1 z1
  obtain ⟨rfl, N1q, e1⟩ := hQ1
  have N1 := Fr.app N0 N1q
  refine Go.st (T' := T1) (pc' := 5) (L' := #[.val (.ref b), .val (.int (0 : Int32)), .val (.int (cn.toInt32)), .unset, .unset]) (S' := []) st1 ?_
  refine Go.st (T' := T1) (pc' := 6) (L' := #[.val (.ref b), .val (.int (0 : Int32)), .val (.int (cn.toInt32)), .unset, .unset]) (S' := [(.int (cn.toInt32))]) (fun t_ k_ => XS.iloadN X1.here hx rfl (hb hby d26_5) rfl  k_) ?_
  refine Go.st (T' := T1) (pc' := 7) (L' := #[.val (.ref b), .val (.int (0 : Int32)), .val (.int (cn.toInt32)), .unset, .unset]) (S' := [(.int (0 : Int32)), (.int (cn.toInt32))]) (fun t_ k_ => XS.iloadN X1.here hx rfl (hb hby d26_6) rfl  k_) ?_
  refine Go.st (T' := T1) (pc' := 8) (L' := #[.val (.ref b), .val (.int (0 : Int32)), .val (.int (cn.toInt32)), .unset, .unset]) (S' := [(.int ((cn.toInt32) - (0 : Int32)))]) (fun t_ k_ => XS.isub X1.here hx rfl (hb hby d26_7) rfl k_) ?_
  rw [(own_lt16f ⟨cn, hc⟩).2.2.2]
  refine Go.st (T' := T1) (pc' := 9) (L' := #[.val (.ref b), .val (.int (0 : Int32)), .val (.int (cn.toInt32)), .val (.int (cn.toInt32)), .unset]) (S' := []) (fun t_ k_ => XS.istoreN X1.here hx rfl (hb hby d26_8) rfl (l' := #[.val (.ref b), .val (.int (0 : Int32)), .val (.int (cn.toInt32)), .val (.int (cn.toInt32)), .unset]) rfl k_) ?_
  refine Go.st (T' := T1) (pc' := 10) (L' := #[.val (.ref b), .val (.int (0 : Int32)), .val (.int (cn.toInt32)), .val (.int (cn.toInt32)), .unset]) (S' := [(.int (cn.toInt32))]) (fun t_ k_ => XS.iloadN X1.here hx rfl (hb hby d26_9) rfl  k_) ?_
  obtain ⟨T2, h2, k2, X2, e2, E2, A2, st2⟩ := newP X1 hx hZ (hw _ (List.mem_of_getElem? (i := 19) rfl)) e1 (g := (mkF m 10 #[.val (.ref b), .val (.int (0 : Int32)), .val (.int (cn.toInt32)), .val (.int (cn.toInt32)), .unset] [(.int (cn.toInt32))])) rfl (hb hby d26_10) rfl (own_nnN (by omega)) (cap := 16) (by rw [own_tn (by omega)]; omega) (by decide) (by decide) (by decide)
  obtain ⟨b2, g2⟩ : ∃ z, z = h0.size := ⟨_, rfl⟩
  rw [← g2] at A2 st2
  have ne_b_b2 : b ≠ b2 := Nat.ne_of_lt (Nat.lt_of_lt_of_le V_b.lt (Nat.le_of_eq g2.symm))
  have g_b2 : n0 ≤ b2 := Nat.le_trans Z0 (Nat.le_of_eq g2.symm)
  have sz_b2 : h0.size ≤ b2 := Nat.le_trans K0.1 (Nat.le_of_eq g2.symm)
  replace Z0 := Nat.le_trans Z0 E2.1
  replace K0 := K0.ext E2
  replace V_b := V_b.ext E2
  have V_b2 : Arv Z h2 b2 k2 .byte (cn.toInt32) [] (.int (0 : Int32)) := Arv.new A2 (own_nnN (by omega))
  refine Go.st (T' := T2) (pc' := 12) (L' := #[.val (.ref b), .val (.int (0 : Int32)), .val (.int (cn.toInt32)), .val (.int (cn.toInt32)), .unset]) (S' := [(.ref b2)]) st2 ?_
  refine Go.st (T' := T2) (pc' := 14) (L' := #[.val (.ref b), .val (.int (0 : Int32)), .val (.int (cn.toInt32)), .val (.int (cn.toInt32)), .val (.ref b2)]) (S' := []) (fun t_ k_ => XS.astore X2.here hx rfl (hb hby d26_12) rfl rfl (l' := #[.val (.ref b), .val (.int (0 : Int32)), .val (.int (cn.toInt32)), .val (.int (cn.toInt32)), .val (.ref b2)]) rfl k_) ?_
  refine Go.st (T' := T2) (pc' := 15) (L' := #[.val (.ref b), .val (.int (0 : Int32)), .val (.int (cn.toInt32)), .val (.int (cn.toInt32)), .val (.ref b2)]) (S' := [(.ref b)]) (fun t_ k_ => XS.aloadN X2.here hx rfl (hb hby d26_14) rfl rfl  k_) ?_
  refine Go.st (T' := T2) (pc' := 16) (L' := #[.val (.ref b), .val (.int (0 : Int32)), .val (.int (cn.toInt32)), .val (.int (cn.toInt32)), .val (.ref b2)]) (S' := [(.int (0 : Int32)), (.ref b)]) (fun t_ k_ => XS.iloadN X2.here hx rfl (hb hby d26_15) rfl  k_) ?_
  refine Go.st (T' := T2) (pc' := 18) (L' := #[.val (.ref b), .val (.int (0 : Int32)), .val (.int (cn.toInt32)), .val (.int (cn.toInt32)), .val (.ref b2)]) (S' := [(.ref b2), (.int (0 : Int32)), (.ref b)]) (fun t_ k_ => XS.aload X2.here hx rfl (hb hby d26_16) rfl rfl  k_) ?_
  refine Go.st (T' := T2) (pc' := 19) (L' := #[.val (.ref b), .val (.int (0 : Int32)), .val (.int (cn.toInt32)), .val (.int (cn.toInt32)), .val (.ref b2)]) (S' := [(.int (0 : Int32)), (.ref b2), (.int (0 : Int32)), (.ref b)]) (fun t_ k_ => XS.iconst X2.here hx rfl (hb hby d26_18) k_) ?_
  refine Go.st (T' := T2) (pc' := 20) (L' := #[.val (.ref b), .val (.int (0 : Int32)), .val (.int (cn.toInt32)), .val (.int (cn.toInt32)), .val (.ref b2)]) (S' := [(.ref b), (.int (0 : Int32)), (.ref b2), (.int (0 : Int32)), (.ref b)]) (fun t_ k_ => XS.aloadN X2.here hx rfl (hb hby d26_19) rfl rfl  k_) ?_
  obtain ⟨cl3, Ar3, -, q3a, q3b, -, -⟩ := id V_b
  refine Go.st (T' := T2) (pc' := 21) (L' := #[.val (.ref b), .val (.int (0 : Int32)), .val (.int (cn.toInt32)), .val (.int (cn.toInt32)), .val (.ref b2)]) (S' := [(.int (16 : Int32)), (.int (0 : Int32)), (.ref b2), (.int (0 : Int32)), (.ref b)]) (fun t_ k_ => own_len X2 hx hZ e2 Ar3 q3a q3b (g := (mkF m 20 #[.val (.ref b), .val (.int (0 : Int32)), .val (.int (cn.toInt32)), .val (.int (cn.toInt32)), .val (.ref b2)] [(.ref b), (.int (0 : Int32)), (.ref b2), (.int (0 : Int32)), (.ref b)])) rfl rfl (hb hby d26_20) t_ k_) ?_
  refine Go.st (T' := T2) (pc' := 22) (L' := #[.val (.ref b), .val (.int (0 : Int32)), .val (.int (cn.toInt32)), .val (.int (cn.toInt32)), .val (.ref b2)]) (S' := [(.int (0 : Int32)), (.int (16 : Int32)), (.int (0 : Int32)), (.ref b2), (.int (0 : Int32)), (.ref b)]) (fun t_ k_ => XS.iloadN X2.here hx rfl (hb hby d26_21) rfl  k_) ?_
  refine Go.st (T' := T2) (pc' := 23) (L' := #[.val (.ref b), .val (.int (0 : Int32)), .val (.int (cn.toInt32)), .val (.int (cn.toInt32)), .val (.ref b2)]) (S' := [(.int ((16 : Int32) - (0 : Int32))), (.int (0 : Int32)), (.ref b2), (.int (0 : Int32)), (.ref b)]) (fun t_ k_ => XS.isub X2.here hx rfl (hb hby d26_22) rfl k_) ?_
  rw [show ((16 : Int32) - (0 : Int32)) = (16 : Int32) from by decide]
  refine Go.st (T' := T2) (pc' := 24) (L' := #[.val (.ref b), .val (.int (0 : Int32)), .val (.int (cn.toInt32)), .val (.int (cn.toInt32)), .val (.ref b2)]) (S' := [(.int (cn.toInt32)), (.int (16 : Int32)), (.int (0 : Int32)), (.ref b2), (.int (0 : Int32)), (.ref b)]) (fun t_ k_ => XS.iloadN X2.here hx rfl (hb hby d26_23) rfl  k_) ?_
  obtain ⟨_, _, ⟨T4, L4, k4, n4⟩, -, X4, ⟨Lc4, hQ4, l4, y4, z4⟩, st4⟩ := Jvm.LawKit.callS X2 hx (y := (⟨"java/lang/Math", "min", "(II)I"⟩ : MethodName)) hown (mvT hZ (hw _ (List.mem_of_getElem? (i := 154) rfl))) (mvT hZ (hw _ (List.mem_of_getElem? (i := 155) rfl))) (mvT hZ (hw _ (List.mem_of_getElem? (i := 156) rfl))) (mvT hZ (hw _ (List.mem_of_getElem? (i := 157) rfl))) (by decide) (backOf (W := 4) (rm28 l Z a0 hw [] cn h2 n0 Z0 hc) hZ (hw _ (List.mem_of_getElem? (i := 157) rfl)) (hw _ (List.mem_of_getElem? (i := 156) rfl)) (by decide) (by decide)) (g := (mkF m 24 #[.val (.ref b), .val (.int (0 : Int32)), .val (.int (cn.toInt32)), .val (.int (cn.toInt32)), .val (.ref b2)] [(.int (cn.toInt32)), (.int (16 : Int32)), (.int (0 : Int32)), (.ref b2), (.int (0 : Int32)), (.ref b)])) rfl (by rw [hml]; rfl) (argsL := [(.int (16 : Int32)), (.int (cn.toInt32))]) (rest := [(.int (0 : Int32)), (.ref b2), (.int (0 : Int32)), (.ref b)]) (lenOf pd_11 rfl) rfl (by show 2 * 0 + _ ≤ _; exact Nat.le_of_eq rfl) (hb hby d26_24) (fun _ _ => ⟨rfl, e2, (by decide : 1 + 0 ≤ _), (by decide : 16 + 0 ≤ _)⟩)
  dsimp only [Pt.U, Pt.locs, Pt.cells, Pt.slots] at X4 l4 y4 z4 st4 hQ4
  subst l4 y4 z4
  obtain ⟨rfl, N4q, e4⟩ := hQ4
  have N4 := Fr.app N1 N4q
  refine Go.st (T' := T4) (pc' := 27) (L' := #[.val (.ref b), .val (.int (0 : Int32)), .val (.int (cn.toInt32)), .val (.int (cn.toInt32)), .val (.ref b2)]) (S' := [(.int (cn.toInt32)), (.int (0 : Int32)), (.ref b2), (.int (0 : Int32)), (.ref b)]) st4 ?_
  have Vp5 := own_padN (ys := []) (cn) V_b2
  obtain ⟨T5, h5, L5, X5, e5, N5, K5, V5, st5⟩ := cpA X4 hx hZ hown (hw _ (List.mem_of_getElem? (i := 158) rfl)) (hw _ (List.mem_of_getElem? (i := 112) rfl)) (hw _ (List.mem_of_getElem? (i := 110) rfl)) (hw _ (List.mem_of_getElem? (i := 111) rfl)) e4 V_b Vp5 (Or.inl ⟨rfl, rfl⟩) (by decide) (by decide) (own_nnN (by omega)) (own_h4' (by omega)) own_h4 rfl (own_hl (ys := []) (c := 0) rfl (by omega)) N4 g_b2 (g := (mkF m 27 #[.val (.ref b), .val (.int (0 : Int32)), .val (.int (cn.toInt32)), .val (.int (cn.toInt32)), .val (.ref b2)] [(.int (cn.toInt32)), (.int (0 : Int32)), (.ref b2), (.int (0 : Int32)), (.ref b)])) rfl (by rw [hml]; rfl) rfl (hb hby d26_27) (by decide) (W := 0) (by show 2 * 0 + _ ≤ _; exact Nat.le_of_eq rfl) (by decide)
  replace Z0 := Nat.le_trans Z0 K5.1
  replace K0 := K0.trans K5 (allS (Or.inr sz_b2) all0)
  replace V_b := V_b.keep K5 (ninS ne_b_b2 nin0)
  have V_b2 : Arv Z h5 b2 k2 .byte (cn.toInt32) (ys.map Value.int) (.int (0 : Int32)) := (congrArg (fun z_ => Arv Z h5 b2 k2 .byte (cn.toInt32) z_ (.int (0 : Int32))) (own_cat (ys := []) (bs := ys) (c := 0) (n := cn) rfl hy (by omega))).mp V5
  refine Go.st (T' := T5) (pc' := 30) (L' := #[.val (.ref b), .val (.int (0 : Int32)), .val (.int (cn.toInt32)), .val (.int (cn.toInt32)), .val (.ref b2)]) (S' := []) st5 ?_
  refine Go.st (T' := T5) (pc' := 32) (L' := #[.val (.ref b), .val (.int (0 : Int32)), .val (.int (cn.toInt32)), .val (.int (cn.toInt32)), .val (.ref b2)]) (S' := [(.ref b2)]) (fun t_ k_ => XS.aload X5.here hx rfl (hb hby d26_30) rfl rfl  k_) ?_
  exact Go.retO X5 hx hlk hret rfl (by simp [FieldType.isReference, Value.isRef]) (hb hby d26_32) (by decide) (by decide) (by rw [e5]; exact ⟨b2, _, rfl, N5, K0, g_b2, sz_b2, V_b2⟩)
theorem d25_0 : decode jdk_65_method_132_code 0 = .ok (.iload_n 1, 1) := by decide +kernel
theorem d25_1 : decode jdk_65_method_132_code 1 = .ok (.ifCond .ne 9, 3) := by decide +kernel
theorem d25_4 : decode jdk_65_method_132_code 4 = .ok (.iload_n 2, 1) := by decide +kernel
theorem d25_5 : decode jdk_65_method_132_code 5 = .ok (.aload_n 0, 1) := by decide +kernel
theorem d25_6 : decode jdk_65_method_132_code 6 = .ok (.arraylength, 1) := by decide +kernel
theorem d25_7 : decode jdk_65_method_132_code 7 = .ok (.if_icmp .eq 10, 3) := by decide +kernel
theorem d25_10 : decode jdk_65_method_132_code 10 = .ok (.aload_n 0, 1) := by decide +kernel
theorem d25_11 : decode jdk_65_method_132_code 11 = .ok (.iload_n 1, 1) := by decide +kernel
theorem d25_12 : decode jdk_65_method_132_code 12 = .ok (.iload_n 2, 1) := by decide +kernel
theorem d25_13 : decode jdk_65_method_132_code 13 = .ok (.invokestatic 339, 3) := by decide +kernel
theorem d25_16 : decode jdk_65_method_132_code 16 = .ok (.areturn, 1) := by decide +kernel
theorem pd_12 : parseMethodDescriptor "([BII)[B" = some ⟨[(.array .byte), .int, .int], some (.array .byte)⟩ := by decide +kernel
def Q25 (Z : State) (ys : List Int32) (cn : Nat) (h0 : Heap) (n0 : Nat) (v : Option Value) (h : Heap) (L : List Loc) : Prop := ∃ (t : Addr) (kt : ClassId), v = some (.ref t) ∧ Fr n0 L ∧ Keep h0 h [] ∧ n0 ≤ t ∧ h0.size ≤ t ∧ Arv Z h t kt .byte (cn.toInt32) (ys.map Value.int) (.int (0 : Int32))
def room25 : Room := { frames := 2, cells := 1, slots := 16, locals := 56 }
set_option maxRecDepth 65536 in
set_option maxHeartbeats 40000000 in
theorem rm25 (l : Launch) (Z : State) (a0 : Array Value) (hw : ∀ d ∈ tables_1, d.before a0 Z = true) (ws : List Jvm.Cond) (b : Addr) (kb : ClassId) (ys : List Int32) (cn : Nat) (h0 : Heap) (n0 : Nat) (Z0 : n0 ≤ h0.size) (V_b : Arv Z h0 b kb .byte (16 : Int32) (ys.map Value.int) (.int (0 : Int32))) (hy : ys.length = cn) (hc : cn < 16) :
    MetFree l (⟨"java/util/Arrays", "copyOfRange", "([BII)[B"⟩ : MethodName) (head1 (Jvm.Cond.code (⟨"java/util/Arrays", "copyOfRange", "([BII)[B"⟩ : MethodName) jdk_65_method_132_code 3 (some (.array .byte)) :: ws) room25) (fun aa_ U_ => aa_ = #[(.ref b), (.int (0 : Int32)), (.int (cn.toInt32))] ∧ Z.Warmed39 U_.vm ∧ U_.heap = h0) (fun _ _ _ _ _ => True) (fun _ U_ o_ W_ => ∃ v_ L_, o_ = .returned v_ ∧ (Q25 Z ys cn h0 n0) v_ W_.heap L_ ∧ FrameEnd U_ o_ W_ L_ room25.cells room25.slots) := by
  refine own_met (Q := (Q25 Z ys cn h0 n0)) (L0 := #[.val (.ref b), .val (.int (0 : Int32)), .val (.int (cn.toInt32))]) (plainFor_of_name pn_3) (fun m => by first | (simp [entryFrame, mkF, argsToLocals, Value.category]; done) | rfl) ?_
  intro p e s m below meth c T0 X0 hx hby hml hown hnm hret hlk hZ e0
  have N0 := Fr.nil n0
  have K0 := Keep.refl h0 []
  refine Go.st (T' := T0) (pc' := 1) (L' := #[.val (.ref b), .val (.int (0 : Int32)), .val (.int (cn.toInt32))]) (S' := [(.int (0 : Int32))]) (fun t_ k_ => XS.iloadN X0.here hx rfl (hb hby d25_0) rfl  k_) ?_
  refine Go.st (T' := T0) (pc' := 4) (L' := #[.val (.ref b), .val (.int (0 : Int32)), .val (.int (cn.toInt32))]) (S' := []) (fun t_ k_ => XS.ifNo X0.here hx rfl (hb hby d25_1) rfl ((if0 _ _).trans (teq (by decide : ((0 : Int32) = (0 : Int32)))).2) k_) ?_
  refine Go.st (T' := T0) (pc' := 5) (L' := #[.val (.ref b), .val (.int (0 : Int32)), .val (.int (cn.toInt32))]) (S' := [(.int (cn.toInt32))]) (fun t_ k_ => XS.iloadN X0.here hx rfl (hb hby d25_4) rfl  k_) ?_
  refine Go.st (T' := T0) (pc' := 6) (L' := #[.val (.ref b), .val (.int (0 : Int32)), .val (.int (cn.toInt32))]) (S' := [(.ref b), (.int (cn.toInt32))]) (fun t_ k_ => XS.aloadN X0.here hx rfl (hb hby d25_5) rfl rfl  k_) ?_
  obtain ⟨cl1, Ar1, -, q1a, q1b, -, -⟩ := id V_b
  refine Go.st (T' := T0) (pc' := 7) (L' := #[.val (.ref b), .val (.int (0 : Int32)), .val (.int (cn.toInt32))]) (S' := [(.int (16 : Int32)), (.int (cn.toInt32))]) (fun t_ k_ => own_len X0 hx hZ e0 Ar1 q1a q1b (g := (mkF m 6 #[.val (.ref b), .val (.int (0 : Int32)), .val (.int (cn.toInt32))] [(.ref b), (.int (cn.toInt32))])) rfl rfl (hb hby d25_6) t_ k_) ?_
  refine Go.st (T' := T0) (pc' := 10) (L' := #[.val (.ref b), .val (.int (0 : Int32)), .val (.int (cn.toInt32))]) (S' := []) (fun t_ k_ => XS.icmpNo X0.here hx rfl (hb hby d25_7) rfl (feq ((own_lt16f ⟨cn, hc⟩).1 : ¬ ((cn.toInt32) = (16 : Int32)))).1 k_) ?_
  refine Go.st (T' := T0) (pc' := 11) (L' := #[.val (.ref b), .val (.int (0 : Int32)), .val (.int (cn.toInt32))]) (S' := [(.ref b)]) (fun t_ k_ => XS.aloadN X0.here hx rfl (hb hby d25_10) rfl rfl  k_) ?_
  refine Go.st (T' := T0) (pc' := 12) (L' := #[.val (.ref b), .val (.int (0 : Int32)), .val (.int (cn.toInt32))]) (S' := [(.int (0 : Int32)), (.ref b)]) (fun t_ k_ => XS.iloadN X0.here hx rfl (hb hby d25_11) rfl  k_) ?_
  refine Go.st (T' := T0) (pc' := 13) (L' := #[.val (.ref b), .val (.int (0 : Int32)), .val (.int (cn.toInt32))]) (S' := [(.int (cn.toInt32)), (.int (0 : Int32)), (.ref b)]) (fun t_ k_ => XS.iloadN X0.here hx rfl (hb hby d25_12) rfl  k_) ?_
  obtain ⟨_, _, ⟨T2, L2, k2, n2⟩, -, X2, ⟨Lc2, hQ2, l2, y2, z2⟩, st2⟩ := Jvm.LawKit.callS X0 hx (y := (⟨"java/util/Arrays", "copyOfRangeByte", "([BII)[B"⟩ : MethodName)) hown (mvT hZ (hw _ (List.mem_of_getElem? (i := 148) rfl))) (mvT hZ (hw _ (List.mem_of_getElem? (i := 149) rfl))) (mvT hZ (hw _ (List.mem_of_getElem? (i := 146) rfl))) (mvT hZ (hw _ (List.mem_of_getElem? (i := 150) rfl))) (by decide) (backOf (W := 0) (rm26 l Z a0 hw [] b _ _ (cn) h0 n0 Z0 V_b hy hc) hZ (hw _ (List.mem_of_getElem? (i := 150) rfl)) (hw _ (List.mem_of_getElem? (i := 146) rfl)) (by decide) (by decide)) (g := (mkF m 13 #[.val (.ref b), .val (.int (0 : Int32)), .val (.int (cn.toInt32))] [(.int (cn.toInt32)), (.int (0 : Int32)), (.ref b)])) rfl (by rw [hml]; rfl) (argsL := [(.ref b), (.int (0 : Int32)), (.int (cn.toInt32))]) (rest := []) (lenOf pd_12 rfl) rfl (by show 2 * 0 + _ ≤ _; exact Nat.le_of_eq rfl) (hb hby d25_13) (fun _ _ => ⟨rfl, e0, (by decide : 0 + 1 ≤ _), (by decide : 0 + 16 ≤ _)⟩)
  dsimp only [Pt.U, Pt.locs, Pt.cells, Pt.slots] at X2 l2 y2 z2 st2 hQ2
  subst l2 y2 z2
  obtain ⟨tt2, kt2, rfl, N2q, K2, g_tt2, lt2, Vt2⟩ := hQ2
  have N2 := Fr.app N0 N2q
  have ne_b_tt2 : b ≠ tt2 := Nat.ne_of_lt (Nat.lt_of_lt_of_le V_b.lt lt2)
  have sz_tt2 : h0.size ≤ tt2 := Nat.le_trans K0.1 lt2
  obtain ⟨h2, e2⟩ : ∃ z, T2.heap = z := ⟨_, rfl⟩
  rw [e2] at K2 Vt2
  replace Z0 := Nat.le_trans Z0 K2.1
  replace K0 := K0.trans K2 all0
  replace V_b := V_b.keep K2 nin0
  refine Go.st (T' := T2) (pc' := 16) (L' := #[.val (.ref b), .val (.int (0 : Int32)), .val (.int (cn.toInt32))]) (S' := [(.ref tt2)]) st2 ?_
  exact Go.retO X2 hx hlk hret rfl (by simp [FieldType.isReference, Value.isRef]) (hb hby d25_16) (by decide) (by decide) (by rw [e2]; exact ⟨tt2, _, rfl, N2, K0, g_tt2, sz_tt2, Vt2⟩)
theorem d20_0 : decode jdk_42_method_150_code 0 = .ok (.aload_n 0, 1) := by decide +kernel
theorem d20_1 : decode jdk_42_method_150_code 1 = .ok (.invokespecial 1, 3) := by decide +kernel
theorem d20_4 : decode jdk_42_method_150_code 4 = .ok (.aload_n 1, 1) := by decide +kernel
theorem d20_5 : decode jdk_42_method_150_code 5 = .ok (.invokevirtual 552, 3) := by decide +kernel
theorem d20_8 : decode jdk_42_method_150_code 8 = .ok (.astore_n 3, 1) := by decide +kernel
theorem d20_9 : decode jdk_42_method_150_code 9 = .ok (.aload_n 1, 1) := by decide +kernel
theorem d20_10 : decode jdk_42_method_150_code 10 = .ok (.invokevirtual 549, 3) := by decide +kernel
theorem d20_13 : decode jdk_42_method_150_code 13 = .ok (.istore 4, 2) := by decide +kernel
theorem d20_15 : decode jdk_42_method_150_code 15 = .ok (.aload_n 1, 1) := by decide +kernel
theorem d20_16 : decode jdk_42_method_150_code 16 = .ok (.invokevirtual 1047, 3) := by decide +kernel
theorem d20_19 : decode jdk_42_method_150_code 19 = .ok (.ifCond .eq 22, 3) := by decide +kernel
theorem d20_22 : decode jdk_42_method_150_code 22 = .ok (.aload_n 0, 1) := by decide +kernel
theorem d20_23 : decode jdk_42_method_150_code 23 = .ok (.iconst 0, 1) := by decide +kernel
theorem d20_24 : decode jdk_42_method_150_code 24 = .ok (.putfield 15, 3) := by decide +kernel
theorem d20_27 : decode jdk_42_method_150_code 27 = .ok (.aload_n 0, 1) := by decide +kernel
theorem d20_28 : decode jdk_42_method_150_code 28 = .ok (.aload_n 3, 1) := by decide +kernel
theorem d20_29 : decode jdk_42_method_150_code 29 = .ok (.iconst 0, 1) := by decide +kernel
theorem d20_30 : decode jdk_42_method_150_code 30 = .ok (.iload 4, 2) := by decide +kernel
theorem d20_32 : decode jdk_42_method_150_code 32 = .ok (.invokestatic 54, 3) := by decide +kernel
theorem d20_35 : decode jdk_42_method_150_code 35 = .ok (.putfield 9, 3) := by decide +kernel
theorem d20_38 : decode jdk_42_method_150_code 38 = .ok (.goto 59, 3) := by decide +kernel
theorem d20_97 : decode jdk_42_method_150_code 97 = .ok (.return_, 1) := by decide +kernel
theorem pd_13 : parseMethodDescriptor "()[B" = some ⟨[], some (.array .byte)⟩ := by decide +kernel
def Q20 (Z : State) (a1 : Addr) (ys : List Int32) (cn : Nat) (h0 : Heap) (n0 : Nat) (v : Option Value) (h : Heap) (L : List Loc) : Prop := ∃ (t : Addr) (kt : ClassId), v = none ∧ Fr n0 L ∧ Keep h0 h [a1] ∧ h0.size ≤ t ∧ Fld Z h a1 "java/lang/String" "coder" "B" (.int (0 : Int32)) ∧ Fld Z h a1 "java/lang/String" "value" "[B" (.ref t) ∧ Arv Z h t kt .byte (cn.toInt32) (ys.map Value.int) (.int (0 : Int32))
def room20 : Room := { frames := 3, cells := 1, slots := 16, locals := 71 }
set_option maxRecDepth 65536 in
set_option maxHeartbeats 40000000 in
theorem rm20 (l : Launch) (Z : State) (a0 : Array Value) (hw : ∀ d ∈ tables_1, d.before a0 Z = true) (ws : List Jvm.Cond) (a1 : Addr) (a2 : Addr) (b : Addr) (kb : ClassId) (ys : List Int32) (cn : Nat) (gC : Int32) (h0 : Heap) (n0 : Nat) (Z0 : n0 ≤ h0.size) (E_a1 : Exa Z h0 a1 "java/lang/String") (g_a1 : n0 ≤ a1) (F_value : Fld Z h0 a1 "java/lang/String" "value" "[B" .null) (F_coder : Fld Z h0 a1 "java/lang/String" "coder" "B" (.int (0 : Int32))) (n1 : a1 ≠ a2) (n2 : a1 ≠ b) (SC : Sta Z Z.heap "java/lang/String" "COMPACT_STRINGS" "Z" (.int gC)) (PC : ¬ (gC = (0 : Int32))) (O0 : Old Z n0 h0) (E_a2 : Exa Z h0 a2 "java/lang/StringBuilder") (G_value : Fld Z h0 a2 "java/lang/AbstractStringBuilder" "value" "[B" (.ref b)) (G_coder : Fld Z h0 a2 "java/lang/AbstractStringBuilder" "coder" "B" (.int (0 : Int32))) (G_count : Fld Z h0 a2 "java/lang/AbstractStringBuilder" "count" "I" (.int (cn.toInt32))) (V_b : Arv Z h0 b kb .byte (16 : Int32) (ys.map Value.int) (.int (0 : Int32))) (hy : ys.length = cn) (hc : cn < 16) :
    MetFree l (⟨"java/lang/String", "<init>", "(Ljava/lang/AbstractStringBuilder;Ljava/lang/Void;)V"⟩ : MethodName) (head1 (Jvm.Cond.code (⟨"java/lang/String", "<init>", "(Ljava/lang/AbstractStringBuilder;Ljava/lang/Void;)V"⟩ : MethodName) jdk_42_method_150_code 5 none :: ws) room20) (fun aa_ U_ => aa_ = #[(.ref a1), (.ref a2), .null] ∧ Z.Warmed39 U_.vm ∧ U_.heap = h0) (fun _ _ _ _ _ => True) (fun _ U_ o_ W_ => ∃ v_ L_, o_ = .returned v_ ∧ (Q20 Z a1 ys cn h0 n0) v_ W_.heap L_ ∧ FrameEnd U_ o_ W_ L_ room20.cells room20.slots) := by
  refine own_met (Q := (Q20 Z a1 ys cn h0 n0)) (L0 := #[.val (.ref a1), .val (.ref a2), .val .null, .unset, .unset]) (plainFor_of_name pn_0) (fun m => by first | (simp [entryFrame, mkF, argsToLocals, Value.category]; done) | rfl) ?_
  intro p e s m below meth c T0 X0 hx hby hml hown hnm hret hlk hZ e0
  have N0 := Fr.nil n0
  have K0 := Keep.refl h0 [a1]
  refine Go.st (T' := T0) (pc' := 1) (L' := #[.val (.ref a1), .val (.ref a2), .val .null, .unset, .unset]) (S' := [(.ref a1)]) (fun t_ k_ => XS.aloadN X0.here hx rfl (hb hby d20_0) rfl rfl  k_) ?_
  obtain ⟨T1, X1, e1, st1⟩ := initO X0 hx hZ hown (hw _ (List.mem_of_getElem? (i := 15) rfl)) (hw _ (List.mem_of_getElem? (i := 16) rfl)) (hw _ (List.mem_of_getElem? (i := 17) rfl)) e0 (g := (mkF m 1 #[.val (.ref a1), .val (.ref a2), .val .null, .unset, .unset] [(.ref a1)])) rfl (by rw [hml]; rfl) rfl (hb hby d20_1) (by decide) (W := 0) (by show 2 * 0 + _ ≤ _; exact Nat.le_of_eq rfl) (by decide)
  refine Go.st (T' := T1) (pc' := 4) (L' := #[.val (.ref a1), .val (.ref a2), .val .null, .unset, .unset]) (S' := []) st1 ?_
  refine Go.st (T' := T1) (pc' := 5) (L' := #[.val (.ref a1), .val (.ref a2), .val .null, .unset, .unset]) (S' := [(.ref a2)]) (fun t_ k_ => XS.aloadN X1.here hx rfl (hb hby d20_4) rfl rfl  k_) ?_
  obtain ⟨cq2, kq2, q2a, q2b, q2c⟩ := isOf hZ e1 E_a2
  obtain ⟨_, _, ⟨T2, L2, k2, n2⟩, -, X2, ⟨Lc2, hQ2, l2, y2, z2⟩, st2⟩ := X1.virtualBack hx (y := (⟨"java/lang/AbstractStringBuilder", "getValue", "()[B"⟩ : MethodName)) (z := (⟨"java/lang/AbstractStringBuilder", "getValue", "()[B"⟩ : MethodName)) hown (mvT hZ (hw _ (List.mem_of_getElem? (i := 126) rfl))) (mvT hZ (hw _ (List.mem_of_getElem? (i := 127) rfl))) (notFace_of_selects (args := #[]) (mvT hZ (hw _ (List.mem_of_getElem? (i := 129) rfl)))) (mvT hZ (hw _ (List.mem_of_getElem? (i := 129) rfl))) (mvT hZ (hw _ (List.mem_of_getElem? (i := 128) rfl))) (by decide) (backOf (W := 0) (rm21 l Z a0 hw [] a2 b h0 n0 Z0 G_value) hZ (hw _ (List.mem_of_getElem? (i := 130) rfl)) (hw _ (List.mem_of_getElem? (i := 57) rfl)) (by decide) (by decide)) q2a q2c (g := (mkF m 5 #[.val (.ref a1), .val (.ref a2), .val .null, .unset, .unset] [(.ref a2)])) rfl (by rw [hml]; rfl) (Steps.refl _) (argsL := []) (rest := []) (lenOf pd_13 rfl) rfl (by show 2 * 0 + _ ≤ _; exact Nat.le_of_eq rfl) (hb hby d20_5) (fun _ _ => ⟨rfl, e1, (by decide : 0 + 0 ≤ _), (by decide : 0 + 0 ≤ _)⟩)
  dsimp only [Pt.U, Pt.locs, Pt.cells, Pt.slots] at X2 l2 y2 z2 st2 hQ2
  subst l2 y2 z2
  obtain ⟨rfl, N2q, e2⟩ := hQ2
  have N2 := Fr.app N0 N2q
  refine Go.tr (T' := T2) (pc' := 8) (L' := #[.val (.ref a1), .val (.ref a2), .val .null, .unset, .unset]) (S' := [(.ref b)]) st2 ?_
  refine Go.st (T' := T2) (pc' := 9) (L' := #[.val (.ref a1), .val (.ref a2), .val .null, .val (.ref b), .unset]) (S' := []) (fun t_ k_ => XS.astoreN X2.here hx rfl (hb hby d20_8) rfl rfl (l' := #[.val (.ref a1), .val (.ref a2), .val .null, .val (.ref b), .unset]) rfl k_) ?_
  refine Go.st (T' := T2) (pc' := 10) (L' := #[.val (.ref a1), .val (.ref a2), .val .null, .val (.ref b), .unset]) (S' := [(.ref a2)]) (fun t_ k_ => XS.aloadN X2.here hx rfl (hb hby d20_9) rfl rfl  k_) ?_
  obtain ⟨cq3, kq3, q3a, q3b, q3c⟩ := isOf hZ e2 E_a2
  obtain ⟨_, _, ⟨T3, L3, k3, n3⟩, -, X3, ⟨Lc3, hQ3, l3, y3, z3⟩, st3⟩ := X2.virtualBack hx (y := (⟨"java/lang/AbstractStringBuilder", "length", "()I"⟩ : MethodName)) (z := (⟨"java/lang/StringBuilder", "length", "()I"⟩ : MethodName)) hown (mvT hZ (hw _ (List.mem_of_getElem? (i := 131) rfl))) (mvT hZ (hw _ (List.mem_of_getElem? (i := 132) rfl))) (own_nf (y := (⟨"java/lang/AbstractStringBuilder", "length", "()I"⟩ : MethodName)) (args := #[]) (mvT hZ (hw _ (List.mem_of_getElem? (i := 91) rfl))) rfl) (mvT hZ (hw _ (List.mem_of_getElem? (i := 134) rfl))) (mvT hZ (hw _ (List.mem_of_getElem? (i := 135) rfl))) (by decide) (backOf (W := 0) (rm22 l Z a0 hw [] a2 (cn) h0 n0 Z0 E_a2 G_count) hZ (hw _ (List.mem_of_getElem? (i := 136) rfl)) (hw _ (List.mem_of_getElem? (i := 49) rfl)) (by decide) (by decide)) q3a q3c (g := (mkF m 10 #[.val (.ref a1), .val (.ref a2), .val .null, .val (.ref b), .unset] [(.ref a2)])) rfl (by rw [hml]; rfl) (Steps.refl _) (argsL := []) (rest := []) (lenOf pd_4 rfl) rfl (by show 2 * 0 + _ ≤ _; exact Nat.le_of_eq rfl) (hb hby d20_10) (fun _ _ => ⟨rfl, e2, (by decide : 0 + 0 ≤ _), (by decide : 0 + 0 ≤ _)⟩)
  dsimp only [Pt.U, Pt.locs, Pt.cells, Pt.slots] at X3 l3 y3 z3 st3 hQ3
  subst l3 y3 z3
  obtain ⟨rfl, N3q, e3⟩ := hQ3
  have N3 := Fr.app N2 N3q
  refine Go.tr (T' := T3) (pc' := 13) (L' := #[.val (.ref a1), .val (.ref a2), .val .null, .val (.ref b), .unset]) (S' := [(.int (cn.toInt32))]) st3 ?_
  refine Go.st (T' := T3) (pc' := 15) (L' := #[.val (.ref a1), .val (.ref a2), .val .null, .val (.ref b), .val (.int (cn.toInt32))]) (S' := []) (fun t_ k_ => XS.istore X3.here hx rfl (hb hby d20_13) rfl (l' := #[.val (.ref a1), .val (.ref a2), .val .null, .val (.ref b), .val (.int (cn.toInt32))]) rfl k_) ?_
  refine Go.st (T' := T3) (pc' := 16) (L' := #[.val (.ref a1), .val (.ref a2), .val .null, .val (.ref b), .val (.int (cn.toInt32))]) (S' := [(.ref a2)]) (fun t_ k_ => XS.aloadN X3.here hx rfl (hb hby d20_15) rfl rfl  k_) ?_
  obtain ⟨cq4, kq4, q4a, q4b, q4c⟩ := isOf hZ e3 E_a2
  obtain ⟨_, _, ⟨T4, L4, k4, n4⟩, -, X4, ⟨Lc4, hQ4, l4, y4, z4⟩, st4⟩ := X3.virtualBack hx (y := (⟨"java/lang/AbstractStringBuilder", "isLatin1", "()Z"⟩ : MethodName)) (z := (⟨"java/lang/AbstractStringBuilder", "isLatin1", "()Z"⟩ : MethodName)) hown (mvT hZ (hw _ (List.mem_of_getElem? (i := 139) rfl))) (mvT hZ (hw _ (List.mem_of_getElem? (i := 140) rfl))) (notFace_of_selects (args := #[]) (mvT hZ (hw _ (List.mem_of_getElem? (i := 142) rfl)))) (mvT hZ (hw _ (List.mem_of_getElem? (i := 142) rfl))) (mvT hZ (hw _ (List.mem_of_getElem? (i := 141) rfl))) (by decide) (backOf (W := 0) (rm24 l Z a0 hw [] a2 gC h0 n0 Z0 SC PC O0 G_coder) hZ (hw _ (List.mem_of_getElem? (i := 143) rfl)) (hw _ (List.mem_of_getElem? (i := 57) rfl)) (by decide) (by decide)) q4a q4c (g := (mkF m 16 #[.val (.ref a1), .val (.ref a2), .val .null, .val (.ref b), .val (.int (cn.toInt32))] [(.ref a2)])) rfl (by rw [hml]; rfl) (Steps.refl _) (argsL := []) (rest := []) (lenOf pd_8 rfl) rfl (by show 2 * 0 + _ ≤ _; exact Nat.le_of_eq rfl) (hb hby d20_16) (fun _ _ => ⟨rfl, e3, (by decide : 0 + 0 ≤ _), (by decide : 0 + 0 ≤ _)⟩)
  dsimp only [Pt.U, Pt.locs, Pt.cells, Pt.slots] at X4 l4 y4 z4 st4 hQ4
  subst l4 y4 z4
  obtain ⟨rfl, N4q, e4⟩ := hQ4
  have N4 := Fr.app N3 N4q
  refine Go.tr (T' := T4) (pc' := 19) (L' := #[.val (.ref a1), .val (.ref a2), .val .null, .val (.ref b), .val (.int (cn.toInt32))]) (S' := [(.int (1 : Int32))]) st4 ?_
  refine Go.st (T' := T4) (pc' := 22) (L' := #[.val (.ref a1), .val (.ref a2), .val .null, .val (.ref b), .val (.int (cn.toInt32))]) (S' := []) (fun t_ k_ => XS.ifNo X4.here hx rfl (hb hby d20_19) rfl ((if0 _ _).trans (feq (by decide : ¬ ((1 : Int32) = (0 : Int32)))).1) k_) ?_
  refine Go.st (T' := T4) (pc' := 23) (L' := #[.val (.ref a1), .val (.ref a2), .val .null, .val (.ref b), .val (.int (cn.toInt32))]) (S' := [(.ref a1)]) (fun t_ k_ => XS.aloadN X4.here hx rfl (hb hby d20_22) rfl rfl  k_) ?_
  refine Go.st (T' := T4) (pc' := 24) (L' := #[.val (.ref a1), .val (.ref a2), .val .null, .val (.ref b), .val (.int (cn.toInt32))]) (S' := [(.int (0 : Int32)), (.ref a1)]) (fun t_ k_ => XS.iconst X4.here hx rfl (hb hby d20_23) k_) ?_
  obtain ⟨T5, h5, X5, e5, W5, st5⟩ := putFN X4 hx hZ hown (hw _ (List.mem_of_getElem? (i := 25) rfl)) Via.refl e4 F_coder E_a1 (Or.inr ⟨(hw _ (List.mem_of_getElem? (i := 21) rfl)), rfl, hnm⟩) (hw _ (List.mem_of_getElem? (i := 5) rfl)) (ty := .byte) (v' := (.int (0 : Int32))) (by decide) rfl rfl (g := (mkF m 24 #[.val (.ref a1), .val (.ref a2), .val .null, .val (.ref b), .val (.int (cn.toInt32))] [(.int (0 : Int32)), (.ref a1)])) rfl rfl (hb hby d20_24)
  replace Z0 := Nat.le_trans Z0 (Keep.of_wr W5).1
  replace K0 := K0.wr W5 (Or.inl (List.mem_of_getElem? (i := 0) rfl))
  replace O0 := O0.wr W5 g_a1
  replace E_a1 := E_a1.wr W5
  replace F_value := F_value.other W5 (Or.inr (slot_ne (Or.inr (hw _ (List.mem_of_getElem? (i := 20) rfl))) (Or.inr (hw _ (List.mem_of_getElem? (i := 21) rfl))) (by decide) (t := (.array .byte)) (t' := .byte) (by decide) (by decide)))
  replace E_a2 := E_a2.wr W5
  replace G_value := G_value.other W5 (Or.inl (Ne.symm n1))
  replace G_coder := G_coder.other W5 (Or.inl (Ne.symm n1))
  replace G_count := G_count.other W5 (Or.inl (Ne.symm n1))
  replace V_b := V_b.other W5 (Ne.symm n2)
  replace F_coder := F_coder.same W5
  have N5 := Fr.snoc X5 N4 g_a1
  refine Go.st (T' := T5) (pc' := 27) (L' := #[.val (.ref a1), .val (.ref a2), .val .null, .val (.ref b), .val (.int (cn.toInt32))]) (S' := []) st5 ?_
  refine Go.st (T' := T5) (pc' := 28) (L' := #[.val (.ref a1), .val (.ref a2), .val .null, .val (.ref b), .val (.int (cn.toInt32))]) (S' := [(.ref a1)]) (fun t_ k_ => XS.aloadN X5.here hx rfl (hb hby d20_27) rfl rfl  k_) ?_
  refine Go.st (T' := T5) (pc' := 29) (L' := #[.val (.ref a1), .val (.ref a2), .val .null, .val (.ref b), .val (.int (cn.toInt32))]) (S' := [(.ref b), (.ref a1)]) (fun t_ k_ => XS.aloadN X5.here hx rfl (hb hby d20_28) rfl rfl  k_) ?_
  refine Go.st (T' := T5) (pc' := 30) (L' := #[.val (.ref a1), .val (.ref a2), .val .null, .val (.ref b), .val (.int (cn.toInt32))]) (S' := [(.int (0 : Int32)), (.ref b), (.ref a1)]) (fun t_ k_ => XS.iconst X5.here hx rfl (hb hby d20_29) k_) ?_
  refine Go.st (T' := T5) (pc' := 32) (L' := #[.val (.ref a1), .val (.ref a2), .val .null, .val (.ref b), .val (.int (cn.toInt32))]) (S' := [(.int (cn.toInt32)), (.int (0 : Int32)), (.ref b), (.ref a1)]) (fun t_ k_ => XS.iload X5.here hx rfl (hb hby d20_30) rfl  k_) ?_
  obtain ⟨_, _, ⟨T6, L6, k6, n6⟩, -, X6, ⟨Lc6, hQ6, l6, y6, z6⟩, st6⟩ := Jvm.LawKit.callS X5 hx (y := (⟨"java/util/Arrays", "copyOfRange", "([BII)[B"⟩ : MethodName)) hown (mvT hZ (hw _ (List.mem_of_getElem? (i := 144) rfl))) (mvT hZ (hw _ (List.mem_of_getElem? (i := 145) rfl))) (mvT hZ (hw _ (List.mem_of_getElem? (i := 146) rfl))) (mvT hZ (hw _ (List.mem_of_getElem? (i := 147) rfl))) (by decide) (backOf (W := 1) (rm25 l Z a0 hw [] b _ _ (cn) h5 n0 Z0 V_b hy hc) hZ (hw _ (List.mem_of_getElem? (i := 147) rfl)) (hw _ (List.mem_of_getElem? (i := 146) rfl)) (by decide) (by decide)) (g := (mkF m 32 #[.val (.ref a1), .val (.ref a2), .val .null, .val (.ref b), .val (.int (cn.toInt32))] [(.int (cn.toInt32)), (.int (0 : Int32)), (.ref b), (.ref a1)])) rfl (by rw [hml]; rfl) (argsL := [(.ref b), (.int (0 : Int32)), (.int (cn.toInt32))]) (rest := [(.ref a1)]) (lenOf pd_12 rfl) rfl (by show 2 * 0 + _ ≤ _; exact Nat.le_of_eq rfl) (hb hby d20_32) (fun _ _ => ⟨rfl, e5, (by decide : 0 + 1 ≤ _), (by decide : 0 + 16 ≤ _)⟩)
  dsimp only [Pt.U, Pt.locs, Pt.cells, Pt.slots] at X6 l6 y6 z6 st6 hQ6
  subst l6 y6 z6
  obtain ⟨tt6, kt6, rfl, N6q, K6, g_tt6, lt6, Vt6⟩ := hQ6
  have N6 := Fr.app N5 N6q
  have ne_a1_tt6 : a1 ≠ tt6 := Nat.ne_of_lt (Nat.lt_of_lt_of_le E_a1.lt lt6)
  have ne_a2_tt6 : a2 ≠ tt6 := Nat.ne_of_lt (Nat.lt_of_lt_of_le E_a2.lt lt6)
  have ne_b_tt6 : b ≠ tt6 := Nat.ne_of_lt (Nat.lt_of_lt_of_le V_b.lt lt6)
  have sz_tt6 : h0.size ≤ tt6 := Nat.le_trans K0.1 lt6
  obtain ⟨h6, e6⟩ : ∃ z, T6.heap = z := ⟨_, rfl⟩
  rw [e6] at K6 Vt6
  replace Z0 := Nat.le_trans Z0 K6.1
  replace K0 := K0.trans K6 all0
  replace O0 := O0.keep K6 all0
  replace E_a1 := E_a1.keep K6
  replace F_value := F_value.keep K6 nin0
  replace F_coder := F_coder.keep K6 nin0
  replace E_a2 := E_a2.keep K6
  replace G_value := G_value.keep K6 nin0
  replace G_coder := G_coder.keep K6 nin0
  replace G_count := G_count.keep K6 nin0
  replace V_b := V_b.keep K6 nin0
  refine Go.st (T' := T6) (pc' := 35) (L' := #[.val (.ref a1), .val (.ref a2), .val .null, .val (.ref b), .val (.int (cn.toInt32))]) (S' := [(.ref tt6), (.ref a1)]) st6 ?_
  obtain ⟨T7, h7, X7, e7, W7, st7⟩ := putF X6 hx hZ hown (host := "") (Or.inl (hw _ (List.mem_of_getElem? (i := 24) rfl))) Via.refl e6 F_value E_a1 (Or.inr ⟨(hw _ (List.mem_of_getElem? (i := 20) rfl)), rfl, hnm⟩) (hw _ (List.mem_of_getElem? (i := 5) rfl)) (ty := (.array .byte)) (by decide) rfl rfl (g := (mkF m 35 #[.val (.ref a1), .val (.ref a2), .val .null, .val (.ref b), .val (.int (cn.toInt32))] [(.ref tt6), (.ref a1)])) rfl rfl (hb hby d20_35)
  replace Z0 := Nat.le_trans Z0 (Keep.of_wr W7).1
  replace K0 := K0.wr W7 (Or.inl (List.mem_of_getElem? (i := 0) rfl))
  replace O0 := O0.wr W7 g_a1
  replace E_a1 := E_a1.wr W7
  replace F_coder := F_coder.other W7 (Or.inr (slot_ne (Or.inr (hw _ (List.mem_of_getElem? (i := 21) rfl))) (Or.inr (hw _ (List.mem_of_getElem? (i := 20) rfl))) (by decide) (t := .byte) (t' := (.array .byte)) (by decide) (by decide)))
  replace E_a2 := E_a2.wr W7
  replace G_value := G_value.other W7 (Or.inl (Ne.symm n1))
  replace G_coder := G_coder.other W7 (Or.inl (Ne.symm n1))
  replace G_count := G_count.other W7 (Or.inl (Ne.symm n1))
  replace V_b := V_b.other W7 (Ne.symm n2)
  replace Vt6 := Vt6.other W7 (Ne.symm ne_a1_tt6)
  replace F_value := F_value.same W7
  have N7 := Fr.snoc X7 N6 g_a1
  refine Go.st (T' := T7) (pc' := 38) (L' := #[.val (.ref a1), .val (.ref a2), .val .null, .val (.ref b), .val (.int (cn.toInt32))]) (S' := []) st7 ?_
  refine Go.st (T' := T7) (pc' := 97) (L' := #[.val (.ref a1), .val (.ref a2), .val .null, .val (.ref b), .val (.int (cn.toInt32))]) (S' := []) (fun t_ k_ => XS.goto X7.here hx rfl (pc0 := 38) (pc' := 97) rfl (hb hby d20_38) (by decide) (by decide) k_) ?_
  exact Go.retV X7 hx hlk hret (hb hby d20_97) (by decide) (by decide) (by rw [e7]; exact ⟨tt6, _, rfl, N7, K0, sz_tt6, F_coder, F_value, Vt6⟩)
theorem d19_0 : decode jdk_42_method_53_code 0 = .ok (.aload_n 0, 1) := by decide +kernel
theorem d19_1 : decode jdk_42_method_53_code 1 = .ok (.aload_n 1, 1) := by decide +kernel
theorem d19_2 : decode jdk_42_method_53_code 2 = .ok (.aconst_null, 1) := by decide +kernel
theorem d19_3 : decode jdk_42_method_53_code 3 = .ok (.invokespecial 489, 3) := by decide +kernel
theorem d19_6 : decode jdk_42_method_53_code 6 = .ok (.return_, 1) := by decide +kernel
theorem pd_14 : parseMethodDescriptor "(Ljava/lang/AbstractStringBuilder;Ljava/lang/Void;)V" = some ⟨[(.object "java/lang/AbstractStringBuilder"), (.object "java/lang/Void")], none⟩ := by decide +kernel
def Q19 (Z : State) (a1 : Addr) (ys : List Int32) (cn : Nat) (h0 : Heap) (n0 : Nat) (v : Option Value) (h : Heap) (L : List Loc) : Prop := ∃ (t : Addr) (kt : ClassId), v = none ∧ Fr n0 L ∧ Keep h0 h [a1] ∧ h0.size ≤ t ∧ Fld Z h a1 "java/lang/String" "coder" "B" (.int (0 : Int32)) ∧ Fld Z h a1 "java/lang/String" "value" "[B" (.ref t) ∧ Arv Z h t kt .byte (cn.toInt32) (ys.map Value.int) (.int (0 : Int32))
def room19 : Room := { frames := 4, cells := 1, slots := 16, locals := 87 }
set_option maxRecDepth 65536 in
set_option maxHeartbeats 40000000 in
theorem rm19 (l : Launch) (Z : State) (a0 : Array Value) (hw : ∀ d ∈ tables_1, d.before a0 Z = true) (ws : List Jvm.Cond) (a1 : Addr) (a2 : Addr) (b : Addr) (kb : ClassId) (ys : List Int32) (cn : Nat) (gC : Int32) (h0 : Heap) (n0 : Nat) (Z0 : n0 ≤ h0.size) (E_a1 : Exa Z h0 a1 "java/lang/String") (g_a1 : n0 ≤ a1) (F_value : Fld Z h0 a1 "java/lang/String" "value" "[B" .null) (F_coder : Fld Z h0 a1 "java/lang/String" "coder" "B" (.int (0 : Int32))) (n1 : a1 ≠ a2) (n2 : a1 ≠ b) (SC : Sta Z Z.heap "java/lang/String" "COMPACT_STRINGS" "Z" (.int gC)) (PC : ¬ (gC = (0 : Int32))) (O0 : Old Z n0 h0) (E_a2 : Exa Z h0 a2 "java/lang/StringBuilder") (G_value : Fld Z h0 a2 "java/lang/AbstractStringBuilder" "value" "[B" (.ref b)) (G_coder : Fld Z h0 a2 "java/lang/AbstractStringBuilder" "coder" "B" (.int (0 : Int32))) (G_count : Fld Z h0 a2 "java/lang/AbstractStringBuilder" "count" "I" (.int (cn.toInt32))) (V_b : Arv Z h0 b kb .byte (16 : Int32) (ys.map Value.int) (.int (0 : Int32))) (hy : ys.length = cn) (hc : cn < 16) :
    MetFree l (⟨"java/lang/String", "<init>", "(Ljava/lang/StringBuilder;)V"⟩ : MethodName) (head1 (Jvm.Cond.code (⟨"java/lang/String", "<init>", "(Ljava/lang/StringBuilder;)V"⟩ : MethodName) jdk_42_method_53_code 2 none :: ws) room19) (fun aa_ U_ => aa_ = #[(.ref a1), (.ref a2)] ∧ Z.Warmed39 U_.vm ∧ U_.heap = h0) (fun _ _ _ _ _ => True) (fun _ U_ o_ W_ => ∃ v_ L_, o_ = .returned v_ ∧ (Q19 Z a1 ys cn h0 n0) v_ W_.heap L_ ∧ FrameEnd U_ o_ W_ L_ room19.cells room19.slots) := by
  refine own_met (Q := (Q19 Z a1 ys cn h0 n0)) (L0 := #[.val (.ref a1), .val (.ref a2)]) (plainFor_of_name pn_0) (fun m => by first | (simp [entryFrame, mkF, argsToLocals, Value.category]; done) | rfl) ?_
  intro p e s m below meth c T0 X0 hx hby hml hown hnm hret hlk hZ e0
  have N0 := Fr.nil n0
  have K0 := Keep.refl h0 [a1]
  refine Go.st (T' := T0) (pc' := 1) (L' := #[.val (.ref a1), .val (.ref a2)]) (S' := [(.ref a1)]) (fun t_ k_ => XS.aloadN X0.here hx rfl (hb hby d19_0) rfl rfl  k_) ?_
  refine Go.st (T' := T0) (pc' := 2) (L' := #[.val (.ref a1), .val (.ref a2)]) (S' := [(.ref a2), (.ref a1)]) (fun t_ k_ => XS.aloadN X0.here hx rfl (hb hby d19_1) rfl rfl  k_) ?_
  refine Go.st (T' := T0) (pc' := 3) (L' := #[.val (.ref a1), .val (.ref a2)]) (S' := [.null, (.ref a2), (.ref a1)]) (fun t_ k_ => XS.aconstNull X0.here hx rfl (hb hby d19_2) k_) ?_
  obtain ⟨_, _, ⟨T1, L1, k1, n1⟩, -, X1, ⟨Lc1, hQ1, l1, y1, z1⟩, st1⟩ := X0.specialBack hx (y := (⟨"java/lang/String", "<init>", "(Ljava/lang/AbstractStringBuilder;Ljava/lang/Void;)V"⟩ : MethodName)) rfl hown (mvT hZ (hw _ (List.mem_of_getElem? (i := 123) rfl))) (mvT hZ (hw _ (List.mem_of_getElem? (i := 124) rfl))) (mvT hZ (hw _ (List.mem_of_getElem? (i := 125) rfl))) (by decide) (backOf (W := 0) (rm20 l Z a0 hw [] a1 a2 b _ _ (cn) gC h0 n0 Z0 E_a1 g_a1 F_value F_coder n1 n2 SC PC O0 E_a2 G_value G_coder G_count V_b hy hc) hZ (hw _ (List.mem_of_getElem? (i := 125) rfl)) (hw _ (List.mem_of_getElem? (i := 6) rfl)) (by decide) (by decide)) (g := (mkF m 3 #[.val (.ref a1), .val (.ref a2)] [.null, (.ref a2), (.ref a1)])) rfl (by rw [hml]; rfl) (Steps.refl _) (a := a1) (argsL := [(.ref a2), .null]) (rest := []) (lenOf pd_14 rfl) rfl (by show 2 * 0 + _ ≤ _; exact Nat.le_of_eq rfl) (hb hby d19_3) (fun _ _ => ⟨rfl, e0, (by decide : 0 + 1 ≤ _), (by decide : 0 + 16 ≤ _)⟩)
  dsimp only [Pt.U, Pt.locs, Pt.cells, Pt.slots] at X1 l1 y1 z1 st1 hQ1
  subst l1 y1 z1
  obtain ⟨tt1, kt1, rfl, N1q, K1, lt1, Co1, Va1, Vt1⟩ := hQ1
  have N1 := Fr.app N0 N1q
  have ne_a1_tt1 : a1 ≠ tt1 := Nat.ne_of_lt (Nat.lt_of_lt_of_le E_a1.lt lt1)
  have ne_a2_tt1 : a2 ≠ tt1 := Nat.ne_of_lt (Nat.lt_of_lt_of_le E_a2.lt lt1)
  have ne_b_tt1 : b ≠ tt1 := Nat.ne_of_lt (Nat.lt_of_lt_of_le V_b.lt lt1)
  have sz_tt1 : h0.size ≤ tt1 := Nat.le_trans K0.1 lt1
  obtain ⟨h1, e1⟩ : ∃ z, T1.heap = z := ⟨_, rfl⟩
  rw [e1] at K1 Co1 Va1 Vt1
  replace Z0 := Nat.le_trans Z0 K1.1
  replace K0 := K0.trans K1 (allS (Or.inl (List.mem_of_getElem? (i := 0) rfl)) all0)
  replace O0 := O0.keep K1 (allS g_a1 all0)
  replace E_a1 := E_a1.keep K1
  replace E_a2 := E_a2.keep K1
  replace G_value := G_value.keep K1 (ninS (Ne.symm n1) nin0)
  replace G_coder := G_coder.keep K1 (ninS (Ne.symm n1) nin0)
  replace G_count := G_count.keep K1 (ninS (Ne.symm n1) nin0)
  replace V_b := V_b.keep K1 (ninS (Ne.symm n2) nin0)
  refine Go.tr (T' := T1) (pc' := 6) (L' := #[.val (.ref a1), .val (.ref a2)]) (S' := []) st1 ?_
  exact Go.retV X1 hx hlk hret (hb hby d19_6) (by decide) (by decide) (by rw [e1]; exact ⟨tt1, _, rfl, N1, K0, sz_tt1, Co1, Va1, Vt1⟩)
theorem d18_0 : decode jdk_67_method_42_code 0 = .ok (.new 18, 3) := by decide +kernel
theorem d18_3 : decode jdk_67_method_42_code 3 = .ok (.dup, 1) := by decide +kernel
theorem d18_4 : decode jdk_67_method_42_code 4 = .ok (.aload_n 0, 1) := by decide +kernel
theorem d18_5 : decode jdk_67_method_42_code 5 = .ok (.invokespecial 137, 3) := by decide +kernel
theorem d18_8 : decode jdk_67_method_42_code 8 = .ok (.areturn, 1) := by decide +kernel
theorem pd_15 : parseMethodDescriptor "(Ljava/lang/StringBuilder;)V" = some ⟨[(.object "java/lang/StringBuilder")], none⟩ := by decide +kernel
def Q18 (Z : State) (ys : List Int32) (cn : Nat) (h0 : Heap) (n0 : Nat) (v : Option Value) (h : Heap) (L : List Loc) : Prop := ∃ (r t : Addr) (kt : ClassId), v = some (.ref r) ∧ Fr n0 L ∧ Keep h0 h [] ∧ n0 ≤ r ∧ h0.size ≤ r ∧ Exa Z h r "java/lang/String" ∧ Fld Z h r "java/lang/String" "coder" "B" (.int (0 : Int32)) ∧ Fld Z h r "java/lang/String" "value" "[B" (.ref t) ∧ Arv Z h t kt .byte (cn.toInt32) (ys.map Value.int) (.int (0 : Int32))
def room18 : Room := { frames := 5, cells := 2, slots := 20, locals := 101 }
set_option maxRecDepth 65536 in
set_option maxHeartbeats 40000000 in
theorem rm18 (l : Launch) (Z : State) (a0 : Array Value) (hw : ∀ d ∈ tables_1, d.before a0 Z = true) (ws : List Jvm.Cond) (a2 : Addr) (b : Addr) (kb : ClassId) (ys : List Int32) (cn : Nat) (gC : Int32) (h0 : Heap) (n0 : Nat) (Z0 : n0 ≤ h0.size) (SC : Sta Z Z.heap "java/lang/String" "COMPACT_STRINGS" "Z" (.int gC)) (PC : ¬ (gC = (0 : Int32))) (O0 : Old Z n0 h0) (E_a2 : Exa Z h0 a2 "java/lang/StringBuilder") (G_value : Fld Z h0 a2 "java/lang/AbstractStringBuilder" "value" "[B" (.ref b)) (G_coder : Fld Z h0 a2 "java/lang/AbstractStringBuilder" "coder" "B" (.int (0 : Int32))) (G_count : Fld Z h0 a2 "java/lang/AbstractStringBuilder" "count" "I" (.int (cn.toInt32))) (V_b : Arv Z h0 b kb .byte (16 : Int32) (ys.map Value.int) (.int (0 : Int32))) (hy : ys.length = cn) (hc : cn < 16) :
    MetFree l (⟨"java/lang/StringBuilder", "toString", "()Ljava/lang/String;"⟩ : MethodName) (head1 (Jvm.Cond.code (⟨"java/lang/StringBuilder", "toString", "()Ljava/lang/String;"⟩ : MethodName) jdk_67_method_42_code 1 (some (.object "java/lang/String")) :: ws) room18) (fun aa_ U_ => aa_ = #[(.ref a2)] ∧ Z.Warmed39 U_.vm ∧ U_.heap = h0) (fun _ _ _ _ _ => True) (fun _ U_ o_ W_ => ∃ v_ L_, o_ = .returned v_ ∧ (Q18 Z ys cn h0 n0) v_ W_.heap L_ ∧ FrameEnd U_ o_ W_ L_ room18.cells room18.slots) := by
  refine own_met (Q := (Q18 Z ys cn h0 n0)) (L0 := #[.val (.ref a2)]) (plainFor_of_name pn_2) (fun m => by first | (simp [entryFrame, mkF, argsToLocals, Value.category]; done) | rfl) ?_
  intro p e s m below meth c T0 X0 hx hby hml hown hnm hret hlk hZ e0
  have N0 := Fr.nil n0
  have K0 := Keep.refl h0 []
  obtain ⟨T1, h1, X1, e1, E1, A1, D1, U1, st1⟩ := newO X0 hx hZ hown (hw _ (List.mem_of_getElem? (i := 119) rfl)) (hw _ (List.mem_of_getElem? (i := 5) rfl)) (hw _ (List.mem_of_getElem? (i := 6) rfl)) e0 (g := (mkF m 0 #[.val (.ref a2)] [])) rfl (hb hby d18_0) (by decide) (by decide)
  obtain ⟨b1, g1⟩ : ∃ z, z = h0.size := ⟨_, rfl⟩
  rw [← g1] at A1 D1 U1 st1
  have ne_a2_b1 : a2 ≠ b1 := Nat.ne_of_lt (Nat.lt_of_lt_of_le E_a2.lt (Nat.le_of_eq g1.symm))
  have ne_b_b1 : b ≠ b1 := Nat.ne_of_lt (Nat.lt_of_lt_of_le V_b.lt (Nat.le_of_eq g1.symm))
  have g_b1 : n0 ≤ b1 := Nat.le_trans Z0 (Nat.le_of_eq g1.symm)
  have sz_b1 : h0.size ≤ b1 := Nat.le_trans K0.1 (Nat.le_of_eq g1.symm)
  replace Z0 := Nat.le_trans Z0 E1.1
  replace K0 := K0.ext E1
  replace O0 := O0.ext E1
  replace E_a2 := E_a2.ext E1
  replace G_value := G_value.ext E1
  replace G_coder := G_coder.ext E1
  replace G_count := G_count.ext E1
  replace V_b := V_b.ext E1
  have E_b1 := A1
  have F_b1_value : Fld Z h1 b1 "java/lang/String" "value" "[B" .null := D1 (Or.inr (hw _ (List.mem_of_getElem? (i := 20) rfl))) (ty := (.array .byte)) (by decide)
  have F_b1_coder : Fld Z h1 b1 "java/lang/String" "coder" "B" (.int (0 : Int32)) := D1 (Or.inr (hw _ (List.mem_of_getElem? (i := 21) rfl))) (ty := .byte) (by decide)
  refine Go.st (T' := T1) (pc' := 3) (L' := #[.val (.ref a2)]) (S' := [(.ref b1)]) st1 ?_
  refine Go.st (T' := T1) (pc' := 4) (L' := #[.val (.ref a2)]) (S' := [(.ref b1), (.ref b1)]) (fun t_ k_ => XS.dup X1.here hx rfl (hb hby d18_3) rfl rfl k_) ?_
  refine Go.st (T' := T1) (pc' := 5) (L' := #[.val (.ref a2)]) (S' := [(.ref a2), (.ref b1), (.ref b1)]) (fun t_ k_ => XS.aloadN X1.here hx rfl (hb hby d18_4) rfl rfl  k_) ?_
  obtain ⟨_, _, ⟨T2, L2, k2, n2⟩, -, X2, ⟨Lc2, hQ2, l2, y2, z2⟩, st2⟩ := X1.specialBack hx (y := (⟨"java/lang/String", "<init>", "(Ljava/lang/StringBuilder;)V"⟩ : MethodName)) rfl hown (mvT hZ (hw _ (List.mem_of_getElem? (i := 120) rfl))) (mvT hZ (hw _ (List.mem_of_getElem? (i := 121) rfl))) (mvT hZ (hw _ (List.mem_of_getElem? (i := 122) rfl))) (by decide) (backOf (W := 1) (rm19 l Z a0 hw [] b1 a2 b _ _ (cn) gC h1 n0 Z0 E_b1 g_b1 F_b1_value F_b1_coder (Ne.symm ne_a2_b1) (Ne.symm ne_b_b1) SC PC O0 E_a2 G_value G_coder G_count V_b hy hc) hZ (hw _ (List.mem_of_getElem? (i := 122) rfl)) (hw _ (List.mem_of_getElem? (i := 6) rfl)) (by decide) (by decide)) (g := (mkF m 5 #[.val (.ref a2)] [(.ref a2), (.ref b1), (.ref b1)])) rfl (by rw [hml]; rfl) (Steps.refl _) (a := b1) (argsL := [(.ref a2)]) (rest := [(.ref b1)]) (lenOf pd_15 rfl) rfl (by show 2 * 0 + _ ≤ _; exact Nat.le_of_eq rfl) (hb hby d18_5) (fun _ _ => ⟨rfl, e1, (by decide : 1 + 1 ≤ _), (by decide : 4 + 16 ≤ _)⟩)
  dsimp only [Pt.U, Pt.locs, Pt.cells, Pt.slots] at X2 l2 y2 z2 st2 hQ2
  subst l2 y2 z2
  obtain ⟨tt2, kt2, rfl, N2q, K2, lt2, Co2, Va2, Vt2⟩ := hQ2
  have N2 := Fr.app N0 N2q
  have ne_a2_tt2 : a2 ≠ tt2 := Nat.ne_of_lt (Nat.lt_of_lt_of_le E_a2.lt lt2)
  have ne_b_tt2 : b ≠ tt2 := Nat.ne_of_lt (Nat.lt_of_lt_of_le V_b.lt lt2)
  have ne_b1_tt2 : b1 ≠ tt2 := Nat.ne_of_lt (Nat.lt_of_lt_of_le E_b1.lt lt2)
  have sz_tt2 : h0.size ≤ tt2 := Nat.le_trans K0.1 lt2
  obtain ⟨h2, e2⟩ : ∃ z, T2.heap = z := ⟨_, rfl⟩
  rw [e2] at K2 Co2 Va2 Vt2
  replace Z0 := Nat.le_trans Z0 K2.1
  replace K0 := K0.trans K2 (allS (Or.inr sz_b1) all0)
  replace O0 := O0.keep K2 (allS g_b1 all0)
  replace E_a2 := E_a2.keep K2
  replace G_value := G_value.keep K2 (ninS ne_a2_b1 nin0)
  replace G_coder := G_coder.keep K2 (ninS ne_a2_b1 nin0)
  replace G_count := G_count.keep K2 (ninS ne_a2_b1 nin0)
  replace V_b := V_b.keep K2 (ninS ne_b_b1 nin0)
  replace E_b1 := E_b1.keep K2
  refine Go.tr (T' := T2) (pc' := 8) (L' := #[.val (.ref a2)]) (S' := [(.ref b1)]) st2 ?_
  exact Go.retO X2 hx hlk hret rfl (by simp [FieldType.isReference, Value.isRef]) (hb hby d18_8) (by decide) (by decide) (by rw [e2]; exact ⟨b1, tt2, _, rfl, N2, K0, g_b1, sz_b1, E_b1, Co2, Va2, Vt2⟩)
theorem d34_0 : decode jdk_41_method_11_code 0 = .ok (.iload_n 0, 1) := by decide +kernel
theorem d34_1 : decode jdk_41_method_11_code 1 = .ok (.ifCond .lt 8, 3) := by decide +kernel
theorem d34_4 : decode jdk_41_method_11_code 4 = .ok (.iload_n 0, 1) := by decide +kernel
theorem d34_5 : decode jdk_41_method_11_code 5 = .ok (.iload_n 1, 1) := by decide +kernel
theorem d34_6 : decode jdk_41_method_11_code 6 = .ok (.if_icmp .lt 10, 3) := by decide +kernel
theorem d34_16 : decode jdk_41_method_11_code 16 = .ok (.iload_n 0, 1) := by decide +kernel
theorem d34_17 : decode jdk_41_method_11_code 17 = .ok (.ireturn, 1) := by decide +kernel
theorem pn_4 : plainName "jdk/internal/util/Preconditions" = true := by first | (simp [plainName, overriddenIn]; done) | decide +kernel
def QckR (Z : State) (i : Nat) (k : Nat) (fa : Addr) (h0 : Heap) (n0 : Nat) (v : Option Value) (h : Heap) (L : List Loc) : Prop := v = some (.int (i.toInt32)) ∧ Fr n0 L ∧ h = h0
def roomckR : Room := { frames := 0, cells := 0, slots := 0, locals := 0 }
set_option maxRecDepth 65536 in
set_option maxHeartbeats 40000000 in
theorem rmckR (l : Launch) (Z : State) (a0 : Array Value) (hw : ∀ d ∈ tables_1, d.before a0 Z = true) (ws : List Jvm.Cond) (i : Nat) (k : Nat) (fa : Addr) (h0 : Heap) (n0 : Nat) (Z0 : n0 ≤ h0.size) (hi : i < k) (hk : k < 2147483648) :
    MetFree l (⟨"jdk/internal/util/Preconditions", "checkIndex", "(IILjava/util/function/BiFunction;)I"⟩ : MethodName) (head1 (Jvm.Cond.code (⟨"jdk/internal/util/Preconditions", "checkIndex", "(IILjava/util/function/BiFunction;)I"⟩ : MethodName) jdk_41_method_11_code 3 (some .int) :: ws) roomckR) (fun aa_ U_ => aa_ = #[(.int (i.toInt32)), (.int (k.toInt32)), (.ref fa)] ∧ Z.Warmed39 U_.vm ∧ U_.heap = h0) (fun _ _ _ _ _ => True) (fun _ U_ o_ W_ => ∃ v_ L_, o_ = .returned v_ ∧ (QckR Z i k fa h0 n0) v_ W_.heap L_ ∧ FrameEnd U_ o_ W_ L_ roomckR.cells roomckR.slots) := by
  refine own_met (Q := (QckR Z i k fa h0 n0)) (L0 := #[.val (.int (i.toInt32)), .val (.int (k.toInt32)), .val (.ref fa)]) (plainFor_of_name pn_4) (fun m => by first | (simp [entryFrame, mkF, argsToLocals, Value.category]; done) | rfl) ?_
  intro p e s m below meth c T0 X0 hx hby hml hown hnm hret hlk hZ e0
  have N0 := Fr.nil n0
  refine Go.st (T' := T0) (pc' := 1) (L' := #[.val (.int (i.toInt32)), .val (.int (k.toInt32)), .val (.ref fa)]) (S' := [(.int (i.toInt32))]) (fun t_ k_ => XS.iloadN X0.here hx rfl (hb hby d34_0) rfl  k_) ?_
  refine Go.st (T' := T0) (pc' := 4) (L' := #[.val (.int (i.toInt32)), .val (.int (k.toInt32)), .val (.ref fa)]) (S' := []) (fun t_ k_ => XS.ifNo X0.here hx rfl (hb hby d34_1) rfl ((if0 _ _).trans (flt (own_nnN (by omega) : ¬ ((i.toInt32) < (0 : Int32)))).1) k_) ?_
  refine Go.st (T' := T0) (pc' := 5) (L' := #[.val (.int (i.toInt32)), .val (.int (k.toInt32)), .val (.ref fa)]) (S' := [(.int (i.toInt32))]) (fun t_ k_ => XS.iloadN X0.here hx rfl (hb hby d34_4) rfl  k_) ?_
  refine Go.st (T' := T0) (pc' := 6) (L' := #[.val (.int (i.toInt32)), .val (.int (k.toInt32)), .val (.ref fa)]) (S' := [(.int (k.toInt32)), (.int (i.toInt32))]) (fun t_ k_ => XS.iloadN X0.here hx rfl (hb hby d34_5) rfl  k_) ?_
  refine Go.st (T' := T0) (pc' := 16) (L' := #[.val (.int (i.toInt32)), .val (.int (k.toInt32)), .val (.ref fa)]) (S' := []) (fun t_ k_ => XS.icmpYes X0.here hx rfl (pc0 := 6) (pc' := 16) rfl (hb hby d34_6) rfl (tlt ((own_ltI (by omega) (by omega)).mpr hi : ((i.toInt32) < (k.toInt32)))).1 (by decide) (by decide) k_) ?_
  refine Go.st (T' := T0) (pc' := 17) (L' := #[.val (.int (i.toInt32)), .val (.int (k.toInt32)), .val (.ref fa)]) (S' := [(.int (i.toInt32))]) (fun t_ k_ => XS.iloadN X0.here hx rfl (hb hby d34_16) rfl  k_) ?_
  exact Go.retO X0 hx hlk hret rfl (by simp [FieldType.isReference, Value.isRef]) (hb hby d34_17) (by decide) (by decide) (by rw [e0]; exact ⟨rfl, N0, rfl⟩)

def QckN (Z : State) (i : Nat) (k : Nat) (h0 : Heap) (n0 : Nat) (v : Option Value) (h : Heap) (L : List Loc) : Prop := v = some (.int (i.toInt32)) ∧ Fr n0 L ∧ h = h0
def roomckN : Room := { frames := 0, cells := 0, slots := 0, locals := 0 }
set_option maxRecDepth 65536 in
set_option maxHeartbeats 40000000 in
theorem rmckN (l : Launch) (Z : State) (a0 : Array Value) (hw : ∀ d ∈ tables_1, d.before a0 Z = true) (ws : List Jvm.Cond) (i : Nat) (k : Nat) (h0 : Heap) (n0 : Nat) (Z0 : n0 ≤ h0.size) (hi : i < k) (hk : k < 2147483648) :
    MetFree l (⟨"jdk/internal/util/Preconditions", "checkIndex", "(IILjava/util/function/BiFunction;)I"⟩ : MethodName) (head1 (Jvm.Cond.code (⟨"jdk/internal/util/Preconditions", "checkIndex", "(IILjava/util/function/BiFunction;)I"⟩ : MethodName) jdk_41_method_11_code 3 (some .int) :: ws) roomckN) (fun aa_ U_ => aa_ = #[(.int (i.toInt32)), (.int (k.toInt32)), .null] ∧ Z.Warmed39 U_.vm ∧ U_.heap = h0) (fun _ _ _ _ _ => True) (fun _ U_ o_ W_ => ∃ v_ L_, o_ = .returned v_ ∧ (QckN Z i k h0 n0) v_ W_.heap L_ ∧ FrameEnd U_ o_ W_ L_ roomckN.cells roomckN.slots) := by
  refine own_met (Q := (QckN Z i k h0 n0)) (L0 := #[.val (.int (i.toInt32)), .val (.int (k.toInt32)), .val .null]) (plainFor_of_name pn_4) (fun m => by first | (simp [entryFrame, mkF, argsToLocals, Value.category]; done) | rfl) ?_
  intro p e s m below meth c T0 X0 hx hby hml hown hnm hret hlk hZ e0
  have N0 := Fr.nil n0
  refine Go.st (T' := T0) (pc' := 1) (L' := #[.val (.int (i.toInt32)), .val (.int (k.toInt32)), .val .null]) (S' := [(.int (i.toInt32))]) (fun t_ k_ => XS.iloadN X0.here hx rfl (hb hby d34_0) rfl  k_) ?_
  refine Go.st (T' := T0) (pc' := 4) (L' := #[.val (.int (i.toInt32)), .val (.int (k.toInt32)), .val .null]) (S' := []) (fun t_ k_ => XS.ifNo X0.here hx rfl (hb hby d34_1) rfl ((if0 _ _).trans (flt (own_nnN (by omega) : ¬ ((i.toInt32) < (0 : Int32)))).1) k_) ?_
  refine Go.st (T' := T0) (pc' := 5) (L' := #[.val (.int (i.toInt32)), .val (.int (k.toInt32)), .val .null]) (S' := [(.int (i.toInt32))]) (fun t_ k_ => XS.iloadN X0.here hx rfl (hb hby d34_4) rfl  k_) ?_
  refine Go.st (T' := T0) (pc' := 6) (L' := #[.val (.int (i.toInt32)), .val (.int (k.toInt32)), .val .null]) (S' := [(.int (k.toInt32)), (.int (i.toInt32))]) (fun t_ k_ => XS.iloadN X0.here hx rfl (hb hby d34_5) rfl  k_) ?_
  refine Go.st (T' := T0) (pc' := 16) (L' := #[.val (.int (i.toInt32)), .val (.int (k.toInt32)), .val .null]) (S' := []) (fun t_ k_ => XS.icmpYes X0.here hx rfl (pc0 := 6) (pc' := 16) rfl (hb hby d34_6) rfl (tlt ((own_ltI (by omega) (by omega)).mpr hi : ((i.toInt32) < (k.toInt32)))).1 (by decide) (by decide) k_) ?_
  refine Go.st (T' := T0) (pc' := 17) (L' := #[.val (.int (i.toInt32)), .val (.int (k.toInt32)), .val .null]) (S' := [(.int (i.toInt32))]) (fun t_ k_ => XS.iloadN X0.here hx rfl (hb hby d34_16) rfl  k_) ?_
  exact Go.retO X0 hx hlk hret rfl (by simp [FieldType.isReference, Value.isRef]) (hb hby d34_17) (by decide) (by decide) (by rw [e0]; exact ⟨rfl, N0, rfl⟩)
set_option maxRecDepth 65536 in
set_option maxHeartbeats 40000000 in
theorem rmck (l : Launch) (Z : State) (a0 : Array Value) (hw : ∀ d ∈ tables_1, d.before a0 Z = true) (ws : List Jvm.Cond) (i : Nat) (k : Nat) (fm : Value) (h0 : Heap) (n0 : Nat) (Z0 : n0 ≤ h0.size) (hfm : fm.isRef = true) (hi : i < k) (hk : k < 2147483648) :
    MetFree l (⟨"jdk/internal/util/Preconditions", "checkIndex", "(IILjava/util/function/BiFunction;)I"⟩ : MethodName) (head1 (Jvm.Cond.code (⟨"jdk/internal/util/Preconditions", "checkIndex", "(IILjava/util/function/BiFunction;)I"⟩ : MethodName) jdk_41_method_11_code 3 (some .int) :: ws) roomckN) (fun aa_ U_ => aa_ = #[(.int (i.toInt32)), (.int (k.toInt32)), fm] ∧ Z.Warmed39 U_.vm ∧ U_.heap = h0) (fun _ _ _ _ _ => True) (fun _ U_ o_ W_ => ∃ v_ L_, o_ = .returned v_ ∧ (QckN Z i k h0 n0) v_ W_.heap L_ ∧ FrameEnd U_ o_ W_ L_ roomckN.cells roomckN.slots) := by
  rcases ref_cases hfm with rfl | ⟨a, rfl⟩
  · exact rmckN l Z a0 hw ws i k h0 n0 Z0 hi hk
  · exact rmckR l Z a0 hw ws i k a h0 n0 Z0 hi hk
theorem d33_0 : decode jdk_42_method_155_code 0 = .ok (.iload_n 0, 1) := by decide +kernel
theorem d33_1 : decode jdk_42_method_155_code 1 = .ok (.iload_n 1, 1) := by decide +kernel
theorem d33_2 : decode jdk_42_method_155_code 2 = .ok (.getstatic 1053, 3) := by decide +kernel
theorem d33_5 : decode jdk_42_method_155_code 5 = .ok (.invokestatic 1059, 3) := by decide +kernel
theorem d33_8 : decode jdk_42_method_155_code 8 = .ok (.pop, 1) := by decide +kernel
theorem d33_9 : decode jdk_42_method_155_code 9 = .ok (.return_, 1) := by decide +kernel
theorem pd_16 : parseMethodDescriptor "(IILjava/util/function/BiFunction;)I" = some ⟨[.int, .int, (.object "java/util/function/BiFunction")], some .int⟩ := by decide +kernel
def Q33 (Z : State) (i : Nat) (k : Nat) (fm : Value) (h0 : Heap) (n0 : Nat) (v : Option Value) (h : Heap) (L : List Loc) : Prop := v = none ∧ Fr n0 L ∧ h = h0
def room33 : Room := { frames := 1, cells := 0, slots := 0, locals := 14 }
set_option maxRecDepth 65536 in
set_option maxHeartbeats 40000000 in
theorem rm33 (l : Launch) (Z : State) (a0 : Array Value) (hw : ∀ d ∈ tables_1, d.before a0 Z = true) (ws : List Jvm.Cond) (i : Nat) (k : Nat) (fm : Value) (h0 : Heap) (n0 : Nat) (Z0 : n0 ≤ h0.size) (hfm : fm.isRef = true) (SF : Sta Z Z.heap "jdk/internal/util/Preconditions" "SIOOBE_FORMATTER" "Ljava/util/function/BiFunction;" fm) (O0 : Old Z n0 h0) (hi : i < k) (hk : k < 2147483648) :
    MetFree l (⟨"java/lang/String", "checkIndex", "(II)V"⟩ : MethodName) (head1 (Jvm.Cond.code (⟨"java/lang/String", "checkIndex", "(II)V"⟩ : MethodName) jdk_42_method_155_code 2 none :: ws) room33) (fun aa_ U_ => aa_ = #[(.int (i.toInt32)), (.int (k.toInt32))] ∧ Z.Warmed39 U_.vm ∧ U_.heap = h0) (fun _ _ _ _ _ => True) (fun _ U_ o_ W_ => ∃ v_ L_, o_ = .returned v_ ∧ (Q33 Z i k fm h0 n0) v_ W_.heap L_ ∧ FrameEnd U_ o_ W_ L_ room33.cells room33.slots) := by
  refine own_met (Q := (Q33 Z i k fm h0 n0)) (L0 := #[.val (.int (i.toInt32)), .val (.int (k.toInt32))]) (plainFor_of_name pn_0) (fun m => by first | (simp [entryFrame, mkF, argsToLocals, Value.category]; done) | rfl) ?_
  intro p e s m below meth c T0 X0 hx hby hml hown hnm hret hlk hZ e0
  have N0 := Fr.nil n0
  refine Go.st (T' := T0) (pc' := 1) (L' := #[.val (.int (i.toInt32)), .val (.int (k.toInt32))]) (S' := [(.int (i.toInt32))]) (fun t_ k_ => XS.iloadN X0.here hx rfl (hb hby d33_0) rfl  k_) ?_
  refine Go.st (T' := T0) (pc' := 2) (L' := #[.val (.int (i.toInt32)), .val (.int (k.toInt32))]) (S' := [(.int (k.toInt32)), (.int (i.toInt32))]) (fun t_ k_ => XS.iloadN X0.here hx rfl (hb hby d33_1) rfl  k_) ?_
  obtain ⟨T1, X1, e1, st1⟩ := getS2 X0 hx hZ hown (host := "") (Or.inl (hw _ (List.mem_of_getElem? (i := 180) rfl))) Via.refl e0 (SF.ext O0.2) (g := (mkF m 2 #[.val (.int (i.toInt32)), .val (.int (k.toInt32))] [(.int (k.toInt32)), (.int (i.toInt32))])) rfl (hb hby d33_2)
  refine Go.st (T' := T1) (pc' := 5) (L' := #[.val (.int (i.toInt32)), .val (.int (k.toInt32))]) (S' := [fm, (.int (k.toInt32)), (.int (i.toInt32))]) st1 ?_
  obtain ⟨_, _, ⟨T2, L2, k2, n2⟩, -, X2, ⟨Lc2, hQ2, l2, y2, z2⟩, st2⟩ := Jvm.LawKit.callS X1 hx (y := (⟨"jdk/internal/util/Preconditions", "checkIndex", "(IILjava/util/function/BiFunction;)I"⟩ : MethodName)) hown (mvT hZ (hw _ (List.mem_of_getElem? (i := 182) rfl))) (mvT hZ (hw _ (List.mem_of_getElem? (i := 183) rfl))) (mvT hZ (hw _ (List.mem_of_getElem? (i := 181) rfl))) (mvT hZ (hw _ (List.mem_of_getElem? (i := 184) rfl))) (by decide) (backOf (W := 0) (rmck l Z a0 hw [] i k fm h0 n0 Z0 hfm hi hk) hZ (hw _ (List.mem_of_getElem? (i := 184) rfl)) (hw _ (List.mem_of_getElem? (i := 181) rfl)) (by decide) (by decide)) (g := (mkF m 5 #[.val (.int (i.toInt32)), .val (.int (k.toInt32))] [fm, (.int (k.toInt32)), (.int (i.toInt32))])) rfl (by rw [hml]; rfl) (argsL := [(.int (i.toInt32)), (.int (k.toInt32)), fm]) (rest := []) (lenOf pd_16 rfl) rfl (by show 2 * 0 + _ ≤ _; exact Nat.le_of_eq rfl) (hb hby d33_5) (fun _ _ => ⟨rfl, e1, (by decide : 0 + 0 ≤ _), (by decide : 0 + 0 ≤ _)⟩)
  dsimp only [Pt.U, Pt.locs, Pt.cells, Pt.slots] at X2 l2 y2 z2 st2 hQ2
  subst l2 y2 z2
  obtain ⟨rfl, N2q, e2⟩ := hQ2
  have N2 := Fr.app N0 N2q
  refine Go.st (T' := T2) (pc' := 8) (L' := #[.val (.int (i.toInt32)), .val (.int (k.toInt32))]) (S' := [(.int (i.toInt32))]) st2 ?_
  refine Go.st (T' := T2) (pc' := 9) (L' := #[.val (.int (i.toInt32)), .val (.int (k.toInt32))]) (S' := []) (fun t_ k_ => XS.pop X2.here hx rfl (hb hby d33_8) rfl rfl k_) ?_
  exact Go.retV X2 hx hlk hret (hb hby d33_9) (by decide) (by decide) (by rw [e2]; exact ⟨rfl, N2, rfl⟩)
theorem d32_0 : decode jdk_43_method_2_code 0 = .ok (.iload_n 1, 1) := by decide +kernel
theorem d32_1 : decode jdk_43_method_2_code 1 = .ok (.aload_n 0, 1) := by decide +kernel
theorem d32_2 : decode jdk_43_method_2_code 2 = .ok (.arraylength, 1) := by decide +kernel
theorem d32_3 : decode jdk_43_method_2_code 3 = .ok (.invokestatic 9, 3) := by decide +kernel
theorem d32_6 : decode jdk_43_method_2_code 6 = .ok (.aload_n 0, 1) := by decide +kernel
theorem d32_7 : decode jdk_43_method_2_code 7 = .ok (.iload_n 1, 1) := by decide +kernel
theorem d32_8 : decode jdk_43_method_2_code 8 = .ok (.baload, 1) := by decide +kernel
theorem d32_9 : decode jdk_43_method_2_code 9 = .ok (.sipush 255, 3) := by decide +kernel
theorem d32_12 : decode jdk_43_method_2_code 12 = .ok (.iand, 1) := by decide +kernel
theorem d32_13 : decode jdk_43_method_2_code 13 = .ok (.i2c, 1) := by decide +kernel
theorem d32_14 : decode jdk_43_method_2_code 14 = .ok (.ireturn, 1) := by decide +kernel
theorem pn_5 : plainName "java/lang/StringLatin1" = true := by first | (simp [plainName, overriddenIn]; done) | decide +kernel
def Q32 (Z : State) (t1 : Addr) (k1 : ClassId) (bs : List Int32) (i : Nat) (k : Nat) (fm : Value) (h0 : Heap) (n0 : Nat) (v : Option Value) (h : Heap) (L : List Loc) : Prop := v = some (.int (nar .char ((bs.getD (i) 0 &&& (255 : Int32)).toUInt32.toUInt16.toUInt32.toInt32))) ∧ Fr n0 L ∧ h = h0
def room32 : Room := { frames := 2, cells := 0, slots := 0, locals := 27 }
set_option maxRecDepth 65536 in
set_option maxHeartbeats 40000000 in
theorem rm32 (l : Launch) (Z : State) (a0 : Array Value) (hw : ∀ d ∈ tables_1, d.before a0 Z = true) (ws : List Jvm.Cond) (t1 : Addr) (k1 : ClassId) (bs : List Int32) (i : Nat) (k : Nat) (fm : Value) (h0 : Heap) (n0 : Nat) (Z0 : n0 ≤ h0.size) (hfm : fm.isRef = true) (SF : Sta Z Z.heap "jdk/internal/util/Preconditions" "SIOOBE_FORMATTER" "Ljava/util/function/BiFunction;" fm) (O0 : Old Z n0 h0) (V_t : Arv Z h0 t1 k1 .byte (k.toInt32) (bs.map Value.int) (.int (0 : Int32))) (hi : i < k) (hk : k < 2147483648) :
    MetFree l (⟨"java/lang/StringLatin1", "charAt", "([BI)C"⟩ : MethodName) (head1 (Jvm.Cond.code (⟨"java/lang/StringLatin1", "charAt", "([BI)C"⟩ : MethodName) jdk_43_method_2_code 2 (some .char) :: ws) room32) (fun aa_ U_ => aa_ = #[(.ref t1), (.int (i.toInt32))] ∧ Z.Warmed39 U_.vm ∧ U_.heap = h0) (fun _ _ _ _ _ => True) (fun _ U_ o_ W_ => ∃ v_ L_, o_ = .returned v_ ∧ (Q32 Z t1 k1 bs i k fm h0 n0) v_ W_.heap L_ ∧ FrameEnd U_ o_ W_ L_ room32.cells room32.slots) := by
  refine own_met (Q := (Q32 Z t1 k1 bs i k fm h0 n0)) (L0 := #[.val (.ref t1), .val (.int (i.toInt32))]) (plainFor_of_name pn_5) (fun m => by first | (simp [entryFrame, mkF, argsToLocals, Value.category]; done) | rfl) ?_
  intro p e s m below meth c T0 X0 hx hby hml hown hnm hret hlk hZ e0
  have N0 := Fr.nil n0
  refine Go.st (T' := T0) (pc' := 1) (L' := #[.val (.ref t1), .val (.int (i.toInt32))]) (S' := [(.int (i.toInt32))]) (fun t_ k_ => XS.iloadN X0.here hx rfl (hb hby d32_0) rfl  k_) ?_
  refine Go.st (T' := T0) (pc' := 2) (L' := #[.val (.ref t1), .val (.int (i.toInt32))]) (S' := [(.ref t1), (.int (i.toInt32))]) (fun t_ k_ => XS.aloadN X0.here hx rfl (hb hby d32_1) rfl rfl  k_) ?_
  obtain ⟨cl1, Ar1, -, q1a, q1b, -, -⟩ := id V_t
  refine Go.st (T' := T0) (pc' := 3) (L' := #[.val (.ref t1), .val (.int (i.toInt32))]) (S' := [(.int (k.toInt32)), (.int (i.toInt32))]) (fun t_ k_ => own_len X0 hx hZ e0 Ar1 q1a q1b (g := (mkF m 2 #[.val (.ref t1), .val (.int (i.toInt32))] [(.ref t1), (.int (i.toInt32))])) rfl rfl (hb hby d32_2) t_ k_) ?_
  obtain ⟨_, _, ⟨T2, L2, k2, n2⟩, -, X2, ⟨Lc2, hQ2, l2, y2, z2⟩, st2⟩ := Jvm.LawKit.callS X0 hx (y := (⟨"java/lang/String", "checkIndex", "(II)V"⟩ : MethodName)) hown (mvT hZ (hw _ (List.mem_of_getElem? (i := 177) rfl))) (mvT hZ (hw _ (List.mem_of_getElem? (i := 178) rfl))) (mvT hZ (hw _ (List.mem_of_getElem? (i := 6) rfl))) (mvT hZ (hw _ (List.mem_of_getElem? (i := 179) rfl))) (by decide) (backOf (W := 0) (rm33 l Z a0 hw [] i k fm h0 n0 Z0 hfm SF O0 hi hk) hZ (hw _ (List.mem_of_getElem? (i := 179) rfl)) (hw _ (List.mem_of_getElem? (i := 6) rfl)) (by decide) (by decide)) (g := (mkF m 3 #[.val (.ref t1), .val (.int (i.toInt32))] [(.int (k.toInt32)), (.int (i.toInt32))])) rfl (by rw [hml]; rfl) (argsL := [(.int (i.toInt32)), (.int (k.toInt32))]) (rest := []) (lenOf pd_10 rfl) rfl (by show 2 * 0 + _ ≤ _; exact Nat.le_of_eq rfl) (hb hby d32_3) (fun _ _ => ⟨rfl, e0, (by decide : 0 + 0 ≤ _), (by decide : 0 + 0 ≤ _)⟩)
  dsimp only [Pt.U, Pt.locs, Pt.cells, Pt.slots] at X2 l2 y2 z2 st2 hQ2
  subst l2 y2 z2
  obtain ⟨rfl, N2q, e2⟩ := hQ2
  have N2 := Fr.app N0 N2q
  refine Go.st (T' := T2) (pc' := 6) (L' := #[.val (.ref t1), .val (.int (i.toInt32))]) (S' := []) st2 ?_
  refine Go.st (T' := T2) (pc' := 7) (L' := #[.val (.ref t1), .val (.int (i.toInt32))]) (S' := [(.ref t1)]) (fun t_ k_ => XS.aloadN X2.here hx rfl (hb hby d32_6) rfl rfl  k_) ?_
  refine Go.st (T' := T2) (pc' := 8) (L' := #[.val (.ref t1), .val (.int (i.toInt32))]) (S' := [(.int (i.toInt32)), (.ref t1)]) (fun t_ k_ => XS.iloadN X2.here hx rfl (hb hby d32_7) rfl  k_) ?_
  obtain ⟨cl3, Ar3, -, q3a, q3b, q3c, q3d⟩ := id V_t
  refine Go.st (T' := T2) (pc' := 9) (L' := #[.val (.ref t1), .val (.int (i.toInt32))]) (S' := [(.int (bs.getD (i) 0))]) (fun t_ k_ => X2.baloadBytes hx (j := (i.toInt32)) (v := (.int (bs.getD (i) 0))) (by rw [e2]; exact Ar3.1) (State.isArrayOf_alike hZ.alike Ar3.2.1) Ar3.2.2 (own_inbS q3a hi hk) (q3c.at (own_inbS q3a hi hk) (own_atI _ (by omega))) (g := (mkF m 8 #[.val (.ref t1), .val (.int (i.toInt32))] [(.int (i.toInt32)), (.ref t1)])) rfl rfl (hb hby d32_8) t_ k_) ?_
  refine Go.st (T' := T2) (pc' := 12) (L' := #[.val (.ref t1), .val (.int (i.toInt32))]) (S' := [(.int (255 : Int32)), (.int (bs.getD (i) 0))]) (fun t_ k_ => XS.sipush X2.here hx rfl (hb hby d32_9) k_) ?_
  refine Go.st (T' := T2) (pc' := 13) (L' := #[.val (.ref t1), .val (.int (i.toInt32))]) (S' := [(.int ((bs.getD (i) 0) &&& (255 : Int32)))]) (fun t_ k_ => XS.iand X2.here hx rfl (hb hby d32_12) rfl k_) ?_
  refine Go.st (T' := T2) (pc' := 14) (L' := #[.val (.ref t1), .val (.int (i.toInt32))]) (S' := [(.int (((bs.getD (i) 0) &&& (255 : Int32)).toUInt32.toUInt16.toUInt32.toInt32))]) (fun t_ k_ => XS.i2c X2.here hx rfl (hb hby d32_13) rfl k_) ?_
  exact Go.retN X2 hx hlk hret (by simp) (hb hby d32_14) (by decide) (by decide) (by rw [e2]; exact ⟨rfl, N2, rfl⟩)
theorem d30_0 : decode jdk_42_method_56_code 0 = .ok (.aload_n 0, 1) := by decide +kernel
theorem d30_1 : decode jdk_42_method_56_code 1 = .ok (.invokevirtual 492, 3) := by decide +kernel
theorem d30_4 : decode jdk_42_method_56_code 4 = .ok (.ifCond .eq 12, 3) := by decide +kernel
theorem d30_7 : decode jdk_42_method_56_code 7 = .ok (.aload_n 0, 1) := by decide +kernel
theorem d30_8 : decode jdk_42_method_56_code 8 = .ok (.getfield 9, 3) := by decide +kernel
theorem d30_11 : decode jdk_42_method_56_code 11 = .ok (.iload_n 1, 1) := by decide +kernel
theorem d30_12 : decode jdk_42_method_56_code 12 = .ok (.invokestatic 495, 3) := by decide +kernel
theorem d30_15 : decode jdk_42_method_56_code 15 = .ok (.ireturn, 1) := by decide +kernel
theorem pd_17 : parseMethodDescriptor "([BI)C" = some ⟨[(.array .byte), .int], some .char⟩ := by decide +kernel
def Q30 (Z : State) (a1 : Addr) (t1 : Addr) (k1 : ClassId) (bs : List Int32) (i : Nat) (k : Nat) (fm : Value) (gC : Int32) (h0 : Heap) (n0 : Nat) (v : Option Value) (h : Heap) (L : List Loc) : Prop := v = some (.int (own_ch (bs.getD (i) 0))) ∧ Fr n0 L ∧ h = h0
def room30 : Room := { frames := 3, cells := 0, slots := 0, locals := 40 }
set_option maxRecDepth 65536 in
set_option maxHeartbeats 40000000 in
theorem rm30 (l : Launch) (Z : State) (a0 : Array Value) (hw : ∀ d ∈ tables_1, d.before a0 Z = true) (ws : List Jvm.Cond) (a1 : Addr) (t1 : Addr) (k1 : ClassId) (bs : List Int32) (i : Nat) (k : Nat) (fm : Value) (gC : Int32) (h0 : Heap) (n0 : Nat) (Z0 : n0 ≤ h0.size) (SC : Sta Z Z.heap "java/lang/String" "COMPACT_STRINGS" "Z" (.int gC)) (PC : ¬ (gC = (0 : Int32))) (O0 : Old Z n0 h0) (hfm : fm.isRef = true) (SF : Sta Z Z.heap "jdk/internal/util/Preconditions" "SIOOBE_FORMATTER" "Ljava/util/function/BiFunction;" fm) (E_a1 : Exa Z h0 a1 "java/lang/String") (Fc_a1 : Fld Z h0 a1 "java/lang/String" "coder" "B" (.int (0 : Int32))) (Fv_a1 : Fld Z h0 a1 "java/lang/String" "value" "[B" (.ref t1)) (V_t1 : Arv Z h0 t1 k1 .byte (k.toInt32) (bs.map Value.int) (.int (0 : Int32))) (hi : i < k) (hk : k < 2147483648) :
    MetFree l (⟨"java/lang/String", "charAt", "(I)C"⟩ : MethodName) (head1 (Jvm.Cond.code (⟨"java/lang/String", "charAt", "(I)C"⟩ : MethodName) jdk_42_method_56_code 2 (some .char) :: ws) room30) (fun aa_ U_ => aa_ = #[(.ref a1), (.int (i.toInt32))] ∧ Z.Warmed39 U_.vm ∧ U_.heap = h0) (fun _ _ _ _ _ => True) (fun _ U_ o_ W_ => ∃ v_ L_, o_ = .returned v_ ∧ (Q30 Z a1 t1 k1 bs i k fm gC h0 n0) v_ W_.heap L_ ∧ FrameEnd U_ o_ W_ L_ room30.cells room30.slots) := by
  refine own_met (Q := (Q30 Z a1 t1 k1 bs i k fm gC h0 n0)) (L0 := #[.val (.ref a1), .val (.int (i.toInt32))]) (plainFor_of_name pn_0) (fun m => by first | (simp [entryFrame, mkF, argsToLocals, Value.category]; done) | rfl) ?_
  intro p e s m below meth c T0 X0 hx hby hml hown hnm hret hlk hZ e0
  have N0 := Fr.nil n0
  refine Go.st (T' := T0) (pc' := 1) (L' := #[.val (.ref a1), .val (.int (i.toInt32))]) (S' := [(.ref a1)]) (fun t_ k_ => XS.aloadN X0.here hx rfl (hb hby d30_0) rfl rfl  k_) ?_
  obtain ⟨cq1, kq1, q1a, q1b, q1c⟩ := isOf hZ e0 E_a1
  obtain ⟨_, _, ⟨T1, L1, k1, n1⟩, -, X1, ⟨Lc1, hQ1, l1, y1, z1⟩, st1⟩ := X0.virtualBack hx (y := (⟨"java/lang/String", "isLatin1", "()Z"⟩ : MethodName)) (z := (⟨"java/lang/String", "isLatin1", "()Z"⟩ : MethodName)) hown (mvT hZ (hw _ (List.mem_of_getElem? (i := 168) rfl))) (mvT hZ (hw _ (List.mem_of_getElem? (i := 169) rfl))) (notFace_of_selects (args := #[]) (mvT hZ (hw _ (List.mem_of_getElem? (i := 171) rfl)))) (mvT hZ (hw _ (List.mem_of_getElem? (i := 171) rfl))) (mvT hZ (hw _ (List.mem_of_getElem? (i := 170) rfl))) (by decide) (backOf (W := 0) (rm31 l Z a0 hw [] a1 gC h0 n0 Z0 SC PC O0 Fc_a1) hZ (hw _ (List.mem_of_getElem? (i := 172) rfl)) (hw _ (List.mem_of_getElem? (i := 6) rfl)) (by decide) (by decide)) q1a q1c (g := (mkF m 1 #[.val (.ref a1), .val (.int (i.toInt32))] [(.ref a1)])) rfl (by rw [hml]; rfl) (Steps.refl _) (argsL := []) (rest := []) (lenOf pd_8 rfl) rfl (by show 2 * 0 + _ ≤ _; exact Nat.le_of_eq rfl) (hb hby d30_1) (fun _ _ => ⟨rfl, e0, (by decide : 0 + 0 ≤ _), (by decide : 0 + 0 ≤ _)⟩)
  dsimp only [Pt.U, Pt.locs, Pt.cells, Pt.slots] at X1 l1 y1 z1 st1 hQ1
  subst l1 y1 z1
  obtain ⟨rfl, N1q, e1⟩ := hQ1
  have N1 := Fr.app N0 N1q
  refine Go.tr (T' := T1) (pc' := 4) (L' := #[.val (.ref a1), .val (.int (i.toInt32))]) (S' := [(.int (1 : Int32))]) st1 ?_
  refine Go.st (T' := T1) (pc' := 7) (L' := #[.val (.ref a1), .val (.int (i.toInt32))]) (S' := []) (fun t_ k_ => XS.ifNo X1.here hx rfl (hb hby d30_4) rfl ((if0 _ _).trans (feq (by decide : ¬ ((1 : Int32) = (0 : Int32)))).1) k_) ?_
  refine Go.st (T' := T1) (pc' := 8) (L' := #[.val (.ref a1), .val (.int (i.toInt32))]) (S' := [(.ref a1)]) (fun t_ k_ => XS.aloadN X1.here hx rfl (hb hby d30_7) rfl rfl  k_) ?_
  obtain ⟨T2, X2, e2, st2⟩ := getF X1 hx hZ hown (host := "") (Or.inl (hw _ (List.mem_of_getElem? (i := 24) rfl))) Via.refl e1 Fv_a1 (g := (mkF m 8 #[.val (.ref a1), .val (.int (i.toInt32))] [(.ref a1)])) rfl rfl (hb hby d30_8)
  refine Go.st (T' := T2) (pc' := 11) (L' := #[.val (.ref a1), .val (.int (i.toInt32))]) (S' := [(.ref t1)]) st2 ?_
  refine Go.st (T' := T2) (pc' := 12) (L' := #[.val (.ref a1), .val (.int (i.toInt32))]) (S' := [(.int (i.toInt32)), (.ref t1)]) (fun t_ k_ => XS.iloadN X2.here hx rfl (hb hby d30_11) rfl  k_) ?_
  obtain ⟨_, _, ⟨T3, L3, k3, n3⟩, -, X3, ⟨Lc3, hQ3, l3, y3, z3⟩, st3⟩ := Jvm.LawKit.callS X2 hx (y := (⟨"java/lang/StringLatin1", "charAt", "([BI)C"⟩ : MethodName)) hown (mvT hZ (hw _ (List.mem_of_getElem? (i := 173) rfl))) (mvT hZ (hw _ (List.mem_of_getElem? (i := 174) rfl))) (mvT hZ (hw _ (List.mem_of_getElem? (i := 175) rfl))) (mvT hZ (hw _ (List.mem_of_getElem? (i := 176) rfl))) (by decide) (backOf (W := 0) (rm32 l Z a0 hw [] t1 _ _ i k fm h0 n0 Z0 hfm SF O0 V_t1 hi hk) hZ (hw _ (List.mem_of_getElem? (i := 176) rfl)) (hw _ (List.mem_of_getElem? (i := 175) rfl)) (by decide) (by decide)) (g := (mkF m 12 #[.val (.ref a1), .val (.int (i.toInt32))] [(.int (i.toInt32)), (.ref t1)])) rfl (by rw [hml]; rfl) (argsL := [(.ref t1), (.int (i.toInt32))]) (rest := []) (lenOf pd_17 rfl) rfl (by show 2 * 0 + _ ≤ _; exact Nat.le_of_eq rfl) (hb hby d30_12) (fun _ _ => ⟨rfl, e2, (by decide : 0 + 0 ≤ _), (by decide : 0 + 0 ≤ _)⟩)
  dsimp only [Pt.U, Pt.locs, Pt.cells, Pt.slots] at X3 l3 y3 z3 st3 hQ3
  subst l3 y3 z3
  obtain ⟨rfl, N3q, e3⟩ := hQ3
  have N3 := Fr.app N1 N3q
  refine Go.st (T' := T3) (pc' := 15) (L' := #[.val (.ref a1), .val (.int (i.toInt32))]) (S' := [(.int (nar .char ((bs.getD (i) 0 &&& (255 : Int32)).toUInt32.toUInt16.toUInt32.toInt32)))]) st3 ?_
  exact Go.retN X3 hx hlk hret (by simp) (hb hby d30_15) (by decide) (by decide) (by rw [e3]; exact ⟨rfl, N3, rfl⟩)
theorem d6_0 : decode jdk_30_method_1_code 0 = .ok (.aload_n 0, 1) := by decide +kernel
theorem d6_1 : decode jdk_30_method_1_code 1 = .ok (.invokespecial 1, 3) := by decide +kernel
theorem d6_4 : decode jdk_30_method_1_code 4 = .ok (.return_, 1) := by decide +kernel
theorem pn_6 : plainName "java/lang/Record" = true := by first | (simp [plainName, overriddenIn]; done) | decide +kernel
def Q6 (Z : State) (a1 : Addr) (h0 : Heap) (n0 : Nat) (v : Option Value) (h : Heap) (L : List Loc) : Prop := v = none ∧ Fr n0 L ∧ h = h0
def room6 : Room := { frames := 1, cells := 0, slots := 0, locals := 12 }
set_option maxRecDepth 65536 in
set_option maxHeartbeats 40000000 in
theorem rm6 (l : Launch) (Z : State) (a0 : Array Value) (hw : ∀ d ∈ tables_1, d.before a0 Z = true) (ws : List Jvm.Cond) (a1 : Addr) (h0 : Heap) (n0 : Nat) (Z0 : n0 ≤ h0.size)  :
    MetFree l (⟨"java/lang/Record", "<init>", "()V"⟩ : MethodName) (head1 (Jvm.Cond.code (⟨"java/lang/Record", "<init>", "()V"⟩ : MethodName) jdk_30_method_1_code 1 none :: ws) room6) (fun aa_ U_ => aa_ = #[(.ref a1)] ∧ Z.Warmed39 U_.vm ∧ U_.heap = h0) (fun _ _ _ _ _ => True) (fun _ U_ o_ W_ => ∃ v_ L_, o_ = .returned v_ ∧ (Q6 Z a1 h0 n0) v_ W_.heap L_ ∧ FrameEnd U_ o_ W_ L_ room6.cells room6.slots) := by
  refine own_met (Q := (Q6 Z a1 h0 n0)) (L0 := #[.val (.ref a1)]) (plainFor_of_name pn_6) (fun m => by first | (simp [entryFrame, mkF, argsToLocals, Value.category]; done) | rfl) ?_
  intro p e s m below meth c T0 X0 hx hby hml hown hnm hret hlk hZ e0
  have N0 := Fr.nil n0
  refine Go.st (T' := T0) (pc' := 1) (L' := #[.val (.ref a1)]) (S' := [(.ref a1)]) (fun t_ k_ => XS.aloadN X0.here hx rfl (hb hby d6_0) rfl rfl  k_) ?_
  obtain ⟨T1, X1, e1, st1⟩ := initO X0 hx hZ hown (hw _ (List.mem_of_getElem? (i := 37) rfl)) (hw _ (List.mem_of_getElem? (i := 16) rfl)) (hw _ (List.mem_of_getElem? (i := 17) rfl)) e0 (g := (mkF m 1 #[.val (.ref a1)] [(.ref a1)])) rfl (by rw [hml]; rfl) rfl (hb hby d6_1) (by decide) (W := 0) (by show 2 * 0 + _ ≤ _; exact Nat.le_of_eq rfl) (by decide)
  refine Go.st (T' := T1) (pc' := 4) (L' := #[.val (.ref a1)]) (S' := []) st1 ?_
  exact Go.retV X1 hx hlk hret (hb hby d6_4) (by decide) (by decide) (by rw [e1]; exact ⟨rfl, N0, rfl⟩)
theorem own_nd {A B : List Int32} {n j : Nat} (hA : A.length = n) : (([] ++ A ++ [32]) ++ B).getD (n + 1 + j) 0 = B.getD j 0 := by
  simp only [List.getD_eq_getElem?_getD]
  rw [List.getElem?_append_right (by simp; omega)]
  simp [hA]
theorem own_pa {A B : List Int32} {n j : Nat} (hA : A.length = n) (hj : j < n) : (([] ++ A ++ [32]) ++ B).getD (0 + j) 0 = A.getD j 0 := by
  simp only [List.getD_eq_getElem?_getD, List.nil_append]
  rw [List.getElem?_append_left (by simp; omega), List.getElem?_append_left (by omega), Nat.zero_add]
theorem own_md {A B : List Int32} {n : Nat} (hA : A.length = n) : (([] ++ A ++ [32]) ++ B).getD n 0 = 32 := by
  simp only [List.getD_eq_getElem?_getD, List.nil_append]
  rw [List.getElem?_append_left (by simp; omega), List.getElem?_append_right (by omega)]
  simp [hA]
theorem own_mc {A B : List Int32} {n : Nat} (hA : A.length = n) : own_ch ((([] ++ A ++ [32]) ++ B).getD n 0) = 32 := by
  rw [own_md hA]; decide
theorem own_len3 {a b : Nat} (h : a + 1 + b < 2147483648) : (0 + a + 1 + b).toInt32 = (a.toInt32 + (1 : Int32)) + b.toInt32 := by
  rw [show a.toInt32 + (1 : Int32) = (a + 1).toInt32 from own_addN (m := a) (n := 1) (by omega), own_addN (by omega), Nat.zero_add]
theorem own_m3 (x : Int32) : x &&& (3 : Int32) = 0 ∨ x &&& (3 : Int32) = 1 ∨ x &&& (3 : Int32) = 2 ∨ x &&& (3 : Int32) = 3 := by
  have h := c_mask x 3 2 (by decide) (by decide)
  simp only [← Int32.toInt_inj, h]
  have e0 : (0 : Int32).toInt = 0 := rfl
  have e1 : (1 : Int32).toInt = 1 := rfl
  have e2 : (2 : Int32).toInt = 2 := rfl
  have e3 : (3 : Int32).toInt = 3 := rfl
  omega
theorem d5_0 : decode prog_55_method_1_code 0 = .ok (.aload_n 0, 1) := by decide +kernel
theorem d5_1 : decode prog_55_method_1_code 1 = .ok (.invokespecial 1, 3) := by decide +kernel
theorem d5_4 : decode prog_55_method_1_code 4 = .ok (.aload_n 0, 1) := by decide +kernel
theorem d5_5 : decode prog_55_method_1_code 5 = .ok (.aload_n 1, 1) := by decide +kernel
theorem d5_6 : decode prog_55_method_1_code 6 = .ok (.putfield 7, 3) := by decide +kernel
theorem d5_9 : decode prog_55_method_1_code 9 = .ok (.aload_n 0, 1) := by decide +kernel
theorem d5_10 : decode prog_55_method_1_code 10 = .ok (.aload_n 2, 1) := by decide +kernel
theorem d5_11 : decode prog_55_method_1_code 11 = .ok (.putfield 13, 3) := by decide +kernel
theorem d5_14 : decode prog_55_method_1_code 14 = .ok (.return_, 1) := by decide +kernel
theorem pd_18 : parseMethodDescriptor "()V" = some ⟨[], none⟩ := by decide +kernel
theorem pn_7 : plainName "com/example/vestry/vestry/plan/PlanSection" = true := by first | (simp [plainName, overriddenIn]; done) | decide +kernel
def Qps00 (Z : State) (a1 : Addr) (h0 : Heap) (n0 : Nat) (v : Option Value) (h : Heap) (L : List Loc) : Prop := v = none ∧ Fr n0 L ∧ Keep h0 h [a1] ∧ Fld Z h a1 "com/example/vestry/vestry/plan/PlanSection" "planId" "Ljava/lang/String;" .null ∧ Fld Z h a1 "com/example/vestry/vestry/plan/PlanSection" "section" "Ljava/lang/String;" .null
def roomps00 : Room := { frames := 2, cells := 0, slots := 0, locals := 24 }
set_option maxRecDepth 65536 in
set_option maxHeartbeats 40000000 in
theorem rmps00 (l : Launch) (Z : State) (a0 : Array Value) (hw : ∀ d ∈ tables_1, d.before a0 Z = true) (ws : List Jvm.Cond) (a1 : Addr) (h0 : Heap) (n0 : Nat) (Z0 : n0 ≤ h0.size) (E_a1 : Exa Z h0 a1 "com/example/vestry/vestry/plan/PlanSection") (g_a1 : n0 ≤ a1) (F_planId : Fld Z h0 a1 "com/example/vestry/vestry/plan/PlanSection" "planId" "Ljava/lang/String;" .null) (F_section : Fld Z h0 a1 "com/example/vestry/vestry/plan/PlanSection" "section" "Ljava/lang/String;" .null) :
    MetFree l (⟨"com/example/vestry/vestry/plan/PlanSection", "<init>", "(Ljava/lang/String;Ljava/lang/String;)V"⟩ : MethodName) (head1 (Jvm.Cond.code (⟨"com/example/vestry/vestry/plan/PlanSection", "<init>", "(Ljava/lang/String;Ljava/lang/String;)V"⟩ : MethodName) prog_55_method_1_code 3 none :: ws) roomps00) (fun aa_ U_ => aa_ = #[(.ref a1), .null, .null] ∧ Z.Warmed39 U_.vm ∧ U_.heap = h0) (fun _ _ _ _ _ => True) (fun _ U_ o_ W_ => ∃ v_ L_, o_ = .returned v_ ∧ (Qps00 Z a1 h0 n0) v_ W_.heap L_ ∧ FrameEnd U_ o_ W_ L_ roomps00.cells roomps00.slots) := by
  refine own_met (Q := (Qps00 Z a1 h0 n0)) (L0 := #[.val (.ref a1), .val .null, .val .null]) (plainFor_of_name pn_7) (fun m => by first | (simp [entryFrame, mkF, argsToLocals, Value.category]; done) | rfl) ?_
  intro p e s m below meth c T0 X0 hx hby hml hown hnm hret hlk hZ e0
  have N0 := Fr.nil n0
  have K0 := Keep.refl h0 [a1]
  refine Go.st (T' := T0) (pc' := 1) (L' := #[.val (.ref a1), .val .null, .val .null]) (S' := [(.ref a1)]) (fun t_ k_ => XS.aloadN X0.here hx rfl (hb hby d5_0) rfl rfl  k_) ?_
  obtain ⟨_, _, ⟨T1, L1, k1, n1⟩, -, X1, ⟨Lc1, hQ1, l1, y1, z1⟩, st1⟩ := X0.specialBack hx (y := (⟨"java/lang/Record", "<init>", "()V"⟩ : MethodName)) rfl hown (mvT hZ (hw _ (List.mem_of_getElem? (i := 32) rfl))) (mvT hZ (hw _ (List.mem_of_getElem? (i := 33) rfl))) (mvT hZ (hw _ (List.mem_of_getElem? (i := 36) rfl))) (by decide) (backOf (W := 0) (rm6 l Z a0 hw [] a1 h0 n0 Z0) hZ (hw _ (List.mem_of_getElem? (i := 36) rfl)) (hw _ (List.mem_of_getElem? (i := 35) rfl)) (by decide) (by decide)) (g := (mkF m 1 #[.val (.ref a1), .val .null, .val .null] [(.ref a1)])) rfl (by rw [hml]; rfl) (Steps.refl _) (a := a1) (argsL := []) (rest := []) (lenOf pd_18 rfl) rfl (by show 2 * 0 + _ ≤ _; exact Nat.le_of_eq rfl) (hb hby d5_1) (fun _ _ => ⟨rfl, e0, (by decide : 0 + 0 ≤ _), (by decide : 0 + 0 ≤ _)⟩)
  dsimp only [Pt.U, Pt.locs, Pt.cells, Pt.slots] at X1 l1 y1 z1 st1 hQ1
  subst l1 y1 z1
  obtain ⟨rfl, N1q, e1⟩ := hQ1
  have N1 := Fr.app N0 N1q
  refine Go.tr (T' := T1) (pc' := 4) (L' := #[.val (.ref a1), .val .null, .val .null]) (S' := []) st1 ?_
  refine Go.st (T' := T1) (pc' := 5) (L' := #[.val (.ref a1), .val .null, .val .null]) (S' := [(.ref a1)]) (fun t_ k_ => XS.aloadN X1.here hx rfl (hb hby d5_4) rfl rfl  k_) ?_
  refine Go.st (T' := T1) (pc' := 6) (L' := #[.val (.ref a1), .val .null, .val .null]) (S' := [.null, (.ref a1)]) (fun t_ k_ => XS.aloadN X1.here hx rfl (hb hby d5_5) rfl rfl  k_) ?_
  obtain ⟨T2, h2, X2, e2, W2, st2⟩ := putF X1 hx hZ hown (host := "") (Or.inl (hw _ (List.mem_of_getElem? (i := 38) rfl))) Via.refl e1 F_planId E_a1 (Or.inr ⟨(hw _ (List.mem_of_getElem? (i := 39) rfl)), rfl, hnm⟩) (hw _ (List.mem_of_getElem? (i := 27) rfl)) (ty := (.object "java/lang/String")) (by decide) rfl rfl (g := (mkF m 6 #[.val (.ref a1), .val .null, .val .null] [.null, (.ref a1)])) rfl rfl (hb hby d5_6)
  replace Z0 := Nat.le_trans Z0 (Keep.of_wr W2).1
  replace K0 := K0.wr W2 (Or.inl (List.mem_of_getElem? (i := 0) rfl))
  replace E_a1 := E_a1.wr W2
  replace F_section := F_section.other W2 (Or.inr (slot_ne (Or.inr (hw _ (List.mem_of_getElem? (i := 41) rfl))) (Or.inr (hw _ (List.mem_of_getElem? (i := 39) rfl))) (by decide) (t := (.object "java/lang/String")) (t' := (.object "java/lang/String")) (by decide) (by decide)))
  replace F_planId := F_planId.same W2
  have N2 := Fr.snoc X2 N1 g_a1
  refine Go.st (T' := T2) (pc' := 9) (L' := #[.val (.ref a1), .val .null, .val .null]) (S' := []) st2 ?_
  refine Go.st (T' := T2) (pc' := 10) (L' := #[.val (.ref a1), .val .null, .val .null]) (S' := [(.ref a1)]) (fun t_ k_ => XS.aloadN X2.here hx rfl (hb hby d5_9) rfl rfl  k_) ?_
  refine Go.st (T' := T2) (pc' := 11) (L' := #[.val (.ref a1), .val .null, .val .null]) (S' := [.null, (.ref a1)]) (fun t_ k_ => XS.aloadN X2.here hx rfl (hb hby d5_10) rfl rfl  k_) ?_
  obtain ⟨T3, h3, X3, e3, W3, st3⟩ := putF X2 hx hZ hown (host := "") (Or.inl (hw _ (List.mem_of_getElem? (i := 40) rfl))) Via.refl e2 F_section E_a1 (Or.inr ⟨(hw _ (List.mem_of_getElem? (i := 41) rfl)), rfl, hnm⟩) (hw _ (List.mem_of_getElem? (i := 27) rfl)) (ty := (.object "java/lang/String")) (by decide) rfl rfl (g := (mkF m 11 #[.val (.ref a1), .val .null, .val .null] [.null, (.ref a1)])) rfl rfl (hb hby d5_11)
  replace Z0 := Nat.le_trans Z0 (Keep.of_wr W3).1
  replace K0 := K0.wr W3 (Or.inl (List.mem_of_getElem? (i := 0) rfl))
  replace E_a1 := E_a1.wr W3
  replace F_planId := F_planId.other W3 (Or.inr (slot_ne (Or.inr (hw _ (List.mem_of_getElem? (i := 39) rfl))) (Or.inr (hw _ (List.mem_of_getElem? (i := 41) rfl))) (by decide) (t := (.object "java/lang/String")) (t' := (.object "java/lang/String")) (by decide) (by decide)))
  replace F_section := F_section.same W3
  have N3 := Fr.snoc X3 N2 g_a1
  refine Go.st (T' := T3) (pc' := 14) (L' := #[.val (.ref a1), .val .null, .val .null]) (S' := []) st3 ?_
  exact Go.retV X3 hx hlk hret (hb hby d5_14) (by decide) (by decide) (by rw [e3]; exact ⟨rfl, N3, K0, F_planId, F_section⟩)

def Qps01 (Z : State) (a1 : Addr) (x2 : Addr) (h0 : Heap) (n0 : Nat) (v : Option Value) (h : Heap) (L : List Loc) : Prop := v = none ∧ Fr n0 L ∧ Keep h0 h [a1] ∧ Fld Z h a1 "com/example/vestry/vestry/plan/PlanSection" "planId" "Ljava/lang/String;" .null ∧ Fld Z h a1 "com/example/vestry/vestry/plan/PlanSection" "section" "Ljava/lang/String;" (.ref x2)
def roomps01 : Room := { frames := 2, cells := 0, slots := 0, locals := 24 }
set_option maxRecDepth 65536 in
set_option maxHeartbeats 40000000 in
theorem rmps01 (l : Launch) (Z : State) (a0 : Array Value) (hw : ∀ d ∈ tables_1, d.before a0 Z = true) (ws : List Jvm.Cond) (a1 : Addr) (x2 : Addr) (h0 : Heap) (n0 : Nat) (Z0 : n0 ≤ h0.size) (E_a1 : Exa Z h0 a1 "com/example/vestry/vestry/plan/PlanSection") (g_a1 : n0 ≤ a1) (F_planId : Fld Z h0 a1 "com/example/vestry/vestry/plan/PlanSection" "planId" "Ljava/lang/String;" .null) (F_section : Fld Z h0 a1 "com/example/vestry/vestry/plan/PlanSection" "section" "Ljava/lang/String;" .null) :
    MetFree l (⟨"com/example/vestry/vestry/plan/PlanSection", "<init>", "(Ljava/lang/String;Ljava/lang/String;)V"⟩ : MethodName) (head1 (Jvm.Cond.code (⟨"com/example/vestry/vestry/plan/PlanSection", "<init>", "(Ljava/lang/String;Ljava/lang/String;)V"⟩ : MethodName) prog_55_method_1_code 3 none :: ws) roomps01) (fun aa_ U_ => aa_ = #[(.ref a1), .null, (.ref x2)] ∧ Z.Warmed39 U_.vm ∧ U_.heap = h0) (fun _ _ _ _ _ => True) (fun _ U_ o_ W_ => ∃ v_ L_, o_ = .returned v_ ∧ (Qps01 Z a1 x2 h0 n0) v_ W_.heap L_ ∧ FrameEnd U_ o_ W_ L_ roomps01.cells roomps01.slots) := by
  refine own_met (Q := (Qps01 Z a1 x2 h0 n0)) (L0 := #[.val (.ref a1), .val .null, .val (.ref x2)]) (plainFor_of_name pn_7) (fun m => by first | (simp [entryFrame, mkF, argsToLocals, Value.category]; done) | rfl) ?_
  intro p e s m below meth c T0 X0 hx hby hml hown hnm hret hlk hZ e0
  have N0 := Fr.nil n0
  have K0 := Keep.refl h0 [a1]
  refine Go.st (T' := T0) (pc' := 1) (L' := #[.val (.ref a1), .val .null, .val (.ref x2)]) (S' := [(.ref a1)]) (fun t_ k_ => XS.aloadN X0.here hx rfl (hb hby d5_0) rfl rfl  k_) ?_
  obtain ⟨_, _, ⟨T1, L1, k1, n1⟩, -, X1, ⟨Lc1, hQ1, l1, y1, z1⟩, st1⟩ := X0.specialBack hx (y := (⟨"java/lang/Record", "<init>", "()V"⟩ : MethodName)) rfl hown (mvT hZ (hw _ (List.mem_of_getElem? (i := 32) rfl))) (mvT hZ (hw _ (List.mem_of_getElem? (i := 33) rfl))) (mvT hZ (hw _ (List.mem_of_getElem? (i := 36) rfl))) (by decide) (backOf (W := 0) (rm6 l Z a0 hw [] a1 h0 n0 Z0) hZ (hw _ (List.mem_of_getElem? (i := 36) rfl)) (hw _ (List.mem_of_getElem? (i := 35) rfl)) (by decide) (by decide)) (g := (mkF m 1 #[.val (.ref a1), .val .null, .val (.ref x2)] [(.ref a1)])) rfl (by rw [hml]; rfl) (Steps.refl _) (a := a1) (argsL := []) (rest := []) (lenOf pd_18 rfl) rfl (by show 2 * 0 + _ ≤ _; exact Nat.le_of_eq rfl) (hb hby d5_1) (fun _ _ => ⟨rfl, e0, (by decide : 0 + 0 ≤ _), (by decide : 0 + 0 ≤ _)⟩)
  dsimp only [Pt.U, Pt.locs, Pt.cells, Pt.slots] at X1 l1 y1 z1 st1 hQ1
  subst l1 y1 z1
  obtain ⟨rfl, N1q, e1⟩ := hQ1
  have N1 := Fr.app N0 N1q
  refine Go.tr (T' := T1) (pc' := 4) (L' := #[.val (.ref a1), .val .null, .val (.ref x2)]) (S' := []) st1 ?_
  refine Go.st (T' := T1) (pc' := 5) (L' := #[.val (.ref a1), .val .null, .val (.ref x2)]) (S' := [(.ref a1)]) (fun t_ k_ => XS.aloadN X1.here hx rfl (hb hby d5_4) rfl rfl  k_) ?_
  refine Go.st (T' := T1) (pc' := 6) (L' := #[.val (.ref a1), .val .null, .val (.ref x2)]) (S' := [.null, (.ref a1)]) (fun t_ k_ => XS.aloadN X1.here hx rfl (hb hby d5_5) rfl rfl  k_) ?_
  obtain ⟨T2, h2, X2, e2, W2, st2⟩ := putF X1 hx hZ hown (host := "") (Or.inl (hw _ (List.mem_of_getElem? (i := 38) rfl))) Via.refl e1 F_planId E_a1 (Or.inr ⟨(hw _ (List.mem_of_getElem? (i := 39) rfl)), rfl, hnm⟩) (hw _ (List.mem_of_getElem? (i := 27) rfl)) (ty := (.object "java/lang/String")) (by decide) rfl rfl (g := (mkF m 6 #[.val (.ref a1), .val .null, .val (.ref x2)] [.null, (.ref a1)])) rfl rfl (hb hby d5_6)
  replace Z0 := Nat.le_trans Z0 (Keep.of_wr W2).1
  replace K0 := K0.wr W2 (Or.inl (List.mem_of_getElem? (i := 0) rfl))
  replace E_a1 := E_a1.wr W2
  replace F_section := F_section.other W2 (Or.inr (slot_ne (Or.inr (hw _ (List.mem_of_getElem? (i := 41) rfl))) (Or.inr (hw _ (List.mem_of_getElem? (i := 39) rfl))) (by decide) (t := (.object "java/lang/String")) (t' := (.object "java/lang/String")) (by decide) (by decide)))
  replace F_planId := F_planId.same W2
  have N2 := Fr.snoc X2 N1 g_a1
  refine Go.st (T' := T2) (pc' := 9) (L' := #[.val (.ref a1), .val .null, .val (.ref x2)]) (S' := []) st2 ?_
  refine Go.st (T' := T2) (pc' := 10) (L' := #[.val (.ref a1), .val .null, .val (.ref x2)]) (S' := [(.ref a1)]) (fun t_ k_ => XS.aloadN X2.here hx rfl (hb hby d5_9) rfl rfl  k_) ?_
  refine Go.st (T' := T2) (pc' := 11) (L' := #[.val (.ref a1), .val .null, .val (.ref x2)]) (S' := [(.ref x2), (.ref a1)]) (fun t_ k_ => XS.aloadN X2.here hx rfl (hb hby d5_10) rfl rfl  k_) ?_
  obtain ⟨T3, h3, X3, e3, W3, st3⟩ := putF X2 hx hZ hown (host := "") (Or.inl (hw _ (List.mem_of_getElem? (i := 40) rfl))) Via.refl e2 F_section E_a1 (Or.inr ⟨(hw _ (List.mem_of_getElem? (i := 41) rfl)), rfl, hnm⟩) (hw _ (List.mem_of_getElem? (i := 27) rfl)) (ty := (.object "java/lang/String")) (by decide) rfl rfl (g := (mkF m 11 #[.val (.ref a1), .val .null, .val (.ref x2)] [(.ref x2), (.ref a1)])) rfl rfl (hb hby d5_11)
  replace Z0 := Nat.le_trans Z0 (Keep.of_wr W3).1
  replace K0 := K0.wr W3 (Or.inl (List.mem_of_getElem? (i := 0) rfl))
  replace E_a1 := E_a1.wr W3
  replace F_planId := F_planId.other W3 (Or.inr (slot_ne (Or.inr (hw _ (List.mem_of_getElem? (i := 39) rfl))) (Or.inr (hw _ (List.mem_of_getElem? (i := 41) rfl))) (by decide) (t := (.object "java/lang/String")) (t' := (.object "java/lang/String")) (by decide) (by decide)))
  replace F_section := F_section.same W3
  have N3 := Fr.snoc X3 N2 g_a1
  refine Go.st (T' := T3) (pc' := 14) (L' := #[.val (.ref a1), .val .null, .val (.ref x2)]) (S' := []) st3 ?_
  exact Go.retV X3 hx hlk hret (hb hby d5_14) (by decide) (by decide) (by rw [e3]; exact ⟨rfl, N3, K0, F_planId, F_section⟩)

def Qps10 (Z : State) (a1 : Addr) (x1 : Addr) (h0 : Heap) (n0 : Nat) (v : Option Value) (h : Heap) (L : List Loc) : Prop := v = none ∧ Fr n0 L ∧ Keep h0 h [a1] ∧ Fld Z h a1 "com/example/vestry/vestry/plan/PlanSection" "planId" "Ljava/lang/String;" (.ref x1) ∧ Fld Z h a1 "com/example/vestry/vestry/plan/PlanSection" "section" "Ljava/lang/String;" .null
def roomps10 : Room := { frames := 2, cells := 0, slots := 0, locals := 24 }
set_option maxRecDepth 65536 in
set_option maxHeartbeats 40000000 in
theorem rmps10 (l : Launch) (Z : State) (a0 : Array Value) (hw : ∀ d ∈ tables_1, d.before a0 Z = true) (ws : List Jvm.Cond) (a1 : Addr) (x1 : Addr) (h0 : Heap) (n0 : Nat) (Z0 : n0 ≤ h0.size) (E_a1 : Exa Z h0 a1 "com/example/vestry/vestry/plan/PlanSection") (g_a1 : n0 ≤ a1) (F_planId : Fld Z h0 a1 "com/example/vestry/vestry/plan/PlanSection" "planId" "Ljava/lang/String;" .null) (F_section : Fld Z h0 a1 "com/example/vestry/vestry/plan/PlanSection" "section" "Ljava/lang/String;" .null) :
    MetFree l (⟨"com/example/vestry/vestry/plan/PlanSection", "<init>", "(Ljava/lang/String;Ljava/lang/String;)V"⟩ : MethodName) (head1 (Jvm.Cond.code (⟨"com/example/vestry/vestry/plan/PlanSection", "<init>", "(Ljava/lang/String;Ljava/lang/String;)V"⟩ : MethodName) prog_55_method_1_code 3 none :: ws) roomps10) (fun aa_ U_ => aa_ = #[(.ref a1), (.ref x1), .null] ∧ Z.Warmed39 U_.vm ∧ U_.heap = h0) (fun _ _ _ _ _ => True) (fun _ U_ o_ W_ => ∃ v_ L_, o_ = .returned v_ ∧ (Qps10 Z a1 x1 h0 n0) v_ W_.heap L_ ∧ FrameEnd U_ o_ W_ L_ roomps10.cells roomps10.slots) := by
  refine own_met (Q := (Qps10 Z a1 x1 h0 n0)) (L0 := #[.val (.ref a1), .val (.ref x1), .val .null]) (plainFor_of_name pn_7) (fun m => by first | (simp [entryFrame, mkF, argsToLocals, Value.category]; done) | rfl) ?_
  intro p e s m below meth c T0 X0 hx hby hml hown hnm hret hlk hZ e0
  have N0 := Fr.nil n0
  have K0 := Keep.refl h0 [a1]
  refine Go.st (T' := T0) (pc' := 1) (L' := #[.val (.ref a1), .val (.ref x1), .val .null]) (S' := [(.ref a1)]) (fun t_ k_ => XS.aloadN X0.here hx rfl (hb hby d5_0) rfl rfl  k_) ?_
  obtain ⟨_, _, ⟨T1, L1, k1, n1⟩, -, X1, ⟨Lc1, hQ1, l1, y1, z1⟩, st1⟩ := X0.specialBack hx (y := (⟨"java/lang/Record", "<init>", "()V"⟩ : MethodName)) rfl hown (mvT hZ (hw _ (List.mem_of_getElem? (i := 32) rfl))) (mvT hZ (hw _ (List.mem_of_getElem? (i := 33) rfl))) (mvT hZ (hw _ (List.mem_of_getElem? (i := 36) rfl))) (by decide) (backOf (W := 0) (rm6 l Z a0 hw [] a1 h0 n0 Z0) hZ (hw _ (List.mem_of_getElem? (i := 36) rfl)) (hw _ (List.mem_of_getElem? (i := 35) rfl)) (by decide) (by decide)) (g := (mkF m 1 #[.val (.ref a1), .val (.ref x1), .val .null] [(.ref a1)])) rfl (by rw [hml]; rfl) (Steps.refl _) (a := a1) (argsL := []) (rest := []) (lenOf pd_18 rfl) rfl (by show 2 * 0 + _ ≤ _; exact Nat.le_of_eq rfl) (hb hby d5_1) (fun _ _ => ⟨rfl, e0, (by decide : 0 + 0 ≤ _), (by decide : 0 + 0 ≤ _)⟩)
  dsimp only [Pt.U, Pt.locs, Pt.cells, Pt.slots] at X1 l1 y1 z1 st1 hQ1
  subst l1 y1 z1
  obtain ⟨rfl, N1q, e1⟩ := hQ1
  have N1 := Fr.app N0 N1q
  refine Go.tr (T' := T1) (pc' := 4) (L' := #[.val (.ref a1), .val (.ref x1), .val .null]) (S' := []) st1 ?_
  refine Go.st (T' := T1) (pc' := 5) (L' := #[.val (.ref a1), .val (.ref x1), .val .null]) (S' := [(.ref a1)]) (fun t_ k_ => XS.aloadN X1.here hx rfl (hb hby d5_4) rfl rfl  k_) ?_
  refine Go.st (T' := T1) (pc' := 6) (L' := #[.val (.ref a1), .val (.ref x1), .val .null]) (S' := [(.ref x1), (.ref a1)]) (fun t_ k_ => XS.aloadN X1.here hx rfl (hb hby d5_5) rfl rfl  k_) ?_
  obtain ⟨T2, h2, X2, e2, W2, st2⟩ := putF X1 hx hZ hown (host := "") (Or.inl (hw _ (List.mem_of_getElem? (i := 38) rfl))) Via.refl e1 F_planId E_a1 (Or.inr ⟨(hw _ (List.mem_of_getElem? (i := 39) rfl)), rfl, hnm⟩) (hw _ (List.mem_of_getElem? (i := 27) rfl)) (ty := (.object "java/lang/String")) (by decide) rfl rfl (g := (mkF m 6 #[.val (.ref a1), .val (.ref x1), .val .null] [(.ref x1), (.ref a1)])) rfl rfl (hb hby d5_6)
  replace Z0 := Nat.le_trans Z0 (Keep.of_wr W2).1
  replace K0 := K0.wr W2 (Or.inl (List.mem_of_getElem? (i := 0) rfl))
  replace E_a1 := E_a1.wr W2
  replace F_section := F_section.other W2 (Or.inr (slot_ne (Or.inr (hw _ (List.mem_of_getElem? (i := 41) rfl))) (Or.inr (hw _ (List.mem_of_getElem? (i := 39) rfl))) (by decide) (t := (.object "java/lang/String")) (t' := (.object "java/lang/String")) (by decide) (by decide)))
  replace F_planId := F_planId.same W2
  have N2 := Fr.snoc X2 N1 g_a1
  refine Go.st (T' := T2) (pc' := 9) (L' := #[.val (.ref a1), .val (.ref x1), .val .null]) (S' := []) st2 ?_
  refine Go.st (T' := T2) (pc' := 10) (L' := #[.val (.ref a1), .val (.ref x1), .val .null]) (S' := [(.ref a1)]) (fun t_ k_ => XS.aloadN X2.here hx rfl (hb hby d5_9) rfl rfl  k_) ?_
  refine Go.st (T' := T2) (pc' := 11) (L' := #[.val (.ref a1), .val (.ref x1), .val .null]) (S' := [.null, (.ref a1)]) (fun t_ k_ => XS.aloadN X2.here hx rfl (hb hby d5_10) rfl rfl  k_) ?_
  obtain ⟨T3, h3, X3, e3, W3, st3⟩ := putF X2 hx hZ hown (host := "") (Or.inl (hw _ (List.mem_of_getElem? (i := 40) rfl))) Via.refl e2 F_section E_a1 (Or.inr ⟨(hw _ (List.mem_of_getElem? (i := 41) rfl)), rfl, hnm⟩) (hw _ (List.mem_of_getElem? (i := 27) rfl)) (ty := (.object "java/lang/String")) (by decide) rfl rfl (g := (mkF m 11 #[.val (.ref a1), .val (.ref x1), .val .null] [.null, (.ref a1)])) rfl rfl (hb hby d5_11)
  replace Z0 := Nat.le_trans Z0 (Keep.of_wr W3).1
  replace K0 := K0.wr W3 (Or.inl (List.mem_of_getElem? (i := 0) rfl))
  replace E_a1 := E_a1.wr W3
  replace F_planId := F_planId.other W3 (Or.inr (slot_ne (Or.inr (hw _ (List.mem_of_getElem? (i := 39) rfl))) (Or.inr (hw _ (List.mem_of_getElem? (i := 41) rfl))) (by decide) (t := (.object "java/lang/String")) (t' := (.object "java/lang/String")) (by decide) (by decide)))
  replace F_section := F_section.same W3
  have N3 := Fr.snoc X3 N2 g_a1
  refine Go.st (T' := T3) (pc' := 14) (L' := #[.val (.ref a1), .val (.ref x1), .val .null]) (S' := []) st3 ?_
  exact Go.retV X3 hx hlk hret (hb hby d5_14) (by decide) (by decide) (by rw [e3]; exact ⟨rfl, N3, K0, F_planId, F_section⟩)

def Qps11 (Z : State) (a1 : Addr) (x1 : Addr) (x2 : Addr) (h0 : Heap) (n0 : Nat) (v : Option Value) (h : Heap) (L : List Loc) : Prop := v = none ∧ Fr n0 L ∧ Keep h0 h [a1] ∧ Fld Z h a1 "com/example/vestry/vestry/plan/PlanSection" "planId" "Ljava/lang/String;" (.ref x1) ∧ Fld Z h a1 "com/example/vestry/vestry/plan/PlanSection" "section" "Ljava/lang/String;" (.ref x2)
def roomps11 : Room := { frames := 2, cells := 0, slots := 0, locals := 24 }
set_option maxRecDepth 65536 in
set_option maxHeartbeats 40000000 in
theorem rmps11 (l : Launch) (Z : State) (a0 : Array Value) (hw : ∀ d ∈ tables_1, d.before a0 Z = true) (ws : List Jvm.Cond) (a1 : Addr) (x1 : Addr) (x2 : Addr) (h0 : Heap) (n0 : Nat) (Z0 : n0 ≤ h0.size) (E_a1 : Exa Z h0 a1 "com/example/vestry/vestry/plan/PlanSection") (g_a1 : n0 ≤ a1) (F_planId : Fld Z h0 a1 "com/example/vestry/vestry/plan/PlanSection" "planId" "Ljava/lang/String;" .null) (F_section : Fld Z h0 a1 "com/example/vestry/vestry/plan/PlanSection" "section" "Ljava/lang/String;" .null) :
    MetFree l (⟨"com/example/vestry/vestry/plan/PlanSection", "<init>", "(Ljava/lang/String;Ljava/lang/String;)V"⟩ : MethodName) (head1 (Jvm.Cond.code (⟨"com/example/vestry/vestry/plan/PlanSection", "<init>", "(Ljava/lang/String;Ljava/lang/String;)V"⟩ : MethodName) prog_55_method_1_code 3 none :: ws) roomps11) (fun aa_ U_ => aa_ = #[(.ref a1), (.ref x1), (.ref x2)] ∧ Z.Warmed39 U_.vm ∧ U_.heap = h0) (fun _ _ _ _ _ => True) (fun _ U_ o_ W_ => ∃ v_ L_, o_ = .returned v_ ∧ (Qps11 Z a1 x1 x2 h0 n0) v_ W_.heap L_ ∧ FrameEnd U_ o_ W_ L_ roomps11.cells roomps11.slots) := by
  refine own_met (Q := (Qps11 Z a1 x1 x2 h0 n0)) (L0 := #[.val (.ref a1), .val (.ref x1), .val (.ref x2)]) (plainFor_of_name pn_7) (fun m => by first | (simp [entryFrame, mkF, argsToLocals, Value.category]; done) | rfl) ?_
  intro p e s m below meth c T0 X0 hx hby hml hown hnm hret hlk hZ e0
  have N0 := Fr.nil n0
  have K0 := Keep.refl h0 [a1]
  refine Go.st (T' := T0) (pc' := 1) (L' := #[.val (.ref a1), .val (.ref x1), .val (.ref x2)]) (S' := [(.ref a1)]) (fun t_ k_ => XS.aloadN X0.here hx rfl (hb hby d5_0) rfl rfl  k_) ?_
  obtain ⟨_, _, ⟨T1, L1, k1, n1⟩, -, X1, ⟨Lc1, hQ1, l1, y1, z1⟩, st1⟩ := X0.specialBack hx (y := (⟨"java/lang/Record", "<init>", "()V"⟩ : MethodName)) rfl hown (mvT hZ (hw _ (List.mem_of_getElem? (i := 32) rfl))) (mvT hZ (hw _ (List.mem_of_getElem? (i := 33) rfl))) (mvT hZ (hw _ (List.mem_of_getElem? (i := 36) rfl))) (by decide) (backOf (W := 0) (rm6 l Z a0 hw [] a1 h0 n0 Z0) hZ (hw _ (List.mem_of_getElem? (i := 36) rfl)) (hw _ (List.mem_of_getElem? (i := 35) rfl)) (by decide) (by decide)) (g := (mkF m 1 #[.val (.ref a1), .val (.ref x1), .val (.ref x2)] [(.ref a1)])) rfl (by rw [hml]; rfl) (Steps.refl _) (a := a1) (argsL := []) (rest := []) (lenOf pd_18 rfl) rfl (by show 2 * 0 + _ ≤ _; exact Nat.le_of_eq rfl) (hb hby d5_1) (fun _ _ => ⟨rfl, e0, (by decide : 0 + 0 ≤ _), (by decide : 0 + 0 ≤ _)⟩)
  dsimp only [Pt.U, Pt.locs, Pt.cells, Pt.slots] at X1 l1 y1 z1 st1 hQ1
  subst l1 y1 z1
  obtain ⟨rfl, N1q, e1⟩ := hQ1
  have N1 := Fr.app N0 N1q
  refine Go.tr (T' := T1) (pc' := 4) (L' := #[.val (.ref a1), .val (.ref x1), .val (.ref x2)]) (S' := []) st1 ?_
  refine Go.st (T' := T1) (pc' := 5) (L' := #[.val (.ref a1), .val (.ref x1), .val (.ref x2)]) (S' := [(.ref a1)]) (fun t_ k_ => XS.aloadN X1.here hx rfl (hb hby d5_4) rfl rfl  k_) ?_
  refine Go.st (T' := T1) (pc' := 6) (L' := #[.val (.ref a1), .val (.ref x1), .val (.ref x2)]) (S' := [(.ref x1), (.ref a1)]) (fun t_ k_ => XS.aloadN X1.here hx rfl (hb hby d5_5) rfl rfl  k_) ?_
  obtain ⟨T2, h2, X2, e2, W2, st2⟩ := putF X1 hx hZ hown (host := "") (Or.inl (hw _ (List.mem_of_getElem? (i := 38) rfl))) Via.refl e1 F_planId E_a1 (Or.inr ⟨(hw _ (List.mem_of_getElem? (i := 39) rfl)), rfl, hnm⟩) (hw _ (List.mem_of_getElem? (i := 27) rfl)) (ty := (.object "java/lang/String")) (by decide) rfl rfl (g := (mkF m 6 #[.val (.ref a1), .val (.ref x1), .val (.ref x2)] [(.ref x1), (.ref a1)])) rfl rfl (hb hby d5_6)
  replace Z0 := Nat.le_trans Z0 (Keep.of_wr W2).1
  replace K0 := K0.wr W2 (Or.inl (List.mem_of_getElem? (i := 0) rfl))
  replace E_a1 := E_a1.wr W2
  replace F_section := F_section.other W2 (Or.inr (slot_ne (Or.inr (hw _ (List.mem_of_getElem? (i := 41) rfl))) (Or.inr (hw _ (List.mem_of_getElem? (i := 39) rfl))) (by decide) (t := (.object "java/lang/String")) (t' := (.object "java/lang/String")) (by decide) (by decide)))
  replace F_planId := F_planId.same W2
  have N2 := Fr.snoc X2 N1 g_a1
  refine Go.st (T' := T2) (pc' := 9) (L' := #[.val (.ref a1), .val (.ref x1), .val (.ref x2)]) (S' := []) st2 ?_
  refine Go.st (T' := T2) (pc' := 10) (L' := #[.val (.ref a1), .val (.ref x1), .val (.ref x2)]) (S' := [(.ref a1)]) (fun t_ k_ => XS.aloadN X2.here hx rfl (hb hby d5_9) rfl rfl  k_) ?_
  refine Go.st (T' := T2) (pc' := 11) (L' := #[.val (.ref a1), .val (.ref x1), .val (.ref x2)]) (S' := [(.ref x2), (.ref a1)]) (fun t_ k_ => XS.aloadN X2.here hx rfl (hb hby d5_10) rfl rfl  k_) ?_
  obtain ⟨T3, h3, X3, e3, W3, st3⟩ := putF X2 hx hZ hown (host := "") (Or.inl (hw _ (List.mem_of_getElem? (i := 40) rfl))) Via.refl e2 F_section E_a1 (Or.inr ⟨(hw _ (List.mem_of_getElem? (i := 41) rfl)), rfl, hnm⟩) (hw _ (List.mem_of_getElem? (i := 27) rfl)) (ty := (.object "java/lang/String")) (by decide) rfl rfl (g := (mkF m 11 #[.val (.ref a1), .val (.ref x1), .val (.ref x2)] [(.ref x2), (.ref a1)])) rfl rfl (hb hby d5_11)
  replace Z0 := Nat.le_trans Z0 (Keep.of_wr W3).1
  replace K0 := K0.wr W3 (Or.inl (List.mem_of_getElem? (i := 0) rfl))
  replace E_a1 := E_a1.wr W3
  replace F_planId := F_planId.other W3 (Or.inr (slot_ne (Or.inr (hw _ (List.mem_of_getElem? (i := 39) rfl))) (Or.inr (hw _ (List.mem_of_getElem? (i := 41) rfl))) (by decide) (t := (.object "java/lang/String")) (t' := (.object "java/lang/String")) (by decide) (by decide)))
  replace F_section := F_section.same W3
  have N3 := Fr.snoc X3 N2 g_a1
  refine Go.st (T' := T3) (pc' := 14) (L' := #[.val (.ref a1), .val (.ref x1), .val (.ref x2)]) (S' := []) st3 ?_
  exact Go.retV X3 hx hlk hret (hb hby d5_14) (by decide) (by decide) (by rw [e3]; exact ⟨rfl, N3, K0, F_planId, F_section⟩)
theorem d7_0 : decode prog_55_method_2_code 0 = .ok (.new 16, 3) := by decide +kernel
theorem d7_3 : decode prog_55_method_2_code 3 = .ok (.dup, 1) := by decide +kernel
theorem d7_4 : decode prog_55_method_2_code 4 = .ok (.invokespecial 18, 3) := by decide +kernel
theorem d7_7 : decode prog_55_method_2_code 7 = .ok (.aload_n 0, 1) := by decide +kernel
theorem d7_8 : decode prog_55_method_2_code 8 = .ok (.getfield 7, 3) := by decide +kernel
theorem d7_11 : decode prog_55_method_2_code 11 = .ok (.invokevirtual 19, 3) := by decide +kernel
theorem d7_14 : decode prog_55_method_2_code 14 = .ok (.ldc 23, 2) := by decide +kernel
theorem d7_16 : decode prog_55_method_2_code 16 = .ok (.invokevirtual 19, 3) := by decide +kernel
theorem d7_19 : decode prog_55_method_2_code 19 = .ok (.aload_n 0, 1) := by decide +kernel
theorem d7_20 : decode prog_55_method_2_code 20 = .ok (.getfield 13, 3) := by decide +kernel
theorem d7_23 : decode prog_55_method_2_code 23 = .ok (.invokevirtual 19, 3) := by decide +kernel
theorem d7_26 : decode prog_55_method_2_code 26 = .ok (.invokevirtual 25, 3) := by decide +kernel
theorem d7_29 : decode prog_55_method_2_code 29 = .ok (.areturn, 1) := by decide +kernel
theorem pd_19 : parseMethodDescriptor "(Ljava/lang/String;)Ljava/lang/StringBuilder;" = some ⟨[(.object "java/lang/String")], some (.object "java/lang/StringBuilder")⟩ := by decide +kernel
theorem pd_20 : parseMethodDescriptor "()Ljava/lang/String;" = some ⟨[], some (.object "java/lang/String")⟩ := by decide +kernel
def Qts00 (Z : State)  (h0 : Heap) (n0 : Nat) (v : Option Value) (h : Heap) (L : List Loc) : Prop := ∃ (r t : Addr) (kt : ClassId), v = some (.ref r) ∧ Fr n0 L ∧ Keep h0 h [] ∧ n0 ≤ r ∧ h0.size ≤ r ∧ Exa Z h r "java/lang/String" ∧ Fld Z h r "java/lang/String" "coder" "B" (.int (0 : Int32)) ∧ Fld Z h r "java/lang/String" "value" "[B" (.ref t) ∧ Arv Z h t kt .byte ((0 + 4 + 1 + 4 : Nat).toInt32) ((([] ++ ([110, 117, 108, 108] : List Int32) ++ ([32] : List Int32)) ++ ([110, 117, 108, 108] : List Int32)).map Value.int) (.int (0 : Int32))
def roomts00 : Room := { frames := 6, cells := 6, slots := 48, locals := 113 }
set_option maxRecDepth 65536 in
set_option maxHeartbeats 40000000 in
theorem rmts00 (l : Launch) (Z : State) (a0 : Array Value) (hw : ∀ d ∈ tables_1, d.before a0 Z = true) (ws : List Jvm.Cond) (a1 : Addr) (gC : Int32) (h0 : Heap) (n0 : Nat) (Z0 : n0 ≤ h0.size) (SC : Sta Z Z.heap "java/lang/String" "COMPACT_STRINGS" "Z" (.int gC)) (PC : ¬ (gC = (0 : Int32))) (O0 : Old Z n0 h0) (F_planId : Fld Z h0 a1 "com/example/vestry/vestry/plan/PlanSection" "planId" "Ljava/lang/String;" .null) (F_section : Fld Z h0 a1 "com/example/vestry/vestry/plan/PlanSection" "section" "Ljava/lang/String;" .null) :
    MetFree l (⟨"com/example/vestry/vestry/plan/PlanSection", "toString", "()Ljava/lang/String;"⟩ : MethodName) (head1 (Jvm.Cond.code (⟨"com/example/vestry/vestry/plan/PlanSection", "toString", "()Ljava/lang/String;"⟩ : MethodName) prog_55_method_2_code 1 (some (.object "java/lang/String")) :: ws) roomts00) (fun aa_ U_ => aa_ = #[(.ref a1)] ∧ Z.Warmed39 U_.vm ∧ U_.heap = h0 ∧ CHv Z EL U_.vm h0) (fun _ _ _ _ _ => True) (fun _ U_ o_ W_ => ∃ v_ L_, o_ = .returned v_ ∧ (Qts00 Z  h0 n0) v_ W_.heap L_ ∧ CHr Z EL U_.vm U_.heap W_.vm W_.heap ∧ ReturnedEndW U_ o_ W_ L_ roomts00.cells roomts00.slots) := by
  refine own_metH (Q := (Qts00 Z  h0 n0)) (L0 := #[.val (.ref a1)]) (plainFor_of_name pn_7) (fun m => by first | (simp [entryFrame, mkF, argsToLocals, Value.category]; done) | rfl) ?_
  intro p e s m below meth c T0 X0 hx hby hml hown hnm hret hlk hZ e0 hs0 CR hS hk
  have N0 := Fr.nil n0
  have K0 := Keep.refl h0 []
  obtain ⟨T1, h1, X1, e1, E1, A1, D1, U1, st1⟩ := newO X0 hx hZ hown (hw _ (List.mem_of_getElem? (i := 47) rfl)) (hw _ (List.mem_of_getElem? (i := 48) rfl)) (hw _ (List.mem_of_getElem? (i := 49) rfl)) e0 (g := (mkF m 0 #[.val (.ref a1)] [])) rfl (hb hby d7_0) (by decide) (by decide)
  obtain ⟨b1, g1⟩ : ∃ z, z = h0.size := ⟨_, rfl⟩
  rw [← g1] at A1 D1 U1 st1
  have ne_a1_b1 : a1 ≠ b1 := Nat.ne_of_lt (Nat.lt_of_lt_of_le F_planId.lt (Nat.le_of_eq g1.symm))
  have g_b1 : n0 ≤ b1 := Nat.le_trans Z0 (Nat.le_of_eq g1.symm)
  have sz_b1 : h0.size ≤ b1 := Nat.le_trans K0.1 (Nat.le_of_eq g1.symm)
  replace CR := CR.trans (CHr.ext E1 CR.1)
  replace hk := Nat.le_trans hk E1.1
  replace Z0 := Nat.le_trans Z0 E1.1
  replace K0 := K0.ext E1
  replace O0 := O0.ext E1
  replace F_planId := F_planId.ext E1
  replace F_section := F_section.ext E1
  have E_b1 := A1
  have F_b1_value : Fld Z h1 b1 "java/lang/AbstractStringBuilder" "value" "[B" .null := D1 (Or.inl (hw _ (List.mem_of_getElem? (i := 62) rfl))) (ty := (.array .byte)) (by decide)
  have F_b1_coder : Fld Z h1 b1 "java/lang/AbstractStringBuilder" "coder" "B" (.int (0 : Int32)) := D1 (Or.inl (hw _ (List.mem_of_getElem? (i := 64) rfl))) (ty := .byte) (by decide)
  have F_b1_count : Fld Z h1 b1 "java/lang/AbstractStringBuilder" "count" "I" (.int (0 : Int32)) := D1 (Or.inl (hw _ (List.mem_of_getElem? (i := 87) rfl))) (ty := .int) (by decide)
  refine GoH.st (T' := T1) (pc' := 3) (L' := #[.val (.ref a1)]) (S' := [(.ref b1)]) st1 ?_
  have S_b1 : Safe Z EL s.vm h1 b1 := Safe.exa hZ.alike E_b1 (by decide) (by decide)
  refine GoH.st (T' := T1) (pc' := 4) (L' := #[.val (.ref a1)]) (S' := [(.ref b1), (.ref b1)]) (fun t_ k_ => XS.dup X1.here hx rfl (hb hby d7_3) rfl rfl k_) ?_
  obtain ⟨_, _, ⟨T2, L2, k2, n2⟩, -, X2, ⟨Lc2, hQ2, l2, y2, z2⟩, st2⟩ := X1.specialBack hx (y := (⟨"java/lang/StringBuilder", "<init>", "()V"⟩ : MethodName)) rfl hown (mvT hZ (hw _ (List.mem_of_getElem? (i := 50) rfl))) (mvT hZ (hw _ (List.mem_of_getElem? (i := 51) rfl))) (mvT hZ (hw _ (List.mem_of_getElem? (i := 52) rfl))) (by decide) (backOf (W := 1) (rm8 l Z a0 hw [] b1 gC h1 n0 Z0 E_b1 g_b1 SC PC O0 F_b1_value F_b1_coder F_b1_count) hZ (hw _ (List.mem_of_getElem? (i := 52) rfl)) (hw _ (List.mem_of_getElem? (i := 49) rfl)) (by decide) (by decide)) (g := (mkF m 4 #[.val (.ref a1)] [(.ref b1), (.ref b1)])) rfl (by rw [hml]; rfl) (Steps.refl _) (a := b1) (argsL := []) (rest := [(.ref b1)]) (lenOf pd_18 rfl) rfl (by show 2 * 0 + _ ≤ _; exact Nat.le_of_eq rfl) (hb hby d7_4) (fun _ _ => ⟨rfl, e1, (by decide : 1 + 1 ≤ _), (by decide : 4 + 16 ≤ _)⟩)
  dsimp only [Pt.U, Pt.locs, Pt.cells, Pt.slots] at X2 l2 y2 z2 st2 hQ2
  subst l2 y2 z2
  obtain ⟨bb2, kb2, rfl, N2q, K2, g_bb2, lt2, Fv2, Fd2, Fn2, Vb2⟩ := hQ2
  have N2 := Fr.app N0 N2q
  have ne_a1_bb2 : a1 ≠ bb2 := Nat.ne_of_lt (Nat.lt_of_lt_of_le F_planId.lt lt2)
  have ne_b1_bb2 : b1 ≠ bb2 := Nat.ne_of_lt (Nat.lt_of_lt_of_le E_b1.lt lt2)
  have sz_bb2 : h0.size ≤ bb2 := Nat.le_trans K0.1 lt2
  have S_bb2 : Safe Z EL s.vm h1 bb2 := Safe.new lt2
  obtain ⟨h2, e2⟩ : ∃ z, T2.heap = z := ⟨_, rfl⟩
  rw [e2] at K2 Fv2 Fd2 Fn2 Vb2
  have Sk3 : ∀ x ∈ [b1], Safe Z EL s.vm h1 x := (allS S_b1 all0)
  replace S_b1 := Safe.keep K2 Sk3 CR.1 S_b1
  replace S_bb2 := Safe.keep K2 Sk3 CR.1 S_bb2
  replace CR := CR.trans (CHr.keep K2 Sk3 CR.1)
  replace hk := Nat.le_trans hk K2.1
  replace Z0 := Nat.le_trans Z0 K2.1
  replace K0 := K0.trans K2 (allS (Or.inr sz_b1) all0)
  replace O0 := O0.keep K2 (allS g_b1 all0)
  replace F_planId := F_planId.keep K2 (ninS ne_a1_b1 nin0)
  replace F_section := F_section.keep K2 (ninS ne_a1_b1 nin0)
  replace E_b1 := E_b1.keep K2
  refine GoH.tr (T' := T2) (pc' := 7) (L' := #[.val (.ref a1)]) (S' := [(.ref b1)]) st2 ?_
  refine GoH.st (T' := T2) (pc' := 8) (L' := #[.val (.ref a1)]) (S' := [(.ref a1), (.ref b1)]) (fun t_ k_ => XS.aloadN X2.here hx rfl (hb hby d7_7) rfl rfl  k_) ?_
  obtain ⟨T4, X4, e4, st4⟩ := getF X2 hx hZ hown (host := "") (Or.inl (hw _ (List.mem_of_getElem? (i := 38) rfl))) Via.refl e2 F_planId (g := (mkF m 8 #[.val (.ref a1)] [(.ref a1), (.ref b1)])) rfl rfl (hb hby d7_8)
  refine GoH.st (T' := T4) (pc' := 11) (L' := #[.val (.ref a1)]) (S' := [.null, (.ref b1)]) st4 ?_
  obtain ⟨cq5, kq5, q5a, q5b, q5c⟩ := isOf hZ e4 E_b1
  obtain ⟨_, _, ⟨T5, L5, k5, n5⟩, -, X5, ⟨Lc5, hQ5, l5, y5, z5⟩, st5⟩ := X4.virtualBack hx (y := (⟨"java/lang/StringBuilder", "append", "(Ljava/lang/String;)Ljava/lang/StringBuilder;"⟩ : MethodName)) (z := (⟨"java/lang/StringBuilder", "append", "(Ljava/lang/String;)Ljava/lang/StringBuilder;"⟩ : MethodName)) hown (mvT hZ (hw _ (List.mem_of_getElem? (i := 65) rfl))) (mvT hZ (hw _ (List.mem_of_getElem? (i := 66) rfl))) (notFace_of_selects (args := #[]) (mvT hZ (hw _ (List.mem_of_getElem? (i := 68) rfl)))) (mvT hZ (hw _ (List.mem_of_getElem? (i := 68) rfl))) (mvT hZ (hw _ (List.mem_of_getElem? (i := 67) rfl))) (by decide) (backOf (W := 0) (rmappNS l Z a0 hw [] b1 bb2 _ _ (0) gC h2 n0 Z0 SC PC O0 E_b1 g_b1 ne_b1_bb2 Fv2 Fd2 Vb2 Fn2 g_bb2 rfl (by omega)) hZ (hw _ (List.mem_of_getElem? (i := 69) rfl)) (hw _ (List.mem_of_getElem? (i := 49) rfl)) (by decide) (by decide)) q5a q5c (g := (mkF m 11 #[.val (.ref a1)] [.null, (.ref b1)])) rfl (by rw [hml]; rfl) (Steps.refl _) (argsL := [.null]) (rest := []) (lenOf pd_19 rfl) rfl (by show 2 * 0 + _ ≤ _; exact Nat.le_of_eq rfl) (hb hby d7_11) (fun _ _ => ⟨rfl, e4, (by decide : 2 + 0 ≤ _), (by decide : 20 + 0 ≤ _)⟩)
  dsimp only [Pt.U, Pt.locs, Pt.cells, Pt.slots] at X5 l5 y5 z5 st5 hQ5
  subst l5 y5 z5
  obtain ⟨rfl, N5q, K5, Fv5, Fd5, Fn5, Vb5⟩ := hQ5
  have N5 := Fr.app N2 N5q
  obtain ⟨h5, e5⟩ : ∃ z, T5.heap = z := ⟨_, rfl⟩
  rw [e5] at K5 Fv5 Fd5 Fn5 Vb5
  have Sk6 : ∀ x ∈ [b1, bb2], Safe Z EL s.vm h2 x := (allS S_b1 (allS S_bb2 all0))
  replace S_b1 := Safe.keep K5 Sk6 CR.1 S_b1
  replace S_bb2 := Safe.keep K5 Sk6 CR.1 S_bb2
  replace CR := CR.trans (CHr.keep K5 Sk6 CR.1)
  replace hk := Nat.le_trans hk K5.1
  replace Z0 := Nat.le_trans Z0 K5.1
  replace K0 := K0.trans K5 (allS (Or.inr sz_b1) (allS (Or.inr sz_bb2) all0))
  replace O0 := O0.keep K5 (allS g_b1 (allS g_bb2 all0))
  replace F_planId := F_planId.keep K5 (ninS ne_a1_b1 (ninS ne_a1_bb2 nin0))
  replace F_section := F_section.keep K5 (ninS ne_a1_b1 (ninS ne_a1_bb2 nin0))
  replace E_b1 := E_b1.keep K5
  refine GoH.tr (T' := T5) (pc' := 14) (L' := #[.val (.ref a1)]) (S' := [(.ref b1)]) st5 ?_
  obtain ⟨a7_, T7, h7, k7, b7_, c7, X7, e7, E7, hS7, hk7, hZ7, ho7, E_a7_, Fc_a7_, Fv_a7_, V_b7_, lta7, ltb7, CR7, -, Sf7, st7⟩ := ldcCH X5 hx hZ hown (hw _ (List.mem_of_getElem? (i := 113) rfl)) (own_wS hw) e5 hS hk (own_EW hw) (by decide : ("com/example/vestry/vestry/plan/PlanSection", 23) ∈ EL) CR.1 (vs := [(.int (32 : Int32))]) (z := (1 : Int32)) ⟨by decide, by decide⟩ (by decide) rfl (g := (mkF m 14 #[.val (.ref a1)] [(.ref b1)])) rfl (hb hby d7_14) (n := 4) (by decide) (by decide) (by decide) (by decide)
  replace S_b1 := CR7.safe E_b1.lt S_b1
  replace S_bb2 := CR7.safe Vb5.lt S_bb2
  replace CR := CR.trans CR7
  replace Z0 := Nat.le_trans Z0 E7.1
  replace K0 := K0.ext E7
  replace O0 := O0.ext E7
  replace F_planId := F_planId.ext E7
  replace F_section := F_section.ext E7
  replace E_b1 := E_b1.ext E7
  replace Fv5 := Fv5.ext E7
  replace Fd5 := Fd5.ext E7
  replace Fn5 := Fn5.ext E7
  replace Vb5 := Vb5.ext E7
  replace hZ := hZ7
  replace hown := ho7
  replace hS := hS7
  replace hk := hk7
  have ne_b1_a7_ := (Sf7 _ S_b1).1
  have ne_b1_b7_ := (Sf7 _ S_b1).2
  have ne_bb2_a7_ := (Sf7 _ S_bb2).1
  have ne_bb2_b7_ := (Sf7 _ S_bb2).2
  refine GoH.st (T' := T7) (pc' := 16) (L' := #[.val (.ref a1)]) (S' := [(.ref a7_), (.ref b1)]) st7 ?_
  obtain ⟨cq8, kq8, q8a, q8b, q8c⟩ := isOf hZ e7 E_b1
  obtain ⟨_, _, ⟨T8, L8, k8, n8⟩, -, X8, ⟨Lc8, hQ8, l8, y8, z8⟩, st8⟩ := X7.virtualBack hx (y := (⟨"java/lang/StringBuilder", "append", "(Ljava/lang/String;)Ljava/lang/StringBuilder;"⟩ : MethodName)) (z := (⟨"java/lang/StringBuilder", "append", "(Ljava/lang/String;)Ljava/lang/StringBuilder;"⟩ : MethodName)) hown (mvT hZ (hw _ (List.mem_of_getElem? (i := 65) rfl))) (mvT hZ (hw _ (List.mem_of_getElem? (i := 66) rfl))) (notFace_of_selects (args := #[]) (mvT hZ (hw _ (List.mem_of_getElem? (i := 68) rfl)))) (mvT hZ (hw _ (List.mem_of_getElem? (i := 68) rfl))) (mvT hZ (hw _ (List.mem_of_getElem? (i := 67) rfl))) (by decide) (backOf (W := 0) (rm10 l Z a0 hw [] b1 a7_ b7_ _ bb2 _ _ (([(32 : Int32)] : List Int32)) ((0 + 4)) (1) gC h7 n0 Z0 SC PC O0 E_b1 g_b1 ne_b1_bb2 Fv5 Fd5 Vb5 Fn5 E_a7_ Fc_a7_ Fv_a7_ V_b7_ g_bb2 (Ne.symm ne_bb2_a7_) (Ne.symm ne_bb2_b7_) (own_la rfl rfl) rfl (by omega) (Ne.symm ne_b1_a7_) (Ne.symm ne_b1_b7_)) hZ (hw _ (List.mem_of_getElem? (i := 69) rfl)) (hw _ (List.mem_of_getElem? (i := 49) rfl)) (by decide) (by decide)) q8a q8c (g := (mkF m 16 #[.val (.ref a1)] [(.ref a7_), (.ref b1)])) rfl (by rw [hml]; rfl) (Steps.refl _) (argsL := [(.ref a7_)]) (rest := []) (lenOf pd_19 rfl) rfl (by show 2 * 0 + _ ≤ _; exact Nat.le_of_eq rfl) (hb hby d7_16) (fun _ _ => ⟨rfl, e7, (by decide : 4 + 0 ≤ _), (by decide : 28 + 0 ≤ _)⟩)
  dsimp only [Pt.U, Pt.locs, Pt.cells, Pt.slots] at X8 l8 y8 z8 st8 hQ8
  subst l8 y8 z8
  obtain ⟨rfl, N8q, K8, Fv8, Fd8, Fn8, Vb8⟩ := hQ8
  have N8 := Fr.app N5 N8q
  obtain ⟨h8, e8⟩ : ∃ z, T8.heap = z := ⟨_, rfl⟩
  rw [e8] at K8 Fv8 Fd8 Fn8 Vb8
  have Sk9 : ∀ x ∈ [b1, bb2], Safe Z EL T7.vm h7 x := (allS S_b1 (allS S_bb2 all0))
  replace S_b1 := Safe.keep K8 Sk9 CR.1 S_b1
  replace S_bb2 := Safe.keep K8 Sk9 CR.1 S_bb2
  replace CR := CR.trans (CHr.keep K8 Sk9 CR.1)
  replace hk := Nat.le_trans hk K8.1
  replace Z0 := Nat.le_trans Z0 K8.1
  replace K0 := K0.trans K8 (allS (Or.inr sz_b1) (allS (Or.inr sz_bb2) all0))
  replace O0 := O0.keep K8 (allS g_b1 (allS g_bb2 all0))
  replace F_planId := F_planId.keep K8 (ninS ne_a1_b1 (ninS ne_a1_bb2 nin0))
  replace F_section := F_section.keep K8 (ninS ne_a1_b1 (ninS ne_a1_bb2 nin0))
  replace E_b1 := E_b1.keep K8
  replace E_a7_ := E_a7_.keep K8
  replace Fc_a7_ := Fc_a7_.keep K8 (ninS (Ne.symm ne_b1_a7_) (ninS (Ne.symm ne_bb2_a7_) nin0))
  replace Fv_a7_ := Fv_a7_.keep K8 (ninS (Ne.symm ne_b1_a7_) (ninS (Ne.symm ne_bb2_a7_) nin0))
  replace V_b7_ := V_b7_.keep K8 (ninS (Ne.symm ne_b1_b7_) (ninS (Ne.symm ne_bb2_b7_) nin0))
  refine GoH.tr (T' := T8) (pc' := 19) (L' := #[.val (.ref a1)]) (S' := [(.ref b1)]) st8 ?_
  refine GoH.st (T' := T8) (pc' := 20) (L' := #[.val (.ref a1)]) (S' := [(.ref a1), (.ref b1)]) (fun t_ k_ => XS.aloadN X8.here hx rfl (hb hby d7_19) rfl rfl  k_) ?_
  obtain ⟨T10, X10, e10, st10⟩ := getF X8 hx hZ hown (host := "") (Or.inl (hw _ (List.mem_of_getElem? (i := 40) rfl))) Via.refl e8 F_section (g := (mkF m 20 #[.val (.ref a1)] [(.ref a1), (.ref b1)])) rfl rfl (hb hby d7_20)
  refine GoH.st (T' := T10) (pc' := 23) (L' := #[.val (.ref a1)]) (S' := [.null, (.ref b1)]) st10 ?_
  obtain ⟨cq11, kq11, q11a, q11b, q11c⟩ := isOf hZ e10 E_b1
  obtain ⟨_, _, ⟨T11, L11, k11, n11⟩, -, X11, ⟨Lc11, hQ11, l11, y11, z11⟩, st11⟩ := X10.virtualBack hx (y := (⟨"java/lang/StringBuilder", "append", "(Ljava/lang/String;)Ljava/lang/StringBuilder;"⟩ : MethodName)) (z := (⟨"java/lang/StringBuilder", "append", "(Ljava/lang/String;)Ljava/lang/StringBuilder;"⟩ : MethodName)) hown (mvT hZ (hw _ (List.mem_of_getElem? (i := 65) rfl))) (mvT hZ (hw _ (List.mem_of_getElem? (i := 66) rfl))) (notFace_of_selects (args := #[]) (mvT hZ (hw _ (List.mem_of_getElem? (i := 68) rfl)))) (mvT hZ (hw _ (List.mem_of_getElem? (i := 68) rfl))) (mvT hZ (hw _ (List.mem_of_getElem? (i := 67) rfl))) (by decide) (backOf (W := 0) (rmappNS l Z a0 hw [] b1 bb2 _ _ (((0 + 4) + 1)) gC h8 n0 Z0 SC PC O0 E_b1 g_b1 ne_b1_bb2 Fv8 Fd8 Vb8 Fn8 g_bb2 (own_la (own_la rfl rfl) rfl) (by omega)) hZ (hw _ (List.mem_of_getElem? (i := 69) rfl)) (hw _ (List.mem_of_getElem? (i := 49) rfl)) (by decide) (by decide)) q11a q11c (g := (mkF m 23 #[.val (.ref a1)] [.null, (.ref b1)])) rfl (by rw [hml]; rfl) (Steps.refl _) (argsL := [.null]) (rest := []) (lenOf pd_19 rfl) rfl (by show 2 * 0 + _ ≤ _; exact Nat.le_of_eq rfl) (hb hby d7_23) (fun _ _ => ⟨rfl, e10, (by decide : 4 + 0 ≤ _), (by decide : 28 + 0 ≤ _)⟩)
  dsimp only [Pt.U, Pt.locs, Pt.cells, Pt.slots] at X11 l11 y11 z11 st11 hQ11
  subst l11 y11 z11
  obtain ⟨rfl, N11q, K11, Fv11, Fd11, Fn11, Vb11⟩ := hQ11
  have N11 := Fr.app N8 N11q
  obtain ⟨h11, e11⟩ : ∃ z, T11.heap = z := ⟨_, rfl⟩
  rw [e11] at K11 Fv11 Fd11 Fn11 Vb11
  have Sk12 : ∀ x ∈ [b1, bb2], Safe Z EL T7.vm h8 x := (allS S_b1 (allS S_bb2 all0))
  replace S_b1 := Safe.keep K11 Sk12 CR.1 S_b1
  replace S_bb2 := Safe.keep K11 Sk12 CR.1 S_bb2
  replace CR := CR.trans (CHr.keep K11 Sk12 CR.1)
  replace hk := Nat.le_trans hk K11.1
  replace Z0 := Nat.le_trans Z0 K11.1
  replace K0 := K0.trans K11 (allS (Or.inr sz_b1) (allS (Or.inr sz_bb2) all0))
  replace O0 := O0.keep K11 (allS g_b1 (allS g_bb2 all0))
  replace F_planId := F_planId.keep K11 (ninS ne_a1_b1 (ninS ne_a1_bb2 nin0))
  replace F_section := F_section.keep K11 (ninS ne_a1_b1 (ninS ne_a1_bb2 nin0))
  replace E_b1 := E_b1.keep K11
  replace E_a7_ := E_a7_.keep K11
  replace Fc_a7_ := Fc_a7_.keep K11 (ninS (Ne.symm ne_b1_a7_) (ninS (Ne.symm ne_bb2_a7_) nin0))
  replace Fv_a7_ := Fv_a7_.keep K11 (ninS (Ne.symm ne_b1_a7_) (ninS (Ne.symm ne_bb2_a7_) nin0))
  replace V_b7_ := V_b7_.keep K11 (ninS (Ne.symm ne_b1_b7_) (ninS (Ne.symm ne_bb2_b7_) nin0))
  refine GoH.tr (T' := T11) (pc' := 26) (L' := #[.val (.ref a1)]) (S' := [(.ref b1)]) st11 ?_
  obtain ⟨cq13, kq13, q13a, q13b, q13c⟩ := isOf hZ e11 E_b1
  obtain ⟨_, _, ⟨T13, L13, k13, n13⟩, -, X13, ⟨Lc13, hQ13, l13, y13, z13⟩, st13⟩ := X11.virtualBack hx (y := (⟨"java/lang/StringBuilder", "toString", "()Ljava/lang/String;"⟩ : MethodName)) (z := (⟨"java/lang/StringBuilder", "toString", "()Ljava/lang/String;"⟩ : MethodName)) hown (mvT hZ (hw _ (List.mem_of_getElem? (i := 114) rfl))) (mvT hZ (hw _ (List.mem_of_getElem? (i := 115) rfl))) (notFace_of_selects (args := #[]) (mvT hZ (hw _ (List.mem_of_getElem? (i := 117) rfl)))) (mvT hZ (hw _ (List.mem_of_getElem? (i := 117) rfl))) (mvT hZ (hw _ (List.mem_of_getElem? (i := 116) rfl))) (by decide) (backOf (W := 0) (rm18 l Z a0 hw [] b1 bb2 _ _ ((((0 + 4) + 1) + 4)) gC h11 n0 Z0 SC PC O0 E_b1 Fv11 Fd11 Fn11 Vb11 (own_la (own_la (own_la rfl rfl) rfl) rfl) (by omega)) hZ (hw _ (List.mem_of_getElem? (i := 118) rfl)) (hw _ (List.mem_of_getElem? (i := 49) rfl)) (by decide) (by decide)) q13a q13c (g := (mkF m 26 #[.val (.ref a1)] [(.ref b1)])) rfl (by rw [hml]; rfl) (Steps.refl _) (argsL := []) (rest := []) (lenOf pd_20 rfl) rfl (by show 2 * 0 + _ ≤ _; exact Nat.le_of_eq rfl) (hb hby d7_26) (fun _ _ => ⟨rfl, e11, (by decide : 4 + 2 ≤ _), (by decide : 28 + 20 ≤ _)⟩)
  dsimp only [Pt.U, Pt.locs, Pt.cells, Pt.slots] at X13 l13 y13 z13 st13 hQ13
  subst l13 y13 z13
  obtain ⟨r13_, tr13_, kt13, rfl, N13q, K13, g_r13_, lt13, Er13, Co13, Va13, Vt13⟩ := hQ13
  have N13 := Fr.app N11 N13q
  have ne_a1_r13_ : a1 ≠ r13_ := Nat.ne_of_lt (Nat.lt_of_lt_of_le F_planId.lt lt13)
  have ne_b1_r13_ : b1 ≠ r13_ := Nat.ne_of_lt (Nat.lt_of_lt_of_le E_b1.lt lt13)
  have ne_a7__r13_ : a7_ ≠ r13_ := Nat.ne_of_lt (Nat.lt_of_lt_of_le E_a7_.lt lt13)
  have ne_b7__r13_ : b7_ ≠ r13_ := Nat.ne_of_lt (Nat.lt_of_lt_of_le V_b7_.lt lt13)
  have ne_bb2_r13_ : bb2 ≠ r13_ := Nat.ne_of_lt (Nat.lt_of_lt_of_le Vb11.lt lt13)
  have sz_r13_ : h0.size ≤ r13_ := Nat.le_trans K0.1 lt13
  obtain ⟨h13, e13⟩ : ∃ z, T13.heap = z := ⟨_, rfl⟩
  rw [e13] at K13 Er13 Co13 Va13 Vt13
  have Sk14 : ∀ x ∈ [], Safe Z EL T7.vm h11 x := all0
  replace S_b1 := Safe.keep K13 Sk14 CR.1 S_b1
  replace S_bb2 := Safe.keep K13 Sk14 CR.1 S_bb2
  replace CR := CR.trans (CHr.keep K13 Sk14 CR.1)
  replace hk := Nat.le_trans hk K13.1
  replace Z0 := Nat.le_trans Z0 K13.1
  replace K0 := K0.trans K13 all0
  replace O0 := O0.keep K13 all0
  replace F_planId := F_planId.keep K13 nin0
  replace F_section := F_section.keep K13 nin0
  replace E_b1 := E_b1.keep K13
  replace E_a7_ := E_a7_.keep K13
  replace Fc_a7_ := Fc_a7_.keep K13 nin0
  replace Fv_a7_ := Fv_a7_.keep K13 nin0
  replace V_b7_ := V_b7_.keep K13 nin0
  replace Fv11 := Fv11.keep K13 nin0
  replace Fd11 := Fd11.keep K13 nin0
  replace Fn11 := Fn11.keep K13 nin0
  replace Vb11 := Vb11.keep K13 nin0
  refine GoH.tr (T' := T13) (pc' := 29) (L' := #[.val (.ref a1)]) (S' := [(.ref r13_)]) st13 ?_
  exact GoH.retO X13 hx hlk hret rfl (by simp [FieldType.isReference, Value.isRef]) (hb hby d7_29) (by decide) (by decide) hS hk e13 hs0 hZ (own_EW hw) CR (by rw [e13]; exact ⟨r13_, tr13_, _, rfl, N13, K0, g_r13_, sz_r13_, Er13, Co13, Va13, Vt13⟩)

def Qts01 (Z : State) (Lb : List Int32) (nb : Nat) (h0 : Heap) (n0 : Nat) (v : Option Value) (h : Heap) (L : List Loc) : Prop := ∃ (r t : Addr) (kt : ClassId), v = some (.ref r) ∧ Fr n0 L ∧ Keep h0 h [] ∧ n0 ≤ r ∧ h0.size ≤ r ∧ Exa Z h r "java/lang/String" ∧ Fld Z h r "java/lang/String" "coder" "B" (.int (0 : Int32)) ∧ Fld Z h r "java/lang/String" "value" "[B" (.ref t) ∧ Arv Z h t kt .byte ((0 + 4 + 1 + nb : Nat).toInt32) ((([] ++ ([110, 117, 108, 108] : List Int32) ++ ([32] : List Int32)) ++ Lb).map Value.int) (.int (0 : Int32))
def roomts01 : Room := { frames := 6, cells := 6, slots := 48, locals := 113 }
set_option maxRecDepth 65536 in
set_option maxHeartbeats 40000000 in
theorem rmts01 (l : Launch) (Z : State) (a0 : Array Value) (hw : ∀ d ∈ tables_1, d.before a0 Z = true) (ws : List Jvm.Cond) (a1 : Addr) (xb : Addr) (ub : Addr) (qb : ClassId) (Lb : List Int32) (nb : Nat) (gC : Int32) (h0 : Heap) (n0 : Nat) (Z0 : n0 ≤ h0.size) (SC : Sta Z Z.heap "java/lang/String" "COMPACT_STRINGS" "Z" (.int gC)) (PC : ¬ (gC = (0 : Int32))) (O0 : Old Z n0 h0) (F_planId : Fld Z h0 a1 "com/example/vestry/vestry/plan/PlanSection" "planId" "Ljava/lang/String;" .null) (F_section : Fld Z h0 a1 "com/example/vestry/vestry/plan/PlanSection" "section" "Ljava/lang/String;" (.ref xb)) (E_xb : Exa Z h0 xb "java/lang/String") (Fc_xb : Fld Z h0 xb "java/lang/String" "coder" "B" (.int (0 : Int32))) (Fv_xb : Fld Z h0 xb "java/lang/String" "value" "[B" (.ref ub)) (V_ub : Arv Z h0 ub qb .byte (nb.toInt32) (Lb.map Value.int) (.int (0 : Int32))) (lb : Lb.length = nb) (rb : nb ≤ 4) :
    MetFree l (⟨"com/example/vestry/vestry/plan/PlanSection", "toString", "()Ljava/lang/String;"⟩ : MethodName) (head1 (Jvm.Cond.code (⟨"com/example/vestry/vestry/plan/PlanSection", "toString", "()Ljava/lang/String;"⟩ : MethodName) prog_55_method_2_code 1 (some (.object "java/lang/String")) :: ws) roomts01) (fun aa_ U_ => aa_ = #[(.ref a1)] ∧ Z.Warmed39 U_.vm ∧ U_.heap = h0 ∧ CHv Z EL U_.vm h0) (fun _ _ _ _ _ => True) (fun _ U_ o_ W_ => ∃ v_ L_, o_ = .returned v_ ∧ (Qts01 Z Lb nb h0 n0) v_ W_.heap L_ ∧ CHr Z EL U_.vm U_.heap W_.vm W_.heap ∧ ReturnedEndW U_ o_ W_ L_ roomts01.cells roomts01.slots) := by
  refine own_metH (Q := (Qts01 Z Lb nb h0 n0)) (L0 := #[.val (.ref a1)]) (plainFor_of_name pn_7) (fun m => by first | (simp [entryFrame, mkF, argsToLocals, Value.category]; done) | rfl) ?_
  intro p e s m below meth c T0 X0 hx hby hml hown hnm hret hlk hZ e0 hs0 CR hS hk
  have N0 := Fr.nil n0
  have K0 := Keep.refl h0 []
  obtain ⟨T1, h1, X1, e1, E1, A1, D1, U1, st1⟩ := newO X0 hx hZ hown (hw _ (List.mem_of_getElem? (i := 47) rfl)) (hw _ (List.mem_of_getElem? (i := 48) rfl)) (hw _ (List.mem_of_getElem? (i := 49) rfl)) e0 (g := (mkF m 0 #[.val (.ref a1)] [])) rfl (hb hby d7_0) (by decide) (by decide)
  obtain ⟨b1, g1⟩ : ∃ z, z = h0.size := ⟨_, rfl⟩
  rw [← g1] at A1 D1 U1 st1
  have ne_a1_b1 : a1 ≠ b1 := Nat.ne_of_lt (Nat.lt_of_lt_of_le F_planId.lt (Nat.le_of_eq g1.symm))
  have ne_xb_b1 : xb ≠ b1 := Nat.ne_of_lt (Nat.lt_of_lt_of_le E_xb.lt (Nat.le_of_eq g1.symm))
  have ne_ub_b1 : ub ≠ b1 := Nat.ne_of_lt (Nat.lt_of_lt_of_le V_ub.lt (Nat.le_of_eq g1.symm))
  have g_b1 : n0 ≤ b1 := Nat.le_trans Z0 (Nat.le_of_eq g1.symm)
  have sz_b1 : h0.size ≤ b1 := Nat.le_trans K0.1 (Nat.le_of_eq g1.symm)
  replace CR := CR.trans (CHr.ext E1 CR.1)
  replace hk := Nat.le_trans hk E1.1
  replace Z0 := Nat.le_trans Z0 E1.1
  replace K0 := K0.ext E1
  replace O0 := O0.ext E1
  replace F_planId := F_planId.ext E1
  replace F_section := F_section.ext E1
  replace E_xb := E_xb.ext E1
  replace Fc_xb := Fc_xb.ext E1
  replace Fv_xb := Fv_xb.ext E1
  replace V_ub := V_ub.ext E1
  have E_b1 := A1
  have F_b1_value : Fld Z h1 b1 "java/lang/AbstractStringBuilder" "value" "[B" .null := D1 (Or.inl (hw _ (List.mem_of_getElem? (i := 62) rfl))) (ty := (.array .byte)) (by decide)
  have F_b1_coder : Fld Z h1 b1 "java/lang/AbstractStringBuilder" "coder" "B" (.int (0 : Int32)) := D1 (Or.inl (hw _ (List.mem_of_getElem? (i := 64) rfl))) (ty := .byte) (by decide)
  have F_b1_count : Fld Z h1 b1 "java/lang/AbstractStringBuilder" "count" "I" (.int (0 : Int32)) := D1 (Or.inl (hw _ (List.mem_of_getElem? (i := 87) rfl))) (ty := .int) (by decide)
  refine GoH.st (T' := T1) (pc' := 3) (L' := #[.val (.ref a1)]) (S' := [(.ref b1)]) st1 ?_
  have S_b1 : Safe Z EL s.vm h1 b1 := Safe.exa hZ.alike E_b1 (by decide) (by decide)
  refine GoH.st (T' := T1) (pc' := 4) (L' := #[.val (.ref a1)]) (S' := [(.ref b1), (.ref b1)]) (fun t_ k_ => XS.dup X1.here hx rfl (hb hby d7_3) rfl rfl k_) ?_
  obtain ⟨_, _, ⟨T2, L2, k2, n2⟩, -, X2, ⟨Lc2, hQ2, l2, y2, z2⟩, st2⟩ := X1.specialBack hx (y := (⟨"java/lang/StringBuilder", "<init>", "()V"⟩ : MethodName)) rfl hown (mvT hZ (hw _ (List.mem_of_getElem? (i := 50) rfl))) (mvT hZ (hw _ (List.mem_of_getElem? (i := 51) rfl))) (mvT hZ (hw _ (List.mem_of_getElem? (i := 52) rfl))) (by decide) (backOf (W := 1) (rm8 l Z a0 hw [] b1 gC h1 n0 Z0 E_b1 g_b1 SC PC O0 F_b1_value F_b1_coder F_b1_count) hZ (hw _ (List.mem_of_getElem? (i := 52) rfl)) (hw _ (List.mem_of_getElem? (i := 49) rfl)) (by decide) (by decide)) (g := (mkF m 4 #[.val (.ref a1)] [(.ref b1), (.ref b1)])) rfl (by rw [hml]; rfl) (Steps.refl _) (a := b1) (argsL := []) (rest := [(.ref b1)]) (lenOf pd_18 rfl) rfl (by show 2 * 0 + _ ≤ _; exact Nat.le_of_eq rfl) (hb hby d7_4) (fun _ _ => ⟨rfl, e1, (by decide : 1 + 1 ≤ _), (by decide : 4 + 16 ≤ _)⟩)
  dsimp only [Pt.U, Pt.locs, Pt.cells, Pt.slots] at X2 l2 y2 z2 st2 hQ2
  subst l2 y2 z2
  obtain ⟨bb2, kb2, rfl, N2q, K2, g_bb2, lt2, Fv2, Fd2, Fn2, Vb2⟩ := hQ2
  have N2 := Fr.app N0 N2q
  have ne_a1_bb2 : a1 ≠ bb2 := Nat.ne_of_lt (Nat.lt_of_lt_of_le F_planId.lt lt2)
  have ne_xb_bb2 : xb ≠ bb2 := Nat.ne_of_lt (Nat.lt_of_lt_of_le E_xb.lt lt2)
  have ne_ub_bb2 : ub ≠ bb2 := Nat.ne_of_lt (Nat.lt_of_lt_of_le V_ub.lt lt2)
  have ne_b1_bb2 : b1 ≠ bb2 := Nat.ne_of_lt (Nat.lt_of_lt_of_le E_b1.lt lt2)
  have sz_bb2 : h0.size ≤ bb2 := Nat.le_trans K0.1 lt2
  have S_bb2 : Safe Z EL s.vm h1 bb2 := Safe.new lt2
  obtain ⟨h2, e2⟩ : ∃ z, T2.heap = z := ⟨_, rfl⟩
  rw [e2] at K2 Fv2 Fd2 Fn2 Vb2
  have Sk3 : ∀ x ∈ [b1], Safe Z EL s.vm h1 x := (allS S_b1 all0)
  replace S_b1 := Safe.keep K2 Sk3 CR.1 S_b1
  replace S_bb2 := Safe.keep K2 Sk3 CR.1 S_bb2
  replace CR := CR.trans (CHr.keep K2 Sk3 CR.1)
  replace hk := Nat.le_trans hk K2.1
  replace Z0 := Nat.le_trans Z0 K2.1
  replace K0 := K0.trans K2 (allS (Or.inr sz_b1) all0)
  replace O0 := O0.keep K2 (allS g_b1 all0)
  replace F_planId := F_planId.keep K2 (ninS ne_a1_b1 nin0)
  replace F_section := F_section.keep K2 (ninS ne_a1_b1 nin0)
  replace E_xb := E_xb.keep K2
  replace Fc_xb := Fc_xb.keep K2 (ninS ne_xb_b1 nin0)
  replace Fv_xb := Fv_xb.keep K2 (ninS ne_xb_b1 nin0)
  replace V_ub := V_ub.keep K2 (ninS ne_ub_b1 nin0)
  replace E_b1 := E_b1.keep K2
  refine GoH.tr (T' := T2) (pc' := 7) (L' := #[.val (.ref a1)]) (S' := [(.ref b1)]) st2 ?_
  refine GoH.st (T' := T2) (pc' := 8) (L' := #[.val (.ref a1)]) (S' := [(.ref a1), (.ref b1)]) (fun t_ k_ => XS.aloadN X2.here hx rfl (hb hby d7_7) rfl rfl  k_) ?_
  obtain ⟨T4, X4, e4, st4⟩ := getF X2 hx hZ hown (host := "") (Or.inl (hw _ (List.mem_of_getElem? (i := 38) rfl))) Via.refl e2 F_planId (g := (mkF m 8 #[.val (.ref a1)] [(.ref a1), (.ref b1)])) rfl rfl (hb hby d7_8)
  refine GoH.st (T' := T4) (pc' := 11) (L' := #[.val (.ref a1)]) (S' := [.null, (.ref b1)]) st4 ?_
  obtain ⟨cq5, kq5, q5a, q5b, q5c⟩ := isOf hZ e4 E_b1
  obtain ⟨_, _, ⟨T5, L5, k5, n5⟩, -, X5, ⟨Lc5, hQ5, l5, y5, z5⟩, st5⟩ := X4.virtualBack hx (y := (⟨"java/lang/StringBuilder", "append", "(Ljava/lang/String;)Ljava/lang/StringBuilder;"⟩ : MethodName)) (z := (⟨"java/lang/StringBuilder", "append", "(Ljava/lang/String;)Ljava/lang/StringBuilder;"⟩ : MethodName)) hown (mvT hZ (hw _ (List.mem_of_getElem? (i := 65) rfl))) (mvT hZ (hw _ (List.mem_of_getElem? (i := 66) rfl))) (notFace_of_selects (args := #[]) (mvT hZ (hw _ (List.mem_of_getElem? (i := 68) rfl)))) (mvT hZ (hw _ (List.mem_of_getElem? (i := 68) rfl))) (mvT hZ (hw _ (List.mem_of_getElem? (i := 67) rfl))) (by decide) (backOf (W := 0) (rmappNS l Z a0 hw [] b1 bb2 _ _ (0) gC h2 n0 Z0 SC PC O0 E_b1 g_b1 ne_b1_bb2 Fv2 Fd2 Vb2 Fn2 g_bb2 rfl (by omega)) hZ (hw _ (List.mem_of_getElem? (i := 69) rfl)) (hw _ (List.mem_of_getElem? (i := 49) rfl)) (by decide) (by decide)) q5a q5c (g := (mkF m 11 #[.val (.ref a1)] [.null, (.ref b1)])) rfl (by rw [hml]; rfl) (Steps.refl _) (argsL := [.null]) (rest := []) (lenOf pd_19 rfl) rfl (by show 2 * 0 + _ ≤ _; exact Nat.le_of_eq rfl) (hb hby d7_11) (fun _ _ => ⟨rfl, e4, (by decide : 2 + 0 ≤ _), (by decide : 20 + 0 ≤ _)⟩)
  dsimp only [Pt.U, Pt.locs, Pt.cells, Pt.slots] at X5 l5 y5 z5 st5 hQ5
  subst l5 y5 z5
  obtain ⟨rfl, N5q, K5, Fv5, Fd5, Fn5, Vb5⟩ := hQ5
  have N5 := Fr.app N2 N5q
  obtain ⟨h5, e5⟩ : ∃ z, T5.heap = z := ⟨_, rfl⟩
  rw [e5] at K5 Fv5 Fd5 Fn5 Vb5
  have Sk6 : ∀ x ∈ [b1, bb2], Safe Z EL s.vm h2 x := (allS S_b1 (allS S_bb2 all0))
  replace S_b1 := Safe.keep K5 Sk6 CR.1 S_b1
  replace S_bb2 := Safe.keep K5 Sk6 CR.1 S_bb2
  replace CR := CR.trans (CHr.keep K5 Sk6 CR.1)
  replace hk := Nat.le_trans hk K5.1
  replace Z0 := Nat.le_trans Z0 K5.1
  replace K0 := K0.trans K5 (allS (Or.inr sz_b1) (allS (Or.inr sz_bb2) all0))
  replace O0 := O0.keep K5 (allS g_b1 (allS g_bb2 all0))
  replace F_planId := F_planId.keep K5 (ninS ne_a1_b1 (ninS ne_a1_bb2 nin0))
  replace F_section := F_section.keep K5 (ninS ne_a1_b1 (ninS ne_a1_bb2 nin0))
  replace E_xb := E_xb.keep K5
  replace Fc_xb := Fc_xb.keep K5 (ninS ne_xb_b1 (ninS ne_xb_bb2 nin0))
  replace Fv_xb := Fv_xb.keep K5 (ninS ne_xb_b1 (ninS ne_xb_bb2 nin0))
  replace V_ub := V_ub.keep K5 (ninS ne_ub_b1 (ninS ne_ub_bb2 nin0))
  replace E_b1 := E_b1.keep K5
  refine GoH.tr (T' := T5) (pc' := 14) (L' := #[.val (.ref a1)]) (S' := [(.ref b1)]) st5 ?_
  obtain ⟨a7_, T7, h7, k7, b7_, c7, X7, e7, E7, hS7, hk7, hZ7, ho7, E_a7_, Fc_a7_, Fv_a7_, V_b7_, lta7, ltb7, CR7, -, Sf7, st7⟩ := ldcCH X5 hx hZ hown (hw _ (List.mem_of_getElem? (i := 113) rfl)) (own_wS hw) e5 hS hk (own_EW hw) (by decide : ("com/example/vestry/vestry/plan/PlanSection", 23) ∈ EL) CR.1 (vs := [(.int (32 : Int32))]) (z := (1 : Int32)) ⟨by decide, by decide⟩ (by decide) rfl (g := (mkF m 14 #[.val (.ref a1)] [(.ref b1)])) rfl (hb hby d7_14) (n := 4) (by decide) (by decide) (by decide) (by decide)
  replace S_b1 := CR7.safe E_b1.lt S_b1
  replace S_bb2 := CR7.safe Vb5.lt S_bb2
  replace CR := CR.trans CR7
  replace Z0 := Nat.le_trans Z0 E7.1
  replace K0 := K0.ext E7
  replace O0 := O0.ext E7
  replace F_planId := F_planId.ext E7
  replace F_section := F_section.ext E7
  replace E_xb := E_xb.ext E7
  replace Fc_xb := Fc_xb.ext E7
  replace Fv_xb := Fv_xb.ext E7
  replace V_ub := V_ub.ext E7
  replace E_b1 := E_b1.ext E7
  replace Fv5 := Fv5.ext E7
  replace Fd5 := Fd5.ext E7
  replace Fn5 := Fn5.ext E7
  replace Vb5 := Vb5.ext E7
  replace hZ := hZ7
  replace hown := ho7
  replace hS := hS7
  replace hk := hk7
  have ne_b1_a7_ := (Sf7 _ S_b1).1
  have ne_b1_b7_ := (Sf7 _ S_b1).2
  have ne_bb2_a7_ := (Sf7 _ S_bb2).1
  have ne_bb2_b7_ := (Sf7 _ S_bb2).2
  refine GoH.st (T' := T7) (pc' := 16) (L' := #[.val (.ref a1)]) (S' := [(.ref a7_), (.ref b1)]) st7 ?_
  obtain ⟨cq8, kq8, q8a, q8b, q8c⟩ := isOf hZ e7 E_b1
  obtain ⟨_, _, ⟨T8, L8, k8, n8⟩, -, X8, ⟨Lc8, hQ8, l8, y8, z8⟩, st8⟩ := X7.virtualBack hx (y := (⟨"java/lang/StringBuilder", "append", "(Ljava/lang/String;)Ljava/lang/StringBuilder;"⟩ : MethodName)) (z := (⟨"java/lang/StringBuilder", "append", "(Ljava/lang/String;)Ljava/lang/StringBuilder;"⟩ : MethodName)) hown (mvT hZ (hw _ (List.mem_of_getElem? (i := 65) rfl))) (mvT hZ (hw _ (List.mem_of_getElem? (i := 66) rfl))) (notFace_of_selects (args := #[]) (mvT hZ (hw _ (List.mem_of_getElem? (i := 68) rfl)))) (mvT hZ (hw _ (List.mem_of_getElem? (i := 68) rfl))) (mvT hZ (hw _ (List.mem_of_getElem? (i := 67) rfl))) (by decide) (backOf (W := 0) (rm10 l Z a0 hw [] b1 a7_ b7_ _ bb2 _ _ (([(32 : Int32)] : List Int32)) ((0 + 4)) (1) gC h7 n0 Z0 SC PC O0 E_b1 g_b1 ne_b1_bb2 Fv5 Fd5 Vb5 Fn5 E_a7_ Fc_a7_ Fv_a7_ V_b7_ g_bb2 (Ne.symm ne_bb2_a7_) (Ne.symm ne_bb2_b7_) (own_la rfl rfl) rfl (by omega) (Ne.symm ne_b1_a7_) (Ne.symm ne_b1_b7_)) hZ (hw _ (List.mem_of_getElem? (i := 69) rfl)) (hw _ (List.mem_of_getElem? (i := 49) rfl)) (by decide) (by decide)) q8a q8c (g := (mkF m 16 #[.val (.ref a1)] [(.ref a7_), (.ref b1)])) rfl (by rw [hml]; rfl) (Steps.refl _) (argsL := [(.ref a7_)]) (rest := []) (lenOf pd_19 rfl) rfl (by show 2 * 0 + _ ≤ _; exact Nat.le_of_eq rfl) (hb hby d7_16) (fun _ _ => ⟨rfl, e7, (by decide : 4 + 0 ≤ _), (by decide : 28 + 0 ≤ _)⟩)
  dsimp only [Pt.U, Pt.locs, Pt.cells, Pt.slots] at X8 l8 y8 z8 st8 hQ8
  subst l8 y8 z8
  obtain ⟨rfl, N8q, K8, Fv8, Fd8, Fn8, Vb8⟩ := hQ8
  have N8 := Fr.app N5 N8q
  obtain ⟨h8, e8⟩ : ∃ z, T8.heap = z := ⟨_, rfl⟩
  rw [e8] at K8 Fv8 Fd8 Fn8 Vb8
  have Sk9 : ∀ x ∈ [b1, bb2], Safe Z EL T7.vm h7 x := (allS S_b1 (allS S_bb2 all0))
  replace S_b1 := Safe.keep K8 Sk9 CR.1 S_b1
  replace S_bb2 := Safe.keep K8 Sk9 CR.1 S_bb2
  replace CR := CR.trans (CHr.keep K8 Sk9 CR.1)
  replace hk := Nat.le_trans hk K8.1
  replace Z0 := Nat.le_trans Z0 K8.1
  replace K0 := K0.trans K8 (allS (Or.inr sz_b1) (allS (Or.inr sz_bb2) all0))
  replace O0 := O0.keep K8 (allS g_b1 (allS g_bb2 all0))
  replace F_planId := F_planId.keep K8 (ninS ne_a1_b1 (ninS ne_a1_bb2 nin0))
  replace F_section := F_section.keep K8 (ninS ne_a1_b1 (ninS ne_a1_bb2 nin0))
  replace E_xb := E_xb.keep K8
  replace Fc_xb := Fc_xb.keep K8 (ninS ne_xb_b1 (ninS ne_xb_bb2 nin0))
  replace Fv_xb := Fv_xb.keep K8 (ninS ne_xb_b1 (ninS ne_xb_bb2 nin0))
  replace V_ub := V_ub.keep K8 (ninS ne_ub_b1 (ninS ne_ub_bb2 nin0))
  replace E_b1 := E_b1.keep K8
  replace E_a7_ := E_a7_.keep K8
  replace Fc_a7_ := Fc_a7_.keep K8 (ninS (Ne.symm ne_b1_a7_) (ninS (Ne.symm ne_bb2_a7_) nin0))
  replace Fv_a7_ := Fv_a7_.keep K8 (ninS (Ne.symm ne_b1_a7_) (ninS (Ne.symm ne_bb2_a7_) nin0))
  replace V_b7_ := V_b7_.keep K8 (ninS (Ne.symm ne_b1_b7_) (ninS (Ne.symm ne_bb2_b7_) nin0))
  refine GoH.tr (T' := T8) (pc' := 19) (L' := #[.val (.ref a1)]) (S' := [(.ref b1)]) st8 ?_
  refine GoH.st (T' := T8) (pc' := 20) (L' := #[.val (.ref a1)]) (S' := [(.ref a1), (.ref b1)]) (fun t_ k_ => XS.aloadN X8.here hx rfl (hb hby d7_19) rfl rfl  k_) ?_
  obtain ⟨T10, X10, e10, st10⟩ := getF X8 hx hZ hown (host := "") (Or.inl (hw _ (List.mem_of_getElem? (i := 40) rfl))) Via.refl e8 F_section (g := (mkF m 20 #[.val (.ref a1)] [(.ref a1), (.ref b1)])) rfl rfl (hb hby d7_20)
  refine GoH.st (T' := T10) (pc' := 23) (L' := #[.val (.ref a1)]) (S' := [(.ref xb), (.ref b1)]) st10 ?_
  obtain ⟨cq11, kq11, q11a, q11b, q11c⟩ := isOf hZ e10 E_b1
  obtain ⟨_, _, ⟨T11, L11, k11, n11⟩, -, X11, ⟨Lc11, hQ11, l11, y11, z11⟩, st11⟩ := X10.virtualBack hx (y := (⟨"java/lang/StringBuilder", "append", "(Ljava/lang/String;)Ljava/lang/StringBuilder;"⟩ : MethodName)) (z := (⟨"java/lang/StringBuilder", "append", "(Ljava/lang/String;)Ljava/lang/StringBuilder;"⟩ : MethodName)) hown (mvT hZ (hw _ (List.mem_of_getElem? (i := 65) rfl))) (mvT hZ (hw _ (List.mem_of_getElem? (i := 66) rfl))) (notFace_of_selects (args := #[]) (mvT hZ (hw _ (List.mem_of_getElem? (i := 68) rfl)))) (mvT hZ (hw _ (List.mem_of_getElem? (i := 68) rfl))) (mvT hZ (hw _ (List.mem_of_getElem? (i := 67) rfl))) (by decide) (backOf (W := 0) (rm10 l Z a0 hw [] b1 xb ub _ bb2 _ _ (Lb) (((0 + 4) + 1)) (nb) gC h8 n0 Z0 SC PC O0 E_b1 g_b1 ne_b1_bb2 Fv8 Fd8 Vb8 Fn8 E_xb Fc_xb Fv_xb V_ub g_bb2 ne_xb_bb2 ne_ub_bb2 (own_la (own_la rfl rfl) rfl) lb (by omega) ne_xb_b1 ne_ub_b1) hZ (hw _ (List.mem_of_getElem? (i := 69) rfl)) (hw _ (List.mem_of_getElem? (i := 49) rfl)) (by decide) (by decide)) q11a q11c (g := (mkF m 23 #[.val (.ref a1)] [(.ref xb), (.ref b1)])) rfl (by rw [hml]; rfl) (Steps.refl _) (argsL := [(.ref xb)]) (rest := []) (lenOf pd_19 rfl) rfl (by show 2 * 0 + _ ≤ _; exact Nat.le_of_eq rfl) (hb hby d7_23) (fun _ _ => ⟨rfl, e10, (by decide : 4 + 0 ≤ _), (by decide : 28 + 0 ≤ _)⟩)
  dsimp only [Pt.U, Pt.locs, Pt.cells, Pt.slots] at X11 l11 y11 z11 st11 hQ11
  subst l11 y11 z11
  obtain ⟨rfl, N11q, K11, Fv11, Fd11, Fn11, Vb11⟩ := hQ11
  have N11 := Fr.app N8 N11q
  obtain ⟨h11, e11⟩ : ∃ z, T11.heap = z := ⟨_, rfl⟩
  rw [e11] at K11 Fv11 Fd11 Fn11 Vb11
  have Sk12 : ∀ x ∈ [b1, bb2], Safe Z EL T7.vm h8 x := (allS S_b1 (allS S_bb2 all0))
  replace S_b1 := Safe.keep K11 Sk12 CR.1 S_b1
  replace S_bb2 := Safe.keep K11 Sk12 CR.1 S_bb2
  replace CR := CR.trans (CHr.keep K11 Sk12 CR.1)
  replace hk := Nat.le_trans hk K11.1
  replace Z0 := Nat.le_trans Z0 K11.1
  replace K0 := K0.trans K11 (allS (Or.inr sz_b1) (allS (Or.inr sz_bb2) all0))
  replace O0 := O0.keep K11 (allS g_b1 (allS g_bb2 all0))
  replace F_planId := F_planId.keep K11 (ninS ne_a1_b1 (ninS ne_a1_bb2 nin0))
  replace F_section := F_section.keep K11 (ninS ne_a1_b1 (ninS ne_a1_bb2 nin0))
  replace E_xb := E_xb.keep K11
  replace Fc_xb := Fc_xb.keep K11 (ninS ne_xb_b1 (ninS ne_xb_bb2 nin0))
  replace Fv_xb := Fv_xb.keep K11 (ninS ne_xb_b1 (ninS ne_xb_bb2 nin0))
  replace V_ub := V_ub.keep K11 (ninS ne_ub_b1 (ninS ne_ub_bb2 nin0))
  replace E_b1 := E_b1.keep K11
  replace E_a7_ := E_a7_.keep K11
  replace Fc_a7_ := Fc_a7_.keep K11 (ninS (Ne.symm ne_b1_a7_) (ninS (Ne.symm ne_bb2_a7_) nin0))
  replace Fv_a7_ := Fv_a7_.keep K11 (ninS (Ne.symm ne_b1_a7_) (ninS (Ne.symm ne_bb2_a7_) nin0))
  replace V_b7_ := V_b7_.keep K11 (ninS (Ne.symm ne_b1_b7_) (ninS (Ne.symm ne_bb2_b7_) nin0))
  refine GoH.tr (T' := T11) (pc' := 26) (L' := #[.val (.ref a1)]) (S' := [(.ref b1)]) st11 ?_
  obtain ⟨cq13, kq13, q13a, q13b, q13c⟩ := isOf hZ e11 E_b1
  obtain ⟨_, _, ⟨T13, L13, k13, n13⟩, -, X13, ⟨Lc13, hQ13, l13, y13, z13⟩, st13⟩ := X11.virtualBack hx (y := (⟨"java/lang/StringBuilder", "toString", "()Ljava/lang/String;"⟩ : MethodName)) (z := (⟨"java/lang/StringBuilder", "toString", "()Ljava/lang/String;"⟩ : MethodName)) hown (mvT hZ (hw _ (List.mem_of_getElem? (i := 114) rfl))) (mvT hZ (hw _ (List.mem_of_getElem? (i := 115) rfl))) (notFace_of_selects (args := #[]) (mvT hZ (hw _ (List.mem_of_getElem? (i := 117) rfl)))) (mvT hZ (hw _ (List.mem_of_getElem? (i := 117) rfl))) (mvT hZ (hw _ (List.mem_of_getElem? (i := 116) rfl))) (by decide) (backOf (W := 0) (rm18 l Z a0 hw [] b1 bb2 _ _ ((((0 + 4) + 1) + nb)) gC h11 n0 Z0 SC PC O0 E_b1 Fv11 Fd11 Fn11 Vb11 (own_la (own_la (own_la rfl rfl) rfl) lb) (by omega)) hZ (hw _ (List.mem_of_getElem? (i := 118) rfl)) (hw _ (List.mem_of_getElem? (i := 49) rfl)) (by decide) (by decide)) q13a q13c (g := (mkF m 26 #[.val (.ref a1)] [(.ref b1)])) rfl (by rw [hml]; rfl) (Steps.refl _) (argsL := []) (rest := []) (lenOf pd_20 rfl) rfl (by show 2 * 0 + _ ≤ _; exact Nat.le_of_eq rfl) (hb hby d7_26) (fun _ _ => ⟨rfl, e11, (by decide : 4 + 2 ≤ _), (by decide : 28 + 20 ≤ _)⟩)
  dsimp only [Pt.U, Pt.locs, Pt.cells, Pt.slots] at X13 l13 y13 z13 st13 hQ13
  subst l13 y13 z13
  obtain ⟨r13_, tr13_, kt13, rfl, N13q, K13, g_r13_, lt13, Er13, Co13, Va13, Vt13⟩ := hQ13
  have N13 := Fr.app N11 N13q
  have ne_a1_r13_ : a1 ≠ r13_ := Nat.ne_of_lt (Nat.lt_of_lt_of_le F_planId.lt lt13)
  have ne_xb_r13_ : xb ≠ r13_ := Nat.ne_of_lt (Nat.lt_of_lt_of_le E_xb.lt lt13)
  have ne_ub_r13_ : ub ≠ r13_ := Nat.ne_of_lt (Nat.lt_of_lt_of_le V_ub.lt lt13)
  have ne_b1_r13_ : b1 ≠ r13_ := Nat.ne_of_lt (Nat.lt_of_lt_of_le E_b1.lt lt13)
  have ne_a7__r13_ : a7_ ≠ r13_ := Nat.ne_of_lt (Nat.lt_of_lt_of_le E_a7_.lt lt13)
  have ne_b7__r13_ : b7_ ≠ r13_ := Nat.ne_of_lt (Nat.lt_of_lt_of_le V_b7_.lt lt13)
  have ne_bb2_r13_ : bb2 ≠ r13_ := Nat.ne_of_lt (Nat.lt_of_lt_of_le Vb11.lt lt13)
  have sz_r13_ : h0.size ≤ r13_ := Nat.le_trans K0.1 lt13
  obtain ⟨h13, e13⟩ : ∃ z, T13.heap = z := ⟨_, rfl⟩
  rw [e13] at K13 Er13 Co13 Va13 Vt13
  have Sk14 : ∀ x ∈ [], Safe Z EL T7.vm h11 x := all0
  replace S_b1 := Safe.keep K13 Sk14 CR.1 S_b1
  replace S_bb2 := Safe.keep K13 Sk14 CR.1 S_bb2
  replace CR := CR.trans (CHr.keep K13 Sk14 CR.1)
  replace hk := Nat.le_trans hk K13.1
  replace Z0 := Nat.le_trans Z0 K13.1
  replace K0 := K0.trans K13 all0
  replace O0 := O0.keep K13 all0
  replace F_planId := F_planId.keep K13 nin0
  replace F_section := F_section.keep K13 nin0
  replace E_xb := E_xb.keep K13
  replace Fc_xb := Fc_xb.keep K13 nin0
  replace Fv_xb := Fv_xb.keep K13 nin0
  replace V_ub := V_ub.keep K13 nin0
  replace E_b1 := E_b1.keep K13
  replace E_a7_ := E_a7_.keep K13
  replace Fc_a7_ := Fc_a7_.keep K13 nin0
  replace Fv_a7_ := Fv_a7_.keep K13 nin0
  replace V_b7_ := V_b7_.keep K13 nin0
  replace Fv11 := Fv11.keep K13 nin0
  replace Fd11 := Fd11.keep K13 nin0
  replace Fn11 := Fn11.keep K13 nin0
  replace Vb11 := Vb11.keep K13 nin0
  refine GoH.tr (T' := T13) (pc' := 29) (L' := #[.val (.ref a1)]) (S' := [(.ref r13_)]) st13 ?_
  exact GoH.retO X13 hx hlk hret rfl (by simp [FieldType.isReference, Value.isRef]) (hb hby d7_29) (by decide) (by decide) hS hk e13 hs0 hZ (own_EW hw) CR (by rw [e13]; exact ⟨r13_, tr13_, _, rfl, N13, K0, g_r13_, sz_r13_, Er13, Co13, Va13, Vt13⟩)

def Qts10 (Z : State) (La : List Int32) (na : Nat) (h0 : Heap) (n0 : Nat) (v : Option Value) (h : Heap) (L : List Loc) : Prop := ∃ (r t : Addr) (kt : ClassId), v = some (.ref r) ∧ Fr n0 L ∧ Keep h0 h [] ∧ n0 ≤ r ∧ h0.size ≤ r ∧ Exa Z h r "java/lang/String" ∧ Fld Z h r "java/lang/String" "coder" "B" (.int (0 : Int32)) ∧ Fld Z h r "java/lang/String" "value" "[B" (.ref t) ∧ Arv Z h t kt .byte ((0 + na + 1 + 4 : Nat).toInt32) ((([] ++ La ++ ([32] : List Int32)) ++ ([110, 117, 108, 108] : List Int32)).map Value.int) (.int (0 : Int32))
def roomts10 : Room := { frames := 6, cells := 6, slots := 48, locals := 113 }
set_option maxRecDepth 65536 in
set_option maxHeartbeats 40000000 in
theorem rmts10 (l : Launch) (Z : State) (a0 : Array Value) (hw : ∀ d ∈ tables_1, d.before a0 Z = true) (ws : List Jvm.Cond) (a1 : Addr) (xa : Addr) (ua : Addr) (qa : ClassId) (La : List Int32) (na : Nat) (gC : Int32) (h0 : Heap) (n0 : Nat) (Z0 : n0 ≤ h0.size) (SC : Sta Z Z.heap "java/lang/String" "COMPACT_STRINGS" "Z" (.int gC)) (PC : ¬ (gC = (0 : Int32))) (O0 : Old Z n0 h0) (F_planId : Fld Z h0 a1 "com/example/vestry/vestry/plan/PlanSection" "planId" "Ljava/lang/String;" (.ref xa)) (F_section : Fld Z h0 a1 "com/example/vestry/vestry/plan/PlanSection" "section" "Ljava/lang/String;" .null) (E_xa : Exa Z h0 xa "java/lang/String") (Fc_xa : Fld Z h0 xa "java/lang/String" "coder" "B" (.int (0 : Int32))) (Fv_xa : Fld Z h0 xa "java/lang/String" "value" "[B" (.ref ua)) (V_ua : Arv Z h0 ua qa .byte (na.toInt32) (La.map Value.int) (.int (0 : Int32))) (la : La.length = na) (ra : na ≤ 4) :
    MetFree l (⟨"com/example/vestry/vestry/plan/PlanSection", "toString", "()Ljava/lang/String;"⟩ : MethodName) (head1 (Jvm.Cond.code (⟨"com/example/vestry/vestry/plan/PlanSection", "toString", "()Ljava/lang/String;"⟩ : MethodName) prog_55_method_2_code 1 (some (.object "java/lang/String")) :: ws) roomts10) (fun aa_ U_ => aa_ = #[(.ref a1)] ∧ Z.Warmed39 U_.vm ∧ U_.heap = h0 ∧ CHv Z EL U_.vm h0) (fun _ _ _ _ _ => True) (fun _ U_ o_ W_ => ∃ v_ L_, o_ = .returned v_ ∧ (Qts10 Z La na h0 n0) v_ W_.heap L_ ∧ CHr Z EL U_.vm U_.heap W_.vm W_.heap ∧ ReturnedEndW U_ o_ W_ L_ roomts10.cells roomts10.slots) := by
  refine own_metH (Q := (Qts10 Z La na h0 n0)) (L0 := #[.val (.ref a1)]) (plainFor_of_name pn_7) (fun m => by first | (simp [entryFrame, mkF, argsToLocals, Value.category]; done) | rfl) ?_
  intro p e s m below meth c T0 X0 hx hby hml hown hnm hret hlk hZ e0 hs0 CR hS hk
  have N0 := Fr.nil n0
  have K0 := Keep.refl h0 []
  obtain ⟨T1, h1, X1, e1, E1, A1, D1, U1, st1⟩ := newO X0 hx hZ hown (hw _ (List.mem_of_getElem? (i := 47) rfl)) (hw _ (List.mem_of_getElem? (i := 48) rfl)) (hw _ (List.mem_of_getElem? (i := 49) rfl)) e0 (g := (mkF m 0 #[.val (.ref a1)] [])) rfl (hb hby d7_0) (by decide) (by decide)
  obtain ⟨b1, g1⟩ : ∃ z, z = h0.size := ⟨_, rfl⟩
  rw [← g1] at A1 D1 U1 st1
  have ne_a1_b1 : a1 ≠ b1 := Nat.ne_of_lt (Nat.lt_of_lt_of_le F_planId.lt (Nat.le_of_eq g1.symm))
  have ne_xa_b1 : xa ≠ b1 := Nat.ne_of_lt (Nat.lt_of_lt_of_le E_xa.lt (Nat.le_of_eq g1.symm))
  have ne_ua_b1 : ua ≠ b1 := Nat.ne_of_lt (Nat.lt_of_lt_of_le V_ua.lt (Nat.le_of_eq g1.symm))
  have g_b1 : n0 ≤ b1 := Nat.le_trans Z0 (Nat.le_of_eq g1.symm)
  have sz_b1 : h0.size ≤ b1 := Nat.le_trans K0.1 (Nat.le_of_eq g1.symm)
  replace CR := CR.trans (CHr.ext E1 CR.1)
  replace hk := Nat.le_trans hk E1.1
  replace Z0 := Nat.le_trans Z0 E1.1
  replace K0 := K0.ext E1
  replace O0 := O0.ext E1
  replace F_planId := F_planId.ext E1
  replace F_section := F_section.ext E1
  replace E_xa := E_xa.ext E1
  replace Fc_xa := Fc_xa.ext E1
  replace Fv_xa := Fv_xa.ext E1
  replace V_ua := V_ua.ext E1
  have E_b1 := A1
  have F_b1_value : Fld Z h1 b1 "java/lang/AbstractStringBuilder" "value" "[B" .null := D1 (Or.inl (hw _ (List.mem_of_getElem? (i := 62) rfl))) (ty := (.array .byte)) (by decide)
  have F_b1_coder : Fld Z h1 b1 "java/lang/AbstractStringBuilder" "coder" "B" (.int (0 : Int32)) := D1 (Or.inl (hw _ (List.mem_of_getElem? (i := 64) rfl))) (ty := .byte) (by decide)
  have F_b1_count : Fld Z h1 b1 "java/lang/AbstractStringBuilder" "count" "I" (.int (0 : Int32)) := D1 (Or.inl (hw _ (List.mem_of_getElem? (i := 87) rfl))) (ty := .int) (by decide)
  refine GoH.st (T' := T1) (pc' := 3) (L' := #[.val (.ref a1)]) (S' := [(.ref b1)]) st1 ?_
  have S_b1 : Safe Z EL s.vm h1 b1 := Safe.exa hZ.alike E_b1 (by decide) (by decide)
  refine GoH.st (T' := T1) (pc' := 4) (L' := #[.val (.ref a1)]) (S' := [(.ref b1), (.ref b1)]) (fun t_ k_ => XS.dup X1.here hx rfl (hb hby d7_3) rfl rfl k_) ?_
  obtain ⟨_, _, ⟨T2, L2, k2, n2⟩, -, X2, ⟨Lc2, hQ2, l2, y2, z2⟩, st2⟩ := X1.specialBack hx (y := (⟨"java/lang/StringBuilder", "<init>", "()V"⟩ : MethodName)) rfl hown (mvT hZ (hw _ (List.mem_of_getElem? (i := 50) rfl))) (mvT hZ (hw _ (List.mem_of_getElem? (i := 51) rfl))) (mvT hZ (hw _ (List.mem_of_getElem? (i := 52) rfl))) (by decide) (backOf (W := 1) (rm8 l Z a0 hw [] b1 gC h1 n0 Z0 E_b1 g_b1 SC PC O0 F_b1_value F_b1_coder F_b1_count) hZ (hw _ (List.mem_of_getElem? (i := 52) rfl)) (hw _ (List.mem_of_getElem? (i := 49) rfl)) (by decide) (by decide)) (g := (mkF m 4 #[.val (.ref a1)] [(.ref b1), (.ref b1)])) rfl (by rw [hml]; rfl) (Steps.refl _) (a := b1) (argsL := []) (rest := [(.ref b1)]) (lenOf pd_18 rfl) rfl (by show 2 * 0 + _ ≤ _; exact Nat.le_of_eq rfl) (hb hby d7_4) (fun _ _ => ⟨rfl, e1, (by decide : 1 + 1 ≤ _), (by decide : 4 + 16 ≤ _)⟩)
  dsimp only [Pt.U, Pt.locs, Pt.cells, Pt.slots] at X2 l2 y2 z2 st2 hQ2
  subst l2 y2 z2
  obtain ⟨bb2, kb2, rfl, N2q, K2, g_bb2, lt2, Fv2, Fd2, Fn2, Vb2⟩ := hQ2
  have N2 := Fr.app N0 N2q
  have ne_a1_bb2 : a1 ≠ bb2 := Nat.ne_of_lt (Nat.lt_of_lt_of_le F_planId.lt lt2)
  have ne_xa_bb2 : xa ≠ bb2 := Nat.ne_of_lt (Nat.lt_of_lt_of_le E_xa.lt lt2)
  have ne_ua_bb2 : ua ≠ bb2 := Nat.ne_of_lt (Nat.lt_of_lt_of_le V_ua.lt lt2)
  have ne_b1_bb2 : b1 ≠ bb2 := Nat.ne_of_lt (Nat.lt_of_lt_of_le E_b1.lt lt2)
  have sz_bb2 : h0.size ≤ bb2 := Nat.le_trans K0.1 lt2
  have S_bb2 : Safe Z EL s.vm h1 bb2 := Safe.new lt2
  obtain ⟨h2, e2⟩ : ∃ z, T2.heap = z := ⟨_, rfl⟩
  rw [e2] at K2 Fv2 Fd2 Fn2 Vb2
  have Sk3 : ∀ x ∈ [b1], Safe Z EL s.vm h1 x := (allS S_b1 all0)
  replace S_b1 := Safe.keep K2 Sk3 CR.1 S_b1
  replace S_bb2 := Safe.keep K2 Sk3 CR.1 S_bb2
  replace CR := CR.trans (CHr.keep K2 Sk3 CR.1)
  replace hk := Nat.le_trans hk K2.1
  replace Z0 := Nat.le_trans Z0 K2.1
  replace K0 := K0.trans K2 (allS (Or.inr sz_b1) all0)
  replace O0 := O0.keep K2 (allS g_b1 all0)
  replace F_planId := F_planId.keep K2 (ninS ne_a1_b1 nin0)
  replace F_section := F_section.keep K2 (ninS ne_a1_b1 nin0)
  replace E_xa := E_xa.keep K2
  replace Fc_xa := Fc_xa.keep K2 (ninS ne_xa_b1 nin0)
  replace Fv_xa := Fv_xa.keep K2 (ninS ne_xa_b1 nin0)
  replace V_ua := V_ua.keep K2 (ninS ne_ua_b1 nin0)
  replace E_b1 := E_b1.keep K2
  refine GoH.tr (T' := T2) (pc' := 7) (L' := #[.val (.ref a1)]) (S' := [(.ref b1)]) st2 ?_
  refine GoH.st (T' := T2) (pc' := 8) (L' := #[.val (.ref a1)]) (S' := [(.ref a1), (.ref b1)]) (fun t_ k_ => XS.aloadN X2.here hx rfl (hb hby d7_7) rfl rfl  k_) ?_
  obtain ⟨T4, X4, e4, st4⟩ := getF X2 hx hZ hown (host := "") (Or.inl (hw _ (List.mem_of_getElem? (i := 38) rfl))) Via.refl e2 F_planId (g := (mkF m 8 #[.val (.ref a1)] [(.ref a1), (.ref b1)])) rfl rfl (hb hby d7_8)
  refine GoH.st (T' := T4) (pc' := 11) (L' := #[.val (.ref a1)]) (S' := [(.ref xa), (.ref b1)]) st4 ?_
  obtain ⟨cq5, kq5, q5a, q5b, q5c⟩ := isOf hZ e4 E_b1
  obtain ⟨_, _, ⟨T5, L5, k5, n5⟩, -, X5, ⟨Lc5, hQ5, l5, y5, z5⟩, st5⟩ := X4.virtualBack hx (y := (⟨"java/lang/StringBuilder", "append", "(Ljava/lang/String;)Ljava/lang/StringBuilder;"⟩ : MethodName)) (z := (⟨"java/lang/StringBuilder", "append", "(Ljava/lang/String;)Ljava/lang/StringBuilder;"⟩ : MethodName)) hown (mvT hZ (hw _ (List.mem_of_getElem? (i := 65) rfl))) (mvT hZ (hw _ (List.mem_of_getElem? (i := 66) rfl))) (notFace_of_selects (args := #[]) (mvT hZ (hw _ (List.mem_of_getElem? (i := 68) rfl)))) (mvT hZ (hw _ (List.mem_of_getElem? (i := 68) rfl))) (mvT hZ (hw _ (List.mem_of_getElem? (i := 67) rfl))) (by decide) (backOf (W := 0) (rm10 l Z a0 hw [] b1 xa ua _ bb2 _ _ (La) (0) (na) gC h2 n0 Z0 SC PC O0 E_b1 g_b1 ne_b1_bb2 Fv2 Fd2 Vb2 Fn2 E_xa Fc_xa Fv_xa V_ua g_bb2 ne_xa_bb2 ne_ua_bb2 rfl la (by omega) ne_xa_b1 ne_ua_b1) hZ (hw _ (List.mem_of_getElem? (i := 69) rfl)) (hw _ (List.mem_of_getElem? (i := 49) rfl)) (by decide) (by decide)) q5a q5c (g := (mkF m 11 #[.val (.ref a1)] [(.ref xa), (.ref b1)])) rfl (by rw [hml]; rfl) (Steps.refl _) (argsL := [(.ref xa)]) (rest := []) (lenOf pd_19 rfl) rfl (by show 2 * 0 + _ ≤ _; exact Nat.le_of_eq rfl) (hb hby d7_11) (fun _ _ => ⟨rfl, e4, (by decide : 2 + 0 ≤ _), (by decide : 20 + 0 ≤ _)⟩)
  dsimp only [Pt.U, Pt.locs, Pt.cells, Pt.slots] at X5 l5 y5 z5 st5 hQ5
  subst l5 y5 z5
  obtain ⟨rfl, N5q, K5, Fv5, Fd5, Fn5, Vb5⟩ := hQ5
  have N5 := Fr.app N2 N5q
  obtain ⟨h5, e5⟩ : ∃ z, T5.heap = z := ⟨_, rfl⟩
  rw [e5] at K5 Fv5 Fd5 Fn5 Vb5
  have Sk6 : ∀ x ∈ [b1, bb2], Safe Z EL s.vm h2 x := (allS S_b1 (allS S_bb2 all0))
  replace S_b1 := Safe.keep K5 Sk6 CR.1 S_b1
  replace S_bb2 := Safe.keep K5 Sk6 CR.1 S_bb2
  replace CR := CR.trans (CHr.keep K5 Sk6 CR.1)
  replace hk := Nat.le_trans hk K5.1
  replace Z0 := Nat.le_trans Z0 K5.1
  replace K0 := K0.trans K5 (allS (Or.inr sz_b1) (allS (Or.inr sz_bb2) all0))
  replace O0 := O0.keep K5 (allS g_b1 (allS g_bb2 all0))
  replace F_planId := F_planId.keep K5 (ninS ne_a1_b1 (ninS ne_a1_bb2 nin0))
  replace F_section := F_section.keep K5 (ninS ne_a1_b1 (ninS ne_a1_bb2 nin0))
  replace E_xa := E_xa.keep K5
  replace Fc_xa := Fc_xa.keep K5 (ninS ne_xa_b1 (ninS ne_xa_bb2 nin0))
  replace Fv_xa := Fv_xa.keep K5 (ninS ne_xa_b1 (ninS ne_xa_bb2 nin0))
  replace V_ua := V_ua.keep K5 (ninS ne_ua_b1 (ninS ne_ua_bb2 nin0))
  replace E_b1 := E_b1.keep K5
  refine GoH.tr (T' := T5) (pc' := 14) (L' := #[.val (.ref a1)]) (S' := [(.ref b1)]) st5 ?_
  obtain ⟨a7_, T7, h7, k7, b7_, c7, X7, e7, E7, hS7, hk7, hZ7, ho7, E_a7_, Fc_a7_, Fv_a7_, V_b7_, lta7, ltb7, CR7, -, Sf7, st7⟩ := ldcCH X5 hx hZ hown (hw _ (List.mem_of_getElem? (i := 113) rfl)) (own_wS hw) e5 hS hk (own_EW hw) (by decide : ("com/example/vestry/vestry/plan/PlanSection", 23) ∈ EL) CR.1 (vs := [(.int (32 : Int32))]) (z := (1 : Int32)) ⟨by decide, by decide⟩ (by decide) rfl (g := (mkF m 14 #[.val (.ref a1)] [(.ref b1)])) rfl (hb hby d7_14) (n := 4) (by decide) (by decide) (by decide) (by decide)
  replace S_b1 := CR7.safe E_b1.lt S_b1
  replace S_bb2 := CR7.safe Vb5.lt S_bb2
  replace CR := CR.trans CR7
  replace Z0 := Nat.le_trans Z0 E7.1
  replace K0 := K0.ext E7
  replace O0 := O0.ext E7
  replace F_planId := F_planId.ext E7
  replace F_section := F_section.ext E7
  replace E_xa := E_xa.ext E7
  replace Fc_xa := Fc_xa.ext E7
  replace Fv_xa := Fv_xa.ext E7
  replace V_ua := V_ua.ext E7
  replace E_b1 := E_b1.ext E7
  replace Fv5 := Fv5.ext E7
  replace Fd5 := Fd5.ext E7
  replace Fn5 := Fn5.ext E7
  replace Vb5 := Vb5.ext E7
  replace hZ := hZ7
  replace hown := ho7
  replace hS := hS7
  replace hk := hk7
  have ne_b1_a7_ := (Sf7 _ S_b1).1
  have ne_b1_b7_ := (Sf7 _ S_b1).2
  have ne_bb2_a7_ := (Sf7 _ S_bb2).1
  have ne_bb2_b7_ := (Sf7 _ S_bb2).2
  refine GoH.st (T' := T7) (pc' := 16) (L' := #[.val (.ref a1)]) (S' := [(.ref a7_), (.ref b1)]) st7 ?_
  obtain ⟨cq8, kq8, q8a, q8b, q8c⟩ := isOf hZ e7 E_b1
  obtain ⟨_, _, ⟨T8, L8, k8, n8⟩, -, X8, ⟨Lc8, hQ8, l8, y8, z8⟩, st8⟩ := X7.virtualBack hx (y := (⟨"java/lang/StringBuilder", "append", "(Ljava/lang/String;)Ljava/lang/StringBuilder;"⟩ : MethodName)) (z := (⟨"java/lang/StringBuilder", "append", "(Ljava/lang/String;)Ljava/lang/StringBuilder;"⟩ : MethodName)) hown (mvT hZ (hw _ (List.mem_of_getElem? (i := 65) rfl))) (mvT hZ (hw _ (List.mem_of_getElem? (i := 66) rfl))) (notFace_of_selects (args := #[]) (mvT hZ (hw _ (List.mem_of_getElem? (i := 68) rfl)))) (mvT hZ (hw _ (List.mem_of_getElem? (i := 68) rfl))) (mvT hZ (hw _ (List.mem_of_getElem? (i := 67) rfl))) (by decide) (backOf (W := 0) (rm10 l Z a0 hw [] b1 a7_ b7_ _ bb2 _ _ (([(32 : Int32)] : List Int32)) ((0 + na)) (1) gC h7 n0 Z0 SC PC O0 E_b1 g_b1 ne_b1_bb2 Fv5 Fd5 Vb5 Fn5 E_a7_ Fc_a7_ Fv_a7_ V_b7_ g_bb2 (Ne.symm ne_bb2_a7_) (Ne.symm ne_bb2_b7_) (own_la rfl la) rfl (by omega) (Ne.symm ne_b1_a7_) (Ne.symm ne_b1_b7_)) hZ (hw _ (List.mem_of_getElem? (i := 69) rfl)) (hw _ (List.mem_of_getElem? (i := 49) rfl)) (by decide) (by decide)) q8a q8c (g := (mkF m 16 #[.val (.ref a1)] [(.ref a7_), (.ref b1)])) rfl (by rw [hml]; rfl) (Steps.refl _) (argsL := [(.ref a7_)]) (rest := []) (lenOf pd_19 rfl) rfl (by show 2 * 0 + _ ≤ _; exact Nat.le_of_eq rfl) (hb hby d7_16) (fun _ _ => ⟨rfl, e7, (by decide : 4 + 0 ≤ _), (by decide : 28 + 0 ≤ _)⟩)
  dsimp only [Pt.U, Pt.locs, Pt.cells, Pt.slots] at X8 l8 y8 z8 st8 hQ8
  subst l8 y8 z8
  obtain ⟨rfl, N8q, K8, Fv8, Fd8, Fn8, Vb8⟩ := hQ8
  have N8 := Fr.app N5 N8q
  obtain ⟨h8, e8⟩ : ∃ z, T8.heap = z := ⟨_, rfl⟩
  rw [e8] at K8 Fv8 Fd8 Fn8 Vb8
  have Sk9 : ∀ x ∈ [b1, bb2], Safe Z EL T7.vm h7 x := (allS S_b1 (allS S_bb2 all0))
  replace S_b1 := Safe.keep K8 Sk9 CR.1 S_b1
  replace S_bb2 := Safe.keep K8 Sk9 CR.1 S_bb2
  replace CR := CR.trans (CHr.keep K8 Sk9 CR.1)
  replace hk := Nat.le_trans hk K8.1
  replace Z0 := Nat.le_trans Z0 K8.1
  replace K0 := K0.trans K8 (allS (Or.inr sz_b1) (allS (Or.inr sz_bb2) all0))
  replace O0 := O0.keep K8 (allS g_b1 (allS g_bb2 all0))
  replace F_planId := F_planId.keep K8 (ninS ne_a1_b1 (ninS ne_a1_bb2 nin0))
  replace F_section := F_section.keep K8 (ninS ne_a1_b1 (ninS ne_a1_bb2 nin0))
  replace E_xa := E_xa.keep K8
  replace Fc_xa := Fc_xa.keep K8 (ninS ne_xa_b1 (ninS ne_xa_bb2 nin0))
  replace Fv_xa := Fv_xa.keep K8 (ninS ne_xa_b1 (ninS ne_xa_bb2 nin0))
  replace V_ua := V_ua.keep K8 (ninS ne_ua_b1 (ninS ne_ua_bb2 nin0))
  replace E_b1 := E_b1.keep K8
  replace E_a7_ := E_a7_.keep K8
  replace Fc_a7_ := Fc_a7_.keep K8 (ninS (Ne.symm ne_b1_a7_) (ninS (Ne.symm ne_bb2_a7_) nin0))
  replace Fv_a7_ := Fv_a7_.keep K8 (ninS (Ne.symm ne_b1_a7_) (ninS (Ne.symm ne_bb2_a7_) nin0))
  replace V_b7_ := V_b7_.keep K8 (ninS (Ne.symm ne_b1_b7_) (ninS (Ne.symm ne_bb2_b7_) nin0))
  refine GoH.tr (T' := T8) (pc' := 19) (L' := #[.val (.ref a1)]) (S' := [(.ref b1)]) st8 ?_
  refine GoH.st (T' := T8) (pc' := 20) (L' := #[.val (.ref a1)]) (S' := [(.ref a1), (.ref b1)]) (fun t_ k_ => XS.aloadN X8.here hx rfl (hb hby d7_19) rfl rfl  k_) ?_
  obtain ⟨T10, X10, e10, st10⟩ := getF X8 hx hZ hown (host := "") (Or.inl (hw _ (List.mem_of_getElem? (i := 40) rfl))) Via.refl e8 F_section (g := (mkF m 20 #[.val (.ref a1)] [(.ref a1), (.ref b1)])) rfl rfl (hb hby d7_20)
  refine GoH.st (T' := T10) (pc' := 23) (L' := #[.val (.ref a1)]) (S' := [.null, (.ref b1)]) st10 ?_
  obtain ⟨cq11, kq11, q11a, q11b, q11c⟩ := isOf hZ e10 E_b1
  obtain ⟨_, _, ⟨T11, L11, k11, n11⟩, -, X11, ⟨Lc11, hQ11, l11, y11, z11⟩, st11⟩ := X10.virtualBack hx (y := (⟨"java/lang/StringBuilder", "append", "(Ljava/lang/String;)Ljava/lang/StringBuilder;"⟩ : MethodName)) (z := (⟨"java/lang/StringBuilder", "append", "(Ljava/lang/String;)Ljava/lang/StringBuilder;"⟩ : MethodName)) hown (mvT hZ (hw _ (List.mem_of_getElem? (i := 65) rfl))) (mvT hZ (hw _ (List.mem_of_getElem? (i := 66) rfl))) (notFace_of_selects (args := #[]) (mvT hZ (hw _ (List.mem_of_getElem? (i := 68) rfl)))) (mvT hZ (hw _ (List.mem_of_getElem? (i := 68) rfl))) (mvT hZ (hw _ (List.mem_of_getElem? (i := 67) rfl))) (by decide) (backOf (W := 0) (rmappNS l Z a0 hw [] b1 bb2 _ _ (((0 + na) + 1)) gC h8 n0 Z0 SC PC O0 E_b1 g_b1 ne_b1_bb2 Fv8 Fd8 Vb8 Fn8 g_bb2 (own_la (own_la rfl la) rfl) (by omega)) hZ (hw _ (List.mem_of_getElem? (i := 69) rfl)) (hw _ (List.mem_of_getElem? (i := 49) rfl)) (by decide) (by decide)) q11a q11c (g := (mkF m 23 #[.val (.ref a1)] [.null, (.ref b1)])) rfl (by rw [hml]; rfl) (Steps.refl _) (argsL := [.null]) (rest := []) (lenOf pd_19 rfl) rfl (by show 2 * 0 + _ ≤ _; exact Nat.le_of_eq rfl) (hb hby d7_23) (fun _ _ => ⟨rfl, e10, (by decide : 4 + 0 ≤ _), (by decide : 28 + 0 ≤ _)⟩)
  dsimp only [Pt.U, Pt.locs, Pt.cells, Pt.slots] at X11 l11 y11 z11 st11 hQ11
  subst l11 y11 z11
  obtain ⟨rfl, N11q, K11, Fv11, Fd11, Fn11, Vb11⟩ := hQ11
  have N11 := Fr.app N8 N11q
  obtain ⟨h11, e11⟩ : ∃ z, T11.heap = z := ⟨_, rfl⟩
  rw [e11] at K11 Fv11 Fd11 Fn11 Vb11
  have Sk12 : ∀ x ∈ [b1, bb2], Safe Z EL T7.vm h8 x := (allS S_b1 (allS S_bb2 all0))
  replace S_b1 := Safe.keep K11 Sk12 CR.1 S_b1
  replace S_bb2 := Safe.keep K11 Sk12 CR.1 S_bb2
  replace CR := CR.trans (CHr.keep K11 Sk12 CR.1)
  replace hk := Nat.le_trans hk K11.1
  replace Z0 := Nat.le_trans Z0 K11.1
  replace K0 := K0.trans K11 (allS (Or.inr sz_b1) (allS (Or.inr sz_bb2) all0))
  replace O0 := O0.keep K11 (allS g_b1 (allS g_bb2 all0))
  replace F_planId := F_planId.keep K11 (ninS ne_a1_b1 (ninS ne_a1_bb2 nin0))
  replace F_section := F_section.keep K11 (ninS ne_a1_b1 (ninS ne_a1_bb2 nin0))
  replace E_xa := E_xa.keep K11
  replace Fc_xa := Fc_xa.keep K11 (ninS ne_xa_b1 (ninS ne_xa_bb2 nin0))
  replace Fv_xa := Fv_xa.keep K11 (ninS ne_xa_b1 (ninS ne_xa_bb2 nin0))
  replace V_ua := V_ua.keep K11 (ninS ne_ua_b1 (ninS ne_ua_bb2 nin0))
  replace E_b1 := E_b1.keep K11
  replace E_a7_ := E_a7_.keep K11
  replace Fc_a7_ := Fc_a7_.keep K11 (ninS (Ne.symm ne_b1_a7_) (ninS (Ne.symm ne_bb2_a7_) nin0))
  replace Fv_a7_ := Fv_a7_.keep K11 (ninS (Ne.symm ne_b1_a7_) (ninS (Ne.symm ne_bb2_a7_) nin0))
  replace V_b7_ := V_b7_.keep K11 (ninS (Ne.symm ne_b1_b7_) (ninS (Ne.symm ne_bb2_b7_) nin0))
  refine GoH.tr (T' := T11) (pc' := 26) (L' := #[.val (.ref a1)]) (S' := [(.ref b1)]) st11 ?_
  obtain ⟨cq13, kq13, q13a, q13b, q13c⟩ := isOf hZ e11 E_b1
  obtain ⟨_, _, ⟨T13, L13, k13, n13⟩, -, X13, ⟨Lc13, hQ13, l13, y13, z13⟩, st13⟩ := X11.virtualBack hx (y := (⟨"java/lang/StringBuilder", "toString", "()Ljava/lang/String;"⟩ : MethodName)) (z := (⟨"java/lang/StringBuilder", "toString", "()Ljava/lang/String;"⟩ : MethodName)) hown (mvT hZ (hw _ (List.mem_of_getElem? (i := 114) rfl))) (mvT hZ (hw _ (List.mem_of_getElem? (i := 115) rfl))) (notFace_of_selects (args := #[]) (mvT hZ (hw _ (List.mem_of_getElem? (i := 117) rfl)))) (mvT hZ (hw _ (List.mem_of_getElem? (i := 117) rfl))) (mvT hZ (hw _ (List.mem_of_getElem? (i := 116) rfl))) (by decide) (backOf (W := 0) (rm18 l Z a0 hw [] b1 bb2 _ _ ((((0 + na) + 1) + 4)) gC h11 n0 Z0 SC PC O0 E_b1 Fv11 Fd11 Fn11 Vb11 (own_la (own_la (own_la rfl la) rfl) rfl) (by omega)) hZ (hw _ (List.mem_of_getElem? (i := 118) rfl)) (hw _ (List.mem_of_getElem? (i := 49) rfl)) (by decide) (by decide)) q13a q13c (g := (mkF m 26 #[.val (.ref a1)] [(.ref b1)])) rfl (by rw [hml]; rfl) (Steps.refl _) (argsL := []) (rest := []) (lenOf pd_20 rfl) rfl (by show 2 * 0 + _ ≤ _; exact Nat.le_of_eq rfl) (hb hby d7_26) (fun _ _ => ⟨rfl, e11, (by decide : 4 + 2 ≤ _), (by decide : 28 + 20 ≤ _)⟩)
  dsimp only [Pt.U, Pt.locs, Pt.cells, Pt.slots] at X13 l13 y13 z13 st13 hQ13
  subst l13 y13 z13
  obtain ⟨r13_, tr13_, kt13, rfl, N13q, K13, g_r13_, lt13, Er13, Co13, Va13, Vt13⟩ := hQ13
  have N13 := Fr.app N11 N13q
  have ne_a1_r13_ : a1 ≠ r13_ := Nat.ne_of_lt (Nat.lt_of_lt_of_le F_planId.lt lt13)
  have ne_xa_r13_ : xa ≠ r13_ := Nat.ne_of_lt (Nat.lt_of_lt_of_le E_xa.lt lt13)
  have ne_ua_r13_ : ua ≠ r13_ := Nat.ne_of_lt (Nat.lt_of_lt_of_le V_ua.lt lt13)
  have ne_b1_r13_ : b1 ≠ r13_ := Nat.ne_of_lt (Nat.lt_of_lt_of_le E_b1.lt lt13)
  have ne_a7__r13_ : a7_ ≠ r13_ := Nat.ne_of_lt (Nat.lt_of_lt_of_le E_a7_.lt lt13)
  have ne_b7__r13_ : b7_ ≠ r13_ := Nat.ne_of_lt (Nat.lt_of_lt_of_le V_b7_.lt lt13)
  have ne_bb2_r13_ : bb2 ≠ r13_ := Nat.ne_of_lt (Nat.lt_of_lt_of_le Vb11.lt lt13)
  have sz_r13_ : h0.size ≤ r13_ := Nat.le_trans K0.1 lt13
  obtain ⟨h13, e13⟩ : ∃ z, T13.heap = z := ⟨_, rfl⟩
  rw [e13] at K13 Er13 Co13 Va13 Vt13
  have Sk14 : ∀ x ∈ [], Safe Z EL T7.vm h11 x := all0
  replace S_b1 := Safe.keep K13 Sk14 CR.1 S_b1
  replace S_bb2 := Safe.keep K13 Sk14 CR.1 S_bb2
  replace CR := CR.trans (CHr.keep K13 Sk14 CR.1)
  replace hk := Nat.le_trans hk K13.1
  replace Z0 := Nat.le_trans Z0 K13.1
  replace K0 := K0.trans K13 all0
  replace O0 := O0.keep K13 all0
  replace F_planId := F_planId.keep K13 nin0
  replace F_section := F_section.keep K13 nin0
  replace E_xa := E_xa.keep K13
  replace Fc_xa := Fc_xa.keep K13 nin0
  replace Fv_xa := Fv_xa.keep K13 nin0
  replace V_ua := V_ua.keep K13 nin0
  replace E_b1 := E_b1.keep K13
  replace E_a7_ := E_a7_.keep K13
  replace Fc_a7_ := Fc_a7_.keep K13 nin0
  replace Fv_a7_ := Fv_a7_.keep K13 nin0
  replace V_b7_ := V_b7_.keep K13 nin0
  replace Fv11 := Fv11.keep K13 nin0
  replace Fd11 := Fd11.keep K13 nin0
  replace Fn11 := Fn11.keep K13 nin0
  replace Vb11 := Vb11.keep K13 nin0
  refine GoH.tr (T' := T13) (pc' := 29) (L' := #[.val (.ref a1)]) (S' := [(.ref r13_)]) st13 ?_
  exact GoH.retO X13 hx hlk hret rfl (by simp [FieldType.isReference, Value.isRef]) (hb hby d7_29) (by decide) (by decide) hS hk e13 hs0 hZ (own_EW hw) CR (by rw [e13]; exact ⟨r13_, tr13_, _, rfl, N13, K0, g_r13_, sz_r13_, Er13, Co13, Va13, Vt13⟩)

def Qts11 (Z : State) (La : List Int32) (na : Nat) (Lb : List Int32) (nb : Nat) (h0 : Heap) (n0 : Nat) (v : Option Value) (h : Heap) (L : List Loc) : Prop := ∃ (r t : Addr) (kt : ClassId), v = some (.ref r) ∧ Fr n0 L ∧ Keep h0 h [] ∧ n0 ≤ r ∧ h0.size ≤ r ∧ Exa Z h r "java/lang/String" ∧ Fld Z h r "java/lang/String" "coder" "B" (.int (0 : Int32)) ∧ Fld Z h r "java/lang/String" "value" "[B" (.ref t) ∧ Arv Z h t kt .byte ((0 + na + 1 + nb : Nat).toInt32) ((([] ++ La ++ ([32] : List Int32)) ++ Lb).map Value.int) (.int (0 : Int32))
def roomts11 : Room := { frames := 6, cells := 6, slots := 48, locals := 113 }
set_option maxRecDepth 65536 in
set_option maxHeartbeats 40000000 in
theorem rmts11 (l : Launch) (Z : State) (a0 : Array Value) (hw : ∀ d ∈ tables_1, d.before a0 Z = true) (ws : List Jvm.Cond) (a1 : Addr) (xa : Addr) (ua : Addr) (qa : ClassId) (La : List Int32) (na : Nat) (xb : Addr) (ub : Addr) (qb : ClassId) (Lb : List Int32) (nb : Nat) (gC : Int32) (h0 : Heap) (n0 : Nat) (Z0 : n0 ≤ h0.size) (SC : Sta Z Z.heap "java/lang/String" "COMPACT_STRINGS" "Z" (.int gC)) (PC : ¬ (gC = (0 : Int32))) (O0 : Old Z n0 h0) (F_planId : Fld Z h0 a1 "com/example/vestry/vestry/plan/PlanSection" "planId" "Ljava/lang/String;" (.ref xa)) (F_section : Fld Z h0 a1 "com/example/vestry/vestry/plan/PlanSection" "section" "Ljava/lang/String;" (.ref xb)) (E_xa : Exa Z h0 xa "java/lang/String") (Fc_xa : Fld Z h0 xa "java/lang/String" "coder" "B" (.int (0 : Int32))) (Fv_xa : Fld Z h0 xa "java/lang/String" "value" "[B" (.ref ua)) (V_ua : Arv Z h0 ua qa .byte (na.toInt32) (La.map Value.int) (.int (0 : Int32))) (la : La.length = na) (ra : na ≤ 4) (E_xb : Exa Z h0 xb "java/lang/String") (Fc_xb : Fld Z h0 xb "java/lang/String" "coder" "B" (.int (0 : Int32))) (Fv_xb : Fld Z h0 xb "java/lang/String" "value" "[B" (.ref ub)) (V_ub : Arv Z h0 ub qb .byte (nb.toInt32) (Lb.map Value.int) (.int (0 : Int32))) (lb : Lb.length = nb) (rb : nb ≤ 4) :
    MetFree l (⟨"com/example/vestry/vestry/plan/PlanSection", "toString", "()Ljava/lang/String;"⟩ : MethodName) (head1 (Jvm.Cond.code (⟨"com/example/vestry/vestry/plan/PlanSection", "toString", "()Ljava/lang/String;"⟩ : MethodName) prog_55_method_2_code 1 (some (.object "java/lang/String")) :: ws) roomts11) (fun aa_ U_ => aa_ = #[(.ref a1)] ∧ Z.Warmed39 U_.vm ∧ U_.heap = h0 ∧ CHv Z EL U_.vm h0) (fun _ _ _ _ _ => True) (fun _ U_ o_ W_ => ∃ v_ L_, o_ = .returned v_ ∧ (Qts11 Z La na Lb nb h0 n0) v_ W_.heap L_ ∧ CHr Z EL U_.vm U_.heap W_.vm W_.heap ∧ ReturnedEndW U_ o_ W_ L_ roomts11.cells roomts11.slots) := by
  refine own_metH (Q := (Qts11 Z La na Lb nb h0 n0)) (L0 := #[.val (.ref a1)]) (plainFor_of_name pn_7) (fun m => by first | (simp [entryFrame, mkF, argsToLocals, Value.category]; done) | rfl) ?_
  intro p e s m below meth c T0 X0 hx hby hml hown hnm hret hlk hZ e0 hs0 CR hS hk
  have N0 := Fr.nil n0
  have K0 := Keep.refl h0 []
  obtain ⟨T1, h1, X1, e1, E1, A1, D1, U1, st1⟩ := newO X0 hx hZ hown (hw _ (List.mem_of_getElem? (i := 47) rfl)) (hw _ (List.mem_of_getElem? (i := 48) rfl)) (hw _ (List.mem_of_getElem? (i := 49) rfl)) e0 (g := (mkF m 0 #[.val (.ref a1)] [])) rfl (hb hby d7_0) (by decide) (by decide)
  obtain ⟨b1, g1⟩ : ∃ z, z = h0.size := ⟨_, rfl⟩
  rw [← g1] at A1 D1 U1 st1
  have ne_a1_b1 : a1 ≠ b1 := Nat.ne_of_lt (Nat.lt_of_lt_of_le F_planId.lt (Nat.le_of_eq g1.symm))
  have ne_xa_b1 : xa ≠ b1 := Nat.ne_of_lt (Nat.lt_of_lt_of_le E_xa.lt (Nat.le_of_eq g1.symm))
  have ne_ua_b1 : ua ≠ b1 := Nat.ne_of_lt (Nat.lt_of_lt_of_le V_ua.lt (Nat.le_of_eq g1.symm))
  have ne_xb_b1 : xb ≠ b1 := Nat.ne_of_lt (Nat.lt_of_lt_of_le E_xb.lt (Nat.le_of_eq g1.symm))
  have ne_ub_b1 : ub ≠ b1 := Nat.ne_of_lt (Nat.lt_of_lt_of_le V_ub.lt (Nat.le_of_eq g1.symm))
  have g_b1 : n0 ≤ b1 := Nat.le_trans Z0 (Nat.le_of_eq g1.symm)
  have sz_b1 : h0.size ≤ b1 := Nat.le_trans K0.1 (Nat.le_of_eq g1.symm)
  replace CR := CR.trans (CHr.ext E1 CR.1)
  replace hk := Nat.le_trans hk E1.1
  replace Z0 := Nat.le_trans Z0 E1.1
  replace K0 := K0.ext E1
  replace O0 := O0.ext E1
  replace F_planId := F_planId.ext E1
  replace F_section := F_section.ext E1
  replace E_xa := E_xa.ext E1
  replace Fc_xa := Fc_xa.ext E1
  replace Fv_xa := Fv_xa.ext E1
  replace V_ua := V_ua.ext E1
  replace E_xb := E_xb.ext E1
  replace Fc_xb := Fc_xb.ext E1
  replace Fv_xb := Fv_xb.ext E1
  replace V_ub := V_ub.ext E1
  have E_b1 := A1
  have F_b1_value : Fld Z h1 b1 "java/lang/AbstractStringBuilder" "value" "[B" .null := D1 (Or.inl (hw _ (List.mem_of_getElem? (i := 62) rfl))) (ty := (.array .byte)) (by decide)
  have F_b1_coder : Fld Z h1 b1 "java/lang/AbstractStringBuilder" "coder" "B" (.int (0 : Int32)) := D1 (Or.inl (hw _ (List.mem_of_getElem? (i := 64) rfl))) (ty := .byte) (by decide)
  have F_b1_count : Fld Z h1 b1 "java/lang/AbstractStringBuilder" "count" "I" (.int (0 : Int32)) := D1 (Or.inl (hw _ (List.mem_of_getElem? (i := 87) rfl))) (ty := .int) (by decide)
  refine GoH.st (T' := T1) (pc' := 3) (L' := #[.val (.ref a1)]) (S' := [(.ref b1)]) st1 ?_
  have S_b1 : Safe Z EL s.vm h1 b1 := Safe.exa hZ.alike E_b1 (by decide) (by decide)
  refine GoH.st (T' := T1) (pc' := 4) (L' := #[.val (.ref a1)]) (S' := [(.ref b1), (.ref b1)]) (fun t_ k_ => XS.dup X1.here hx rfl (hb hby d7_3) rfl rfl k_) ?_
  obtain ⟨_, _, ⟨T2, L2, k2, n2⟩, -, X2, ⟨Lc2, hQ2, l2, y2, z2⟩, st2⟩ := X1.specialBack hx (y := (⟨"java/lang/StringBuilder", "<init>", "()V"⟩ : MethodName)) rfl hown (mvT hZ (hw _ (List.mem_of_getElem? (i := 50) rfl))) (mvT hZ (hw _ (List.mem_of_getElem? (i := 51) rfl))) (mvT hZ (hw _ (List.mem_of_getElem? (i := 52) rfl))) (by decide) (backOf (W := 1) (rm8 l Z a0 hw [] b1 gC h1 n0 Z0 E_b1 g_b1 SC PC O0 F_b1_value F_b1_coder F_b1_count) hZ (hw _ (List.mem_of_getElem? (i := 52) rfl)) (hw _ (List.mem_of_getElem? (i := 49) rfl)) (by decide) (by decide)) (g := (mkF m 4 #[.val (.ref a1)] [(.ref b1), (.ref b1)])) rfl (by rw [hml]; rfl) (Steps.refl _) (a := b1) (argsL := []) (rest := [(.ref b1)]) (lenOf pd_18 rfl) rfl (by show 2 * 0 + _ ≤ _; exact Nat.le_of_eq rfl) (hb hby d7_4) (fun _ _ => ⟨rfl, e1, (by decide : 1 + 1 ≤ _), (by decide : 4 + 16 ≤ _)⟩)
  dsimp only [Pt.U, Pt.locs, Pt.cells, Pt.slots] at X2 l2 y2 z2 st2 hQ2
  subst l2 y2 z2
  obtain ⟨bb2, kb2, rfl, N2q, K2, g_bb2, lt2, Fv2, Fd2, Fn2, Vb2⟩ := hQ2
  have N2 := Fr.app N0 N2q
  have ne_a1_bb2 : a1 ≠ bb2 := Nat.ne_of_lt (Nat.lt_of_lt_of_le F_planId.lt lt2)
  have ne_xa_bb2 : xa ≠ bb2 := Nat.ne_of_lt (Nat.lt_of_lt_of_le E_xa.lt lt2)
  have ne_ua_bb2 : ua ≠ bb2 := Nat.ne_of_lt (Nat.lt_of_lt_of_le V_ua.lt lt2)
  have ne_xb_bb2 : xb ≠ bb2 := Nat.ne_of_lt (Nat.lt_of_lt_of_le E_xb.lt lt2)
  have ne_ub_bb2 : ub ≠ bb2 := Nat.ne_of_lt (Nat.lt_of_lt_of_le V_ub.lt lt2)
  have ne_b1_bb2 : b1 ≠ bb2 := Nat.ne_of_lt (Nat.lt_of_lt_of_le E_b1.lt lt2)
  have sz_bb2 : h0.size ≤ bb2 := Nat.le_trans K0.1 lt2
  have S_bb2 : Safe Z EL s.vm h1 bb2 := Safe.new lt2
  obtain ⟨h2, e2⟩ : ∃ z, T2.heap = z := ⟨_, rfl⟩
  rw [e2] at K2 Fv2 Fd2 Fn2 Vb2
  have Sk3 : ∀ x ∈ [b1], Safe Z EL s.vm h1 x := (allS S_b1 all0)
  replace S_b1 := Safe.keep K2 Sk3 CR.1 S_b1
  replace S_bb2 := Safe.keep K2 Sk3 CR.1 S_bb2
  replace CR := CR.trans (CHr.keep K2 Sk3 CR.1)
  replace hk := Nat.le_trans hk K2.1
  replace Z0 := Nat.le_trans Z0 K2.1
  replace K0 := K0.trans K2 (allS (Or.inr sz_b1) all0)
  replace O0 := O0.keep K2 (allS g_b1 all0)
  replace F_planId := F_planId.keep K2 (ninS ne_a1_b1 nin0)
  replace F_section := F_section.keep K2 (ninS ne_a1_b1 nin0)
  replace E_xa := E_xa.keep K2
  replace Fc_xa := Fc_xa.keep K2 (ninS ne_xa_b1 nin0)
  replace Fv_xa := Fv_xa.keep K2 (ninS ne_xa_b1 nin0)
  replace V_ua := V_ua.keep K2 (ninS ne_ua_b1 nin0)
  replace E_xb := E_xb.keep K2
  replace Fc_xb := Fc_xb.keep K2 (ninS ne_xb_b1 nin0)
  replace Fv_xb := Fv_xb.keep K2 (ninS ne_xb_b1 nin0)
  replace V_ub := V_ub.keep K2 (ninS ne_ub_b1 nin0)
  replace E_b1 := E_b1.keep K2
  refine GoH.tr (T' := T2) (pc' := 7) (L' := #[.val (.ref a1)]) (S' := [(.ref b1)]) st2 ?_
  refine GoH.st (T' := T2) (pc' := 8) (L' := #[.val (.ref a1)]) (S' := [(.ref a1), (.ref b1)]) (fun t_ k_ => XS.aloadN X2.here hx rfl (hb hby d7_7) rfl rfl  k_) ?_
  obtain ⟨T4, X4, e4, st4⟩ := getF X2 hx hZ hown (host := "") (Or.inl (hw _ (List.mem_of_getElem? (i := 38) rfl))) Via.refl e2 F_planId (g := (mkF m 8 #[.val (.ref a1)] [(.ref a1), (.ref b1)])) rfl rfl (hb hby d7_8)
  refine GoH.st (T' := T4) (pc' := 11) (L' := #[.val (.ref a1)]) (S' := [(.ref xa), (.ref b1)]) st4 ?_
  obtain ⟨cq5, kq5, q5a, q5b, q5c⟩ := isOf hZ e4 E_b1
  obtain ⟨_, _, ⟨T5, L5, k5, n5⟩, -, X5, ⟨Lc5, hQ5, l5, y5, z5⟩, st5⟩ := X4.virtualBack hx (y := (⟨"java/lang/StringBuilder", "append", "(Ljava/lang/String;)Ljava/lang/StringBuilder;"⟩ : MethodName)) (z := (⟨"java/lang/StringBuilder", "append", "(Ljava/lang/String;)Ljava/lang/StringBuilder;"⟩ : MethodName)) hown (mvT hZ (hw _ (List.mem_of_getElem? (i := 65) rfl))) (mvT hZ (hw _ (List.mem_of_getElem? (i := 66) rfl))) (notFace_of_selects (args := #[]) (mvT hZ (hw _ (List.mem_of_getElem? (i := 68) rfl)))) (mvT hZ (hw _ (List.mem_of_getElem? (i := 68) rfl))) (mvT hZ (hw _ (List.mem_of_getElem? (i := 67) rfl))) (by decide) (backOf (W := 0) (rm10 l Z a0 hw [] b1 xa ua _ bb2 _ _ (La) (0) (na) gC h2 n0 Z0 SC PC O0 E_b1 g_b1 ne_b1_bb2 Fv2 Fd2 Vb2 Fn2 E_xa Fc_xa Fv_xa V_ua g_bb2 ne_xa_bb2 ne_ua_bb2 rfl la (by omega) ne_xa_b1 ne_ua_b1) hZ (hw _ (List.mem_of_getElem? (i := 69) rfl)) (hw _ (List.mem_of_getElem? (i := 49) rfl)) (by decide) (by decide)) q5a q5c (g := (mkF m 11 #[.val (.ref a1)] [(.ref xa), (.ref b1)])) rfl (by rw [hml]; rfl) (Steps.refl _) (argsL := [(.ref xa)]) (rest := []) (lenOf pd_19 rfl) rfl (by show 2 * 0 + _ ≤ _; exact Nat.le_of_eq rfl) (hb hby d7_11) (fun _ _ => ⟨rfl, e4, (by decide : 2 + 0 ≤ _), (by decide : 20 + 0 ≤ _)⟩)
  dsimp only [Pt.U, Pt.locs, Pt.cells, Pt.slots] at X5 l5 y5 z5 st5 hQ5
  subst l5 y5 z5
  obtain ⟨rfl, N5q, K5, Fv5, Fd5, Fn5, Vb5⟩ := hQ5
  have N5 := Fr.app N2 N5q
  obtain ⟨h5, e5⟩ : ∃ z, T5.heap = z := ⟨_, rfl⟩
  rw [e5] at K5 Fv5 Fd5 Fn5 Vb5
  have Sk6 : ∀ x ∈ [b1, bb2], Safe Z EL s.vm h2 x := (allS S_b1 (allS S_bb2 all0))
  replace S_b1 := Safe.keep K5 Sk6 CR.1 S_b1
  replace S_bb2 := Safe.keep K5 Sk6 CR.1 S_bb2
  replace CR := CR.trans (CHr.keep K5 Sk6 CR.1)
  replace hk := Nat.le_trans hk K5.1
  replace Z0 := Nat.le_trans Z0 K5.1
  replace K0 := K0.trans K5 (allS (Or.inr sz_b1) (allS (Or.inr sz_bb2) all0))
  replace O0 := O0.keep K5 (allS g_b1 (allS g_bb2 all0))
  replace F_planId := F_planId.keep K5 (ninS ne_a1_b1 (ninS ne_a1_bb2 nin0))
  replace F_section := F_section.keep K5 (ninS ne_a1_b1 (ninS ne_a1_bb2 nin0))
  replace E_xa := E_xa.keep K5
  replace Fc_xa := Fc_xa.keep K5 (ninS ne_xa_b1 (ninS ne_xa_bb2 nin0))
  replace Fv_xa := Fv_xa.keep K5 (ninS ne_xa_b1 (ninS ne_xa_bb2 nin0))
  replace V_ua := V_ua.keep K5 (ninS ne_ua_b1 (ninS ne_ua_bb2 nin0))
  replace E_xb := E_xb.keep K5
  replace Fc_xb := Fc_xb.keep K5 (ninS ne_xb_b1 (ninS ne_xb_bb2 nin0))
  replace Fv_xb := Fv_xb.keep K5 (ninS ne_xb_b1 (ninS ne_xb_bb2 nin0))
  replace V_ub := V_ub.keep K5 (ninS ne_ub_b1 (ninS ne_ub_bb2 nin0))
  replace E_b1 := E_b1.keep K5
  refine GoH.tr (T' := T5) (pc' := 14) (L' := #[.val (.ref a1)]) (S' := [(.ref b1)]) st5 ?_
  obtain ⟨a7_, T7, h7, k7, b7_, c7, X7, e7, E7, hS7, hk7, hZ7, ho7, E_a7_, Fc_a7_, Fv_a7_, V_b7_, lta7, ltb7, CR7, -, Sf7, st7⟩ := ldcCH X5 hx hZ hown (hw _ (List.mem_of_getElem? (i := 113) rfl)) (own_wS hw) e5 hS hk (own_EW hw) (by decide : ("com/example/vestry/vestry/plan/PlanSection", 23) ∈ EL) CR.1 (vs := [(.int (32 : Int32))]) (z := (1 : Int32)) ⟨by decide, by decide⟩ (by decide) rfl (g := (mkF m 14 #[.val (.ref a1)] [(.ref b1)])) rfl (hb hby d7_14) (n := 4) (by decide) (by decide) (by decide) (by decide)
  replace S_b1 := CR7.safe E_b1.lt S_b1
  replace S_bb2 := CR7.safe Vb5.lt S_bb2
  replace CR := CR.trans CR7
  replace Z0 := Nat.le_trans Z0 E7.1
  replace K0 := K0.ext E7
  replace O0 := O0.ext E7
  replace F_planId := F_planId.ext E7
  replace F_section := F_section.ext E7
  replace E_xa := E_xa.ext E7
  replace Fc_xa := Fc_xa.ext E7
  replace Fv_xa := Fv_xa.ext E7
  replace V_ua := V_ua.ext E7
  replace E_xb := E_xb.ext E7
  replace Fc_xb := Fc_xb.ext E7
  replace Fv_xb := Fv_xb.ext E7
  replace V_ub := V_ub.ext E7
  replace E_b1 := E_b1.ext E7
  replace Fv5 := Fv5.ext E7
  replace Fd5 := Fd5.ext E7
  replace Fn5 := Fn5.ext E7
  replace Vb5 := Vb5.ext E7
  replace hZ := hZ7
  replace hown := ho7
  replace hS := hS7
  replace hk := hk7
  have ne_b1_a7_ := (Sf7 _ S_b1).1
  have ne_b1_b7_ := (Sf7 _ S_b1).2
  have ne_bb2_a7_ := (Sf7 _ S_bb2).1
  have ne_bb2_b7_ := (Sf7 _ S_bb2).2
  refine GoH.st (T' := T7) (pc' := 16) (L' := #[.val (.ref a1)]) (S' := [(.ref a7_), (.ref b1)]) st7 ?_
  obtain ⟨cq8, kq8, q8a, q8b, q8c⟩ := isOf hZ e7 E_b1
  obtain ⟨_, _, ⟨T8, L8, k8, n8⟩, -, X8, ⟨Lc8, hQ8, l8, y8, z8⟩, st8⟩ := X7.virtualBack hx (y := (⟨"java/lang/StringBuilder", "append", "(Ljava/lang/String;)Ljava/lang/StringBuilder;"⟩ : MethodName)) (z := (⟨"java/lang/StringBuilder", "append", "(Ljava/lang/String;)Ljava/lang/StringBuilder;"⟩ : MethodName)) hown (mvT hZ (hw _ (List.mem_of_getElem? (i := 65) rfl))) (mvT hZ (hw _ (List.mem_of_getElem? (i := 66) rfl))) (notFace_of_selects (args := #[]) (mvT hZ (hw _ (List.mem_of_getElem? (i := 68) rfl)))) (mvT hZ (hw _ (List.mem_of_getElem? (i := 68) rfl))) (mvT hZ (hw _ (List.mem_of_getElem? (i := 67) rfl))) (by decide) (backOf (W := 0) (rm10 l Z a0 hw [] b1 a7_ b7_ _ bb2 _ _ (([(32 : Int32)] : List Int32)) ((0 + na)) (1) gC h7 n0 Z0 SC PC O0 E_b1 g_b1 ne_b1_bb2 Fv5 Fd5 Vb5 Fn5 E_a7_ Fc_a7_ Fv_a7_ V_b7_ g_bb2 (Ne.symm ne_bb2_a7_) (Ne.symm ne_bb2_b7_) (own_la rfl la) rfl (by omega) (Ne.symm ne_b1_a7_) (Ne.symm ne_b1_b7_)) hZ (hw _ (List.mem_of_getElem? (i := 69) rfl)) (hw _ (List.mem_of_getElem? (i := 49) rfl)) (by decide) (by decide)) q8a q8c (g := (mkF m 16 #[.val (.ref a1)] [(.ref a7_), (.ref b1)])) rfl (by rw [hml]; rfl) (Steps.refl _) (argsL := [(.ref a7_)]) (rest := []) (lenOf pd_19 rfl) rfl (by show 2 * 0 + _ ≤ _; exact Nat.le_of_eq rfl) (hb hby d7_16) (fun _ _ => ⟨rfl, e7, (by decide : 4 + 0 ≤ _), (by decide : 28 + 0 ≤ _)⟩)
  dsimp only [Pt.U, Pt.locs, Pt.cells, Pt.slots] at X8 l8 y8 z8 st8 hQ8
  subst l8 y8 z8
  obtain ⟨rfl, N8q, K8, Fv8, Fd8, Fn8, Vb8⟩ := hQ8
  have N8 := Fr.app N5 N8q
  obtain ⟨h8, e8⟩ : ∃ z, T8.heap = z := ⟨_, rfl⟩
  rw [e8] at K8 Fv8 Fd8 Fn8 Vb8
  have Sk9 : ∀ x ∈ [b1, bb2], Safe Z EL T7.vm h7 x := (allS S_b1 (allS S_bb2 all0))
  replace S_b1 := Safe.keep K8 Sk9 CR.1 S_b1
  replace S_bb2 := Safe.keep K8 Sk9 CR.1 S_bb2
  replace CR := CR.trans (CHr.keep K8 Sk9 CR.1)
  replace hk := Nat.le_trans hk K8.1
  replace Z0 := Nat.le_trans Z0 K8.1
  replace K0 := K0.trans K8 (allS (Or.inr sz_b1) (allS (Or.inr sz_bb2) all0))
  replace O0 := O0.keep K8 (allS g_b1 (allS g_bb2 all0))
  replace F_planId := F_planId.keep K8 (ninS ne_a1_b1 (ninS ne_a1_bb2 nin0))
  replace F_section := F_section.keep K8 (ninS ne_a1_b1 (ninS ne_a1_bb2 nin0))
  replace E_xa := E_xa.keep K8
  replace Fc_xa := Fc_xa.keep K8 (ninS ne_xa_b1 (ninS ne_xa_bb2 nin0))
  replace Fv_xa := Fv_xa.keep K8 (ninS ne_xa_b1 (ninS ne_xa_bb2 nin0))
  replace V_ua := V_ua.keep K8 (ninS ne_ua_b1 (ninS ne_ua_bb2 nin0))
  replace E_xb := E_xb.keep K8
  replace Fc_xb := Fc_xb.keep K8 (ninS ne_xb_b1 (ninS ne_xb_bb2 nin0))
  replace Fv_xb := Fv_xb.keep K8 (ninS ne_xb_b1 (ninS ne_xb_bb2 nin0))
  replace V_ub := V_ub.keep K8 (ninS ne_ub_b1 (ninS ne_ub_bb2 nin0))
  replace E_b1 := E_b1.keep K8
  replace E_a7_ := E_a7_.keep K8
  replace Fc_a7_ := Fc_a7_.keep K8 (ninS (Ne.symm ne_b1_a7_) (ninS (Ne.symm ne_bb2_a7_) nin0))
  replace Fv_a7_ := Fv_a7_.keep K8 (ninS (Ne.symm ne_b1_a7_) (ninS (Ne.symm ne_bb2_a7_) nin0))
  replace V_b7_ := V_b7_.keep K8 (ninS (Ne.symm ne_b1_b7_) (ninS (Ne.symm ne_bb2_b7_) nin0))
  refine GoH.tr (T' := T8) (pc' := 19) (L' := #[.val (.ref a1)]) (S' := [(.ref b1)]) st8 ?_
  refine GoH.st (T' := T8) (pc' := 20) (L' := #[.val (.ref a1)]) (S' := [(.ref a1), (.ref b1)]) (fun t_ k_ => XS.aloadN X8.here hx rfl (hb hby d7_19) rfl rfl  k_) ?_
  obtain ⟨T10, X10, e10, st10⟩ := getF X8 hx hZ hown (host := "") (Or.inl (hw _ (List.mem_of_getElem? (i := 40) rfl))) Via.refl e8 F_section (g := (mkF m 20 #[.val (.ref a1)] [(.ref a1), (.ref b1)])) rfl rfl (hb hby d7_20)
  refine GoH.st (T' := T10) (pc' := 23) (L' := #[.val (.ref a1)]) (S' := [(.ref xb), (.ref b1)]) st10 ?_
  obtain ⟨cq11, kq11, q11a, q11b, q11c⟩ := isOf hZ e10 E_b1
  obtain ⟨_, _, ⟨T11, L11, k11, n11⟩, -, X11, ⟨Lc11, hQ11, l11, y11, z11⟩, st11⟩ := X10.virtualBack hx (y := (⟨"java/lang/StringBuilder", "append", "(Ljava/lang/String;)Ljava/lang/StringBuilder;"⟩ : MethodName)) (z := (⟨"java/lang/StringBuilder", "append", "(Ljava/lang/String;)Ljava/lang/StringBuilder;"⟩ : MethodName)) hown (mvT hZ (hw _ (List.mem_of_getElem? (i := 65) rfl))) (mvT hZ (hw _ (List.mem_of_getElem? (i := 66) rfl))) (notFace_of_selects (args := #[]) (mvT hZ (hw _ (List.mem_of_getElem? (i := 68) rfl)))) (mvT hZ (hw _ (List.mem_of_getElem? (i := 68) rfl))) (mvT hZ (hw _ (List.mem_of_getElem? (i := 67) rfl))) (by decide) (backOf (W := 0) (rm10 l Z a0 hw [] b1 xb ub _ bb2 _ _ (Lb) (((0 + na) + 1)) (nb) gC h8 n0 Z0 SC PC O0 E_b1 g_b1 ne_b1_bb2 Fv8 Fd8 Vb8 Fn8 E_xb Fc_xb Fv_xb V_ub g_bb2 ne_xb_bb2 ne_ub_bb2 (own_la (own_la rfl la) rfl) lb (by omega) ne_xb_b1 ne_ub_b1) hZ (hw _ (List.mem_of_getElem? (i := 69) rfl)) (hw _ (List.mem_of_getElem? (i := 49) rfl)) (by decide) (by decide)) q11a q11c (g := (mkF m 23 #[.val (.ref a1)] [(.ref xb), (.ref b1)])) rfl (by rw [hml]; rfl) (Steps.refl _) (argsL := [(.ref xb)]) (rest := []) (lenOf pd_19 rfl) rfl (by show 2 * 0 + _ ≤ _; exact Nat.le_of_eq rfl) (hb hby d7_23) (fun _ _ => ⟨rfl, e10, (by decide : 4 + 0 ≤ _), (by decide : 28 + 0 ≤ _)⟩)
  dsimp only [Pt.U, Pt.locs, Pt.cells, Pt.slots] at X11 l11 y11 z11 st11 hQ11
  subst l11 y11 z11
  obtain ⟨rfl, N11q, K11, Fv11, Fd11, Fn11, Vb11⟩ := hQ11
  have N11 := Fr.app N8 N11q
  obtain ⟨h11, e11⟩ : ∃ z, T11.heap = z := ⟨_, rfl⟩
  rw [e11] at K11 Fv11 Fd11 Fn11 Vb11
  have Sk12 : ∀ x ∈ [b1, bb2], Safe Z EL T7.vm h8 x := (allS S_b1 (allS S_bb2 all0))
  replace S_b1 := Safe.keep K11 Sk12 CR.1 S_b1
  replace S_bb2 := Safe.keep K11 Sk12 CR.1 S_bb2
  replace CR := CR.trans (CHr.keep K11 Sk12 CR.1)
  replace hk := Nat.le_trans hk K11.1
  replace Z0 := Nat.le_trans Z0 K11.1
  replace K0 := K0.trans K11 (allS (Or.inr sz_b1) (allS (Or.inr sz_bb2) all0))
  replace O0 := O0.keep K11 (allS g_b1 (allS g_bb2 all0))
  replace F_planId := F_planId.keep K11 (ninS ne_a1_b1 (ninS ne_a1_bb2 nin0))
  replace F_section := F_section.keep K11 (ninS ne_a1_b1 (ninS ne_a1_bb2 nin0))
  replace E_xa := E_xa.keep K11
  replace Fc_xa := Fc_xa.keep K11 (ninS ne_xa_b1 (ninS ne_xa_bb2 nin0))
  replace Fv_xa := Fv_xa.keep K11 (ninS ne_xa_b1 (ninS ne_xa_bb2 nin0))
  replace V_ua := V_ua.keep K11 (ninS ne_ua_b1 (ninS ne_ua_bb2 nin0))
  replace E_xb := E_xb.keep K11
  replace Fc_xb := Fc_xb.keep K11 (ninS ne_xb_b1 (ninS ne_xb_bb2 nin0))
  replace Fv_xb := Fv_xb.keep K11 (ninS ne_xb_b1 (ninS ne_xb_bb2 nin0))
  replace V_ub := V_ub.keep K11 (ninS ne_ub_b1 (ninS ne_ub_bb2 nin0))
  replace E_b1 := E_b1.keep K11
  replace E_a7_ := E_a7_.keep K11
  replace Fc_a7_ := Fc_a7_.keep K11 (ninS (Ne.symm ne_b1_a7_) (ninS (Ne.symm ne_bb2_a7_) nin0))
  replace Fv_a7_ := Fv_a7_.keep K11 (ninS (Ne.symm ne_b1_a7_) (ninS (Ne.symm ne_bb2_a7_) nin0))
  replace V_b7_ := V_b7_.keep K11 (ninS (Ne.symm ne_b1_b7_) (ninS (Ne.symm ne_bb2_b7_) nin0))
  refine GoH.tr (T' := T11) (pc' := 26) (L' := #[.val (.ref a1)]) (S' := [(.ref b1)]) st11 ?_
  obtain ⟨cq13, kq13, q13a, q13b, q13c⟩ := isOf hZ e11 E_b1
  obtain ⟨_, _, ⟨T13, L13, k13, n13⟩, -, X13, ⟨Lc13, hQ13, l13, y13, z13⟩, st13⟩ := X11.virtualBack hx (y := (⟨"java/lang/StringBuilder", "toString", "()Ljava/lang/String;"⟩ : MethodName)) (z := (⟨"java/lang/StringBuilder", "toString", "()Ljava/lang/String;"⟩ : MethodName)) hown (mvT hZ (hw _ (List.mem_of_getElem? (i := 114) rfl))) (mvT hZ (hw _ (List.mem_of_getElem? (i := 115) rfl))) (notFace_of_selects (args := #[]) (mvT hZ (hw _ (List.mem_of_getElem? (i := 117) rfl)))) (mvT hZ (hw _ (List.mem_of_getElem? (i := 117) rfl))) (mvT hZ (hw _ (List.mem_of_getElem? (i := 116) rfl))) (by decide) (backOf (W := 0) (rm18 l Z a0 hw [] b1 bb2 _ _ ((((0 + na) + 1) + nb)) gC h11 n0 Z0 SC PC O0 E_b1 Fv11 Fd11 Fn11 Vb11 (own_la (own_la (own_la rfl la) rfl) lb) (by omega)) hZ (hw _ (List.mem_of_getElem? (i := 118) rfl)) (hw _ (List.mem_of_getElem? (i := 49) rfl)) (by decide) (by decide)) q13a q13c (g := (mkF m 26 #[.val (.ref a1)] [(.ref b1)])) rfl (by rw [hml]; rfl) (Steps.refl _) (argsL := []) (rest := []) (lenOf pd_20 rfl) rfl (by show 2 * 0 + _ ≤ _; exact Nat.le_of_eq rfl) (hb hby d7_26) (fun _ _ => ⟨rfl, e11, (by decide : 4 + 2 ≤ _), (by decide : 28 + 20 ≤ _)⟩)
  dsimp only [Pt.U, Pt.locs, Pt.cells, Pt.slots] at X13 l13 y13 z13 st13 hQ13
  subst l13 y13 z13
  obtain ⟨r13_, tr13_, kt13, rfl, N13q, K13, g_r13_, lt13, Er13, Co13, Va13, Vt13⟩ := hQ13
  have N13 := Fr.app N11 N13q
  have ne_a1_r13_ : a1 ≠ r13_ := Nat.ne_of_lt (Nat.lt_of_lt_of_le F_planId.lt lt13)
  have ne_xa_r13_ : xa ≠ r13_ := Nat.ne_of_lt (Nat.lt_of_lt_of_le E_xa.lt lt13)
  have ne_ua_r13_ : ua ≠ r13_ := Nat.ne_of_lt (Nat.lt_of_lt_of_le V_ua.lt lt13)
  have ne_xb_r13_ : xb ≠ r13_ := Nat.ne_of_lt (Nat.lt_of_lt_of_le E_xb.lt lt13)
  have ne_ub_r13_ : ub ≠ r13_ := Nat.ne_of_lt (Nat.lt_of_lt_of_le V_ub.lt lt13)
  have ne_b1_r13_ : b1 ≠ r13_ := Nat.ne_of_lt (Nat.lt_of_lt_of_le E_b1.lt lt13)
  have ne_a7__r13_ : a7_ ≠ r13_ := Nat.ne_of_lt (Nat.lt_of_lt_of_le E_a7_.lt lt13)
  have ne_b7__r13_ : b7_ ≠ r13_ := Nat.ne_of_lt (Nat.lt_of_lt_of_le V_b7_.lt lt13)
  have ne_bb2_r13_ : bb2 ≠ r13_ := Nat.ne_of_lt (Nat.lt_of_lt_of_le Vb11.lt lt13)
  have sz_r13_ : h0.size ≤ r13_ := Nat.le_trans K0.1 lt13
  obtain ⟨h13, e13⟩ : ∃ z, T13.heap = z := ⟨_, rfl⟩
  rw [e13] at K13 Er13 Co13 Va13 Vt13
  have Sk14 : ∀ x ∈ [], Safe Z EL T7.vm h11 x := all0
  replace S_b1 := Safe.keep K13 Sk14 CR.1 S_b1
  replace S_bb2 := Safe.keep K13 Sk14 CR.1 S_bb2
  replace CR := CR.trans (CHr.keep K13 Sk14 CR.1)
  replace hk := Nat.le_trans hk K13.1
  replace Z0 := Nat.le_trans Z0 K13.1
  replace K0 := K0.trans K13 all0
  replace O0 := O0.keep K13 all0
  replace F_planId := F_planId.keep K13 nin0
  replace F_section := F_section.keep K13 nin0
  replace E_xa := E_xa.keep K13
  replace Fc_xa := Fc_xa.keep K13 nin0
  replace Fv_xa := Fv_xa.keep K13 nin0
  replace V_ua := V_ua.keep K13 nin0
  replace E_xb := E_xb.keep K13
  replace Fc_xb := Fc_xb.keep K13 nin0
  replace Fv_xb := Fv_xb.keep K13 nin0
  replace V_ub := V_ub.keep K13 nin0
  replace E_b1 := E_b1.keep K13
  replace E_a7_ := E_a7_.keep K13
  replace Fc_a7_ := Fc_a7_.keep K13 nin0
  replace Fv_a7_ := Fv_a7_.keep K13 nin0
  replace V_b7_ := V_b7_.keep K13 nin0
  replace Fv11 := Fv11.keep K13 nin0
  replace Fd11 := Fd11.keep K13 nin0
  replace Fn11 := Fn11.keep K13 nin0
  replace Vb11 := Vb11.keep K13 nin0
  refine GoH.tr (T' := T13) (pc' := 29) (L' := #[.val (.ref a1)]) (S' := [(.ref r13_)]) st13 ?_
  exact GoH.retO X13 hx hlk hret rfl (by simp [FieldType.isReference, Value.isRef]) (hb hby d7_29) (by decide) (by decide) hS hk e13 hs0 hZ (own_EW hw) CR (by rw [e13]; exact ⟨r13_, tr13_, _, rfl, N13, K0, g_r13_, sz_r13_, Er13, Co13, Va13, Vt13⟩)
theorem d29_0 : decode method_4_code 0 = .ok (.aload_n 1, 1) := by decide +kernel
theorem d29_1 : decode method_4_code 1 = .ok (.invokevirtual 24, 3) := by decide +kernel
theorem d29_4 : decode method_4_code 4 = .ok (.istore_n 3, 1) := by decide +kernel
theorem d29_5 : decode method_4_code 5 = .ok (.iload_n 3, 1) := by decide +kernel
theorem d29_6 : decode method_4_code 6 = .ok (.ifCond .le 18, 3) := by decide +kernel
theorem d29_24 : decode method_4_code 24 = .ok (.iload_n 3, 1) := by decide +kernel
theorem d29_25 : decode method_4_code 25 = .ok (.iconst 1, 1) := by decide +kernel
theorem d29_26 : decode method_4_code 26 = .ok (.if_icmp .le 20, 3) := by decide +kernel
theorem d29_46 : decode method_4_code 46 = .ok (.iload_n 3, 1) := by decide +kernel
theorem d29_47 : decode method_4_code 47 = .ok (.iconst 2, 1) := by decide +kernel
theorem d29_48 : decode method_4_code 48 = .ok (.if_icmp .le 20, 3) := by decide +kernel
theorem d29_68 : decode method_4_code 68 = .ok (.iload_n 3, 1) := by decide +kernel
theorem d29_69 : decode method_4_code 69 = .ok (.iconst 3, 1) := by decide +kernel
theorem d29_70 : decode method_4_code 70 = .ok (.if_icmp .le 20, 3) := by decide +kernel
theorem d29_90 : decode method_4_code 90 = .ok (.iconst 1, 1) := by decide +kernel
theorem d29_91 : decode method_4_code 91 = .ok (.ireturn, 1) := by decide +kernel
theorem pd_21 : parseMethodDescriptor "(I)C" = some ⟨[.int], some .char⟩ := by decide +kernel
theorem pn_8 : plainName "com/example/vestry/vestry/plan/PlanSectionToStringPinLaw" = true := by first | (simp [plainName, overriddenIn]; done) | decide +kernel
def Qpre0 (Z : State)  (h0 : Heap) (n0 : Nat) (v : Option Value) (h : Heap) (L : List Loc) : Prop := v = some (.int 1) ∧ Fr n0 L ∧ h = h0
def roompre0 : Room := { frames := 4, cells := 0, slots := 0, locals := 54 }
set_option maxRecDepth 65536 in
set_option maxHeartbeats 40000000 in
theorem rmpre0 (l : Launch) (Z : State) (a0 : Array Value) (hw : ∀ d ∈ tables_1, d.before a0 Z = true) (ws : List Jvm.Cond) (a1 : Addr) (t1 : Addr) (k1 : ClassId) (rs : List Int32) (rn : Nat) (a2 : Addr) (t2 : Addr) (k2 : ClassId) (ss : List Int32) (o : Nat) (fm : Value) (gC : Int32) (h0 : Heap) (n0 : Nat) (Z0 : n0 ≤ h0.size) (SC : Sta Z Z.heap "java/lang/String" "COMPACT_STRINGS" "Z" (.int gC)) (PC : ¬ (gC = (0 : Int32))) (O0 : Old Z n0 h0) (hfm : fm.isRef = true) (SF : Sta Z Z.heap "jdk/internal/util/Preconditions" "SIOOBE_FORMATTER" "Ljava/util/function/BiFunction;" fm) (E_a1 : Exa Z h0 a1 "java/lang/String") (Fc_a1 : Fld Z h0 a1 "java/lang/String" "coder" "B" (.int (0 : Int32))) (Fv_a1 : Fld Z h0 a1 "java/lang/String" "value" "[B" (.ref t1)) (V_t1 : Arv Z h0 t1 k1 .byte (rn.toInt32) (rs.map Value.int) (.int (0 : Int32))) (E_a2 : Exa Z h0 a2 "java/lang/String") (Fc_a2 : Fld Z h0 a2 "java/lang/String" "coder" "B" (.int (0 : Int32))) (Fv_a2 : Fld Z h0 a2 "java/lang/String" "value" "[B" (.ref t2)) (V_t2 : Arv Z h0 t2 k2 .byte (0 : Int32) (ss.map Value.int) (.int (0 : Int32))) (hr : rs.length = rn) (hrn : rn ≤ 16) (hs : ss.length = 0) (ho : o + 0 ≤ rn) (hj : ∀ j, j < 0 → rs.getD (o + j) 0 = ss.getD j 0) :
    MetFree l (⟨"com/example/vestry/vestry/plan/PlanSectionToStringPinLaw", "pre", "(Ljava/lang/String;Ljava/lang/String;I)Z"⟩ : MethodName) (head1 (Jvm.Cond.code (⟨"com/example/vestry/vestry/plan/PlanSectionToStringPinLaw", "pre", "(Ljava/lang/String;Ljava/lang/String;I)Z"⟩ : MethodName) method_4_code 4 (some .boolean) :: ws) roompre0) (fun aa_ U_ => aa_ = #[(.ref a1), (.ref a2), (.int (o.toInt32))] ∧ Z.Warmed39 U_.vm ∧ U_.heap = h0) (fun _ _ _ _ _ => True) (fun _ U_ o_ W_ => ∃ v_ L_, o_ = .returned v_ ∧ (Qpre0 Z  h0 n0) v_ W_.heap L_ ∧ FrameEnd U_ o_ W_ L_ roompre0.cells roompre0.slots) := by
  refine own_met (Q := (Qpre0 Z  h0 n0)) (L0 := #[.val (.ref a1), .val (.ref a2), .val (.int (o.toInt32)), .unset]) (plainFor_of_name pn_8) (fun m => by first | (simp [entryFrame, mkF, argsToLocals, Value.category]; done) | rfl) ?_
  intro p e s m below meth c T0 X0 hx hby hml hown hnm hret hlk hZ e0
  have N0 := Fr.nil n0
  refine Go.st (T' := T0) (pc' := 1) (L' := #[.val (.ref a1), .val (.ref a2), .val (.int (o.toInt32)), .unset]) (S' := [(.ref a2)]) (fun t_ k_ => XS.aloadN X0.here hx rfl (hb hby d29_0) rfl rfl  k_) ?_
  obtain ⟨cq1, kq1, q1a, q1b, q1c⟩ := isOf hZ e0 E_a2
  obtain ⟨_, _, ⟨T1, L1, k1, n1⟩, -, X1, ⟨Lc1, hQ1, l1, y1, z1⟩, st1⟩ := X0.virtualBack hx (y := (⟨"java/lang/String", "length", "()I"⟩ : MethodName)) (z := (⟨"java/lang/String", "length", "()I"⟩ : MethodName)) hown (mvT hZ (hw _ (List.mem_of_getElem? (i := 159) rfl))) (mvT hZ (hw _ (List.mem_of_getElem? (i := 76) rfl))) (notFace_of_selects (args := #[]) (mvT hZ (hw _ (List.mem_of_getElem? (i := 78) rfl)))) (mvT hZ (hw _ (List.mem_of_getElem? (i := 78) rfl))) (mvT hZ (hw _ (List.mem_of_getElem? (i := 77) rfl))) (by decide) (backOf (W := 0) (rm12 l Z a0 hw [] a2 t2 _ gC (0 : Int32) (ss) h0 n0 Z0 SC PC O0 E_a2 Fc_a2 Fv_a2 V_t2) hZ (hw _ (List.mem_of_getElem? (i := 79) rfl)) (hw _ (List.mem_of_getElem? (i := 6) rfl)) (by decide) (by decide)) q1a q1c (g := (mkF m 1 #[.val (.ref a1), .val (.ref a2), .val (.int (o.toInt32)), .unset] [(.ref a2)])) rfl (by rw [hml]; rfl) (Steps.refl _) (argsL := []) (rest := []) (lenOf pd_4 rfl) rfl (by show 2 * 0 + _ ≤ _; exact Nat.le_of_eq rfl) (hb hby d29_1) (fun _ _ => ⟨rfl, e0, (by decide : 0 + 0 ≤ _), (by decide : 0 + 0 ≤ _)⟩)
  dsimp only [Pt.U, Pt.locs, Pt.cells, Pt.slots] at X1 l1 y1 z1 st1 hQ1
  subst l1 y1 z1
  obtain ⟨rfl, N1q, e1⟩ := hQ1
  have N1 := Fr.app N0 N1q
  refine Go.tr (T' := T1) (pc' := 4) (L' := #[.val (.ref a1), .val (.ref a2), .val (.int (o.toInt32)), .unset]) (S' := [(.int (0 : Int32))]) st1 ?_
  refine Go.st (T' := T1) (pc' := 5) (L' := #[.val (.ref a1), .val (.ref a2), .val (.int (o.toInt32)), .val (.int (0 : Int32))]) (S' := []) (fun t_ k_ => XS.istoreN X1.here hx rfl (hb hby d29_4) rfl (l' := #[.val (.ref a1), .val (.ref a2), .val (.int (o.toInt32)), .val (.int (0 : Int32))]) rfl k_) ?_
  refine Go.st (T' := T1) (pc' := 6) (L' := #[.val (.ref a1), .val (.ref a2), .val (.int (o.toInt32)), .val (.int (0 : Int32))]) (S' := [(.int (0 : Int32))]) (fun t_ k_ => XS.iloadN X1.here hx rfl (hb hby d29_5) rfl  k_) ?_
  refine Go.st (T' := T1) (pc' := 24) (L' := #[.val (.ref a1), .val (.ref a2), .val (.int (o.toInt32)), .val (.int (0 : Int32))]) (S' := []) (fun t_ k_ => XS.ifYes X1.here hx rfl (pc0 := 6) (pc' := 24) rfl (hb hby d29_6) rfl ((if0 _ _).trans (flt (by decide : ¬ ((0 : Int32) < (0 : Int32)))).2.2.2) (by decide) (by decide) k_) ?_
  refine Go.st (T' := T1) (pc' := 25) (L' := #[.val (.ref a1), .val (.ref a2), .val (.int (o.toInt32)), .val (.int (0 : Int32))]) (S' := [(.int (0 : Int32))]) (fun t_ k_ => XS.iloadN X1.here hx rfl (hb hby d29_24) rfl  k_) ?_
  refine Go.st (T' := T1) (pc' := 26) (L' := #[.val (.ref a1), .val (.ref a2), .val (.int (o.toInt32)), .val (.int (0 : Int32))]) (S' := [(.int (1 : Int32)), (.int (0 : Int32))]) (fun t_ k_ => XS.iconst X1.here hx rfl (hb hby d29_25) k_) ?_
  refine Go.st (T' := T1) (pc' := 46) (L' := #[.val (.ref a1), .val (.ref a2), .val (.int (o.toInt32)), .val (.int (0 : Int32))]) (S' := []) (fun t_ k_ => XS.icmpYes X1.here hx rfl (pc0 := 26) (pc' := 46) rfl (hb hby d29_26) rfl (flt (by decide : ¬ ((1 : Int32) < (0 : Int32)))).2.2.2 (by decide) (by decide) k_) ?_
  refine Go.st (T' := T1) (pc' := 47) (L' := #[.val (.ref a1), .val (.ref a2), .val (.int (o.toInt32)), .val (.int (0 : Int32))]) (S' := [(.int (0 : Int32))]) (fun t_ k_ => XS.iloadN X1.here hx rfl (hb hby d29_46) rfl  k_) ?_
  refine Go.st (T' := T1) (pc' := 48) (L' := #[.val (.ref a1), .val (.ref a2), .val (.int (o.toInt32)), .val (.int (0 : Int32))]) (S' := [(.int (2 : Int32)), (.int (0 : Int32))]) (fun t_ k_ => XS.iconst X1.here hx rfl (hb hby d29_47) k_) ?_
  refine Go.st (T' := T1) (pc' := 68) (L' := #[.val (.ref a1), .val (.ref a2), .val (.int (o.toInt32)), .val (.int (0 : Int32))]) (S' := []) (fun t_ k_ => XS.icmpYes X1.here hx rfl (pc0 := 48) (pc' := 68) rfl (hb hby d29_48) rfl (flt (by decide : ¬ ((2 : Int32) < (0 : Int32)))).2.2.2 (by decide) (by decide) k_) ?_
  refine Go.st (T' := T1) (pc' := 69) (L' := #[.val (.ref a1), .val (.ref a2), .val (.int (o.toInt32)), .val (.int (0 : Int32))]) (S' := [(.int (0 : Int32))]) (fun t_ k_ => XS.iloadN X1.here hx rfl (hb hby d29_68) rfl  k_) ?_
  refine Go.st (T' := T1) (pc' := 70) (L' := #[.val (.ref a1), .val (.ref a2), .val (.int (o.toInt32)), .val (.int (0 : Int32))]) (S' := [(.int (3 : Int32)), (.int (0 : Int32))]) (fun t_ k_ => XS.iconst X1.here hx rfl (hb hby d29_69) k_) ?_
  refine Go.st (T' := T1) (pc' := 90) (L' := #[.val (.ref a1), .val (.ref a2), .val (.int (o.toInt32)), .val (.int (0 : Int32))]) (S' := []) (fun t_ k_ => XS.icmpYes X1.here hx rfl (pc0 := 70) (pc' := 90) rfl (hb hby d29_70) rfl (flt (by decide : ¬ ((3 : Int32) < (0 : Int32)))).2.2.2 (by decide) (by decide) k_) ?_
  refine Go.st (T' := T1) (pc' := 91) (L' := #[.val (.ref a1), .val (.ref a2), .val (.int (o.toInt32)), .val (.int (0 : Int32))]) (S' := [(.int (1 : Int32))]) (fun t_ k_ => XS.iconst X1.here hx rfl (hb hby d29_90) k_) ?_
  exact Go.retN X1 hx hlk hret (by simp) (hb hby d29_91) (by decide) (by decide) (by rw [e1]; exact ⟨rfl, N1, rfl⟩)
theorem d29_9 : decode method_4_code 9 = .ok (.aload_n 0, 1) := by decide +kernel
theorem d29_10 : decode method_4_code 10 = .ok (.iload_n 2, 1) := by decide +kernel
theorem d29_11 : decode method_4_code 11 = .ok (.invokevirtual 34, 3) := by decide +kernel
theorem d29_14 : decode method_4_code 14 = .ok (.aload_n 1, 1) := by decide +kernel
theorem d29_15 : decode method_4_code 15 = .ok (.iconst 0, 1) := by decide +kernel
theorem d29_16 : decode method_4_code 16 = .ok (.invokevirtual 34, 3) := by decide +kernel
theorem d29_19 : decode method_4_code 19 = .ok (.if_icmp .eq 5, 3) := by decide +kernel
def Qpre1 (Z : State)  (h0 : Heap) (n0 : Nat) (v : Option Value) (h : Heap) (L : List Loc) : Prop := v = some (.int 1) ∧ Fr n0 L ∧ h = h0
def roompre1 : Room := { frames := 4, cells := 0, slots := 0, locals := 54 }
set_option maxRecDepth 65536 in
set_option maxHeartbeats 40000000 in
theorem rmpre1 (l : Launch) (Z : State) (a0 : Array Value) (hw : ∀ d ∈ tables_1, d.before a0 Z = true) (ws : List Jvm.Cond) (a1 : Addr) (t1 : Addr) (k1 : ClassId) (rs : List Int32) (rn : Nat) (a2 : Addr) (t2 : Addr) (k2 : ClassId) (ss : List Int32) (o : Nat) (fm : Value) (gC : Int32) (h0 : Heap) (n0 : Nat) (Z0 : n0 ≤ h0.size) (SC : Sta Z Z.heap "java/lang/String" "COMPACT_STRINGS" "Z" (.int gC)) (PC : ¬ (gC = (0 : Int32))) (O0 : Old Z n0 h0) (hfm : fm.isRef = true) (SF : Sta Z Z.heap "jdk/internal/util/Preconditions" "SIOOBE_FORMATTER" "Ljava/util/function/BiFunction;" fm) (E_a1 : Exa Z h0 a1 "java/lang/String") (Fc_a1 : Fld Z h0 a1 "java/lang/String" "coder" "B" (.int (0 : Int32))) (Fv_a1 : Fld Z h0 a1 "java/lang/String" "value" "[B" (.ref t1)) (V_t1 : Arv Z h0 t1 k1 .byte (rn.toInt32) (rs.map Value.int) (.int (0 : Int32))) (E_a2 : Exa Z h0 a2 "java/lang/String") (Fc_a2 : Fld Z h0 a2 "java/lang/String" "coder" "B" (.int (0 : Int32))) (Fv_a2 : Fld Z h0 a2 "java/lang/String" "value" "[B" (.ref t2)) (V_t2 : Arv Z h0 t2 k2 .byte (1 : Int32) (ss.map Value.int) (.int (0 : Int32))) (hr : rs.length = rn) (hrn : rn ≤ 16) (hs : ss.length = 1) (ho : o + 1 ≤ rn) (hj : ∀ j, j < 1 → rs.getD (o + j) 0 = ss.getD j 0) :
    MetFree l (⟨"com/example/vestry/vestry/plan/PlanSectionToStringPinLaw", "pre", "(Ljava/lang/String;Ljava/lang/String;I)Z"⟩ : MethodName) (head1 (Jvm.Cond.code (⟨"com/example/vestry/vestry/plan/PlanSectionToStringPinLaw", "pre", "(Ljava/lang/String;Ljava/lang/String;I)Z"⟩ : MethodName) method_4_code 4 (some .boolean) :: ws) roompre1) (fun aa_ U_ => aa_ = #[(.ref a1), (.ref a2), (.int (o.toInt32))] ∧ Z.Warmed39 U_.vm ∧ U_.heap = h0) (fun _ _ _ _ _ => True) (fun _ U_ o_ W_ => ∃ v_ L_, o_ = .returned v_ ∧ (Qpre1 Z  h0 n0) v_ W_.heap L_ ∧ FrameEnd U_ o_ W_ L_ roompre1.cells roompre1.slots) := by
  refine own_met (Q := (Qpre1 Z  h0 n0)) (L0 := #[.val (.ref a1), .val (.ref a2), .val (.int (o.toInt32)), .unset]) (plainFor_of_name pn_8) (fun m => by first | (simp [entryFrame, mkF, argsToLocals, Value.category]; done) | rfl) ?_
  intro p e s m below meth c T0 X0 hx hby hml hown hnm hret hlk hZ e0
  have N0 := Fr.nil n0
  refine Go.st (T' := T0) (pc' := 1) (L' := #[.val (.ref a1), .val (.ref a2), .val (.int (o.toInt32)), .unset]) (S' := [(.ref a2)]) (fun t_ k_ => XS.aloadN X0.here hx rfl (hb hby d29_0) rfl rfl  k_) ?_
  obtain ⟨cq1, kq1, q1a, q1b, q1c⟩ := isOf hZ e0 E_a2
  obtain ⟨_, _, ⟨T1, L1, k1, n1⟩, -, X1, ⟨Lc1, hQ1, l1, y1, z1⟩, st1⟩ := X0.virtualBack hx (y := (⟨"java/lang/String", "length", "()I"⟩ : MethodName)) (z := (⟨"java/lang/String", "length", "()I"⟩ : MethodName)) hown (mvT hZ (hw _ (List.mem_of_getElem? (i := 159) rfl))) (mvT hZ (hw _ (List.mem_of_getElem? (i := 76) rfl))) (notFace_of_selects (args := #[]) (mvT hZ (hw _ (List.mem_of_getElem? (i := 78) rfl)))) (mvT hZ (hw _ (List.mem_of_getElem? (i := 78) rfl))) (mvT hZ (hw _ (List.mem_of_getElem? (i := 77) rfl))) (by decide) (backOf (W := 0) (rm12 l Z a0 hw [] a2 t2 _ gC (1 : Int32) (ss) h0 n0 Z0 SC PC O0 E_a2 Fc_a2 Fv_a2 V_t2) hZ (hw _ (List.mem_of_getElem? (i := 79) rfl)) (hw _ (List.mem_of_getElem? (i := 6) rfl)) (by decide) (by decide)) q1a q1c (g := (mkF m 1 #[.val (.ref a1), .val (.ref a2), .val (.int (o.toInt32)), .unset] [(.ref a2)])) rfl (by rw [hml]; rfl) (Steps.refl _) (argsL := []) (rest := []) (lenOf pd_4 rfl) rfl (by show 2 * 0 + _ ≤ _; exact Nat.le_of_eq rfl) (hb hby d29_1) (fun _ _ => ⟨rfl, e0, (by decide : 0 + 0 ≤ _), (by decide : 0 + 0 ≤ _)⟩)
  dsimp only [Pt.U, Pt.locs, Pt.cells, Pt.slots] at X1 l1 y1 z1 st1 hQ1
  subst l1 y1 z1
  obtain ⟨rfl, N1q, e1⟩ := hQ1
  have N1 := Fr.app N0 N1q
  refine Go.tr (T' := T1) (pc' := 4) (L' := #[.val (.ref a1), .val (.ref a2), .val (.int (o.toInt32)), .unset]) (S' := [(.int (1 : Int32))]) st1 ?_
  refine Go.st (T' := T1) (pc' := 5) (L' := #[.val (.ref a1), .val (.ref a2), .val (.int (o.toInt32)), .val (.int (1 : Int32))]) (S' := []) (fun t_ k_ => XS.istoreN X1.here hx rfl (hb hby d29_4) rfl (l' := #[.val (.ref a1), .val (.ref a2), .val (.int (o.toInt32)), .val (.int (1 : Int32))]) rfl k_) ?_
  refine Go.st (T' := T1) (pc' := 6) (L' := #[.val (.ref a1), .val (.ref a2), .val (.int (o.toInt32)), .val (.int (1 : Int32))]) (S' := [(.int (1 : Int32))]) (fun t_ k_ => XS.iloadN X1.here hx rfl (hb hby d29_5) rfl  k_) ?_
  refine Go.st (T' := T1) (pc' := 9) (L' := #[.val (.ref a1), .val (.ref a2), .val (.int (o.toInt32)), .val (.int (1 : Int32))]) (S' := []) (fun t_ k_ => XS.ifNo X1.here hx rfl (hb hby d29_6) rfl ((if0 _ _).trans (tlt (by decide : ((0 : Int32) < (1 : Int32)))).2.2.2) k_) ?_
  refine Go.st (T' := T1) (pc' := 10) (L' := #[.val (.ref a1), .val (.ref a2), .val (.int (o.toInt32)), .val (.int (1 : Int32))]) (S' := [(.ref a1)]) (fun t_ k_ => XS.aloadN X1.here hx rfl (hb hby d29_9) rfl rfl  k_) ?_
  refine Go.st (T' := T1) (pc' := 11) (L' := #[.val (.ref a1), .val (.ref a2), .val (.int (o.toInt32)), .val (.int (1 : Int32))]) (S' := [(.int (o.toInt32)), (.ref a1)]) (fun t_ k_ => XS.iloadN X1.here hx rfl (hb hby d29_10) rfl  k_) ?_
  obtain ⟨cq2, kq2, q2a, q2b, q2c⟩ := isOf hZ e1 E_a1
  obtain ⟨_, _, ⟨T2, L2, k2, n2⟩, -, X2, ⟨Lc2, hQ2, l2, y2, z2⟩, st2⟩ := X1.virtualBack hx (y := (⟨"java/lang/String", "charAt", "(I)C"⟩ : MethodName)) (z := (⟨"java/lang/String", "charAt", "(I)C"⟩ : MethodName)) hown (mvT hZ (hw _ (List.mem_of_getElem? (i := 163) rfl))) (mvT hZ (hw _ (List.mem_of_getElem? (i := 164) rfl))) (notFace_of_selects (args := #[]) (mvT hZ (hw _ (List.mem_of_getElem? (i := 166) rfl)))) (mvT hZ (hw _ (List.mem_of_getElem? (i := 166) rfl))) (mvT hZ (hw _ (List.mem_of_getElem? (i := 165) rfl))) (by decide) (backOf (W := 0) (rm30 l Z a0 hw [] a1 t1 _ (rs) (o) (rn) fm gC h0 n0 Z0 SC PC O0 hfm SF E_a1 Fc_a1 Fv_a1 V_t1 (by omega) (by omega)) hZ (hw _ (List.mem_of_getElem? (i := 167) rfl)) (hw _ (List.mem_of_getElem? (i := 6) rfl)) (by decide) (by decide)) q2a q2c (g := (mkF m 11 #[.val (.ref a1), .val (.ref a2), .val (.int (o.toInt32)), .val (.int (1 : Int32))] [(.int (o.toInt32)), (.ref a1)])) rfl (by rw [hml]; rfl) (Steps.refl _) (argsL := [(.int (o.toInt32))]) (rest := []) (lenOf pd_21 rfl) rfl (by show 2 * 0 + _ ≤ _; exact Nat.le_of_eq rfl) (hb hby d29_11) (fun _ _ => ⟨rfl, e1, (by decide : 0 + 0 ≤ _), (by decide : 0 + 0 ≤ _)⟩)
  dsimp only [Pt.U, Pt.locs, Pt.cells, Pt.slots] at X2 l2 y2 z2 st2 hQ2
  subst l2 y2 z2
  unfold Q30 at hQ2
  generalize hx2 : own_ch _ = xc2 at hQ2
  obtain ⟨rfl, N2q, e2⟩ := hQ2
  have N2 := Fr.app N1 N2q
  refine Go.tr (T' := T2) (pc' := 14) (L' := #[.val (.ref a1), .val (.ref a2), .val (.int (o.toInt32)), .val (.int (1 : Int32))]) (S' := [(.int xc2)]) st2 ?_
  refine Go.st (T' := T2) (pc' := 15) (L' := #[.val (.ref a1), .val (.ref a2), .val (.int (o.toInt32)), .val (.int (1 : Int32))]) (S' := [(.ref a2), (.int xc2)]) (fun t_ k_ => XS.aloadN X2.here hx rfl (hb hby d29_14) rfl rfl  k_) ?_
  refine Go.st (T' := T2) (pc' := 16) (L' := #[.val (.ref a1), .val (.ref a2), .val (.int (o.toInt32)), .val (.int (1 : Int32))]) (S' := [(.int (0 : Int32)), (.ref a2), (.int xc2)]) (fun t_ k_ => XS.iconst X2.here hx rfl (hb hby d29_15) k_) ?_
  obtain ⟨cq3, kq3, q3a, q3b, q3c⟩ := isOf hZ e2 E_a2
  obtain ⟨_, _, ⟨T3, L3, k3, n3⟩, -, X3, ⟨Lc3, hQ3, l3, y3, z3⟩, st3⟩ := X2.virtualBack hx (y := (⟨"java/lang/String", "charAt", "(I)C"⟩ : MethodName)) (z := (⟨"java/lang/String", "charAt", "(I)C"⟩ : MethodName)) hown (mvT hZ (hw _ (List.mem_of_getElem? (i := 163) rfl))) (mvT hZ (hw _ (List.mem_of_getElem? (i := 164) rfl))) (notFace_of_selects (args := #[]) (mvT hZ (hw _ (List.mem_of_getElem? (i := 166) rfl)))) (mvT hZ (hw _ (List.mem_of_getElem? (i := 166) rfl))) (mvT hZ (hw _ (List.mem_of_getElem? (i := 165) rfl))) (by decide) (backOf (W := 1) (rm30 l Z a0 hw [] a2 t2 _ (ss) (0) (1) fm gC h0 n0 Z0 SC PC O0 hfm SF E_a2 Fc_a2 Fv_a2 V_t2 (by omega) (by omega)) hZ (hw _ (List.mem_of_getElem? (i := 167) rfl)) (hw _ (List.mem_of_getElem? (i := 6) rfl)) (by decide) (by decide)) q3a q3c (g := (mkF m 16 #[.val (.ref a1), .val (.ref a2), .val (.int (o.toInt32)), .val (.int (1 : Int32))] [(.int (0 : Int32)), (.ref a2), (.int xc2)])) rfl (by rw [hml]; rfl) (Steps.refl _) (argsL := [(.int (0 : Int32))]) (rest := [(.int xc2)]) (lenOf pd_21 rfl) rfl (by show 2 * 0 + _ ≤ _; exact Nat.le_of_eq rfl) (hb hby d29_16) (fun _ _ => ⟨rfl, e2, (by decide : 0 + 0 ≤ _), (by decide : 0 + 0 ≤ _)⟩)
  dsimp only [Pt.U, Pt.locs, Pt.cells, Pt.slots] at X3 l3 y3 z3 st3 hQ3
  subst l3 y3 z3
  unfold Q30 at hQ3
  generalize hx3 : own_ch _ = xc3 at hQ3
  obtain ⟨rfl, N3q, e3⟩ := hQ3
  have N3 := Fr.app N2 N3q
  refine Go.tr (T' := T3) (pc' := 19) (L' := #[.val (.ref a1), .val (.ref a2), .val (.int (o.toInt32)), .val (.int (1 : Int32))]) (S' := [(.int xc3), (.int xc2)]) st3 ?_
  refine Go.st (T' := T3) (pc' := 24) (L' := #[.val (.ref a1), .val (.ref a2), .val (.int (o.toInt32)), .val (.int (1 : Int32))]) (S' := []) (fun t_ k_ => XS.icmpYes X3.here hx rfl (pc0 := 19) (pc' := 24) rfl (hb hby d29_19) rfl (teq (hx2.symm.trans ((congrArg own_ch (hj 0 (by omega))).trans hx3) : (xc2 = xc3))).1 (by decide) (by decide) k_) ?_
  refine Go.st (T' := T3) (pc' := 25) (L' := #[.val (.ref a1), .val (.ref a2), .val (.int (o.toInt32)), .val (.int (1 : Int32))]) (S' := [(.int (1 : Int32))]) (fun t_ k_ => XS.iloadN X3.here hx rfl (hb hby d29_24) rfl  k_) ?_
  refine Go.st (T' := T3) (pc' := 26) (L' := #[.val (.ref a1), .val (.ref a2), .val (.int (o.toInt32)), .val (.int (1 : Int32))]) (S' := [(.int (1 : Int32)), (.int (1 : Int32))]) (fun t_ k_ => XS.iconst X3.here hx rfl (hb hby d29_25) k_) ?_
  refine Go.st (T' := T3) (pc' := 46) (L' := #[.val (.ref a1), .val (.ref a2), .val (.int (o.toInt32)), .val (.int (1 : Int32))]) (S' := []) (fun t_ k_ => XS.icmpYes X3.here hx rfl (pc0 := 26) (pc' := 46) rfl (hb hby d29_26) rfl (flt (by decide : ¬ ((1 : Int32) < (1 : Int32)))).2.2.2 (by decide) (by decide) k_) ?_
  refine Go.st (T' := T3) (pc' := 47) (L' := #[.val (.ref a1), .val (.ref a2), .val (.int (o.toInt32)), .val (.int (1 : Int32))]) (S' := [(.int (1 : Int32))]) (fun t_ k_ => XS.iloadN X3.here hx rfl (hb hby d29_46) rfl  k_) ?_
  refine Go.st (T' := T3) (pc' := 48) (L' := #[.val (.ref a1), .val (.ref a2), .val (.int (o.toInt32)), .val (.int (1 : Int32))]) (S' := [(.int (2 : Int32)), (.int (1 : Int32))]) (fun t_ k_ => XS.iconst X3.here hx rfl (hb hby d29_47) k_) ?_
  refine Go.st (T' := T3) (pc' := 68) (L' := #[.val (.ref a1), .val (.ref a2), .val (.int (o.toInt32)), .val (.int (1 : Int32))]) (S' := []) (fun t_ k_ => XS.icmpYes X3.here hx rfl (pc0 := 48) (pc' := 68) rfl (hb hby d29_48) rfl (flt (by decide : ¬ ((2 : Int32) < (1 : Int32)))).2.2.2 (by decide) (by decide) k_) ?_
  refine Go.st (T' := T3) (pc' := 69) (L' := #[.val (.ref a1), .val (.ref a2), .val (.int (o.toInt32)), .val (.int (1 : Int32))]) (S' := [(.int (1 : Int32))]) (fun t_ k_ => XS.iloadN X3.here hx rfl (hb hby d29_68) rfl  k_) ?_
  refine Go.st (T' := T3) (pc' := 70) (L' := #[.val (.ref a1), .val (.ref a2), .val (.int (o.toInt32)), .val (.int (1 : Int32))]) (S' := [(.int (3 : Int32)), (.int (1 : Int32))]) (fun t_ k_ => XS.iconst X3.here hx rfl (hb hby d29_69) k_) ?_
  refine Go.st (T' := T3) (pc' := 90) (L' := #[.val (.ref a1), .val (.ref a2), .val (.int (o.toInt32)), .val (.int (1 : Int32))]) (S' := []) (fun t_ k_ => XS.icmpYes X3.here hx rfl (pc0 := 70) (pc' := 90) rfl (hb hby d29_70) rfl (flt (by decide : ¬ ((3 : Int32) < (1 : Int32)))).2.2.2 (by decide) (by decide) k_) ?_
  refine Go.st (T' := T3) (pc' := 91) (L' := #[.val (.ref a1), .val (.ref a2), .val (.int (o.toInt32)), .val (.int (1 : Int32))]) (S' := [(.int (1 : Int32))]) (fun t_ k_ => XS.iconst X3.here hx rfl (hb hby d29_90) k_) ?_
  exact Go.retN X3 hx hlk hret (by simp) (hb hby d29_91) (by decide) (by decide) (by rw [e3]; exact ⟨rfl, N3, rfl⟩)
theorem d29_29 : decode method_4_code 29 = .ok (.aload_n 0, 1) := by decide +kernel
theorem d29_30 : decode method_4_code 30 = .ok (.iload_n 2, 1) := by decide +kernel
theorem d29_31 : decode method_4_code 31 = .ok (.iconst 1, 1) := by decide +kernel
theorem d29_32 : decode method_4_code 32 = .ok (.iadd, 1) := by decide +kernel
theorem d29_33 : decode method_4_code 33 = .ok (.invokevirtual 34, 3) := by decide +kernel
theorem d29_36 : decode method_4_code 36 = .ok (.aload_n 1, 1) := by decide +kernel
theorem d29_37 : decode method_4_code 37 = .ok (.iconst 1, 1) := by decide +kernel
theorem d29_38 : decode method_4_code 38 = .ok (.invokevirtual 34, 3) := by decide +kernel
theorem d29_41 : decode method_4_code 41 = .ok (.if_icmp .eq 5, 3) := by decide +kernel
def Qpre2 (Z : State)  (h0 : Heap) (n0 : Nat) (v : Option Value) (h : Heap) (L : List Loc) : Prop := v = some (.int 1) ∧ Fr n0 L ∧ h = h0
def roompre2 : Room := { frames := 4, cells := 0, slots := 0, locals := 54 }
set_option maxRecDepth 65536 in
set_option maxHeartbeats 40000000 in
theorem rmpre2 (l : Launch) (Z : State) (a0 : Array Value) (hw : ∀ d ∈ tables_1, d.before a0 Z = true) (ws : List Jvm.Cond) (a1 : Addr) (t1 : Addr) (k1 : ClassId) (rs : List Int32) (rn : Nat) (a2 : Addr) (t2 : Addr) (k2 : ClassId) (ss : List Int32) (o : Nat) (fm : Value) (gC : Int32) (h0 : Heap) (n0 : Nat) (Z0 : n0 ≤ h0.size) (SC : Sta Z Z.heap "java/lang/String" "COMPACT_STRINGS" "Z" (.int gC)) (PC : ¬ (gC = (0 : Int32))) (O0 : Old Z n0 h0) (hfm : fm.isRef = true) (SF : Sta Z Z.heap "jdk/internal/util/Preconditions" "SIOOBE_FORMATTER" "Ljava/util/function/BiFunction;" fm) (E_a1 : Exa Z h0 a1 "java/lang/String") (Fc_a1 : Fld Z h0 a1 "java/lang/String" "coder" "B" (.int (0 : Int32))) (Fv_a1 : Fld Z h0 a1 "java/lang/String" "value" "[B" (.ref t1)) (V_t1 : Arv Z h0 t1 k1 .byte (rn.toInt32) (rs.map Value.int) (.int (0 : Int32))) (E_a2 : Exa Z h0 a2 "java/lang/String") (Fc_a2 : Fld Z h0 a2 "java/lang/String" "coder" "B" (.int (0 : Int32))) (Fv_a2 : Fld Z h0 a2 "java/lang/String" "value" "[B" (.ref t2)) (V_t2 : Arv Z h0 t2 k2 .byte (2 : Int32) (ss.map Value.int) (.int (0 : Int32))) (hr : rs.length = rn) (hrn : rn ≤ 16) (hs : ss.length = 2) (ho : o + 2 ≤ rn) (hj : ∀ j, j < 2 → rs.getD (o + j) 0 = ss.getD j 0) :
    MetFree l (⟨"com/example/vestry/vestry/plan/PlanSectionToStringPinLaw", "pre", "(Ljava/lang/String;Ljava/lang/String;I)Z"⟩ : MethodName) (head1 (Jvm.Cond.code (⟨"com/example/vestry/vestry/plan/PlanSectionToStringPinLaw", "pre", "(Ljava/lang/String;Ljava/lang/String;I)Z"⟩ : MethodName) method_4_code 4 (some .boolean) :: ws) roompre2) (fun aa_ U_ => aa_ = #[(.ref a1), (.ref a2), (.int (o.toInt32))] ∧ Z.Warmed39 U_.vm ∧ U_.heap = h0) (fun _ _ _ _ _ => True) (fun _ U_ o_ W_ => ∃ v_ L_, o_ = .returned v_ ∧ (Qpre2 Z  h0 n0) v_ W_.heap L_ ∧ FrameEnd U_ o_ W_ L_ roompre2.cells roompre2.slots) := by
  refine own_met (Q := (Qpre2 Z  h0 n0)) (L0 := #[.val (.ref a1), .val (.ref a2), .val (.int (o.toInt32)), .unset]) (plainFor_of_name pn_8) (fun m => by first | (simp [entryFrame, mkF, argsToLocals, Value.category]; done) | rfl) ?_
  intro p e s m below meth c T0 X0 hx hby hml hown hnm hret hlk hZ e0
  have N0 := Fr.nil n0
  refine Go.st (T' := T0) (pc' := 1) (L' := #[.val (.ref a1), .val (.ref a2), .val (.int (o.toInt32)), .unset]) (S' := [(.ref a2)]) (fun t_ k_ => XS.aloadN X0.here hx rfl (hb hby d29_0) rfl rfl  k_) ?_
  obtain ⟨cq1, kq1, q1a, q1b, q1c⟩ := isOf hZ e0 E_a2
  obtain ⟨_, _, ⟨T1, L1, k1, n1⟩, -, X1, ⟨Lc1, hQ1, l1, y1, z1⟩, st1⟩ := X0.virtualBack hx (y := (⟨"java/lang/String", "length", "()I"⟩ : MethodName)) (z := (⟨"java/lang/String", "length", "()I"⟩ : MethodName)) hown (mvT hZ (hw _ (List.mem_of_getElem? (i := 159) rfl))) (mvT hZ (hw _ (List.mem_of_getElem? (i := 76) rfl))) (notFace_of_selects (args := #[]) (mvT hZ (hw _ (List.mem_of_getElem? (i := 78) rfl)))) (mvT hZ (hw _ (List.mem_of_getElem? (i := 78) rfl))) (mvT hZ (hw _ (List.mem_of_getElem? (i := 77) rfl))) (by decide) (backOf (W := 0) (rm12 l Z a0 hw [] a2 t2 _ gC (2 : Int32) (ss) h0 n0 Z0 SC PC O0 E_a2 Fc_a2 Fv_a2 V_t2) hZ (hw _ (List.mem_of_getElem? (i := 79) rfl)) (hw _ (List.mem_of_getElem? (i := 6) rfl)) (by decide) (by decide)) q1a q1c (g := (mkF m 1 #[.val (.ref a1), .val (.ref a2), .val (.int (o.toInt32)), .unset] [(.ref a2)])) rfl (by rw [hml]; rfl) (Steps.refl _) (argsL := []) (rest := []) (lenOf pd_4 rfl) rfl (by show 2 * 0 + _ ≤ _; exact Nat.le_of_eq rfl) (hb hby d29_1) (fun _ _ => ⟨rfl, e0, (by decide : 0 + 0 ≤ _), (by decide : 0 + 0 ≤ _)⟩)
  dsimp only [Pt.U, Pt.locs, Pt.cells, Pt.slots] at X1 l1 y1 z1 st1 hQ1
  subst l1 y1 z1
  obtain ⟨rfl, N1q, e1⟩ := hQ1
  have N1 := Fr.app N0 N1q
  refine Go.tr (T' := T1) (pc' := 4) (L' := #[.val (.ref a1), .val (.ref a2), .val (.int (o.toInt32)), .unset]) (S' := [(.int (2 : Int32))]) st1 ?_
  refine Go.st (T' := T1) (pc' := 5) (L' := #[.val (.ref a1), .val (.ref a2), .val (.int (o.toInt32)), .val (.int (2 : Int32))]) (S' := []) (fun t_ k_ => XS.istoreN X1.here hx rfl (hb hby d29_4) rfl (l' := #[.val (.ref a1), .val (.ref a2), .val (.int (o.toInt32)), .val (.int (2 : Int32))]) rfl k_) ?_
  refine Go.st (T' := T1) (pc' := 6) (L' := #[.val (.ref a1), .val (.ref a2), .val (.int (o.toInt32)), .val (.int (2 : Int32))]) (S' := [(.int (2 : Int32))]) (fun t_ k_ => XS.iloadN X1.here hx rfl (hb hby d29_5) rfl  k_) ?_
  refine Go.st (T' := T1) (pc' := 9) (L' := #[.val (.ref a1), .val (.ref a2), .val (.int (o.toInt32)), .val (.int (2 : Int32))]) (S' := []) (fun t_ k_ => XS.ifNo X1.here hx rfl (hb hby d29_6) rfl ((if0 _ _).trans (tlt (by decide : ((0 : Int32) < (2 : Int32)))).2.2.2) k_) ?_
  refine Go.st (T' := T1) (pc' := 10) (L' := #[.val (.ref a1), .val (.ref a2), .val (.int (o.toInt32)), .val (.int (2 : Int32))]) (S' := [(.ref a1)]) (fun t_ k_ => XS.aloadN X1.here hx rfl (hb hby d29_9) rfl rfl  k_) ?_
  refine Go.st (T' := T1) (pc' := 11) (L' := #[.val (.ref a1), .val (.ref a2), .val (.int (o.toInt32)), .val (.int (2 : Int32))]) (S' := [(.int (o.toInt32)), (.ref a1)]) (fun t_ k_ => XS.iloadN X1.here hx rfl (hb hby d29_10) rfl  k_) ?_
  obtain ⟨cq2, kq2, q2a, q2b, q2c⟩ := isOf hZ e1 E_a1
  obtain ⟨_, _, ⟨T2, L2, k2, n2⟩, -, X2, ⟨Lc2, hQ2, l2, y2, z2⟩, st2⟩ := X1.virtualBack hx (y := (⟨"java/lang/String", "charAt", "(I)C"⟩ : MethodName)) (z := (⟨"java/lang/String", "charAt", "(I)C"⟩ : MethodName)) hown (mvT hZ (hw _ (List.mem_of_getElem? (i := 163) rfl))) (mvT hZ (hw _ (List.mem_of_getElem? (i := 164) rfl))) (notFace_of_selects (args := #[]) (mvT hZ (hw _ (List.mem_of_getElem? (i := 166) rfl)))) (mvT hZ (hw _ (List.mem_of_getElem? (i := 166) rfl))) (mvT hZ (hw _ (List.mem_of_getElem? (i := 165) rfl))) (by decide) (backOf (W := 0) (rm30 l Z a0 hw [] a1 t1 _ (rs) (o) (rn) fm gC h0 n0 Z0 SC PC O0 hfm SF E_a1 Fc_a1 Fv_a1 V_t1 (by omega) (by omega)) hZ (hw _ (List.mem_of_getElem? (i := 167) rfl)) (hw _ (List.mem_of_getElem? (i := 6) rfl)) (by decide) (by decide)) q2a q2c (g := (mkF m 11 #[.val (.ref a1), .val (.ref a2), .val (.int (o.toInt32)), .val (.int (2 : Int32))] [(.int (o.toInt32)), (.ref a1)])) rfl (by rw [hml]; rfl) (Steps.refl _) (argsL := [(.int (o.toInt32))]) (rest := []) (lenOf pd_21 rfl) rfl (by show 2 * 0 + _ ≤ _; exact Nat.le_of_eq rfl) (hb hby d29_11) (fun _ _ => ⟨rfl, e1, (by decide : 0 + 0 ≤ _), (by decide : 0 + 0 ≤ _)⟩)
  dsimp only [Pt.U, Pt.locs, Pt.cells, Pt.slots] at X2 l2 y2 z2 st2 hQ2
  subst l2 y2 z2
  unfold Q30 at hQ2
  generalize hx2 : own_ch _ = xc2 at hQ2
  obtain ⟨rfl, N2q, e2⟩ := hQ2
  have N2 := Fr.app N1 N2q
  refine Go.tr (T' := T2) (pc' := 14) (L' := #[.val (.ref a1), .val (.ref a2), .val (.int (o.toInt32)), .val (.int (2 : Int32))]) (S' := [(.int xc2)]) st2 ?_
  refine Go.st (T' := T2) (pc' := 15) (L' := #[.val (.ref a1), .val (.ref a2), .val (.int (o.toInt32)), .val (.int (2 : Int32))]) (S' := [(.ref a2), (.int xc2)]) (fun t_ k_ => XS.aloadN X2.here hx rfl (hb hby d29_14) rfl rfl  k_) ?_
  refine Go.st (T' := T2) (pc' := 16) (L' := #[.val (.ref a1), .val (.ref a2), .val (.int (o.toInt32)), .val (.int (2 : Int32))]) (S' := [(.int (0 : Int32)), (.ref a2), (.int xc2)]) (fun t_ k_ => XS.iconst X2.here hx rfl (hb hby d29_15) k_) ?_
  obtain ⟨cq3, kq3, q3a, q3b, q3c⟩ := isOf hZ e2 E_a2
  obtain ⟨_, _, ⟨T3, L3, k3, n3⟩, -, X3, ⟨Lc3, hQ3, l3, y3, z3⟩, st3⟩ := X2.virtualBack hx (y := (⟨"java/lang/String", "charAt", "(I)C"⟩ : MethodName)) (z := (⟨"java/lang/String", "charAt", "(I)C"⟩ : MethodName)) hown (mvT hZ (hw _ (List.mem_of_getElem? (i := 163) rfl))) (mvT hZ (hw _ (List.mem_of_getElem? (i := 164) rfl))) (notFace_of_selects (args := #[]) (mvT hZ (hw _ (List.mem_of_getElem? (i := 166) rfl)))) (mvT hZ (hw _ (List.mem_of_getElem? (i := 166) rfl))) (mvT hZ (hw _ (List.mem_of_getElem? (i := 165) rfl))) (by decide) (backOf (W := 1) (rm30 l Z a0 hw [] a2 t2 _ (ss) (0) (2) fm gC h0 n0 Z0 SC PC O0 hfm SF E_a2 Fc_a2 Fv_a2 V_t2 (by omega) (by omega)) hZ (hw _ (List.mem_of_getElem? (i := 167) rfl)) (hw _ (List.mem_of_getElem? (i := 6) rfl)) (by decide) (by decide)) q3a q3c (g := (mkF m 16 #[.val (.ref a1), .val (.ref a2), .val (.int (o.toInt32)), .val (.int (2 : Int32))] [(.int (0 : Int32)), (.ref a2), (.int xc2)])) rfl (by rw [hml]; rfl) (Steps.refl _) (argsL := [(.int (0 : Int32))]) (rest := [(.int xc2)]) (lenOf pd_21 rfl) rfl (by show 2 * 0 + _ ≤ _; exact Nat.le_of_eq rfl) (hb hby d29_16) (fun _ _ => ⟨rfl, e2, (by decide : 0 + 0 ≤ _), (by decide : 0 + 0 ≤ _)⟩)
  dsimp only [Pt.U, Pt.locs, Pt.cells, Pt.slots] at X3 l3 y3 z3 st3 hQ3
  subst l3 y3 z3
  unfold Q30 at hQ3
  generalize hx3 : own_ch _ = xc3 at hQ3
  obtain ⟨rfl, N3q, e3⟩ := hQ3
  have N3 := Fr.app N2 N3q
  refine Go.tr (T' := T3) (pc' := 19) (L' := #[.val (.ref a1), .val (.ref a2), .val (.int (o.toInt32)), .val (.int (2 : Int32))]) (S' := [(.int xc3), (.int xc2)]) st3 ?_
  refine Go.st (T' := T3) (pc' := 24) (L' := #[.val (.ref a1), .val (.ref a2), .val (.int (o.toInt32)), .val (.int (2 : Int32))]) (S' := []) (fun t_ k_ => XS.icmpYes X3.here hx rfl (pc0 := 19) (pc' := 24) rfl (hb hby d29_19) rfl (teq (hx2.symm.trans ((congrArg own_ch (hj 0 (by omega))).trans hx3) : (xc2 = xc3))).1 (by decide) (by decide) k_) ?_
  refine Go.st (T' := T3) (pc' := 25) (L' := #[.val (.ref a1), .val (.ref a2), .val (.int (o.toInt32)), .val (.int (2 : Int32))]) (S' := [(.int (2 : Int32))]) (fun t_ k_ => XS.iloadN X3.here hx rfl (hb hby d29_24) rfl  k_) ?_
  refine Go.st (T' := T3) (pc' := 26) (L' := #[.val (.ref a1), .val (.ref a2), .val (.int (o.toInt32)), .val (.int (2 : Int32))]) (S' := [(.int (1 : Int32)), (.int (2 : Int32))]) (fun t_ k_ => XS.iconst X3.here hx rfl (hb hby d29_25) k_) ?_
  refine Go.st (T' := T3) (pc' := 29) (L' := #[.val (.ref a1), .val (.ref a2), .val (.int (o.toInt32)), .val (.int (2 : Int32))]) (S' := []) (fun t_ k_ => XS.icmpNo X3.here hx rfl (hb hby d29_26) rfl (tlt (by decide : ((1 : Int32) < (2 : Int32)))).2.2.2 k_) ?_
  refine Go.st (T' := T3) (pc' := 30) (L' := #[.val (.ref a1), .val (.ref a2), .val (.int (o.toInt32)), .val (.int (2 : Int32))]) (S' := [(.ref a1)]) (fun t_ k_ => XS.aloadN X3.here hx rfl (hb hby d29_29) rfl rfl  k_) ?_
  refine Go.st (T' := T3) (pc' := 31) (L' := #[.val (.ref a1), .val (.ref a2), .val (.int (o.toInt32)), .val (.int (2 : Int32))]) (S' := [(.int (o.toInt32)), (.ref a1)]) (fun t_ k_ => XS.iloadN X3.here hx rfl (hb hby d29_30) rfl  k_) ?_
  refine Go.st (T' := T3) (pc' := 32) (L' := #[.val (.ref a1), .val (.ref a2), .val (.int (o.toInt32)), .val (.int (2 : Int32))]) (S' := [(.int (1 : Int32)), (.int (o.toInt32)), (.ref a1)]) (fun t_ k_ => XS.iconst X3.here hx rfl (hb hby d29_31) k_) ?_
  refine Go.st (T' := T3) (pc' := 33) (L' := #[.val (.ref a1), .val (.ref a2), .val (.int (o.toInt32)), .val (.int (2 : Int32))]) (S' := [(.int ((o.toInt32) + (1 : Int32))), (.ref a1)]) (fun t_ k_ => XS.iadd X3.here hx rfl (hb hby d29_32) rfl k_) ?_
  rw [show (o.toInt32) + (1 : Int32) = (o + 1).toInt32 from own_addN (m := o) (n := 1) (by omega)]
  obtain ⟨cq4, kq4, q4a, q4b, q4c⟩ := isOf hZ e3 E_a1
  obtain ⟨_, _, ⟨T4, L4, k4, n4⟩, -, X4, ⟨Lc4, hQ4, l4, y4, z4⟩, st4⟩ := X3.virtualBack hx (y := (⟨"java/lang/String", "charAt", "(I)C"⟩ : MethodName)) (z := (⟨"java/lang/String", "charAt", "(I)C"⟩ : MethodName)) hown (mvT hZ (hw _ (List.mem_of_getElem? (i := 163) rfl))) (mvT hZ (hw _ (List.mem_of_getElem? (i := 164) rfl))) (notFace_of_selects (args := #[]) (mvT hZ (hw _ (List.mem_of_getElem? (i := 166) rfl)))) (mvT hZ (hw _ (List.mem_of_getElem? (i := 166) rfl))) (mvT hZ (hw _ (List.mem_of_getElem? (i := 165) rfl))) (by decide) (backOf (W := 0) (rm30 l Z a0 hw [] a1 t1 _ (rs) ((o + 1)) (rn) fm gC h0 n0 Z0 SC PC O0 hfm SF E_a1 Fc_a1 Fv_a1 V_t1 (by omega) (by omega)) hZ (hw _ (List.mem_of_getElem? (i := 167) rfl)) (hw _ (List.mem_of_getElem? (i := 6) rfl)) (by decide) (by decide)) q4a q4c (g := (mkF m 33 #[.val (.ref a1), .val (.ref a2), .val (.int (o.toInt32)), .val (.int (2 : Int32))] [(.int ((o + 1).toInt32)), (.ref a1)])) rfl (by rw [hml]; rfl) (Steps.refl _) (argsL := [(.int ((o + 1).toInt32))]) (rest := []) (lenOf pd_21 rfl) rfl (by show 2 * 0 + _ ≤ _; exact Nat.le_of_eq rfl) (hb hby d29_33) (fun _ _ => ⟨rfl, e3, (by decide : 0 + 0 ≤ _), (by decide : 0 + 0 ≤ _)⟩)
  dsimp only [Pt.U, Pt.locs, Pt.cells, Pt.slots] at X4 l4 y4 z4 st4 hQ4
  subst l4 y4 z4
  unfold Q30 at hQ4
  generalize hx4 : own_ch _ = xc4 at hQ4
  obtain ⟨rfl, N4q, e4⟩ := hQ4
  have N4 := Fr.app N3 N4q
  refine Go.tr (T' := T4) (pc' := 36) (L' := #[.val (.ref a1), .val (.ref a2), .val (.int (o.toInt32)), .val (.int (2 : Int32))]) (S' := [(.int xc4)]) st4 ?_
  refine Go.st (T' := T4) (pc' := 37) (L' := #[.val (.ref a1), .val (.ref a2), .val (.int (o.toInt32)), .val (.int (2 : Int32))]) (S' := [(.ref a2), (.int xc4)]) (fun t_ k_ => XS.aloadN X4.here hx rfl (hb hby d29_36) rfl rfl  k_) ?_
  refine Go.st (T' := T4) (pc' := 38) (L' := #[.val (.ref a1), .val (.ref a2), .val (.int (o.toInt32)), .val (.int (2 : Int32))]) (S' := [(.int (1 : Int32)), (.ref a2), (.int xc4)]) (fun t_ k_ => XS.iconst X4.here hx rfl (hb hby d29_37) k_) ?_
  obtain ⟨cq5, kq5, q5a, q5b, q5c⟩ := isOf hZ e4 E_a2
  obtain ⟨_, _, ⟨T5, L5, k5, n5⟩, -, X5, ⟨Lc5, hQ5, l5, y5, z5⟩, st5⟩ := X4.virtualBack hx (y := (⟨"java/lang/String", "charAt", "(I)C"⟩ : MethodName)) (z := (⟨"java/lang/String", "charAt", "(I)C"⟩ : MethodName)) hown (mvT hZ (hw _ (List.mem_of_getElem? (i := 163) rfl))) (mvT hZ (hw _ (List.mem_of_getElem? (i := 164) rfl))) (notFace_of_selects (args := #[]) (mvT hZ (hw _ (List.mem_of_getElem? (i := 166) rfl)))) (mvT hZ (hw _ (List.mem_of_getElem? (i := 166) rfl))) (mvT hZ (hw _ (List.mem_of_getElem? (i := 165) rfl))) (by decide) (backOf (W := 1) (rm30 l Z a0 hw [] a2 t2 _ (ss) (1) (2) fm gC h0 n0 Z0 SC PC O0 hfm SF E_a2 Fc_a2 Fv_a2 V_t2 (by omega) (by omega)) hZ (hw _ (List.mem_of_getElem? (i := 167) rfl)) (hw _ (List.mem_of_getElem? (i := 6) rfl)) (by decide) (by decide)) q5a q5c (g := (mkF m 38 #[.val (.ref a1), .val (.ref a2), .val (.int (o.toInt32)), .val (.int (2 : Int32))] [(.int (1 : Int32)), (.ref a2), (.int xc4)])) rfl (by rw [hml]; rfl) (Steps.refl _) (argsL := [(.int (1 : Int32))]) (rest := [(.int xc4)]) (lenOf pd_21 rfl) rfl (by show 2 * 0 + _ ≤ _; exact Nat.le_of_eq rfl) (hb hby d29_38) (fun _ _ => ⟨rfl, e4, (by decide : 0 + 0 ≤ _), (by decide : 0 + 0 ≤ _)⟩)
  dsimp only [Pt.U, Pt.locs, Pt.cells, Pt.slots] at X5 l5 y5 z5 st5 hQ5
  subst l5 y5 z5
  unfold Q30 at hQ5
  generalize hx5 : own_ch _ = xc5 at hQ5
  obtain ⟨rfl, N5q, e5⟩ := hQ5
  have N5 := Fr.app N4 N5q
  refine Go.tr (T' := T5) (pc' := 41) (L' := #[.val (.ref a1), .val (.ref a2), .val (.int (o.toInt32)), .val (.int (2 : Int32))]) (S' := [(.int xc5), (.int xc4)]) st5 ?_
  refine Go.st (T' := T5) (pc' := 46) (L' := #[.val (.ref a1), .val (.ref a2), .val (.int (o.toInt32)), .val (.int (2 : Int32))]) (S' := []) (fun t_ k_ => XS.icmpYes X5.here hx rfl (pc0 := 41) (pc' := 46) rfl (hb hby d29_41) rfl (teq (hx4.symm.trans ((congrArg own_ch (hj 1 (by omega))).trans hx5) : (xc4 = xc5))).1 (by decide) (by decide) k_) ?_
  refine Go.st (T' := T5) (pc' := 47) (L' := #[.val (.ref a1), .val (.ref a2), .val (.int (o.toInt32)), .val (.int (2 : Int32))]) (S' := [(.int (2 : Int32))]) (fun t_ k_ => XS.iloadN X5.here hx rfl (hb hby d29_46) rfl  k_) ?_
  refine Go.st (T' := T5) (pc' := 48) (L' := #[.val (.ref a1), .val (.ref a2), .val (.int (o.toInt32)), .val (.int (2 : Int32))]) (S' := [(.int (2 : Int32)), (.int (2 : Int32))]) (fun t_ k_ => XS.iconst X5.here hx rfl (hb hby d29_47) k_) ?_
  refine Go.st (T' := T5) (pc' := 68) (L' := #[.val (.ref a1), .val (.ref a2), .val (.int (o.toInt32)), .val (.int (2 : Int32))]) (S' := []) (fun t_ k_ => XS.icmpYes X5.here hx rfl (pc0 := 48) (pc' := 68) rfl (hb hby d29_48) rfl (flt (by decide : ¬ ((2 : Int32) < (2 : Int32)))).2.2.2 (by decide) (by decide) k_) ?_
  refine Go.st (T' := T5) (pc' := 69) (L' := #[.val (.ref a1), .val (.ref a2), .val (.int (o.toInt32)), .val (.int (2 : Int32))]) (S' := [(.int (2 : Int32))]) (fun t_ k_ => XS.iloadN X5.here hx rfl (hb hby d29_68) rfl  k_) ?_
  refine Go.st (T' := T5) (pc' := 70) (L' := #[.val (.ref a1), .val (.ref a2), .val (.int (o.toInt32)), .val (.int (2 : Int32))]) (S' := [(.int (3 : Int32)), (.int (2 : Int32))]) (fun t_ k_ => XS.iconst X5.here hx rfl (hb hby d29_69) k_) ?_
  refine Go.st (T' := T5) (pc' := 90) (L' := #[.val (.ref a1), .val (.ref a2), .val (.int (o.toInt32)), .val (.int (2 : Int32))]) (S' := []) (fun t_ k_ => XS.icmpYes X5.here hx rfl (pc0 := 70) (pc' := 90) rfl (hb hby d29_70) rfl (flt (by decide : ¬ ((3 : Int32) < (2 : Int32)))).2.2.2 (by decide) (by decide) k_) ?_
  refine Go.st (T' := T5) (pc' := 91) (L' := #[.val (.ref a1), .val (.ref a2), .val (.int (o.toInt32)), .val (.int (2 : Int32))]) (S' := [(.int (1 : Int32))]) (fun t_ k_ => XS.iconst X5.here hx rfl (hb hby d29_90) k_) ?_
  exact Go.retN X5 hx hlk hret (by simp) (hb hby d29_91) (by decide) (by decide) (by rw [e5]; exact ⟨rfl, N5, rfl⟩)
theorem d29_51 : decode method_4_code 51 = .ok (.aload_n 0, 1) := by decide +kernel
theorem d29_52 : decode method_4_code 52 = .ok (.iload_n 2, 1) := by decide +kernel
theorem d29_53 : decode method_4_code 53 = .ok (.iconst 2, 1) := by decide +kernel
theorem d29_54 : decode method_4_code 54 = .ok (.iadd, 1) := by decide +kernel
theorem d29_55 : decode method_4_code 55 = .ok (.invokevirtual 34, 3) := by decide +kernel
theorem d29_58 : decode method_4_code 58 = .ok (.aload_n 1, 1) := by decide +kernel
theorem d29_59 : decode method_4_code 59 = .ok (.iconst 2, 1) := by decide +kernel
theorem d29_60 : decode method_4_code 60 = .ok (.invokevirtual 34, 3) := by decide +kernel
theorem d29_63 : decode method_4_code 63 = .ok (.if_icmp .eq 5, 3) := by decide +kernel
theorem d29_73 : decode method_4_code 73 = .ok (.aload_n 0, 1) := by decide +kernel
theorem d29_74 : decode method_4_code 74 = .ok (.iload_n 2, 1) := by decide +kernel
theorem d29_75 : decode method_4_code 75 = .ok (.iconst 3, 1) := by decide +kernel
theorem d29_76 : decode method_4_code 76 = .ok (.iadd, 1) := by decide +kernel
theorem d29_77 : decode method_4_code 77 = .ok (.invokevirtual 34, 3) := by decide +kernel
theorem d29_80 : decode method_4_code 80 = .ok (.aload_n 1, 1) := by decide +kernel
theorem d29_81 : decode method_4_code 81 = .ok (.iconst 3, 1) := by decide +kernel
theorem d29_82 : decode method_4_code 82 = .ok (.invokevirtual 34, 3) := by decide +kernel
theorem d29_85 : decode method_4_code 85 = .ok (.if_icmp .eq 5, 3) := by decide +kernel
def Qpre4 (Z : State)  (h0 : Heap) (n0 : Nat) (v : Option Value) (h : Heap) (L : List Loc) : Prop := v = some (.int 1) ∧ Fr n0 L ∧ h = h0
def roompre4 : Room := { frames := 4, cells := 0, slots := 0, locals := 54 }
set_option maxRecDepth 65536 in
set_option maxHeartbeats 40000000 in
theorem rmpre4 (l : Launch) (Z : State) (a0 : Array Value) (hw : ∀ d ∈ tables_1, d.before a0 Z = true) (ws : List Jvm.Cond) (a1 : Addr) (t1 : Addr) (k1 : ClassId) (rs : List Int32) (rn : Nat) (a2 : Addr) (t2 : Addr) (k2 : ClassId) (ss : List Int32) (o : Nat) (fm : Value) (gC : Int32) (h0 : Heap) (n0 : Nat) (Z0 : n0 ≤ h0.size) (SC : Sta Z Z.heap "java/lang/String" "COMPACT_STRINGS" "Z" (.int gC)) (PC : ¬ (gC = (0 : Int32))) (O0 : Old Z n0 h0) (hfm : fm.isRef = true) (SF : Sta Z Z.heap "jdk/internal/util/Preconditions" "SIOOBE_FORMATTER" "Ljava/util/function/BiFunction;" fm) (E_a1 : Exa Z h0 a1 "java/lang/String") (Fc_a1 : Fld Z h0 a1 "java/lang/String" "coder" "B" (.int (0 : Int32))) (Fv_a1 : Fld Z h0 a1 "java/lang/String" "value" "[B" (.ref t1)) (V_t1 : Arv Z h0 t1 k1 .byte (rn.toInt32) (rs.map Value.int) (.int (0 : Int32))) (E_a2 : Exa Z h0 a2 "java/lang/String") (Fc_a2 : Fld Z h0 a2 "java/lang/String" "coder" "B" (.int (0 : Int32))) (Fv_a2 : Fld Z h0 a2 "java/lang/String" "value" "[B" (.ref t2)) (V_t2 : Arv Z h0 t2 k2 .byte (4 : Int32) (ss.map Value.int) (.int (0 : Int32))) (hr : rs.length = rn) (hrn : rn ≤ 16) (hs : ss.length = 4) (ho : o + 4 ≤ rn) (hj : ∀ j, j < 4 → rs.getD (o + j) 0 = ss.getD j 0) :
    MetFree l (⟨"com/example/vestry/vestry/plan/PlanSectionToStringPinLaw", "pre", "(Ljava/lang/String;Ljava/lang/String;I)Z"⟩ : MethodName) (head1 (Jvm.Cond.code (⟨"com/example/vestry/vestry/plan/PlanSectionToStringPinLaw", "pre", "(Ljava/lang/String;Ljava/lang/String;I)Z"⟩ : MethodName) method_4_code 4 (some .boolean) :: ws) roompre4) (fun aa_ U_ => aa_ = #[(.ref a1), (.ref a2), (.int (o.toInt32))] ∧ Z.Warmed39 U_.vm ∧ U_.heap = h0) (fun _ _ _ _ _ => True) (fun _ U_ o_ W_ => ∃ v_ L_, o_ = .returned v_ ∧ (Qpre4 Z  h0 n0) v_ W_.heap L_ ∧ FrameEnd U_ o_ W_ L_ roompre4.cells roompre4.slots) := by
  refine own_met (Q := (Qpre4 Z  h0 n0)) (L0 := #[.val (.ref a1), .val (.ref a2), .val (.int (o.toInt32)), .unset]) (plainFor_of_name pn_8) (fun m => by first | (simp [entryFrame, mkF, argsToLocals, Value.category]; done) | rfl) ?_
  intro p e s m below meth c T0 X0 hx hby hml hown hnm hret hlk hZ e0
  have N0 := Fr.nil n0
  refine Go.st (T' := T0) (pc' := 1) (L' := #[.val (.ref a1), .val (.ref a2), .val (.int (o.toInt32)), .unset]) (S' := [(.ref a2)]) (fun t_ k_ => XS.aloadN X0.here hx rfl (hb hby d29_0) rfl rfl  k_) ?_
  obtain ⟨cq1, kq1, q1a, q1b, q1c⟩ := isOf hZ e0 E_a2
  obtain ⟨_, _, ⟨T1, L1, k1, n1⟩, -, X1, ⟨Lc1, hQ1, l1, y1, z1⟩, st1⟩ := X0.virtualBack hx (y := (⟨"java/lang/String", "length", "()I"⟩ : MethodName)) (z := (⟨"java/lang/String", "length", "()I"⟩ : MethodName)) hown (mvT hZ (hw _ (List.mem_of_getElem? (i := 159) rfl))) (mvT hZ (hw _ (List.mem_of_getElem? (i := 76) rfl))) (notFace_of_selects (args := #[]) (mvT hZ (hw _ (List.mem_of_getElem? (i := 78) rfl)))) (mvT hZ (hw _ (List.mem_of_getElem? (i := 78) rfl))) (mvT hZ (hw _ (List.mem_of_getElem? (i := 77) rfl))) (by decide) (backOf (W := 0) (rm12 l Z a0 hw [] a2 t2 _ gC (4 : Int32) (ss) h0 n0 Z0 SC PC O0 E_a2 Fc_a2 Fv_a2 V_t2) hZ (hw _ (List.mem_of_getElem? (i := 79) rfl)) (hw _ (List.mem_of_getElem? (i := 6) rfl)) (by decide) (by decide)) q1a q1c (g := (mkF m 1 #[.val (.ref a1), .val (.ref a2), .val (.int (o.toInt32)), .unset] [(.ref a2)])) rfl (by rw [hml]; rfl) (Steps.refl _) (argsL := []) (rest := []) (lenOf pd_4 rfl) rfl (by show 2 * 0 + _ ≤ _; exact Nat.le_of_eq rfl) (hb hby d29_1) (fun _ _ => ⟨rfl, e0, (by decide : 0 + 0 ≤ _), (by decide : 0 + 0 ≤ _)⟩)
  dsimp only [Pt.U, Pt.locs, Pt.cells, Pt.slots] at X1 l1 y1 z1 st1 hQ1
  subst l1 y1 z1
  obtain ⟨rfl, N1q, e1⟩ := hQ1
  have N1 := Fr.app N0 N1q
  refine Go.tr (T' := T1) (pc' := 4) (L' := #[.val (.ref a1), .val (.ref a2), .val (.int (o.toInt32)), .unset]) (S' := [(.int (4 : Int32))]) st1 ?_
  refine Go.st (T' := T1) (pc' := 5) (L' := #[.val (.ref a1), .val (.ref a2), .val (.int (o.toInt32)), .val (.int (4 : Int32))]) (S' := []) (fun t_ k_ => XS.istoreN X1.here hx rfl (hb hby d29_4) rfl (l' := #[.val (.ref a1), .val (.ref a2), .val (.int (o.toInt32)), .val (.int (4 : Int32))]) rfl k_) ?_
  refine Go.st (T' := T1) (pc' := 6) (L' := #[.val (.ref a1), .val (.ref a2), .val (.int (o.toInt32)), .val (.int (4 : Int32))]) (S' := [(.int (4 : Int32))]) (fun t_ k_ => XS.iloadN X1.here hx rfl (hb hby d29_5) rfl  k_) ?_
  refine Go.st (T' := T1) (pc' := 9) (L' := #[.val (.ref a1), .val (.ref a2), .val (.int (o.toInt32)), .val (.int (4 : Int32))]) (S' := []) (fun t_ k_ => XS.ifNo X1.here hx rfl (hb hby d29_6) rfl ((if0 _ _).trans (tlt (by decide : ((0 : Int32) < (4 : Int32)))).2.2.2) k_) ?_
  refine Go.st (T' := T1) (pc' := 10) (L' := #[.val (.ref a1), .val (.ref a2), .val (.int (o.toInt32)), .val (.int (4 : Int32))]) (S' := [(.ref a1)]) (fun t_ k_ => XS.aloadN X1.here hx rfl (hb hby d29_9) rfl rfl  k_) ?_
  refine Go.st (T' := T1) (pc' := 11) (L' := #[.val (.ref a1), .val (.ref a2), .val (.int (o.toInt32)), .val (.int (4 : Int32))]) (S' := [(.int (o.toInt32)), (.ref a1)]) (fun t_ k_ => XS.iloadN X1.here hx rfl (hb hby d29_10) rfl  k_) ?_
  obtain ⟨cq2, kq2, q2a, q2b, q2c⟩ := isOf hZ e1 E_a1
  obtain ⟨_, _, ⟨T2, L2, k2, n2⟩, -, X2, ⟨Lc2, hQ2, l2, y2, z2⟩, st2⟩ := X1.virtualBack hx (y := (⟨"java/lang/String", "charAt", "(I)C"⟩ : MethodName)) (z := (⟨"java/lang/String", "charAt", "(I)C"⟩ : MethodName)) hown (mvT hZ (hw _ (List.mem_of_getElem? (i := 163) rfl))) (mvT hZ (hw _ (List.mem_of_getElem? (i := 164) rfl))) (notFace_of_selects (args := #[]) (mvT hZ (hw _ (List.mem_of_getElem? (i := 166) rfl)))) (mvT hZ (hw _ (List.mem_of_getElem? (i := 166) rfl))) (mvT hZ (hw _ (List.mem_of_getElem? (i := 165) rfl))) (by decide) (backOf (W := 0) (rm30 l Z a0 hw [] a1 t1 _ (rs) (o) (rn) fm gC h0 n0 Z0 SC PC O0 hfm SF E_a1 Fc_a1 Fv_a1 V_t1 (by omega) (by omega)) hZ (hw _ (List.mem_of_getElem? (i := 167) rfl)) (hw _ (List.mem_of_getElem? (i := 6) rfl)) (by decide) (by decide)) q2a q2c (g := (mkF m 11 #[.val (.ref a1), .val (.ref a2), .val (.int (o.toInt32)), .val (.int (4 : Int32))] [(.int (o.toInt32)), (.ref a1)])) rfl (by rw [hml]; rfl) (Steps.refl _) (argsL := [(.int (o.toInt32))]) (rest := []) (lenOf pd_21 rfl) rfl (by show 2 * 0 + _ ≤ _; exact Nat.le_of_eq rfl) (hb hby d29_11) (fun _ _ => ⟨rfl, e1, (by decide : 0 + 0 ≤ _), (by decide : 0 + 0 ≤ _)⟩)
  dsimp only [Pt.U, Pt.locs, Pt.cells, Pt.slots] at X2 l2 y2 z2 st2 hQ2
  subst l2 y2 z2
  unfold Q30 at hQ2
  generalize hx2 : own_ch _ = xc2 at hQ2
  obtain ⟨rfl, N2q, e2⟩ := hQ2
  have N2 := Fr.app N1 N2q
  refine Go.tr (T' := T2) (pc' := 14) (L' := #[.val (.ref a1), .val (.ref a2), .val (.int (o.toInt32)), .val (.int (4 : Int32))]) (S' := [(.int xc2)]) st2 ?_
  refine Go.st (T' := T2) (pc' := 15) (L' := #[.val (.ref a1), .val (.ref a2), .val (.int (o.toInt32)), .val (.int (4 : Int32))]) (S' := [(.ref a2), (.int xc2)]) (fun t_ k_ => XS.aloadN X2.here hx rfl (hb hby d29_14) rfl rfl  k_) ?_
  refine Go.st (T' := T2) (pc' := 16) (L' := #[.val (.ref a1), .val (.ref a2), .val (.int (o.toInt32)), .val (.int (4 : Int32))]) (S' := [(.int (0 : Int32)), (.ref a2), (.int xc2)]) (fun t_ k_ => XS.iconst X2.here hx rfl (hb hby d29_15) k_) ?_
  obtain ⟨cq3, kq3, q3a, q3b, q3c⟩ := isOf hZ e2 E_a2
  obtain ⟨_, _, ⟨T3, L3, k3, n3⟩, -, X3, ⟨Lc3, hQ3, l3, y3, z3⟩, st3⟩ := X2.virtualBack hx (y := (⟨"java/lang/String", "charAt", "(I)C"⟩ : MethodName)) (z := (⟨"java/lang/String", "charAt", "(I)C"⟩ : MethodName)) hown (mvT hZ (hw _ (List.mem_of_getElem? (i := 163) rfl))) (mvT hZ (hw _ (List.mem_of_getElem? (i := 164) rfl))) (notFace_of_selects (args := #[]) (mvT hZ (hw _ (List.mem_of_getElem? (i := 166) rfl)))) (mvT hZ (hw _ (List.mem_of_getElem? (i := 166) rfl))) (mvT hZ (hw _ (List.mem_of_getElem? (i := 165) rfl))) (by decide) (backOf (W := 1) (rm30 l Z a0 hw [] a2 t2 _ (ss) (0) (4) fm gC h0 n0 Z0 SC PC O0 hfm SF E_a2 Fc_a2 Fv_a2 V_t2 (by omega) (by omega)) hZ (hw _ (List.mem_of_getElem? (i := 167) rfl)) (hw _ (List.mem_of_getElem? (i := 6) rfl)) (by decide) (by decide)) q3a q3c (g := (mkF m 16 #[.val (.ref a1), .val (.ref a2), .val (.int (o.toInt32)), .val (.int (4 : Int32))] [(.int (0 : Int32)), (.ref a2), (.int xc2)])) rfl (by rw [hml]; rfl) (Steps.refl _) (argsL := [(.int (0 : Int32))]) (rest := [(.int xc2)]) (lenOf pd_21 rfl) rfl (by show 2 * 0 + _ ≤ _; exact Nat.le_of_eq rfl) (hb hby d29_16) (fun _ _ => ⟨rfl, e2, (by decide : 0 + 0 ≤ _), (by decide : 0 + 0 ≤ _)⟩)
  dsimp only [Pt.U, Pt.locs, Pt.cells, Pt.slots] at X3 l3 y3 z3 st3 hQ3
  subst l3 y3 z3
  unfold Q30 at hQ3
  generalize hx3 : own_ch _ = xc3 at hQ3
  obtain ⟨rfl, N3q, e3⟩ := hQ3
  have N3 := Fr.app N2 N3q
  refine Go.tr (T' := T3) (pc' := 19) (L' := #[.val (.ref a1), .val (.ref a2), .val (.int (o.toInt32)), .val (.int (4 : Int32))]) (S' := [(.int xc3), (.int xc2)]) st3 ?_
  refine Go.st (T' := T3) (pc' := 24) (L' := #[.val (.ref a1), .val (.ref a2), .val (.int (o.toInt32)), .val (.int (4 : Int32))]) (S' := []) (fun t_ k_ => XS.icmpYes X3.here hx rfl (pc0 := 19) (pc' := 24) rfl (hb hby d29_19) rfl (teq (hx2.symm.trans ((congrArg own_ch (hj 0 (by omega))).trans hx3) : (xc2 = xc3))).1 (by decide) (by decide) k_) ?_
  refine Go.st (T' := T3) (pc' := 25) (L' := #[.val (.ref a1), .val (.ref a2), .val (.int (o.toInt32)), .val (.int (4 : Int32))]) (S' := [(.int (4 : Int32))]) (fun t_ k_ => XS.iloadN X3.here hx rfl (hb hby d29_24) rfl  k_) ?_
  refine Go.st (T' := T3) (pc' := 26) (L' := #[.val (.ref a1), .val (.ref a2), .val (.int (o.toInt32)), .val (.int (4 : Int32))]) (S' := [(.int (1 : Int32)), (.int (4 : Int32))]) (fun t_ k_ => XS.iconst X3.here hx rfl (hb hby d29_25) k_) ?_
  refine Go.st (T' := T3) (pc' := 29) (L' := #[.val (.ref a1), .val (.ref a2), .val (.int (o.toInt32)), .val (.int (4 : Int32))]) (S' := []) (fun t_ k_ => XS.icmpNo X3.here hx rfl (hb hby d29_26) rfl (tlt (by decide : ((1 : Int32) < (4 : Int32)))).2.2.2 k_) ?_
  refine Go.st (T' := T3) (pc' := 30) (L' := #[.val (.ref a1), .val (.ref a2), .val (.int (o.toInt32)), .val (.int (4 : Int32))]) (S' := [(.ref a1)]) (fun t_ k_ => XS.aloadN X3.here hx rfl (hb hby d29_29) rfl rfl  k_) ?_
  refine Go.st (T' := T3) (pc' := 31) (L' := #[.val (.ref a1), .val (.ref a2), .val (.int (o.toInt32)), .val (.int (4 : Int32))]) (S' := [(.int (o.toInt32)), (.ref a1)]) (fun t_ k_ => XS.iloadN X3.here hx rfl (hb hby d29_30) rfl  k_) ?_
  refine Go.st (T' := T3) (pc' := 32) (L' := #[.val (.ref a1), .val (.ref a2), .val (.int (o.toInt32)), .val (.int (4 : Int32))]) (S' := [(.int (1 : Int32)), (.int (o.toInt32)), (.ref a1)]) (fun t_ k_ => XS.iconst X3.here hx rfl (hb hby d29_31) k_) ?_
  refine Go.st (T' := T3) (pc' := 33) (L' := #[.val (.ref a1), .val (.ref a2), .val (.int (o.toInt32)), .val (.int (4 : Int32))]) (S' := [(.int ((o.toInt32) + (1 : Int32))), (.ref a1)]) (fun t_ k_ => XS.iadd X3.here hx rfl (hb hby d29_32) rfl k_) ?_
  rw [show (o.toInt32) + (1 : Int32) = (o + 1).toInt32 from own_addN (m := o) (n := 1) (by omega)]
  obtain ⟨cq4, kq4, q4a, q4b, q4c⟩ := isOf hZ e3 E_a1
  obtain ⟨_, _, ⟨T4, L4, k4, n4⟩, -, X4, ⟨Lc4, hQ4, l4, y4, z4⟩, st4⟩ := X3.virtualBack hx (y := (⟨"java/lang/String", "charAt", "(I)C"⟩ : MethodName)) (z := (⟨"java/lang/String", "charAt", "(I)C"⟩ : MethodName)) hown (mvT hZ (hw _ (List.mem_of_getElem? (i := 163) rfl))) (mvT hZ (hw _ (List.mem_of_getElem? (i := 164) rfl))) (notFace_of_selects (args := #[]) (mvT hZ (hw _ (List.mem_of_getElem? (i := 166) rfl)))) (mvT hZ (hw _ (List.mem_of_getElem? (i := 166) rfl))) (mvT hZ (hw _ (List.mem_of_getElem? (i := 165) rfl))) (by decide) (backOf (W := 0) (rm30 l Z a0 hw [] a1 t1 _ (rs) ((o + 1)) (rn) fm gC h0 n0 Z0 SC PC O0 hfm SF E_a1 Fc_a1 Fv_a1 V_t1 (by omega) (by omega)) hZ (hw _ (List.mem_of_getElem? (i := 167) rfl)) (hw _ (List.mem_of_getElem? (i := 6) rfl)) (by decide) (by decide)) q4a q4c (g := (mkF m 33 #[.val (.ref a1), .val (.ref a2), .val (.int (o.toInt32)), .val (.int (4 : Int32))] [(.int ((o + 1).toInt32)), (.ref a1)])) rfl (by rw [hml]; rfl) (Steps.refl _) (argsL := [(.int ((o + 1).toInt32))]) (rest := []) (lenOf pd_21 rfl) rfl (by show 2 * 0 + _ ≤ _; exact Nat.le_of_eq rfl) (hb hby d29_33) (fun _ _ => ⟨rfl, e3, (by decide : 0 + 0 ≤ _), (by decide : 0 + 0 ≤ _)⟩)
  dsimp only [Pt.U, Pt.locs, Pt.cells, Pt.slots] at X4 l4 y4 z4 st4 hQ4
  subst l4 y4 z4
  unfold Q30 at hQ4
  generalize hx4 : own_ch _ = xc4 at hQ4
  obtain ⟨rfl, N4q, e4⟩ := hQ4
  have N4 := Fr.app N3 N4q
  refine Go.tr (T' := T4) (pc' := 36) (L' := #[.val (.ref a1), .val (.ref a2), .val (.int (o.toInt32)), .val (.int (4 : Int32))]) (S' := [(.int xc4)]) st4 ?_
  refine Go.st (T' := T4) (pc' := 37) (L' := #[.val (.ref a1), .val (.ref a2), .val (.int (o.toInt32)), .val (.int (4 : Int32))]) (S' := [(.ref a2), (.int xc4)]) (fun t_ k_ => XS.aloadN X4.here hx rfl (hb hby d29_36) rfl rfl  k_) ?_
  refine Go.st (T' := T4) (pc' := 38) (L' := #[.val (.ref a1), .val (.ref a2), .val (.int (o.toInt32)), .val (.int (4 : Int32))]) (S' := [(.int (1 : Int32)), (.ref a2), (.int xc4)]) (fun t_ k_ => XS.iconst X4.here hx rfl (hb hby d29_37) k_) ?_
  obtain ⟨cq5, kq5, q5a, q5b, q5c⟩ := isOf hZ e4 E_a2
  obtain ⟨_, _, ⟨T5, L5, k5, n5⟩, -, X5, ⟨Lc5, hQ5, l5, y5, z5⟩, st5⟩ := X4.virtualBack hx (y := (⟨"java/lang/String", "charAt", "(I)C"⟩ : MethodName)) (z := (⟨"java/lang/String", "charAt", "(I)C"⟩ : MethodName)) hown (mvT hZ (hw _ (List.mem_of_getElem? (i := 163) rfl))) (mvT hZ (hw _ (List.mem_of_getElem? (i := 164) rfl))) (notFace_of_selects (args := #[]) (mvT hZ (hw _ (List.mem_of_getElem? (i := 166) rfl)))) (mvT hZ (hw _ (List.mem_of_getElem? (i := 166) rfl))) (mvT hZ (hw _ (List.mem_of_getElem? (i := 165) rfl))) (by decide) (backOf (W := 1) (rm30 l Z a0 hw [] a2 t2 _ (ss) (1) (4) fm gC h0 n0 Z0 SC PC O0 hfm SF E_a2 Fc_a2 Fv_a2 V_t2 (by omega) (by omega)) hZ (hw _ (List.mem_of_getElem? (i := 167) rfl)) (hw _ (List.mem_of_getElem? (i := 6) rfl)) (by decide) (by decide)) q5a q5c (g := (mkF m 38 #[.val (.ref a1), .val (.ref a2), .val (.int (o.toInt32)), .val (.int (4 : Int32))] [(.int (1 : Int32)), (.ref a2), (.int xc4)])) rfl (by rw [hml]; rfl) (Steps.refl _) (argsL := [(.int (1 : Int32))]) (rest := [(.int xc4)]) (lenOf pd_21 rfl) rfl (by show 2 * 0 + _ ≤ _; exact Nat.le_of_eq rfl) (hb hby d29_38) (fun _ _ => ⟨rfl, e4, (by decide : 0 + 0 ≤ _), (by decide : 0 + 0 ≤ _)⟩)
  dsimp only [Pt.U, Pt.locs, Pt.cells, Pt.slots] at X5 l5 y5 z5 st5 hQ5
  subst l5 y5 z5
  unfold Q30 at hQ5
  generalize hx5 : own_ch _ = xc5 at hQ5
  obtain ⟨rfl, N5q, e5⟩ := hQ5
  have N5 := Fr.app N4 N5q
  refine Go.tr (T' := T5) (pc' := 41) (L' := #[.val (.ref a1), .val (.ref a2), .val (.int (o.toInt32)), .val (.int (4 : Int32))]) (S' := [(.int xc5), (.int xc4)]) st5 ?_
  refine Go.st (T' := T5) (pc' := 46) (L' := #[.val (.ref a1), .val (.ref a2), .val (.int (o.toInt32)), .val (.int (4 : Int32))]) (S' := []) (fun t_ k_ => XS.icmpYes X5.here hx rfl (pc0 := 41) (pc' := 46) rfl (hb hby d29_41) rfl (teq (hx4.symm.trans ((congrArg own_ch (hj 1 (by omega))).trans hx5) : (xc4 = xc5))).1 (by decide) (by decide) k_) ?_
  refine Go.st (T' := T5) (pc' := 47) (L' := #[.val (.ref a1), .val (.ref a2), .val (.int (o.toInt32)), .val (.int (4 : Int32))]) (S' := [(.int (4 : Int32))]) (fun t_ k_ => XS.iloadN X5.here hx rfl (hb hby d29_46) rfl  k_) ?_
  refine Go.st (T' := T5) (pc' := 48) (L' := #[.val (.ref a1), .val (.ref a2), .val (.int (o.toInt32)), .val (.int (4 : Int32))]) (S' := [(.int (2 : Int32)), (.int (4 : Int32))]) (fun t_ k_ => XS.iconst X5.here hx rfl (hb hby d29_47) k_) ?_
  refine Go.st (T' := T5) (pc' := 51) (L' := #[.val (.ref a1), .val (.ref a2), .val (.int (o.toInt32)), .val (.int (4 : Int32))]) (S' := []) (fun t_ k_ => XS.icmpNo X5.here hx rfl (hb hby d29_48) rfl (tlt (by decide : ((2 : Int32) < (4 : Int32)))).2.2.2 k_) ?_
  refine Go.st (T' := T5) (pc' := 52) (L' := #[.val (.ref a1), .val (.ref a2), .val (.int (o.toInt32)), .val (.int (4 : Int32))]) (S' := [(.ref a1)]) (fun t_ k_ => XS.aloadN X5.here hx rfl (hb hby d29_51) rfl rfl  k_) ?_
  refine Go.st (T' := T5) (pc' := 53) (L' := #[.val (.ref a1), .val (.ref a2), .val (.int (o.toInt32)), .val (.int (4 : Int32))]) (S' := [(.int (o.toInt32)), (.ref a1)]) (fun t_ k_ => XS.iloadN X5.here hx rfl (hb hby d29_52) rfl  k_) ?_
  refine Go.st (T' := T5) (pc' := 54) (L' := #[.val (.ref a1), .val (.ref a2), .val (.int (o.toInt32)), .val (.int (4 : Int32))]) (S' := [(.int (2 : Int32)), (.int (o.toInt32)), (.ref a1)]) (fun t_ k_ => XS.iconst X5.here hx rfl (hb hby d29_53) k_) ?_
  refine Go.st (T' := T5) (pc' := 55) (L' := #[.val (.ref a1), .val (.ref a2), .val (.int (o.toInt32)), .val (.int (4 : Int32))]) (S' := [(.int ((o.toInt32) + (2 : Int32))), (.ref a1)]) (fun t_ k_ => XS.iadd X5.here hx rfl (hb hby d29_54) rfl k_) ?_
  rw [show (o.toInt32) + (2 : Int32) = (o + 2).toInt32 from own_addN (m := o) (n := 2) (by omega)]
  obtain ⟨cq6, kq6, q6a, q6b, q6c⟩ := isOf hZ e5 E_a1
  obtain ⟨_, _, ⟨T6, L6, k6, n6⟩, -, X6, ⟨Lc6, hQ6, l6, y6, z6⟩, st6⟩ := X5.virtualBack hx (y := (⟨"java/lang/String", "charAt", "(I)C"⟩ : MethodName)) (z := (⟨"java/lang/String", "charAt", "(I)C"⟩ : MethodName)) hown (mvT hZ (hw _ (List.mem_of_getElem? (i := 163) rfl))) (mvT hZ (hw _ (List.mem_of_getElem? (i := 164) rfl))) (notFace_of_selects (args := #[]) (mvT hZ (hw _ (List.mem_of_getElem? (i := 166) rfl)))) (mvT hZ (hw _ (List.mem_of_getElem? (i := 166) rfl))) (mvT hZ (hw _ (List.mem_of_getElem? (i := 165) rfl))) (by decide) (backOf (W := 0) (rm30 l Z a0 hw [] a1 t1 _ (rs) ((o + 2)) (rn) fm gC h0 n0 Z0 SC PC O0 hfm SF E_a1 Fc_a1 Fv_a1 V_t1 (by omega) (by omega)) hZ (hw _ (List.mem_of_getElem? (i := 167) rfl)) (hw _ (List.mem_of_getElem? (i := 6) rfl)) (by decide) (by decide)) q6a q6c (g := (mkF m 55 #[.val (.ref a1), .val (.ref a2), .val (.int (o.toInt32)), .val (.int (4 : Int32))] [(.int ((o + 2).toInt32)), (.ref a1)])) rfl (by rw [hml]; rfl) (Steps.refl _) (argsL := [(.int ((o + 2).toInt32))]) (rest := []) (lenOf pd_21 rfl) rfl (by show 2 * 0 + _ ≤ _; exact Nat.le_of_eq rfl) (hb hby d29_55) (fun _ _ => ⟨rfl, e5, (by decide : 0 + 0 ≤ _), (by decide : 0 + 0 ≤ _)⟩)
  dsimp only [Pt.U, Pt.locs, Pt.cells, Pt.slots] at X6 l6 y6 z6 st6 hQ6
  subst l6 y6 z6
  unfold Q30 at hQ6
  generalize hx6 : own_ch _ = xc6 at hQ6
  obtain ⟨rfl, N6q, e6⟩ := hQ6
  have N6 := Fr.app N5 N6q
  refine Go.tr (T' := T6) (pc' := 58) (L' := #[.val (.ref a1), .val (.ref a2), .val (.int (o.toInt32)), .val (.int (4 : Int32))]) (S' := [(.int xc6)]) st6 ?_
  refine Go.st (T' := T6) (pc' := 59) (L' := #[.val (.ref a1), .val (.ref a2), .val (.int (o.toInt32)), .val (.int (4 : Int32))]) (S' := [(.ref a2), (.int xc6)]) (fun t_ k_ => XS.aloadN X6.here hx rfl (hb hby d29_58) rfl rfl  k_) ?_
  refine Go.st (T' := T6) (pc' := 60) (L' := #[.val (.ref a1), .val (.ref a2), .val (.int (o.toInt32)), .val (.int (4 : Int32))]) (S' := [(.int (2 : Int32)), (.ref a2), (.int xc6)]) (fun t_ k_ => XS.iconst X6.here hx rfl (hb hby d29_59) k_) ?_
  obtain ⟨cq7, kq7, q7a, q7b, q7c⟩ := isOf hZ e6 E_a2
  obtain ⟨_, _, ⟨T7, L7, k7, n7⟩, -, X7, ⟨Lc7, hQ7, l7, y7, z7⟩, st7⟩ := X6.virtualBack hx (y := (⟨"java/lang/String", "charAt", "(I)C"⟩ : MethodName)) (z := (⟨"java/lang/String", "charAt", "(I)C"⟩ : MethodName)) hown (mvT hZ (hw _ (List.mem_of_getElem? (i := 163) rfl))) (mvT hZ (hw _ (List.mem_of_getElem? (i := 164) rfl))) (notFace_of_selects (args := #[]) (mvT hZ (hw _ (List.mem_of_getElem? (i := 166) rfl)))) (mvT hZ (hw _ (List.mem_of_getElem? (i := 166) rfl))) (mvT hZ (hw _ (List.mem_of_getElem? (i := 165) rfl))) (by decide) (backOf (W := 1) (rm30 l Z a0 hw [] a2 t2 _ (ss) (2) (4) fm gC h0 n0 Z0 SC PC O0 hfm SF E_a2 Fc_a2 Fv_a2 V_t2 (by omega) (by omega)) hZ (hw _ (List.mem_of_getElem? (i := 167) rfl)) (hw _ (List.mem_of_getElem? (i := 6) rfl)) (by decide) (by decide)) q7a q7c (g := (mkF m 60 #[.val (.ref a1), .val (.ref a2), .val (.int (o.toInt32)), .val (.int (4 : Int32))] [(.int (2 : Int32)), (.ref a2), (.int xc6)])) rfl (by rw [hml]; rfl) (Steps.refl _) (argsL := [(.int (2 : Int32))]) (rest := [(.int xc6)]) (lenOf pd_21 rfl) rfl (by show 2 * 0 + _ ≤ _; exact Nat.le_of_eq rfl) (hb hby d29_60) (fun _ _ => ⟨rfl, e6, (by decide : 0 + 0 ≤ _), (by decide : 0 + 0 ≤ _)⟩)
  dsimp only [Pt.U, Pt.locs, Pt.cells, Pt.slots] at X7 l7 y7 z7 st7 hQ7
  subst l7 y7 z7
  unfold Q30 at hQ7
  generalize hx7 : own_ch _ = xc7 at hQ7
  obtain ⟨rfl, N7q, e7⟩ := hQ7
  have N7 := Fr.app N6 N7q
  refine Go.tr (T' := T7) (pc' := 63) (L' := #[.val (.ref a1), .val (.ref a2), .val (.int (o.toInt32)), .val (.int (4 : Int32))]) (S' := [(.int xc7), (.int xc6)]) st7 ?_
  refine Go.st (T' := T7) (pc' := 68) (L' := #[.val (.ref a1), .val (.ref a2), .val (.int (o.toInt32)), .val (.int (4 : Int32))]) (S' := []) (fun t_ k_ => XS.icmpYes X7.here hx rfl (pc0 := 63) (pc' := 68) rfl (hb hby d29_63) rfl (teq (hx6.symm.trans ((congrArg own_ch (hj 2 (by omega))).trans hx7) : (xc6 = xc7))).1 (by decide) (by decide) k_) ?_
  refine Go.st (T' := T7) (pc' := 69) (L' := #[.val (.ref a1), .val (.ref a2), .val (.int (o.toInt32)), .val (.int (4 : Int32))]) (S' := [(.int (4 : Int32))]) (fun t_ k_ => XS.iloadN X7.here hx rfl (hb hby d29_68) rfl  k_) ?_
  refine Go.st (T' := T7) (pc' := 70) (L' := #[.val (.ref a1), .val (.ref a2), .val (.int (o.toInt32)), .val (.int (4 : Int32))]) (S' := [(.int (3 : Int32)), (.int (4 : Int32))]) (fun t_ k_ => XS.iconst X7.here hx rfl (hb hby d29_69) k_) ?_
  refine Go.st (T' := T7) (pc' := 73) (L' := #[.val (.ref a1), .val (.ref a2), .val (.int (o.toInt32)), .val (.int (4 : Int32))]) (S' := []) (fun t_ k_ => XS.icmpNo X7.here hx rfl (hb hby d29_70) rfl (tlt (by decide : ((3 : Int32) < (4 : Int32)))).2.2.2 k_) ?_
  refine Go.st (T' := T7) (pc' := 74) (L' := #[.val (.ref a1), .val (.ref a2), .val (.int (o.toInt32)), .val (.int (4 : Int32))]) (S' := [(.ref a1)]) (fun t_ k_ => XS.aloadN X7.here hx rfl (hb hby d29_73) rfl rfl  k_) ?_
  refine Go.st (T' := T7) (pc' := 75) (L' := #[.val (.ref a1), .val (.ref a2), .val (.int (o.toInt32)), .val (.int (4 : Int32))]) (S' := [(.int (o.toInt32)), (.ref a1)]) (fun t_ k_ => XS.iloadN X7.here hx rfl (hb hby d29_74) rfl  k_) ?_
  refine Go.st (T' := T7) (pc' := 76) (L' := #[.val (.ref a1), .val (.ref a2), .val (.int (o.toInt32)), .val (.int (4 : Int32))]) (S' := [(.int (3 : Int32)), (.int (o.toInt32)), (.ref a1)]) (fun t_ k_ => XS.iconst X7.here hx rfl (hb hby d29_75) k_) ?_
  refine Go.st (T' := T7) (pc' := 77) (L' := #[.val (.ref a1), .val (.ref a2), .val (.int (o.toInt32)), .val (.int (4 : Int32))]) (S' := [(.int ((o.toInt32) + (3 : Int32))), (.ref a1)]) (fun t_ k_ => XS.iadd X7.here hx rfl (hb hby d29_76) rfl k_) ?_
  rw [show (o.toInt32) + (3 : Int32) = (o + 3).toInt32 from own_addN (m := o) (n := 3) (by omega)]
  obtain ⟨cq8, kq8, q8a, q8b, q8c⟩ := isOf hZ e7 E_a1
  obtain ⟨_, _, ⟨T8, L8, k8, n8⟩, -, X8, ⟨Lc8, hQ8, l8, y8, z8⟩, st8⟩ := X7.virtualBack hx (y := (⟨"java/lang/String", "charAt", "(I)C"⟩ : MethodName)) (z := (⟨"java/lang/String", "charAt", "(I)C"⟩ : MethodName)) hown (mvT hZ (hw _ (List.mem_of_getElem? (i := 163) rfl))) (mvT hZ (hw _ (List.mem_of_getElem? (i := 164) rfl))) (notFace_of_selects (args := #[]) (mvT hZ (hw _ (List.mem_of_getElem? (i := 166) rfl)))) (mvT hZ (hw _ (List.mem_of_getElem? (i := 166) rfl))) (mvT hZ (hw _ (List.mem_of_getElem? (i := 165) rfl))) (by decide) (backOf (W := 0) (rm30 l Z a0 hw [] a1 t1 _ (rs) ((o + 3)) (rn) fm gC h0 n0 Z0 SC PC O0 hfm SF E_a1 Fc_a1 Fv_a1 V_t1 (by omega) (by omega)) hZ (hw _ (List.mem_of_getElem? (i := 167) rfl)) (hw _ (List.mem_of_getElem? (i := 6) rfl)) (by decide) (by decide)) q8a q8c (g := (mkF m 77 #[.val (.ref a1), .val (.ref a2), .val (.int (o.toInt32)), .val (.int (4 : Int32))] [(.int ((o + 3).toInt32)), (.ref a1)])) rfl (by rw [hml]; rfl) (Steps.refl _) (argsL := [(.int ((o + 3).toInt32))]) (rest := []) (lenOf pd_21 rfl) rfl (by show 2 * 0 + _ ≤ _; exact Nat.le_of_eq rfl) (hb hby d29_77) (fun _ _ => ⟨rfl, e7, (by decide : 0 + 0 ≤ _), (by decide : 0 + 0 ≤ _)⟩)
  dsimp only [Pt.U, Pt.locs, Pt.cells, Pt.slots] at X8 l8 y8 z8 st8 hQ8
  subst l8 y8 z8
  unfold Q30 at hQ8
  generalize hx8 : own_ch _ = xc8 at hQ8
  obtain ⟨rfl, N8q, e8⟩ := hQ8
  have N8 := Fr.app N7 N8q
  refine Go.tr (T' := T8) (pc' := 80) (L' := #[.val (.ref a1), .val (.ref a2), .val (.int (o.toInt32)), .val (.int (4 : Int32))]) (S' := [(.int xc8)]) st8 ?_
  refine Go.st (T' := T8) (pc' := 81) (L' := #[.val (.ref a1), .val (.ref a2), .val (.int (o.toInt32)), .val (.int (4 : Int32))]) (S' := [(.ref a2), (.int xc8)]) (fun t_ k_ => XS.aloadN X8.here hx rfl (hb hby d29_80) rfl rfl  k_) ?_
  refine Go.st (T' := T8) (pc' := 82) (L' := #[.val (.ref a1), .val (.ref a2), .val (.int (o.toInt32)), .val (.int (4 : Int32))]) (S' := [(.int (3 : Int32)), (.ref a2), (.int xc8)]) (fun t_ k_ => XS.iconst X8.here hx rfl (hb hby d29_81) k_) ?_
  obtain ⟨cq9, kq9, q9a, q9b, q9c⟩ := isOf hZ e8 E_a2
  obtain ⟨_, _, ⟨T9, L9, k9, n9⟩, -, X9, ⟨Lc9, hQ9, l9, y9, z9⟩, st9⟩ := X8.virtualBack hx (y := (⟨"java/lang/String", "charAt", "(I)C"⟩ : MethodName)) (z := (⟨"java/lang/String", "charAt", "(I)C"⟩ : MethodName)) hown (mvT hZ (hw _ (List.mem_of_getElem? (i := 163) rfl))) (mvT hZ (hw _ (List.mem_of_getElem? (i := 164) rfl))) (notFace_of_selects (args := #[]) (mvT hZ (hw _ (List.mem_of_getElem? (i := 166) rfl)))) (mvT hZ (hw _ (List.mem_of_getElem? (i := 166) rfl))) (mvT hZ (hw _ (List.mem_of_getElem? (i := 165) rfl))) (by decide) (backOf (W := 1) (rm30 l Z a0 hw [] a2 t2 _ (ss) (3) (4) fm gC h0 n0 Z0 SC PC O0 hfm SF E_a2 Fc_a2 Fv_a2 V_t2 (by omega) (by omega)) hZ (hw _ (List.mem_of_getElem? (i := 167) rfl)) (hw _ (List.mem_of_getElem? (i := 6) rfl)) (by decide) (by decide)) q9a q9c (g := (mkF m 82 #[.val (.ref a1), .val (.ref a2), .val (.int (o.toInt32)), .val (.int (4 : Int32))] [(.int (3 : Int32)), (.ref a2), (.int xc8)])) rfl (by rw [hml]; rfl) (Steps.refl _) (argsL := [(.int (3 : Int32))]) (rest := [(.int xc8)]) (lenOf pd_21 rfl) rfl (by show 2 * 0 + _ ≤ _; exact Nat.le_of_eq rfl) (hb hby d29_82) (fun _ _ => ⟨rfl, e8, (by decide : 0 + 0 ≤ _), (by decide : 0 + 0 ≤ _)⟩)
  dsimp only [Pt.U, Pt.locs, Pt.cells, Pt.slots] at X9 l9 y9 z9 st9 hQ9
  subst l9 y9 z9
  unfold Q30 at hQ9
  generalize hx9 : own_ch _ = xc9 at hQ9
  obtain ⟨rfl, N9q, e9⟩ := hQ9
  have N9 := Fr.app N8 N9q
  refine Go.tr (T' := T9) (pc' := 85) (L' := #[.val (.ref a1), .val (.ref a2), .val (.int (o.toInt32)), .val (.int (4 : Int32))]) (S' := [(.int xc9), (.int xc8)]) st9 ?_
  refine Go.st (T' := T9) (pc' := 90) (L' := #[.val (.ref a1), .val (.ref a2), .val (.int (o.toInt32)), .val (.int (4 : Int32))]) (S' := []) (fun t_ k_ => XS.icmpYes X9.here hx rfl (pc0 := 85) (pc' := 90) rfl (hb hby d29_85) rfl (teq (hx8.symm.trans ((congrArg own_ch (hj 3 (by omega))).trans hx9) : (xc8 = xc9))).1 (by decide) (by decide) k_) ?_
  refine Go.st (T' := T9) (pc' := 91) (L' := #[.val (.ref a1), .val (.ref a2), .val (.int (o.toInt32)), .val (.int (4 : Int32))]) (S' := [(.int (1 : Int32))]) (fun t_ k_ => XS.iconst X9.here hx rfl (hb hby d29_90) k_) ?_
  exact Go.retN X9 hx hlk hret (by simp) (hb hby d29_91) (by decide) (by decide) (by rw [e9]; exact ⟨rfl, N9, rfl⟩)
set_option maxRecDepth 65536 in
set_option maxHeartbeats 40000000 in
theorem rmpre (l : Launch) (Z : State) (a0 : Array Value) (hw : ∀ d ∈ tables_1, d.before a0 Z = true) (ws : List Jvm.Cond) (a1 : Addr) (t1 : Addr) (k1 : ClassId) (rs : List Int32) (rn : Nat) (a2 : Addr) (t2 : Addr) (k2 : ClassId) (ss : List Int32) (o : Nat) (fm : Value) (gC : Int32) (n : Nat) (h0 : Heap) (n0 : Nat) (Z0 : n0 ≤ h0.size) (SC : Sta Z Z.heap "java/lang/String" "COMPACT_STRINGS" "Z" (.int gC)) (PC : ¬ (gC = (0 : Int32))) (O0 : Old Z n0 h0) (hfm : fm.isRef = true) (SF : Sta Z Z.heap "jdk/internal/util/Preconditions" "SIOOBE_FORMATTER" "Ljava/util/function/BiFunction;" fm) (E_a1 : Exa Z h0 a1 "java/lang/String") (Fc_a1 : Fld Z h0 a1 "java/lang/String" "coder" "B" (.int (0 : Int32))) (Fv_a1 : Fld Z h0 a1 "java/lang/String" "value" "[B" (.ref t1)) (V_t1 : Arv Z h0 t1 k1 .byte (rn.toInt32) (rs.map Value.int) (.int (0 : Int32))) (E_a2 : Exa Z h0 a2 "java/lang/String") (Fc_a2 : Fld Z h0 a2 "java/lang/String" "coder" "B" (.int (0 : Int32))) (Fv_a2 : Fld Z h0 a2 "java/lang/String" "value" "[B" (.ref t2)) (V_t2 : Arv Z h0 t2 k2 .byte (n.toInt32) (ss.map Value.int) (.int (0 : Int32))) (hr : rs.length = rn) (hrn : rn ≤ 16) (hs : ss.length = n) (ho : o + n ≤ rn) (hj : ∀ j, j < n → rs.getD (o + j) 0 = ss.getD j 0) (hn : n ≤ 2 ∨ n = 4) :
    MetFree l (⟨"com/example/vestry/vestry/plan/PlanSectionToStringPinLaw", "pre", "(Ljava/lang/String;Ljava/lang/String;I)Z"⟩ : MethodName) (head1 (Jvm.Cond.code (⟨"com/example/vestry/vestry/plan/PlanSectionToStringPinLaw", "pre", "(Ljava/lang/String;Ljava/lang/String;I)Z"⟩ : MethodName) method_4_code 4 (some .boolean) :: ws) roompre4) (fun aa_ U_ => aa_ = #[(.ref a1), (.ref a2), (.int (o.toInt32))] ∧ Z.Warmed39 U_.vm ∧ U_.heap = h0) (fun _ _ _ _ _ => True) (fun _ U_ o_ W_ => ∃ v_ L_, o_ = .returned v_ ∧ (Qpre4 Z  h0 n0) v_ W_.heap L_ ∧ FrameEnd U_ o_ W_ L_ roompre4.cells roompre4.slots) := by
  rcases (by omega : n = 0 ∨ n = 1 ∨ n = 2 ∨ n = 4) with rfl | rfl | rfl | rfl
  · exact rmpre0 l Z a0 hw ws a1 t1 k1 rs rn a2 t2 k2 ss o fm gC h0 n0 Z0 SC PC O0 hfm SF E_a1 Fc_a1 Fv_a1 V_t1 E_a2 Fc_a2 Fv_a2 V_t2 hr hrn hs ho hj
  · exact rmpre1 l Z a0 hw ws a1 t1 k1 rs rn a2 t2 k2 ss o fm gC h0 n0 Z0 SC PC O0 hfm SF E_a1 Fc_a1 Fv_a1 V_t1 E_a2 Fc_a2 Fv_a2 V_t2 hr hrn hs ho hj
  · exact rmpre2 l Z a0 hw ws a1 t1 k1 rs rn a2 t2 k2 ss o fm gC h0 n0 Z0 SC PC O0 hfm SF E_a1 Fc_a1 Fv_a1 V_t1 E_a2 Fc_a2 Fv_a2 V_t2 hr hrn hs ho hj
  · exact rmpre4 l Z a0 hw ws a1 t1 k1 rs rn a2 t2 k2 ss o fm gC h0 n0 Z0 SC PC O0 hfm SF E_a1 Fc_a1 Fv_a1 V_t1 E_a2 Fc_a2 Fv_a2 V_t2 hr hrn hs ho hj
theorem d1_0 : decode method_3_code 0 = .ok (.iload_n 0, 1) := by decide +kernel
theorem d1_1 : decode method_3_code 1 = .ok (.iconst 3, 1) := by decide +kernel
theorem d1_2 : decode method_3_code 2 = .ok (.if_icmp .ne 5, 3) := by decide +kernel
theorem d1_5 : decode method_3_code 5 = .ok (.aconst_null, 1) := by decide +kernel
theorem d1_6 : decode method_3_code 6 = .ok (.areturn, 1) := by decide +kernel
def Qmkn (Z : State) (p2 : Int32) (h0 : Heap) (n0 : Nat) (v : Option Value) (h : Heap) (L : List Loc) : Prop := v = some .null ∧ Fr n0 L ∧ h = h0
def roommkn : Room := { frames := 0, cells := 0, slots := 0, locals := 0 }
set_option maxRecDepth 65536 in
set_option maxHeartbeats 40000000 in
theorem rmmkn (l : Launch) (Z : State) (a0 : Array Value) (hw : ∀ d ∈ tables_1, d.before a0 Z = true) (ws : List Jvm.Cond) (p2 : Int32) (h0 : Heap) (n0 : Nat) (Z0 : n0 ≤ h0.size)  :
    MetFree l (⟨"com/example/vestry/vestry/plan/PlanSectionToStringPinLaw", "mk", "(II)Ljava/lang/String;"⟩ : MethodName) (head1 (Jvm.Cond.code (⟨"com/example/vestry/vestry/plan/PlanSectionToStringPinLaw", "mk", "(II)Ljava/lang/String;"⟩ : MethodName) method_3_code 5 (some (.object "java/lang/String")) :: ws) roommkn) (fun aa_ U_ => aa_ = #[(.int (3 : Int32)), (.int p2)] ∧ Z.Warmed39 U_.vm ∧ U_.heap = h0) (fun _ _ _ _ _ => True) (fun _ U_ o_ W_ => ∃ v_ L_, o_ = .returned v_ ∧ (Qmkn Z p2 h0 n0) v_ W_.heap L_ ∧ FrameEnd U_ o_ W_ L_ roommkn.cells roommkn.slots) := by
  refine own_met (Q := (Qmkn Z p2 h0 n0)) (L0 := #[.val (.int (3 : Int32)), .val (.int p2), .unset, .unset, .unset]) (plainFor_of_name pn_8) (fun m => by first | (simp [entryFrame, mkF, argsToLocals, Value.category]; done) | rfl) ?_
  intro p e s m below meth c T0 X0 hx hby hml hown hnm hret hlk hZ e0
  have N0 := Fr.nil n0
  refine Go.st (T' := T0) (pc' := 1) (L' := #[.val (.int (3 : Int32)), .val (.int p2), .unset, .unset, .unset]) (S' := [(.int (3 : Int32))]) (fun t_ k_ => XS.iloadN X0.here hx rfl (hb hby d1_0) rfl  k_) ?_
  refine Go.st (T' := T0) (pc' := 2) (L' := #[.val (.int (3 : Int32)), .val (.int p2), .unset, .unset, .unset]) (S' := [(.int (3 : Int32)), (.int (3 : Int32))]) (fun t_ k_ => XS.iconst X0.here hx rfl (hb hby d1_1) k_) ?_
  refine Go.st (T' := T0) (pc' := 5) (L' := #[.val (.int (3 : Int32)), .val (.int p2), .unset, .unset, .unset]) (S' := []) (fun t_ k_ => XS.icmpNo X0.here hx rfl (hb hby d1_2) rfl (teq (by decide : ((3 : Int32) = (3 : Int32)))).2 k_) ?_
  refine Go.st (T' := T0) (pc' := 6) (L' := #[.val (.int (3 : Int32)), .val (.int p2), .unset, .unset, .unset]) (S' := [.null]) (fun t_ k_ => XS.aconstNull X0.here hx rfl (hb hby d1_5) k_) ?_
  exact Go.retO X0 hx hlk hret rfl (by simp [FieldType.isReference, Value.isRef]) (hb hby d1_6) (by decide) (by decide) (by rw [e0]; exact ⟨rfl, N0, rfl⟩)
theorem d1_7 : decode method_3_code 7 = .ok (.iload_n 1, 1) := by decide +kernel
theorem d1_8 : decode method_3_code 8 = .ok (.sipush 255, 3) := by decide +kernel
theorem d1_11 : decode method_3_code 11 = .ok (.iand, 1) := by decide +kernel
theorem d1_12 : decode method_3_code 12 = .ok (.i2c, 1) := by decide +kernel
theorem d1_13 : decode method_3_code 13 = .ok (.istore_n 2, 1) := by decide +kernel
theorem d1_14 : decode method_3_code 14 = .ok (.iload_n 1, 1) := by decide +kernel
theorem d1_15 : decode method_3_code 15 = .ok (.bipush 8, 2) := by decide +kernel
theorem d1_17 : decode method_3_code 17 = .ok (.iushr, 1) := by decide +kernel
theorem d1_18 : decode method_3_code 18 = .ok (.sipush 255, 3) := by decide +kernel
theorem d1_21 : decode method_3_code 21 = .ok (.iand, 1) := by decide +kernel
theorem d1_22 : decode method_3_code 22 = .ok (.i2c, 1) := by decide +kernel
theorem d1_23 : decode method_3_code 23 = .ok (.istore_n 3, 1) := by decide +kernel
theorem d1_24 : decode method_3_code 24 = .ok (.iload_n 0, 1) := by decide +kernel
theorem d1_25 : decode method_3_code 25 = .ok (.ifCond .ne 14, 3) := by decide +kernel
theorem d1_28 : decode method_3_code 28 = .ok (.new 25, 3) := by decide +kernel
theorem d1_31 : decode method_3_code 31 = .ok (.dup, 1) := by decide +kernel
theorem d1_32 : decode method_3_code 32 = .ok (.iconst 0, 1) := by decide +kernel
theorem d1_33 : decode method_3_code 33 = .ok (.newarray .char, 2) := by decide +kernel
theorem d1_35 : decode method_3_code 35 = .ok (.invokespecial 38, 3) := by decide +kernel
theorem d1_38 : decode method_3_code 38 = .ok (.areturn, 1) := by decide +kernel
theorem d1_39 : decode method_3_code 39 = .ok (.iload_n 0, 1) := by decide +kernel
theorem d1_40 : decode method_3_code 40 = .ok (.iconst 1, 1) := by decide +kernel
theorem d1_41 : decode method_3_code 41 = .ok (.if_icmp .ne 23, 3) := by decide +kernel
theorem d1_44 : decode method_3_code 44 = .ok (.iconst 1, 1) := by decide +kernel
theorem d1_45 : decode method_3_code 45 = .ok (.newarray .char, 2) := by decide +kernel
theorem d1_47 : decode method_3_code 47 = .ok (.astore 4, 2) := by decide +kernel
theorem d1_49 : decode method_3_code 49 = .ok (.aload 4, 2) := by decide +kernel
theorem d1_51 : decode method_3_code 51 = .ok (.iconst 0, 1) := by decide +kernel
theorem d1_52 : decode method_3_code 52 = .ok (.iload_n 2, 1) := by decide +kernel
theorem d1_53 : decode method_3_code 53 = .ok (.castore, 1) := by decide +kernel
theorem d1_54 : decode method_3_code 54 = .ok (.new 25, 3) := by decide +kernel
theorem d1_57 : decode method_3_code 57 = .ok (.dup, 1) := by decide +kernel
theorem d1_58 : decode method_3_code 58 = .ok (.aload 4, 2) := by decide +kernel
theorem d1_60 : decode method_3_code 60 = .ok (.invokespecial 38, 3) := by decide +kernel
theorem d1_63 : decode method_3_code 63 = .ok (.areturn, 1) := by decide +kernel
theorem d1_64 : decode method_3_code 64 = .ok (.iconst 2, 1) := by decide +kernel
theorem d1_65 : decode method_3_code 65 = .ok (.newarray .char, 2) := by decide +kernel
theorem d1_67 : decode method_3_code 67 = .ok (.astore 4, 2) := by decide +kernel
theorem d1_69 : decode method_3_code 69 = .ok (.aload 4, 2) := by decide +kernel
theorem d1_71 : decode method_3_code 71 = .ok (.iconst 0, 1) := by decide +kernel
theorem d1_72 : decode method_3_code 72 = .ok (.iload_n 2, 1) := by decide +kernel
theorem d1_73 : decode method_3_code 73 = .ok (.castore, 1) := by decide +kernel
theorem d1_74 : decode method_3_code 74 = .ok (.aload 4, 2) := by decide +kernel
theorem d1_76 : decode method_3_code 76 = .ok (.iconst 1, 1) := by decide +kernel
theorem d1_77 : decode method_3_code 77 = .ok (.iload_n 3, 1) := by decide +kernel
theorem d1_78 : decode method_3_code 78 = .ok (.castore, 1) := by decide +kernel
theorem d1_79 : decode method_3_code 79 = .ok (.new 25, 3) := by decide +kernel
theorem d1_82 : decode method_3_code 82 = .ok (.dup, 1) := by decide +kernel
theorem d1_83 : decode method_3_code 83 = .ok (.aload 4, 2) := by decide +kernel
theorem d1_85 : decode method_3_code 85 = .ok (.invokespecial 38, 3) := by decide +kernel
theorem d1_88 : decode method_3_code 88 = .ok (.areturn, 1) := by decide +kernel
theorem pd_22 : parseMethodDescriptor "([C)V" = some ⟨[(.array .char)], none⟩ := by decide +kernel
def Qmk (Z : State)  (h0 : Heap) (n0 : Nat) (v : Option Value) (h : Heap) (L : List Loc) : Prop := ∃ (r t : Addr) (kt : ClassId) (bs : List Int32) (n : Nat), v = some (.ref r) ∧ Fr n0 L ∧ Keep h0 h [] ∧ Exa Z h r "java/lang/String" ∧ Fld Z h r "java/lang/String" "coder" "B" (.int (0 : Int32)) ∧ Fld Z h r "java/lang/String" "value" "[B" (.ref t) ∧ Arv Z h t kt .byte (n.toInt32) (bs.map Value.int) (.int (0 : Int32)) ∧ bs.length = n ∧ n ≤ 2
def roommk : Room := { frames := 4, cells := 6, slots := 12, locals := 66 }
set_option maxRecDepth 65536 in
set_option maxHeartbeats 40000000 in
theorem rmmk (l : Launch) (Z : State) (a0 : Array Value) (hw : ∀ d ∈ tables_1, d.before a0 Z = true) (ws : List Jvm.Cond) (p1 : Int32) (p2 : Int32) (gC : Int32) (h0 : Heap) (n0 : Nat) (Z0 : n0 ≤ h0.size) (SC : Sta Z Z.heap "java/lang/String" "COMPACT_STRINGS" "Z" (.int gC)) (PC : ¬ (gC = (0 : Int32))) (O0 : Old Z n0 h0) (hk3 : ¬ p1 = (3 : Int32)) :
    MetFree l (⟨"com/example/vestry/vestry/plan/PlanSectionToStringPinLaw", "mk", "(II)Ljava/lang/String;"⟩ : MethodName) (head1 (Jvm.Cond.code (⟨"com/example/vestry/vestry/plan/PlanSectionToStringPinLaw", "mk", "(II)Ljava/lang/String;"⟩ : MethodName) method_3_code 5 (some (.object "java/lang/String")) :: ws) roommk) (fun aa_ U_ => aa_ = #[(.int p1), (.int p2)] ∧ Z.Warmed39 U_.vm ∧ U_.heap = h0 ∧ CHv Z EL U_.vm h0) (fun _ _ _ _ _ => True) (fun _ U_ o_ W_ => ∃ v_ L_, o_ = .returned v_ ∧ (Qmk Z  h0 n0) v_ W_.heap L_ ∧ CHr Z EL U_.vm U_.heap W_.vm W_.heap ∧ ReturnedEndW U_ o_ W_ L_ roommk.cells roommk.slots) := by
  refine own_metH (Q := (Qmk Z  h0 n0)) (L0 := #[.val (.int p1), .val (.int p2), .unset, .unset, .unset]) (plainFor_of_name pn_8) (fun m => by first | (simp [entryFrame, mkF, argsToLocals, Value.category]; done) | rfl) ?_
  intro p e s m below meth c T0 X0 hx hby hml hown hnm hret hlk hZ e0 hs0 CR hS hk
  have N0 := Fr.nil n0
  have K0 := Keep.refl h0 []
  refine GoH.st (T' := T0) (pc' := 1) (L' := #[.val (.int p1), .val (.int p2), .unset, .unset, .unset]) (S' := [(.int p1)]) (fun t_ k_ => XS.iloadN X0.here hx rfl (hb hby d1_0) rfl  k_) ?_
  refine GoH.st (T' := T0) (pc' := 2) (L' := #[.val (.int p1), .val (.int p2), .unset, .unset, .unset]) (S' := [(.int (3 : Int32)), (.int p1)]) (fun t_ k_ => XS.iconst X0.here hx rfl (hb hby d1_1) k_) ?_
  refine GoH.st (T' := T0) (pc' := 7) (L' := #[.val (.int p1), .val (.int p2), .unset, .unset, .unset]) (S' := []) (fun t_ k_ => XS.icmpYes X0.here hx rfl (pc0 := 2) (pc' := 7) rfl (hb hby d1_2) rfl (feq (hk3 : ¬ (p1 = (3 : Int32)))).2 (by decide) (by decide) k_) ?_
  refine GoH.st (T' := T0) (pc' := 8) (L' := #[.val (.int p1), .val (.int p2), .unset, .unset, .unset]) (S' := [(.int p2)]) (fun t_ k_ => XS.iloadN X0.here hx rfl (hb hby d1_7) rfl  k_) ?_
  refine GoH.st (T' := T0) (pc' := 11) (L' := #[.val (.int p1), .val (.int p2), .unset, .unset, .unset]) (S' := [(.int (255 : Int32)), (.int p2)]) (fun t_ k_ => XS.sipush X0.here hx rfl (hb hby d1_8) k_) ?_
  refine GoH.st (T' := T0) (pc' := 12) (L' := #[.val (.int p1), .val (.int p2), .unset, .unset, .unset]) (S' := [(.int (p2 &&& (255 : Int32)))]) (fun t_ k_ => XS.iand X0.here hx rfl (hb hby d1_11) rfl k_) ?_
  refine GoH.st (T' := T0) (pc' := 13) (L' := #[.val (.int p1), .val (.int p2), .unset, .unset, .unset]) (S' := [(.int ((p2 &&& (255 : Int32)).toUInt32.toUInt16.toUInt32.toInt32))]) (fun t_ k_ => XS.i2c X0.here hx rfl (hb hby d1_12) rfl k_) ?_
  refine GoH.st (T' := T0) (pc' := 14) (L' := #[.val (.int p1), .val (.int p2), .val (.int ((p2 &&& (255 : Int32)).toUInt32.toUInt16.toUInt32.toInt32)), .unset, .unset]) (S' := []) (fun t_ k_ => XS.istoreN X0.here hx rfl (hb hby d1_13) rfl (l' := #[.val (.int p1), .val (.int p2), .val (.int ((p2 &&& (255 : Int32)).toUInt32.toUInt16.toUInt32.toInt32)), .unset, .unset]) rfl k_) ?_
  refine GoH.st (T' := T0) (pc' := 15) (L' := #[.val (.int p1), .val (.int p2), .val (.int ((p2 &&& (255 : Int32)).toUInt32.toUInt16.toUInt32.toInt32)), .unset, .unset]) (S' := [(.int p2)]) (fun t_ k_ => XS.iloadN X0.here hx rfl (hb hby d1_14) rfl  k_) ?_
  refine GoH.st (T' := T0) (pc' := 17) (L' := #[.val (.int p1), .val (.int p2), .val (.int ((p2 &&& (255 : Int32)).toUInt32.toUInt16.toUInt32.toInt32)), .unset, .unset]) (S' := [(.int (8 : Int32)), (.int p2)]) (fun t_ k_ => XS.bipush X0.here hx rfl (hb hby d1_15) k_) ?_
  refine GoH.st (T' := T0) (pc' := 18) (L' := #[.val (.int p1), .val (.int p2), .val (.int ((p2 &&& (255 : Int32)).toUInt32.toUInt16.toUInt32.toInt32)), .unset, .unset]) (S' := [(.int ((p2.toUInt32 >>> ((8 : Int32) &&& 31).toUInt32).toInt32))]) (fun t_ k_ => XS.iushr X0.here hx rfl (hb hby d1_17) rfl k_) ?_
  refine GoH.st (T' := T0) (pc' := 21) (L' := #[.val (.int p1), .val (.int p2), .val (.int ((p2 &&& (255 : Int32)).toUInt32.toUInt16.toUInt32.toInt32)), .unset, .unset]) (S' := [(.int (255 : Int32)), (.int ((p2.toUInt32 >>> ((8 : Int32) &&& 31).toUInt32).toInt32))]) (fun t_ k_ => XS.sipush X0.here hx rfl (hb hby d1_18) k_) ?_
  refine GoH.st (T' := T0) (pc' := 22) (L' := #[.val (.int p1), .val (.int p2), .val (.int ((p2 &&& (255 : Int32)).toUInt32.toUInt16.toUInt32.toInt32)), .unset, .unset]) (S' := [(.int (((p2.toUInt32 >>> ((8 : Int32) &&& 31).toUInt32).toInt32) &&& (255 : Int32)))]) (fun t_ k_ => XS.iand X0.here hx rfl (hb hby d1_21) rfl k_) ?_
  refine GoH.st (T' := T0) (pc' := 23) (L' := #[.val (.int p1), .val (.int p2), .val (.int ((p2 &&& (255 : Int32)).toUInt32.toUInt16.toUInt32.toInt32)), .unset, .unset]) (S' := [(.int ((((p2.toUInt32 >>> ((8 : Int32) &&& 31).toUInt32).toInt32) &&& (255 : Int32)).toUInt32.toUInt16.toUInt32.toInt32))]) (fun t_ k_ => XS.i2c X0.here hx rfl (hb hby d1_22) rfl k_) ?_
  refine GoH.st (T' := T0) (pc' := 24) (L' := #[.val (.int p1), .val (.int p2), .val (.int ((p2 &&& (255 : Int32)).toUInt32.toUInt16.toUInt32.toInt32)), .val (.int ((((p2.toUInt32 >>> ((8 : Int32) &&& 31).toUInt32).toInt32) &&& (255 : Int32)).toUInt32.toUInt16.toUInt32.toInt32)), .unset]) (S' := []) (fun t_ k_ => XS.istoreN X0.here hx rfl (hb hby d1_23) rfl (l' := #[.val (.int p1), .val (.int p2), .val (.int ((p2 &&& (255 : Int32)).toUInt32.toUInt16.toUInt32.toInt32)), .val (.int ((((p2.toUInt32 >>> ((8 : Int32) &&& 31).toUInt32).toInt32) &&& (255 : Int32)).toUInt32.toUInt16.toUInt32.toInt32)), .unset]) rfl k_) ?_
  refine GoH.st (T' := T0) (pc' := 25) (L' := #[.val (.int p1), .val (.int p2), .val (.int ((p2 &&& (255 : Int32)).toUInt32.toUInt16.toUInt32.toInt32)), .val (.int ((((p2.toUInt32 >>> ((8 : Int32) &&& 31).toUInt32).toInt32) &&& (255 : Int32)).toUInt32.toUInt16.toUInt32.toInt32)), .unset]) (S' := [(.int p1)]) (fun t_ k_ => XS.iloadN X0.here hx rfl (hb hby d1_24) rfl  k_) ?_
  by_cases hc25_1 : p1 = (0 : Int32)
  · refine GoH.st (T' := T0) (pc' := 28) (L' := #[.val (.int p1), .val (.int p2), .val (.int ((p2 &&& (255 : Int32)).toUInt32.toUInt16.toUInt32.toInt32)), .val (.int ((((p2.toUInt32 >>> ((8 : Int32) &&& 31).toUInt32).toInt32) &&& (255 : Int32)).toUInt32.toUInt16.toUInt32.toInt32)), .unset]) (S' := []) (fun t_ k_ => XS.ifNo X0.here hx rfl (hb hby d1_25) rfl ((if0 _ _).trans (teq hc25_1).2) k_) ?_
    obtain ⟨T2, h2, X2, e2, E2, A2, D2, U2, st2⟩ := newO X0 hx hZ hown (hw _ (List.mem_of_getElem? (i := 4) rfl)) (hw _ (List.mem_of_getElem? (i := 5) rfl)) (hw _ (List.mem_of_getElem? (i := 6) rfl)) e0 (g := (mkF m 28 #[.val (.int p1), .val (.int p2), .val (.int ((p2 &&& (255 : Int32)).toUInt32.toUInt16.toUInt32.toInt32)), .val (.int ((((p2.toUInt32 >>> ((8 : Int32) &&& 31).toUInt32).toInt32) &&& (255 : Int32)).toUInt32.toUInt16.toUInt32.toInt32)), .unset] [])) rfl (hb hby d1_28) (by decide) (by decide)
    obtain ⟨b2, g2⟩ : ∃ z, z = h0.size := ⟨_, rfl⟩
    rw [← g2] at A2 D2 U2 st2
    have g_b2 : n0 ≤ b2 := Nat.le_trans Z0 (Nat.le_of_eq g2.symm)
    have sz_b2 : h0.size ≤ b2 := Nat.le_trans K0.1 (Nat.le_of_eq g2.symm)
    have S_b2 : Safe Z EL s.vm h2 b2 := Safe.ext E2 CR.1 (Safe.new (Nat.le_of_eq g2.symm))
    replace CR := CR.trans (CHr.ext E2 CR.1)
    replace hk := Nat.le_trans hk E2.1
    replace Z0 := Nat.le_trans Z0 E2.1
    replace K0 := K0.ext E2
    replace O0 := O0.ext E2
    have E_b2 := A2
    have F_b2_value : Fld Z h2 b2 "java/lang/String" "value" "[B" .null := D2 (Or.inr (hw _ (List.mem_of_getElem? (i := 20) rfl))) (ty := (.array .byte)) (by decide)
    have F_b2_coder : Fld Z h2 b2 "java/lang/String" "coder" "B" (.int (0 : Int32)) := D2 (Or.inr (hw _ (List.mem_of_getElem? (i := 21) rfl))) (ty := .byte) (by decide)
    refine GoH.st (T' := T2) (pc' := 31) (L' := #[.val (.int p1), .val (.int p2), .val (.int ((p2 &&& (255 : Int32)).toUInt32.toUInt16.toUInt32.toInt32)), .val (.int ((((p2.toUInt32 >>> ((8 : Int32) &&& 31).toUInt32).toInt32) &&& (255 : Int32)).toUInt32.toUInt16.toUInt32.toInt32)), .unset]) (S' := [(.ref b2)]) st2 ?_
    refine GoH.st (T' := T2) (pc' := 32) (L' := #[.val (.int p1), .val (.int p2), .val (.int ((p2 &&& (255 : Int32)).toUInt32.toUInt16.toUInt32.toInt32)), .val (.int ((((p2.toUInt32 >>> ((8 : Int32) &&& 31).toUInt32).toInt32) &&& (255 : Int32)).toUInt32.toUInt16.toUInt32.toInt32)), .unset]) (S' := [(.ref b2), (.ref b2)]) (fun t_ k_ => XS.dup X2.here hx rfl (hb hby d1_31) rfl rfl k_) ?_
    refine GoH.st (T' := T2) (pc' := 33) (L' := #[.val (.int p1), .val (.int p2), .val (.int ((p2 &&& (255 : Int32)).toUInt32.toUInt16.toUInt32.toInt32)), .val (.int ((((p2.toUInt32 >>> ((8 : Int32) &&& 31).toUInt32).toInt32) &&& (255 : Int32)).toUInt32.toUInt16.toUInt32.toInt32)), .unset]) (S' := [(.int (0 : Int32)), (.ref b2), (.ref b2)]) (fun t_ k_ => XS.iconst X2.here hx rfl (hb hby d1_32) k_) ?_
    obtain ⟨T3, h3, k3, X3, e3, E3, A3, st3⟩ := newP X2 hx hZ (hw _ (List.mem_of_getElem? (i := 7) rfl)) e2 (g := (mkF m 33 #[.val (.int p1), .val (.int p2), .val (.int ((p2 &&& (255 : Int32)).toUInt32.toUInt16.toUInt32.toInt32)), .val (.int ((((p2.toUInt32 >>> ((8 : Int32) &&& 31).toUInt32).toInt32) &&& (255 : Int32)).toUInt32.toUInt16.toUInt32.toInt32)), .unset] [(.int (0 : Int32)), (.ref b2), (.ref b2)])) rfl (hb hby d1_33) rfl (by decide) (cap := 0) (by decide) (by decide) (by decide) (by decide)
    obtain ⟨b3, g3⟩ : ∃ z, z = h2.size := ⟨_, rfl⟩
    rw [← g3] at A3 st3
    have ne_b2_b3 : b2 ≠ b3 := Nat.ne_of_lt (Nat.lt_of_lt_of_le E_b2.lt (Nat.le_of_eq g3.symm))
    have g_b3 : n0 ≤ b3 := Nat.le_trans Z0 (Nat.le_of_eq g3.symm)
    have sz_b3 : h0.size ≤ b3 := Nat.le_trans K0.1 (Nat.le_of_eq g3.symm)
    replace S_b2 := Safe.ext E3 CR.1 S_b2
    replace CR := CR.trans (CHr.ext E3 CR.1)
    replace hk := Nat.le_trans hk E3.1
    replace Z0 := Nat.le_trans Z0 E3.1
    replace K0 := K0.ext E3
    replace O0 := O0.ext E3
    replace E_b2 := E_b2.ext E3
    replace F_b2_value := F_b2_value.ext E3
    replace F_b2_coder := F_b2_coder.ext E3
    have V_b3 : Arv Z h3 b3 k3 .char (0 : Int32) [] (.int (0 : Int32)) := (Arv.new A3 (by decide)).pad (pad_rep [] (.int (0 : Int32)) 0)
    refine GoH.st (T' := T3) (pc' := 35) (L' := #[.val (.int p1), .val (.int p2), .val (.int ((p2 &&& (255 : Int32)).toUInt32.toUInt16.toUInt32.toInt32)), .val (.int ((((p2.toUInt32 >>> ((8 : Int32) &&& 31).toUInt32).toInt32) &&& (255 : Int32)).toUInt32.toUInt16.toUInt32.toInt32)), .unset]) (S' := [(.ref b3), (.ref b2), (.ref b2)]) st3 ?_
    obtain ⟨_, _, ⟨T4, L4, k4, n4⟩, -, X4, hS4, hg4, ⟨Lc4, hQ4, l4, y4, z4, CR4⟩, st4⟩ := X3.specialBackS hx (y := (⟨"java/lang/String", "<init>", "([C)V"⟩ : MethodName)) rfl hown (mvT hZ (hw _ (List.mem_of_getElem? (i := 8) rfl))) (mvT hZ (hw _ (List.mem_of_getElem? (i := 9) rfl))) (mvT hZ (hw _ (List.mem_of_getElem? (i := 10) rfl))) (by decide) (backOfSH (W := 1) (rmE3 l Z a0 hw [] b2 b3 _ h3 n0 Z0 E_b2 g_b2 F_b2_value F_b2_coder V_b3 ne_b2_b3) hZ (hw _ (List.mem_of_getElem? (i := 10) rfl)) (hw _ (List.mem_of_getElem? (i := 6) rfl)) (by decide) (by decide) (own_EW hw) CR.1) (g := (mkF m 35 #[.val (.int p1), .val (.int p2), .val (.int ((p2 &&& (255 : Int32)).toUInt32.toUInt16.toUInt32.toInt32)), .val (.int ((((p2.toUInt32 >>> ((8 : Int32) &&& 31).toUInt32).toInt32) &&& (255 : Int32)).toUInt32.toUInt16.toUInt32.toInt32)), .unset] [(.ref b3), (.ref b2), (.ref b2)])) rfl (by rw [hml]; rfl) (Steps.refl _) (a := b2) (argsL := [(.ref b3)]) (rest := [(.ref b2)]) (lenOf pd_22 rfl) rfl (by show 2 * 0 + _ ≤ _; exact Nat.le_of_eq rfl) (hb hby d1_35) (fun _ _ => ⟨rfl, e3, (by decide : 2 + 4 ≤ _), (by decide : 4 + 8 ≤ _)⟩)
    dsimp only [Pt.U, Pt.locs, Pt.cells, Pt.slots] at X4 l4 y4 z4 st4 hQ4 hS4 hg4 CR4
    subst l4 y4 z4
    replace X4 : Stand p l e _ (s.setVm T4.vm) m _ below meth c T4 _ _ _ := X4
    replace hS := foldS hS (T := T3) (Nat.le_trans hk (Nat.le_of_eq (congrArg Array.size e3.symm))) hS4 hg4
    replace hk := Nat.le_refl T4.heap.size
    replace hZ : Z.Warmed39 (s.setVm T4.vm).vm := State.Warmed39.trans (t := s.setVm s.vm) hZ hS4.1
    replace hown : (s.setVm T4.vm).vm.findClass "com/example/vestry/vestry/plan/PlanSectionToStringPinLaw" = some m.cls := by rw [show (s.setVm T4.vm).vm = T4.vm from rfl, hS4.1.alike.findClass]; exact hown
    obtain ⟨t4, kb4, rfl, N4q, K4, Co4, nt4, Va4, Ay4⟩ := hQ4
    have N4 := Fr.app N0 N4q
    obtain ⟨h4, e4⟩ : ∃ z, T4.heap = z := ⟨_, rfl⟩
    rw [e4] at K4 Co4 Va4 Ay4 CR4
    replace S_b2 := CR4.safe E_b2.lt S_b2
    replace CR := CR.trans CR4
    replace Z0 := Nat.le_trans Z0 K4.1
    replace K0 := K0.trans K4 (allS (Or.inr sz_b2) all0)
    replace O0 := O0.keep K4 (allS g_b2 all0)
    replace E_b2 := E_b2.keep K4
    replace V_b3 := V_b3.keep K4 (ninS (Ne.symm ne_b2_b3) nin0)
    replace hk : T4.heap.size ≤ h4.size := Nat.le_of_eq (congrArg Array.size e4)
    refine GoH.tr (T' := T4) (pc' := 38) (L' := #[.val (.int p1), .val (.int p2), .val (.int ((p2 &&& (255 : Int32)).toUInt32.toUInt16.toUInt32.toInt32)), .val (.int ((((p2.toUInt32 >>> ((8 : Int32) &&& 31).toUInt32).toInt32) &&& (255 : Int32)).toUInt32.toUInt16.toUInt32.toInt32)), .unset]) (S' := [(.ref b2)]) st4 ?_
    exact GoH.retO X4 hx hlk hret rfl (by simp [FieldType.isReference, Value.isRef]) (hb hby d1_38) (by decide) (by decide) hS hk e4 hs0 hZ (own_EW hw) CR (by rw [e4]; exact ⟨b2, t4, _, ([] : List Int32), 0, rfl, N4, K0, E_b2, Co4, Va4, Ay4, rfl, by decide⟩)
  · refine GoH.st (T' := T0) (pc' := 39) (L' := #[.val (.int p1), .val (.int p2), .val (.int ((p2 &&& (255 : Int32)).toUInt32.toUInt16.toUInt32.toInt32)), .val (.int ((((p2.toUInt32 >>> ((8 : Int32) &&& 31).toUInt32).toInt32) &&& (255 : Int32)).toUInt32.toUInt16.toUInt32.toInt32)), .unset]) (S' := []) (fun t_ k_ => XS.ifYes X0.here hx rfl (pc0 := 25) (pc' := 39) rfl (hb hby d1_25) rfl ((if0 _ _).trans (feq hc25_1).2) (by decide) (by decide) k_) ?_
    refine GoH.st (T' := T0) (pc' := 40) (L' := #[.val (.int p1), .val (.int p2), .val (.int ((p2 &&& (255 : Int32)).toUInt32.toUInt16.toUInt32.toInt32)), .val (.int ((((p2.toUInt32 >>> ((8 : Int32) &&& 31).toUInt32).toInt32) &&& (255 : Int32)).toUInt32.toUInt16.toUInt32.toInt32)), .unset]) (S' := [(.int p1)]) (fun t_ k_ => XS.iloadN X0.here hx rfl (hb hby d1_39) rfl  k_) ?_
    refine GoH.st (T' := T0) (pc' := 41) (L' := #[.val (.int p1), .val (.int p2), .val (.int ((p2 &&& (255 : Int32)).toUInt32.toUInt16.toUInt32.toInt32)), .val (.int ((((p2.toUInt32 >>> ((8 : Int32) &&& 31).toUInt32).toInt32) &&& (255 : Int32)).toUInt32.toUInt16.toUInt32.toInt32)), .unset]) (S' := [(.int (1 : Int32)), (.int p1)]) (fun t_ k_ => XS.iconst X0.here hx rfl (hb hby d1_40) k_) ?_
    by_cases hc41_6 : p1 = (1 : Int32)
    · refine GoH.st (T' := T0) (pc' := 44) (L' := #[.val (.int p1), .val (.int p2), .val (.int ((p2 &&& (255 : Int32)).toUInt32.toUInt16.toUInt32.toInt32)), .val (.int ((((p2.toUInt32 >>> ((8 : Int32) &&& 31).toUInt32).toInt32) &&& (255 : Int32)).toUInt32.toUInt16.toUInt32.toInt32)), .unset]) (S' := []) (fun t_ k_ => XS.icmpNo X0.here hx rfl (hb hby d1_41) rfl (teq hc41_6).2 k_) ?_
      refine GoH.st (T' := T0) (pc' := 45) (L' := #[.val (.int p1), .val (.int p2), .val (.int ((p2 &&& (255 : Int32)).toUInt32.toUInt16.toUInt32.toInt32)), .val (.int ((((p2.toUInt32 >>> ((8 : Int32) &&& 31).toUInt32).toInt32) &&& (255 : Int32)).toUInt32.toUInt16.toUInt32.toInt32)), .unset]) (S' := [(.int (1 : Int32))]) (fun t_ k_ => XS.iconst X0.here hx rfl (hb hby d1_44) k_) ?_
      obtain ⟨T7, h7, k7, X7, e7, E7, A7, st7⟩ := newP X0 hx hZ (hw _ (List.mem_of_getElem? (i := 7) rfl)) e0 (g := (mkF m 45 #[.val (.int p1), .val (.int p2), .val (.int ((p2 &&& (255 : Int32)).toUInt32.toUInt16.toUInt32.toInt32)), .val (.int ((((p2.toUInt32 >>> ((8 : Int32) &&& 31).toUInt32).toInt32) &&& (255 : Int32)).toUInt32.toUInt16.toUInt32.toInt32)), .unset] [(.int (1 : Int32))])) rfl (hb hby d1_45) rfl (by decide) (cap := 1) (by decide) (by decide) (by decide) (by decide)
      obtain ⟨b7, g7⟩ : ∃ z, z = h0.size := ⟨_, rfl⟩
      rw [← g7] at A7 st7
      have g_b7 : n0 ≤ b7 := Nat.le_trans Z0 (Nat.le_of_eq g7.symm)
      have sz_b7 : h0.size ≤ b7 := Nat.le_trans K0.1 (Nat.le_of_eq g7.symm)
      replace CR := CR.trans (CHr.ext E7 CR.1)
      replace hk := Nat.le_trans hk E7.1
      replace Z0 := Nat.le_trans Z0 E7.1
      replace K0 := K0.ext E7
      replace O0 := O0.ext E7
      have V_b7 : Arv Z h7 b7 k7 .char (1 : Int32) [(.int (0 : Int32))] (.int (0 : Int32)) := (Arv.new A7 (by decide)).pad (pad_rep [] (.int (0 : Int32)) 1)
      refine GoH.st (T' := T7) (pc' := 47) (L' := #[.val (.int p1), .val (.int p2), .val (.int ((p2 &&& (255 : Int32)).toUInt32.toUInt16.toUInt32.toInt32)), .val (.int ((((p2.toUInt32 >>> ((8 : Int32) &&& 31).toUInt32).toInt32) &&& (255 : Int32)).toUInt32.toUInt16.toUInt32.toInt32)), .unset]) (S' := [(.ref b7)]) st7 ?_
      refine GoH.st (T' := T7) (pc' := 49) (L' := #[.val (.int p1), .val (.int p2), .val (.int ((p2 &&& (255 : Int32)).toUInt32.toUInt16.toUInt32.toInt32)), .val (.int ((((p2.toUInt32 >>> ((8 : Int32) &&& 31).toUInt32).toInt32) &&& (255 : Int32)).toUInt32.toUInt16.toUInt32.toInt32)), .val (.ref b7)]) (S' := []) (fun t_ k_ => XS.astore X7.here hx rfl (hb hby d1_47) rfl rfl (l' := #[.val (.int p1), .val (.int p2), .val (.int ((p2 &&& (255 : Int32)).toUInt32.toUInt16.toUInt32.toInt32)), .val (.int ((((p2.toUInt32 >>> ((8 : Int32) &&& 31).toUInt32).toInt32) &&& (255 : Int32)).toUInt32.toUInt16.toUInt32.toInt32)), .val (.ref b7)]) rfl k_) ?_
      refine GoH.st (T' := T7) (pc' := 51) (L' := #[.val (.int p1), .val (.int p2), .val (.int ((p2 &&& (255 : Int32)).toUInt32.toUInt16.toUInt32.toInt32)), .val (.int ((((p2.toUInt32 >>> ((8 : Int32) &&& 31).toUInt32).toInt32) &&& (255 : Int32)).toUInt32.toUInt16.toUInt32.toInt32)), .val (.ref b7)]) (S' := [(.ref b7)]) (fun t_ k_ => XS.aload X7.here hx rfl (hb hby d1_49) rfl rfl  k_) ?_
      refine GoH.st (T' := T7) (pc' := 52) (L' := #[.val (.int p1), .val (.int p2), .val (.int ((p2 &&& (255 : Int32)).toUInt32.toUInt16.toUInt32.toInt32)), .val (.int ((((p2.toUInt32 >>> ((8 : Int32) &&& 31).toUInt32).toInt32) &&& (255 : Int32)).toUInt32.toUInt16.toUInt32.toInt32)), .val (.ref b7)]) (S' := [(.int (0 : Int32)), (.ref b7)]) (fun t_ k_ => XS.iconst X7.here hx rfl (hb hby d1_51) k_) ?_
      refine GoH.st (T' := T7) (pc' := 53) (L' := #[.val (.int p1), .val (.int p2), .val (.int ((p2 &&& (255 : Int32)).toUInt32.toUInt16.toUInt32.toInt32)), .val (.int ((((p2.toUInt32 >>> ((8 : Int32) &&& 31).toUInt32).toInt32) &&& (255 : Int32)).toUInt32.toUInt16.toUInt32.toInt32)), .val (.ref b7)]) (S' := [(.int ((p2 &&& (255 : Int32)).toUInt32.toUInt16.toUInt32.toInt32)), (.int (0 : Int32)), (.ref b7)]) (fun t_ k_ => XS.iloadN X7.here hx rfl (hb hby d1_52) rfl  k_) ?_
      have Sq8 : Safe Z EL s.vm h7 b7 := (own_safeV hZ.alike V_b7 (by decide))
      obtain ⟨cl8, Ar8, q81, q82, q83, q84, q85⟩ := V_b7
      obtain ⟨T8, h8, X8, e8, W8, st8⟩ := stC X7 hx hZ e7 Ar8 (j := (0 : Int32)) (inb_of q82 ⟨by decide, by decide⟩) (g := (mkF m 53 #[.val (.int p1), .val (.int p2), .val (.int ((p2 &&& (255 : Int32)).toUInt32.toUInt16.toUInt32.toInt32)), .val (.int ((((p2.toUInt32 >>> ((8 : Int32) &&& 31).toUInt32).toInt32) &&& (255 : Int32)).toUInt32.toUInt16.toUInt32.toInt32)), .val (.ref b7)] [(.int ((p2 &&& (255 : Int32)).toUInt32.toUInt16.toUInt32.toInt32)), (.int (0 : Int32)), (.ref b7)])) rfl rfl (hb hby d1_53)
      replace V_b7 := Arv.set Ar8 q81 q82 q83 q84 q85 (fits_nar_char _) W8 0 rfl (Nat.le_of_ble_eq_true rfl)
      have V_b7 : Arv Z h8 b7 k7 .char (1 : Int32) [(.int (nar .char ((p2 &&& (255 : Int32)).toUInt32.toUInt16.toUInt32.toInt32)))] (.int (0 : Int32)) := V_b7
      replace CR := CR.trans (CHr.wr W8 Sq8 CR.1)
      replace hk := Nat.le_trans hk (Keep.of_wr W8).1
      replace Z0 := Nat.le_trans Z0 (Keep.of_wr W8).1
      replace K0 := K0.wr W8 (Or.inr sz_b7)
      replace O0 := O0.wr W8 g_b7
      have N8 := Fr.snoc X8 N0 g_b7
      refine GoH.st (T' := T8) (pc' := 54) (L' := #[.val (.int p1), .val (.int p2), .val (.int ((p2 &&& (255 : Int32)).toUInt32.toUInt16.toUInt32.toInt32)), .val (.int ((((p2.toUInt32 >>> ((8 : Int32) &&& 31).toUInt32).toInt32) &&& (255 : Int32)).toUInt32.toUInt16.toUInt32.toInt32)), .val (.ref b7)]) (S' := []) st8 ?_
      obtain ⟨T10, h10, X10, e10, E10, A10, D10, U10, st10⟩ := newO X8 hx hZ hown (hw _ (List.mem_of_getElem? (i := 4) rfl)) (hw _ (List.mem_of_getElem? (i := 5) rfl)) (hw _ (List.mem_of_getElem? (i := 6) rfl)) e8 (g := (mkF m 54 #[.val (.int p1), .val (.int p2), .val (.int ((p2 &&& (255 : Int32)).toUInt32.toUInt16.toUInt32.toInt32)), .val (.int ((((p2.toUInt32 >>> ((8 : Int32) &&& 31).toUInt32).toInt32) &&& (255 : Int32)).toUInt32.toUInt16.toUInt32.toInt32)), .val (.ref b7)] [])) rfl (hb hby d1_54) (by decide) (by decide)
      obtain ⟨b10, g10⟩ : ∃ z, z = h8.size := ⟨_, rfl⟩
      rw [← g10] at A10 D10 U10 st10
      have ne_b7_b10 : b7 ≠ b10 := Nat.ne_of_lt (Nat.lt_of_lt_of_le V_b7.lt (Nat.le_of_eq g10.symm))
      have g_b10 : n0 ≤ b10 := Nat.le_trans Z0 (Nat.le_of_eq g10.symm)
      have sz_b10 : h0.size ≤ b10 := Nat.le_trans K0.1 (Nat.le_of_eq g10.symm)
      have S_b10 : Safe Z EL s.vm h10 b10 := Safe.ext E10 CR.1 (Safe.new (Nat.le_of_eq g10.symm))
      replace CR := CR.trans (CHr.ext E10 CR.1)
      replace hk := Nat.le_trans hk E10.1
      replace Z0 := Nat.le_trans Z0 E10.1
      replace K0 := K0.ext E10
      replace O0 := O0.ext E10
      replace V_b7 := V_b7.ext E10
      have E_b10 := A10
      have F_b10_value : Fld Z h10 b10 "java/lang/String" "value" "[B" .null := D10 (Or.inr (hw _ (List.mem_of_getElem? (i := 20) rfl))) (ty := (.array .byte)) (by decide)
      have F_b10_coder : Fld Z h10 b10 "java/lang/String" "coder" "B" (.int (0 : Int32)) := D10 (Or.inr (hw _ (List.mem_of_getElem? (i := 21) rfl))) (ty := .byte) (by decide)
      refine GoH.st (T' := T10) (pc' := 57) (L' := #[.val (.int p1), .val (.int p2), .val (.int ((p2 &&& (255 : Int32)).toUInt32.toUInt16.toUInt32.toInt32)), .val (.int ((((p2.toUInt32 >>> ((8 : Int32) &&& 31).toUInt32).toInt32) &&& (255 : Int32)).toUInt32.toUInt16.toUInt32.toInt32)), .val (.ref b7)]) (S' := [(.ref b10)]) st10 ?_
      refine GoH.st (T' := T10) (pc' := 58) (L' := #[.val (.int p1), .val (.int p2), .val (.int ((p2 &&& (255 : Int32)).toUInt32.toUInt16.toUInt32.toInt32)), .val (.int ((((p2.toUInt32 >>> ((8 : Int32) &&& 31).toUInt32).toInt32) &&& (255 : Int32)).toUInt32.toUInt16.toUInt32.toInt32)), .val (.ref b7)]) (S' := [(.ref b10), (.ref b10)]) (fun t_ k_ => XS.dup X10.here hx rfl (hb hby d1_57) rfl rfl k_) ?_
      refine GoH.st (T' := T10) (pc' := 60) (L' := #[.val (.int p1), .val (.int p2), .val (.int ((p2 &&& (255 : Int32)).toUInt32.toUInt16.toUInt32.toInt32)), .val (.int ((((p2.toUInt32 >>> ((8 : Int32) &&& 31).toUInt32).toInt32) &&& (255 : Int32)).toUInt32.toUInt16.toUInt32.toInt32)), .val (.ref b7)]) (S' := [(.ref b7), (.ref b10), (.ref b10)]) (fun t_ k_ => XS.aload X10.here hx rfl (hb hby d1_58) rfl rfl  k_) ?_
      have hws11 : ∀ d ∈ StrChars.Road.words, d.before a0 Z = true := fun d hd => hw d ((by decide +kernel : ∀ d ∈ StrChars.Road.words, d ∈ tables_1) d hd)
      have hlat11 : ∀ c ∈ [(nar .char ((p2 &&& (255 : Int32)).toUInt32.toUInt16.toUInt32.toInt32))], ¬ c < 0 ∧ ¬ (255 : Int32) < c := by
        intro c hc
        simp only [List.mem_cons, List.not_mem_nil, or_false] at hc
        rcases hc with rfl
        · exact own_and255 _
      obtain ⟨_, _, ⟨T11, L11, k11, n11⟩, -, X11, ⟨Lc11, hQ11, l11, y11, z11⟩, st11⟩ := X10.specialBack hx (y := (⟨"java/lang/String", "<init>", "([C)V"⟩ : MethodName)) rfl hown (mvT hZ (hw _ (List.mem_of_getElem? (i := 8) rfl))) (mvT hZ (hw _ (List.mem_of_getElem? (i := 9) rfl))) (mvT hZ (hw _ (List.mem_of_getElem? (i := 10) rfl))) (by decide) (StrChars.Road.backV (W := 1) hZ hws11 (kI := 4) (hw _ (List.mem_of_getElem? (i := 5) rfl)) (cs := [(nar .char ((p2 &&& (255 : Int32)).toUInt32.toUInt16.toUInt32.toInt32))]) (bs := [((nar .char ((p2 &&& (255 : Int32)).toUInt32.toUInt16.toUInt32.toInt32))).toInt8.toInt32]) (n := 1) g_b10 Z0 E_b10 F_b10_value F_b10_coder V_b7 (SC.ext O0.2) PC rfl rfl (by decide) (by decide) hlat11 rfl (by decide) (by decide)) (g := (mkF m 60 #[.val (.int p1), .val (.int p2), .val (.int ((p2 &&& (255 : Int32)).toUInt32.toUInt16.toUInt32.toInt32)), .val (.int ((((p2.toUInt32 >>> ((8 : Int32) &&& 31).toUInt32).toInt32) &&& (255 : Int32)).toUInt32.toUInt16.toUInt32.toInt32)), .val (.ref b7)] [(.ref b7), (.ref b10), (.ref b10)])) rfl (by rw [hml]; rfl) (Steps.refl _) (a := b10) (argsL := [(.ref b7)]) (rest := [(.ref b10)]) (lenOf pd_22 rfl) rfl (by show 2 * 0 + _ ≤ _; exact Nat.le_of_eq rfl) (hb hby d1_60) (fun _ _ => ⟨rfl, e10, (by decide : 2 + 1 ≤ _), (by decide : 5 + 1 ≤ _)⟩)
      dsimp only [Pt.U, Pt.locs, Pt.cells, Pt.slots] at X11 l11 y11 z11 st11 hQ11
      subst l11 y11 z11
      obtain ⟨rfl, N11q, K11, Ex11, Co11, t11, kb11, ta11, tb11, tc11, Va11, Ay11⟩ := hQ11
      have N11 := Fr.app N8 N11q
      have ne_b7_t11 : b7 ≠ t11 := Nat.ne_of_lt (Nat.lt_of_lt_of_le V_b7.lt tb11)
      have ne_b10_t11 : b10 ≠ t11 := Nat.ne_of_lt (Nat.lt_of_lt_of_le E_b10.lt tb11)
      have sz_t11 : h0.size ≤ t11 := Nat.le_trans K0.1 tb11
      obtain ⟨h11, e11⟩ : ∃ z, T11.heap = z := ⟨_, rfl⟩
      rw [e11] at K11 Ex11 Co11 Va11 Ay11
      have Sk12 : ∀ x ∈ [b10], Safe Z EL s.vm h10 x := (allS S_b10 all0)
      replace S_b10 := Safe.keep K11 Sk12 CR.1 S_b10
      replace CR := CR.trans (CHr.keep K11 Sk12 CR.1)
      replace hk := Nat.le_trans hk K11.1
      replace Z0 := Nat.le_trans Z0 K11.1
      replace K0 := K0.trans K11 (allS (Or.inr sz_b10) all0)
      replace O0 := O0.keep K11 (allS g_b10 all0)
      replace V_b7 := V_b7.keep K11 (ninS ne_b7_b10 nin0)
      replace E_b10 := E_b10.keep K11
      have Ay11 : Arv Z h11 t11 kb11 .byte (1 : Int32) [(.int (((nar .char ((p2 &&& (255 : Int32)).toUInt32.toUInt16.toUInt32.toInt32))).toInt8.toInt32))] (.int (0 : Int32)) := Ay11
      refine GoH.tr (T' := T11) (pc' := 63) (L' := #[.val (.int p1), .val (.int p2), .val (.int ((p2 &&& (255 : Int32)).toUInt32.toUInt16.toUInt32.toInt32)), .val (.int ((((p2.toUInt32 >>> ((8 : Int32) &&& 31).toUInt32).toInt32) &&& (255 : Int32)).toUInt32.toUInt16.toUInt32.toInt32)), .val (.ref b7)]) (S' := [(.ref b10)]) st11 ?_
      exact GoH.retO X11 hx hlk hret rfl (by simp [FieldType.isReference, Value.isRef]) (hb hby d1_63) (by decide) (by decide) hS hk e11 hs0 hZ (own_EW hw) CR (by rw [e11]; exact ⟨b10, t11, _, ([(((nar .char ((p2 &&& (255 : Int32)).toUInt32.toUInt16.toUInt32.toInt32))).toInt8.toInt32)] : List Int32), 1, rfl, N11, K0, E_b10, Co11, Va11, Ay11, rfl, by decide⟩)
    · refine GoH.st (T' := T0) (pc' := 64) (L' := #[.val (.int p1), .val (.int p2), .val (.int ((p2 &&& (255 : Int32)).toUInt32.toUInt16.toUInt32.toInt32)), .val (.int ((((p2.toUInt32 >>> ((8 : Int32) &&& 31).toUInt32).toInt32) &&& (255 : Int32)).toUInt32.toUInt16.toUInt32.toInt32)), .unset]) (S' := []) (fun t_ k_ => XS.icmpYes X0.here hx rfl (pc0 := 41) (pc' := 64) rfl (hb hby d1_41) rfl (feq hc41_6).2 (by decide) (by decide) k_) ?_
      refine GoH.st (T' := T0) (pc' := 65) (L' := #[.val (.int p1), .val (.int p2), .val (.int ((p2 &&& (255 : Int32)).toUInt32.toUInt16.toUInt32.toInt32)), .val (.int ((((p2.toUInt32 >>> ((8 : Int32) &&& 31).toUInt32).toInt32) &&& (255 : Int32)).toUInt32.toUInt16.toUInt32.toInt32)), .unset]) (S' := [(.int (2 : Int32))]) (fun t_ k_ => XS.iconst X0.here hx rfl (hb hby d1_64) k_) ?_
      obtain ⟨T13, h13, k13, X13, e13, E13, A13, st13⟩ := newP X0 hx hZ (hw _ (List.mem_of_getElem? (i := 7) rfl)) e0 (g := (mkF m 65 #[.val (.int p1), .val (.int p2), .val (.int ((p2 &&& (255 : Int32)).toUInt32.toUInt16.toUInt32.toInt32)), .val (.int ((((p2.toUInt32 >>> ((8 : Int32) &&& 31).toUInt32).toInt32) &&& (255 : Int32)).toUInt32.toUInt16.toUInt32.toInt32)), .unset] [(.int (2 : Int32))])) rfl (hb hby d1_65) rfl (by decide) (cap := 2) (by decide) (by decide) (by decide) (by decide)
      obtain ⟨b13, g13⟩ : ∃ z, z = h0.size := ⟨_, rfl⟩
      rw [← g13] at A13 st13
      have g_b13 : n0 ≤ b13 := Nat.le_trans Z0 (Nat.le_of_eq g13.symm)
      have sz_b13 : h0.size ≤ b13 := Nat.le_trans K0.1 (Nat.le_of_eq g13.symm)
      replace CR := CR.trans (CHr.ext E13 CR.1)
      replace hk := Nat.le_trans hk E13.1
      replace Z0 := Nat.le_trans Z0 E13.1
      replace K0 := K0.ext E13
      replace O0 := O0.ext E13
      have V_b13 : Arv Z h13 b13 k13 .char (2 : Int32) [(.int (0 : Int32)), (.int (0 : Int32))] (.int (0 : Int32)) := (Arv.new A13 (by decide)).pad (pad_rep [] (.int (0 : Int32)) 2)
      refine GoH.st (T' := T13) (pc' := 67) (L' := #[.val (.int p1), .val (.int p2), .val (.int ((p2 &&& (255 : Int32)).toUInt32.toUInt16.toUInt32.toInt32)), .val (.int ((((p2.toUInt32 >>> ((8 : Int32) &&& 31).toUInt32).toInt32) &&& (255 : Int32)).toUInt32.toUInt16.toUInt32.toInt32)), .unset]) (S' := [(.ref b13)]) st13 ?_
      refine GoH.st (T' := T13) (pc' := 69) (L' := #[.val (.int p1), .val (.int p2), .val (.int ((p2 &&& (255 : Int32)).toUInt32.toUInt16.toUInt32.toInt32)), .val (.int ((((p2.toUInt32 >>> ((8 : Int32) &&& 31).toUInt32).toInt32) &&& (255 : Int32)).toUInt32.toUInt16.toUInt32.toInt32)), .val (.ref b13)]) (S' := []) (fun t_ k_ => XS.astore X13.here hx rfl (hb hby d1_67) rfl rfl (l' := #[.val (.int p1), .val (.int p2), .val (.int ((p2 &&& (255 : Int32)).toUInt32.toUInt16.toUInt32.toInt32)), .val (.int ((((p2.toUInt32 >>> ((8 : Int32) &&& 31).toUInt32).toInt32) &&& (255 : Int32)).toUInt32.toUInt16.toUInt32.toInt32)), .val (.ref b13)]) rfl k_) ?_
      refine GoH.st (T' := T13) (pc' := 71) (L' := #[.val (.int p1), .val (.int p2), .val (.int ((p2 &&& (255 : Int32)).toUInt32.toUInt16.toUInt32.toInt32)), .val (.int ((((p2.toUInt32 >>> ((8 : Int32) &&& 31).toUInt32).toInt32) &&& (255 : Int32)).toUInt32.toUInt16.toUInt32.toInt32)), .val (.ref b13)]) (S' := [(.ref b13)]) (fun t_ k_ => XS.aload X13.here hx rfl (hb hby d1_69) rfl rfl  k_) ?_
      refine GoH.st (T' := T13) (pc' := 72) (L' := #[.val (.int p1), .val (.int p2), .val (.int ((p2 &&& (255 : Int32)).toUInt32.toUInt16.toUInt32.toInt32)), .val (.int ((((p2.toUInt32 >>> ((8 : Int32) &&& 31).toUInt32).toInt32) &&& (255 : Int32)).toUInt32.toUInt16.toUInt32.toInt32)), .val (.ref b13)]) (S' := [(.int (0 : Int32)), (.ref b13)]) (fun t_ k_ => XS.iconst X13.here hx rfl (hb hby d1_71) k_) ?_
      refine GoH.st (T' := T13) (pc' := 73) (L' := #[.val (.int p1), .val (.int p2), .val (.int ((p2 &&& (255 : Int32)).toUInt32.toUInt16.toUInt32.toInt32)), .val (.int ((((p2.toUInt32 >>> ((8 : Int32) &&& 31).toUInt32).toInt32) &&& (255 : Int32)).toUInt32.toUInt16.toUInt32.toInt32)), .val (.ref b13)]) (S' := [(.int ((p2 &&& (255 : Int32)).toUInt32.toUInt16.toUInt32.toInt32)), (.int (0 : Int32)), (.ref b13)]) (fun t_ k_ => XS.iloadN X13.here hx rfl (hb hby d1_72) rfl  k_) ?_
      have Sq14 : Safe Z EL s.vm h13 b13 := (own_safeV hZ.alike V_b13 (by decide))
      obtain ⟨cl14, Ar14, q141, q142, q143, q144, q145⟩ := V_b13
      obtain ⟨T14, h14, X14, e14, W14, st14⟩ := stC X13 hx hZ e13 Ar14 (j := (0 : Int32)) (inb_of q142 ⟨by decide, by decide⟩) (g := (mkF m 73 #[.val (.int p1), .val (.int p2), .val (.int ((p2 &&& (255 : Int32)).toUInt32.toUInt16.toUInt32.toInt32)), .val (.int ((((p2.toUInt32 >>> ((8 : Int32) &&& 31).toUInt32).toInt32) &&& (255 : Int32)).toUInt32.toUInt16.toUInt32.toInt32)), .val (.ref b13)] [(.int ((p2 &&& (255 : Int32)).toUInt32.toUInt16.toUInt32.toInt32)), (.int (0 : Int32)), (.ref b13)])) rfl rfl (hb hby d1_73)
      replace V_b13 := Arv.set Ar14 q141 q142 q143 q144 q145 (fits_nar_char _) W14 0 rfl (Nat.le_of_ble_eq_true rfl)
      have V_b13 : Arv Z h14 b13 k13 .char (2 : Int32) [(.int (nar .char ((p2 &&& (255 : Int32)).toUInt32.toUInt16.toUInt32.toInt32))), (.int (0 : Int32))] (.int (0 : Int32)) := V_b13
      replace CR := CR.trans (CHr.wr W14 Sq14 CR.1)
      replace hk := Nat.le_trans hk (Keep.of_wr W14).1
      replace Z0 := Nat.le_trans Z0 (Keep.of_wr W14).1
      replace K0 := K0.wr W14 (Or.inr sz_b13)
      replace O0 := O0.wr W14 g_b13
      have N14 := Fr.snoc X14 N0 g_b13
      refine GoH.st (T' := T14) (pc' := 74) (L' := #[.val (.int p1), .val (.int p2), .val (.int ((p2 &&& (255 : Int32)).toUInt32.toUInt16.toUInt32.toInt32)), .val (.int ((((p2.toUInt32 >>> ((8 : Int32) &&& 31).toUInt32).toInt32) &&& (255 : Int32)).toUInt32.toUInt16.toUInt32.toInt32)), .val (.ref b13)]) (S' := []) st14 ?_
      refine GoH.st (T' := T14) (pc' := 76) (L' := #[.val (.int p1), .val (.int p2), .val (.int ((p2 &&& (255 : Int32)).toUInt32.toUInt16.toUInt32.toInt32)), .val (.int ((((p2.toUInt32 >>> ((8 : Int32) &&& 31).toUInt32).toInt32) &&& (255 : Int32)).toUInt32.toUInt16.toUInt32.toInt32)), .val (.ref b13)]) (S' := [(.ref b13)]) (fun t_ k_ => XS.aload X14.here hx rfl (hb hby d1_74) rfl rfl  k_) ?_
      refine GoH.st (T' := T14) (pc' := 77) (L' := #[.val (.int p1), .val (.int p2), .val (.int ((p2 &&& (255 : Int32)).toUInt32.toUInt16.toUInt32.toInt32)), .val (.int ((((p2.toUInt32 >>> ((8 : Int32) &&& 31).toUInt32).toInt32) &&& (255 : Int32)).toUInt32.toUInt16.toUInt32.toInt32)), .val (.ref b13)]) (S' := [(.int (1 : Int32)), (.ref b13)]) (fun t_ k_ => XS.iconst X14.here hx rfl (hb hby d1_76) k_) ?_
      refine GoH.st (T' := T14) (pc' := 78) (L' := #[.val (.int p1), .val (.int p2), .val (.int ((p2 &&& (255 : Int32)).toUInt32.toUInt16.toUInt32.toInt32)), .val (.int ((((p2.toUInt32 >>> ((8 : Int32) &&& 31).toUInt32).toInt32) &&& (255 : Int32)).toUInt32.toUInt16.toUInt32.toInt32)), .val (.ref b13)]) (S' := [(.int ((((p2.toUInt32 >>> ((8 : Int32) &&& 31).toUInt32).toInt32) &&& (255 : Int32)).toUInt32.toUInt16.toUInt32.toInt32)), (.int (1 : Int32)), (.ref b13)]) (fun t_ k_ => XS.iloadN X14.here hx rfl (hb hby d1_77) rfl  k_) ?_
      have Sq16 : Safe Z EL s.vm h14 b13 := (own_safeV hZ.alike V_b13 (by decide))
      obtain ⟨cl16, Ar16, q161, q162, q163, q164, q165⟩ := V_b13
      obtain ⟨T16, h16, X16, e16, W16, st16⟩ := stC X14 hx hZ e14 Ar16 (j := (1 : Int32)) (inb_of q162 ⟨by decide, by decide⟩) (g := (mkF m 78 #[.val (.int p1), .val (.int p2), .val (.int ((p2 &&& (255 : Int32)).toUInt32.toUInt16.toUInt32.toInt32)), .val (.int ((((p2.toUInt32 >>> ((8 : Int32) &&& 31).toUInt32).toInt32) &&& (255 : Int32)).toUInt32.toUInt16.toUInt32.toInt32)), .val (.ref b13)] [(.int ((((p2.toUInt32 >>> ((8 : Int32) &&& 31).toUInt32).toInt32) &&& (255 : Int32)).toUInt32.toUInt16.toUInt32.toInt32)), (.int (1 : Int32)), (.ref b13)])) rfl rfl (hb hby d1_78)
      replace V_b13 := Arv.set Ar16 q161 q162 q163 q164 q165 (fits_nar_char _) W16 1 rfl (Nat.le_of_ble_eq_true rfl)
      have V_b13 : Arv Z h16 b13 k13 .char (2 : Int32) [(.int (nar .char ((p2 &&& (255 : Int32)).toUInt32.toUInt16.toUInt32.toInt32))), (.int (nar .char ((((p2.toUInt32 >>> ((8 : Int32) &&& 31).toUInt32).toInt32) &&& (255 : Int32)).toUInt32.toUInt16.toUInt32.toInt32)))] (.int (0 : Int32)) := V_b13
      replace CR := CR.trans (CHr.wr W16 Sq16 CR.1)
      replace hk := Nat.le_trans hk (Keep.of_wr W16).1
      replace Z0 := Nat.le_trans Z0 (Keep.of_wr W16).1
      replace K0 := K0.wr W16 (Or.inr sz_b13)
      replace O0 := O0.wr W16 g_b13
      have N16 := Fr.snoc X16 N14 g_b13
      refine GoH.st (T' := T16) (pc' := 79) (L' := #[.val (.int p1), .val (.int p2), .val (.int ((p2 &&& (255 : Int32)).toUInt32.toUInt16.toUInt32.toInt32)), .val (.int ((((p2.toUInt32 >>> ((8 : Int32) &&& 31).toUInt32).toInt32) &&& (255 : Int32)).toUInt32.toUInt16.toUInt32.toInt32)), .val (.ref b13)]) (S' := []) st16 ?_
      obtain ⟨T18, h18, X18, e18, E18, A18, D18, U18, st18⟩ := newO X16 hx hZ hown (hw _ (List.mem_of_getElem? (i := 4) rfl)) (hw _ (List.mem_of_getElem? (i := 5) rfl)) (hw _ (List.mem_of_getElem? (i := 6) rfl)) e16 (g := (mkF m 79 #[.val (.int p1), .val (.int p2), .val (.int ((p2 &&& (255 : Int32)).toUInt32.toUInt16.toUInt32.toInt32)), .val (.int ((((p2.toUInt32 >>> ((8 : Int32) &&& 31).toUInt32).toInt32) &&& (255 : Int32)).toUInt32.toUInt16.toUInt32.toInt32)), .val (.ref b13)] [])) rfl (hb hby d1_79) (by decide) (by decide)
      obtain ⟨b18, g18⟩ : ∃ z, z = h16.size := ⟨_, rfl⟩
      rw [← g18] at A18 D18 U18 st18
      have ne_b13_b18 : b13 ≠ b18 := Nat.ne_of_lt (Nat.lt_of_lt_of_le V_b13.lt (Nat.le_of_eq g18.symm))
      have g_b18 : n0 ≤ b18 := Nat.le_trans Z0 (Nat.le_of_eq g18.symm)
      have sz_b18 : h0.size ≤ b18 := Nat.le_trans K0.1 (Nat.le_of_eq g18.symm)
      have S_b18 : Safe Z EL s.vm h18 b18 := Safe.ext E18 CR.1 (Safe.new (Nat.le_of_eq g18.symm))
      replace CR := CR.trans (CHr.ext E18 CR.1)
      replace hk := Nat.le_trans hk E18.1
      replace Z0 := Nat.le_trans Z0 E18.1
      replace K0 := K0.ext E18
      replace O0 := O0.ext E18
      replace V_b13 := V_b13.ext E18
      have E_b18 := A18
      have F_b18_value : Fld Z h18 b18 "java/lang/String" "value" "[B" .null := D18 (Or.inr (hw _ (List.mem_of_getElem? (i := 20) rfl))) (ty := (.array .byte)) (by decide)
      have F_b18_coder : Fld Z h18 b18 "java/lang/String" "coder" "B" (.int (0 : Int32)) := D18 (Or.inr (hw _ (List.mem_of_getElem? (i := 21) rfl))) (ty := .byte) (by decide)
      refine GoH.st (T' := T18) (pc' := 82) (L' := #[.val (.int p1), .val (.int p2), .val (.int ((p2 &&& (255 : Int32)).toUInt32.toUInt16.toUInt32.toInt32)), .val (.int ((((p2.toUInt32 >>> ((8 : Int32) &&& 31).toUInt32).toInt32) &&& (255 : Int32)).toUInt32.toUInt16.toUInt32.toInt32)), .val (.ref b13)]) (S' := [(.ref b18)]) st18 ?_
      refine GoH.st (T' := T18) (pc' := 83) (L' := #[.val (.int p1), .val (.int p2), .val (.int ((p2 &&& (255 : Int32)).toUInt32.toUInt16.toUInt32.toInt32)), .val (.int ((((p2.toUInt32 >>> ((8 : Int32) &&& 31).toUInt32).toInt32) &&& (255 : Int32)).toUInt32.toUInt16.toUInt32.toInt32)), .val (.ref b13)]) (S' := [(.ref b18), (.ref b18)]) (fun t_ k_ => XS.dup X18.here hx rfl (hb hby d1_82) rfl rfl k_) ?_
      refine GoH.st (T' := T18) (pc' := 85) (L' := #[.val (.int p1), .val (.int p2), .val (.int ((p2 &&& (255 : Int32)).toUInt32.toUInt16.toUInt32.toInt32)), .val (.int ((((p2.toUInt32 >>> ((8 : Int32) &&& 31).toUInt32).toInt32) &&& (255 : Int32)).toUInt32.toUInt16.toUInt32.toInt32)), .val (.ref b13)]) (S' := [(.ref b13), (.ref b18), (.ref b18)]) (fun t_ k_ => XS.aload X18.here hx rfl (hb hby d1_83) rfl rfl  k_) ?_
      have hws19 : ∀ d ∈ StrChars.Road.words, d.before a0 Z = true := fun d hd => hw d ((by decide +kernel : ∀ d ∈ StrChars.Road.words, d ∈ tables_1) d hd)
      have hlat19 : ∀ c ∈ [(nar .char ((p2 &&& (255 : Int32)).toUInt32.toUInt16.toUInt32.toInt32)), (nar .char ((((p2.toUInt32 >>> ((8 : Int32) &&& 31).toUInt32).toInt32) &&& (255 : Int32)).toUInt32.toUInt16.toUInt32.toInt32))], ¬ c < 0 ∧ ¬ (255 : Int32) < c := by
        intro c hc
        simp only [List.mem_cons, List.not_mem_nil, or_false] at hc
        rcases hc with rfl | rfl
        · exact own_and255 _
        · exact own_and255 _
      obtain ⟨_, _, ⟨T19, L19, k19, n19⟩, -, X19, ⟨Lc19, hQ19, l19, y19, z19⟩, st19⟩ := X18.specialBack hx (y := (⟨"java/lang/String", "<init>", "([C)V"⟩ : MethodName)) rfl hown (mvT hZ (hw _ (List.mem_of_getElem? (i := 8) rfl))) (mvT hZ (hw _ (List.mem_of_getElem? (i := 9) rfl))) (mvT hZ (hw _ (List.mem_of_getElem? (i := 10) rfl))) (by decide) (StrChars.Road.backV (W := 1) hZ hws19 (kI := 4) (hw _ (List.mem_of_getElem? (i := 5) rfl)) (cs := [(nar .char ((p2 &&& (255 : Int32)).toUInt32.toUInt16.toUInt32.toInt32)), (nar .char ((((p2.toUInt32 >>> ((8 : Int32) &&& 31).toUInt32).toInt32) &&& (255 : Int32)).toUInt32.toUInt16.toUInt32.toInt32))]) (bs := [((nar .char ((p2 &&& (255 : Int32)).toUInt32.toUInt16.toUInt32.toInt32))).toInt8.toInt32, ((nar .char ((((p2.toUInt32 >>> ((8 : Int32) &&& 31).toUInt32).toInt32) &&& (255 : Int32)).toUInt32.toUInt16.toUInt32.toInt32))).toInt8.toInt32]) (n := 2) g_b18 Z0 E_b18 F_b18_value F_b18_coder V_b13 (SC.ext O0.2) PC rfl rfl (by decide) (by decide) hlat19 rfl (by decide) (by decide)) (g := (mkF m 85 #[.val (.int p1), .val (.int p2), .val (.int ((p2 &&& (255 : Int32)).toUInt32.toUInt16.toUInt32.toInt32)), .val (.int ((((p2.toUInt32 >>> ((8 : Int32) &&& 31).toUInt32).toInt32) &&& (255 : Int32)).toUInt32.toUInt16.toUInt32.toInt32)), .val (.ref b13)] [(.ref b13), (.ref b18), (.ref b18)])) rfl (by rw [hml]; rfl) (Steps.refl _) (a := b18) (argsL := [(.ref b13)]) (rest := [(.ref b18)]) (lenOf pd_22 rfl) rfl (by show 2 * 0 + _ ≤ _; exact Nat.le_of_eq rfl) (hb hby d1_85) (fun _ _ => ⟨rfl, e18, (by decide : 2 + 1 ≤ _), (by decide : 6 + 2 ≤ _)⟩)
      dsimp only [Pt.U, Pt.locs, Pt.cells, Pt.slots] at X19 l19 y19 z19 st19 hQ19
      subst l19 y19 z19
      obtain ⟨rfl, N19q, K19, Ex19, Co19, t19, kb19, ta19, tb19, tc19, Va19, Ay19⟩ := hQ19
      have N19 := Fr.app N16 N19q
      have ne_b13_t19 : b13 ≠ t19 := Nat.ne_of_lt (Nat.lt_of_lt_of_le V_b13.lt tb19)
      have ne_b18_t19 : b18 ≠ t19 := Nat.ne_of_lt (Nat.lt_of_lt_of_le E_b18.lt tb19)
      have sz_t19 : h0.size ≤ t19 := Nat.le_trans K0.1 tb19
      obtain ⟨h19, e19⟩ : ∃ z, T19.heap = z := ⟨_, rfl⟩
      rw [e19] at K19 Ex19 Co19 Va19 Ay19
      have Sk20 : ∀ x ∈ [b18], Safe Z EL s.vm h18 x := (allS S_b18 all0)
      replace S_b18 := Safe.keep K19 Sk20 CR.1 S_b18
      replace CR := CR.trans (CHr.keep K19 Sk20 CR.1)
      replace hk := Nat.le_trans hk K19.1
      replace Z0 := Nat.le_trans Z0 K19.1
      replace K0 := K0.trans K19 (allS (Or.inr sz_b18) all0)
      replace O0 := O0.keep K19 (allS g_b18 all0)
      replace V_b13 := V_b13.keep K19 (ninS ne_b13_b18 nin0)
      replace E_b18 := E_b18.keep K19
      have Ay19 : Arv Z h19 t19 kb19 .byte (2 : Int32) [(.int (((nar .char ((p2 &&& (255 : Int32)).toUInt32.toUInt16.toUInt32.toInt32))).toInt8.toInt32)), (.int (((nar .char ((((p2.toUInt32 >>> ((8 : Int32) &&& 31).toUInt32).toInt32) &&& (255 : Int32)).toUInt32.toUInt16.toUInt32.toInt32))).toInt8.toInt32))] (.int (0 : Int32)) := Ay19
      refine GoH.tr (T' := T19) (pc' := 88) (L' := #[.val (.int p1), .val (.int p2), .val (.int ((p2 &&& (255 : Int32)).toUInt32.toUInt16.toUInt32.toInt32)), .val (.int ((((p2.toUInt32 >>> ((8 : Int32) &&& 31).toUInt32).toInt32) &&& (255 : Int32)).toUInt32.toUInt16.toUInt32.toInt32)), .val (.ref b13)]) (S' := [(.ref b18)]) st19 ?_
      exact GoH.retO X19 hx hlk hret rfl (by simp [FieldType.isReference, Value.isRef]) (hb hby d1_88) (by decide) (by decide) hS hk e19 hs0 hZ (own_EW hw) CR (by rw [e19]; exact ⟨b18, t19, _, ([(((nar .char ((p2 &&& (255 : Int32)).toUInt32.toUInt16.toUInt32.toInt32))).toInt8.toInt32), (((nar .char ((((p2.toUInt32 >>> ((8 : Int32) &&& 31).toUInt32).toInt32) &&& (255 : Int32)).toUInt32.toUInt16.toUInt32.toInt32))).toInt8.toInt32)] : List Int32), 2, rfl, N19, K0, E_b18, Co19, Va19, Ay19, rfl, by decide⟩)
theorem pd_23 : parseMethodDescriptor "(II)Ljava/lang/String;" = some ⟨[.int, .int], some (.object "java/lang/String")⟩ := by decide +kernel
theorem pd_24 : parseMethodDescriptor "(Ljava/lang/String;Ljava/lang/String;)V" = some ⟨[(.object "java/lang/String"), (.object "java/lang/String")], none⟩ := by decide +kernel
theorem pd_25 : parseMethodDescriptor "(Ljava/lang/String;Ljava/lang/String;I)Z" = some ⟨[(.object "java/lang/String"), (.object "java/lang/String"), .int], some .boolean⟩ := by decide +kernel
def Q0 (Z : State)  (h0 : Heap) (n0 : Nat) (v : Option Value) (h : Heap) (L : List Loc) : Prop := v = some (.int 1) ∧ Fr n0 L
set_option maxRecDepth 65536 in
set_option maxHeartbeats 40000000 in
theorem rm0 (l : Launch) (Z : State) (a0 : Array Value) (hw : ∀ d ∈ tables_1, d.before a0 Z = true) (ws : List Jvm.Cond) (p1 : Int32) (p2 : Int32) (p3 : Int32) (gC : Int32) (fm : Value) (h0 : Heap) (n0 : Nat) (Z0 : n0 ≤ h0.size) (SC : Sta Z Z.heap "java/lang/String" "COMPACT_STRINGS" "Z" (.int gC)) (PC : ¬ (gC = (0 : Int32))) (O0 : Old Z n0 h0) (hfm : fm.isRef = true) (SF : Sta Z Z.heap "jdk/internal/util/Preconditions" "SIOOBE_FORMATTER" "Ljava/util/function/BiFunction;" fm) :
    MetFree l x (head1 (Jvm.Cond.code x code maxLocals ret :: ws) room_1) (fun aa_ U_ => aa_ = #[(.int p1), (.int p2), (.int p3)] ∧ Z.Warmed39 U_.vm ∧ U_.heap = h0 ∧ CHv Z EL U_.vm h0) (fun _ _ _ _ _ => True) (fun _ U_ o_ W_ => ∃ v_ L_, o_ = .returned v_ ∧ (Q0 Z  h0 n0) v_ W_.heap L_ ∧ CHr Z EL U_.vm U_.heap W_.vm W_.heap ∧ ReturnedEndW U_ o_ W_ L_ room_1.cells room_1.slots) := by
  refine own_metH (Q := (Q0 Z  h0 n0)) (L0 := #[.val (.int p1), .val (.int p2), .val (.int p3), .unset, .unset, .unset, .unset, .unset, .unset, .unset, .unset, .unset]) (plainFor_of_name pn_8) (fun m => by first | (simp [entryFrame, mkF, argsToLocals, Value.category, maxLocals]; done) | rfl) ?_
  intro p e s m below meth c T0 X0 hx hby hml hown hnm hret hlk hZ e0 hs0 CR hS hk
  have N0 := Fr.nil n0
  refine GoH.st (T' := T0) (pc' := 1) (L' := #[.val (.int p1), .val (.int p2), .val (.int p3), .unset, .unset, .unset, .unset, .unset, .unset, .unset, .unset, .unset]) (S' := [(.int p1)]) (fun t_ k_ => XS.iloadN X0.here hx rfl (hb hby at_0) rfl  k_) ?_
  refine GoH.st (T' := T0) (pc' := 2) (L' := #[.val (.int p1), .val (.int p2), .val (.int p3), .unset, .unset, .unset, .unset, .unset, .unset, .unset, .unset, .unset]) (S' := [(.int (3 : Int32)), (.int p1)]) (fun t_ k_ => XS.iconst X0.here hx rfl (hb hby at_1) k_) ?_
  refine GoH.st (T' := T0) (pc' := 3) (L' := #[.val (.int p1), .val (.int p2), .val (.int p3), .unset, .unset, .unset, .unset, .unset, .unset, .unset, .unset, .unset]) (S' := [(.int (p1 &&& (3 : Int32)))]) (fun t_ k_ => XS.iand X0.here hx rfl (hb hby at_2) rfl k_) ?_
  by_cases hka : (p1 &&& (3 : Int32)) = (3 : Int32)
  · rw [hka]
    refine GoH.st (T' := T0) (pc' := 4) (L' := #[.val (.int p1), .val (.int p2), .val (.int p3), .val (.int (3 : Int32)), .unset, .unset, .unset, .unset, .unset, .unset, .unset, .unset]) (S' := []) (fun t_ k_ => XS.istoreN X0.here hx rfl (hb hby at_3) rfl (l' := #[.val (.int p1), .val (.int p2), .val (.int p3), .val (.int (3 : Int32)), .unset, .unset, .unset, .unset, .unset, .unset, .unset, .unset]) rfl k_) ?_
    refine GoH.st (T' := T0) (pc' := 5) (L' := #[.val (.int p1), .val (.int p2), .val (.int p3), .val (.int (3 : Int32)), .unset, .unset, .unset, .unset, .unset, .unset, .unset, .unset]) (S' := [(.int p1)]) (fun t_ k_ => XS.iloadN X0.here hx rfl (hb hby at_4) rfl  k_) ?_
    refine GoH.st (T' := T0) (pc' := 6) (L' := #[.val (.int p1), .val (.int p2), .val (.int p3), .val (.int (3 : Int32)), .unset, .unset, .unset, .unset, .unset, .unset, .unset, .unset]) (S' := [(.int (2 : Int32)), (.int p1)]) (fun t_ k_ => XS.iconst X0.here hx rfl (hb hby at_5) k_) ?_
    refine GoH.st (T' := T0) (pc' := 7) (L' := #[.val (.int p1), .val (.int p2), .val (.int p3), .val (.int (3 : Int32)), .unset, .unset, .unset, .unset, .unset, .unset, .unset, .unset]) (S' := [(.int ((p1.toUInt32 >>> ((2 : Int32) &&& 31).toUInt32).toInt32))]) (fun t_ k_ => XS.iushr X0.here hx rfl (hb hby at_6) rfl k_) ?_
    refine GoH.st (T' := T0) (pc' := 8) (L' := #[.val (.int p1), .val (.int p2), .val (.int p3), .val (.int (3 : Int32)), .unset, .unset, .unset, .unset, .unset, .unset, .unset, .unset]) (S' := [(.int (3 : Int32)), (.int ((p1.toUInt32 >>> ((2 : Int32) &&& 31).toUInt32).toInt32))]) (fun t_ k_ => XS.iconst X0.here hx rfl (hb hby at_7) k_) ?_
    refine GoH.st (T' := T0) (pc' := 9) (L' := #[.val (.int p1), .val (.int p2), .val (.int p3), .val (.int (3 : Int32)), .unset, .unset, .unset, .unset, .unset, .unset, .unset, .unset]) (S' := [(.int (((p1.toUInt32 >>> ((2 : Int32) &&& 31).toUInt32).toInt32) &&& (3 : Int32)))]) (fun t_ k_ => XS.iand X0.here hx rfl (hb hby at_8) rfl k_) ?_
    by_cases hkb : (((p1.toUInt32 >>> ((2 : Int32) &&& 31).toUInt32).toInt32) &&& (3 : Int32)) = (3 : Int32)
    · rw [hkb]
      refine GoH.st (T' := T0) (pc' := 11) (L' := #[.val (.int p1), .val (.int p2), .val (.int p3), .val (.int (3 : Int32)), .val (.int (3 : Int32)), .unset, .unset, .unset, .unset, .unset, .unset, .unset]) (S' := []) (fun t_ k_ => XS.istore X0.here hx rfl (hb hby at_9) rfl (l' := #[.val (.int p1), .val (.int p2), .val (.int p3), .val (.int (3 : Int32)), .val (.int (3 : Int32)), .unset, .unset, .unset, .unset, .unset, .unset, .unset]) rfl k_) ?_
      refine GoH.st (T' := T0) (pc' := 12) (L' := #[.val (.int p1), .val (.int p2), .val (.int p3), .val (.int (3 : Int32)), .val (.int (3 : Int32)), .unset, .unset, .unset, .unset, .unset, .unset, .unset]) (S' := [(.int (3 : Int32))]) (fun t_ k_ => XS.iloadN X0.here hx rfl (hb hby at_11) rfl  k_) ?_
      refine GoH.st (T' := T0) (pc' := 13) (L' := #[.val (.int p1), .val (.int p2), .val (.int p3), .val (.int (3 : Int32)), .val (.int (3 : Int32)), .unset, .unset, .unset, .unset, .unset, .unset, .unset]) (S' := [(.int p2), (.int (3 : Int32))]) (fun t_ k_ => XS.iloadN X0.here hx rfl (hb hby at_12) rfl  k_) ?_
      obtain ⟨_, _, ⟨T1, L1, k1, n1⟩, -, X1, ⟨Lc1, hQ1, l1, y1, z1⟩, st1⟩ := Jvm.LawKit.callS X0 hx (y := (⟨"com/example/vestry/vestry/plan/PlanSectionToStringPinLaw", "mk", "(II)Ljava/lang/String;"⟩ : MethodName)) hown (mvT hZ (hw _ (List.mem_of_getElem? (i := 0) rfl))) (mvT hZ (hw _ (List.mem_of_getElem? (i := 1) rfl))) (mvT hZ (hw _ (List.mem_of_getElem? (i := 2) rfl))) (mvT hZ (hw _ (List.mem_of_getElem? (i := 3) rfl))) (by decide) (backOf (W := 0) (rmmkn l Z a0 hw [] p2 h0 n0 Z0) hZ (hw _ (List.mem_of_getElem? (i := 3) rfl)) (hw _ (List.mem_of_getElem? (i := 2) rfl)) (by decide) (by decide)) (g := (mkF m 13 #[.val (.int p1), .val (.int p2), .val (.int p3), .val (.int (3 : Int32)), .val (.int (3 : Int32)), .unset, .unset, .unset, .unset, .unset, .unset, .unset] [(.int p2), (.int (3 : Int32))])) rfl (by rw [hml]; rfl) (argsL := [(.int (3 : Int32)), (.int p2)]) (rest := []) (lenOf pd_23 rfl) rfl (by show 2 * 0 + _ ≤ _; exact Nat.le_of_eq rfl) (hb hby at_13) (fun _ _ => ⟨rfl, e0, (by decide : 0 + 0 ≤ _), (by decide : 0 + 0 ≤ _)⟩)
      dsimp only [Pt.U, Pt.locs, Pt.cells, Pt.slots] at X1 l1 y1 z1 st1 hQ1
      subst l1 y1 z1
      obtain ⟨rfl, N1q, e1⟩ := hQ1
      have N1 := Fr.app N0 N1q
      refine GoH.st (T' := T1) (pc' := 16) (L' := #[.val (.int p1), .val (.int p2), .val (.int p3), .val (.int (3 : Int32)), .val (.int (3 : Int32)), .unset, .unset, .unset, .unset, .unset, .unset, .unset]) (S' := [.null]) st1 ?_
      refine GoH.st (T' := T1) (pc' := 18) (L' := #[.val (.int p1), .val (.int p2), .val (.int p3), .val (.int (3 : Int32)), .val (.int (3 : Int32)), .val .null, .unset, .unset, .unset, .unset, .unset, .unset]) (S' := []) (fun t_ k_ => XS.astore X1.here hx rfl (hb hby at_16) rfl rfl (l' := #[.val (.int p1), .val (.int p2), .val (.int p3), .val (.int (3 : Int32)), .val (.int (3 : Int32)), .val .null, .unset, .unset, .unset, .unset, .unset, .unset]) rfl k_) ?_
      refine GoH.st (T' := T1) (pc' := 20) (L' := #[.val (.int p1), .val (.int p2), .val (.int p3), .val (.int (3 : Int32)), .val (.int (3 : Int32)), .val .null, .unset, .unset, .unset, .unset, .unset, .unset]) (S' := [(.int (3 : Int32))]) (fun t_ k_ => XS.iload X1.here hx rfl (hb hby at_18) rfl  k_) ?_
      refine GoH.st (T' := T1) (pc' := 21) (L' := #[.val (.int p1), .val (.int p2), .val (.int p3), .val (.int (3 : Int32)), .val (.int (3 : Int32)), .val .null, .unset, .unset, .unset, .unset, .unset, .unset]) (S' := [(.int p3), (.int (3 : Int32))]) (fun t_ k_ => XS.iloadN X1.here hx rfl (hb hby at_20) rfl  k_) ?_
      obtain ⟨_, _, ⟨T2, L2, k2, n2⟩, -, X2, ⟨Lc2, hQ2, l2, y2, z2⟩, st2⟩ := Jvm.LawKit.callS X1 hx (y := (⟨"com/example/vestry/vestry/plan/PlanSectionToStringPinLaw", "mk", "(II)Ljava/lang/String;"⟩ : MethodName)) hown (mvT hZ (hw _ (List.mem_of_getElem? (i := 0) rfl))) (mvT hZ (hw _ (List.mem_of_getElem? (i := 1) rfl))) (mvT hZ (hw _ (List.mem_of_getElem? (i := 2) rfl))) (mvT hZ (hw _ (List.mem_of_getElem? (i := 3) rfl))) (by decide) (backOf (W := 0) (rmmkn l Z a0 hw [] p3 h0 n0 Z0) hZ (hw _ (List.mem_of_getElem? (i := 3) rfl)) (hw _ (List.mem_of_getElem? (i := 2) rfl)) (by decide) (by decide)) (g := (mkF m 21 #[.val (.int p1), .val (.int p2), .val (.int p3), .val (.int (3 : Int32)), .val (.int (3 : Int32)), .val .null, .unset, .unset, .unset, .unset, .unset, .unset] [(.int p3), (.int (3 : Int32))])) rfl (by rw [hml]; rfl) (argsL := [(.int (3 : Int32)), (.int p3)]) (rest := []) (lenOf pd_23 rfl) rfl (by show 2 * 0 + _ ≤ _; exact Nat.le_of_eq rfl) (hb hby at_21) (fun _ _ => ⟨rfl, e1, (by decide : 0 + 0 ≤ _), (by decide : 0 + 0 ≤ _)⟩)
      dsimp only [Pt.U, Pt.locs, Pt.cells, Pt.slots] at X2 l2 y2 z2 st2 hQ2
      subst l2 y2 z2
      obtain ⟨rfl, N2q, e2⟩ := hQ2
      have N2 := Fr.app N1 N2q
      refine GoH.st (T' := T2) (pc' := 24) (L' := #[.val (.int p1), .val (.int p2), .val (.int p3), .val (.int (3 : Int32)), .val (.int (3 : Int32)), .val .null, .unset, .unset, .unset, .unset, .unset, .unset]) (S' := [.null]) st2 ?_
      refine GoH.st (T' := T2) (pc' := 26) (L' := #[.val (.int p1), .val (.int p2), .val (.int p3), .val (.int (3 : Int32)), .val (.int (3 : Int32)), .val .null, .val .null, .unset, .unset, .unset, .unset, .unset]) (S' := []) (fun t_ k_ => XS.astore X2.here hx rfl (hb hby at_24) rfl rfl (l' := #[.val (.int p1), .val (.int p2), .val (.int p3), .val (.int (3 : Int32)), .val (.int (3 : Int32)), .val .null, .val .null, .unset, .unset, .unset, .unset, .unset]) rfl k_) ?_
      obtain ⟨T3, h3, X3, e3, E3, A3, D3, U3, st3⟩ := newO X2 hx hZ hown (hw _ (List.mem_of_getElem? (i := 26) rfl)) (hw _ (List.mem_of_getElem? (i := 27) rfl)) (hw _ (List.mem_of_getElem? (i := 28) rfl)) e2 (g := (mkF m 26 #[.val (.int p1), .val (.int p2), .val (.int p3), .val (.int (3 : Int32)), .val (.int (3 : Int32)), .val .null, .val .null, .unset, .unset, .unset, .unset, .unset] [])) rfl (hb hby at_26) (by decide) (by decide)
      obtain ⟨b3, g3⟩ : ∃ z, z = h0.size := ⟨_, rfl⟩
      rw [← g3] at A3 D3 U3 st3
      have g_b3 : n0 ≤ b3 := Nat.le_trans Z0 (Nat.le_of_eq g3.symm)
      replace CR := CR.trans (CHr.ext E3 CR.1)
      replace hk := Nat.le_trans hk E3.1
      replace Z0 := Nat.le_trans Z0 E3.1
      replace O0 := O0.ext E3
      have E_b3 := A3
      have F_b3_planId : Fld Z h3 b3 "com/example/vestry/vestry/plan/PlanSection" "planId" "Ljava/lang/String;" .null := D3 (Or.inr (hw _ (List.mem_of_getElem? (i := 39) rfl))) (ty := (.object "java/lang/String")) (by decide)
      have F_b3_section : Fld Z h3 b3 "com/example/vestry/vestry/plan/PlanSection" "section" "Ljava/lang/String;" .null := D3 (Or.inr (hw _ (List.mem_of_getElem? (i := 41) rfl))) (ty := (.object "java/lang/String")) (by decide)
      refine GoH.st (T' := T3) (pc' := 29) (L' := #[.val (.int p1), .val (.int p2), .val (.int p3), .val (.int (3 : Int32)), .val (.int (3 : Int32)), .val .null, .val .null, .unset, .unset, .unset, .unset, .unset]) (S' := [(.ref b3)]) st3 ?_
      refine GoH.st (T' := T3) (pc' := 30) (L' := #[.val (.int p1), .val (.int p2), .val (.int p3), .val (.int (3 : Int32)), .val (.int (3 : Int32)), .val .null, .val .null, .unset, .unset, .unset, .unset, .unset]) (S' := [(.ref b3), (.ref b3)]) (fun t_ k_ => XS.dup X3.here hx rfl (hb hby at_29) rfl rfl k_) ?_
      refine GoH.st (T' := T3) (pc' := 32) (L' := #[.val (.int p1), .val (.int p2), .val (.int p3), .val (.int (3 : Int32)), .val (.int (3 : Int32)), .val .null, .val .null, .unset, .unset, .unset, .unset, .unset]) (S' := [.null, (.ref b3), (.ref b3)]) (fun t_ k_ => XS.aload X3.here hx rfl (hb hby at_30) rfl rfl  k_) ?_
      refine GoH.st (T' := T3) (pc' := 34) (L' := #[.val (.int p1), .val (.int p2), .val (.int p3), .val (.int (3 : Int32)), .val (.int (3 : Int32)), .val .null, .val .null, .unset, .unset, .unset, .unset, .unset]) (S' := [.null, .null, (.ref b3), (.ref b3)]) (fun t_ k_ => XS.aload X3.here hx rfl (hb hby at_32) rfl rfl  k_) ?_
      obtain ⟨_, _, ⟨T4, L4, k4, n4⟩, -, X4, ⟨Lc4, hQ4, l4, y4, z4⟩, st4⟩ := X3.specialBack hx (y := (⟨"com/example/vestry/vestry/plan/PlanSection", "<init>", "(Ljava/lang/String;Ljava/lang/String;)V"⟩ : MethodName)) rfl hown (mvT hZ (hw _ (List.mem_of_getElem? (i := 29) rfl))) (mvT hZ (hw _ (List.mem_of_getElem? (i := 30) rfl))) (mvT hZ (hw _ (List.mem_of_getElem? (i := 31) rfl))) (by decide) (backOf (W := 1) (rmps00 l Z a0 hw [] b3 h3 n0 Z0 E_b3 g_b3 F_b3_planId F_b3_section) hZ (hw _ (List.mem_of_getElem? (i := 31) rfl)) (hw _ (List.mem_of_getElem? (i := 28) rfl)) (by decide) (by decide)) (g := (mkF m 34 #[.val (.int p1), .val (.int p2), .val (.int p3), .val (.int (3 : Int32)), .val (.int (3 : Int32)), .val .null, .val .null, .unset, .unset, .unset, .unset, .unset] [.null, .null, (.ref b3), (.ref b3)])) rfl (by rw [hml]; rfl) (Steps.refl _) (a := b3) (argsL := [.null, .null]) (rest := [(.ref b3)]) (lenOf pd_24 rfl) rfl (by show 2 * 0 + _ ≤ _; exact Nat.le_of_eq rfl) (hb hby at_34) (fun _ _ => ⟨rfl, e3, (by decide : 1 + 0 ≤ _), (by decide : 2 + 0 ≤ _)⟩)
      dsimp only [Pt.U, Pt.locs, Pt.cells, Pt.slots] at X4 l4 y4 z4 st4 hQ4
      subst l4 y4 z4
      obtain ⟨rfl, N4q, K4, G4_planId, G4_section⟩ := hQ4
      have N4 := Fr.app N2 N4q
      obtain ⟨h4, e4⟩ : ∃ z, T4.heap = z := ⟨_, rfl⟩
      rw [e4] at K4 G4_planId G4_section
      have Sk5 : ∀ x ∈ [b3], Safe Z EL s.vm h3 x := (allS (Safe.exa hZ.alike E_b3 (by decide) (by decide)) all0)
      replace CR := CR.trans (CHr.keep K4 Sk5 CR.1)
      replace hk := Nat.le_trans hk K4.1
      replace Z0 := Nat.le_trans Z0 K4.1
      replace O0 := O0.keep K4 (allS g_b3 all0)
      replace E_b3 := E_b3.keep K4
      refine GoH.tr (T' := T4) (pc' := 37) (L' := #[.val (.int p1), .val (.int p2), .val (.int p3), .val (.int (3 : Int32)), .val (.int (3 : Int32)), .val .null, .val .null, .unset, .unset, .unset, .unset, .unset]) (S' := [(.ref b3)]) st4 ?_
      obtain ⟨cq6, kq6, q6a, q6b, q6c⟩ := isOf hZ e4 E_b3
      obtain ⟨_, _, ⟨T6, L6, k6, n6⟩, -, X6, hS6, hg6, ⟨Lc6, hQ6, l6, y6, z6, CR6⟩, st6⟩ := X4.virtualBackS hx (y := (⟨"com/example/vestry/vestry/plan/PlanSection", "toString", "()Ljava/lang/String;"⟩ : MethodName)) (z := (⟨"com/example/vestry/vestry/plan/PlanSection", "toString", "()Ljava/lang/String;"⟩ : MethodName)) hown (mvT hZ (hw _ (List.mem_of_getElem? (i := 42) rfl))) (mvT hZ (hw _ (List.mem_of_getElem? (i := 43) rfl))) (notFace_of_selects (args := #[]) (mvT hZ (hw _ (List.mem_of_getElem? (i := 45) rfl)))) (mvT hZ (hw _ (List.mem_of_getElem? (i := 45) rfl))) (mvT hZ (hw _ (List.mem_of_getElem? (i := 44) rfl))) (by decide) (backOfSH (W := 0) (rmts00 l Z a0 hw [] b3 gC h4 n0 Z0 SC PC O0 G4_planId G4_section) hZ (hw _ (List.mem_of_getElem? (i := 46) rfl)) (hw _ (List.mem_of_getElem? (i := 28) rfl)) (by decide) (by decide) (own_EW hw) CR.1) q6a q6c (g := (mkF m 37 #[.val (.int p1), .val (.int p2), .val (.int p3), .val (.int (3 : Int32)), .val (.int (3 : Int32)), .val .null, .val .null, .unset, .unset, .unset, .unset, .unset] [(.ref b3)])) rfl (by rw [hml]; rfl) (Steps.refl _) (argsL := []) (rest := []) (lenOf pd_20 rfl) rfl (by show 2 * 0 + _ ≤ _; exact Nat.le_of_eq rfl) (hb hby at_37) (fun _ _ => ⟨rfl, e4, (by decide : 1 + 6 ≤ _), (by decide : 2 + 48 ≤ _)⟩)
      dsimp only [Pt.U, Pt.locs, Pt.cells, Pt.slots] at X6 l6 y6 z6 st6 hQ6 hS6 hg6 CR6
      subst l6 y6 z6
      replace X6 : Stand p l e _ (s.setVm T6.vm) m _ below meth c T6 _ _ _ := X6
      replace hS := foldS hS (T := T4) (Nat.le_trans hk (Nat.le_of_eq (congrArg Array.size e4.symm))) hS6 hg6
      replace hk := Nat.le_refl T6.heap.size
      replace hZ : Z.Warmed39 (s.setVm T6.vm).vm := State.Warmed39.trans (t := s.setVm s.vm) hZ hS6.1
      replace hown : (s.setVm T6.vm).vm.findClass "com/example/vestry/vestry/plan/PlanSectionToStringPinLaw" = some m.cls := by rw [show (s.setVm T6.vm).vm = T6.vm from rfl, hS6.1.alike.findClass]; exact hown
      obtain ⟨r6_, tr6_, kt6, rfl, N6q, K6, g_r6_, lt6, Er6, Co6, Va6, Vt6⟩ := hQ6
      have N6 := Fr.app N4 N6q
      have ne_b3_r6_ : b3 ≠ r6_ := Nat.ne_of_lt (Nat.lt_of_lt_of_le E_b3.lt lt6)
      obtain ⟨h6, e6⟩ : ∃ z, T6.heap = z := ⟨_, rfl⟩
      rw [e6] at K6 Er6 Co6 Va6 Vt6 CR6
      replace CR := CR.trans CR6
      replace Z0 := Nat.le_trans Z0 K6.1
      replace O0 := O0.keep K6 all0
      replace E_b3 := E_b3.keep K6
      replace G4_planId := G4_planId.keep K6 nin0
      replace G4_section := G4_section.keep K6 nin0
      replace hk : T6.heap.size ≤ h6.size := Nat.le_of_eq (congrArg Array.size e6)
      refine GoH.tr (T' := T6) (pc' := 40) (L' := #[.val (.int p1), .val (.int p2), .val (.int p3), .val (.int (3 : Int32)), .val (.int (3 : Int32)), .val .null, .val .null, .unset, .unset, .unset, .unset, .unset]) (S' := [(.ref r6_)]) st6 ?_
      refine GoH.st (T' := T6) (pc' := 42) (L' := #[.val (.int p1), .val (.int p2), .val (.int p3), .val (.int (3 : Int32)), .val (.int (3 : Int32)), .val .null, .val .null, .val (.ref r6_), .unset, .unset, .unset, .unset]) (S' := []) (fun t_ k_ => XS.astore X6.here hx rfl (hb hby at_40) rfl rfl (l' := #[.val (.int p1), .val (.int p2), .val (.int p3), .val (.int (3 : Int32)), .val (.int (3 : Int32)), .val .null, .val .null, .val (.ref r6_), .unset, .unset, .unset, .unset]) rfl k_) ?_
      refine GoH.st (T' := T6) (pc' := 44) (L' := #[.val (.int p1), .val (.int p2), .val (.int p3), .val (.int (3 : Int32)), .val (.int (3 : Int32)), .val .null, .val .null, .val (.ref r6_), .unset, .unset, .unset, .unset]) (S' := [(.ref r6_)]) (fun t_ k_ => XS.aload X6.here hx rfl (hb hby at_42) rfl rfl  k_) ?_
      refine GoH.st (T' := T6) (pc' := 49) (L' := #[.val (.int p1), .val (.int p2), .val (.int p3), .val (.int (3 : Int32)), .val (.int (3 : Int32)), .val .null, .val .null, .val (.ref r6_), .unset, .unset, .unset, .unset]) (S' := []) (fun t_ k_ => XS.ifnonnullYes X6.here hx rfl (pc0 := 44) (pc' := 49) rfl (hb hby at_44) rfl (by decide) (by decide) k_) ?_
      refine GoH.st (T' := T6) (pc' := 51) (L' := #[.val (.int p1), .val (.int p2), .val (.int p3), .val (.int (3 : Int32)), .val (.int (3 : Int32)), .val .null, .val .null, .val (.ref r6_), .unset, .unset, .unset, .unset]) (S' := [.null]) (fun t_ k_ => XS.aload X6.here hx rfl (hb hby at_49) rfl rfl  k_) ?_
      refine GoH.st (T' := T6) (pc' := 54) (L' := #[.val (.int p1), .val (.int p2), .val (.int p3), .val (.int (3 : Int32)), .val (.int (3 : Int32)), .val .null, .val .null, .val (.ref r6_), .unset, .unset, .unset, .unset]) (S' := []) (fun t_ k_ => XS.ifnonnullNo X6.here hx rfl (hb hby at_51) rfl k_) ?_
      obtain ⟨a8_, T8, h8, k8, b8_, c8, X8, e8, E8, hS8, hk8, hZ8, ho8, E_a8_, Fc_a8_, Fv_a8_, V_b8_, lta8, ltb8, CR8, -, Sf8, st8⟩ := ldcCH X6 hx hZ hown (hw _ (List.mem_of_getElem? (i := 201) rfl)) (own_wS hw) e6 hS hk (own_EW hw) (by decide : ("com/example/vestry/vestry/plan/PlanSectionToStringPinLaw", 22) ∈ EL) CR.1 (vs := [(.int (110 : Int32)), (.int (117 : Int32)), (.int (108 : Int32)), (.int (108 : Int32))]) (z := (4 : Int32)) ⟨by decide, by decide⟩ (by decide) rfl (g := (mkF m 54 #[.val (.int p1), .val (.int p2), .val (.int p3), .val (.int (3 : Int32)), .val (.int (3 : Int32)), .val .null, .val .null, .val (.ref r6_), .unset, .unset, .unset, .unset] [])) rfl (hb hby at_54) (n := 16) (by decide) (by decide) (by decide) (by decide)
      replace CR := CR.trans CR8
      replace Z0 := Nat.le_trans Z0 E8.1
      replace O0 := O0.ext E8
      replace E_b3 := E_b3.ext E8
      replace G4_planId := G4_planId.ext E8
      replace G4_section := G4_section.ext E8
      replace Er6 := Er6.ext E8
      replace Co6 := Co6.ext E8
      replace Va6 := Va6.ext E8
      replace Vt6 := Vt6.ext E8
      replace hZ := hZ8
      replace hown := ho8
      replace hS := hS8
      replace hk := hk8
      refine GoH.st (T' := T8) (pc' := 56) (L' := #[.val (.int p1), .val (.int p2), .val (.int p3), .val (.int (3 : Int32)), .val (.int (3 : Int32)), .val .null, .val .null, .val (.ref r6_), .unset, .unset, .unset, .unset]) (S' := [(.ref a8_)]) st8 ?_
      refine GoH.st (T' := T8) (pc' := 61) (L' := #[.val (.int p1), .val (.int p2), .val (.int p3), .val (.int (3 : Int32)), .val (.int (3 : Int32)), .val .null, .val .null, .val (.ref r6_), .unset, .unset, .unset, .unset]) (S' := [(.ref a8_)]) (fun t_ k_ => XS.goto X8.here hx rfl (pc0 := 56) (pc' := 61) rfl (hb hby at_56) (by decide) (by decide) k_) ?_
      refine GoH.st (T' := T8) (pc' := 63) (L' := #[.val (.int p1), .val (.int p2), .val (.int p3), .val (.int (3 : Int32)), .val (.int (3 : Int32)), .val .null, .val .null, .val (.ref r6_), .val (.ref a8_), .unset, .unset, .unset]) (S' := []) (fun t_ k_ => XS.astore X8.here hx rfl (hb hby at_61) rfl rfl (l' := #[.val (.int p1), .val (.int p2), .val (.int p3), .val (.int (3 : Int32)), .val (.int (3 : Int32)), .val .null, .val .null, .val (.ref r6_), .val (.ref a8_), .unset, .unset, .unset]) rfl k_) ?_
      refine GoH.st (T' := T8) (pc' := 65) (L' := #[.val (.int p1), .val (.int p2), .val (.int p3), .val (.int (3 : Int32)), .val (.int (3 : Int32)), .val .null, .val .null, .val (.ref r6_), .val (.ref a8_), .unset, .unset, .unset]) (S' := [.null]) (fun t_ k_ => XS.aload X8.here hx rfl (hb hby at_63) rfl rfl  k_) ?_
      refine GoH.st (T' := T8) (pc' := 68) (L' := #[.val (.int p1), .val (.int p2), .val (.int p3), .val (.int (3 : Int32)), .val (.int (3 : Int32)), .val .null, .val .null, .val (.ref r6_), .val (.ref a8_), .unset, .unset, .unset]) (S' := []) (fun t_ k_ => XS.ifnonnullNo X8.here hx rfl (hb hby at_65) rfl k_) ?_
      obtain ⟨a9_, T9, h9, k9, b9_, c9, X9, e9, E9, hS9, hk9, hZ9, ho9, E_a9_, Fc_a9_, Fv_a9_, V_b9_, lta9, ltb9, CR9, -, Sf9, st9⟩ := ldcCH X8 hx hZ hown (hw _ (List.mem_of_getElem? (i := 201) rfl)) (own_wS hw) e8 hS hk (own_EW hw) (by decide : ("com/example/vestry/vestry/plan/PlanSectionToStringPinLaw", 22) ∈ EL) CR.1 (vs := [(.int (110 : Int32)), (.int (117 : Int32)), (.int (108 : Int32)), (.int (108 : Int32))]) (z := (4 : Int32)) ⟨by decide, by decide⟩ (by decide) rfl (g := (mkF m 68 #[.val (.int p1), .val (.int p2), .val (.int p3), .val (.int (3 : Int32)), .val (.int (3 : Int32)), .val .null, .val .null, .val (.ref r6_), .val (.ref a8_), .unset, .unset, .unset] [])) rfl (hb hby at_68) (n := 16) (by decide) (by decide) (by decide) (by decide)
      replace CR := CR.trans CR9
      replace Z0 := Nat.le_trans Z0 E9.1
      replace O0 := O0.ext E9
      replace E_b3 := E_b3.ext E9
      replace G4_planId := G4_planId.ext E9
      replace G4_section := G4_section.ext E9
      replace Er6 := Er6.ext E9
      replace Co6 := Co6.ext E9
      replace Va6 := Va6.ext E9
      replace Vt6 := Vt6.ext E9
      replace E_a8_ := E_a8_.ext E9
      replace Fc_a8_ := Fc_a8_.ext E9
      replace Fv_a8_ := Fv_a8_.ext E9
      replace V_b8_ := V_b8_.ext E9
      replace hZ := hZ9
      replace hown := ho9
      replace hS := hS9
      replace hk := hk9
      refine GoH.st (T' := T9) (pc' := 70) (L' := #[.val (.int p1), .val (.int p2), .val (.int p3), .val (.int (3 : Int32)), .val (.int (3 : Int32)), .val .null, .val .null, .val (.ref r6_), .val (.ref a8_), .unset, .unset, .unset]) (S' := [(.ref a9_)]) st9 ?_
      refine GoH.st (T' := T9) (pc' := 75) (L' := #[.val (.int p1), .val (.int p2), .val (.int p3), .val (.int (3 : Int32)), .val (.int (3 : Int32)), .val .null, .val .null, .val (.ref r6_), .val (.ref a8_), .unset, .unset, .unset]) (S' := [(.ref a9_)]) (fun t_ k_ => XS.goto X9.here hx rfl (pc0 := 70) (pc' := 75) rfl (hb hby at_70) (by decide) (by decide) k_) ?_
      refine GoH.st (T' := T9) (pc' := 77) (L' := #[.val (.int p1), .val (.int p2), .val (.int p3), .val (.int (3 : Int32)), .val (.int (3 : Int32)), .val .null, .val .null, .val (.ref r6_), .val (.ref a8_), .val (.ref a9_), .unset, .unset]) (S' := []) (fun t_ k_ => XS.astore X9.here hx rfl (hb hby at_75) rfl rfl (l' := #[.val (.int p1), .val (.int p2), .val (.int p3), .val (.int (3 : Int32)), .val (.int (3 : Int32)), .val .null, .val .null, .val (.ref r6_), .val (.ref a8_), .val (.ref a9_), .unset, .unset]) rfl k_) ?_
      refine GoH.st (T' := T9) (pc' := 79) (L' := #[.val (.int p1), .val (.int p2), .val (.int p3), .val (.int (3 : Int32)), .val (.int (3 : Int32)), .val .null, .val .null, .val (.ref r6_), .val (.ref a8_), .val (.ref a9_), .unset, .unset]) (S' := [(.ref a8_)]) (fun t_ k_ => XS.aload X9.here hx rfl (hb hby at_77) rfl rfl  k_) ?_
      obtain ⟨cq10, kq10, q10a, q10b, q10c⟩ := isOf hZ e9 E_a8_
      obtain ⟨_, _, ⟨T10, L10, k10, n10⟩, -, X10, ⟨Lc10, hQ10, l10, y10, z10⟩, st10⟩ := X9.virtualBack hx (y := (⟨"java/lang/String", "length", "()I"⟩ : MethodName)) (z := (⟨"java/lang/String", "length", "()I"⟩ : MethodName)) hown (mvT hZ (hw _ (List.mem_of_getElem? (i := 159) rfl))) (mvT hZ (hw _ (List.mem_of_getElem? (i := 76) rfl))) (notFace_of_selects (args := #[]) (mvT hZ (hw _ (List.mem_of_getElem? (i := 78) rfl)))) (mvT hZ (hw _ (List.mem_of_getElem? (i := 78) rfl))) (mvT hZ (hw _ (List.mem_of_getElem? (i := 77) rfl))) (by decide) (backOf (W := 0) (rm12 l Z a0 hw [] a8_ b8_ _ gC (4 : Int32) (([(110 : Int32), (117 : Int32), (108 : Int32), (108 : Int32)] : List Int32)) h9 n0 Z0 SC PC O0 E_a8_ Fc_a8_ Fv_a8_ V_b8_) hZ (hw _ (List.mem_of_getElem? (i := 79) rfl)) (hw _ (List.mem_of_getElem? (i := 6) rfl)) (by decide) (by decide)) q10a q10c (g := (mkF m 79 #[.val (.int p1), .val (.int p2), .val (.int p3), .val (.int (3 : Int32)), .val (.int (3 : Int32)), .val .null, .val .null, .val (.ref r6_), .val (.ref a8_), .val (.ref a9_), .unset, .unset] [(.ref a8_)])) rfl (by rw [hml]; rfl) (Steps.refl _) (argsL := []) (rest := []) (lenOf pd_4 rfl) rfl (by show 2 * 0 + _ ≤ _; exact Nat.le_of_eq rfl) (hb hby at_79) (fun _ _ => ⟨rfl, e9, (by decide : 11 + 0 ≤ _), (by decide : 90 + 0 ≤ _)⟩)
      dsimp only [Pt.U, Pt.locs, Pt.cells, Pt.slots] at X10 l10 y10 z10 st10 hQ10
      subst l10 y10 z10
      obtain ⟨rfl, N10q, e10⟩ := hQ10
      have N10 := Fr.app N6 N10q
      refine GoH.tr (T' := T10) (pc' := 82) (L' := #[.val (.int p1), .val (.int p2), .val (.int p3), .val (.int (3 : Int32)), .val (.int (3 : Int32)), .val .null, .val .null, .val (.ref r6_), .val (.ref a8_), .val (.ref a9_), .unset, .unset]) (S' := [(.int (4 : Int32))]) st10 ?_
      refine GoH.st (T' := T10) (pc' := 84) (L' := #[.val (.int p1), .val (.int p2), .val (.int p3), .val (.int (3 : Int32)), .val (.int (3 : Int32)), .val .null, .val .null, .val (.ref r6_), .val (.ref a8_), .val (.ref a9_), .val (.int (4 : Int32)), .unset]) (S' := []) (fun t_ k_ => XS.istore X10.here hx rfl (hb hby at_82) rfl (l' := #[.val (.int p1), .val (.int p2), .val (.int p3), .val (.int (3 : Int32)), .val (.int (3 : Int32)), .val .null, .val .null, .val (.ref r6_), .val (.ref a8_), .val (.ref a9_), .val (.int (4 : Int32)), .unset]) rfl k_) ?_
      refine GoH.st (T' := T10) (pc' := 86) (L' := #[.val (.int p1), .val (.int p2), .val (.int p3), .val (.int (3 : Int32)), .val (.int (3 : Int32)), .val .null, .val .null, .val (.ref r6_), .val (.ref a8_), .val (.ref a9_), .val (.int (4 : Int32)), .unset]) (S' := [(.ref a9_)]) (fun t_ k_ => XS.aload X10.here hx rfl (hb hby at_84) rfl rfl  k_) ?_
      obtain ⟨cq11, kq11, q11a, q11b, q11c⟩ := isOf hZ e10 E_a9_
      obtain ⟨_, _, ⟨T11, L11, k11, n11⟩, -, X11, ⟨Lc11, hQ11, l11, y11, z11⟩, st11⟩ := X10.virtualBack hx (y := (⟨"java/lang/String", "length", "()I"⟩ : MethodName)) (z := (⟨"java/lang/String", "length", "()I"⟩ : MethodName)) hown (mvT hZ (hw _ (List.mem_of_getElem? (i := 159) rfl))) (mvT hZ (hw _ (List.mem_of_getElem? (i := 76) rfl))) (notFace_of_selects (args := #[]) (mvT hZ (hw _ (List.mem_of_getElem? (i := 78) rfl)))) (mvT hZ (hw _ (List.mem_of_getElem? (i := 78) rfl))) (mvT hZ (hw _ (List.mem_of_getElem? (i := 77) rfl))) (by decide) (backOf (W := 0) (rm12 l Z a0 hw [] a9_ b9_ _ gC (4 : Int32) (([(110 : Int32), (117 : Int32), (108 : Int32), (108 : Int32)] : List Int32)) h9 n0 Z0 SC PC O0 E_a9_ Fc_a9_ Fv_a9_ V_b9_) hZ (hw _ (List.mem_of_getElem? (i := 79) rfl)) (hw _ (List.mem_of_getElem? (i := 6) rfl)) (by decide) (by decide)) q11a q11c (g := (mkF m 86 #[.val (.int p1), .val (.int p2), .val (.int p3), .val (.int (3 : Int32)), .val (.int (3 : Int32)), .val .null, .val .null, .val (.ref r6_), .val (.ref a8_), .val (.ref a9_), .val (.int (4 : Int32)), .unset] [(.ref a9_)])) rfl (by rw [hml]; rfl) (Steps.refl _) (argsL := []) (rest := []) (lenOf pd_4 rfl) rfl (by show 2 * 0 + _ ≤ _; exact Nat.le_of_eq rfl) (hb hby at_86) (fun _ _ => ⟨rfl, e10, (by decide : 11 + 0 ≤ _), (by decide : 90 + 0 ≤ _)⟩)
      dsimp only [Pt.U, Pt.locs, Pt.cells, Pt.slots] at X11 l11 y11 z11 st11 hQ11
      subst l11 y11 z11
      obtain ⟨rfl, N11q, e11⟩ := hQ11
      have N11 := Fr.app N10 N11q
      refine GoH.tr (T' := T11) (pc' := 89) (L' := #[.val (.int p1), .val (.int p2), .val (.int p3), .val (.int (3 : Int32)), .val (.int (3 : Int32)), .val .null, .val .null, .val (.ref r6_), .val (.ref a8_), .val (.ref a9_), .val (.int (4 : Int32)), .unset]) (S' := [(.int (4 : Int32))]) st11 ?_
      refine GoH.st (T' := T11) (pc' := 91) (L' := #[.val (.int p1), .val (.int p2), .val (.int p3), .val (.int (3 : Int32)), .val (.int (3 : Int32)), .val .null, .val .null, .val (.ref r6_), .val (.ref a8_), .val (.ref a9_), .val (.int (4 : Int32)), .val (.int (4 : Int32))]) (S' := []) (fun t_ k_ => XS.istore X11.here hx rfl (hb hby at_89) rfl (l' := #[.val (.int p1), .val (.int p2), .val (.int p3), .val (.int (3 : Int32)), .val (.int (3 : Int32)), .val .null, .val .null, .val (.ref r6_), .val (.ref a8_), .val (.ref a9_), .val (.int (4 : Int32)), .val (.int (4 : Int32))]) rfl k_) ?_
      refine GoH.st (T' := T11) (pc' := 93) (L' := #[.val (.int p1), .val (.int p2), .val (.int p3), .val (.int (3 : Int32)), .val (.int (3 : Int32)), .val .null, .val .null, .val (.ref r6_), .val (.ref a8_), .val (.ref a9_), .val (.int (4 : Int32)), .val (.int (4 : Int32))]) (S' := [(.ref r6_)]) (fun t_ k_ => XS.aload X11.here hx rfl (hb hby at_91) rfl rfl  k_) ?_
      obtain ⟨cq12, kq12, q12a, q12b, q12c⟩ := isOf hZ e11 Er6
      obtain ⟨_, _, ⟨T12, L12, k12, n12⟩, -, X12, ⟨Lc12, hQ12, l12, y12, z12⟩, st12⟩ := X11.virtualBack hx (y := (⟨"java/lang/String", "length", "()I"⟩ : MethodName)) (z := (⟨"java/lang/String", "length", "()I"⟩ : MethodName)) hown (mvT hZ (hw _ (List.mem_of_getElem? (i := 159) rfl))) (mvT hZ (hw _ (List.mem_of_getElem? (i := 76) rfl))) (notFace_of_selects (args := #[]) (mvT hZ (hw _ (List.mem_of_getElem? (i := 78) rfl)))) (mvT hZ (hw _ (List.mem_of_getElem? (i := 78) rfl))) (mvT hZ (hw _ (List.mem_of_getElem? (i := 77) rfl))) (by decide) (backOf (W := 0) (rm12 l Z a0 hw [] r6_ tr6_ _ gC ((0 + 4 + 1 + 4 : Nat).toInt32) ((([] ++ ([110, 117, 108, 108] : List Int32) ++ ([32] : List Int32)) ++ ([110, 117, 108, 108] : List Int32))) h9 n0 Z0 SC PC O0 Er6 Co6 Va6 Vt6) hZ (hw _ (List.mem_of_getElem? (i := 79) rfl)) (hw _ (List.mem_of_getElem? (i := 6) rfl)) (by decide) (by decide)) q12a q12c (g := (mkF m 93 #[.val (.int p1), .val (.int p2), .val (.int p3), .val (.int (3 : Int32)), .val (.int (3 : Int32)), .val .null, .val .null, .val (.ref r6_), .val (.ref a8_), .val (.ref a9_), .val (.int (4 : Int32)), .val (.int (4 : Int32))] [(.ref r6_)])) rfl (by rw [hml]; rfl) (Steps.refl _) (argsL := []) (rest := []) (lenOf pd_4 rfl) rfl (by show 2 * 0 + _ ≤ _; exact Nat.le_of_eq rfl) (hb hby at_93) (fun _ _ => ⟨rfl, e11, (by decide : 11 + 0 ≤ _), (by decide : 90 + 0 ≤ _)⟩)
      dsimp only [Pt.U, Pt.locs, Pt.cells, Pt.slots] at X12 l12 y12 z12 st12 hQ12
      subst l12 y12 z12
      obtain ⟨rfl, N12q, e12⟩ := hQ12
      have N12 := Fr.app N11 N12q
      refine GoH.tr (T' := T12) (pc' := 96) (L' := #[.val (.int p1), .val (.int p2), .val (.int p3), .val (.int (3 : Int32)), .val (.int (3 : Int32)), .val .null, .val .null, .val (.ref r6_), .val (.ref a8_), .val (.ref a9_), .val (.int (4 : Int32)), .val (.int (4 : Int32))]) (S' := [(.int ((0 + 4 + 1 + 4 : Nat).toInt32))]) st12 ?_
      refine GoH.st (T' := T12) (pc' := 98) (L' := #[.val (.int p1), .val (.int p2), .val (.int p3), .val (.int (3 : Int32)), .val (.int (3 : Int32)), .val .null, .val .null, .val (.ref r6_), .val (.ref a8_), .val (.ref a9_), .val (.int (4 : Int32)), .val (.int (4 : Int32))]) (S' := [(.int (4 : Int32)), (.int ((0 + 4 + 1 + 4 : Nat).toInt32))]) (fun t_ k_ => XS.iload X12.here hx rfl (hb hby at_96) rfl  k_) ?_
      refine GoH.st (T' := T12) (pc' := 99) (L' := #[.val (.int p1), .val (.int p2), .val (.int p3), .val (.int (3 : Int32)), .val (.int (3 : Int32)), .val .null, .val .null, .val (.ref r6_), .val (.ref a8_), .val (.ref a9_), .val (.int (4 : Int32)), .val (.int (4 : Int32))]) (S' := [(.int (1 : Int32)), (.int (4 : Int32)), (.int ((0 + 4 + 1 + 4 : Nat).toInt32))]) (fun t_ k_ => XS.iconst X12.here hx rfl (hb hby at_98) k_) ?_
      refine GoH.st (T' := T12) (pc' := 100) (L' := #[.val (.int p1), .val (.int p2), .val (.int p3), .val (.int (3 : Int32)), .val (.int (3 : Int32)), .val .null, .val .null, .val (.ref r6_), .val (.ref a8_), .val (.ref a9_), .val (.int (4 : Int32)), .val (.int (4 : Int32))]) (S' := [(.int ((4 : Int32) + (1 : Int32))), (.int ((0 + 4 + 1 + 4 : Nat).toInt32))]) (fun t_ k_ => XS.iadd X12.here hx rfl (hb hby at_99) rfl k_) ?_
      rw [show ((4 : Int32) + (1 : Int32)) = (5 : Int32) from by decide]
      refine GoH.st (T' := T12) (pc' := 102) (L' := #[.val (.int p1), .val (.int p2), .val (.int p3), .val (.int (3 : Int32)), .val (.int (3 : Int32)), .val .null, .val .null, .val (.ref r6_), .val (.ref a8_), .val (.ref a9_), .val (.int (4 : Int32)), .val (.int (4 : Int32))]) (S' := [(.int (4 : Int32)), (.int (5 : Int32)), (.int ((0 + 4 + 1 + 4 : Nat).toInt32))]) (fun t_ k_ => XS.iload X12.here hx rfl (hb hby at_100) rfl  k_) ?_
      refine GoH.st (T' := T12) (pc' := 103) (L' := #[.val (.int p1), .val (.int p2), .val (.int p3), .val (.int (3 : Int32)), .val (.int (3 : Int32)), .val .null, .val .null, .val (.ref r6_), .val (.ref a8_), .val (.ref a9_), .val (.int (4 : Int32)), .val (.int (4 : Int32))]) (S' := [(.int ((5 : Int32) + (4 : Int32))), (.int ((0 + 4 + 1 + 4 : Nat).toInt32))]) (fun t_ k_ => XS.iadd X12.here hx rfl (hb hby at_102) rfl k_) ?_
      rw [show ((5 : Int32) + (4 : Int32)) = (9 : Int32) from by decide]
      refine GoH.st (T' := T12) (pc' := 108) (L' := #[.val (.int p1), .val (.int p2), .val (.int p3), .val (.int (3 : Int32)), .val (.int (3 : Int32)), .val .null, .val .null, .val (.ref r6_), .val (.ref a8_), .val (.ref a9_), .val (.int (4 : Int32)), .val (.int (4 : Int32))]) (S' := []) (fun t_ k_ => XS.icmpYes X12.here hx rfl (pc0 := 103) (pc' := 108) rfl (hb hby at_103) rfl (teq (own_len3 (a := 4) (b := 4) (by omega) : (((0 + 4 + 1 + 4 : Nat).toInt32) = (9 : Int32)))).1 (by decide) (by decide) k_) ?_
      refine GoH.st (T' := T12) (pc' := 110) (L' := #[.val (.int p1), .val (.int p2), .val (.int p3), .val (.int (3 : Int32)), .val (.int (3 : Int32)), .val .null, .val .null, .val (.ref r6_), .val (.ref a8_), .val (.ref a9_), .val (.int (4 : Int32)), .val (.int (4 : Int32))]) (S' := [(.ref r6_)]) (fun t_ k_ => XS.aload X12.here hx rfl (hb hby at_108) rfl rfl  k_) ?_
      refine GoH.st (T' := T12) (pc' := 112) (L' := #[.val (.int p1), .val (.int p2), .val (.int p3), .val (.int (3 : Int32)), .val (.int (3 : Int32)), .val .null, .val .null, .val (.ref r6_), .val (.ref a8_), .val (.ref a9_), .val (.int (4 : Int32)), .val (.int (4 : Int32))]) (S' := [(.ref a8_), (.ref r6_)]) (fun t_ k_ => XS.aload X12.here hx rfl (hb hby at_110) rfl rfl  k_) ?_
      refine GoH.st (T' := T12) (pc' := 113) (L' := #[.val (.int p1), .val (.int p2), .val (.int p3), .val (.int (3 : Int32)), .val (.int (3 : Int32)), .val .null, .val .null, .val (.ref r6_), .val (.ref a8_), .val (.ref a9_), .val (.int (4 : Int32)), .val (.int (4 : Int32))]) (S' := [(.int (0 : Int32)), (.ref a8_), (.ref r6_)]) (fun t_ k_ => XS.iconst X12.here hx rfl (hb hby at_112) k_) ?_
      obtain ⟨_, _, ⟨T13, L13, k13, n13⟩, -, X13, ⟨Lc13, hQ13, l13, y13, z13⟩, st13⟩ := Jvm.LawKit.callS X12 hx (y := (⟨"com/example/vestry/vestry/plan/PlanSectionToStringPinLaw", "pre", "(Ljava/lang/String;Ljava/lang/String;I)Z"⟩ : MethodName)) hown (mvT hZ (hw _ (List.mem_of_getElem? (i := 160) rfl))) (mvT hZ (hw _ (List.mem_of_getElem? (i := 161) rfl))) (mvT hZ (hw _ (List.mem_of_getElem? (i := 2) rfl))) (mvT hZ (hw _ (List.mem_of_getElem? (i := 162) rfl))) (by decide) (backOf (W := 0) (rmpre l Z a0 hw [] r6_ tr6_ _ ((([] ++ ([110, 117, 108, 108] : List Int32) ++ ([32] : List Int32)) ++ ([110, 117, 108, 108] : List Int32))) ((0 + 4 + 1 + 4 : Nat)) a8_ b8_ _ (([(110 : Int32), (117 : Int32), (108 : Int32), (108 : Int32)] : List Int32)) (0) fm gC (4) h9 n0 Z0 SC PC O0 hfm SF Er6 Co6 Va6 Vt6 E_a8_ Fc_a8_ Fv_a8_ V_b8_ (own_la (own_la (own_la rfl rfl) rfl) rfl) (by omega) rfl (by omega) (fun j hj => own_pa (A := ([110, 117, 108, 108] : List Int32)) (B := ([110, 117, 108, 108] : List Int32)) (n := 4) rfl hj) (by omega)) hZ (hw _ (List.mem_of_getElem? (i := 162) rfl)) (hw _ (List.mem_of_getElem? (i := 2) rfl)) (by decide) (by decide)) (g := (mkF m 113 #[.val (.int p1), .val (.int p2), .val (.int p3), .val (.int (3 : Int32)), .val (.int (3 : Int32)), .val .null, .val .null, .val (.ref r6_), .val (.ref a8_), .val (.ref a9_), .val (.int (4 : Int32)), .val (.int (4 : Int32))] [(.int (0 : Int32)), (.ref a8_), (.ref r6_)])) rfl (by rw [hml]; rfl) (argsL := [(.ref r6_), (.ref a8_), (.int (0 : Int32))]) (rest := []) (lenOf pd_25 rfl) rfl (by show 2 * 0 + _ ≤ _; exact Nat.le_of_eq rfl) (hb hby at_113) (fun _ _ => ⟨rfl, e12, (by decide : 11 + 0 ≤ _), (by decide : 90 + 0 ≤ _)⟩)
      dsimp only [Pt.U, Pt.locs, Pt.cells, Pt.slots] at X13 l13 y13 z13 st13 hQ13
      subst l13 y13 z13
      obtain ⟨rfl, N13q, e13⟩ := hQ13
      have N13 := Fr.app N12 N13q
      refine GoH.st (T' := T13) (pc' := 116) (L' := #[.val (.int p1), .val (.int p2), .val (.int p3), .val (.int (3 : Int32)), .val (.int (3 : Int32)), .val .null, .val .null, .val (.ref r6_), .val (.ref a8_), .val (.ref a9_), .val (.int (4 : Int32)), .val (.int (4 : Int32))]) (S' := [(.int (1 : Int32))]) st13 ?_
      refine GoH.st (T' := T13) (pc' := 121) (L' := #[.val (.int p1), .val (.int p2), .val (.int p3), .val (.int (3 : Int32)), .val (.int (3 : Int32)), .val .null, .val .null, .val (.ref r6_), .val (.ref a8_), .val (.ref a9_), .val (.int (4 : Int32)), .val (.int (4 : Int32))]) (S' := []) (fun t_ k_ => XS.ifYes X13.here hx rfl (pc0 := 116) (pc' := 121) rfl (hb hby at_116) rfl ((if0 _ _).trans (feq (by decide : ¬ ((1 : Int32) = (0 : Int32)))).2) (by decide) (by decide) k_) ?_
      refine GoH.st (T' := T13) (pc' := 123) (L' := #[.val (.int p1), .val (.int p2), .val (.int p3), .val (.int (3 : Int32)), .val (.int (3 : Int32)), .val .null, .val .null, .val (.ref r6_), .val (.ref a8_), .val (.ref a9_), .val (.int (4 : Int32)), .val (.int (4 : Int32))]) (S' := [(.ref r6_)]) (fun t_ k_ => XS.aload X13.here hx rfl (hb hby at_121) rfl rfl  k_) ?_
      refine GoH.st (T' := T13) (pc' := 125) (L' := #[.val (.int p1), .val (.int p2), .val (.int p3), .val (.int (3 : Int32)), .val (.int (3 : Int32)), .val .null, .val .null, .val (.ref r6_), .val (.ref a8_), .val (.ref a9_), .val (.int (4 : Int32)), .val (.int (4 : Int32))]) (S' := [(.int (4 : Int32)), (.ref r6_)]) (fun t_ k_ => XS.iload X13.here hx rfl (hb hby at_123) rfl  k_) ?_
      obtain ⟨cq14, kq14, q14a, q14b, q14c⟩ := isOf hZ e13 Er6
      obtain ⟨_, _, ⟨T14, L14, k14, n14⟩, -, X14, ⟨Lc14, hQ14, l14, y14, z14⟩, st14⟩ := X13.virtualBack hx (y := (⟨"java/lang/String", "charAt", "(I)C"⟩ : MethodName)) (z := (⟨"java/lang/String", "charAt", "(I)C"⟩ : MethodName)) hown (mvT hZ (hw _ (List.mem_of_getElem? (i := 163) rfl))) (mvT hZ (hw _ (List.mem_of_getElem? (i := 164) rfl))) (notFace_of_selects (args := #[]) (mvT hZ (hw _ (List.mem_of_getElem? (i := 166) rfl)))) (mvT hZ (hw _ (List.mem_of_getElem? (i := 166) rfl))) (mvT hZ (hw _ (List.mem_of_getElem? (i := 165) rfl))) (by decide) (backOf (W := 0) (rm30 l Z a0 hw [] r6_ tr6_ _ ((([] ++ ([110, 117, 108, 108] : List Int32) ++ ([32] : List Int32)) ++ ([110, 117, 108, 108] : List Int32))) (4) ((0 + 4 + 1 + 4 : Nat)) fm gC h9 n0 Z0 SC PC O0 hfm SF Er6 Co6 Va6 Vt6 (by omega) (by omega)) hZ (hw _ (List.mem_of_getElem? (i := 167) rfl)) (hw _ (List.mem_of_getElem? (i := 6) rfl)) (by decide) (by decide)) q14a q14c (g := (mkF m 125 #[.val (.int p1), .val (.int p2), .val (.int p3), .val (.int (3 : Int32)), .val (.int (3 : Int32)), .val .null, .val .null, .val (.ref r6_), .val (.ref a8_), .val (.ref a9_), .val (.int (4 : Int32)), .val (.int (4 : Int32))] [(.int (4 : Int32)), (.ref r6_)])) rfl (by rw [hml]; rfl) (Steps.refl _) (argsL := [(.int (4 : Int32))]) (rest := []) (lenOf pd_21 rfl) rfl (by show 2 * 0 + _ ≤ _; exact Nat.le_of_eq rfl) (hb hby at_125) (fun _ _ => ⟨rfl, e13, (by decide : 11 + 0 ≤ _), (by decide : 90 + 0 ≤ _)⟩)
      dsimp only [Pt.U, Pt.locs, Pt.cells, Pt.slots] at X14 l14 y14 z14 st14 hQ14
      subst l14 y14 z14
      unfold Q30 at hQ14
      generalize hx14 : own_ch _ = xc14 at hQ14
      obtain ⟨rfl, N14q, e14⟩ := hQ14
      have N14 := Fr.app N13 N14q
      refine GoH.tr (T' := T14) (pc' := 128) (L' := #[.val (.int p1), .val (.int p2), .val (.int p3), .val (.int (3 : Int32)), .val (.int (3 : Int32)), .val .null, .val .null, .val (.ref r6_), .val (.ref a8_), .val (.ref a9_), .val (.int (4 : Int32)), .val (.int (4 : Int32))]) (S' := [(.int xc14)]) st14 ?_
      refine GoH.st (T' := T14) (pc' := 130) (L' := #[.val (.int p1), .val (.int p2), .val (.int p3), .val (.int (3 : Int32)), .val (.int (3 : Int32)), .val .null, .val .null, .val (.ref r6_), .val (.ref a8_), .val (.ref a9_), .val (.int (4 : Int32)), .val (.int (4 : Int32))]) (S' := [(.int (32 : Int32)), (.int xc14)]) (fun t_ k_ => XS.bipush X14.here hx rfl (hb hby at_128) k_) ?_
      refine GoH.st (T' := T14) (pc' := 135) (L' := #[.val (.int p1), .val (.int p2), .val (.int p3), .val (.int (3 : Int32)), .val (.int (3 : Int32)), .val .null, .val .null, .val (.ref r6_), .val (.ref a8_), .val (.ref a9_), .val (.int (4 : Int32)), .val (.int (4 : Int32))]) (S' := []) (fun t_ k_ => XS.icmpYes X14.here hx rfl (pc0 := 130) (pc' := 135) rfl (hb hby at_130) rfl (teq (hx14.symm.trans (own_mc (A := ([110, 117, 108, 108] : List Int32)) (B := ([110, 117, 108, 108] : List Int32)) (n := 4) rfl) : (xc14 = (32 : Int32)))).1 (by decide) (by decide) k_) ?_
      refine GoH.st (T' := T14) (pc' := 137) (L' := #[.val (.int p1), .val (.int p2), .val (.int p3), .val (.int (3 : Int32)), .val (.int (3 : Int32)), .val .null, .val .null, .val (.ref r6_), .val (.ref a8_), .val (.ref a9_), .val (.int (4 : Int32)), .val (.int (4 : Int32))]) (S' := [(.ref r6_)]) (fun t_ k_ => XS.aload X14.here hx rfl (hb hby at_135) rfl rfl  k_) ?_
      refine GoH.st (T' := T14) (pc' := 139) (L' := #[.val (.int p1), .val (.int p2), .val (.int p3), .val (.int (3 : Int32)), .val (.int (3 : Int32)), .val .null, .val .null, .val (.ref r6_), .val (.ref a8_), .val (.ref a9_), .val (.int (4 : Int32)), .val (.int (4 : Int32))]) (S' := [(.ref a9_), (.ref r6_)]) (fun t_ k_ => XS.aload X14.here hx rfl (hb hby at_137) rfl rfl  k_) ?_
      refine GoH.st (T' := T14) (pc' := 141) (L' := #[.val (.int p1), .val (.int p2), .val (.int p3), .val (.int (3 : Int32)), .val (.int (3 : Int32)), .val .null, .val .null, .val (.ref r6_), .val (.ref a8_), .val (.ref a9_), .val (.int (4 : Int32)), .val (.int (4 : Int32))]) (S' := [(.int (4 : Int32)), (.ref a9_), (.ref r6_)]) (fun t_ k_ => XS.iload X14.here hx rfl (hb hby at_139) rfl  k_) ?_
      refine GoH.st (T' := T14) (pc' := 142) (L' := #[.val (.int p1), .val (.int p2), .val (.int p3), .val (.int (3 : Int32)), .val (.int (3 : Int32)), .val .null, .val .null, .val (.ref r6_), .val (.ref a8_), .val (.ref a9_), .val (.int (4 : Int32)), .val (.int (4 : Int32))]) (S' := [(.int (1 : Int32)), (.int (4 : Int32)), (.ref a9_), (.ref r6_)]) (fun t_ k_ => XS.iconst X14.here hx rfl (hb hby at_141) k_) ?_
      refine GoH.st (T' := T14) (pc' := 143) (L' := #[.val (.int p1), .val (.int p2), .val (.int p3), .val (.int (3 : Int32)), .val (.int (3 : Int32)), .val .null, .val .null, .val (.ref r6_), .val (.ref a8_), .val (.ref a9_), .val (.int (4 : Int32)), .val (.int (4 : Int32))]) (S' := [(.int ((4 : Int32) + (1 : Int32))), (.ref a9_), (.ref r6_)]) (fun t_ k_ => XS.iadd X14.here hx rfl (hb hby at_142) rfl k_) ?_
      rw [show ((4 : Int32) + (1 : Int32)) = (5 : Int32) from by decide]
      obtain ⟨_, _, ⟨T15, L15, k15, n15⟩, -, X15, ⟨Lc15, hQ15, l15, y15, z15⟩, st15⟩ := Jvm.LawKit.callS X14 hx (y := (⟨"com/example/vestry/vestry/plan/PlanSectionToStringPinLaw", "pre", "(Ljava/lang/String;Ljava/lang/String;I)Z"⟩ : MethodName)) hown (mvT hZ (hw _ (List.mem_of_getElem? (i := 160) rfl))) (mvT hZ (hw _ (List.mem_of_getElem? (i := 161) rfl))) (mvT hZ (hw _ (List.mem_of_getElem? (i := 2) rfl))) (mvT hZ (hw _ (List.mem_of_getElem? (i := 162) rfl))) (by decide) (backOf (W := 0) (rmpre l Z a0 hw [] r6_ tr6_ _ ((([] ++ ([110, 117, 108, 108] : List Int32) ++ ([32] : List Int32)) ++ ([110, 117, 108, 108] : List Int32))) ((0 + 4 + 1 + 4 : Nat)) a9_ b9_ _ (([(110 : Int32), (117 : Int32), (108 : Int32), (108 : Int32)] : List Int32)) (5) fm gC (4) h9 n0 Z0 SC PC O0 hfm SF Er6 Co6 Va6 Vt6 E_a9_ Fc_a9_ Fv_a9_ V_b9_ (own_la (own_la (own_la rfl rfl) rfl) rfl) (by omega) rfl (by omega) (fun j hj => own_nd (A := ([110, 117, 108, 108] : List Int32)) (B := ([110, 117, 108, 108] : List Int32)) (n := 4) rfl) (by omega)) hZ (hw _ (List.mem_of_getElem? (i := 162) rfl)) (hw _ (List.mem_of_getElem? (i := 2) rfl)) (by decide) (by decide)) (g := (mkF m 143 #[.val (.int p1), .val (.int p2), .val (.int p3), .val (.int (3 : Int32)), .val (.int (3 : Int32)), .val .null, .val .null, .val (.ref r6_), .val (.ref a8_), .val (.ref a9_), .val (.int (4 : Int32)), .val (.int (4 : Int32))] [(.int (5 : Int32)), (.ref a9_), (.ref r6_)])) rfl (by rw [hml]; rfl) (argsL := [(.ref r6_), (.ref a9_), (.int (5 : Int32))]) (rest := []) (lenOf pd_25 rfl) rfl (by show 2 * 0 + _ ≤ _; exact Nat.le_of_eq rfl) (hb hby at_143) (fun _ _ => ⟨rfl, e14, (by decide : 11 + 0 ≤ _), (by decide : 90 + 0 ≤ _)⟩)
      dsimp only [Pt.U, Pt.locs, Pt.cells, Pt.slots] at X15 l15 y15 z15 st15 hQ15
      subst l15 y15 z15
      obtain ⟨rfl, N15q, e15⟩ := hQ15
      have N15 := Fr.app N14 N15q
      refine GoH.st (T' := T15) (pc' := 146) (L' := #[.val (.int p1), .val (.int p2), .val (.int p3), .val (.int (3 : Int32)), .val (.int (3 : Int32)), .val .null, .val .null, .val (.ref r6_), .val (.ref a8_), .val (.ref a9_), .val (.int (4 : Int32)), .val (.int (4 : Int32))]) (S' := [(.int (1 : Int32))]) st15 ?_
      exact GoH.retN X15 hx hlk hret (by simp) (hb hby at_146) (by decide) (by decide) hS hk e15 hs0 hZ (own_EW hw) CR (by rw [e15]; exact ⟨rfl, N15⟩)
    · refine GoH.st (T' := T0) (pc' := 11) (L' := #[.val (.int p1), .val (.int p2), .val (.int p3), .val (.int (3 : Int32)), .val (.int (((p1.toUInt32 >>> ((2 : Int32) &&& 31).toUInt32).toInt32) &&& (3 : Int32))), .unset, .unset, .unset, .unset, .unset, .unset, .unset]) (S' := []) (fun t_ k_ => XS.istore X0.here hx rfl (hb hby at_9) rfl (l' := #[.val (.int p1), .val (.int p2), .val (.int p3), .val (.int (3 : Int32)), .val (.int (((p1.toUInt32 >>> ((2 : Int32) &&& 31).toUInt32).toInt32) &&& (3 : Int32))), .unset, .unset, .unset, .unset, .unset, .unset, .unset]) rfl k_) ?_
      refine GoH.st (T' := T0) (pc' := 12) (L' := #[.val (.int p1), .val (.int p2), .val (.int p3), .val (.int (3 : Int32)), .val (.int (((p1.toUInt32 >>> ((2 : Int32) &&& 31).toUInt32).toInt32) &&& (3 : Int32))), .unset, .unset, .unset, .unset, .unset, .unset, .unset]) (S' := [(.int (3 : Int32))]) (fun t_ k_ => XS.iloadN X0.here hx rfl (hb hby at_11) rfl  k_) ?_
      refine GoH.st (T' := T0) (pc' := 13) (L' := #[.val (.int p1), .val (.int p2), .val (.int p3), .val (.int (3 : Int32)), .val (.int (((p1.toUInt32 >>> ((2 : Int32) &&& 31).toUInt32).toInt32) &&& (3 : Int32))), .unset, .unset, .unset, .unset, .unset, .unset, .unset]) (S' := [(.int p2), (.int (3 : Int32))]) (fun t_ k_ => XS.iloadN X0.here hx rfl (hb hby at_12) rfl  k_) ?_
      obtain ⟨_, _, ⟨T16, L16, k16, n16⟩, -, X16, ⟨Lc16, hQ16, l16, y16, z16⟩, st16⟩ := Jvm.LawKit.callS X0 hx (y := (⟨"com/example/vestry/vestry/plan/PlanSectionToStringPinLaw", "mk", "(II)Ljava/lang/String;"⟩ : MethodName)) hown (mvT hZ (hw _ (List.mem_of_getElem? (i := 0) rfl))) (mvT hZ (hw _ (List.mem_of_getElem? (i := 1) rfl))) (mvT hZ (hw _ (List.mem_of_getElem? (i := 2) rfl))) (mvT hZ (hw _ (List.mem_of_getElem? (i := 3) rfl))) (by decide) (backOf (W := 0) (rmmkn l Z a0 hw [] p2 h0 n0 Z0) hZ (hw _ (List.mem_of_getElem? (i := 3) rfl)) (hw _ (List.mem_of_getElem? (i := 2) rfl)) (by decide) (by decide)) (g := (mkF m 13 #[.val (.int p1), .val (.int p2), .val (.int p3), .val (.int (3 : Int32)), .val (.int (((p1.toUInt32 >>> ((2 : Int32) &&& 31).toUInt32).toInt32) &&& (3 : Int32))), .unset, .unset, .unset, .unset, .unset, .unset, .unset] [(.int p2), (.int (3 : Int32))])) rfl (by rw [hml]; rfl) (argsL := [(.int (3 : Int32)), (.int p2)]) (rest := []) (lenOf pd_23 rfl) rfl (by show 2 * 0 + _ ≤ _; exact Nat.le_of_eq rfl) (hb hby at_13) (fun _ _ => ⟨rfl, e0, (by decide : 0 + 0 ≤ _), (by decide : 0 + 0 ≤ _)⟩)
      dsimp only [Pt.U, Pt.locs, Pt.cells, Pt.slots] at X16 l16 y16 z16 st16 hQ16
      subst l16 y16 z16
      obtain ⟨rfl, N16q, e16⟩ := hQ16
      have N16 := Fr.app N0 N16q
      refine GoH.st (T' := T16) (pc' := 16) (L' := #[.val (.int p1), .val (.int p2), .val (.int p3), .val (.int (3 : Int32)), .val (.int (((p1.toUInt32 >>> ((2 : Int32) &&& 31).toUInt32).toInt32) &&& (3 : Int32))), .unset, .unset, .unset, .unset, .unset, .unset, .unset]) (S' := [.null]) st16 ?_
      refine GoH.st (T' := T16) (pc' := 18) (L' := #[.val (.int p1), .val (.int p2), .val (.int p3), .val (.int (3 : Int32)), .val (.int (((p1.toUInt32 >>> ((2 : Int32) &&& 31).toUInt32).toInt32) &&& (3 : Int32))), .val .null, .unset, .unset, .unset, .unset, .unset, .unset]) (S' := []) (fun t_ k_ => XS.astore X16.here hx rfl (hb hby at_16) rfl rfl (l' := #[.val (.int p1), .val (.int p2), .val (.int p3), .val (.int (3 : Int32)), .val (.int (((p1.toUInt32 >>> ((2 : Int32) &&& 31).toUInt32).toInt32) &&& (3 : Int32))), .val .null, .unset, .unset, .unset, .unset, .unset, .unset]) rfl k_) ?_
      refine GoH.st (T' := T16) (pc' := 20) (L' := #[.val (.int p1), .val (.int p2), .val (.int p3), .val (.int (3 : Int32)), .val (.int (((p1.toUInt32 >>> ((2 : Int32) &&& 31).toUInt32).toInt32) &&& (3 : Int32))), .val .null, .unset, .unset, .unset, .unset, .unset, .unset]) (S' := [(.int (((p1.toUInt32 >>> ((2 : Int32) &&& 31).toUInt32).toInt32) &&& (3 : Int32)))]) (fun t_ k_ => XS.iload X16.here hx rfl (hb hby at_18) rfl  k_) ?_
      refine GoH.st (T' := T16) (pc' := 21) (L' := #[.val (.int p1), .val (.int p2), .val (.int p3), .val (.int (3 : Int32)), .val (.int (((p1.toUInt32 >>> ((2 : Int32) &&& 31).toUInt32).toInt32) &&& (3 : Int32))), .val .null, .unset, .unset, .unset, .unset, .unset, .unset]) (S' := [(.int p3), (.int (((p1.toUInt32 >>> ((2 : Int32) &&& 31).toUInt32).toInt32) &&& (3 : Int32)))]) (fun t_ k_ => XS.iloadN X16.here hx rfl (hb hby at_20) rfl  k_) ?_
      obtain ⟨_, _, ⟨T17, L17, k17, n17⟩, -, X17, hS17, hg17, ⟨Lc17, hQ17, l17, y17, z17, CR17⟩, st17⟩ := callSS X16 hx (y := (⟨"com/example/vestry/vestry/plan/PlanSectionToStringPinLaw", "mk", "(II)Ljava/lang/String;"⟩ : MethodName)) hown (mvT hZ (hw _ (List.mem_of_getElem? (i := 0) rfl))) (mvT hZ (hw _ (List.mem_of_getElem? (i := 1) rfl))) (mvT hZ (hw _ (List.mem_of_getElem? (i := 2) rfl))) (mvT hZ (hw _ (List.mem_of_getElem? (i := 3) rfl))) (by decide) (backOfSH (W := 0) (rmmk l Z a0 hw [] (((p1.toUInt32 >>> ((2 : Int32) &&& 31).toUInt32).toInt32) &&& (3 : Int32)) p3 gC h0 n0 Z0 SC PC O0 hkb) hZ (hw _ (List.mem_of_getElem? (i := 3) rfl)) (hw _ (List.mem_of_getElem? (i := 2) rfl)) (by decide) (by decide) (own_EW hw) CR.1) (g := (mkF m 21 #[.val (.int p1), .val (.int p2), .val (.int p3), .val (.int (3 : Int32)), .val (.int (((p1.toUInt32 >>> ((2 : Int32) &&& 31).toUInt32).toInt32) &&& (3 : Int32))), .val .null, .unset, .unset, .unset, .unset, .unset, .unset] [(.int p3), (.int (((p1.toUInt32 >>> ((2 : Int32) &&& 31).toUInt32).toInt32) &&& (3 : Int32)))])) rfl (by rw [hml]; rfl) (argsL := [(.int (((p1.toUInt32 >>> ((2 : Int32) &&& 31).toUInt32).toInt32) &&& (3 : Int32))), (.int p3)]) (rest := []) (lenOf pd_23 rfl) rfl (by show 2 * 0 + _ ≤ _; exact Nat.le_of_eq rfl) (hb hby at_21) (fun _ _ => ⟨rfl, e16, (by decide : 0 + 6 ≤ _), (by decide : 0 + 12 ≤ _)⟩)
      dsimp only [Pt.U, Pt.locs, Pt.cells, Pt.slots] at X17 l17 y17 z17 st17 hQ17 hS17 hg17 CR17
      subst l17 y17 z17
      replace X17 : Stand p l e _ (s.setVm T17.vm) m _ below meth c T17 _ _ _ := X17
      replace hS := foldS hS (T := T16) (Nat.le_trans hk (Nat.le_of_eq (congrArg Array.size e16.symm))) hS17 hg17
      replace hk := Nat.le_refl T17.heap.size
      replace hZ : Z.Warmed39 (s.setVm T17.vm).vm := State.Warmed39.trans (t := s.setVm s.vm) hZ hS17.1
      replace hown : (s.setVm T17.vm).vm.findClass "com/example/vestry/vestry/plan/PlanSectionToStringPinLaw" = some m.cls := by rw [show (s.setVm T17.vm).vm = T17.vm from rfl, hS17.1.alike.findClass]; exact hown
      obtain ⟨r17_, tr17_, kt17, A17_, n17_, rfl, N17q, K17, Er17, Co17, Va17, Vt17, lA17, ln17⟩ := hQ17
      have N17 := Fr.app N16 N17q
      obtain ⟨h17, e17⟩ : ∃ z, T17.heap = z := ⟨_, rfl⟩
      rw [e17] at K17 Er17 Co17 Va17 Vt17 CR17
      replace CR := CR.trans CR17
      replace Z0 := Nat.le_trans Z0 K17.1
      replace O0 := O0.keep K17 all0
      replace hk : T17.heap.size ≤ h17.size := Nat.le_of_eq (congrArg Array.size e17)
      refine GoH.tr (T' := T17) (pc' := 24) (L' := #[.val (.int p1), .val (.int p2), .val (.int p3), .val (.int (3 : Int32)), .val (.int (((p1.toUInt32 >>> ((2 : Int32) &&& 31).toUInt32).toInt32) &&& (3 : Int32))), .val .null, .unset, .unset, .unset, .unset, .unset, .unset]) (S' := [(.ref r17_)]) st17 ?_
      refine GoH.st (T' := T17) (pc' := 26) (L' := #[.val (.int p1), .val (.int p2), .val (.int p3), .val (.int (3 : Int32)), .val (.int (((p1.toUInt32 >>> ((2 : Int32) &&& 31).toUInt32).toInt32) &&& (3 : Int32))), .val .null, .val (.ref r17_), .unset, .unset, .unset, .unset, .unset]) (S' := []) (fun t_ k_ => XS.astore X17.here hx rfl (hb hby at_24) rfl rfl (l' := #[.val (.int p1), .val (.int p2), .val (.int p3), .val (.int (3 : Int32)), .val (.int (((p1.toUInt32 >>> ((2 : Int32) &&& 31).toUInt32).toInt32) &&& (3 : Int32))), .val .null, .val (.ref r17_), .unset, .unset, .unset, .unset, .unset]) rfl k_) ?_
      obtain ⟨T19, h19, X19, e19, E19, A19, D19, U19, st19⟩ := newO X17 hx hZ hown (hw _ (List.mem_of_getElem? (i := 26) rfl)) (hw _ (List.mem_of_getElem? (i := 27) rfl)) (hw _ (List.mem_of_getElem? (i := 28) rfl)) e17 (g := (mkF m 26 #[.val (.int p1), .val (.int p2), .val (.int p3), .val (.int (3 : Int32)), .val (.int (((p1.toUInt32 >>> ((2 : Int32) &&& 31).toUInt32).toInt32) &&& (3 : Int32))), .val .null, .val (.ref r17_), .unset, .unset, .unset, .unset, .unset] [])) rfl (hb hby at_26) (by decide) (by decide)
      obtain ⟨b19, g19⟩ : ∃ z, z = h17.size := ⟨_, rfl⟩
      rw [← g19] at A19 D19 U19 st19
      have ne_r17__b19 : r17_ ≠ b19 := Nat.ne_of_lt (Nat.lt_of_lt_of_le Er17.lt (Nat.le_of_eq g19.symm))
      have ne_tr17__b19 : tr17_ ≠ b19 := Nat.ne_of_lt (Nat.lt_of_lt_of_le Vt17.lt (Nat.le_of_eq g19.symm))
      have g_b19 : n0 ≤ b19 := Nat.le_trans Z0 (Nat.le_of_eq g19.symm)
      replace CR := CR.trans (CHr.ext E19 CR.1)
      replace hk := Nat.le_trans hk E19.1
      replace Z0 := Nat.le_trans Z0 E19.1
      replace O0 := O0.ext E19
      replace Er17 := Er17.ext E19
      replace Co17 := Co17.ext E19
      replace Va17 := Va17.ext E19
      replace Vt17 := Vt17.ext E19
      have E_b19 := A19
      have F_b19_planId : Fld Z h19 b19 "com/example/vestry/vestry/plan/PlanSection" "planId" "Ljava/lang/String;" .null := D19 (Or.inr (hw _ (List.mem_of_getElem? (i := 39) rfl))) (ty := (.object "java/lang/String")) (by decide)
      have F_b19_section : Fld Z h19 b19 "com/example/vestry/vestry/plan/PlanSection" "section" "Ljava/lang/String;" .null := D19 (Or.inr (hw _ (List.mem_of_getElem? (i := 41) rfl))) (ty := (.object "java/lang/String")) (by decide)
      refine GoH.st (T' := T19) (pc' := 29) (L' := #[.val (.int p1), .val (.int p2), .val (.int p3), .val (.int (3 : Int32)), .val (.int (((p1.toUInt32 >>> ((2 : Int32) &&& 31).toUInt32).toInt32) &&& (3 : Int32))), .val .null, .val (.ref r17_), .unset, .unset, .unset, .unset, .unset]) (S' := [(.ref b19)]) st19 ?_
      refine GoH.st (T' := T19) (pc' := 30) (L' := #[.val (.int p1), .val (.int p2), .val (.int p3), .val (.int (3 : Int32)), .val (.int (((p1.toUInt32 >>> ((2 : Int32) &&& 31).toUInt32).toInt32) &&& (3 : Int32))), .val .null, .val (.ref r17_), .unset, .unset, .unset, .unset, .unset]) (S' := [(.ref b19), (.ref b19)]) (fun t_ k_ => XS.dup X19.here hx rfl (hb hby at_29) rfl rfl k_) ?_
      refine GoH.st (T' := T19) (pc' := 32) (L' := #[.val (.int p1), .val (.int p2), .val (.int p3), .val (.int (3 : Int32)), .val (.int (((p1.toUInt32 >>> ((2 : Int32) &&& 31).toUInt32).toInt32) &&& (3 : Int32))), .val .null, .val (.ref r17_), .unset, .unset, .unset, .unset, .unset]) (S' := [.null, (.ref b19), (.ref b19)]) (fun t_ k_ => XS.aload X19.here hx rfl (hb hby at_30) rfl rfl  k_) ?_
      refine GoH.st (T' := T19) (pc' := 34) (L' := #[.val (.int p1), .val (.int p2), .val (.int p3), .val (.int (3 : Int32)), .val (.int (((p1.toUInt32 >>> ((2 : Int32) &&& 31).toUInt32).toInt32) &&& (3 : Int32))), .val .null, .val (.ref r17_), .unset, .unset, .unset, .unset, .unset]) (S' := [(.ref r17_), .null, (.ref b19), (.ref b19)]) (fun t_ k_ => XS.aload X19.here hx rfl (hb hby at_32) rfl rfl  k_) ?_
      obtain ⟨_, _, ⟨T20, L20, k20, n20⟩, -, X20, ⟨Lc20, hQ20, l20, y20, z20⟩, st20⟩ := X19.specialBack hx (y := (⟨"com/example/vestry/vestry/plan/PlanSection", "<init>", "(Ljava/lang/String;Ljava/lang/String;)V"⟩ : MethodName)) rfl hown (mvT hZ (hw _ (List.mem_of_getElem? (i := 29) rfl))) (mvT hZ (hw _ (List.mem_of_getElem? (i := 30) rfl))) (mvT hZ (hw _ (List.mem_of_getElem? (i := 31) rfl))) (by decide) (backOf (W := 1) (rmps01 l Z a0 hw [] b19 r17_ h19 n0 Z0 E_b19 g_b19 F_b19_planId F_b19_section) hZ (hw _ (List.mem_of_getElem? (i := 31) rfl)) (hw _ (List.mem_of_getElem? (i := 28) rfl)) (by decide) (by decide)) (g := (mkF m 34 #[.val (.int p1), .val (.int p2), .val (.int p3), .val (.int (3 : Int32)), .val (.int (((p1.toUInt32 >>> ((2 : Int32) &&& 31).toUInt32).toInt32) &&& (3 : Int32))), .val .null, .val (.ref r17_), .unset, .unset, .unset, .unset, .unset] [(.ref r17_), .null, (.ref b19), (.ref b19)])) rfl (by rw [hml]; rfl) (Steps.refl _) (a := b19) (argsL := [.null, (.ref r17_)]) (rest := [(.ref b19)]) (lenOf pd_24 rfl) rfl (by show 2 * 0 + _ ≤ _; exact Nat.le_of_eq rfl) (hb hby at_34) (fun _ _ => ⟨rfl, e19, (by decide : 7 + 0 ≤ _), (by decide : 14 + 0 ≤ _)⟩)
      dsimp only [Pt.U, Pt.locs, Pt.cells, Pt.slots] at X20 l20 y20 z20 st20 hQ20
      subst l20 y20 z20
      obtain ⟨rfl, N20q, K20, G20_planId, G20_section⟩ := hQ20
      have N20 := Fr.app N17 N20q
      obtain ⟨h20, e20⟩ : ∃ z, T20.heap = z := ⟨_, rfl⟩
      rw [e20] at K20 G20_planId G20_section
      have Sk21 : ∀ x ∈ [b19], Safe Z EL T17.vm h19 x := (allS (Safe.exa hZ.alike E_b19 (by decide) (by decide)) all0)
      replace CR := CR.trans (CHr.keep K20 Sk21 CR.1)
      replace hk := Nat.le_trans hk K20.1
      replace Z0 := Nat.le_trans Z0 K20.1
      replace O0 := O0.keep K20 (allS g_b19 all0)
      replace Er17 := Er17.keep K20
      replace Co17 := Co17.keep K20 (ninS ne_r17__b19 nin0)
      replace Va17 := Va17.keep K20 (ninS ne_r17__b19 nin0)
      replace Vt17 := Vt17.keep K20 (ninS ne_tr17__b19 nin0)
      replace E_b19 := E_b19.keep K20
      refine GoH.tr (T' := T20) (pc' := 37) (L' := #[.val (.int p1), .val (.int p2), .val (.int p3), .val (.int (3 : Int32)), .val (.int (((p1.toUInt32 >>> ((2 : Int32) &&& 31).toUInt32).toInt32) &&& (3 : Int32))), .val .null, .val (.ref r17_), .unset, .unset, .unset, .unset, .unset]) (S' := [(.ref b19)]) st20 ?_
      obtain ⟨cq22, kq22, q22a, q22b, q22c⟩ := isOf hZ e20 E_b19
      obtain ⟨_, _, ⟨T22, L22, k22, n22⟩, -, X22, hS22, hg22, ⟨Lc22, hQ22, l22, y22, z22, CR22⟩, st22⟩ := X20.virtualBackS hx (y := (⟨"com/example/vestry/vestry/plan/PlanSection", "toString", "()Ljava/lang/String;"⟩ : MethodName)) (z := (⟨"com/example/vestry/vestry/plan/PlanSection", "toString", "()Ljava/lang/String;"⟩ : MethodName)) hown (mvT hZ (hw _ (List.mem_of_getElem? (i := 42) rfl))) (mvT hZ (hw _ (List.mem_of_getElem? (i := 43) rfl))) (notFace_of_selects (args := #[]) (mvT hZ (hw _ (List.mem_of_getElem? (i := 45) rfl)))) (mvT hZ (hw _ (List.mem_of_getElem? (i := 45) rfl))) (mvT hZ (hw _ (List.mem_of_getElem? (i := 44) rfl))) (by decide) (backOfSH (W := 0) (rmts01 l Z a0 hw [] b19 r17_ tr17_ _ (A17_) (n17_) gC h20 n0 Z0 SC PC O0 G20_planId G20_section Er17 Co17 Va17 Vt17 lA17 (by omega)) hZ (hw _ (List.mem_of_getElem? (i := 46) rfl)) (hw _ (List.mem_of_getElem? (i := 28) rfl)) (by decide) (by decide) (own_EW hw) CR.1) q22a q22c (g := (mkF m 37 #[.val (.int p1), .val (.int p2), .val (.int p3), .val (.int (3 : Int32)), .val (.int (((p1.toUInt32 >>> ((2 : Int32) &&& 31).toUInt32).toInt32) &&& (3 : Int32))), .val .null, .val (.ref r17_), .unset, .unset, .unset, .unset, .unset] [(.ref b19)])) rfl (by rw [hml]; rfl) (Steps.refl _) (argsL := []) (rest := []) (lenOf pd_20 rfl) rfl (by show 2 * 0 + _ ≤ _; exact Nat.le_of_eq rfl) (hb hby at_37) (fun _ _ => ⟨rfl, e20, (by decide : 7 + 6 ≤ _), (by decide : 14 + 48 ≤ _)⟩)
      dsimp only [Pt.U, Pt.locs, Pt.cells, Pt.slots] at X22 l22 y22 z22 st22 hQ22 hS22 hg22 CR22
      subst l22 y22 z22
      replace X22 : Stand p l e _ (s.setVm T22.vm) m _ below meth c T22 _ _ _ := X22
      replace hS := foldS hS (T := T20) (Nat.le_trans hk (Nat.le_of_eq (congrArg Array.size e20.symm))) hS22 hg22
      replace hk := Nat.le_refl T22.heap.size
      replace hZ : Z.Warmed39 (s.setVm T22.vm).vm := State.Warmed39.trans (t := s.setVm T17.vm) hZ hS22.1
      replace hown : (s.setVm T22.vm).vm.findClass "com/example/vestry/vestry/plan/PlanSectionToStringPinLaw" = some m.cls := by rw [show (s.setVm T22.vm).vm = T22.vm from rfl, hS22.1.alike.findClass]; exact hown
      obtain ⟨r22_, tr22_, kt22, rfl, N22q, K22, g_r22_, lt22, Er22, Co22, Va22, Vt22⟩ := hQ22
      have N22 := Fr.app N20 N22q
      have ne_r17__r22_ : r17_ ≠ r22_ := Nat.ne_of_lt (Nat.lt_of_lt_of_le Er17.lt lt22)
      have ne_tr17__r22_ : tr17_ ≠ r22_ := Nat.ne_of_lt (Nat.lt_of_lt_of_le Vt17.lt lt22)
      have ne_b19_r22_ : b19 ≠ r22_ := Nat.ne_of_lt (Nat.lt_of_lt_of_le E_b19.lt lt22)
      obtain ⟨h22, e22⟩ : ∃ z, T22.heap = z := ⟨_, rfl⟩
      rw [e22] at K22 Er22 Co22 Va22 Vt22 CR22
      replace CR := CR.trans CR22
      replace Z0 := Nat.le_trans Z0 K22.1
      replace O0 := O0.keep K22 all0
      replace Er17 := Er17.keep K22
      replace Co17 := Co17.keep K22 nin0
      replace Va17 := Va17.keep K22 nin0
      replace Vt17 := Vt17.keep K22 nin0
      replace E_b19 := E_b19.keep K22
      replace G20_planId := G20_planId.keep K22 nin0
      replace G20_section := G20_section.keep K22 nin0
      replace hk : T22.heap.size ≤ h22.size := Nat.le_of_eq (congrArg Array.size e22)
      refine GoH.tr (T' := T22) (pc' := 40) (L' := #[.val (.int p1), .val (.int p2), .val (.int p3), .val (.int (3 : Int32)), .val (.int (((p1.toUInt32 >>> ((2 : Int32) &&& 31).toUInt32).toInt32) &&& (3 : Int32))), .val .null, .val (.ref r17_), .unset, .unset, .unset, .unset, .unset]) (S' := [(.ref r22_)]) st22 ?_
      refine GoH.st (T' := T22) (pc' := 42) (L' := #[.val (.int p1), .val (.int p2), .val (.int p3), .val (.int (3 : Int32)), .val (.int (((p1.toUInt32 >>> ((2 : Int32) &&& 31).toUInt32).toInt32) &&& (3 : Int32))), .val .null, .val (.ref r17_), .val (.ref r22_), .unset, .unset, .unset, .unset]) (S' := []) (fun t_ k_ => XS.astore X22.here hx rfl (hb hby at_40) rfl rfl (l' := #[.val (.int p1), .val (.int p2), .val (.int p3), .val (.int (3 : Int32)), .val (.int (((p1.toUInt32 >>> ((2 : Int32) &&& 31).toUInt32).toInt32) &&& (3 : Int32))), .val .null, .val (.ref r17_), .val (.ref r22_), .unset, .unset, .unset, .unset]) rfl k_) ?_
      refine GoH.st (T' := T22) (pc' := 44) (L' := #[.val (.int p1), .val (.int p2), .val (.int p3), .val (.int (3 : Int32)), .val (.int (((p1.toUInt32 >>> ((2 : Int32) &&& 31).toUInt32).toInt32) &&& (3 : Int32))), .val .null, .val (.ref r17_), .val (.ref r22_), .unset, .unset, .unset, .unset]) (S' := [(.ref r22_)]) (fun t_ k_ => XS.aload X22.here hx rfl (hb hby at_42) rfl rfl  k_) ?_
      refine GoH.st (T' := T22) (pc' := 49) (L' := #[.val (.int p1), .val (.int p2), .val (.int p3), .val (.int (3 : Int32)), .val (.int (((p1.toUInt32 >>> ((2 : Int32) &&& 31).toUInt32).toInt32) &&& (3 : Int32))), .val .null, .val (.ref r17_), .val (.ref r22_), .unset, .unset, .unset, .unset]) (S' := []) (fun t_ k_ => XS.ifnonnullYes X22.here hx rfl (pc0 := 44) (pc' := 49) rfl (hb hby at_44) rfl (by decide) (by decide) k_) ?_
      refine GoH.st (T' := T22) (pc' := 51) (L' := #[.val (.int p1), .val (.int p2), .val (.int p3), .val (.int (3 : Int32)), .val (.int (((p1.toUInt32 >>> ((2 : Int32) &&& 31).toUInt32).toInt32) &&& (3 : Int32))), .val .null, .val (.ref r17_), .val (.ref r22_), .unset, .unset, .unset, .unset]) (S' := [.null]) (fun t_ k_ => XS.aload X22.here hx rfl (hb hby at_49) rfl rfl  k_) ?_
      refine GoH.st (T' := T22) (pc' := 54) (L' := #[.val (.int p1), .val (.int p2), .val (.int p3), .val (.int (3 : Int32)), .val (.int (((p1.toUInt32 >>> ((2 : Int32) &&& 31).toUInt32).toInt32) &&& (3 : Int32))), .val .null, .val (.ref r17_), .val (.ref r22_), .unset, .unset, .unset, .unset]) (S' := []) (fun t_ k_ => XS.ifnonnullNo X22.here hx rfl (hb hby at_51) rfl k_) ?_
      obtain ⟨a24_, T24, h24, k24, b24_, c24, X24, e24, E24, hS24, hk24, hZ24, ho24, E_a24_, Fc_a24_, Fv_a24_, V_b24_, lta24, ltb24, CR24, -, Sf24, st24⟩ := ldcCH X22 hx hZ hown (hw _ (List.mem_of_getElem? (i := 201) rfl)) (own_wS hw) e22 hS hk (own_EW hw) (by decide : ("com/example/vestry/vestry/plan/PlanSectionToStringPinLaw", 22) ∈ EL) CR.1 (vs := [(.int (110 : Int32)), (.int (117 : Int32)), (.int (108 : Int32)), (.int (108 : Int32))]) (z := (4 : Int32)) ⟨by decide, by decide⟩ (by decide) rfl (g := (mkF m 54 #[.val (.int p1), .val (.int p2), .val (.int p3), .val (.int (3 : Int32)), .val (.int (((p1.toUInt32 >>> ((2 : Int32) &&& 31).toUInt32).toInt32) &&& (3 : Int32))), .val .null, .val (.ref r17_), .val (.ref r22_), .unset, .unset, .unset, .unset] [])) rfl (hb hby at_54) (n := 16) (by decide) (by decide) (by decide) (by decide)
      replace CR := CR.trans CR24
      replace Z0 := Nat.le_trans Z0 E24.1
      replace O0 := O0.ext E24
      replace Er17 := Er17.ext E24
      replace Co17 := Co17.ext E24
      replace Va17 := Va17.ext E24
      replace Vt17 := Vt17.ext E24
      replace E_b19 := E_b19.ext E24
      replace G20_planId := G20_planId.ext E24
      replace G20_section := G20_section.ext E24
      replace Er22 := Er22.ext E24
      replace Co22 := Co22.ext E24
      replace Va22 := Va22.ext E24
      replace Vt22 := Vt22.ext E24
      replace hZ := hZ24
      replace hown := ho24
      replace hS := hS24
      replace hk := hk24
      refine GoH.st (T' := T24) (pc' := 56) (L' := #[.val (.int p1), .val (.int p2), .val (.int p3), .val (.int (3 : Int32)), .val (.int (((p1.toUInt32 >>> ((2 : Int32) &&& 31).toUInt32).toInt32) &&& (3 : Int32))), .val .null, .val (.ref r17_), .val (.ref r22_), .unset, .unset, .unset, .unset]) (S' := [(.ref a24_)]) st24 ?_
      refine GoH.st (T' := T24) (pc' := 61) (L' := #[.val (.int p1), .val (.int p2), .val (.int p3), .val (.int (3 : Int32)), .val (.int (((p1.toUInt32 >>> ((2 : Int32) &&& 31).toUInt32).toInt32) &&& (3 : Int32))), .val .null, .val (.ref r17_), .val (.ref r22_), .unset, .unset, .unset, .unset]) (S' := [(.ref a24_)]) (fun t_ k_ => XS.goto X24.here hx rfl (pc0 := 56) (pc' := 61) rfl (hb hby at_56) (by decide) (by decide) k_) ?_
      refine GoH.st (T' := T24) (pc' := 63) (L' := #[.val (.int p1), .val (.int p2), .val (.int p3), .val (.int (3 : Int32)), .val (.int (((p1.toUInt32 >>> ((2 : Int32) &&& 31).toUInt32).toInt32) &&& (3 : Int32))), .val .null, .val (.ref r17_), .val (.ref r22_), .val (.ref a24_), .unset, .unset, .unset]) (S' := []) (fun t_ k_ => XS.astore X24.here hx rfl (hb hby at_61) rfl rfl (l' := #[.val (.int p1), .val (.int p2), .val (.int p3), .val (.int (3 : Int32)), .val (.int (((p1.toUInt32 >>> ((2 : Int32) &&& 31).toUInt32).toInt32) &&& (3 : Int32))), .val .null, .val (.ref r17_), .val (.ref r22_), .val (.ref a24_), .unset, .unset, .unset]) rfl k_) ?_
      refine GoH.st (T' := T24) (pc' := 65) (L' := #[.val (.int p1), .val (.int p2), .val (.int p3), .val (.int (3 : Int32)), .val (.int (((p1.toUInt32 >>> ((2 : Int32) &&& 31).toUInt32).toInt32) &&& (3 : Int32))), .val .null, .val (.ref r17_), .val (.ref r22_), .val (.ref a24_), .unset, .unset, .unset]) (S' := [(.ref r17_)]) (fun t_ k_ => XS.aload X24.here hx rfl (hb hby at_63) rfl rfl  k_) ?_
      refine GoH.st (T' := T24) (pc' := 73) (L' := #[.val (.int p1), .val (.int p2), .val (.int p3), .val (.int (3 : Int32)), .val (.int (((p1.toUInt32 >>> ((2 : Int32) &&& 31).toUInt32).toInt32) &&& (3 : Int32))), .val .null, .val (.ref r17_), .val (.ref r22_), .val (.ref a24_), .unset, .unset, .unset]) (S' := []) (fun t_ k_ => XS.ifnonnullYes X24.here hx rfl (pc0 := 65) (pc' := 73) rfl (hb hby at_65) rfl (by decide) (by decide) k_) ?_
      refine GoH.st (T' := T24) (pc' := 75) (L' := #[.val (.int p1), .val (.int p2), .val (.int p3), .val (.int (3 : Int32)), .val (.int (((p1.toUInt32 >>> ((2 : Int32) &&& 31).toUInt32).toInt32) &&& (3 : Int32))), .val .null, .val (.ref r17_), .val (.ref r22_), .val (.ref a24_), .unset, .unset, .unset]) (S' := [(.ref r17_)]) (fun t_ k_ => XS.aload X24.here hx rfl (hb hby at_73) rfl rfl  k_) ?_
      refine GoH.st (T' := T24) (pc' := 77) (L' := #[.val (.int p1), .val (.int p2), .val (.int p3), .val (.int (3 : Int32)), .val (.int (((p1.toUInt32 >>> ((2 : Int32) &&& 31).toUInt32).toInt32) &&& (3 : Int32))), .val .null, .val (.ref r17_), .val (.ref r22_), .val (.ref a24_), .val (.ref r17_), .unset, .unset]) (S' := []) (fun t_ k_ => XS.astore X24.here hx rfl (hb hby at_75) rfl rfl (l' := #[.val (.int p1), .val (.int p2), .val (.int p3), .val (.int (3 : Int32)), .val (.int (((p1.toUInt32 >>> ((2 : Int32) &&& 31).toUInt32).toInt32) &&& (3 : Int32))), .val .null, .val (.ref r17_), .val (.ref r22_), .val (.ref a24_), .val (.ref r17_), .unset, .unset]) rfl k_) ?_
      refine GoH.st (T' := T24) (pc' := 79) (L' := #[.val (.int p1), .val (.int p2), .val (.int p3), .val (.int (3 : Int32)), .val (.int (((p1.toUInt32 >>> ((2 : Int32) &&& 31).toUInt32).toInt32) &&& (3 : Int32))), .val .null, .val (.ref r17_), .val (.ref r22_), .val (.ref a24_), .val (.ref r17_), .unset, .unset]) (S' := [(.ref a24_)]) (fun t_ k_ => XS.aload X24.here hx rfl (hb hby at_77) rfl rfl  k_) ?_
      obtain ⟨cq25, kq25, q25a, q25b, q25c⟩ := isOf hZ e24 E_a24_
      obtain ⟨_, _, ⟨T25, L25, k25, n25⟩, -, X25, ⟨Lc25, hQ25, l25, y25, z25⟩, st25⟩ := X24.virtualBack hx (y := (⟨"java/lang/String", "length", "()I"⟩ : MethodName)) (z := (⟨"java/lang/String", "length", "()I"⟩ : MethodName)) hown (mvT hZ (hw _ (List.mem_of_getElem? (i := 159) rfl))) (mvT hZ (hw _ (List.mem_of_getElem? (i := 76) rfl))) (notFace_of_selects (args := #[]) (mvT hZ (hw _ (List.mem_of_getElem? (i := 78) rfl)))) (mvT hZ (hw _ (List.mem_of_getElem? (i := 78) rfl))) (mvT hZ (hw _ (List.mem_of_getElem? (i := 77) rfl))) (by decide) (backOf (W := 0) (rm12 l Z a0 hw [] a24_ b24_ _ gC (4 : Int32) (([(110 : Int32), (117 : Int32), (108 : Int32), (108 : Int32)] : List Int32)) h24 n0 Z0 SC PC O0 E_a24_ Fc_a24_ Fv_a24_ V_b24_) hZ (hw _ (List.mem_of_getElem? (i := 79) rfl)) (hw _ (List.mem_of_getElem? (i := 6) rfl)) (by decide) (by decide)) q25a q25c (g := (mkF m 79 #[.val (.int p1), .val (.int p2), .val (.int p3), .val (.int (3 : Int32)), .val (.int (((p1.toUInt32 >>> ((2 : Int32) &&& 31).toUInt32).toInt32) &&& (3 : Int32))), .val .null, .val (.ref r17_), .val (.ref r22_), .val (.ref a24_), .val (.ref r17_), .unset, .unset] [(.ref a24_)])) rfl (by rw [hml]; rfl) (Steps.refl _) (argsL := []) (rest := []) (lenOf pd_4 rfl) rfl (by show 2 * 0 + _ ≤ _; exact Nat.le_of_eq rfl) (hb hby at_79) (fun _ _ => ⟨rfl, e24, (by decide : 15 + 0 ≤ _), (by decide : 82 + 0 ≤ _)⟩)
      dsimp only [Pt.U, Pt.locs, Pt.cells, Pt.slots] at X25 l25 y25 z25 st25 hQ25
      subst l25 y25 z25
      obtain ⟨rfl, N25q, e25⟩ := hQ25
      have N25 := Fr.app N22 N25q
      refine GoH.tr (T' := T25) (pc' := 82) (L' := #[.val (.int p1), .val (.int p2), .val (.int p3), .val (.int (3 : Int32)), .val (.int (((p1.toUInt32 >>> ((2 : Int32) &&& 31).toUInt32).toInt32) &&& (3 : Int32))), .val .null, .val (.ref r17_), .val (.ref r22_), .val (.ref a24_), .val (.ref r17_), .unset, .unset]) (S' := [(.int (4 : Int32))]) st25 ?_
      refine GoH.st (T' := T25) (pc' := 84) (L' := #[.val (.int p1), .val (.int p2), .val (.int p3), .val (.int (3 : Int32)), .val (.int (((p1.toUInt32 >>> ((2 : Int32) &&& 31).toUInt32).toInt32) &&& (3 : Int32))), .val .null, .val (.ref r17_), .val (.ref r22_), .val (.ref a24_), .val (.ref r17_), .val (.int (4 : Int32)), .unset]) (S' := []) (fun t_ k_ => XS.istore X25.here hx rfl (hb hby at_82) rfl (l' := #[.val (.int p1), .val (.int p2), .val (.int p3), .val (.int (3 : Int32)), .val (.int (((p1.toUInt32 >>> ((2 : Int32) &&& 31).toUInt32).toInt32) &&& (3 : Int32))), .val .null, .val (.ref r17_), .val (.ref r22_), .val (.ref a24_), .val (.ref r17_), .val (.int (4 : Int32)), .unset]) rfl k_) ?_
      refine GoH.st (T' := T25) (pc' := 86) (L' := #[.val (.int p1), .val (.int p2), .val (.int p3), .val (.int (3 : Int32)), .val (.int (((p1.toUInt32 >>> ((2 : Int32) &&& 31).toUInt32).toInt32) &&& (3 : Int32))), .val .null, .val (.ref r17_), .val (.ref r22_), .val (.ref a24_), .val (.ref r17_), .val (.int (4 : Int32)), .unset]) (S' := [(.ref r17_)]) (fun t_ k_ => XS.aload X25.here hx rfl (hb hby at_84) rfl rfl  k_) ?_
      obtain ⟨cq26, kq26, q26a, q26b, q26c⟩ := isOf hZ e25 Er17
      obtain ⟨_, _, ⟨T26, L26, k26, n26⟩, -, X26, ⟨Lc26, hQ26, l26, y26, z26⟩, st26⟩ := X25.virtualBack hx (y := (⟨"java/lang/String", "length", "()I"⟩ : MethodName)) (z := (⟨"java/lang/String", "length", "()I"⟩ : MethodName)) hown (mvT hZ (hw _ (List.mem_of_getElem? (i := 159) rfl))) (mvT hZ (hw _ (List.mem_of_getElem? (i := 76) rfl))) (notFace_of_selects (args := #[]) (mvT hZ (hw _ (List.mem_of_getElem? (i := 78) rfl)))) (mvT hZ (hw _ (List.mem_of_getElem? (i := 78) rfl))) (mvT hZ (hw _ (List.mem_of_getElem? (i := 77) rfl))) (by decide) (backOf (W := 0) (rm12 l Z a0 hw [] r17_ tr17_ _ gC (n17_.toInt32) (A17_) h24 n0 Z0 SC PC O0 Er17 Co17 Va17 Vt17) hZ (hw _ (List.mem_of_getElem? (i := 79) rfl)) (hw _ (List.mem_of_getElem? (i := 6) rfl)) (by decide) (by decide)) q26a q26c (g := (mkF m 86 #[.val (.int p1), .val (.int p2), .val (.int p3), .val (.int (3 : Int32)), .val (.int (((p1.toUInt32 >>> ((2 : Int32) &&& 31).toUInt32).toInt32) &&& (3 : Int32))), .val .null, .val (.ref r17_), .val (.ref r22_), .val (.ref a24_), .val (.ref r17_), .val (.int (4 : Int32)), .unset] [(.ref r17_)])) rfl (by rw [hml]; rfl) (Steps.refl _) (argsL := []) (rest := []) (lenOf pd_4 rfl) rfl (by show 2 * 0 + _ ≤ _; exact Nat.le_of_eq rfl) (hb hby at_86) (fun _ _ => ⟨rfl, e25, (by decide : 15 + 0 ≤ _), (by decide : 82 + 0 ≤ _)⟩)
      dsimp only [Pt.U, Pt.locs, Pt.cells, Pt.slots] at X26 l26 y26 z26 st26 hQ26
      subst l26 y26 z26
      obtain ⟨rfl, N26q, e26⟩ := hQ26
      have N26 := Fr.app N25 N26q
      refine GoH.tr (T' := T26) (pc' := 89) (L' := #[.val (.int p1), .val (.int p2), .val (.int p3), .val (.int (3 : Int32)), .val (.int (((p1.toUInt32 >>> ((2 : Int32) &&& 31).toUInt32).toInt32) &&& (3 : Int32))), .val .null, .val (.ref r17_), .val (.ref r22_), .val (.ref a24_), .val (.ref r17_), .val (.int (4 : Int32)), .unset]) (S' := [(.int (n17_.toInt32))]) st26 ?_
      refine GoH.st (T' := T26) (pc' := 91) (L' := #[.val (.int p1), .val (.int p2), .val (.int p3), .val (.int (3 : Int32)), .val (.int (((p1.toUInt32 >>> ((2 : Int32) &&& 31).toUInt32).toInt32) &&& (3 : Int32))), .val .null, .val (.ref r17_), .val (.ref r22_), .val (.ref a24_), .val (.ref r17_), .val (.int (4 : Int32)), .val (.int (n17_.toInt32))]) (S' := []) (fun t_ k_ => XS.istore X26.here hx rfl (hb hby at_89) rfl (l' := #[.val (.int p1), .val (.int p2), .val (.int p3), .val (.int (3 : Int32)), .val (.int (((p1.toUInt32 >>> ((2 : Int32) &&& 31).toUInt32).toInt32) &&& (3 : Int32))), .val .null, .val (.ref r17_), .val (.ref r22_), .val (.ref a24_), .val (.ref r17_), .val (.int (4 : Int32)), .val (.int (n17_.toInt32))]) rfl k_) ?_
      refine GoH.st (T' := T26) (pc' := 93) (L' := #[.val (.int p1), .val (.int p2), .val (.int p3), .val (.int (3 : Int32)), .val (.int (((p1.toUInt32 >>> ((2 : Int32) &&& 31).toUInt32).toInt32) &&& (3 : Int32))), .val .null, .val (.ref r17_), .val (.ref r22_), .val (.ref a24_), .val (.ref r17_), .val (.int (4 : Int32)), .val (.int (n17_.toInt32))]) (S' := [(.ref r22_)]) (fun t_ k_ => XS.aload X26.here hx rfl (hb hby at_91) rfl rfl  k_) ?_
      obtain ⟨cq27, kq27, q27a, q27b, q27c⟩ := isOf hZ e26 Er22
      obtain ⟨_, _, ⟨T27, L27, k27, n27⟩, -, X27, ⟨Lc27, hQ27, l27, y27, z27⟩, st27⟩ := X26.virtualBack hx (y := (⟨"java/lang/String", "length", "()I"⟩ : MethodName)) (z := (⟨"java/lang/String", "length", "()I"⟩ : MethodName)) hown (mvT hZ (hw _ (List.mem_of_getElem? (i := 159) rfl))) (mvT hZ (hw _ (List.mem_of_getElem? (i := 76) rfl))) (notFace_of_selects (args := #[]) (mvT hZ (hw _ (List.mem_of_getElem? (i := 78) rfl)))) (mvT hZ (hw _ (List.mem_of_getElem? (i := 78) rfl))) (mvT hZ (hw _ (List.mem_of_getElem? (i := 77) rfl))) (by decide) (backOf (W := 0) (rm12 l Z a0 hw [] r22_ tr22_ _ gC ((0 + 4 + 1 + (n17_) : Nat).toInt32) ((([] ++ ([110, 117, 108, 108] : List Int32) ++ ([32] : List Int32)) ++ (A17_))) h24 n0 Z0 SC PC O0 Er22 Co22 Va22 Vt22) hZ (hw _ (List.mem_of_getElem? (i := 79) rfl)) (hw _ (List.mem_of_getElem? (i := 6) rfl)) (by decide) (by decide)) q27a q27c (g := (mkF m 93 #[.val (.int p1), .val (.int p2), .val (.int p3), .val (.int (3 : Int32)), .val (.int (((p1.toUInt32 >>> ((2 : Int32) &&& 31).toUInt32).toInt32) &&& (3 : Int32))), .val .null, .val (.ref r17_), .val (.ref r22_), .val (.ref a24_), .val (.ref r17_), .val (.int (4 : Int32)), .val (.int (n17_.toInt32))] [(.ref r22_)])) rfl (by rw [hml]; rfl) (Steps.refl _) (argsL := []) (rest := []) (lenOf pd_4 rfl) rfl (by show 2 * 0 + _ ≤ _; exact Nat.le_of_eq rfl) (hb hby at_93) (fun _ _ => ⟨rfl, e26, (by decide : 15 + 0 ≤ _), (by decide : 82 + 0 ≤ _)⟩)
      dsimp only [Pt.U, Pt.locs, Pt.cells, Pt.slots] at X27 l27 y27 z27 st27 hQ27
      subst l27 y27 z27
      obtain ⟨rfl, N27q, e27⟩ := hQ27
      have N27 := Fr.app N26 N27q
      refine GoH.tr (T' := T27) (pc' := 96) (L' := #[.val (.int p1), .val (.int p2), .val (.int p3), .val (.int (3 : Int32)), .val (.int (((p1.toUInt32 >>> ((2 : Int32) &&& 31).toUInt32).toInt32) &&& (3 : Int32))), .val .null, .val (.ref r17_), .val (.ref r22_), .val (.ref a24_), .val (.ref r17_), .val (.int (4 : Int32)), .val (.int (n17_.toInt32))]) (S' := [(.int ((0 + 4 + 1 + (n17_) : Nat).toInt32))]) st27 ?_
      refine GoH.st (T' := T27) (pc' := 98) (L' := #[.val (.int p1), .val (.int p2), .val (.int p3), .val (.int (3 : Int32)), .val (.int (((p1.toUInt32 >>> ((2 : Int32) &&& 31).toUInt32).toInt32) &&& (3 : Int32))), .val .null, .val (.ref r17_), .val (.ref r22_), .val (.ref a24_), .val (.ref r17_), .val (.int (4 : Int32)), .val (.int (n17_.toInt32))]) (S' := [(.int (4 : Int32)), (.int ((0 + 4 + 1 + (n17_) : Nat).toInt32))]) (fun t_ k_ => XS.iload X27.here hx rfl (hb hby at_96) rfl  k_) ?_
      refine GoH.st (T' := T27) (pc' := 99) (L' := #[.val (.int p1), .val (.int p2), .val (.int p3), .val (.int (3 : Int32)), .val (.int (((p1.toUInt32 >>> ((2 : Int32) &&& 31).toUInt32).toInt32) &&& (3 : Int32))), .val .null, .val (.ref r17_), .val (.ref r22_), .val (.ref a24_), .val (.ref r17_), .val (.int (4 : Int32)), .val (.int (n17_.toInt32))]) (S' := [(.int (1 : Int32)), (.int (4 : Int32)), (.int ((0 + 4 + 1 + (n17_) : Nat).toInt32))]) (fun t_ k_ => XS.iconst X27.here hx rfl (hb hby at_98) k_) ?_
      refine GoH.st (T' := T27) (pc' := 100) (L' := #[.val (.int p1), .val (.int p2), .val (.int p3), .val (.int (3 : Int32)), .val (.int (((p1.toUInt32 >>> ((2 : Int32) &&& 31).toUInt32).toInt32) &&& (3 : Int32))), .val .null, .val (.ref r17_), .val (.ref r22_), .val (.ref a24_), .val (.ref r17_), .val (.int (4 : Int32)), .val (.int (n17_.toInt32))]) (S' := [(.int ((4 : Int32) + (1 : Int32))), (.int ((0 + 4 + 1 + (n17_) : Nat).toInt32))]) (fun t_ k_ => XS.iadd X27.here hx rfl (hb hby at_99) rfl k_) ?_
      rw [show ((4 : Int32) + (1 : Int32)) = (5 : Int32) from by decide]
      refine GoH.st (T' := T27) (pc' := 102) (L' := #[.val (.int p1), .val (.int p2), .val (.int p3), .val (.int (3 : Int32)), .val (.int (((p1.toUInt32 >>> ((2 : Int32) &&& 31).toUInt32).toInt32) &&& (3 : Int32))), .val .null, .val (.ref r17_), .val (.ref r22_), .val (.ref a24_), .val (.ref r17_), .val (.int (4 : Int32)), .val (.int (n17_.toInt32))]) (S' := [(.int (n17_.toInt32)), (.int (5 : Int32)), (.int ((0 + 4 + 1 + (n17_) : Nat).toInt32))]) (fun t_ k_ => XS.iload X27.here hx rfl (hb hby at_100) rfl  k_) ?_
      refine GoH.st (T' := T27) (pc' := 103) (L' := #[.val (.int p1), .val (.int p2), .val (.int p3), .val (.int (3 : Int32)), .val (.int (((p1.toUInt32 >>> ((2 : Int32) &&& 31).toUInt32).toInt32) &&& (3 : Int32))), .val .null, .val (.ref r17_), .val (.ref r22_), .val (.ref a24_), .val (.ref r17_), .val (.int (4 : Int32)), .val (.int (n17_.toInt32))]) (S' := [(.int ((5 : Int32) + (n17_.toInt32))), (.int ((0 + 4 + 1 + (n17_) : Nat).toInt32))]) (fun t_ k_ => XS.iadd X27.here hx rfl (hb hby at_102) rfl k_) ?_
      refine GoH.st (T' := T27) (pc' := 108) (L' := #[.val (.int p1), .val (.int p2), .val (.int p3), .val (.int (3 : Int32)), .val (.int (((p1.toUInt32 >>> ((2 : Int32) &&& 31).toUInt32).toInt32) &&& (3 : Int32))), .val .null, .val (.ref r17_), .val (.ref r22_), .val (.ref a24_), .val (.ref r17_), .val (.int (4 : Int32)), .val (.int (n17_.toInt32))]) (S' := []) (fun t_ k_ => XS.icmpYes X27.here hx rfl (pc0 := 103) (pc' := 108) rfl (hb hby at_103) rfl (teq (own_len3 (a := 4) (b := (n17_)) (by omega) : (((0 + 4 + 1 + (n17_) : Nat).toInt32) = ((5 : Int32) + (n17_.toInt32))))).1 (by decide) (by decide) k_) ?_
      refine GoH.st (T' := T27) (pc' := 110) (L' := #[.val (.int p1), .val (.int p2), .val (.int p3), .val (.int (3 : Int32)), .val (.int (((p1.toUInt32 >>> ((2 : Int32) &&& 31).toUInt32).toInt32) &&& (3 : Int32))), .val .null, .val (.ref r17_), .val (.ref r22_), .val (.ref a24_), .val (.ref r17_), .val (.int (4 : Int32)), .val (.int (n17_.toInt32))]) (S' := [(.ref r22_)]) (fun t_ k_ => XS.aload X27.here hx rfl (hb hby at_108) rfl rfl  k_) ?_
      refine GoH.st (T' := T27) (pc' := 112) (L' := #[.val (.int p1), .val (.int p2), .val (.int p3), .val (.int (3 : Int32)), .val (.int (((p1.toUInt32 >>> ((2 : Int32) &&& 31).toUInt32).toInt32) &&& (3 : Int32))), .val .null, .val (.ref r17_), .val (.ref r22_), .val (.ref a24_), .val (.ref r17_), .val (.int (4 : Int32)), .val (.int (n17_.toInt32))]) (S' := [(.ref a24_), (.ref r22_)]) (fun t_ k_ => XS.aload X27.here hx rfl (hb hby at_110) rfl rfl  k_) ?_
      refine GoH.st (T' := T27) (pc' := 113) (L' := #[.val (.int p1), .val (.int p2), .val (.int p3), .val (.int (3 : Int32)), .val (.int (((p1.toUInt32 >>> ((2 : Int32) &&& 31).toUInt32).toInt32) &&& (3 : Int32))), .val .null, .val (.ref r17_), .val (.ref r22_), .val (.ref a24_), .val (.ref r17_), .val (.int (4 : Int32)), .val (.int (n17_.toInt32))]) (S' := [(.int (0 : Int32)), (.ref a24_), (.ref r22_)]) (fun t_ k_ => XS.iconst X27.here hx rfl (hb hby at_112) k_) ?_
      obtain ⟨_, _, ⟨T28, L28, k28, n28⟩, -, X28, ⟨Lc28, hQ28, l28, y28, z28⟩, st28⟩ := Jvm.LawKit.callS X27 hx (y := (⟨"com/example/vestry/vestry/plan/PlanSectionToStringPinLaw", "pre", "(Ljava/lang/String;Ljava/lang/String;I)Z"⟩ : MethodName)) hown (mvT hZ (hw _ (List.mem_of_getElem? (i := 160) rfl))) (mvT hZ (hw _ (List.mem_of_getElem? (i := 161) rfl))) (mvT hZ (hw _ (List.mem_of_getElem? (i := 2) rfl))) (mvT hZ (hw _ (List.mem_of_getElem? (i := 162) rfl))) (by decide) (backOf (W := 0) (rmpre l Z a0 hw [] r22_ tr22_ _ ((([] ++ ([110, 117, 108, 108] : List Int32) ++ ([32] : List Int32)) ++ (A17_))) ((0 + 4 + 1 + (n17_) : Nat)) a24_ b24_ _ (([(110 : Int32), (117 : Int32), (108 : Int32), (108 : Int32)] : List Int32)) (0) fm gC (4) h24 n0 Z0 SC PC O0 hfm SF Er22 Co22 Va22 Vt22 E_a24_ Fc_a24_ Fv_a24_ V_b24_ (own_la (own_la (own_la rfl rfl) rfl) lA17) (by omega) rfl (by omega) (fun j hj => own_pa (A := ([110, 117, 108, 108] : List Int32)) (B := (A17_)) (n := 4) rfl hj) (by omega)) hZ (hw _ (List.mem_of_getElem? (i := 162) rfl)) (hw _ (List.mem_of_getElem? (i := 2) rfl)) (by decide) (by decide)) (g := (mkF m 113 #[.val (.int p1), .val (.int p2), .val (.int p3), .val (.int (3 : Int32)), .val (.int (((p1.toUInt32 >>> ((2 : Int32) &&& 31).toUInt32).toInt32) &&& (3 : Int32))), .val .null, .val (.ref r17_), .val (.ref r22_), .val (.ref a24_), .val (.ref r17_), .val (.int (4 : Int32)), .val (.int (n17_.toInt32))] [(.int (0 : Int32)), (.ref a24_), (.ref r22_)])) rfl (by rw [hml]; rfl) (argsL := [(.ref r22_), (.ref a24_), (.int (0 : Int32))]) (rest := []) (lenOf pd_25 rfl) rfl (by show 2 * 0 + _ ≤ _; exact Nat.le_of_eq rfl) (hb hby at_113) (fun _ _ => ⟨rfl, e27, (by decide : 15 + 0 ≤ _), (by decide : 82 + 0 ≤ _)⟩)
      dsimp only [Pt.U, Pt.locs, Pt.cells, Pt.slots] at X28 l28 y28 z28 st28 hQ28
      subst l28 y28 z28
      obtain ⟨rfl, N28q, e28⟩ := hQ28
      have N28 := Fr.app N27 N28q
      refine GoH.st (T' := T28) (pc' := 116) (L' := #[.val (.int p1), .val (.int p2), .val (.int p3), .val (.int (3 : Int32)), .val (.int (((p1.toUInt32 >>> ((2 : Int32) &&& 31).toUInt32).toInt32) &&& (3 : Int32))), .val .null, .val (.ref r17_), .val (.ref r22_), .val (.ref a24_), .val (.ref r17_), .val (.int (4 : Int32)), .val (.int (n17_.toInt32))]) (S' := [(.int (1 : Int32))]) st28 ?_
      refine GoH.st (T' := T28) (pc' := 121) (L' := #[.val (.int p1), .val (.int p2), .val (.int p3), .val (.int (3 : Int32)), .val (.int (((p1.toUInt32 >>> ((2 : Int32) &&& 31).toUInt32).toInt32) &&& (3 : Int32))), .val .null, .val (.ref r17_), .val (.ref r22_), .val (.ref a24_), .val (.ref r17_), .val (.int (4 : Int32)), .val (.int (n17_.toInt32))]) (S' := []) (fun t_ k_ => XS.ifYes X28.here hx rfl (pc0 := 116) (pc' := 121) rfl (hb hby at_116) rfl ((if0 _ _).trans (feq (by decide : ¬ ((1 : Int32) = (0 : Int32)))).2) (by decide) (by decide) k_) ?_
      refine GoH.st (T' := T28) (pc' := 123) (L' := #[.val (.int p1), .val (.int p2), .val (.int p3), .val (.int (3 : Int32)), .val (.int (((p1.toUInt32 >>> ((2 : Int32) &&& 31).toUInt32).toInt32) &&& (3 : Int32))), .val .null, .val (.ref r17_), .val (.ref r22_), .val (.ref a24_), .val (.ref r17_), .val (.int (4 : Int32)), .val (.int (n17_.toInt32))]) (S' := [(.ref r22_)]) (fun t_ k_ => XS.aload X28.here hx rfl (hb hby at_121) rfl rfl  k_) ?_
      refine GoH.st (T' := T28) (pc' := 125) (L' := #[.val (.int p1), .val (.int p2), .val (.int p3), .val (.int (3 : Int32)), .val (.int (((p1.toUInt32 >>> ((2 : Int32) &&& 31).toUInt32).toInt32) &&& (3 : Int32))), .val .null, .val (.ref r17_), .val (.ref r22_), .val (.ref a24_), .val (.ref r17_), .val (.int (4 : Int32)), .val (.int (n17_.toInt32))]) (S' := [(.int (4 : Int32)), (.ref r22_)]) (fun t_ k_ => XS.iload X28.here hx rfl (hb hby at_123) rfl  k_) ?_
      obtain ⟨cq29, kq29, q29a, q29b, q29c⟩ := isOf hZ e28 Er22
      obtain ⟨_, _, ⟨T29, L29, k29, n29⟩, -, X29, ⟨Lc29, hQ29, l29, y29, z29⟩, st29⟩ := X28.virtualBack hx (y := (⟨"java/lang/String", "charAt", "(I)C"⟩ : MethodName)) (z := (⟨"java/lang/String", "charAt", "(I)C"⟩ : MethodName)) hown (mvT hZ (hw _ (List.mem_of_getElem? (i := 163) rfl))) (mvT hZ (hw _ (List.mem_of_getElem? (i := 164) rfl))) (notFace_of_selects (args := #[]) (mvT hZ (hw _ (List.mem_of_getElem? (i := 166) rfl)))) (mvT hZ (hw _ (List.mem_of_getElem? (i := 166) rfl))) (mvT hZ (hw _ (List.mem_of_getElem? (i := 165) rfl))) (by decide) (backOf (W := 0) (rm30 l Z a0 hw [] r22_ tr22_ _ ((([] ++ ([110, 117, 108, 108] : List Int32) ++ ([32] : List Int32)) ++ (A17_))) (4) ((0 + 4 + 1 + (n17_) : Nat)) fm gC h24 n0 Z0 SC PC O0 hfm SF Er22 Co22 Va22 Vt22 (by omega) (by omega)) hZ (hw _ (List.mem_of_getElem? (i := 167) rfl)) (hw _ (List.mem_of_getElem? (i := 6) rfl)) (by decide) (by decide)) q29a q29c (g := (mkF m 125 #[.val (.int p1), .val (.int p2), .val (.int p3), .val (.int (3 : Int32)), .val (.int (((p1.toUInt32 >>> ((2 : Int32) &&& 31).toUInt32).toInt32) &&& (3 : Int32))), .val .null, .val (.ref r17_), .val (.ref r22_), .val (.ref a24_), .val (.ref r17_), .val (.int (4 : Int32)), .val (.int (n17_.toInt32))] [(.int (4 : Int32)), (.ref r22_)])) rfl (by rw [hml]; rfl) (Steps.refl _) (argsL := [(.int (4 : Int32))]) (rest := []) (lenOf pd_21 rfl) rfl (by show 2 * 0 + _ ≤ _; exact Nat.le_of_eq rfl) (hb hby at_125) (fun _ _ => ⟨rfl, e28, (by decide : 15 + 0 ≤ _), (by decide : 82 + 0 ≤ _)⟩)
      dsimp only [Pt.U, Pt.locs, Pt.cells, Pt.slots] at X29 l29 y29 z29 st29 hQ29
      subst l29 y29 z29
      unfold Q30 at hQ29
      generalize hx29 : own_ch _ = xc29 at hQ29
      obtain ⟨rfl, N29q, e29⟩ := hQ29
      have N29 := Fr.app N28 N29q
      refine GoH.tr (T' := T29) (pc' := 128) (L' := #[.val (.int p1), .val (.int p2), .val (.int p3), .val (.int (3 : Int32)), .val (.int (((p1.toUInt32 >>> ((2 : Int32) &&& 31).toUInt32).toInt32) &&& (3 : Int32))), .val .null, .val (.ref r17_), .val (.ref r22_), .val (.ref a24_), .val (.ref r17_), .val (.int (4 : Int32)), .val (.int (n17_.toInt32))]) (S' := [(.int xc29)]) st29 ?_
      refine GoH.st (T' := T29) (pc' := 130) (L' := #[.val (.int p1), .val (.int p2), .val (.int p3), .val (.int (3 : Int32)), .val (.int (((p1.toUInt32 >>> ((2 : Int32) &&& 31).toUInt32).toInt32) &&& (3 : Int32))), .val .null, .val (.ref r17_), .val (.ref r22_), .val (.ref a24_), .val (.ref r17_), .val (.int (4 : Int32)), .val (.int (n17_.toInt32))]) (S' := [(.int (32 : Int32)), (.int xc29)]) (fun t_ k_ => XS.bipush X29.here hx rfl (hb hby at_128) k_) ?_
      refine GoH.st (T' := T29) (pc' := 135) (L' := #[.val (.int p1), .val (.int p2), .val (.int p3), .val (.int (3 : Int32)), .val (.int (((p1.toUInt32 >>> ((2 : Int32) &&& 31).toUInt32).toInt32) &&& (3 : Int32))), .val .null, .val (.ref r17_), .val (.ref r22_), .val (.ref a24_), .val (.ref r17_), .val (.int (4 : Int32)), .val (.int (n17_.toInt32))]) (S' := []) (fun t_ k_ => XS.icmpYes X29.here hx rfl (pc0 := 130) (pc' := 135) rfl (hb hby at_130) rfl (teq (hx29.symm.trans (own_mc (A := ([110, 117, 108, 108] : List Int32)) (B := (A17_)) (n := 4) rfl) : (xc29 = (32 : Int32)))).1 (by decide) (by decide) k_) ?_
      refine GoH.st (T' := T29) (pc' := 137) (L' := #[.val (.int p1), .val (.int p2), .val (.int p3), .val (.int (3 : Int32)), .val (.int (((p1.toUInt32 >>> ((2 : Int32) &&& 31).toUInt32).toInt32) &&& (3 : Int32))), .val .null, .val (.ref r17_), .val (.ref r22_), .val (.ref a24_), .val (.ref r17_), .val (.int (4 : Int32)), .val (.int (n17_.toInt32))]) (S' := [(.ref r22_)]) (fun t_ k_ => XS.aload X29.here hx rfl (hb hby at_135) rfl rfl  k_) ?_
      refine GoH.st (T' := T29) (pc' := 139) (L' := #[.val (.int p1), .val (.int p2), .val (.int p3), .val (.int (3 : Int32)), .val (.int (((p1.toUInt32 >>> ((2 : Int32) &&& 31).toUInt32).toInt32) &&& (3 : Int32))), .val .null, .val (.ref r17_), .val (.ref r22_), .val (.ref a24_), .val (.ref r17_), .val (.int (4 : Int32)), .val (.int (n17_.toInt32))]) (S' := [(.ref r17_), (.ref r22_)]) (fun t_ k_ => XS.aload X29.here hx rfl (hb hby at_137) rfl rfl  k_) ?_
      refine GoH.st (T' := T29) (pc' := 141) (L' := #[.val (.int p1), .val (.int p2), .val (.int p3), .val (.int (3 : Int32)), .val (.int (((p1.toUInt32 >>> ((2 : Int32) &&& 31).toUInt32).toInt32) &&& (3 : Int32))), .val .null, .val (.ref r17_), .val (.ref r22_), .val (.ref a24_), .val (.ref r17_), .val (.int (4 : Int32)), .val (.int (n17_.toInt32))]) (S' := [(.int (4 : Int32)), (.ref r17_), (.ref r22_)]) (fun t_ k_ => XS.iload X29.here hx rfl (hb hby at_139) rfl  k_) ?_
      refine GoH.st (T' := T29) (pc' := 142) (L' := #[.val (.int p1), .val (.int p2), .val (.int p3), .val (.int (3 : Int32)), .val (.int (((p1.toUInt32 >>> ((2 : Int32) &&& 31).toUInt32).toInt32) &&& (3 : Int32))), .val .null, .val (.ref r17_), .val (.ref r22_), .val (.ref a24_), .val (.ref r17_), .val (.int (4 : Int32)), .val (.int (n17_.toInt32))]) (S' := [(.int (1 : Int32)), (.int (4 : Int32)), (.ref r17_), (.ref r22_)]) (fun t_ k_ => XS.iconst X29.here hx rfl (hb hby at_141) k_) ?_
      refine GoH.st (T' := T29) (pc' := 143) (L' := #[.val (.int p1), .val (.int p2), .val (.int p3), .val (.int (3 : Int32)), .val (.int (((p1.toUInt32 >>> ((2 : Int32) &&& 31).toUInt32).toInt32) &&& (3 : Int32))), .val .null, .val (.ref r17_), .val (.ref r22_), .val (.ref a24_), .val (.ref r17_), .val (.int (4 : Int32)), .val (.int (n17_.toInt32))]) (S' := [(.int ((4 : Int32) + (1 : Int32))), (.ref r17_), (.ref r22_)]) (fun t_ k_ => XS.iadd X29.here hx rfl (hb hby at_142) rfl k_) ?_
      rw [show ((4 : Int32) + (1 : Int32)) = (5 : Int32) from by decide]
      obtain ⟨_, _, ⟨T30, L30, k30, n30⟩, -, X30, ⟨Lc30, hQ30, l30, y30, z30⟩, st30⟩ := Jvm.LawKit.callS X29 hx (y := (⟨"com/example/vestry/vestry/plan/PlanSectionToStringPinLaw", "pre", "(Ljava/lang/String;Ljava/lang/String;I)Z"⟩ : MethodName)) hown (mvT hZ (hw _ (List.mem_of_getElem? (i := 160) rfl))) (mvT hZ (hw _ (List.mem_of_getElem? (i := 161) rfl))) (mvT hZ (hw _ (List.mem_of_getElem? (i := 2) rfl))) (mvT hZ (hw _ (List.mem_of_getElem? (i := 162) rfl))) (by decide) (backOf (W := 0) (rmpre l Z a0 hw [] r22_ tr22_ _ ((([] ++ ([110, 117, 108, 108] : List Int32) ++ ([32] : List Int32)) ++ (A17_))) ((0 + 4 + 1 + (n17_) : Nat)) r17_ tr17_ _ (A17_) (5) fm gC (n17_) h24 n0 Z0 SC PC O0 hfm SF Er22 Co22 Va22 Vt22 Er17 Co17 Va17 Vt17 (own_la (own_la (own_la rfl rfl) rfl) lA17) (by omega) lA17 (by omega) (fun j hj => own_nd (A := ([110, 117, 108, 108] : List Int32)) (B := (A17_)) (n := 4) rfl) (by omega)) hZ (hw _ (List.mem_of_getElem? (i := 162) rfl)) (hw _ (List.mem_of_getElem? (i := 2) rfl)) (by decide) (by decide)) (g := (mkF m 143 #[.val (.int p1), .val (.int p2), .val (.int p3), .val (.int (3 : Int32)), .val (.int (((p1.toUInt32 >>> ((2 : Int32) &&& 31).toUInt32).toInt32) &&& (3 : Int32))), .val .null, .val (.ref r17_), .val (.ref r22_), .val (.ref a24_), .val (.ref r17_), .val (.int (4 : Int32)), .val (.int (n17_.toInt32))] [(.int (5 : Int32)), (.ref r17_), (.ref r22_)])) rfl (by rw [hml]; rfl) (argsL := [(.ref r22_), (.ref r17_), (.int (5 : Int32))]) (rest := []) (lenOf pd_25 rfl) rfl (by show 2 * 0 + _ ≤ _; exact Nat.le_of_eq rfl) (hb hby at_143) (fun _ _ => ⟨rfl, e29, (by decide : 15 + 0 ≤ _), (by decide : 82 + 0 ≤ _)⟩)
      dsimp only [Pt.U, Pt.locs, Pt.cells, Pt.slots] at X30 l30 y30 z30 st30 hQ30
      subst l30 y30 z30
      obtain ⟨rfl, N30q, e30⟩ := hQ30
      have N30 := Fr.app N29 N30q
      refine GoH.st (T' := T30) (pc' := 146) (L' := #[.val (.int p1), .val (.int p2), .val (.int p3), .val (.int (3 : Int32)), .val (.int (((p1.toUInt32 >>> ((2 : Int32) &&& 31).toUInt32).toInt32) &&& (3 : Int32))), .val .null, .val (.ref r17_), .val (.ref r22_), .val (.ref a24_), .val (.ref r17_), .val (.int (4 : Int32)), .val (.int (n17_.toInt32))]) (S' := [(.int (1 : Int32))]) st30 ?_
      exact GoH.retN X30 hx hlk hret (by simp) (hb hby at_146) (by decide) (by decide) hS hk e30 hs0 hZ (own_EW hw) CR (by rw [e30]; exact ⟨rfl, N30⟩)
  · refine GoH.st (T' := T0) (pc' := 4) (L' := #[.val (.int p1), .val (.int p2), .val (.int p3), .val (.int (p1 &&& (3 : Int32))), .unset, .unset, .unset, .unset, .unset, .unset, .unset, .unset]) (S' := []) (fun t_ k_ => XS.istoreN X0.here hx rfl (hb hby at_3) rfl (l' := #[.val (.int p1), .val (.int p2), .val (.int p3), .val (.int (p1 &&& (3 : Int32))), .unset, .unset, .unset, .unset, .unset, .unset, .unset, .unset]) rfl k_) ?_
    refine GoH.st (T' := T0) (pc' := 5) (L' := #[.val (.int p1), .val (.int p2), .val (.int p3), .val (.int (p1 &&& (3 : Int32))), .unset, .unset, .unset, .unset, .unset, .unset, .unset, .unset]) (S' := [(.int p1)]) (fun t_ k_ => XS.iloadN X0.here hx rfl (hb hby at_4) rfl  k_) ?_
    refine GoH.st (T' := T0) (pc' := 6) (L' := #[.val (.int p1), .val (.int p2), .val (.int p3), .val (.int (p1 &&& (3 : Int32))), .unset, .unset, .unset, .unset, .unset, .unset, .unset, .unset]) (S' := [(.int (2 : Int32)), (.int p1)]) (fun t_ k_ => XS.iconst X0.here hx rfl (hb hby at_5) k_) ?_
    refine GoH.st (T' := T0) (pc' := 7) (L' := #[.val (.int p1), .val (.int p2), .val (.int p3), .val (.int (p1 &&& (3 : Int32))), .unset, .unset, .unset, .unset, .unset, .unset, .unset, .unset]) (S' := [(.int ((p1.toUInt32 >>> ((2 : Int32) &&& 31).toUInt32).toInt32))]) (fun t_ k_ => XS.iushr X0.here hx rfl (hb hby at_6) rfl k_) ?_
    refine GoH.st (T' := T0) (pc' := 8) (L' := #[.val (.int p1), .val (.int p2), .val (.int p3), .val (.int (p1 &&& (3 : Int32))), .unset, .unset, .unset, .unset, .unset, .unset, .unset, .unset]) (S' := [(.int (3 : Int32)), (.int ((p1.toUInt32 >>> ((2 : Int32) &&& 31).toUInt32).toInt32))]) (fun t_ k_ => XS.iconst X0.here hx rfl (hb hby at_7) k_) ?_
    refine GoH.st (T' := T0) (pc' := 9) (L' := #[.val (.int p1), .val (.int p2), .val (.int p3), .val (.int (p1 &&& (3 : Int32))), .unset, .unset, .unset, .unset, .unset, .unset, .unset, .unset]) (S' := [(.int (((p1.toUInt32 >>> ((2 : Int32) &&& 31).toUInt32).toInt32) &&& (3 : Int32)))]) (fun t_ k_ => XS.iand X0.here hx rfl (hb hby at_8) rfl k_) ?_
    by_cases hkb : (((p1.toUInt32 >>> ((2 : Int32) &&& 31).toUInt32).toInt32) &&& (3 : Int32)) = (3 : Int32)
    · rw [hkb]
      refine GoH.st (T' := T0) (pc' := 11) (L' := #[.val (.int p1), .val (.int p2), .val (.int p3), .val (.int (p1 &&& (3 : Int32))), .val (.int (3 : Int32)), .unset, .unset, .unset, .unset, .unset, .unset, .unset]) (S' := []) (fun t_ k_ => XS.istore X0.here hx rfl (hb hby at_9) rfl (l' := #[.val (.int p1), .val (.int p2), .val (.int p3), .val (.int (p1 &&& (3 : Int32))), .val (.int (3 : Int32)), .unset, .unset, .unset, .unset, .unset, .unset, .unset]) rfl k_) ?_
      refine GoH.st (T' := T0) (pc' := 12) (L' := #[.val (.int p1), .val (.int p2), .val (.int p3), .val (.int (p1 &&& (3 : Int32))), .val (.int (3 : Int32)), .unset, .unset, .unset, .unset, .unset, .unset, .unset]) (S' := [(.int (p1 &&& (3 : Int32)))]) (fun t_ k_ => XS.iloadN X0.here hx rfl (hb hby at_11) rfl  k_) ?_
      refine GoH.st (T' := T0) (pc' := 13) (L' := #[.val (.int p1), .val (.int p2), .val (.int p3), .val (.int (p1 &&& (3 : Int32))), .val (.int (3 : Int32)), .unset, .unset, .unset, .unset, .unset, .unset, .unset]) (S' := [(.int p2), (.int (p1 &&& (3 : Int32)))]) (fun t_ k_ => XS.iloadN X0.here hx rfl (hb hby at_12) rfl  k_) ?_
      obtain ⟨_, _, ⟨T31, L31, k31, n31⟩, -, X31, hS31, hg31, ⟨Lc31, hQ31, l31, y31, z31, CR31⟩, st31⟩ := callSS X0 hx (y := (⟨"com/example/vestry/vestry/plan/PlanSectionToStringPinLaw", "mk", "(II)Ljava/lang/String;"⟩ : MethodName)) hown (mvT hZ (hw _ (List.mem_of_getElem? (i := 0) rfl))) (mvT hZ (hw _ (List.mem_of_getElem? (i := 1) rfl))) (mvT hZ (hw _ (List.mem_of_getElem? (i := 2) rfl))) (mvT hZ (hw _ (List.mem_of_getElem? (i := 3) rfl))) (by decide) (backOfSH (W := 0) (rmmk l Z a0 hw [] (p1 &&& (3 : Int32)) p2 gC h0 n0 Z0 SC PC O0 hka) hZ (hw _ (List.mem_of_getElem? (i := 3) rfl)) (hw _ (List.mem_of_getElem? (i := 2) rfl)) (by decide) (by decide) (own_EW hw) CR.1) (g := (mkF m 13 #[.val (.int p1), .val (.int p2), .val (.int p3), .val (.int (p1 &&& (3 : Int32))), .val (.int (3 : Int32)), .unset, .unset, .unset, .unset, .unset, .unset, .unset] [(.int p2), (.int (p1 &&& (3 : Int32)))])) rfl (by rw [hml]; rfl) (argsL := [(.int (p1 &&& (3 : Int32))), (.int p2)]) (rest := []) (lenOf pd_23 rfl) rfl (by show 2 * 0 + _ ≤ _; exact Nat.le_of_eq rfl) (hb hby at_13) (fun _ _ => ⟨rfl, e0, (by decide : 0 + 6 ≤ _), (by decide : 0 + 12 ≤ _)⟩)
      dsimp only [Pt.U, Pt.locs, Pt.cells, Pt.slots] at X31 l31 y31 z31 st31 hQ31 hS31 hg31 CR31
      subst l31 y31 z31
      replace X31 : Stand p l e _ (s.setVm T31.vm) m _ below meth c T31 _ _ _ := X31
      replace hS := foldS hS (T := T0) (Nat.le_trans hk (Nat.le_of_eq (congrArg Array.size e0.symm))) hS31 hg31
      replace hk := Nat.le_refl T31.heap.size
      replace hZ : Z.Warmed39 (s.setVm T31.vm).vm := State.Warmed39.trans (t := s.setVm s.vm) hZ hS31.1
      replace hown : (s.setVm T31.vm).vm.findClass "com/example/vestry/vestry/plan/PlanSectionToStringPinLaw" = some m.cls := by rw [show (s.setVm T31.vm).vm = T31.vm from rfl, hS31.1.alike.findClass]; exact hown
      obtain ⟨r31_, tr31_, kt31, A31_, n31_, rfl, N31q, K31, Er31, Co31, Va31, Vt31, lA31, ln31⟩ := hQ31
      have N31 := Fr.app N0 N31q
      obtain ⟨h31, e31⟩ : ∃ z, T31.heap = z := ⟨_, rfl⟩
      rw [e31] at K31 Er31 Co31 Va31 Vt31 CR31
      replace CR := CR.trans CR31
      replace Z0 := Nat.le_trans Z0 K31.1
      replace O0 := O0.keep K31 all0
      replace hk : T31.heap.size ≤ h31.size := Nat.le_of_eq (congrArg Array.size e31)
      refine GoH.tr (T' := T31) (pc' := 16) (L' := #[.val (.int p1), .val (.int p2), .val (.int p3), .val (.int (p1 &&& (3 : Int32))), .val (.int (3 : Int32)), .unset, .unset, .unset, .unset, .unset, .unset, .unset]) (S' := [(.ref r31_)]) st31 ?_
      refine GoH.st (T' := T31) (pc' := 18) (L' := #[.val (.int p1), .val (.int p2), .val (.int p3), .val (.int (p1 &&& (3 : Int32))), .val (.int (3 : Int32)), .val (.ref r31_), .unset, .unset, .unset, .unset, .unset, .unset]) (S' := []) (fun t_ k_ => XS.astore X31.here hx rfl (hb hby at_16) rfl rfl (l' := #[.val (.int p1), .val (.int p2), .val (.int p3), .val (.int (p1 &&& (3 : Int32))), .val (.int (3 : Int32)), .val (.ref r31_), .unset, .unset, .unset, .unset, .unset, .unset]) rfl k_) ?_
      refine GoH.st (T' := T31) (pc' := 20) (L' := #[.val (.int p1), .val (.int p2), .val (.int p3), .val (.int (p1 &&& (3 : Int32))), .val (.int (3 : Int32)), .val (.ref r31_), .unset, .unset, .unset, .unset, .unset, .unset]) (S' := [(.int (3 : Int32))]) (fun t_ k_ => XS.iload X31.here hx rfl (hb hby at_18) rfl  k_) ?_
      refine GoH.st (T' := T31) (pc' := 21) (L' := #[.val (.int p1), .val (.int p2), .val (.int p3), .val (.int (p1 &&& (3 : Int32))), .val (.int (3 : Int32)), .val (.ref r31_), .unset, .unset, .unset, .unset, .unset, .unset]) (S' := [(.int p3), (.int (3 : Int32))]) (fun t_ k_ => XS.iloadN X31.here hx rfl (hb hby at_20) rfl  k_) ?_
      obtain ⟨_, _, ⟨T33, L33, k33, n33⟩, -, X33, ⟨Lc33, hQ33, l33, y33, z33⟩, st33⟩ := Jvm.LawKit.callS X31 hx (y := (⟨"com/example/vestry/vestry/plan/PlanSectionToStringPinLaw", "mk", "(II)Ljava/lang/String;"⟩ : MethodName)) hown (mvT hZ (hw _ (List.mem_of_getElem? (i := 0) rfl))) (mvT hZ (hw _ (List.mem_of_getElem? (i := 1) rfl))) (mvT hZ (hw _ (List.mem_of_getElem? (i := 2) rfl))) (mvT hZ (hw _ (List.mem_of_getElem? (i := 3) rfl))) (by decide) (backOf (W := 0) (rmmkn l Z a0 hw [] p3 h31 n0 Z0) hZ (hw _ (List.mem_of_getElem? (i := 3) rfl)) (hw _ (List.mem_of_getElem? (i := 2) rfl)) (by decide) (by decide)) (g := (mkF m 21 #[.val (.int p1), .val (.int p2), .val (.int p3), .val (.int (p1 &&& (3 : Int32))), .val (.int (3 : Int32)), .val (.ref r31_), .unset, .unset, .unset, .unset, .unset, .unset] [(.int p3), (.int (3 : Int32))])) rfl (by rw [hml]; rfl) (argsL := [(.int (3 : Int32)), (.int p3)]) (rest := []) (lenOf pd_23 rfl) rfl (by show 2 * 0 + _ ≤ _; exact Nat.le_of_eq rfl) (hb hby at_21) (fun _ _ => ⟨rfl, e31, (by decide : 6 + 0 ≤ _), (by decide : 12 + 0 ≤ _)⟩)
      dsimp only [Pt.U, Pt.locs, Pt.cells, Pt.slots] at X33 l33 y33 z33 st33 hQ33
      subst l33 y33 z33
      obtain ⟨rfl, N33q, e33⟩ := hQ33
      have N33 := Fr.app N31 N33q
      refine GoH.st (T' := T33) (pc' := 24) (L' := #[.val (.int p1), .val (.int p2), .val (.int p3), .val (.int (p1 &&& (3 : Int32))), .val (.int (3 : Int32)), .val (.ref r31_), .unset, .unset, .unset, .unset, .unset, .unset]) (S' := [.null]) st33 ?_
      refine GoH.st (T' := T33) (pc' := 26) (L' := #[.val (.int p1), .val (.int p2), .val (.int p3), .val (.int (p1 &&& (3 : Int32))), .val (.int (3 : Int32)), .val (.ref r31_), .val .null, .unset, .unset, .unset, .unset, .unset]) (S' := []) (fun t_ k_ => XS.astore X33.here hx rfl (hb hby at_24) rfl rfl (l' := #[.val (.int p1), .val (.int p2), .val (.int p3), .val (.int (p1 &&& (3 : Int32))), .val (.int (3 : Int32)), .val (.ref r31_), .val .null, .unset, .unset, .unset, .unset, .unset]) rfl k_) ?_
      obtain ⟨T34, h34, X34, e34, E34, A34, D34, U34, st34⟩ := newO X33 hx hZ hown (hw _ (List.mem_of_getElem? (i := 26) rfl)) (hw _ (List.mem_of_getElem? (i := 27) rfl)) (hw _ (List.mem_of_getElem? (i := 28) rfl)) e33 (g := (mkF m 26 #[.val (.int p1), .val (.int p2), .val (.int p3), .val (.int (p1 &&& (3 : Int32))), .val (.int (3 : Int32)), .val (.ref r31_), .val .null, .unset, .unset, .unset, .unset, .unset] [])) rfl (hb hby at_26) (by decide) (by decide)
      obtain ⟨b34, g34⟩ : ∃ z, z = h31.size := ⟨_, rfl⟩
      rw [← g34] at A34 D34 U34 st34
      have ne_r31__b34 : r31_ ≠ b34 := Nat.ne_of_lt (Nat.lt_of_lt_of_le Er31.lt (Nat.le_of_eq g34.symm))
      have ne_tr31__b34 : tr31_ ≠ b34 := Nat.ne_of_lt (Nat.lt_of_lt_of_le Vt31.lt (Nat.le_of_eq g34.symm))
      have g_b34 : n0 ≤ b34 := Nat.le_trans Z0 (Nat.le_of_eq g34.symm)
      replace CR := CR.trans (CHr.ext E34 CR.1)
      replace hk := Nat.le_trans hk E34.1
      replace Z0 := Nat.le_trans Z0 E34.1
      replace O0 := O0.ext E34
      replace Er31 := Er31.ext E34
      replace Co31 := Co31.ext E34
      replace Va31 := Va31.ext E34
      replace Vt31 := Vt31.ext E34
      have E_b34 := A34
      have F_b34_planId : Fld Z h34 b34 "com/example/vestry/vestry/plan/PlanSection" "planId" "Ljava/lang/String;" .null := D34 (Or.inr (hw _ (List.mem_of_getElem? (i := 39) rfl))) (ty := (.object "java/lang/String")) (by decide)
      have F_b34_section : Fld Z h34 b34 "com/example/vestry/vestry/plan/PlanSection" "section" "Ljava/lang/String;" .null := D34 (Or.inr (hw _ (List.mem_of_getElem? (i := 41) rfl))) (ty := (.object "java/lang/String")) (by decide)
      refine GoH.st (T' := T34) (pc' := 29) (L' := #[.val (.int p1), .val (.int p2), .val (.int p3), .val (.int (p1 &&& (3 : Int32))), .val (.int (3 : Int32)), .val (.ref r31_), .val .null, .unset, .unset, .unset, .unset, .unset]) (S' := [(.ref b34)]) st34 ?_
      refine GoH.st (T' := T34) (pc' := 30) (L' := #[.val (.int p1), .val (.int p2), .val (.int p3), .val (.int (p1 &&& (3 : Int32))), .val (.int (3 : Int32)), .val (.ref r31_), .val .null, .unset, .unset, .unset, .unset, .unset]) (S' := [(.ref b34), (.ref b34)]) (fun t_ k_ => XS.dup X34.here hx rfl (hb hby at_29) rfl rfl k_) ?_
      refine GoH.st (T' := T34) (pc' := 32) (L' := #[.val (.int p1), .val (.int p2), .val (.int p3), .val (.int (p1 &&& (3 : Int32))), .val (.int (3 : Int32)), .val (.ref r31_), .val .null, .unset, .unset, .unset, .unset, .unset]) (S' := [(.ref r31_), (.ref b34), (.ref b34)]) (fun t_ k_ => XS.aload X34.here hx rfl (hb hby at_30) rfl rfl  k_) ?_
      refine GoH.st (T' := T34) (pc' := 34) (L' := #[.val (.int p1), .val (.int p2), .val (.int p3), .val (.int (p1 &&& (3 : Int32))), .val (.int (3 : Int32)), .val (.ref r31_), .val .null, .unset, .unset, .unset, .unset, .unset]) (S' := [.null, (.ref r31_), (.ref b34), (.ref b34)]) (fun t_ k_ => XS.aload X34.here hx rfl (hb hby at_32) rfl rfl  k_) ?_
      obtain ⟨_, _, ⟨T35, L35, k35, n35⟩, -, X35, ⟨Lc35, hQ35, l35, y35, z35⟩, st35⟩ := X34.specialBack hx (y := (⟨"com/example/vestry/vestry/plan/PlanSection", "<init>", "(Ljava/lang/String;Ljava/lang/String;)V"⟩ : MethodName)) rfl hown (mvT hZ (hw _ (List.mem_of_getElem? (i := 29) rfl))) (mvT hZ (hw _ (List.mem_of_getElem? (i := 30) rfl))) (mvT hZ (hw _ (List.mem_of_getElem? (i := 31) rfl))) (by decide) (backOf (W := 1) (rmps10 l Z a0 hw [] b34 r31_ h34 n0 Z0 E_b34 g_b34 F_b34_planId F_b34_section) hZ (hw _ (List.mem_of_getElem? (i := 31) rfl)) (hw _ (List.mem_of_getElem? (i := 28) rfl)) (by decide) (by decide)) (g := (mkF m 34 #[.val (.int p1), .val (.int p2), .val (.int p3), .val (.int (p1 &&& (3 : Int32))), .val (.int (3 : Int32)), .val (.ref r31_), .val .null, .unset, .unset, .unset, .unset, .unset] [.null, (.ref r31_), (.ref b34), (.ref b34)])) rfl (by rw [hml]; rfl) (Steps.refl _) (a := b34) (argsL := [(.ref r31_), .null]) (rest := [(.ref b34)]) (lenOf pd_24 rfl) rfl (by show 2 * 0 + _ ≤ _; exact Nat.le_of_eq rfl) (hb hby at_34) (fun _ _ => ⟨rfl, e34, (by decide : 7 + 0 ≤ _), (by decide : 14 + 0 ≤ _)⟩)
      dsimp only [Pt.U, Pt.locs, Pt.cells, Pt.slots] at X35 l35 y35 z35 st35 hQ35
      subst l35 y35 z35
      obtain ⟨rfl, N35q, K35, G35_planId, G35_section⟩ := hQ35
      have N35 := Fr.app N33 N35q
      obtain ⟨h35, e35⟩ : ∃ z, T35.heap = z := ⟨_, rfl⟩
      rw [e35] at K35 G35_planId G35_section
      have Sk36 : ∀ x ∈ [b34], Safe Z EL T31.vm h34 x := (allS (Safe.exa hZ.alike E_b34 (by decide) (by decide)) all0)
      replace CR := CR.trans (CHr.keep K35 Sk36 CR.1)
      replace hk := Nat.le_trans hk K35.1
      replace Z0 := Nat.le_trans Z0 K35.1
      replace O0 := O0.keep K35 (allS g_b34 all0)
      replace Er31 := Er31.keep K35
      replace Co31 := Co31.keep K35 (ninS ne_r31__b34 nin0)
      replace Va31 := Va31.keep K35 (ninS ne_r31__b34 nin0)
      replace Vt31 := Vt31.keep K35 (ninS ne_tr31__b34 nin0)
      replace E_b34 := E_b34.keep K35
      refine GoH.tr (T' := T35) (pc' := 37) (L' := #[.val (.int p1), .val (.int p2), .val (.int p3), .val (.int (p1 &&& (3 : Int32))), .val (.int (3 : Int32)), .val (.ref r31_), .val .null, .unset, .unset, .unset, .unset, .unset]) (S' := [(.ref b34)]) st35 ?_
      obtain ⟨cq37, kq37, q37a, q37b, q37c⟩ := isOf hZ e35 E_b34
      obtain ⟨_, _, ⟨T37, L37, k37, n37⟩, -, X37, hS37, hg37, ⟨Lc37, hQ37, l37, y37, z37, CR37⟩, st37⟩ := X35.virtualBackS hx (y := (⟨"com/example/vestry/vestry/plan/PlanSection", "toString", "()Ljava/lang/String;"⟩ : MethodName)) (z := (⟨"com/example/vestry/vestry/plan/PlanSection", "toString", "()Ljava/lang/String;"⟩ : MethodName)) hown (mvT hZ (hw _ (List.mem_of_getElem? (i := 42) rfl))) (mvT hZ (hw _ (List.mem_of_getElem? (i := 43) rfl))) (notFace_of_selects (args := #[]) (mvT hZ (hw _ (List.mem_of_getElem? (i := 45) rfl)))) (mvT hZ (hw _ (List.mem_of_getElem? (i := 45) rfl))) (mvT hZ (hw _ (List.mem_of_getElem? (i := 44) rfl))) (by decide) (backOfSH (W := 0) (rmts10 l Z a0 hw [] b34 r31_ tr31_ _ (A31_) (n31_) gC h35 n0 Z0 SC PC O0 G35_planId G35_section Er31 Co31 Va31 Vt31 lA31 (by omega)) hZ (hw _ (List.mem_of_getElem? (i := 46) rfl)) (hw _ (List.mem_of_getElem? (i := 28) rfl)) (by decide) (by decide) (own_EW hw) CR.1) q37a q37c (g := (mkF m 37 #[.val (.int p1), .val (.int p2), .val (.int p3), .val (.int (p1 &&& (3 : Int32))), .val (.int (3 : Int32)), .val (.ref r31_), .val .null, .unset, .unset, .unset, .unset, .unset] [(.ref b34)])) rfl (by rw [hml]; rfl) (Steps.refl _) (argsL := []) (rest := []) (lenOf pd_20 rfl) rfl (by show 2 * 0 + _ ≤ _; exact Nat.le_of_eq rfl) (hb hby at_37) (fun _ _ => ⟨rfl, e35, (by decide : 7 + 6 ≤ _), (by decide : 14 + 48 ≤ _)⟩)
      dsimp only [Pt.U, Pt.locs, Pt.cells, Pt.slots] at X37 l37 y37 z37 st37 hQ37 hS37 hg37 CR37
      subst l37 y37 z37
      replace X37 : Stand p l e _ (s.setVm T37.vm) m _ below meth c T37 _ _ _ := X37
      replace hS := foldS hS (T := T35) (Nat.le_trans hk (Nat.le_of_eq (congrArg Array.size e35.symm))) hS37 hg37
      replace hk := Nat.le_refl T37.heap.size
      replace hZ : Z.Warmed39 (s.setVm T37.vm).vm := State.Warmed39.trans (t := s.setVm T31.vm) hZ hS37.1
      replace hown : (s.setVm T37.vm).vm.findClass "com/example/vestry/vestry/plan/PlanSectionToStringPinLaw" = some m.cls := by rw [show (s.setVm T37.vm).vm = T37.vm from rfl, hS37.1.alike.findClass]; exact hown
      obtain ⟨r37_, tr37_, kt37, rfl, N37q, K37, g_r37_, lt37, Er37, Co37, Va37, Vt37⟩ := hQ37
      have N37 := Fr.app N35 N37q
      have ne_r31__r37_ : r31_ ≠ r37_ := Nat.ne_of_lt (Nat.lt_of_lt_of_le Er31.lt lt37)
      have ne_tr31__r37_ : tr31_ ≠ r37_ := Nat.ne_of_lt (Nat.lt_of_lt_of_le Vt31.lt lt37)
      have ne_b34_r37_ : b34 ≠ r37_ := Nat.ne_of_lt (Nat.lt_of_lt_of_le E_b34.lt lt37)
      obtain ⟨h37, e37⟩ : ∃ z, T37.heap = z := ⟨_, rfl⟩
      rw [e37] at K37 Er37 Co37 Va37 Vt37 CR37
      replace CR := CR.trans CR37
      replace Z0 := Nat.le_trans Z0 K37.1
      replace O0 := O0.keep K37 all0
      replace Er31 := Er31.keep K37
      replace Co31 := Co31.keep K37 nin0
      replace Va31 := Va31.keep K37 nin0
      replace Vt31 := Vt31.keep K37 nin0
      replace E_b34 := E_b34.keep K37
      replace G35_planId := G35_planId.keep K37 nin0
      replace G35_section := G35_section.keep K37 nin0
      replace hk : T37.heap.size ≤ h37.size := Nat.le_of_eq (congrArg Array.size e37)
      refine GoH.tr (T' := T37) (pc' := 40) (L' := #[.val (.int p1), .val (.int p2), .val (.int p3), .val (.int (p1 &&& (3 : Int32))), .val (.int (3 : Int32)), .val (.ref r31_), .val .null, .unset, .unset, .unset, .unset, .unset]) (S' := [(.ref r37_)]) st37 ?_
      refine GoH.st (T' := T37) (pc' := 42) (L' := #[.val (.int p1), .val (.int p2), .val (.int p3), .val (.int (p1 &&& (3 : Int32))), .val (.int (3 : Int32)), .val (.ref r31_), .val .null, .val (.ref r37_), .unset, .unset, .unset, .unset]) (S' := []) (fun t_ k_ => XS.astore X37.here hx rfl (hb hby at_40) rfl rfl (l' := #[.val (.int p1), .val (.int p2), .val (.int p3), .val (.int (p1 &&& (3 : Int32))), .val (.int (3 : Int32)), .val (.ref r31_), .val .null, .val (.ref r37_), .unset, .unset, .unset, .unset]) rfl k_) ?_
      refine GoH.st (T' := T37) (pc' := 44) (L' := #[.val (.int p1), .val (.int p2), .val (.int p3), .val (.int (p1 &&& (3 : Int32))), .val (.int (3 : Int32)), .val (.ref r31_), .val .null, .val (.ref r37_), .unset, .unset, .unset, .unset]) (S' := [(.ref r37_)]) (fun t_ k_ => XS.aload X37.here hx rfl (hb hby at_42) rfl rfl  k_) ?_
      refine GoH.st (T' := T37) (pc' := 49) (L' := #[.val (.int p1), .val (.int p2), .val (.int p3), .val (.int (p1 &&& (3 : Int32))), .val (.int (3 : Int32)), .val (.ref r31_), .val .null, .val (.ref r37_), .unset, .unset, .unset, .unset]) (S' := []) (fun t_ k_ => XS.ifnonnullYes X37.here hx rfl (pc0 := 44) (pc' := 49) rfl (hb hby at_44) rfl (by decide) (by decide) k_) ?_
      refine GoH.st (T' := T37) (pc' := 51) (L' := #[.val (.int p1), .val (.int p2), .val (.int p3), .val (.int (p1 &&& (3 : Int32))), .val (.int (3 : Int32)), .val (.ref r31_), .val .null, .val (.ref r37_), .unset, .unset, .unset, .unset]) (S' := [(.ref r31_)]) (fun t_ k_ => XS.aload X37.here hx rfl (hb hby at_49) rfl rfl  k_) ?_
      refine GoH.st (T' := T37) (pc' := 59) (L' := #[.val (.int p1), .val (.int p2), .val (.int p3), .val (.int (p1 &&& (3 : Int32))), .val (.int (3 : Int32)), .val (.ref r31_), .val .null, .val (.ref r37_), .unset, .unset, .unset, .unset]) (S' := []) (fun t_ k_ => XS.ifnonnullYes X37.here hx rfl (pc0 := 51) (pc' := 59) rfl (hb hby at_51) rfl (by decide) (by decide) k_) ?_
      refine GoH.st (T' := T37) (pc' := 61) (L' := #[.val (.int p1), .val (.int p2), .val (.int p3), .val (.int (p1 &&& (3 : Int32))), .val (.int (3 : Int32)), .val (.ref r31_), .val .null, .val (.ref r37_), .unset, .unset, .unset, .unset]) (S' := [(.ref r31_)]) (fun t_ k_ => XS.aload X37.here hx rfl (hb hby at_59) rfl rfl  k_) ?_
      refine GoH.st (T' := T37) (pc' := 63) (L' := #[.val (.int p1), .val (.int p2), .val (.int p3), .val (.int (p1 &&& (3 : Int32))), .val (.int (3 : Int32)), .val (.ref r31_), .val .null, .val (.ref r37_), .val (.ref r31_), .unset, .unset, .unset]) (S' := []) (fun t_ k_ => XS.astore X37.here hx rfl (hb hby at_61) rfl rfl (l' := #[.val (.int p1), .val (.int p2), .val (.int p3), .val (.int (p1 &&& (3 : Int32))), .val (.int (3 : Int32)), .val (.ref r31_), .val .null, .val (.ref r37_), .val (.ref r31_), .unset, .unset, .unset]) rfl k_) ?_
      refine GoH.st (T' := T37) (pc' := 65) (L' := #[.val (.int p1), .val (.int p2), .val (.int p3), .val (.int (p1 &&& (3 : Int32))), .val (.int (3 : Int32)), .val (.ref r31_), .val .null, .val (.ref r37_), .val (.ref r31_), .unset, .unset, .unset]) (S' := [.null]) (fun t_ k_ => XS.aload X37.here hx rfl (hb hby at_63) rfl rfl  k_) ?_
      refine GoH.st (T' := T37) (pc' := 68) (L' := #[.val (.int p1), .val (.int p2), .val (.int p3), .val (.int (p1 &&& (3 : Int32))), .val (.int (3 : Int32)), .val (.ref r31_), .val .null, .val (.ref r37_), .val (.ref r31_), .unset, .unset, .unset]) (S' := []) (fun t_ k_ => XS.ifnonnullNo X37.here hx rfl (hb hby at_65) rfl k_) ?_
      obtain ⟨a39_, T39, h39, k39, b39_, c39, X39, e39, E39, hS39, hk39, hZ39, ho39, E_a39_, Fc_a39_, Fv_a39_, V_b39_, lta39, ltb39, CR39, -, Sf39, st39⟩ := ldcCH X37 hx hZ hown (hw _ (List.mem_of_getElem? (i := 201) rfl)) (own_wS hw) e37 hS hk (own_EW hw) (by decide : ("com/example/vestry/vestry/plan/PlanSectionToStringPinLaw", 22) ∈ EL) CR.1 (vs := [(.int (110 : Int32)), (.int (117 : Int32)), (.int (108 : Int32)), (.int (108 : Int32))]) (z := (4 : Int32)) ⟨by decide, by decide⟩ (by decide) rfl (g := (mkF m 68 #[.val (.int p1), .val (.int p2), .val (.int p3), .val (.int (p1 &&& (3 : Int32))), .val (.int (3 : Int32)), .val (.ref r31_), .val .null, .val (.ref r37_), .val (.ref r31_), .unset, .unset, .unset] [])) rfl (hb hby at_68) (n := 16) (by decide) (by decide) (by decide) (by decide)
      replace CR := CR.trans CR39
      replace Z0 := Nat.le_trans Z0 E39.1
      replace O0 := O0.ext E39
      replace Er31 := Er31.ext E39
      replace Co31 := Co31.ext E39
      replace Va31 := Va31.ext E39
      replace Vt31 := Vt31.ext E39
      replace E_b34 := E_b34.ext E39
      replace G35_planId := G35_planId.ext E39
      replace G35_section := G35_section.ext E39
      replace Er37 := Er37.ext E39
      replace Co37 := Co37.ext E39
      replace Va37 := Va37.ext E39
      replace Vt37 := Vt37.ext E39
      replace hZ := hZ39
      replace hown := ho39
      replace hS := hS39
      replace hk := hk39
      refine GoH.st (T' := T39) (pc' := 70) (L' := #[.val (.int p1), .val (.int p2), .val (.int p3), .val (.int (p1 &&& (3 : Int32))), .val (.int (3 : Int32)), .val (.ref r31_), .val .null, .val (.ref r37_), .val (.ref r31_), .unset, .unset, .unset]) (S' := [(.ref a39_)]) st39 ?_
      refine GoH.st (T' := T39) (pc' := 75) (L' := #[.val (.int p1), .val (.int p2), .val (.int p3), .val (.int (p1 &&& (3 : Int32))), .val (.int (3 : Int32)), .val (.ref r31_), .val .null, .val (.ref r37_), .val (.ref r31_), .unset, .unset, .unset]) (S' := [(.ref a39_)]) (fun t_ k_ => XS.goto X39.here hx rfl (pc0 := 70) (pc' := 75) rfl (hb hby at_70) (by decide) (by decide) k_) ?_
      refine GoH.st (T' := T39) (pc' := 77) (L' := #[.val (.int p1), .val (.int p2), .val (.int p3), .val (.int (p1 &&& (3 : Int32))), .val (.int (3 : Int32)), .val (.ref r31_), .val .null, .val (.ref r37_), .val (.ref r31_), .val (.ref a39_), .unset, .unset]) (S' := []) (fun t_ k_ => XS.astore X39.here hx rfl (hb hby at_75) rfl rfl (l' := #[.val (.int p1), .val (.int p2), .val (.int p3), .val (.int (p1 &&& (3 : Int32))), .val (.int (3 : Int32)), .val (.ref r31_), .val .null, .val (.ref r37_), .val (.ref r31_), .val (.ref a39_), .unset, .unset]) rfl k_) ?_
      refine GoH.st (T' := T39) (pc' := 79) (L' := #[.val (.int p1), .val (.int p2), .val (.int p3), .val (.int (p1 &&& (3 : Int32))), .val (.int (3 : Int32)), .val (.ref r31_), .val .null, .val (.ref r37_), .val (.ref r31_), .val (.ref a39_), .unset, .unset]) (S' := [(.ref r31_)]) (fun t_ k_ => XS.aload X39.here hx rfl (hb hby at_77) rfl rfl  k_) ?_
      obtain ⟨cq40, kq40, q40a, q40b, q40c⟩ := isOf hZ e39 Er31
      obtain ⟨_, _, ⟨T40, L40, k40, n40⟩, -, X40, ⟨Lc40, hQ40, l40, y40, z40⟩, st40⟩ := X39.virtualBack hx (y := (⟨"java/lang/String", "length", "()I"⟩ : MethodName)) (z := (⟨"java/lang/String", "length", "()I"⟩ : MethodName)) hown (mvT hZ (hw _ (List.mem_of_getElem? (i := 159) rfl))) (mvT hZ (hw _ (List.mem_of_getElem? (i := 76) rfl))) (notFace_of_selects (args := #[]) (mvT hZ (hw _ (List.mem_of_getElem? (i := 78) rfl)))) (mvT hZ (hw _ (List.mem_of_getElem? (i := 78) rfl))) (mvT hZ (hw _ (List.mem_of_getElem? (i := 77) rfl))) (by decide) (backOf (W := 0) (rm12 l Z a0 hw [] r31_ tr31_ _ gC (n31_.toInt32) (A31_) h39 n0 Z0 SC PC O0 Er31 Co31 Va31 Vt31) hZ (hw _ (List.mem_of_getElem? (i := 79) rfl)) (hw _ (List.mem_of_getElem? (i := 6) rfl)) (by decide) (by decide)) q40a q40c (g := (mkF m 79 #[.val (.int p1), .val (.int p2), .val (.int p3), .val (.int (p1 &&& (3 : Int32))), .val (.int (3 : Int32)), .val (.ref r31_), .val .null, .val (.ref r37_), .val (.ref r31_), .val (.ref a39_), .unset, .unset] [(.ref r31_)])) rfl (by rw [hml]; rfl) (Steps.refl _) (argsL := []) (rest := []) (lenOf pd_4 rfl) rfl (by show 2 * 0 + _ ≤ _; exact Nat.le_of_eq rfl) (hb hby at_79) (fun _ _ => ⟨rfl, e39, (by decide : 15 + 0 ≤ _), (by decide : 82 + 0 ≤ _)⟩)
      dsimp only [Pt.U, Pt.locs, Pt.cells, Pt.slots] at X40 l40 y40 z40 st40 hQ40
      subst l40 y40 z40
      obtain ⟨rfl, N40q, e40⟩ := hQ40
      have N40 := Fr.app N37 N40q
      refine GoH.tr (T' := T40) (pc' := 82) (L' := #[.val (.int p1), .val (.int p2), .val (.int p3), .val (.int (p1 &&& (3 : Int32))), .val (.int (3 : Int32)), .val (.ref r31_), .val .null, .val (.ref r37_), .val (.ref r31_), .val (.ref a39_), .unset, .unset]) (S' := [(.int (n31_.toInt32))]) st40 ?_
      refine GoH.st (T' := T40) (pc' := 84) (L' := #[.val (.int p1), .val (.int p2), .val (.int p3), .val (.int (p1 &&& (3 : Int32))), .val (.int (3 : Int32)), .val (.ref r31_), .val .null, .val (.ref r37_), .val (.ref r31_), .val (.ref a39_), .val (.int (n31_.toInt32)), .unset]) (S' := []) (fun t_ k_ => XS.istore X40.here hx rfl (hb hby at_82) rfl (l' := #[.val (.int p1), .val (.int p2), .val (.int p3), .val (.int (p1 &&& (3 : Int32))), .val (.int (3 : Int32)), .val (.ref r31_), .val .null, .val (.ref r37_), .val (.ref r31_), .val (.ref a39_), .val (.int (n31_.toInt32)), .unset]) rfl k_) ?_
      refine GoH.st (T' := T40) (pc' := 86) (L' := #[.val (.int p1), .val (.int p2), .val (.int p3), .val (.int (p1 &&& (3 : Int32))), .val (.int (3 : Int32)), .val (.ref r31_), .val .null, .val (.ref r37_), .val (.ref r31_), .val (.ref a39_), .val (.int (n31_.toInt32)), .unset]) (S' := [(.ref a39_)]) (fun t_ k_ => XS.aload X40.here hx rfl (hb hby at_84) rfl rfl  k_) ?_
      obtain ⟨cq41, kq41, q41a, q41b, q41c⟩ := isOf hZ e40 E_a39_
      obtain ⟨_, _, ⟨T41, L41, k41, n41⟩, -, X41, ⟨Lc41, hQ41, l41, y41, z41⟩, st41⟩ := X40.virtualBack hx (y := (⟨"java/lang/String", "length", "()I"⟩ : MethodName)) (z := (⟨"java/lang/String", "length", "()I"⟩ : MethodName)) hown (mvT hZ (hw _ (List.mem_of_getElem? (i := 159) rfl))) (mvT hZ (hw _ (List.mem_of_getElem? (i := 76) rfl))) (notFace_of_selects (args := #[]) (mvT hZ (hw _ (List.mem_of_getElem? (i := 78) rfl)))) (mvT hZ (hw _ (List.mem_of_getElem? (i := 78) rfl))) (mvT hZ (hw _ (List.mem_of_getElem? (i := 77) rfl))) (by decide) (backOf (W := 0) (rm12 l Z a0 hw [] a39_ b39_ _ gC (4 : Int32) (([(110 : Int32), (117 : Int32), (108 : Int32), (108 : Int32)] : List Int32)) h39 n0 Z0 SC PC O0 E_a39_ Fc_a39_ Fv_a39_ V_b39_) hZ (hw _ (List.mem_of_getElem? (i := 79) rfl)) (hw _ (List.mem_of_getElem? (i := 6) rfl)) (by decide) (by decide)) q41a q41c (g := (mkF m 86 #[.val (.int p1), .val (.int p2), .val (.int p3), .val (.int (p1 &&& (3 : Int32))), .val (.int (3 : Int32)), .val (.ref r31_), .val .null, .val (.ref r37_), .val (.ref r31_), .val (.ref a39_), .val (.int (n31_.toInt32)), .unset] [(.ref a39_)])) rfl (by rw [hml]; rfl) (Steps.refl _) (argsL := []) (rest := []) (lenOf pd_4 rfl) rfl (by show 2 * 0 + _ ≤ _; exact Nat.le_of_eq rfl) (hb hby at_86) (fun _ _ => ⟨rfl, e40, (by decide : 15 + 0 ≤ _), (by decide : 82 + 0 ≤ _)⟩)
      dsimp only [Pt.U, Pt.locs, Pt.cells, Pt.slots] at X41 l41 y41 z41 st41 hQ41
      subst l41 y41 z41
      obtain ⟨rfl, N41q, e41⟩ := hQ41
      have N41 := Fr.app N40 N41q
      refine GoH.tr (T' := T41) (pc' := 89) (L' := #[.val (.int p1), .val (.int p2), .val (.int p3), .val (.int (p1 &&& (3 : Int32))), .val (.int (3 : Int32)), .val (.ref r31_), .val .null, .val (.ref r37_), .val (.ref r31_), .val (.ref a39_), .val (.int (n31_.toInt32)), .unset]) (S' := [(.int (4 : Int32))]) st41 ?_
      refine GoH.st (T' := T41) (pc' := 91) (L' := #[.val (.int p1), .val (.int p2), .val (.int p3), .val (.int (p1 &&& (3 : Int32))), .val (.int (3 : Int32)), .val (.ref r31_), .val .null, .val (.ref r37_), .val (.ref r31_), .val (.ref a39_), .val (.int (n31_.toInt32)), .val (.int (4 : Int32))]) (S' := []) (fun t_ k_ => XS.istore X41.here hx rfl (hb hby at_89) rfl (l' := #[.val (.int p1), .val (.int p2), .val (.int p3), .val (.int (p1 &&& (3 : Int32))), .val (.int (3 : Int32)), .val (.ref r31_), .val .null, .val (.ref r37_), .val (.ref r31_), .val (.ref a39_), .val (.int (n31_.toInt32)), .val (.int (4 : Int32))]) rfl k_) ?_
      refine GoH.st (T' := T41) (pc' := 93) (L' := #[.val (.int p1), .val (.int p2), .val (.int p3), .val (.int (p1 &&& (3 : Int32))), .val (.int (3 : Int32)), .val (.ref r31_), .val .null, .val (.ref r37_), .val (.ref r31_), .val (.ref a39_), .val (.int (n31_.toInt32)), .val (.int (4 : Int32))]) (S' := [(.ref r37_)]) (fun t_ k_ => XS.aload X41.here hx rfl (hb hby at_91) rfl rfl  k_) ?_
      obtain ⟨cq42, kq42, q42a, q42b, q42c⟩ := isOf hZ e41 Er37
      obtain ⟨_, _, ⟨T42, L42, k42, n42⟩, -, X42, ⟨Lc42, hQ42, l42, y42, z42⟩, st42⟩ := X41.virtualBack hx (y := (⟨"java/lang/String", "length", "()I"⟩ : MethodName)) (z := (⟨"java/lang/String", "length", "()I"⟩ : MethodName)) hown (mvT hZ (hw _ (List.mem_of_getElem? (i := 159) rfl))) (mvT hZ (hw _ (List.mem_of_getElem? (i := 76) rfl))) (notFace_of_selects (args := #[]) (mvT hZ (hw _ (List.mem_of_getElem? (i := 78) rfl)))) (mvT hZ (hw _ (List.mem_of_getElem? (i := 78) rfl))) (mvT hZ (hw _ (List.mem_of_getElem? (i := 77) rfl))) (by decide) (backOf (W := 0) (rm12 l Z a0 hw [] r37_ tr37_ _ gC ((0 + (n31_) + 1 + 4 : Nat).toInt32) ((([] ++ (A31_) ++ ([32] : List Int32)) ++ ([110, 117, 108, 108] : List Int32))) h39 n0 Z0 SC PC O0 Er37 Co37 Va37 Vt37) hZ (hw _ (List.mem_of_getElem? (i := 79) rfl)) (hw _ (List.mem_of_getElem? (i := 6) rfl)) (by decide) (by decide)) q42a q42c (g := (mkF m 93 #[.val (.int p1), .val (.int p2), .val (.int p3), .val (.int (p1 &&& (3 : Int32))), .val (.int (3 : Int32)), .val (.ref r31_), .val .null, .val (.ref r37_), .val (.ref r31_), .val (.ref a39_), .val (.int (n31_.toInt32)), .val (.int (4 : Int32))] [(.ref r37_)])) rfl (by rw [hml]; rfl) (Steps.refl _) (argsL := []) (rest := []) (lenOf pd_4 rfl) rfl (by show 2 * 0 + _ ≤ _; exact Nat.le_of_eq rfl) (hb hby at_93) (fun _ _ => ⟨rfl, e41, (by decide : 15 + 0 ≤ _), (by decide : 82 + 0 ≤ _)⟩)
      dsimp only [Pt.U, Pt.locs, Pt.cells, Pt.slots] at X42 l42 y42 z42 st42 hQ42
      subst l42 y42 z42
      obtain ⟨rfl, N42q, e42⟩ := hQ42
      have N42 := Fr.app N41 N42q
      refine GoH.tr (T' := T42) (pc' := 96) (L' := #[.val (.int p1), .val (.int p2), .val (.int p3), .val (.int (p1 &&& (3 : Int32))), .val (.int (3 : Int32)), .val (.ref r31_), .val .null, .val (.ref r37_), .val (.ref r31_), .val (.ref a39_), .val (.int (n31_.toInt32)), .val (.int (4 : Int32))]) (S' := [(.int ((0 + (n31_) + 1 + 4 : Nat).toInt32))]) st42 ?_
      refine GoH.st (T' := T42) (pc' := 98) (L' := #[.val (.int p1), .val (.int p2), .val (.int p3), .val (.int (p1 &&& (3 : Int32))), .val (.int (3 : Int32)), .val (.ref r31_), .val .null, .val (.ref r37_), .val (.ref r31_), .val (.ref a39_), .val (.int (n31_.toInt32)), .val (.int (4 : Int32))]) (S' := [(.int (n31_.toInt32)), (.int ((0 + (n31_) + 1 + 4 : Nat).toInt32))]) (fun t_ k_ => XS.iload X42.here hx rfl (hb hby at_96) rfl  k_) ?_
      refine GoH.st (T' := T42) (pc' := 99) (L' := #[.val (.int p1), .val (.int p2), .val (.int p3), .val (.int (p1 &&& (3 : Int32))), .val (.int (3 : Int32)), .val (.ref r31_), .val .null, .val (.ref r37_), .val (.ref r31_), .val (.ref a39_), .val (.int (n31_.toInt32)), .val (.int (4 : Int32))]) (S' := [(.int (1 : Int32)), (.int (n31_.toInt32)), (.int ((0 + (n31_) + 1 + 4 : Nat).toInt32))]) (fun t_ k_ => XS.iconst X42.here hx rfl (hb hby at_98) k_) ?_
      refine GoH.st (T' := T42) (pc' := 100) (L' := #[.val (.int p1), .val (.int p2), .val (.int p3), .val (.int (p1 &&& (3 : Int32))), .val (.int (3 : Int32)), .val (.ref r31_), .val .null, .val (.ref r37_), .val (.ref r31_), .val (.ref a39_), .val (.int (n31_.toInt32)), .val (.int (4 : Int32))]) (S' := [(.int ((n31_.toInt32) + (1 : Int32))), (.int ((0 + (n31_) + 1 + 4 : Nat).toInt32))]) (fun t_ k_ => XS.iadd X42.here hx rfl (hb hby at_99) rfl k_) ?_
      refine GoH.st (T' := T42) (pc' := 102) (L' := #[.val (.int p1), .val (.int p2), .val (.int p3), .val (.int (p1 &&& (3 : Int32))), .val (.int (3 : Int32)), .val (.ref r31_), .val .null, .val (.ref r37_), .val (.ref r31_), .val (.ref a39_), .val (.int (n31_.toInt32)), .val (.int (4 : Int32))]) (S' := [(.int (4 : Int32)), (.int ((n31_.toInt32) + (1 : Int32))), (.int ((0 + (n31_) + 1 + 4 : Nat).toInt32))]) (fun t_ k_ => XS.iload X42.here hx rfl (hb hby at_100) rfl  k_) ?_
      refine GoH.st (T' := T42) (pc' := 103) (L' := #[.val (.int p1), .val (.int p2), .val (.int p3), .val (.int (p1 &&& (3 : Int32))), .val (.int (3 : Int32)), .val (.ref r31_), .val .null, .val (.ref r37_), .val (.ref r31_), .val (.ref a39_), .val (.int (n31_.toInt32)), .val (.int (4 : Int32))]) (S' := [(.int (((n31_.toInt32) + (1 : Int32)) + (4 : Int32))), (.int ((0 + (n31_) + 1 + 4 : Nat).toInt32))]) (fun t_ k_ => XS.iadd X42.here hx rfl (hb hby at_102) rfl k_) ?_
      refine GoH.st (T' := T42) (pc' := 108) (L' := #[.val (.int p1), .val (.int p2), .val (.int p3), .val (.int (p1 &&& (3 : Int32))), .val (.int (3 : Int32)), .val (.ref r31_), .val .null, .val (.ref r37_), .val (.ref r31_), .val (.ref a39_), .val (.int (n31_.toInt32)), .val (.int (4 : Int32))]) (S' := []) (fun t_ k_ => XS.icmpYes X42.here hx rfl (pc0 := 103) (pc' := 108) rfl (hb hby at_103) rfl (teq (own_len3 (a := (n31_)) (b := 4) (by omega) : (((0 + (n31_) + 1 + 4 : Nat).toInt32) = (((n31_.toInt32) + (1 : Int32)) + (4 : Int32))))).1 (by decide) (by decide) k_) ?_
      refine GoH.st (T' := T42) (pc' := 110) (L' := #[.val (.int p1), .val (.int p2), .val (.int p3), .val (.int (p1 &&& (3 : Int32))), .val (.int (3 : Int32)), .val (.ref r31_), .val .null, .val (.ref r37_), .val (.ref r31_), .val (.ref a39_), .val (.int (n31_.toInt32)), .val (.int (4 : Int32))]) (S' := [(.ref r37_)]) (fun t_ k_ => XS.aload X42.here hx rfl (hb hby at_108) rfl rfl  k_) ?_
      refine GoH.st (T' := T42) (pc' := 112) (L' := #[.val (.int p1), .val (.int p2), .val (.int p3), .val (.int (p1 &&& (3 : Int32))), .val (.int (3 : Int32)), .val (.ref r31_), .val .null, .val (.ref r37_), .val (.ref r31_), .val (.ref a39_), .val (.int (n31_.toInt32)), .val (.int (4 : Int32))]) (S' := [(.ref r31_), (.ref r37_)]) (fun t_ k_ => XS.aload X42.here hx rfl (hb hby at_110) rfl rfl  k_) ?_
      refine GoH.st (T' := T42) (pc' := 113) (L' := #[.val (.int p1), .val (.int p2), .val (.int p3), .val (.int (p1 &&& (3 : Int32))), .val (.int (3 : Int32)), .val (.ref r31_), .val .null, .val (.ref r37_), .val (.ref r31_), .val (.ref a39_), .val (.int (n31_.toInt32)), .val (.int (4 : Int32))]) (S' := [(.int (0 : Int32)), (.ref r31_), (.ref r37_)]) (fun t_ k_ => XS.iconst X42.here hx rfl (hb hby at_112) k_) ?_
      obtain ⟨_, _, ⟨T43, L43, k43, n43⟩, -, X43, ⟨Lc43, hQ43, l43, y43, z43⟩, st43⟩ := Jvm.LawKit.callS X42 hx (y := (⟨"com/example/vestry/vestry/plan/PlanSectionToStringPinLaw", "pre", "(Ljava/lang/String;Ljava/lang/String;I)Z"⟩ : MethodName)) hown (mvT hZ (hw _ (List.mem_of_getElem? (i := 160) rfl))) (mvT hZ (hw _ (List.mem_of_getElem? (i := 161) rfl))) (mvT hZ (hw _ (List.mem_of_getElem? (i := 2) rfl))) (mvT hZ (hw _ (List.mem_of_getElem? (i := 162) rfl))) (by decide) (backOf (W := 0) (rmpre l Z a0 hw [] r37_ tr37_ _ ((([] ++ (A31_) ++ ([32] : List Int32)) ++ ([110, 117, 108, 108] : List Int32))) ((0 + (n31_) + 1 + 4 : Nat)) r31_ tr31_ _ (A31_) (0) fm gC (n31_) h39 n0 Z0 SC PC O0 hfm SF Er37 Co37 Va37 Vt37 Er31 Co31 Va31 Vt31 (own_la (own_la (own_la rfl lA31) rfl) rfl) (by omega) lA31 (by omega) (fun j hj => own_pa (A := (A31_)) (B := ([110, 117, 108, 108] : List Int32)) (n := (n31_)) lA31 hj) (by omega)) hZ (hw _ (List.mem_of_getElem? (i := 162) rfl)) (hw _ (List.mem_of_getElem? (i := 2) rfl)) (by decide) (by decide)) (g := (mkF m 113 #[.val (.int p1), .val (.int p2), .val (.int p3), .val (.int (p1 &&& (3 : Int32))), .val (.int (3 : Int32)), .val (.ref r31_), .val .null, .val (.ref r37_), .val (.ref r31_), .val (.ref a39_), .val (.int (n31_.toInt32)), .val (.int (4 : Int32))] [(.int (0 : Int32)), (.ref r31_), (.ref r37_)])) rfl (by rw [hml]; rfl) (argsL := [(.ref r37_), (.ref r31_), (.int (0 : Int32))]) (rest := []) (lenOf pd_25 rfl) rfl (by show 2 * 0 + _ ≤ _; exact Nat.le_of_eq rfl) (hb hby at_113) (fun _ _ => ⟨rfl, e42, (by decide : 15 + 0 ≤ _), (by decide : 82 + 0 ≤ _)⟩)
      dsimp only [Pt.U, Pt.locs, Pt.cells, Pt.slots] at X43 l43 y43 z43 st43 hQ43
      subst l43 y43 z43
      obtain ⟨rfl, N43q, e43⟩ := hQ43
      have N43 := Fr.app N42 N43q
      refine GoH.st (T' := T43) (pc' := 116) (L' := #[.val (.int p1), .val (.int p2), .val (.int p3), .val (.int (p1 &&& (3 : Int32))), .val (.int (3 : Int32)), .val (.ref r31_), .val .null, .val (.ref r37_), .val (.ref r31_), .val (.ref a39_), .val (.int (n31_.toInt32)), .val (.int (4 : Int32))]) (S' := [(.int (1 : Int32))]) st43 ?_
      refine GoH.st (T' := T43) (pc' := 121) (L' := #[.val (.int p1), .val (.int p2), .val (.int p3), .val (.int (p1 &&& (3 : Int32))), .val (.int (3 : Int32)), .val (.ref r31_), .val .null, .val (.ref r37_), .val (.ref r31_), .val (.ref a39_), .val (.int (n31_.toInt32)), .val (.int (4 : Int32))]) (S' := []) (fun t_ k_ => XS.ifYes X43.here hx rfl (pc0 := 116) (pc' := 121) rfl (hb hby at_116) rfl ((if0 _ _).trans (feq (by decide : ¬ ((1 : Int32) = (0 : Int32)))).2) (by decide) (by decide) k_) ?_
      refine GoH.st (T' := T43) (pc' := 123) (L' := #[.val (.int p1), .val (.int p2), .val (.int p3), .val (.int (p1 &&& (3 : Int32))), .val (.int (3 : Int32)), .val (.ref r31_), .val .null, .val (.ref r37_), .val (.ref r31_), .val (.ref a39_), .val (.int (n31_.toInt32)), .val (.int (4 : Int32))]) (S' := [(.ref r37_)]) (fun t_ k_ => XS.aload X43.here hx rfl (hb hby at_121) rfl rfl  k_) ?_
      refine GoH.st (T' := T43) (pc' := 125) (L' := #[.val (.int p1), .val (.int p2), .val (.int p3), .val (.int (p1 &&& (3 : Int32))), .val (.int (3 : Int32)), .val (.ref r31_), .val .null, .val (.ref r37_), .val (.ref r31_), .val (.ref a39_), .val (.int (n31_.toInt32)), .val (.int (4 : Int32))]) (S' := [(.int (n31_.toInt32)), (.ref r37_)]) (fun t_ k_ => XS.iload X43.here hx rfl (hb hby at_123) rfl  k_) ?_
      obtain ⟨cq44, kq44, q44a, q44b, q44c⟩ := isOf hZ e43 Er37
      obtain ⟨_, _, ⟨T44, L44, k44, n44⟩, -, X44, ⟨Lc44, hQ44, l44, y44, z44⟩, st44⟩ := X43.virtualBack hx (y := (⟨"java/lang/String", "charAt", "(I)C"⟩ : MethodName)) (z := (⟨"java/lang/String", "charAt", "(I)C"⟩ : MethodName)) hown (mvT hZ (hw _ (List.mem_of_getElem? (i := 163) rfl))) (mvT hZ (hw _ (List.mem_of_getElem? (i := 164) rfl))) (notFace_of_selects (args := #[]) (mvT hZ (hw _ (List.mem_of_getElem? (i := 166) rfl)))) (mvT hZ (hw _ (List.mem_of_getElem? (i := 166) rfl))) (mvT hZ (hw _ (List.mem_of_getElem? (i := 165) rfl))) (by decide) (backOf (W := 0) (rm30 l Z a0 hw [] r37_ tr37_ _ ((([] ++ (A31_) ++ ([32] : List Int32)) ++ ([110, 117, 108, 108] : List Int32))) (n31_) ((0 + (n31_) + 1 + 4 : Nat)) fm gC h39 n0 Z0 SC PC O0 hfm SF Er37 Co37 Va37 Vt37 (by omega) (by omega)) hZ (hw _ (List.mem_of_getElem? (i := 167) rfl)) (hw _ (List.mem_of_getElem? (i := 6) rfl)) (by decide) (by decide)) q44a q44c (g := (mkF m 125 #[.val (.int p1), .val (.int p2), .val (.int p3), .val (.int (p1 &&& (3 : Int32))), .val (.int (3 : Int32)), .val (.ref r31_), .val .null, .val (.ref r37_), .val (.ref r31_), .val (.ref a39_), .val (.int (n31_.toInt32)), .val (.int (4 : Int32))] [(.int (n31_.toInt32)), (.ref r37_)])) rfl (by rw [hml]; rfl) (Steps.refl _) (argsL := [(.int (n31_.toInt32))]) (rest := []) (lenOf pd_21 rfl) rfl (by show 2 * 0 + _ ≤ _; exact Nat.le_of_eq rfl) (hb hby at_125) (fun _ _ => ⟨rfl, e43, (by decide : 15 + 0 ≤ _), (by decide : 82 + 0 ≤ _)⟩)
      dsimp only [Pt.U, Pt.locs, Pt.cells, Pt.slots] at X44 l44 y44 z44 st44 hQ44
      subst l44 y44 z44
      unfold Q30 at hQ44
      generalize hx44 : own_ch _ = xc44 at hQ44
      obtain ⟨rfl, N44q, e44⟩ := hQ44
      have N44 := Fr.app N43 N44q
      refine GoH.tr (T' := T44) (pc' := 128) (L' := #[.val (.int p1), .val (.int p2), .val (.int p3), .val (.int (p1 &&& (3 : Int32))), .val (.int (3 : Int32)), .val (.ref r31_), .val .null, .val (.ref r37_), .val (.ref r31_), .val (.ref a39_), .val (.int (n31_.toInt32)), .val (.int (4 : Int32))]) (S' := [(.int xc44)]) st44 ?_
      refine GoH.st (T' := T44) (pc' := 130) (L' := #[.val (.int p1), .val (.int p2), .val (.int p3), .val (.int (p1 &&& (3 : Int32))), .val (.int (3 : Int32)), .val (.ref r31_), .val .null, .val (.ref r37_), .val (.ref r31_), .val (.ref a39_), .val (.int (n31_.toInt32)), .val (.int (4 : Int32))]) (S' := [(.int (32 : Int32)), (.int xc44)]) (fun t_ k_ => XS.bipush X44.here hx rfl (hb hby at_128) k_) ?_
      refine GoH.st (T' := T44) (pc' := 135) (L' := #[.val (.int p1), .val (.int p2), .val (.int p3), .val (.int (p1 &&& (3 : Int32))), .val (.int (3 : Int32)), .val (.ref r31_), .val .null, .val (.ref r37_), .val (.ref r31_), .val (.ref a39_), .val (.int (n31_.toInt32)), .val (.int (4 : Int32))]) (S' := []) (fun t_ k_ => XS.icmpYes X44.here hx rfl (pc0 := 130) (pc' := 135) rfl (hb hby at_130) rfl (teq (hx44.symm.trans (own_mc (A := (A31_)) (B := ([110, 117, 108, 108] : List Int32)) (n := (n31_)) lA31) : (xc44 = (32 : Int32)))).1 (by decide) (by decide) k_) ?_
      refine GoH.st (T' := T44) (pc' := 137) (L' := #[.val (.int p1), .val (.int p2), .val (.int p3), .val (.int (p1 &&& (3 : Int32))), .val (.int (3 : Int32)), .val (.ref r31_), .val .null, .val (.ref r37_), .val (.ref r31_), .val (.ref a39_), .val (.int (n31_.toInt32)), .val (.int (4 : Int32))]) (S' := [(.ref r37_)]) (fun t_ k_ => XS.aload X44.here hx rfl (hb hby at_135) rfl rfl  k_) ?_
      refine GoH.st (T' := T44) (pc' := 139) (L' := #[.val (.int p1), .val (.int p2), .val (.int p3), .val (.int (p1 &&& (3 : Int32))), .val (.int (3 : Int32)), .val (.ref r31_), .val .null, .val (.ref r37_), .val (.ref r31_), .val (.ref a39_), .val (.int (n31_.toInt32)), .val (.int (4 : Int32))]) (S' := [(.ref a39_), (.ref r37_)]) (fun t_ k_ => XS.aload X44.here hx rfl (hb hby at_137) rfl rfl  k_) ?_
      refine GoH.st (T' := T44) (pc' := 141) (L' := #[.val (.int p1), .val (.int p2), .val (.int p3), .val (.int (p1 &&& (3 : Int32))), .val (.int (3 : Int32)), .val (.ref r31_), .val .null, .val (.ref r37_), .val (.ref r31_), .val (.ref a39_), .val (.int (n31_.toInt32)), .val (.int (4 : Int32))]) (S' := [(.int (n31_.toInt32)), (.ref a39_), (.ref r37_)]) (fun t_ k_ => XS.iload X44.here hx rfl (hb hby at_139) rfl  k_) ?_
      refine GoH.st (T' := T44) (pc' := 142) (L' := #[.val (.int p1), .val (.int p2), .val (.int p3), .val (.int (p1 &&& (3 : Int32))), .val (.int (3 : Int32)), .val (.ref r31_), .val .null, .val (.ref r37_), .val (.ref r31_), .val (.ref a39_), .val (.int (n31_.toInt32)), .val (.int (4 : Int32))]) (S' := [(.int (1 : Int32)), (.int (n31_.toInt32)), (.ref a39_), (.ref r37_)]) (fun t_ k_ => XS.iconst X44.here hx rfl (hb hby at_141) k_) ?_
      refine GoH.st (T' := T44) (pc' := 143) (L' := #[.val (.int p1), .val (.int p2), .val (.int p3), .val (.int (p1 &&& (3 : Int32))), .val (.int (3 : Int32)), .val (.ref r31_), .val .null, .val (.ref r37_), .val (.ref r31_), .val (.ref a39_), .val (.int (n31_.toInt32)), .val (.int (4 : Int32))]) (S' := [(.int ((n31_.toInt32) + (1 : Int32))), (.ref a39_), (.ref r37_)]) (fun t_ k_ => XS.iadd X44.here hx rfl (hb hby at_142) rfl k_) ?_
      rw [show (n31_.toInt32) + (1 : Int32) = (n31_ + 1).toInt32 from own_addN (m := n31_) (n := 1) (by omega)]
      obtain ⟨_, _, ⟨T45, L45, k45, n45⟩, -, X45, ⟨Lc45, hQ45, l45, y45, z45⟩, st45⟩ := Jvm.LawKit.callS X44 hx (y := (⟨"com/example/vestry/vestry/plan/PlanSectionToStringPinLaw", "pre", "(Ljava/lang/String;Ljava/lang/String;I)Z"⟩ : MethodName)) hown (mvT hZ (hw _ (List.mem_of_getElem? (i := 160) rfl))) (mvT hZ (hw _ (List.mem_of_getElem? (i := 161) rfl))) (mvT hZ (hw _ (List.mem_of_getElem? (i := 2) rfl))) (mvT hZ (hw _ (List.mem_of_getElem? (i := 162) rfl))) (by decide) (backOf (W := 0) (rmpre l Z a0 hw [] r37_ tr37_ _ ((([] ++ (A31_) ++ ([32] : List Int32)) ++ ([110, 117, 108, 108] : List Int32))) ((0 + (n31_) + 1 + 4 : Nat)) a39_ b39_ _ (([(110 : Int32), (117 : Int32), (108 : Int32), (108 : Int32)] : List Int32)) ((n31_ + 1)) fm gC (4) h39 n0 Z0 SC PC O0 hfm SF Er37 Co37 Va37 Vt37 E_a39_ Fc_a39_ Fv_a39_ V_b39_ (own_la (own_la (own_la rfl lA31) rfl) rfl) (by omega) rfl (by omega) (fun j hj => own_nd (A := (A31_)) (B := ([110, 117, 108, 108] : List Int32)) (n := (n31_)) lA31) (by omega)) hZ (hw _ (List.mem_of_getElem? (i := 162) rfl)) (hw _ (List.mem_of_getElem? (i := 2) rfl)) (by decide) (by decide)) (g := (mkF m 143 #[.val (.int p1), .val (.int p2), .val (.int p3), .val (.int (p1 &&& (3 : Int32))), .val (.int (3 : Int32)), .val (.ref r31_), .val .null, .val (.ref r37_), .val (.ref r31_), .val (.ref a39_), .val (.int (n31_.toInt32)), .val (.int (4 : Int32))] [(.int ((n31_ + 1).toInt32)), (.ref a39_), (.ref r37_)])) rfl (by rw [hml]; rfl) (argsL := [(.ref r37_), (.ref a39_), (.int ((n31_ + 1).toInt32))]) (rest := []) (lenOf pd_25 rfl) rfl (by show 2 * 0 + _ ≤ _; exact Nat.le_of_eq rfl) (hb hby at_143) (fun _ _ => ⟨rfl, e44, (by decide : 15 + 0 ≤ _), (by decide : 82 + 0 ≤ _)⟩)
      dsimp only [Pt.U, Pt.locs, Pt.cells, Pt.slots] at X45 l45 y45 z45 st45 hQ45
      subst l45 y45 z45
      obtain ⟨rfl, N45q, e45⟩ := hQ45
      have N45 := Fr.app N44 N45q
      refine GoH.st (T' := T45) (pc' := 146) (L' := #[.val (.int p1), .val (.int p2), .val (.int p3), .val (.int (p1 &&& (3 : Int32))), .val (.int (3 : Int32)), .val (.ref r31_), .val .null, .val (.ref r37_), .val (.ref r31_), .val (.ref a39_), .val (.int (n31_.toInt32)), .val (.int (4 : Int32))]) (S' := [(.int (1 : Int32))]) st45 ?_
      exact GoH.retN X45 hx hlk hret (by simp) (hb hby at_146) (by decide) (by decide) hS hk e45 hs0 hZ (own_EW hw) CR (by rw [e45]; exact ⟨rfl, N45⟩)
    · refine GoH.st (T' := T0) (pc' := 11) (L' := #[.val (.int p1), .val (.int p2), .val (.int p3), .val (.int (p1 &&& (3 : Int32))), .val (.int (((p1.toUInt32 >>> ((2 : Int32) &&& 31).toUInt32).toInt32) &&& (3 : Int32))), .unset, .unset, .unset, .unset, .unset, .unset, .unset]) (S' := []) (fun t_ k_ => XS.istore X0.here hx rfl (hb hby at_9) rfl (l' := #[.val (.int p1), .val (.int p2), .val (.int p3), .val (.int (p1 &&& (3 : Int32))), .val (.int (((p1.toUInt32 >>> ((2 : Int32) &&& 31).toUInt32).toInt32) &&& (3 : Int32))), .unset, .unset, .unset, .unset, .unset, .unset, .unset]) rfl k_) ?_
      refine GoH.st (T' := T0) (pc' := 12) (L' := #[.val (.int p1), .val (.int p2), .val (.int p3), .val (.int (p1 &&& (3 : Int32))), .val (.int (((p1.toUInt32 >>> ((2 : Int32) &&& 31).toUInt32).toInt32) &&& (3 : Int32))), .unset, .unset, .unset, .unset, .unset, .unset, .unset]) (S' := [(.int (p1 &&& (3 : Int32)))]) (fun t_ k_ => XS.iloadN X0.here hx rfl (hb hby at_11) rfl  k_) ?_
      refine GoH.st (T' := T0) (pc' := 13) (L' := #[.val (.int p1), .val (.int p2), .val (.int p3), .val (.int (p1 &&& (3 : Int32))), .val (.int (((p1.toUInt32 >>> ((2 : Int32) &&& 31).toUInt32).toInt32) &&& (3 : Int32))), .unset, .unset, .unset, .unset, .unset, .unset, .unset]) (S' := [(.int p2), (.int (p1 &&& (3 : Int32)))]) (fun t_ k_ => XS.iloadN X0.here hx rfl (hb hby at_12) rfl  k_) ?_
      obtain ⟨_, _, ⟨T46, L46, k46, n46⟩, -, X46, hS46, hg46, ⟨Lc46, hQ46, l46, y46, z46, CR46⟩, st46⟩ := callSS X0 hx (y := (⟨"com/example/vestry/vestry/plan/PlanSectionToStringPinLaw", "mk", "(II)Ljava/lang/String;"⟩ : MethodName)) hown (mvT hZ (hw _ (List.mem_of_getElem? (i := 0) rfl))) (mvT hZ (hw _ (List.mem_of_getElem? (i := 1) rfl))) (mvT hZ (hw _ (List.mem_of_getElem? (i := 2) rfl))) (mvT hZ (hw _ (List.mem_of_getElem? (i := 3) rfl))) (by decide) (backOfSH (W := 0) (rmmk l Z a0 hw [] (p1 &&& (3 : Int32)) p2 gC h0 n0 Z0 SC PC O0 hka) hZ (hw _ (List.mem_of_getElem? (i := 3) rfl)) (hw _ (List.mem_of_getElem? (i := 2) rfl)) (by decide) (by decide) (own_EW hw) CR.1) (g := (mkF m 13 #[.val (.int p1), .val (.int p2), .val (.int p3), .val (.int (p1 &&& (3 : Int32))), .val (.int (((p1.toUInt32 >>> ((2 : Int32) &&& 31).toUInt32).toInt32) &&& (3 : Int32))), .unset, .unset, .unset, .unset, .unset, .unset, .unset] [(.int p2), (.int (p1 &&& (3 : Int32)))])) rfl (by rw [hml]; rfl) (argsL := [(.int (p1 &&& (3 : Int32))), (.int p2)]) (rest := []) (lenOf pd_23 rfl) rfl (by show 2 * 0 + _ ≤ _; exact Nat.le_of_eq rfl) (hb hby at_13) (fun _ _ => ⟨rfl, e0, (by decide : 0 + 6 ≤ _), (by decide : 0 + 12 ≤ _)⟩)
      dsimp only [Pt.U, Pt.locs, Pt.cells, Pt.slots] at X46 l46 y46 z46 st46 hQ46 hS46 hg46 CR46
      subst l46 y46 z46
      replace X46 : Stand p l e _ (s.setVm T46.vm) m _ below meth c T46 _ _ _ := X46
      replace hS := foldS hS (T := T0) (Nat.le_trans hk (Nat.le_of_eq (congrArg Array.size e0.symm))) hS46 hg46
      replace hk := Nat.le_refl T46.heap.size
      replace hZ : Z.Warmed39 (s.setVm T46.vm).vm := State.Warmed39.trans (t := s.setVm s.vm) hZ hS46.1
      replace hown : (s.setVm T46.vm).vm.findClass "com/example/vestry/vestry/plan/PlanSectionToStringPinLaw" = some m.cls := by rw [show (s.setVm T46.vm).vm = T46.vm from rfl, hS46.1.alike.findClass]; exact hown
      obtain ⟨r46_, tr46_, kt46, A46_, n46_, rfl, N46q, K46, Er46, Co46, Va46, Vt46, lA46, ln46⟩ := hQ46
      have N46 := Fr.app N0 N46q
      obtain ⟨h46, e46⟩ : ∃ z, T46.heap = z := ⟨_, rfl⟩
      rw [e46] at K46 Er46 Co46 Va46 Vt46 CR46
      replace CR := CR.trans CR46
      replace Z0 := Nat.le_trans Z0 K46.1
      replace O0 := O0.keep K46 all0
      replace hk : T46.heap.size ≤ h46.size := Nat.le_of_eq (congrArg Array.size e46)
      refine GoH.tr (T' := T46) (pc' := 16) (L' := #[.val (.int p1), .val (.int p2), .val (.int p3), .val (.int (p1 &&& (3 : Int32))), .val (.int (((p1.toUInt32 >>> ((2 : Int32) &&& 31).toUInt32).toInt32) &&& (3 : Int32))), .unset, .unset, .unset, .unset, .unset, .unset, .unset]) (S' := [(.ref r46_)]) st46 ?_
      refine GoH.st (T' := T46) (pc' := 18) (L' := #[.val (.int p1), .val (.int p2), .val (.int p3), .val (.int (p1 &&& (3 : Int32))), .val (.int (((p1.toUInt32 >>> ((2 : Int32) &&& 31).toUInt32).toInt32) &&& (3 : Int32))), .val (.ref r46_), .unset, .unset, .unset, .unset, .unset, .unset]) (S' := []) (fun t_ k_ => XS.astore X46.here hx rfl (hb hby at_16) rfl rfl (l' := #[.val (.int p1), .val (.int p2), .val (.int p3), .val (.int (p1 &&& (3 : Int32))), .val (.int (((p1.toUInt32 >>> ((2 : Int32) &&& 31).toUInt32).toInt32) &&& (3 : Int32))), .val (.ref r46_), .unset, .unset, .unset, .unset, .unset, .unset]) rfl k_) ?_
      refine GoH.st (T' := T46) (pc' := 20) (L' := #[.val (.int p1), .val (.int p2), .val (.int p3), .val (.int (p1 &&& (3 : Int32))), .val (.int (((p1.toUInt32 >>> ((2 : Int32) &&& 31).toUInt32).toInt32) &&& (3 : Int32))), .val (.ref r46_), .unset, .unset, .unset, .unset, .unset, .unset]) (S' := [(.int (((p1.toUInt32 >>> ((2 : Int32) &&& 31).toUInt32).toInt32) &&& (3 : Int32)))]) (fun t_ k_ => XS.iload X46.here hx rfl (hb hby at_18) rfl  k_) ?_
      refine GoH.st (T' := T46) (pc' := 21) (L' := #[.val (.int p1), .val (.int p2), .val (.int p3), .val (.int (p1 &&& (3 : Int32))), .val (.int (((p1.toUInt32 >>> ((2 : Int32) &&& 31).toUInt32).toInt32) &&& (3 : Int32))), .val (.ref r46_), .unset, .unset, .unset, .unset, .unset, .unset]) (S' := [(.int p3), (.int (((p1.toUInt32 >>> ((2 : Int32) &&& 31).toUInt32).toInt32) &&& (3 : Int32)))]) (fun t_ k_ => XS.iloadN X46.here hx rfl (hb hby at_20) rfl  k_) ?_
      obtain ⟨_, _, ⟨T48, L48, k48, n48⟩, -, X48, hS48, hg48, ⟨Lc48, hQ48, l48, y48, z48, CR48⟩, st48⟩ := callSS X46 hx (y := (⟨"com/example/vestry/vestry/plan/PlanSectionToStringPinLaw", "mk", "(II)Ljava/lang/String;"⟩ : MethodName)) hown (mvT hZ (hw _ (List.mem_of_getElem? (i := 0) rfl))) (mvT hZ (hw _ (List.mem_of_getElem? (i := 1) rfl))) (mvT hZ (hw _ (List.mem_of_getElem? (i := 2) rfl))) (mvT hZ (hw _ (List.mem_of_getElem? (i := 3) rfl))) (by decide) (backOfSH (W := 0) (rmmk l Z a0 hw [] (((p1.toUInt32 >>> ((2 : Int32) &&& 31).toUInt32).toInt32) &&& (3 : Int32)) p3 gC h46 n0 Z0 SC PC O0 hkb) hZ (hw _ (List.mem_of_getElem? (i := 3) rfl)) (hw _ (List.mem_of_getElem? (i := 2) rfl)) (by decide) (by decide) (own_EW hw) CR.1) (g := (mkF m 21 #[.val (.int p1), .val (.int p2), .val (.int p3), .val (.int (p1 &&& (3 : Int32))), .val (.int (((p1.toUInt32 >>> ((2 : Int32) &&& 31).toUInt32).toInt32) &&& (3 : Int32))), .val (.ref r46_), .unset, .unset, .unset, .unset, .unset, .unset] [(.int p3), (.int (((p1.toUInt32 >>> ((2 : Int32) &&& 31).toUInt32).toInt32) &&& (3 : Int32)))])) rfl (by rw [hml]; rfl) (argsL := [(.int (((p1.toUInt32 >>> ((2 : Int32) &&& 31).toUInt32).toInt32) &&& (3 : Int32))), (.int p3)]) (rest := []) (lenOf pd_23 rfl) rfl (by show 2 * 0 + _ ≤ _; exact Nat.le_of_eq rfl) (hb hby at_21) (fun _ _ => ⟨rfl, e46, (by decide : 6 + 6 ≤ _), (by decide : 12 + 12 ≤ _)⟩)
      dsimp only [Pt.U, Pt.locs, Pt.cells, Pt.slots] at X48 l48 y48 z48 st48 hQ48 hS48 hg48 CR48
      subst l48 y48 z48
      replace X48 : Stand p l e _ (s.setVm T48.vm) m _ below meth c T48 _ _ _ := X48
      replace hS := foldS hS (T := T46) (Nat.le_trans hk (Nat.le_of_eq (congrArg Array.size e46.symm))) hS48 hg48
      replace hk := Nat.le_refl T48.heap.size
      replace hZ : Z.Warmed39 (s.setVm T48.vm).vm := State.Warmed39.trans (t := s.setVm T46.vm) hZ hS48.1
      replace hown : (s.setVm T48.vm).vm.findClass "com/example/vestry/vestry/plan/PlanSectionToStringPinLaw" = some m.cls := by rw [show (s.setVm T48.vm).vm = T48.vm from rfl, hS48.1.alike.findClass]; exact hown
      obtain ⟨r48_, tr48_, kt48, A48_, n48_, rfl, N48q, K48, Er48, Co48, Va48, Vt48, lA48, ln48⟩ := hQ48
      have N48 := Fr.app N46 N48q
      obtain ⟨h48, e48⟩ : ∃ z, T48.heap = z := ⟨_, rfl⟩
      rw [e48] at K48 Er48 Co48 Va48 Vt48 CR48
      replace CR := CR.trans CR48
      replace Z0 := Nat.le_trans Z0 K48.1
      replace O0 := O0.keep K48 all0
      replace Er46 := Er46.keep K48
      replace Co46 := Co46.keep K48 nin0
      replace Va46 := Va46.keep K48 nin0
      replace Vt46 := Vt46.keep K48 nin0
      replace hk : T48.heap.size ≤ h48.size := Nat.le_of_eq (congrArg Array.size e48)
      refine GoH.tr (T' := T48) (pc' := 24) (L' := #[.val (.int p1), .val (.int p2), .val (.int p3), .val (.int (p1 &&& (3 : Int32))), .val (.int (((p1.toUInt32 >>> ((2 : Int32) &&& 31).toUInt32).toInt32) &&& (3 : Int32))), .val (.ref r46_), .unset, .unset, .unset, .unset, .unset, .unset]) (S' := [(.ref r48_)]) st48 ?_
      refine GoH.st (T' := T48) (pc' := 26) (L' := #[.val (.int p1), .val (.int p2), .val (.int p3), .val (.int (p1 &&& (3 : Int32))), .val (.int (((p1.toUInt32 >>> ((2 : Int32) &&& 31).toUInt32).toInt32) &&& (3 : Int32))), .val (.ref r46_), .val (.ref r48_), .unset, .unset, .unset, .unset, .unset]) (S' := []) (fun t_ k_ => XS.astore X48.here hx rfl (hb hby at_24) rfl rfl (l' := #[.val (.int p1), .val (.int p2), .val (.int p3), .val (.int (p1 &&& (3 : Int32))), .val (.int (((p1.toUInt32 >>> ((2 : Int32) &&& 31).toUInt32).toInt32) &&& (3 : Int32))), .val (.ref r46_), .val (.ref r48_), .unset, .unset, .unset, .unset, .unset]) rfl k_) ?_
      obtain ⟨T50, h50, X50, e50, E50, A50, D50, U50, st50⟩ := newO X48 hx hZ hown (hw _ (List.mem_of_getElem? (i := 26) rfl)) (hw _ (List.mem_of_getElem? (i := 27) rfl)) (hw _ (List.mem_of_getElem? (i := 28) rfl)) e48 (g := (mkF m 26 #[.val (.int p1), .val (.int p2), .val (.int p3), .val (.int (p1 &&& (3 : Int32))), .val (.int (((p1.toUInt32 >>> ((2 : Int32) &&& 31).toUInt32).toInt32) &&& (3 : Int32))), .val (.ref r46_), .val (.ref r48_), .unset, .unset, .unset, .unset, .unset] [])) rfl (hb hby at_26) (by decide) (by decide)
      obtain ⟨b50, g50⟩ : ∃ z, z = h48.size := ⟨_, rfl⟩
      rw [← g50] at A50 D50 U50 st50
      have ne_r46__b50 : r46_ ≠ b50 := Nat.ne_of_lt (Nat.lt_of_lt_of_le Er46.lt (Nat.le_of_eq g50.symm))
      have ne_tr46__b50 : tr46_ ≠ b50 := Nat.ne_of_lt (Nat.lt_of_lt_of_le Vt46.lt (Nat.le_of_eq g50.symm))
      have ne_r48__b50 : r48_ ≠ b50 := Nat.ne_of_lt (Nat.lt_of_lt_of_le Er48.lt (Nat.le_of_eq g50.symm))
      have ne_tr48__b50 : tr48_ ≠ b50 := Nat.ne_of_lt (Nat.lt_of_lt_of_le Vt48.lt (Nat.le_of_eq g50.symm))
      have g_b50 : n0 ≤ b50 := Nat.le_trans Z0 (Nat.le_of_eq g50.symm)
      replace CR := CR.trans (CHr.ext E50 CR.1)
      replace hk := Nat.le_trans hk E50.1
      replace Z0 := Nat.le_trans Z0 E50.1
      replace O0 := O0.ext E50
      replace Er46 := Er46.ext E50
      replace Co46 := Co46.ext E50
      replace Va46 := Va46.ext E50
      replace Vt46 := Vt46.ext E50
      replace Er48 := Er48.ext E50
      replace Co48 := Co48.ext E50
      replace Va48 := Va48.ext E50
      replace Vt48 := Vt48.ext E50
      have E_b50 := A50
      have F_b50_planId : Fld Z h50 b50 "com/example/vestry/vestry/plan/PlanSection" "planId" "Ljava/lang/String;" .null := D50 (Or.inr (hw _ (List.mem_of_getElem? (i := 39) rfl))) (ty := (.object "java/lang/String")) (by decide)
      have F_b50_section : Fld Z h50 b50 "com/example/vestry/vestry/plan/PlanSection" "section" "Ljava/lang/String;" .null := D50 (Or.inr (hw _ (List.mem_of_getElem? (i := 41) rfl))) (ty := (.object "java/lang/String")) (by decide)
      refine GoH.st (T' := T50) (pc' := 29) (L' := #[.val (.int p1), .val (.int p2), .val (.int p3), .val (.int (p1 &&& (3 : Int32))), .val (.int (((p1.toUInt32 >>> ((2 : Int32) &&& 31).toUInt32).toInt32) &&& (3 : Int32))), .val (.ref r46_), .val (.ref r48_), .unset, .unset, .unset, .unset, .unset]) (S' := [(.ref b50)]) st50 ?_
      refine GoH.st (T' := T50) (pc' := 30) (L' := #[.val (.int p1), .val (.int p2), .val (.int p3), .val (.int (p1 &&& (3 : Int32))), .val (.int (((p1.toUInt32 >>> ((2 : Int32) &&& 31).toUInt32).toInt32) &&& (3 : Int32))), .val (.ref r46_), .val (.ref r48_), .unset, .unset, .unset, .unset, .unset]) (S' := [(.ref b50), (.ref b50)]) (fun t_ k_ => XS.dup X50.here hx rfl (hb hby at_29) rfl rfl k_) ?_
      refine GoH.st (T' := T50) (pc' := 32) (L' := #[.val (.int p1), .val (.int p2), .val (.int p3), .val (.int (p1 &&& (3 : Int32))), .val (.int (((p1.toUInt32 >>> ((2 : Int32) &&& 31).toUInt32).toInt32) &&& (3 : Int32))), .val (.ref r46_), .val (.ref r48_), .unset, .unset, .unset, .unset, .unset]) (S' := [(.ref r46_), (.ref b50), (.ref b50)]) (fun t_ k_ => XS.aload X50.here hx rfl (hb hby at_30) rfl rfl  k_) ?_
      refine GoH.st (T' := T50) (pc' := 34) (L' := #[.val (.int p1), .val (.int p2), .val (.int p3), .val (.int (p1 &&& (3 : Int32))), .val (.int (((p1.toUInt32 >>> ((2 : Int32) &&& 31).toUInt32).toInt32) &&& (3 : Int32))), .val (.ref r46_), .val (.ref r48_), .unset, .unset, .unset, .unset, .unset]) (S' := [(.ref r48_), (.ref r46_), (.ref b50), (.ref b50)]) (fun t_ k_ => XS.aload X50.here hx rfl (hb hby at_32) rfl rfl  k_) ?_
      obtain ⟨_, _, ⟨T51, L51, k51, n51⟩, -, X51, ⟨Lc51, hQ51, l51, y51, z51⟩, st51⟩ := X50.specialBack hx (y := (⟨"com/example/vestry/vestry/plan/PlanSection", "<init>", "(Ljava/lang/String;Ljava/lang/String;)V"⟩ : MethodName)) rfl hown (mvT hZ (hw _ (List.mem_of_getElem? (i := 29) rfl))) (mvT hZ (hw _ (List.mem_of_getElem? (i := 30) rfl))) (mvT hZ (hw _ (List.mem_of_getElem? (i := 31) rfl))) (by decide) (backOf (W := 1) (rmps11 l Z a0 hw [] b50 r46_ r48_ h50 n0 Z0 E_b50 g_b50 F_b50_planId F_b50_section) hZ (hw _ (List.mem_of_getElem? (i := 31) rfl)) (hw _ (List.mem_of_getElem? (i := 28) rfl)) (by decide) (by decide)) (g := (mkF m 34 #[.val (.int p1), .val (.int p2), .val (.int p3), .val (.int (p1 &&& (3 : Int32))), .val (.int (((p1.toUInt32 >>> ((2 : Int32) &&& 31).toUInt32).toInt32) &&& (3 : Int32))), .val (.ref r46_), .val (.ref r48_), .unset, .unset, .unset, .unset, .unset] [(.ref r48_), (.ref r46_), (.ref b50), (.ref b50)])) rfl (by rw [hml]; rfl) (Steps.refl _) (a := b50) (argsL := [(.ref r46_), (.ref r48_)]) (rest := [(.ref b50)]) (lenOf pd_24 rfl) rfl (by show 2 * 0 + _ ≤ _; exact Nat.le_of_eq rfl) (hb hby at_34) (fun _ _ => ⟨rfl, e50, (by decide : 13 + 0 ≤ _), (by decide : 26 + 0 ≤ _)⟩)
      dsimp only [Pt.U, Pt.locs, Pt.cells, Pt.slots] at X51 l51 y51 z51 st51 hQ51
      subst l51 y51 z51
      obtain ⟨rfl, N51q, K51, G51_planId, G51_section⟩ := hQ51
      have N51 := Fr.app N48 N51q
      obtain ⟨h51, e51⟩ : ∃ z, T51.heap = z := ⟨_, rfl⟩
      rw [e51] at K51 G51_planId G51_section
      have Sk52 : ∀ x ∈ [b50], Safe Z EL T48.vm h50 x := (allS (Safe.exa hZ.alike E_b50 (by decide) (by decide)) all0)
      replace CR := CR.trans (CHr.keep K51 Sk52 CR.1)
      replace hk := Nat.le_trans hk K51.1
      replace Z0 := Nat.le_trans Z0 K51.1
      replace O0 := O0.keep K51 (allS g_b50 all0)
      replace Er46 := Er46.keep K51
      replace Co46 := Co46.keep K51 (ninS ne_r46__b50 nin0)
      replace Va46 := Va46.keep K51 (ninS ne_r46__b50 nin0)
      replace Vt46 := Vt46.keep K51 (ninS ne_tr46__b50 nin0)
      replace Er48 := Er48.keep K51
      replace Co48 := Co48.keep K51 (ninS ne_r48__b50 nin0)
      replace Va48 := Va48.keep K51 (ninS ne_r48__b50 nin0)
      replace Vt48 := Vt48.keep K51 (ninS ne_tr48__b50 nin0)
      replace E_b50 := E_b50.keep K51
      refine GoH.tr (T' := T51) (pc' := 37) (L' := #[.val (.int p1), .val (.int p2), .val (.int p3), .val (.int (p1 &&& (3 : Int32))), .val (.int (((p1.toUInt32 >>> ((2 : Int32) &&& 31).toUInt32).toInt32) &&& (3 : Int32))), .val (.ref r46_), .val (.ref r48_), .unset, .unset, .unset, .unset, .unset]) (S' := [(.ref b50)]) st51 ?_
      obtain ⟨cq53, kq53, q53a, q53b, q53c⟩ := isOf hZ e51 E_b50
      obtain ⟨_, _, ⟨T53, L53, k53, n53⟩, -, X53, hS53, hg53, ⟨Lc53, hQ53, l53, y53, z53, CR53⟩, st53⟩ := X51.virtualBackS hx (y := (⟨"com/example/vestry/vestry/plan/PlanSection", "toString", "()Ljava/lang/String;"⟩ : MethodName)) (z := (⟨"com/example/vestry/vestry/plan/PlanSection", "toString", "()Ljava/lang/String;"⟩ : MethodName)) hown (mvT hZ (hw _ (List.mem_of_getElem? (i := 42) rfl))) (mvT hZ (hw _ (List.mem_of_getElem? (i := 43) rfl))) (notFace_of_selects (args := #[]) (mvT hZ (hw _ (List.mem_of_getElem? (i := 45) rfl)))) (mvT hZ (hw _ (List.mem_of_getElem? (i := 45) rfl))) (mvT hZ (hw _ (List.mem_of_getElem? (i := 44) rfl))) (by decide) (backOfSH (W := 0) (rmts11 l Z a0 hw [] b50 r46_ tr46_ _ (A46_) (n46_) r48_ tr48_ _ (A48_) (n48_) gC h51 n0 Z0 SC PC O0 G51_planId G51_section Er46 Co46 Va46 Vt46 lA46 (by omega) Er48 Co48 Va48 Vt48 lA48 (by omega)) hZ (hw _ (List.mem_of_getElem? (i := 46) rfl)) (hw _ (List.mem_of_getElem? (i := 28) rfl)) (by decide) (by decide) (own_EW hw) CR.1) q53a q53c (g := (mkF m 37 #[.val (.int p1), .val (.int p2), .val (.int p3), .val (.int (p1 &&& (3 : Int32))), .val (.int (((p1.toUInt32 >>> ((2 : Int32) &&& 31).toUInt32).toInt32) &&& (3 : Int32))), .val (.ref r46_), .val (.ref r48_), .unset, .unset, .unset, .unset, .unset] [(.ref b50)])) rfl (by rw [hml]; rfl) (Steps.refl _) (argsL := []) (rest := []) (lenOf pd_20 rfl) rfl (by show 2 * 0 + _ ≤ _; exact Nat.le_of_eq rfl) (hb hby at_37) (fun _ _ => ⟨rfl, e51, (by decide : 13 + 6 ≤ _), (by decide : 26 + 48 ≤ _)⟩)
      dsimp only [Pt.U, Pt.locs, Pt.cells, Pt.slots] at X53 l53 y53 z53 st53 hQ53 hS53 hg53 CR53
      subst l53 y53 z53
      replace X53 : Stand p l e _ (s.setVm T53.vm) m _ below meth c T53 _ _ _ := X53
      replace hS := foldS hS (T := T51) (Nat.le_trans hk (Nat.le_of_eq (congrArg Array.size e51.symm))) hS53 hg53
      replace hk := Nat.le_refl T53.heap.size
      replace hZ : Z.Warmed39 (s.setVm T53.vm).vm := State.Warmed39.trans (t := s.setVm T48.vm) hZ hS53.1
      replace hown : (s.setVm T53.vm).vm.findClass "com/example/vestry/vestry/plan/PlanSectionToStringPinLaw" = some m.cls := by rw [show (s.setVm T53.vm).vm = T53.vm from rfl, hS53.1.alike.findClass]; exact hown
      obtain ⟨r53_, tr53_, kt53, rfl, N53q, K53, g_r53_, lt53, Er53, Co53, Va53, Vt53⟩ := hQ53
      have N53 := Fr.app N51 N53q
      have ne_r46__r53_ : r46_ ≠ r53_ := Nat.ne_of_lt (Nat.lt_of_lt_of_le Er46.lt lt53)
      have ne_tr46__r53_ : tr46_ ≠ r53_ := Nat.ne_of_lt (Nat.lt_of_lt_of_le Vt46.lt lt53)
      have ne_r48__r53_ : r48_ ≠ r53_ := Nat.ne_of_lt (Nat.lt_of_lt_of_le Er48.lt lt53)
      have ne_tr48__r53_ : tr48_ ≠ r53_ := Nat.ne_of_lt (Nat.lt_of_lt_of_le Vt48.lt lt53)
      have ne_b50_r53_ : b50 ≠ r53_ := Nat.ne_of_lt (Nat.lt_of_lt_of_le E_b50.lt lt53)
      obtain ⟨h53, e53⟩ : ∃ z, T53.heap = z := ⟨_, rfl⟩
      rw [e53] at K53 Er53 Co53 Va53 Vt53 CR53
      replace CR := CR.trans CR53
      replace Z0 := Nat.le_trans Z0 K53.1
      replace O0 := O0.keep K53 all0
      replace Er46 := Er46.keep K53
      replace Co46 := Co46.keep K53 nin0
      replace Va46 := Va46.keep K53 nin0
      replace Vt46 := Vt46.keep K53 nin0
      replace Er48 := Er48.keep K53
      replace Co48 := Co48.keep K53 nin0
      replace Va48 := Va48.keep K53 nin0
      replace Vt48 := Vt48.keep K53 nin0
      replace E_b50 := E_b50.keep K53
      replace G51_planId := G51_planId.keep K53 nin0
      replace G51_section := G51_section.keep K53 nin0
      replace hk : T53.heap.size ≤ h53.size := Nat.le_of_eq (congrArg Array.size e53)
      refine GoH.tr (T' := T53) (pc' := 40) (L' := #[.val (.int p1), .val (.int p2), .val (.int p3), .val (.int (p1 &&& (3 : Int32))), .val (.int (((p1.toUInt32 >>> ((2 : Int32) &&& 31).toUInt32).toInt32) &&& (3 : Int32))), .val (.ref r46_), .val (.ref r48_), .unset, .unset, .unset, .unset, .unset]) (S' := [(.ref r53_)]) st53 ?_
      refine GoH.st (T' := T53) (pc' := 42) (L' := #[.val (.int p1), .val (.int p2), .val (.int p3), .val (.int (p1 &&& (3 : Int32))), .val (.int (((p1.toUInt32 >>> ((2 : Int32) &&& 31).toUInt32).toInt32) &&& (3 : Int32))), .val (.ref r46_), .val (.ref r48_), .val (.ref r53_), .unset, .unset, .unset, .unset]) (S' := []) (fun t_ k_ => XS.astore X53.here hx rfl (hb hby at_40) rfl rfl (l' := #[.val (.int p1), .val (.int p2), .val (.int p3), .val (.int (p1 &&& (3 : Int32))), .val (.int (((p1.toUInt32 >>> ((2 : Int32) &&& 31).toUInt32).toInt32) &&& (3 : Int32))), .val (.ref r46_), .val (.ref r48_), .val (.ref r53_), .unset, .unset, .unset, .unset]) rfl k_) ?_
      refine GoH.st (T' := T53) (pc' := 44) (L' := #[.val (.int p1), .val (.int p2), .val (.int p3), .val (.int (p1 &&& (3 : Int32))), .val (.int (((p1.toUInt32 >>> ((2 : Int32) &&& 31).toUInt32).toInt32) &&& (3 : Int32))), .val (.ref r46_), .val (.ref r48_), .val (.ref r53_), .unset, .unset, .unset, .unset]) (S' := [(.ref r53_)]) (fun t_ k_ => XS.aload X53.here hx rfl (hb hby at_42) rfl rfl  k_) ?_
      refine GoH.st (T' := T53) (pc' := 49) (L' := #[.val (.int p1), .val (.int p2), .val (.int p3), .val (.int (p1 &&& (3 : Int32))), .val (.int (((p1.toUInt32 >>> ((2 : Int32) &&& 31).toUInt32).toInt32) &&& (3 : Int32))), .val (.ref r46_), .val (.ref r48_), .val (.ref r53_), .unset, .unset, .unset, .unset]) (S' := []) (fun t_ k_ => XS.ifnonnullYes X53.here hx rfl (pc0 := 44) (pc' := 49) rfl (hb hby at_44) rfl (by decide) (by decide) k_) ?_
      refine GoH.st (T' := T53) (pc' := 51) (L' := #[.val (.int p1), .val (.int p2), .val (.int p3), .val (.int (p1 &&& (3 : Int32))), .val (.int (((p1.toUInt32 >>> ((2 : Int32) &&& 31).toUInt32).toInt32) &&& (3 : Int32))), .val (.ref r46_), .val (.ref r48_), .val (.ref r53_), .unset, .unset, .unset, .unset]) (S' := [(.ref r46_)]) (fun t_ k_ => XS.aload X53.here hx rfl (hb hby at_49) rfl rfl  k_) ?_
      refine GoH.st (T' := T53) (pc' := 59) (L' := #[.val (.int p1), .val (.int p2), .val (.int p3), .val (.int (p1 &&& (3 : Int32))), .val (.int (((p1.toUInt32 >>> ((2 : Int32) &&& 31).toUInt32).toInt32) &&& (3 : Int32))), .val (.ref r46_), .val (.ref r48_), .val (.ref r53_), .unset, .unset, .unset, .unset]) (S' := []) (fun t_ k_ => XS.ifnonnullYes X53.here hx rfl (pc0 := 51) (pc' := 59) rfl (hb hby at_51) rfl (by decide) (by decide) k_) ?_
      refine GoH.st (T' := T53) (pc' := 61) (L' := #[.val (.int p1), .val (.int p2), .val (.int p3), .val (.int (p1 &&& (3 : Int32))), .val (.int (((p1.toUInt32 >>> ((2 : Int32) &&& 31).toUInt32).toInt32) &&& (3 : Int32))), .val (.ref r46_), .val (.ref r48_), .val (.ref r53_), .unset, .unset, .unset, .unset]) (S' := [(.ref r46_)]) (fun t_ k_ => XS.aload X53.here hx rfl (hb hby at_59) rfl rfl  k_) ?_
      refine GoH.st (T' := T53) (pc' := 63) (L' := #[.val (.int p1), .val (.int p2), .val (.int p3), .val (.int (p1 &&& (3 : Int32))), .val (.int (((p1.toUInt32 >>> ((2 : Int32) &&& 31).toUInt32).toInt32) &&& (3 : Int32))), .val (.ref r46_), .val (.ref r48_), .val (.ref r53_), .val (.ref r46_), .unset, .unset, .unset]) (S' := []) (fun t_ k_ => XS.astore X53.here hx rfl (hb hby at_61) rfl rfl (l' := #[.val (.int p1), .val (.int p2), .val (.int p3), .val (.int (p1 &&& (3 : Int32))), .val (.int (((p1.toUInt32 >>> ((2 : Int32) &&& 31).toUInt32).toInt32) &&& (3 : Int32))), .val (.ref r46_), .val (.ref r48_), .val (.ref r53_), .val (.ref r46_), .unset, .unset, .unset]) rfl k_) ?_
      refine GoH.st (T' := T53) (pc' := 65) (L' := #[.val (.int p1), .val (.int p2), .val (.int p3), .val (.int (p1 &&& (3 : Int32))), .val (.int (((p1.toUInt32 >>> ((2 : Int32) &&& 31).toUInt32).toInt32) &&& (3 : Int32))), .val (.ref r46_), .val (.ref r48_), .val (.ref r53_), .val (.ref r46_), .unset, .unset, .unset]) (S' := [(.ref r48_)]) (fun t_ k_ => XS.aload X53.here hx rfl (hb hby at_63) rfl rfl  k_) ?_
      refine GoH.st (T' := T53) (pc' := 73) (L' := #[.val (.int p1), .val (.int p2), .val (.int p3), .val (.int (p1 &&& (3 : Int32))), .val (.int (((p1.toUInt32 >>> ((2 : Int32) &&& 31).toUInt32).toInt32) &&& (3 : Int32))), .val (.ref r46_), .val (.ref r48_), .val (.ref r53_), .val (.ref r46_), .unset, .unset, .unset]) (S' := []) (fun t_ k_ => XS.ifnonnullYes X53.here hx rfl (pc0 := 65) (pc' := 73) rfl (hb hby at_65) rfl (by decide) (by decide) k_) ?_
      refine GoH.st (T' := T53) (pc' := 75) (L' := #[.val (.int p1), .val (.int p2), .val (.int p3), .val (.int (p1 &&& (3 : Int32))), .val (.int (((p1.toUInt32 >>> ((2 : Int32) &&& 31).toUInt32).toInt32) &&& (3 : Int32))), .val (.ref r46_), .val (.ref r48_), .val (.ref r53_), .val (.ref r46_), .unset, .unset, .unset]) (S' := [(.ref r48_)]) (fun t_ k_ => XS.aload X53.here hx rfl (hb hby at_73) rfl rfl  k_) ?_
      refine GoH.st (T' := T53) (pc' := 77) (L' := #[.val (.int p1), .val (.int p2), .val (.int p3), .val (.int (p1 &&& (3 : Int32))), .val (.int (((p1.toUInt32 >>> ((2 : Int32) &&& 31).toUInt32).toInt32) &&& (3 : Int32))), .val (.ref r46_), .val (.ref r48_), .val (.ref r53_), .val (.ref r46_), .val (.ref r48_), .unset, .unset]) (S' := []) (fun t_ k_ => XS.astore X53.here hx rfl (hb hby at_75) rfl rfl (l' := #[.val (.int p1), .val (.int p2), .val (.int p3), .val (.int (p1 &&& (3 : Int32))), .val (.int (((p1.toUInt32 >>> ((2 : Int32) &&& 31).toUInt32).toInt32) &&& (3 : Int32))), .val (.ref r46_), .val (.ref r48_), .val (.ref r53_), .val (.ref r46_), .val (.ref r48_), .unset, .unset]) rfl k_) ?_
      refine GoH.st (T' := T53) (pc' := 79) (L' := #[.val (.int p1), .val (.int p2), .val (.int p3), .val (.int (p1 &&& (3 : Int32))), .val (.int (((p1.toUInt32 >>> ((2 : Int32) &&& 31).toUInt32).toInt32) &&& (3 : Int32))), .val (.ref r46_), .val (.ref r48_), .val (.ref r53_), .val (.ref r46_), .val (.ref r48_), .unset, .unset]) (S' := [(.ref r46_)]) (fun t_ k_ => XS.aload X53.here hx rfl (hb hby at_77) rfl rfl  k_) ?_
      obtain ⟨cq55, kq55, q55a, q55b, q55c⟩ := isOf hZ e53 Er46
      obtain ⟨_, _, ⟨T55, L55, k55, n55⟩, -, X55, ⟨Lc55, hQ55, l55, y55, z55⟩, st55⟩ := X53.virtualBack hx (y := (⟨"java/lang/String", "length", "()I"⟩ : MethodName)) (z := (⟨"java/lang/String", "length", "()I"⟩ : MethodName)) hown (mvT hZ (hw _ (List.mem_of_getElem? (i := 159) rfl))) (mvT hZ (hw _ (List.mem_of_getElem? (i := 76) rfl))) (notFace_of_selects (args := #[]) (mvT hZ (hw _ (List.mem_of_getElem? (i := 78) rfl)))) (mvT hZ (hw _ (List.mem_of_getElem? (i := 78) rfl))) (mvT hZ (hw _ (List.mem_of_getElem? (i := 77) rfl))) (by decide) (backOf (W := 0) (rm12 l Z a0 hw [] r46_ tr46_ _ gC (n46_.toInt32) (A46_) h53 n0 Z0 SC PC O0 Er46 Co46 Va46 Vt46) hZ (hw _ (List.mem_of_getElem? (i := 79) rfl)) (hw _ (List.mem_of_getElem? (i := 6) rfl)) (by decide) (by decide)) q55a q55c (g := (mkF m 79 #[.val (.int p1), .val (.int p2), .val (.int p3), .val (.int (p1 &&& (3 : Int32))), .val (.int (((p1.toUInt32 >>> ((2 : Int32) &&& 31).toUInt32).toInt32) &&& (3 : Int32))), .val (.ref r46_), .val (.ref r48_), .val (.ref r53_), .val (.ref r46_), .val (.ref r48_), .unset, .unset] [(.ref r46_)])) rfl (by rw [hml]; rfl) (Steps.refl _) (argsL := []) (rest := []) (lenOf pd_4 rfl) rfl (by show 2 * 0 + _ ≤ _; exact Nat.le_of_eq rfl) (hb hby at_79) (fun _ _ => ⟨rfl, e53, (by decide : 19 + 0 ≤ _), (by decide : 74 + 0 ≤ _)⟩)
      dsimp only [Pt.U, Pt.locs, Pt.cells, Pt.slots] at X55 l55 y55 z55 st55 hQ55
      subst l55 y55 z55
      obtain ⟨rfl, N55q, e55⟩ := hQ55
      have N55 := Fr.app N53 N55q
      refine GoH.tr (T' := T55) (pc' := 82) (L' := #[.val (.int p1), .val (.int p2), .val (.int p3), .val (.int (p1 &&& (3 : Int32))), .val (.int (((p1.toUInt32 >>> ((2 : Int32) &&& 31).toUInt32).toInt32) &&& (3 : Int32))), .val (.ref r46_), .val (.ref r48_), .val (.ref r53_), .val (.ref r46_), .val (.ref r48_), .unset, .unset]) (S' := [(.int (n46_.toInt32))]) st55 ?_
      refine GoH.st (T' := T55) (pc' := 84) (L' := #[.val (.int p1), .val (.int p2), .val (.int p3), .val (.int (p1 &&& (3 : Int32))), .val (.int (((p1.toUInt32 >>> ((2 : Int32) &&& 31).toUInt32).toInt32) &&& (3 : Int32))), .val (.ref r46_), .val (.ref r48_), .val (.ref r53_), .val (.ref r46_), .val (.ref r48_), .val (.int (n46_.toInt32)), .unset]) (S' := []) (fun t_ k_ => XS.istore X55.here hx rfl (hb hby at_82) rfl (l' := #[.val (.int p1), .val (.int p2), .val (.int p3), .val (.int (p1 &&& (3 : Int32))), .val (.int (((p1.toUInt32 >>> ((2 : Int32) &&& 31).toUInt32).toInt32) &&& (3 : Int32))), .val (.ref r46_), .val (.ref r48_), .val (.ref r53_), .val (.ref r46_), .val (.ref r48_), .val (.int (n46_.toInt32)), .unset]) rfl k_) ?_
      refine GoH.st (T' := T55) (pc' := 86) (L' := #[.val (.int p1), .val (.int p2), .val (.int p3), .val (.int (p1 &&& (3 : Int32))), .val (.int (((p1.toUInt32 >>> ((2 : Int32) &&& 31).toUInt32).toInt32) &&& (3 : Int32))), .val (.ref r46_), .val (.ref r48_), .val (.ref r53_), .val (.ref r46_), .val (.ref r48_), .val (.int (n46_.toInt32)), .unset]) (S' := [(.ref r48_)]) (fun t_ k_ => XS.aload X55.here hx rfl (hb hby at_84) rfl rfl  k_) ?_
      obtain ⟨cq56, kq56, q56a, q56b, q56c⟩ := isOf hZ e55 Er48
      obtain ⟨_, _, ⟨T56, L56, k56, n56⟩, -, X56, ⟨Lc56, hQ56, l56, y56, z56⟩, st56⟩ := X55.virtualBack hx (y := (⟨"java/lang/String", "length", "()I"⟩ : MethodName)) (z := (⟨"java/lang/String", "length", "()I"⟩ : MethodName)) hown (mvT hZ (hw _ (List.mem_of_getElem? (i := 159) rfl))) (mvT hZ (hw _ (List.mem_of_getElem? (i := 76) rfl))) (notFace_of_selects (args := #[]) (mvT hZ (hw _ (List.mem_of_getElem? (i := 78) rfl)))) (mvT hZ (hw _ (List.mem_of_getElem? (i := 78) rfl))) (mvT hZ (hw _ (List.mem_of_getElem? (i := 77) rfl))) (by decide) (backOf (W := 0) (rm12 l Z a0 hw [] r48_ tr48_ _ gC (n48_.toInt32) (A48_) h53 n0 Z0 SC PC O0 Er48 Co48 Va48 Vt48) hZ (hw _ (List.mem_of_getElem? (i := 79) rfl)) (hw _ (List.mem_of_getElem? (i := 6) rfl)) (by decide) (by decide)) q56a q56c (g := (mkF m 86 #[.val (.int p1), .val (.int p2), .val (.int p3), .val (.int (p1 &&& (3 : Int32))), .val (.int (((p1.toUInt32 >>> ((2 : Int32) &&& 31).toUInt32).toInt32) &&& (3 : Int32))), .val (.ref r46_), .val (.ref r48_), .val (.ref r53_), .val (.ref r46_), .val (.ref r48_), .val (.int (n46_.toInt32)), .unset] [(.ref r48_)])) rfl (by rw [hml]; rfl) (Steps.refl _) (argsL := []) (rest := []) (lenOf pd_4 rfl) rfl (by show 2 * 0 + _ ≤ _; exact Nat.le_of_eq rfl) (hb hby at_86) (fun _ _ => ⟨rfl, e55, (by decide : 19 + 0 ≤ _), (by decide : 74 + 0 ≤ _)⟩)
      dsimp only [Pt.U, Pt.locs, Pt.cells, Pt.slots] at X56 l56 y56 z56 st56 hQ56
      subst l56 y56 z56
      obtain ⟨rfl, N56q, e56⟩ := hQ56
      have N56 := Fr.app N55 N56q
      refine GoH.tr (T' := T56) (pc' := 89) (L' := #[.val (.int p1), .val (.int p2), .val (.int p3), .val (.int (p1 &&& (3 : Int32))), .val (.int (((p1.toUInt32 >>> ((2 : Int32) &&& 31).toUInt32).toInt32) &&& (3 : Int32))), .val (.ref r46_), .val (.ref r48_), .val (.ref r53_), .val (.ref r46_), .val (.ref r48_), .val (.int (n46_.toInt32)), .unset]) (S' := [(.int (n48_.toInt32))]) st56 ?_
      refine GoH.st (T' := T56) (pc' := 91) (L' := #[.val (.int p1), .val (.int p2), .val (.int p3), .val (.int (p1 &&& (3 : Int32))), .val (.int (((p1.toUInt32 >>> ((2 : Int32) &&& 31).toUInt32).toInt32) &&& (3 : Int32))), .val (.ref r46_), .val (.ref r48_), .val (.ref r53_), .val (.ref r46_), .val (.ref r48_), .val (.int (n46_.toInt32)), .val (.int (n48_.toInt32))]) (S' := []) (fun t_ k_ => XS.istore X56.here hx rfl (hb hby at_89) rfl (l' := #[.val (.int p1), .val (.int p2), .val (.int p3), .val (.int (p1 &&& (3 : Int32))), .val (.int (((p1.toUInt32 >>> ((2 : Int32) &&& 31).toUInt32).toInt32) &&& (3 : Int32))), .val (.ref r46_), .val (.ref r48_), .val (.ref r53_), .val (.ref r46_), .val (.ref r48_), .val (.int (n46_.toInt32)), .val (.int (n48_.toInt32))]) rfl k_) ?_
      refine GoH.st (T' := T56) (pc' := 93) (L' := #[.val (.int p1), .val (.int p2), .val (.int p3), .val (.int (p1 &&& (3 : Int32))), .val (.int (((p1.toUInt32 >>> ((2 : Int32) &&& 31).toUInt32).toInt32) &&& (3 : Int32))), .val (.ref r46_), .val (.ref r48_), .val (.ref r53_), .val (.ref r46_), .val (.ref r48_), .val (.int (n46_.toInt32)), .val (.int (n48_.toInt32))]) (S' := [(.ref r53_)]) (fun t_ k_ => XS.aload X56.here hx rfl (hb hby at_91) rfl rfl  k_) ?_
      obtain ⟨cq57, kq57, q57a, q57b, q57c⟩ := isOf hZ e56 Er53
      obtain ⟨_, _, ⟨T57, L57, k57, n57⟩, -, X57, ⟨Lc57, hQ57, l57, y57, z57⟩, st57⟩ := X56.virtualBack hx (y := (⟨"java/lang/String", "length", "()I"⟩ : MethodName)) (z := (⟨"java/lang/String", "length", "()I"⟩ : MethodName)) hown (mvT hZ (hw _ (List.mem_of_getElem? (i := 159) rfl))) (mvT hZ (hw _ (List.mem_of_getElem? (i := 76) rfl))) (notFace_of_selects (args := #[]) (mvT hZ (hw _ (List.mem_of_getElem? (i := 78) rfl)))) (mvT hZ (hw _ (List.mem_of_getElem? (i := 78) rfl))) (mvT hZ (hw _ (List.mem_of_getElem? (i := 77) rfl))) (by decide) (backOf (W := 0) (rm12 l Z a0 hw [] r53_ tr53_ _ gC ((0 + (n46_) + 1 + (n48_) : Nat).toInt32) ((([] ++ (A46_) ++ ([32] : List Int32)) ++ (A48_))) h53 n0 Z0 SC PC O0 Er53 Co53 Va53 Vt53) hZ (hw _ (List.mem_of_getElem? (i := 79) rfl)) (hw _ (List.mem_of_getElem? (i := 6) rfl)) (by decide) (by decide)) q57a q57c (g := (mkF m 93 #[.val (.int p1), .val (.int p2), .val (.int p3), .val (.int (p1 &&& (3 : Int32))), .val (.int (((p1.toUInt32 >>> ((2 : Int32) &&& 31).toUInt32).toInt32) &&& (3 : Int32))), .val (.ref r46_), .val (.ref r48_), .val (.ref r53_), .val (.ref r46_), .val (.ref r48_), .val (.int (n46_.toInt32)), .val (.int (n48_.toInt32))] [(.ref r53_)])) rfl (by rw [hml]; rfl) (Steps.refl _) (argsL := []) (rest := []) (lenOf pd_4 rfl) rfl (by show 2 * 0 + _ ≤ _; exact Nat.le_of_eq rfl) (hb hby at_93) (fun _ _ => ⟨rfl, e56, (by decide : 19 + 0 ≤ _), (by decide : 74 + 0 ≤ _)⟩)
      dsimp only [Pt.U, Pt.locs, Pt.cells, Pt.slots] at X57 l57 y57 z57 st57 hQ57
      subst l57 y57 z57
      obtain ⟨rfl, N57q, e57⟩ := hQ57
      have N57 := Fr.app N56 N57q
      refine GoH.tr (T' := T57) (pc' := 96) (L' := #[.val (.int p1), .val (.int p2), .val (.int p3), .val (.int (p1 &&& (3 : Int32))), .val (.int (((p1.toUInt32 >>> ((2 : Int32) &&& 31).toUInt32).toInt32) &&& (3 : Int32))), .val (.ref r46_), .val (.ref r48_), .val (.ref r53_), .val (.ref r46_), .val (.ref r48_), .val (.int (n46_.toInt32)), .val (.int (n48_.toInt32))]) (S' := [(.int ((0 + (n46_) + 1 + (n48_) : Nat).toInt32))]) st57 ?_
      refine GoH.st (T' := T57) (pc' := 98) (L' := #[.val (.int p1), .val (.int p2), .val (.int p3), .val (.int (p1 &&& (3 : Int32))), .val (.int (((p1.toUInt32 >>> ((2 : Int32) &&& 31).toUInt32).toInt32) &&& (3 : Int32))), .val (.ref r46_), .val (.ref r48_), .val (.ref r53_), .val (.ref r46_), .val (.ref r48_), .val (.int (n46_.toInt32)), .val (.int (n48_.toInt32))]) (S' := [(.int (n46_.toInt32)), (.int ((0 + (n46_) + 1 + (n48_) : Nat).toInt32))]) (fun t_ k_ => XS.iload X57.here hx rfl (hb hby at_96) rfl  k_) ?_
      refine GoH.st (T' := T57) (pc' := 99) (L' := #[.val (.int p1), .val (.int p2), .val (.int p3), .val (.int (p1 &&& (3 : Int32))), .val (.int (((p1.toUInt32 >>> ((2 : Int32) &&& 31).toUInt32).toInt32) &&& (3 : Int32))), .val (.ref r46_), .val (.ref r48_), .val (.ref r53_), .val (.ref r46_), .val (.ref r48_), .val (.int (n46_.toInt32)), .val (.int (n48_.toInt32))]) (S' := [(.int (1 : Int32)), (.int (n46_.toInt32)), (.int ((0 + (n46_) + 1 + (n48_) : Nat).toInt32))]) (fun t_ k_ => XS.iconst X57.here hx rfl (hb hby at_98) k_) ?_
      refine GoH.st (T' := T57) (pc' := 100) (L' := #[.val (.int p1), .val (.int p2), .val (.int p3), .val (.int (p1 &&& (3 : Int32))), .val (.int (((p1.toUInt32 >>> ((2 : Int32) &&& 31).toUInt32).toInt32) &&& (3 : Int32))), .val (.ref r46_), .val (.ref r48_), .val (.ref r53_), .val (.ref r46_), .val (.ref r48_), .val (.int (n46_.toInt32)), .val (.int (n48_.toInt32))]) (S' := [(.int ((n46_.toInt32) + (1 : Int32))), (.int ((0 + (n46_) + 1 + (n48_) : Nat).toInt32))]) (fun t_ k_ => XS.iadd X57.here hx rfl (hb hby at_99) rfl k_) ?_
      refine GoH.st (T' := T57) (pc' := 102) (L' := #[.val (.int p1), .val (.int p2), .val (.int p3), .val (.int (p1 &&& (3 : Int32))), .val (.int (((p1.toUInt32 >>> ((2 : Int32) &&& 31).toUInt32).toInt32) &&& (3 : Int32))), .val (.ref r46_), .val (.ref r48_), .val (.ref r53_), .val (.ref r46_), .val (.ref r48_), .val (.int (n46_.toInt32)), .val (.int (n48_.toInt32))]) (S' := [(.int (n48_.toInt32)), (.int ((n46_.toInt32) + (1 : Int32))), (.int ((0 + (n46_) + 1 + (n48_) : Nat).toInt32))]) (fun t_ k_ => XS.iload X57.here hx rfl (hb hby at_100) rfl  k_) ?_
      refine GoH.st (T' := T57) (pc' := 103) (L' := #[.val (.int p1), .val (.int p2), .val (.int p3), .val (.int (p1 &&& (3 : Int32))), .val (.int (((p1.toUInt32 >>> ((2 : Int32) &&& 31).toUInt32).toInt32) &&& (3 : Int32))), .val (.ref r46_), .val (.ref r48_), .val (.ref r53_), .val (.ref r46_), .val (.ref r48_), .val (.int (n46_.toInt32)), .val (.int (n48_.toInt32))]) (S' := [(.int (((n46_.toInt32) + (1 : Int32)) + (n48_.toInt32))), (.int ((0 + (n46_) + 1 + (n48_) : Nat).toInt32))]) (fun t_ k_ => XS.iadd X57.here hx rfl (hb hby at_102) rfl k_) ?_
      refine GoH.st (T' := T57) (pc' := 108) (L' := #[.val (.int p1), .val (.int p2), .val (.int p3), .val (.int (p1 &&& (3 : Int32))), .val (.int (((p1.toUInt32 >>> ((2 : Int32) &&& 31).toUInt32).toInt32) &&& (3 : Int32))), .val (.ref r46_), .val (.ref r48_), .val (.ref r53_), .val (.ref r46_), .val (.ref r48_), .val (.int (n46_.toInt32)), .val (.int (n48_.toInt32))]) (S' := []) (fun t_ k_ => XS.icmpYes X57.here hx rfl (pc0 := 103) (pc' := 108) rfl (hb hby at_103) rfl (teq (own_len3 (a := (n46_)) (b := (n48_)) (by omega) : (((0 + (n46_) + 1 + (n48_) : Nat).toInt32) = (((n46_.toInt32) + (1 : Int32)) + (n48_.toInt32))))).1 (by decide) (by decide) k_) ?_
      refine GoH.st (T' := T57) (pc' := 110) (L' := #[.val (.int p1), .val (.int p2), .val (.int p3), .val (.int (p1 &&& (3 : Int32))), .val (.int (((p1.toUInt32 >>> ((2 : Int32) &&& 31).toUInt32).toInt32) &&& (3 : Int32))), .val (.ref r46_), .val (.ref r48_), .val (.ref r53_), .val (.ref r46_), .val (.ref r48_), .val (.int (n46_.toInt32)), .val (.int (n48_.toInt32))]) (S' := [(.ref r53_)]) (fun t_ k_ => XS.aload X57.here hx rfl (hb hby at_108) rfl rfl  k_) ?_
      refine GoH.st (T' := T57) (pc' := 112) (L' := #[.val (.int p1), .val (.int p2), .val (.int p3), .val (.int (p1 &&& (3 : Int32))), .val (.int (((p1.toUInt32 >>> ((2 : Int32) &&& 31).toUInt32).toInt32) &&& (3 : Int32))), .val (.ref r46_), .val (.ref r48_), .val (.ref r53_), .val (.ref r46_), .val (.ref r48_), .val (.int (n46_.toInt32)), .val (.int (n48_.toInt32))]) (S' := [(.ref r46_), (.ref r53_)]) (fun t_ k_ => XS.aload X57.here hx rfl (hb hby at_110) rfl rfl  k_) ?_
      refine GoH.st (T' := T57) (pc' := 113) (L' := #[.val (.int p1), .val (.int p2), .val (.int p3), .val (.int (p1 &&& (3 : Int32))), .val (.int (((p1.toUInt32 >>> ((2 : Int32) &&& 31).toUInt32).toInt32) &&& (3 : Int32))), .val (.ref r46_), .val (.ref r48_), .val (.ref r53_), .val (.ref r46_), .val (.ref r48_), .val (.int (n46_.toInt32)), .val (.int (n48_.toInt32))]) (S' := [(.int (0 : Int32)), (.ref r46_), (.ref r53_)]) (fun t_ k_ => XS.iconst X57.here hx rfl (hb hby at_112) k_) ?_
      obtain ⟨_, _, ⟨T58, L58, k58, n58⟩, -, X58, ⟨Lc58, hQ58, l58, y58, z58⟩, st58⟩ := Jvm.LawKit.callS X57 hx (y := (⟨"com/example/vestry/vestry/plan/PlanSectionToStringPinLaw", "pre", "(Ljava/lang/String;Ljava/lang/String;I)Z"⟩ : MethodName)) hown (mvT hZ (hw _ (List.mem_of_getElem? (i := 160) rfl))) (mvT hZ (hw _ (List.mem_of_getElem? (i := 161) rfl))) (mvT hZ (hw _ (List.mem_of_getElem? (i := 2) rfl))) (mvT hZ (hw _ (List.mem_of_getElem? (i := 162) rfl))) (by decide) (backOf (W := 0) (rmpre l Z a0 hw [] r53_ tr53_ _ ((([] ++ (A46_) ++ ([32] : List Int32)) ++ (A48_))) ((0 + (n46_) + 1 + (n48_) : Nat)) r46_ tr46_ _ (A46_) (0) fm gC (n46_) h53 n0 Z0 SC PC O0 hfm SF Er53 Co53 Va53 Vt53 Er46 Co46 Va46 Vt46 (own_la (own_la (own_la rfl lA46) rfl) lA48) (by omega) lA46 (by omega) (fun j hj => own_pa (A := (A46_)) (B := (A48_)) (n := (n46_)) lA46 hj) (by omega)) hZ (hw _ (List.mem_of_getElem? (i := 162) rfl)) (hw _ (List.mem_of_getElem? (i := 2) rfl)) (by decide) (by decide)) (g := (mkF m 113 #[.val (.int p1), .val (.int p2), .val (.int p3), .val (.int (p1 &&& (3 : Int32))), .val (.int (((p1.toUInt32 >>> ((2 : Int32) &&& 31).toUInt32).toInt32) &&& (3 : Int32))), .val (.ref r46_), .val (.ref r48_), .val (.ref r53_), .val (.ref r46_), .val (.ref r48_), .val (.int (n46_.toInt32)), .val (.int (n48_.toInt32))] [(.int (0 : Int32)), (.ref r46_), (.ref r53_)])) rfl (by rw [hml]; rfl) (argsL := [(.ref r53_), (.ref r46_), (.int (0 : Int32))]) (rest := []) (lenOf pd_25 rfl) rfl (by show 2 * 0 + _ ≤ _; exact Nat.le_of_eq rfl) (hb hby at_113) (fun _ _ => ⟨rfl, e57, (by decide : 19 + 0 ≤ _), (by decide : 74 + 0 ≤ _)⟩)
      dsimp only [Pt.U, Pt.locs, Pt.cells, Pt.slots] at X58 l58 y58 z58 st58 hQ58
      subst l58 y58 z58
      obtain ⟨rfl, N58q, e58⟩ := hQ58
      have N58 := Fr.app N57 N58q
      refine GoH.st (T' := T58) (pc' := 116) (L' := #[.val (.int p1), .val (.int p2), .val (.int p3), .val (.int (p1 &&& (3 : Int32))), .val (.int (((p1.toUInt32 >>> ((2 : Int32) &&& 31).toUInt32).toInt32) &&& (3 : Int32))), .val (.ref r46_), .val (.ref r48_), .val (.ref r53_), .val (.ref r46_), .val (.ref r48_), .val (.int (n46_.toInt32)), .val (.int (n48_.toInt32))]) (S' := [(.int (1 : Int32))]) st58 ?_
      refine GoH.st (T' := T58) (pc' := 121) (L' := #[.val (.int p1), .val (.int p2), .val (.int p3), .val (.int (p1 &&& (3 : Int32))), .val (.int (((p1.toUInt32 >>> ((2 : Int32) &&& 31).toUInt32).toInt32) &&& (3 : Int32))), .val (.ref r46_), .val (.ref r48_), .val (.ref r53_), .val (.ref r46_), .val (.ref r48_), .val (.int (n46_.toInt32)), .val (.int (n48_.toInt32))]) (S' := []) (fun t_ k_ => XS.ifYes X58.here hx rfl (pc0 := 116) (pc' := 121) rfl (hb hby at_116) rfl ((if0 _ _).trans (feq (by decide : ¬ ((1 : Int32) = (0 : Int32)))).2) (by decide) (by decide) k_) ?_
      refine GoH.st (T' := T58) (pc' := 123) (L' := #[.val (.int p1), .val (.int p2), .val (.int p3), .val (.int (p1 &&& (3 : Int32))), .val (.int (((p1.toUInt32 >>> ((2 : Int32) &&& 31).toUInt32).toInt32) &&& (3 : Int32))), .val (.ref r46_), .val (.ref r48_), .val (.ref r53_), .val (.ref r46_), .val (.ref r48_), .val (.int (n46_.toInt32)), .val (.int (n48_.toInt32))]) (S' := [(.ref r53_)]) (fun t_ k_ => XS.aload X58.here hx rfl (hb hby at_121) rfl rfl  k_) ?_
      refine GoH.st (T' := T58) (pc' := 125) (L' := #[.val (.int p1), .val (.int p2), .val (.int p3), .val (.int (p1 &&& (3 : Int32))), .val (.int (((p1.toUInt32 >>> ((2 : Int32) &&& 31).toUInt32).toInt32) &&& (3 : Int32))), .val (.ref r46_), .val (.ref r48_), .val (.ref r53_), .val (.ref r46_), .val (.ref r48_), .val (.int (n46_.toInt32)), .val (.int (n48_.toInt32))]) (S' := [(.int (n46_.toInt32)), (.ref r53_)]) (fun t_ k_ => XS.iload X58.here hx rfl (hb hby at_123) rfl  k_) ?_
      obtain ⟨cq59, kq59, q59a, q59b, q59c⟩ := isOf hZ e58 Er53
      obtain ⟨_, _, ⟨T59, L59, k59, n59⟩, -, X59, ⟨Lc59, hQ59, l59, y59, z59⟩, st59⟩ := X58.virtualBack hx (y := (⟨"java/lang/String", "charAt", "(I)C"⟩ : MethodName)) (z := (⟨"java/lang/String", "charAt", "(I)C"⟩ : MethodName)) hown (mvT hZ (hw _ (List.mem_of_getElem? (i := 163) rfl))) (mvT hZ (hw _ (List.mem_of_getElem? (i := 164) rfl))) (notFace_of_selects (args := #[]) (mvT hZ (hw _ (List.mem_of_getElem? (i := 166) rfl)))) (mvT hZ (hw _ (List.mem_of_getElem? (i := 166) rfl))) (mvT hZ (hw _ (List.mem_of_getElem? (i := 165) rfl))) (by decide) (backOf (W := 0) (rm30 l Z a0 hw [] r53_ tr53_ _ ((([] ++ (A46_) ++ ([32] : List Int32)) ++ (A48_))) (n46_) ((0 + (n46_) + 1 + (n48_) : Nat)) fm gC h53 n0 Z0 SC PC O0 hfm SF Er53 Co53 Va53 Vt53 (by omega) (by omega)) hZ (hw _ (List.mem_of_getElem? (i := 167) rfl)) (hw _ (List.mem_of_getElem? (i := 6) rfl)) (by decide) (by decide)) q59a q59c (g := (mkF m 125 #[.val (.int p1), .val (.int p2), .val (.int p3), .val (.int (p1 &&& (3 : Int32))), .val (.int (((p1.toUInt32 >>> ((2 : Int32) &&& 31).toUInt32).toInt32) &&& (3 : Int32))), .val (.ref r46_), .val (.ref r48_), .val (.ref r53_), .val (.ref r46_), .val (.ref r48_), .val (.int (n46_.toInt32)), .val (.int (n48_.toInt32))] [(.int (n46_.toInt32)), (.ref r53_)])) rfl (by rw [hml]; rfl) (Steps.refl _) (argsL := [(.int (n46_.toInt32))]) (rest := []) (lenOf pd_21 rfl) rfl (by show 2 * 0 + _ ≤ _; exact Nat.le_of_eq rfl) (hb hby at_125) (fun _ _ => ⟨rfl, e58, (by decide : 19 + 0 ≤ _), (by decide : 74 + 0 ≤ _)⟩)
      dsimp only [Pt.U, Pt.locs, Pt.cells, Pt.slots] at X59 l59 y59 z59 st59 hQ59
      subst l59 y59 z59
      unfold Q30 at hQ59
      generalize hx59 : own_ch _ = xc59 at hQ59
      obtain ⟨rfl, N59q, e59⟩ := hQ59
      have N59 := Fr.app N58 N59q
      refine GoH.tr (T' := T59) (pc' := 128) (L' := #[.val (.int p1), .val (.int p2), .val (.int p3), .val (.int (p1 &&& (3 : Int32))), .val (.int (((p1.toUInt32 >>> ((2 : Int32) &&& 31).toUInt32).toInt32) &&& (3 : Int32))), .val (.ref r46_), .val (.ref r48_), .val (.ref r53_), .val (.ref r46_), .val (.ref r48_), .val (.int (n46_.toInt32)), .val (.int (n48_.toInt32))]) (S' := [(.int xc59)]) st59 ?_
      refine GoH.st (T' := T59) (pc' := 130) (L' := #[.val (.int p1), .val (.int p2), .val (.int p3), .val (.int (p1 &&& (3 : Int32))), .val (.int (((p1.toUInt32 >>> ((2 : Int32) &&& 31).toUInt32).toInt32) &&& (3 : Int32))), .val (.ref r46_), .val (.ref r48_), .val (.ref r53_), .val (.ref r46_), .val (.ref r48_), .val (.int (n46_.toInt32)), .val (.int (n48_.toInt32))]) (S' := [(.int (32 : Int32)), (.int xc59)]) (fun t_ k_ => XS.bipush X59.here hx rfl (hb hby at_128) k_) ?_
      refine GoH.st (T' := T59) (pc' := 135) (L' := #[.val (.int p1), .val (.int p2), .val (.int p3), .val (.int (p1 &&& (3 : Int32))), .val (.int (((p1.toUInt32 >>> ((2 : Int32) &&& 31).toUInt32).toInt32) &&& (3 : Int32))), .val (.ref r46_), .val (.ref r48_), .val (.ref r53_), .val (.ref r46_), .val (.ref r48_), .val (.int (n46_.toInt32)), .val (.int (n48_.toInt32))]) (S' := []) (fun t_ k_ => XS.icmpYes X59.here hx rfl (pc0 := 130) (pc' := 135) rfl (hb hby at_130) rfl (teq (hx59.symm.trans (own_mc (A := (A46_)) (B := (A48_)) (n := (n46_)) lA46) : (xc59 = (32 : Int32)))).1 (by decide) (by decide) k_) ?_
      refine GoH.st (T' := T59) (pc' := 137) (L' := #[.val (.int p1), .val (.int p2), .val (.int p3), .val (.int (p1 &&& (3 : Int32))), .val (.int (((p1.toUInt32 >>> ((2 : Int32) &&& 31).toUInt32).toInt32) &&& (3 : Int32))), .val (.ref r46_), .val (.ref r48_), .val (.ref r53_), .val (.ref r46_), .val (.ref r48_), .val (.int (n46_.toInt32)), .val (.int (n48_.toInt32))]) (S' := [(.ref r53_)]) (fun t_ k_ => XS.aload X59.here hx rfl (hb hby at_135) rfl rfl  k_) ?_
      refine GoH.st (T' := T59) (pc' := 139) (L' := #[.val (.int p1), .val (.int p2), .val (.int p3), .val (.int (p1 &&& (3 : Int32))), .val (.int (((p1.toUInt32 >>> ((2 : Int32) &&& 31).toUInt32).toInt32) &&& (3 : Int32))), .val (.ref r46_), .val (.ref r48_), .val (.ref r53_), .val (.ref r46_), .val (.ref r48_), .val (.int (n46_.toInt32)), .val (.int (n48_.toInt32))]) (S' := [(.ref r48_), (.ref r53_)]) (fun t_ k_ => XS.aload X59.here hx rfl (hb hby at_137) rfl rfl  k_) ?_
      refine GoH.st (T' := T59) (pc' := 141) (L' := #[.val (.int p1), .val (.int p2), .val (.int p3), .val (.int (p1 &&& (3 : Int32))), .val (.int (((p1.toUInt32 >>> ((2 : Int32) &&& 31).toUInt32).toInt32) &&& (3 : Int32))), .val (.ref r46_), .val (.ref r48_), .val (.ref r53_), .val (.ref r46_), .val (.ref r48_), .val (.int (n46_.toInt32)), .val (.int (n48_.toInt32))]) (S' := [(.int (n46_.toInt32)), (.ref r48_), (.ref r53_)]) (fun t_ k_ => XS.iload X59.here hx rfl (hb hby at_139) rfl  k_) ?_
      refine GoH.st (T' := T59) (pc' := 142) (L' := #[.val (.int p1), .val (.int p2), .val (.int p3), .val (.int (p1 &&& (3 : Int32))), .val (.int (((p1.toUInt32 >>> ((2 : Int32) &&& 31).toUInt32).toInt32) &&& (3 : Int32))), .val (.ref r46_), .val (.ref r48_), .val (.ref r53_), .val (.ref r46_), .val (.ref r48_), .val (.int (n46_.toInt32)), .val (.int (n48_.toInt32))]) (S' := [(.int (1 : Int32)), (.int (n46_.toInt32)), (.ref r48_), (.ref r53_)]) (fun t_ k_ => XS.iconst X59.here hx rfl (hb hby at_141) k_) ?_
      refine GoH.st (T' := T59) (pc' := 143) (L' := #[.val (.int p1), .val (.int p2), .val (.int p3), .val (.int (p1 &&& (3 : Int32))), .val (.int (((p1.toUInt32 >>> ((2 : Int32) &&& 31).toUInt32).toInt32) &&& (3 : Int32))), .val (.ref r46_), .val (.ref r48_), .val (.ref r53_), .val (.ref r46_), .val (.ref r48_), .val (.int (n46_.toInt32)), .val (.int (n48_.toInt32))]) (S' := [(.int ((n46_.toInt32) + (1 : Int32))), (.ref r48_), (.ref r53_)]) (fun t_ k_ => XS.iadd X59.here hx rfl (hb hby at_142) rfl k_) ?_
      rw [show (n46_.toInt32) + (1 : Int32) = (n46_ + 1).toInt32 from own_addN (m := n46_) (n := 1) (by omega)]
      obtain ⟨_, _, ⟨T60, L60, k60, n60⟩, -, X60, ⟨Lc60, hQ60, l60, y60, z60⟩, st60⟩ := Jvm.LawKit.callS X59 hx (y := (⟨"com/example/vestry/vestry/plan/PlanSectionToStringPinLaw", "pre", "(Ljava/lang/String;Ljava/lang/String;I)Z"⟩ : MethodName)) hown (mvT hZ (hw _ (List.mem_of_getElem? (i := 160) rfl))) (mvT hZ (hw _ (List.mem_of_getElem? (i := 161) rfl))) (mvT hZ (hw _ (List.mem_of_getElem? (i := 2) rfl))) (mvT hZ (hw _ (List.mem_of_getElem? (i := 162) rfl))) (by decide) (backOf (W := 0) (rmpre l Z a0 hw [] r53_ tr53_ _ ((([] ++ (A46_) ++ ([32] : List Int32)) ++ (A48_))) ((0 + (n46_) + 1 + (n48_) : Nat)) r48_ tr48_ _ (A48_) ((n46_ + 1)) fm gC (n48_) h53 n0 Z0 SC PC O0 hfm SF Er53 Co53 Va53 Vt53 Er48 Co48 Va48 Vt48 (own_la (own_la (own_la rfl lA46) rfl) lA48) (by omega) lA48 (by omega) (fun j hj => own_nd (A := (A46_)) (B := (A48_)) (n := (n46_)) lA46) (by omega)) hZ (hw _ (List.mem_of_getElem? (i := 162) rfl)) (hw _ (List.mem_of_getElem? (i := 2) rfl)) (by decide) (by decide)) (g := (mkF m 143 #[.val (.int p1), .val (.int p2), .val (.int p3), .val (.int (p1 &&& (3 : Int32))), .val (.int (((p1.toUInt32 >>> ((2 : Int32) &&& 31).toUInt32).toInt32) &&& (3 : Int32))), .val (.ref r46_), .val (.ref r48_), .val (.ref r53_), .val (.ref r46_), .val (.ref r48_), .val (.int (n46_.toInt32)), .val (.int (n48_.toInt32))] [(.int ((n46_ + 1).toInt32)), (.ref r48_), (.ref r53_)])) rfl (by rw [hml]; rfl) (argsL := [(.ref r53_), (.ref r48_), (.int ((n46_ + 1).toInt32))]) (rest := []) (lenOf pd_25 rfl) rfl (by show 2 * 0 + _ ≤ _; exact Nat.le_of_eq rfl) (hb hby at_143) (fun _ _ => ⟨rfl, e59, (by decide : 19 + 0 ≤ _), (by decide : 74 + 0 ≤ _)⟩)
      dsimp only [Pt.U, Pt.locs, Pt.cells, Pt.slots] at X60 l60 y60 z60 st60 hQ60
      subst l60 y60 z60
      obtain ⟨rfl, N60q, e60⟩ := hQ60
      have N60 := Fr.app N59 N60q
      refine GoH.st (T' := T60) (pc' := 146) (L' := #[.val (.int p1), .val (.int p2), .val (.int p3), .val (.int (p1 &&& (3 : Int32))), .val (.int (((p1.toUInt32 >>> ((2 : Int32) &&& 31).toUInt32).toInt32) &&& (3 : Int32))), .val (.ref r46_), .val (.ref r48_), .val (.ref r53_), .val (.ref r46_), .val (.ref r48_), .val (.int (n46_.toInt32)), .val (.int (n48_.toInt32))]) (S' := [(.int (1 : Int32))]) st60 ?_
      exact GoH.retN X60 hx hlk hret (by simp) (hb hby at_146) (by decide) (by decide) hS hk e60 hs0 hZ (own_EW hw) CR (by rw [e60]; exact ⟨rfl, N60⟩)
theorem own_sub : ∀ q ∈ EL, q ∈ consts_1 := by decide
set_option maxRecDepth 65536 in
set_option maxHeartbeats 40000000 in
theorem comes_1 {Post : Tables → Env → Array Value → State → Outcome → State → Prop} (hpost : ∀ tb e args s v u, (limb_1_1.after args s (.returned v) u = true ∧ limb_1_2.after args s (.returned v) u = true ∧ True) → Jvm.D.FramedW s (.returned v) u (Jvm.fieldLocs frame_1_writes args s ++ Jvm.arrayLocs frame_1_arrays args s ++ Jvm.staticLocs frame_1_statics s) 40 3264 → Post tb e args s (.returned v) u) :
    ArmFor flags0 classFile x code maxLocals ret World_1 tables_1 room_1 Calls_1 rest_1 Pre_1 Post := by
  intro l hfl _ _ p e ha hc hk s m args below hf hA hF happ hP
  obtain ⟨hcalls, hrest, hpre⟩ := hP
  obtain ⟨-, -, -, hnamed, -, -, -, hat⟩ := (Spec.applies_iff hf).mp happ
  obtain ⟨hg, hn⟩ := and_e (Cond.before_iff.mp (show (Jvm.Cond.and given_1 narrow_1).before args s = true from hpre))
  obtain ⟨gc, gr0⟩ := and_e hg
  obtain ⟨ga0, gr1⟩ := and_e gr0
  obtain ⟨ga1, gr2⟩ := and_e gr1
  have ga2 := gr2
  obtain ⟨w0, w1, w2, rfl⟩ : ∃ w0 w1 w2 : Value, args = #[w0, w1, w2] := by
    have hs : args.size = 3 := by simpa [Cond.value, given_1] using gc
    obtain ⟨L⟩ := args
    match L, hs with
    | [w0, w1, w2], _ => exact ⟨w0, w1, w2, rfl⟩
  have hw := fun d (hd : d ∈ tables_1) => atoms_spec (ws := Jvm.Cond.code x code maxLocals ret :: tables_1) hat d (List.mem_cons_of_mem _ hd)
  have hfit : Fit s := fun {y c} hc i hi => by
    obtain ⟨ha, rfl⟩ := Array.getElem?_eq_some_iff.mp hc
    have q := List.all_eq_true.mp ((Array.all_eq_true_iff_forall_mem.mp hF) _ (Array.getElem_mem ha)) i (List.mem_range.mpr hi)
    simpa [Array.getElem?_eq_getElem hi] using q
  obtain ⟨hsets, hown0⟩ := atoms_of _ (rest_1_c_eq ▸ (show rest_1_c.before _ s = true from hrest))
  obtain ⟨i0, ei0⟩ := is_v ga0
  obtain rfl : w0 = (.int i0) := Option.some.inj ei0
  obtain ⟨i1, ei1⟩ := is_v ga1
  obtain rfl : w1 = (.int i1) := Option.some.inj ei1
  obtain ⟨i2, ei2⟩ := is_v ga2
  obtain rfl : w2 = (.int i2) := Option.some.inj ei2
  have nc0 := not_v (Cond.before_iff.mp (hsets _ (List.mem_of_getElem? (i := 2) rfl)))
  obtain ⟨gC, eC⟩ := is_v (Cond.before_iff.mp (hsets _ (List.mem_of_getElem? (i := 1) rfl)))
  have SC : Sta s s.heap "java/lang/String" "COMPACT_STRINGS" "Z" (.int gC) := Sta.start eC (Or.inl (hsets _ (List.mem_of_getElem? (i := 0) rfl)))
  have PC : ¬ (gC = (0 : Int32)) := gotF (Cond.eq_ints eC (Term.int_eval (0))) nc0
  have wX := Cond.before_iff.mp (hsets _ (List.mem_of_getElem? (i := 8) rfl))
  obtain ⟨fm, eE, hfm⟩ := isR_v wX
  have SF : Sta s s.heap "jdk/internal/util/Preconditions" "SIOOBE_FORMATTER" "Ljava/util/function/BiFunction;" fm := Sta.start eE (Or.inl (hsets _ (List.mem_of_getElem? (i := 7) rfl)))
  have hH0 : CHv s EL s.vm s.heap := CHv.start (own_EW hw) (fun q hq => hcalls.1 q (own_sub q hq)) (hsets _ (List.mem_of_getElem? (i := 2) rfl)) (own_wS hw _ (by simp [Bundle.stringAtoms])) (own_wS hw _ (by simp [Bundle.stringAtoms, Bundle.sN]))
  obtain ⟨n, o, h1, h2, h3, _, L, rfl, ⟨rfl, N⟩, -, hq⟩ := rm0 l s _ hw tables_1 i0 i1 i2 gC fm s.heap s.heap.size (Nat.le_refl _) SC PC (Old.start s) hfm SF p e ha hc hk s m _ below hf ((Spec.applies_iff_loose hf).mp happ).1 ⟨rfl, State.Warmed39.refl s, rfl, hH0⟩ trivial
  refine ⟨n, _, h1, h2, h3, hpost _ _ _ _ _ _ ⟨Cond.after_iff.mpr rfl, Cond.after_iff.mpr (eq_i res_at (Term.int_eval (1)) rfl), trivial⟩ ⟨hq.1, hq.2.1, hq.2.2.1, (hq.2.2.2.sift fun y hy => Or.inr (N y hy)).mono (by decide) (by decide)⟩⟩
theorem main_1_1 : Claimed_1_1 := comes_1 fun _ _ _ _ _ _ h hF => ⟨h.1, hF⟩
theorem main_1_2 : Claimed_1_2 := comes_1 fun _ _ _ _ _ _ h hF => ⟨h.2.1, hF⟩
end Jvm.Pilot.@@N@@
namespace Jvm.Pilot.@@N@@
open Jvm Jvm.ClassFile Sem Op Lib Jvm.Free Jvm.Stand Jvm.Pilot.@@N@@.Jvm.D
/-! MADE BY PROGRAM (witnessworld.py) out of the Statement's table words and the real class files: 27 classes; the members and pool entries that the words name. The judged class is class 1, her method 1. -/
namespace start1
open Jvm.ClassFile
def u (s : String) : CpInfo := .utf8 (stringToUtf16 s)
/-- a pool by its gaps: so many unusable entries, then the entry; so many at the end -/
def gap : Nat → List CpInfo → List CpInfo
  | 0, r => r
  | n + 1, r => .unusable :: gap n r
def poolList (es : List (Nat × CpInfo)) (last : Nat) : List CpInfo := es.foldr (fun e r => gap e.1 (e.2 :: r)) (gap last [])
def pool (es : List (Nat × CpInfo)) (last : Nat) : Array CpInfo := ⟨poolList es last⟩
def fileOf (pool : Array CpInfo) (this : Nat) (attrs : Array Attribute := #[]) (ms : Array MethodInfo := #[]) (fl : Nat := 33) (sup : Nat := 0) (ifs : Array Nat := #[]) (fds : Array FieldInfo := #[]) : ClassFile where
  minorVersion := 0
  majorVersion := 65
  constantPool := pool
  accessFlags := fl
  thisClass := this
  superClass := sup
  interfaces := ifs
  fields := fds
  methods := ms
  attributes := attrs
def plain (name : String) (sup : Option ClassId) : Class where
  name := name
  kind := .ordinary
  loader := none
  accessFlags := 33
  super := sup
  interfaces := #[]
  cf := none
  fields := #[]
  methods := #[]
  instanceTypes := #[]
  staticTypes := #[]
  resolved := #[]
  callSites := []
  init := .initialized
  statics := none
  mirror := none

def pool0 : Array CpInfo := pool [(5, u "<init>"), (0, u "()V"), (1, .class_ 10), (1, u "java/lang/Object")] 113

def k0c0 : Code := { maxStack := 0, maxLocals := 1, code := object_method_1_code, exceptionTable := #[], attributes := #[] }
def k0m0 : Method := { name := "<init>", desc := "()V", sig := { parameters := [], returnType := none }, accessFlags := 1, code := some k0c0 }
/-- java/lang/Object -/
def k0 : Class := { plain "java/lang/Object" none with
  accessFlags := 33
  interfaces := #[]
  cf := some (fileOf pool0 8 #[] #[{ accessFlags := 1, nameIndex := 5, descriptorIndex := 6, attributes := #[] }] 33 0 #[] #[])
  fields := #[]
  methods := #[k0m0]
  instanceTypes := #[]
  staticTypes := #[]
  resolved := Array.replicate 124 none
  statics := none }

def pool1 : Array CpInfo := pool [(2, .class_ 4), (1, u "java/lang/Object"), (0, u "<init>"), (0, u "()V"), (0, .methodref 8 9), (0, .class_ 10), (0, .nameAndType 11 12), (0, u "com/example/vestry/vestry/plan/PlanSectionToStringPinLaw"), (0, u "mk"), (0, u "(II)Ljava/lang/String;"), (0, .class_ 14), (0, u "com/example/vestry/vestry/plan/PlanSection"), (0, .methodref 13 16), (0, .nameAndType 5 17), (0, u "(Ljava/lang/String;Ljava/lang/String;)V"), (0, .methodref 13 19), (0, .nameAndType 20 21), (0, u "toString"), (0, u "()Ljava/lang/String;"), (0, .string 23), (0, u "null"), (0, .methodref 25 26), (0, .class_ 27), (0, .nameAndType 28 29), (0, u "java/lang/String"), (0, u "length"), (0, u "()I"), (0, .methodref 8 31), (0, .nameAndType 32 33), (0, u "pre"), (0, u "(Ljava/lang/String;Ljava/lang/String;I)Z"), (0, .methodref 25 35), (0, .nameAndType 36 37), (0, u "charAt"), (0, u "(I)C"), (0, .methodref 25 39), (0, .nameAndType 5 40), (0, u "([C)V"), (2, u "law"), (0, u "(III)Z")] 3

def k1m0 : Method := { name := "<init>", desc := "()V", sig := { parameters := [], returnType := none }, accessFlags := 1, code := none }
def k1c1 : Code := { maxStack := 4, maxLocals := 12, code := code, exceptionTable := #[], attributes := #[] }
def k1m1 : Method := { name := "law", desc := "(III)Z", sig := { parameters := [.int, .int, .int], returnType := some .boolean }, accessFlags := 9, code := some k1c1 }
def k1c2 : Code := { maxStack := 3, maxLocals := 5, code := method_3_code, exceptionTable := #[], attributes := #[] }
def k1m2 : Method := { name := "mk", desc := "(II)Ljava/lang/String;", sig := { parameters := [.int, .int], returnType := some (.object "java/lang/String") }, accessFlags := 10, code := some k1c2 }
def k1c3 : Code := { maxStack := 3, maxLocals := 4, code := method_4_code, exceptionTable := #[], attributes := #[] }
def k1m3 : Method := { name := "pre", desc := "(Ljava/lang/String;Ljava/lang/String;I)Z", sig := { parameters := [(.object "java/lang/String"), (.object "java/lang/String"), .int], returnType := some .boolean }, accessFlags := 10, code := some k1c3 }
/-- com/example/vestry/vestry/plan/PlanSectionToStringPinLaw -/
def k1 : Class := { plain "com/example/vestry/vestry/plan/PlanSectionToStringPinLaw" (some 0) with
  accessFlags := 49
  interfaces := #[]
  cf := some (fileOf pool1 8 #[] #[{ accessFlags := 1, nameIndex := 5, descriptorIndex := 6, attributes := #[] }, { accessFlags := 9, nameIndex := 43, descriptorIndex := 44, attributes := #[] }, { accessFlags := 10, nameIndex := 11, descriptorIndex := 12, attributes := #[] }, { accessFlags := 10, nameIndex := 32, descriptorIndex := 33, attributes := #[] }] 49 2 #[] #[])
  fields := #[]
  methods := #[k1m0, k1m1, k1m2, k1m3]
  instanceTypes := #[]
  staticTypes := #[]
  resolved := Array.replicate 48 none
  statics := none }

def pool2 : Array CpInfo := pool [(1, .class_ 2), (0, u "java/io/Serializable"), (0, .class_ 4), (0, u "java/lang/Object")] 2

/-- java/io/Serializable -/
def k2 : Class := { plain "java/io/Serializable" (some 0) with
  accessFlags := 1537
  interfaces := #[]
  cf := some (fileOf pool2 1 #[] #[] 1537 3 #[] #[])
  fields := #[]
  methods := #[]
  instanceTypes := #[]
  staticTypes := #[]
  resolved := Array.replicate 7 none
  statics := none }

def pool3 : Array CpInfo := pool [(1, .class_ 2), (0, u "java/lang/Comparable"), (0, .class_ 4), (0, u "java/lang/Object")] 7

/-- java/lang/Comparable -/
def k3 : Class := { plain "java/lang/Comparable" (some 0) with
  accessFlags := 1537
  interfaces := #[]
  cf := some (fileOf pool3 1 #[] #[] 1537 3 #[] #[])
  fields := #[]
  methods := #[]
  instanceTypes := #[]
  staticTypes := #[]
  resolved := Array.replicate 12 none
  statics := none }

def pool4 : Array CpInfo := pool [(2, .class_ 4), (1, u "java/lang/CharSequence"), (42, .class_ 48), (0, u "java/lang/CharSequence$1CodePointIterator"), (10, .class_ 60), (0, u "java/lang/CharSequence$1CharIterator"), (5, .class_ 67), (0, u "java/lang/Object")] 63

/-- java/lang/CharSequence -/
def k4 : Class := { plain "java/lang/CharSequence" (some 0) with
  accessFlags := 1537
  interfaces := #[]
  cf := some (fileOf pool4 2 #[.nestMembers #[47, 59]] #[] 1537 66 #[] #[])
  fields := #[]
  methods := #[]
  instanceTypes := #[]
  staticTypes := #[]
  resolved := Array.replicate 131 none
  statics := none }

def pool5 : Array CpInfo := pool [(1, .class_ 2), (0, u "java/lang/constant/Constable"), (0, .class_ 4), (0, u "java/lang/Object")] 6

/-- java/lang/constant/Constable -/
def k5 : Class := { plain "java/lang/constant/Constable" (some 0) with
  accessFlags := 1537
  interfaces := #[]
  cf := some (fileOf pool5 1 #[] #[] 1537 3 #[] #[])
  fields := #[]
  methods := #[]
  instanceTypes := #[]
  staticTypes := #[]
  resolved := Array.replicate 11 none
  statics := none }

def pool6 : Array CpInfo := pool [(1, .class_ 2), (0, u "java/lang/constant/ConstantDesc"), (0, .class_ 4), (0, u "java/lang/Object")] 32

/-- java/lang/constant/ConstantDesc -/
def k6 : Class := { plain "java/lang/constant/ConstantDesc" (some 0) with
  accessFlags := 1537
  interfaces := #[]
  cf := some (fileOf pool6 1 #[] #[] 1537 3 #[] #[])
  fields := #[]
  methods := #[]
  instanceTypes := #[]
  staticTypes := #[]
  resolved := Array.replicate 37 none
  statics := none }

def pool7 : Array CpInfo := pool [(1, .methodref 2 3), (0, .class_ 4), (0, .nameAndType 5 6), (0, u "java/lang/Object"), (0, u "<init>"), (0, u "()V"), (0, .string 8), (0, u ""), (0, .fieldref 10 11), (0, .class_ 12), (0, .nameAndType 13 14), (0, u "java/lang/String"), (0, u "value"), (0, u "[B"), (0, .fieldref 10 16), (0, .nameAndType 17 18), (0, u "coder"), (0, u "B"), (2, u "hash"), (0, u "I"), (2, u "hashIsZero"), (0, u "Z"), (0, .methodref 10 28), (0, .nameAndType 5 29), (0, u "([CIILjava/lang/Void;)V"), (8, .fieldref 10 39), (0, .nameAndType 40 26), (0, u "COMPACT_STRINGS"), (1, .class_ 44), (1, u "java/lang/StringUTF16"), (0, u "compress"), (1, .methodref 42 48), (0, .nameAndType 49 50), (0, u "coderFromArrayLen"), (0, u "([BI)B"), (3, .methodref 55 56), (0, .class_ 57), (0, .nameAndType 58 59), (0, u "java/util/Arrays"), (0, u "copyOfRange"), (0, u "([BII)[B"), (47, .class_ 109), (1, u "java/lang/StringLatin1"), (32, u "()Z"), (34, .methodref 42 178), (0, .nameAndType 45 179), (0, u "([CII)[B"), (13, .class_ 195), (1, u "java/lang/System"), (16, .methodref 193 213), (0, .nameAndType 214 215), (0, u "arraycopy"), (0, u "(Ljava/lang/Object;ILjava/lang/Object;II)V"), (118, u "()I"), (0, .methodref 10 336), (0, .nameAndType 17 337), (0, u "()B"), (2, u "()[B"), (22, u "([BI)C"), (27, u "(II)V"), (35, u "(I)C"), (61, .methodref 10 490), (0, .nameAndType 5 491), (0, u "(Ljava/lang/AbstractStringBuilder;Ljava/lang/Void;)V"), (0, .methodref 10 493), (0, .nameAndType 494 142), (0, u "isLatin1"), (0, .methodref 107 496), (0, .nameAndType 497 363), (0, u "charAt"), (3, u "checkIndex"), (4, .nameAndType 507 334), (0, u "length"), (24, u "getBytes"), (16, .methodref 550 506), (0, .class_ 551), (0, u "java/lang/AbstractStringBuilder"), (0, .methodref 550 553), (0, .nameAndType 554 340), (0, u "getValue"), (20, .class_ 576), (0, u "java/lang/CharSequence"), (22, u "CASE_INSENSITIVE_ORDER"), (0, u "Ljava/util/Comparator;"), (220, u "([BIB)V"), (188, u "([C)V"), (36, .methodref 550 493), (5, .fieldref 1054 1055), (0, .class_ 1056), (0, .nameAndType 1057 1058), (0, u "jdk/internal/util/Preconditions"), (0, u "SIOOBE_FORMATTER"), (0, u "Ljava/util/function/BiFunction;"), (0, .methodref 1054 1060), (0, .nameAndType 501 1061), (0, u "(IILjava/util/function/BiFunction;)I"), (39, u "serialPersistentFields"), (0, u "[Ljava/io/ObjectStreamField;"), (0, .class_ 1104), (0, u "java/lang/String$CaseInsensitiveComparator"), (1, .class_ 1107), (0, u "java/io/Serializable"), (0, .class_ 1109), (0, u "java/lang/Comparable"), (0, .class_ 1111), (0, u "java/lang/constant/Constable"), (0, .class_ 1113), (0, u "java/lang/constant/ConstantDesc"), (2, u "serialVersionUID"), (0, u "J"), (3, u "REPL"), (0, u "C"), (2, u "LATIN1"), (1, u "UTF16"), (105, u "(Ljava/lang/StringBuilder;)V")] 217

def k7m0 : Method := { name := "<init>", desc := "()V", sig := { parameters := [], returnType := none }, accessFlags := 1, code := none }
def k7c1 : Code := { maxStack := 5, maxLocals := 2, code := jdk_42_method_3_code, exceptionTable := #[], attributes := #[] }
def k7m1 : Method := { name := "<init>", desc := "([C)V", sig := { parameters := [(.array .char)], returnType := none }, accessFlags := 1, code := some k7c1 }
def k7c2 : Code := { maxStack := 3, maxLocals := 2, code := jdk_42_method_53_code, exceptionTable := #[], attributes := #[] }
def k7m2 : Method := { name := "<init>", desc := "(Ljava/lang/StringBuilder;)V", sig := { parameters := [(.object "java/lang/StringBuilder")], returnType := none }, accessFlags := 1, code := some k7c2 }
def k7c3 : Code := { maxStack := 2, maxLocals := 1, code := jdk_42_method_54_code, exceptionTable := #[], attributes := #[] }
def k7m3 : Method := { name := "length", desc := "()I", sig := { parameters := [], returnType := some .int }, accessFlags := 1, code := some k7c3 }
def k7c4 : Code := { maxStack := 2, maxLocals := 2, code := jdk_42_method_56_code, exceptionTable := #[], attributes := #[] }
def k7m4 : Method := { name := "charAt", desc := "(I)C", sig := { parameters := [.int], returnType := some .char }, accessFlags := 1, code := some k7c4 }
def k7c5 : Code := { maxStack := 5, maxLocals := 4, code := jdk_42_method_147_code, exceptionTable := #[], attributes := #[] }
def k7m5 : Method := { name := "getBytes", desc := "([BIB)V", sig := { parameters := [(.array .byte), .int, .byte], returnType := none }, accessFlags := 0, code := some k7c5 }
def k7c6 : Code := { maxStack := 4, maxLocals := 6, code := jdk_42_method_149_code, exceptionTable := #[], attributes := #[] }
def k7m6 : Method := { name := "<init>", desc := "([CIILjava/lang/Void;)V", sig := { parameters := [(.array .char), .int, .int, (.object "java/lang/Void")], returnType := none }, accessFlags := 2, code := some k7c6 }
def k7c7 : Code := { maxStack := 5, maxLocals := 5, code := jdk_42_method_150_code, exceptionTable := #[], attributes := #[] }
def k7m7 : Method := { name := "<init>", desc := "(Ljava/lang/AbstractStringBuilder;Ljava/lang/Void;)V", sig := { parameters := [(.object "java/lang/AbstractStringBuilder"), (.object "java/lang/Void")], returnType := none }, accessFlags := 0, code := some k7c7 }
def k7c8 : Code := { maxStack := 1, maxLocals := 1, code := jdk_42_method_152_code, exceptionTable := #[], attributes := #[] }
def k7m8 : Method := { name := "coder", desc := "()B", sig := { parameters := [], returnType := some .byte }, accessFlags := 0, code := some k7c8 }
def k7c9 : Code := { maxStack := 1, maxLocals := 1, code := jdk_42_method_154_code, exceptionTable := #[], attributes := #[] }
def k7m9 : Method := { name := "isLatin1", desc := "()Z", sig := { parameters := [], returnType := some .boolean }, accessFlags := 0, code := some k7c9 }
def k7c10 : Code := { maxStack := 3, maxLocals := 2, code := jdk_42_method_155_code, exceptionTable := #[], attributes := #[] }
def k7m10 : Method := { name := "checkIndex", desc := "(II)V", sig := { parameters := [.int, .int], returnType := none }, accessFlags := 8, code := some k7c10 }
/-- java/lang/String -/
def k7 : Class := { plain "java/lang/String" (some 0) with
  accessFlags := 49
  interfaces := #[2, 3, 4, 5, 6]
  cf := some (fileOf pool7 10 #[.nestMembers #[1103]] #[{ accessFlags := 1, nameIndex := 5, descriptorIndex := 6, attributes := #[] }, { accessFlags := 1, nameIndex := 5, descriptorIndex := 1010, attributes := #[] }, { accessFlags := 1, nameIndex := 5, descriptorIndex := 1233, attributes := #[] }, { accessFlags := 1, nameIndex := 507, descriptorIndex := 334, attributes := #[] }, { accessFlags := 1, nameIndex := 497, descriptorIndex := 427, attributes := #[] }, { accessFlags := 0, nameIndex := 532, descriptorIndex := 821, attributes := #[] }, { accessFlags := 2, nameIndex := 5, descriptorIndex := 29, attributes := #[] }, { accessFlags := 0, nameIndex := 5, descriptorIndex := 491, attributes := #[] }, { accessFlags := 0, nameIndex := 17, descriptorIndex := 337, attributes := #[] }, { accessFlags := 0, nameIndex := 494, descriptorIndex := 142, attributes := #[] }, { accessFlags := 8, nameIndex := 501, descriptorIndex := 391, attributes := #[] }] 49 2 #[1106, 1108, 575, 1110, 1112] #[{ accessFlags := 18, nameIndex := 13, descriptorIndex := 14, attributes := #[] }, { accessFlags := 18, nameIndex := 17, descriptorIndex := 18, attributes := #[] }, { accessFlags := 2, nameIndex := 21, descriptorIndex := 22, attributes := #[] }, { accessFlags := 2, nameIndex := 25, descriptorIndex := 26, attributes := #[] }, { accessFlags := 26, nameIndex := 1116, descriptorIndex := 1117, attributes := #[] }, { accessFlags := 24, nameIndex := 40, descriptorIndex := 26, attributes := #[] }, { accessFlags := 26, nameIndex := 1101, descriptorIndex := 1102, attributes := #[] }, { accessFlags := 26, nameIndex := 1121, descriptorIndex := 1122, attributes := #[] }, { accessFlags := 25, nameIndex := 599, descriptorIndex := 600, attributes := #[] }, { accessFlags := 24, nameIndex := 1125, descriptorIndex := 18, attributes := #[] }, { accessFlags := 24, nameIndex := 1127, descriptorIndex := 18, attributes := #[] }])
  fields := #[{ name := "value", type := (.array .byte), accessFlags := 18, slot := 0, constantValue := 0 }, { name := "coder", type := .byte, accessFlags := 18, slot := 1, constantValue := 0 }, { name := "hash", type := .int, accessFlags := 2, slot := 2, constantValue := 0 }, { name := "hashIsZero", type := .boolean, accessFlags := 2, slot := 3, constantValue := 0 }, { name := "serialVersionUID", type := .long, accessFlags := 26, slot := 0, constantValue := 0 }, { name := "COMPACT_STRINGS", type := .boolean, accessFlags := 24, slot := 1, constantValue := 0 }, { name := "serialPersistentFields", type := (.array (.object "java/io/ObjectStreamField")), accessFlags := 26, slot := 2, constantValue := 0 }, { name := "REPL", type := .char, accessFlags := 26, slot := 3, constantValue := 0 }, { name := "CASE_INSENSITIVE_ORDER", type := (.object "java/util/Comparator"), accessFlags := 25, slot := 4, constantValue := 0 }, { name := "LATIN1", type := .byte, accessFlags := 24, slot := 5, constantValue := 0 }, { name := "UTF16", type := .byte, accessFlags := 24, slot := 6, constantValue := 0 }]
  methods := #[k7m0, k7m1, k7m2, k7m3, k7m4, k7m5, k7m6, k7m7, k7m8, k7m9, k7m10]
  instanceTypes := #[(.array .byte), .byte, .int, .boolean]
  staticTypes := #[.long, .boolean, (.array (.object "java/io/ObjectStreamField")), .char, (.object "java/util/Comparator"), .byte, .byte]
  resolved := Array.replicate 1451 none
  statics := some 0 }

def pool8 : Array CpInfo := pool [(1, .methodref 2 3), (0, .class_ 4), (0, .nameAndType 5 6), (0, u "java/lang/Object"), (0, u "<init>"), (0, u "()V"), (0, .class_ 8), (0, u "java/lang/Record")] 13

def k8c0 : Code := { maxStack := 1, maxLocals := 1, code := jdk_30_method_1_code, exceptionTable := #[], attributes := #[] }
def k8m0 : Method := { name := "<init>", desc := "()V", sig := { parameters := [], returnType := none }, accessFlags := 4, code := some k8c0 }
/-- java/lang/Record -/
def k8 : Class := { plain "java/lang/Record" (some 0) with
  accessFlags := 1057
  interfaces := #[]
  cf := some (fileOf pool8 7 #[] #[{ accessFlags := 4, nameIndex := 5, descriptorIndex := 6, attributes := #[] }] 1057 2 #[] #[])
  fields := #[]
  methods := #[k8m0]
  instanceTypes := #[]
  staticTypes := #[]
  resolved := Array.replicate 22 none
  statics := none }

def pool9 : Array CpInfo := pool [(1, .methodref 2 3), (0, .class_ 4), (0, .nameAndType 5 6), (0, u "java/lang/Record"), (0, u "<init>"), (0, u "()V"), (0, .fieldref 8 9), (0, .class_ 10), (0, .nameAndType 11 12), (0, u "com/example/vestry/vestry/plan/PlanSection"), (0, u "planId"), (0, u "Ljava/lang/String;"), (0, .fieldref 8 14), (0, .nameAndType 15 12), (0, u "section"), (0, .class_ 17), (0, u "java/lang/StringBuilder"), (0, .methodref 16 3), (0, .methodref 16 20), (0, .nameAndType 21 22), (0, u "append"), (0, u "(Ljava/lang/String;)Ljava/lang/StringBuilder;"), (0, .string 24), (0, u " "), (0, .methodref 16 26), (0, .nameAndType 27 28), (0, u "toString"), (0, u "()Ljava/lang/String;"), (8, u "(Ljava/lang/String;Ljava/lang/String;)V")] 26

def k9c0 : Code := { maxStack := 2, maxLocals := 3, code := prog_55_method_1_code, exceptionTable := #[], attributes := #[] }
def k9m0 : Method := { name := "<init>", desc := "(Ljava/lang/String;Ljava/lang/String;)V", sig := { parameters := [(.object "java/lang/String"), (.object "java/lang/String")], returnType := none }, accessFlags := 1, code := some k9c0 }
def k9c1 : Code := { maxStack := 2, maxLocals := 1, code := prog_55_method_2_code, exceptionTable := #[], attributes := #[] }
def k9m1 : Method := { name := "toString", desc := "()Ljava/lang/String;", sig := { parameters := [], returnType := some (.object "java/lang/String") }, accessFlags := 1, code := some k9c1 }
/-- com/example/vestry/vestry/plan/PlanSection -/
def k9 : Class := { plain "com/example/vestry/vestry/plan/PlanSection" (some 8) with
  accessFlags := 49
  interfaces := #[]
  cf := some (fileOf pool9 8 #[] #[{ accessFlags := 1, nameIndex := 5, descriptorIndex := 37, attributes := #[] }, { accessFlags := 1, nameIndex := 27, descriptorIndex := 28, attributes := #[] }] 49 2 #[] #[{ accessFlags := 18, nameIndex := 11, descriptorIndex := 12, attributes := #[] }, { accessFlags := 18, nameIndex := 15, descriptorIndex := 12, attributes := #[] }])
  fields := #[{ name := "planId", type := (.object "java/lang/String"), accessFlags := 18, slot := 0, constantValue := 0 }, { name := "section", type := (.object "java/lang/String"), accessFlags := 18, slot := 1, constantValue := 0 }]
  methods := #[k9m0, k9m1]
  instanceTypes := #[(.object "java/lang/String"), (.object "java/lang/String")]
  staticTypes := #[]
  resolved := Array.replicate 64 none
  statics := none }

def pool10 : Array CpInfo := pool [(1, .class_ 2), (0, u "java/lang/Appendable"), (0, .class_ 4), (0, u "java/lang/Object")] 9

/-- java/lang/Appendable -/
def k10 : Class := { plain "java/lang/Appendable" (some 0) with
  accessFlags := 1537
  interfaces := #[]
  cf := some (fileOf pool10 1 #[] #[] 1537 3 #[] #[])
  fields := #[]
  methods := #[]
  instanceTypes := #[]
  staticTypes := #[]
  resolved := Array.replicate 14 none
  statics := none }

def pool11 : Array CpInfo := pool [(1, .class_ 2), (0, u "java/lang/String"), (0, .methodref 4 5), (0, .class_ 6), (0, .nameAndType 7 8), (0, u "java/lang/Object"), (0, u "<init>"), (0, u "()V"), (1, .class_ 12), (1, u "java/lang/AbstractStringBuilder"), (0, u "EMPTYVALUE"), (0, u "[B"), (0, .fieldref 10 16), (0, .nameAndType 17 14), (0, u "value"), (0, .fieldref 1 19), (0, .nameAndType 20 21), (0, u "COMPACT_STRINGS"), (0, u "Z"), (0, .fieldref 10 23), (0, .nameAndType 24 25), (0, u "coder"), (0, u "B"), (6, .methodref 1 33), (0, .nameAndType 34 35), (0, u "length"), (0, u "()I"), (4, .methodref 1 41), (0, .nameAndType 24 42), (0, u "()B"), (2, u "append"), (0, u "(Ljava/lang/String;)Ljava/lang/AbstractStringBuilder;"), (1, .class_ 49), (0, u "java/lang/CharSequence"), (19, u "(Ljava/lang/String;)V"), (5, u "maybeLatin1"), (3, .fieldref 10 80), (0, .nameAndType 81 82), (0, u "count"), (0, u "I"), (0, .methodref 10 84), (0, .nameAndType 85 86), (0, u "isLatin1"), (0, u "()Z"), (13, .methodref 10 101), (0, .nameAndType 102 103), (0, u "ensureCapacityInternal"), (0, u "(I)V"), (100, .methodref 10 205), (0, .nameAndType 206 207), (0, u "appendNull"), (0, u "()Ljava/lang/AbstractStringBuilder;"), (0, .methodref 10 209), (0, .nameAndType 210 211), (0, u "putStringAt"), (0, u "(ILjava/lang/String;)V"), (5, u "inflateIfNeededFor"), (2, .nameAndType 221 222), (0, u "getBytes"), (0, u "([BIB)V"), (174, .methodref 10 398), (0, .nameAndType 217 69), (0, .methodref 1 220), (3, u "()[B"), (40, .class_ 445), (0, u "java/lang/Appendable"), (106, u "getValue")] 56

def k11m0 : Method := { name := "<init>", desc := "()V", sig := { parameters := [], returnType := none }, accessFlags := 0, code := none }
def k11c1 : Code := { maxStack := 2, maxLocals := 2, code := jdk_68_method_2_code, exceptionTable := #[], attributes := #[] }
def k11m1 : Method := { name := "<init>", desc := "(I)V", sig := { parameters := [.int], returnType := none }, accessFlags := 0, code := some k11c1 }
def k11c2 : Code := { maxStack := 1, maxLocals := 1, code := jdk_68_method_6_code, exceptionTable := #[], attributes := #[] }
def k11m2 : Method := { name := "length", desc := "()I", sig := { parameters := [], returnType := some .int }, accessFlags := 1, code := some k11c2 }
def k11c3 : Code := { maxStack := 4, maxLocals := 3, code := jdk_68_method_9_code, exceptionTable := #[], attributes := #[] }
def k11m3 : Method := { name := "ensureCapacityInternal", desc := "(I)V", sig := { parameters := [.int], returnType := none }, accessFlags := 2, code := some k11c3 }
def k11c4 : Code := { maxStack := 3, maxLocals := 3, code := jdk_68_method_22_code, exceptionTable := #[], attributes := #[] }
def k11m4 : Method := { name := "append", desc := "(Ljava/lang/String;)Ljava/lang/AbstractStringBuilder;", sig := { parameters := [(.object "java/lang/String")], returnType := some (.object "java/lang/AbstractStringBuilder") }, accessFlags := 1, code := some k11c4 }
def k11c5 : Code := { maxStack := 6, maxLocals := 3, code := jdk_68_method_26_code, exceptionTable := #[], attributes := #[] }
def k11m5 : Method := { name := "appendNull", desc := "()Ljava/lang/AbstractStringBuilder;", sig := { parameters := [], returnType := some (.object "java/lang/AbstractStringBuilder") }, accessFlags := 2, code := some k11c5 }
def k11c6 : Code := { maxStack := 1, maxLocals := 1, code := jdk_68_method_64_code, exceptionTable := #[], attributes := #[] }
def k11m6 : Method := { name := "getValue", desc := "()[B", sig := { parameters := [], returnType := some (.array .byte) }, accessFlags := 16, code := some k11c6 }
def k11c7 : Code := { maxStack := 1, maxLocals := 1, code := jdk_68_method_68_code, exceptionTable := #[], attributes := #[] }
def k11m7 : Method := { name := "isLatin1", desc := "()Z", sig := { parameters := [], returnType := some .boolean }, accessFlags := 16, code := some k11c7 }
def k11c8 : Code := { maxStack := 2, maxLocals := 2, code := jdk_68_method_71_code, exceptionTable := #[], attributes := #[] }
def k11m8 : Method := { name := "inflateIfNeededFor", desc := "(Ljava/lang/String;)V", sig := { parameters := [(.object "java/lang/String")], returnType := none }, accessFlags := 2, code := some k11c8 }
def k11c9 : Code := { maxStack := 4, maxLocals := 3, code := jdk_68_method_73_code, exceptionTable := #[], attributes := #[] }
def k11m9 : Method := { name := "putStringAt", desc := "(ILjava/lang/String;)V", sig := { parameters := [.int, (.object "java/lang/String")], returnType := none }, accessFlags := 2, code := some k11c9 }
/-- java/lang/AbstractStringBuilder -/
def k11 : Class := { plain "java/lang/AbstractStringBuilder" (some 0) with
  accessFlags := 1056
  interfaces := #[10, 4]
  cf := some (fileOf pool11 10 #[] #[{ accessFlags := 0, nameIndex := 7, descriptorIndex := 8, attributes := #[] }, { accessFlags := 0, nameIndex := 7, descriptorIndex := 103, attributes := #[] }, { accessFlags := 1, nameIndex := 34, descriptorIndex := 35, attributes := #[] }, { accessFlags := 2, nameIndex := 102, descriptorIndex := 103, attributes := #[] }, { accessFlags := 1, nameIndex := 45, descriptorIndex := 46, attributes := #[] }, { accessFlags := 2, nameIndex := 206, descriptorIndex := 207, attributes := #[] }, { accessFlags := 16, nameIndex := 552, descriptorIndex := 403, attributes := #[] }, { accessFlags := 16, nameIndex := 85, descriptorIndex := 86, attributes := #[] }, { accessFlags := 2, nameIndex := 217, descriptorIndex := 69, attributes := #[] }, { accessFlags := 2, nameIndex := 210, descriptorIndex := 211, attributes := #[] }] 1056 4 #[444, 48] #[{ accessFlags := 0, nameIndex := 17, descriptorIndex := 14, attributes := #[] }, { accessFlags := 0, nameIndex := 24, descriptorIndex := 25, attributes := #[] }, { accessFlags := 0, nameIndex := 75, descriptorIndex := 21, attributes := #[] }, { accessFlags := 0, nameIndex := 81, descriptorIndex := 82, attributes := #[] }, { accessFlags := 26, nameIndex := 13, descriptorIndex := 14, attributes := #[] }])
  fields := #[{ name := "value", type := (.array .byte), accessFlags := 0, slot := 0, constantValue := 0 }, { name := "coder", type := .byte, accessFlags := 0, slot := 1, constantValue := 0 }, { name := "maybeLatin1", type := .boolean, accessFlags := 0, slot := 2, constantValue := 0 }, { name := "count", type := .int, accessFlags := 0, slot := 3, constantValue := 0 }, { name := "EMPTYVALUE", type := (.array .byte), accessFlags := 26, slot := 0, constantValue := 0 }]
  methods := #[k11m0, k11m1, k11m2, k11m3, k11m4, k11m5, k11m6, k11m7, k11m8, k11m9]
  instanceTypes := #[(.array .byte), .byte, .boolean, .int]
  staticTypes := #[(.array .byte)]
  resolved := Array.replicate 609 none
  statics := none }

def pool12 : Array CpInfo := pool [(1, .methodref 2 3), (0, .class_ 4), (0, .nameAndType 5 6), (0, u "java/lang/AbstractStringBuilder"), (0, u "<init>"), (0, u "(I)V"), (11, .class_ 20), (1, u "java/lang/String"), (3, .class_ 26), (1, u "java/lang/StringBuilder"), (0, u "append"), (0, u "(Ljava/lang/String;)Ljava/lang/StringBuilder;"), (0, .methodref 2 30), (0, .nameAndType 27 31), (0, u "(Ljava/lang/String;)Ljava/lang/AbstractStringBuilder;"), (105, .methodref 18 138), (0, .nameAndType 5 139), (0, u "(Ljava/lang/StringBuilder;)V"), (5, u "()V"), (10, u "()I"), (186, .methodref 2 344), (0, .nameAndType 345 156), (0, u "length"), (3, .class_ 350), (0, u "java/lang/Appendable"), (0, .class_ 352), (0, u "java/io/Serializable"), (0, .class_ 354), (0, u "java/lang/Comparable"), (0, .class_ 356), (0, u "java/lang/CharSequence"), (0, u "serialVersionUID"), (0, u "J"), (40, u "toString"), (0, u "()Ljava/lang/String;")] 21

def k12c0 : Code := { maxStack := 2, maxLocals := 1, code := jdk_67_method_1_code, exceptionTable := #[], attributes := #[] }
def k12m0 : Method := { name := "<init>", desc := "()V", sig := { parameters := [], returnType := none }, accessFlags := 1, code := some k12c0 }
def k12c1 : Code := { maxStack := 2, maxLocals := 2, code := jdk_67_method_7_code, exceptionTable := #[], attributes := #[] }
def k12m1 : Method := { name := "append", desc := "(Ljava/lang/String;)Ljava/lang/StringBuilder;", sig := { parameters := [(.object "java/lang/String")], returnType := some (.object "java/lang/StringBuilder") }, accessFlags := 1, code := some k12c1 }
def k12c2 : Code := { maxStack := 3, maxLocals := 1, code := jdk_67_method_42_code, exceptionTable := #[], attributes := #[] }
def k12m2 : Method := { name := "toString", desc := "()Ljava/lang/String;", sig := { parameters := [], returnType := some (.object "java/lang/String") }, accessFlags := 1, code := some k12c2 }
def k12c3 : Code := { maxStack := 1, maxLocals := 1, code := jdk_67_method_93_code, exceptionTable := #[], attributes := #[] }
def k12m3 : Method := { name := "length", desc := "()I", sig := { parameters := [], returnType := some .int }, accessFlags := 4161, code := some k12c3 }
/-- java/lang/StringBuilder -/
def k12 : Class := { plain "java/lang/StringBuilder" (some 11) with
  accessFlags := 49
  interfaces := #[10, 2, 3, 4]
  cf := some (fileOf pool12 24 #[] #[{ accessFlags := 1, nameIndex := 5, descriptorIndex := 145, attributes := #[] }, { accessFlags := 1, nameIndex := 27, descriptorIndex := 28, attributes := #[] }, { accessFlags := 1, nameIndex := 399, descriptorIndex := 400, attributes := #[] }, { accessFlags := 4161, nameIndex := 345, descriptorIndex := 156, attributes := #[] }] 49 2 #[349, 351, 353, 355] #[{ accessFlags := 24, nameIndex := 357, descriptorIndex := 358, attributes := #[] }])
  fields := #[{ name := "serialVersionUID", type := .long, accessFlags := 24, slot := 0, constantValue := 0 }]
  methods := #[k12m0, k12m1, k12m2, k12m3]
  instanceTypes := #[(.array .byte), .byte, .boolean, .int]
  staticTypes := #[.long]
  resolved := Array.replicate 422 none
  statics := none }

def pool13 : Array CpInfo := pool [(2, .class_ 4), (1, u "java/lang/Object"), (0, u "<init>"), (0, u "()V"), (1, .class_ 10), (1, u "java/lang/System"), (0, u "allowSecurityManager"), (0, u "I"), (16, u "cons"), (0, u "Ljava/io/Console;"), (77, .class_ 110), (1, u "java/lang/System$CallersHolder"), (43, u "initialErrStream"), (0, u "Ljava/io/PrintStream;"), (19, u "security"), (0, u "Ljava/lang/SecurityManager;"), (31, .class_ 209), (0, u "java/lang/System$1"), (7, u "props"), (0, u "Ljava/util/Properties;"), (2, u "lineSeparator"), (0, u "Ljava/lang/String;"), (96, .class_ 321), (1, u "java/lang/System$LoggerFinder"), (5, .class_ 328), (0, u "java/lang/System$Logger"), (67, u "err"), (2, u "out"), (91, u "notSupportedJnuEncoding"), (15, u "in"), (17, u "initialIn"), (0, u "Ljava/io/InputStream;"), (35, u "bootLayer"), (0, u "Ljava/lang/ModuleLayer;"), (99, .class_ 664), (0, u "java/lang/System$2"), (9, u "NEVER"), (2, u "MAYBE"), (49, u "arraycopy"), (0, u "(Ljava/lang/Object;ILjava/lang/Object;II)V"), (72, .class_ 802), (0, u "java/lang/System$Logger$Level")] 31

def k13m0 : Method := { name := "<init>", desc := "()V", sig := { parameters := [], returnType := none }, accessFlags := 2, code := none }
def k13m1 : Method := { name := "arraycopy", desc := "(Ljava/lang/Object;ILjava/lang/Object;II)V", sig := { parameters := [(.object "java/lang/Object"), .int, (.object "java/lang/Object"), .int, .int], returnType := none }, accessFlags := 265, code := none }
/-- java/lang/System -/
def k13 : Class := { plain "java/lang/System" (some 0) with
  accessFlags := 49
  interfaces := #[]
  cf := some (fileOf pool13 8 #[.nestMembers #[319, 327, 801, 108, 663, 208]] #[{ accessFlags := 2, nameIndex := 5, descriptorIndex := 6, attributes := #[] }, { accessFlags := 265, nameIndex := 727, descriptorIndex := 728, attributes := #[] }] 49 2 #[] #[{ accessFlags := 25, nameIndex := 507, descriptorIndex := 526, attributes := #[] }, { accessFlags := 25, nameIndex := 399, descriptorIndex := 155, attributes := #[] }, { accessFlags := 25, nameIndex := 396, descriptorIndex := 155, attributes := #[] }, { accessFlags := 10, nameIndex := 525, descriptorIndex := 526, attributes := #[] }, { accessFlags := 26, nameIndex := 674, descriptorIndex := 12, attributes := #[] }, { accessFlags := 26, nameIndex := 677, descriptorIndex := 12, attributes := #[] }, { accessFlags := 10, nameIndex := 11, descriptorIndex := 12, attributes := #[] }, { accessFlags := 74, nameIndex := 175, descriptorIndex := 176, attributes := #[] }, { accessFlags := 10, nameIndex := 491, descriptorIndex := 222, attributes := #[] }, { accessFlags := 74, nameIndex := 29, descriptorIndex := 30, attributes := #[] }, { accessFlags := 74, nameIndex := 154, descriptorIndex := 155, attributes := #[] }, { accessFlags := 10, nameIndex := 217, descriptorIndex := 218, attributes := #[] }, { accessFlags := 10, nameIndex := 221, descriptorIndex := 222, attributes := #[] }, { accessFlags := 8, nameIndex := 562, descriptorIndex := 563, attributes := #[] }])
  fields := #[{ name := "in", type := (.object "java/io/InputStream"), accessFlags := 25, slot := 0, constantValue := 0 }, { name := "out", type := (.object "java/io/PrintStream"), accessFlags := 25, slot := 1, constantValue := 0 }, { name := "err", type := (.object "java/io/PrintStream"), accessFlags := 25, slot := 2, constantValue := 0 }, { name := "initialIn", type := (.object "java/io/InputStream"), accessFlags := 10, slot := 3, constantValue := 0 }, { name := "NEVER", type := .int, accessFlags := 26, slot := 4, constantValue := 0 }, { name := "MAYBE", type := .int, accessFlags := 26, slot := 5, constantValue := 0 }, { name := "allowSecurityManager", type := .int, accessFlags := 10, slot := 6, constantValue := 0 }, { name := "security", type := (.object "java/lang/SecurityManager"), accessFlags := 74, slot := 7, constantValue := 0 }, { name := "notSupportedJnuEncoding", type := (.object "java/lang/String"), accessFlags := 10, slot := 8, constantValue := 0 }, { name := "cons", type := (.object "java/io/Console"), accessFlags := 74, slot := 9, constantValue := 0 }, { name := "initialErrStream", type := (.object "java/io/PrintStream"), accessFlags := 74, slot := 10, constantValue := 0 }, { name := "props", type := (.object "java/util/Properties"), accessFlags := 10, slot := 11, constantValue := 0 }, { name := "lineSeparator", type := (.object "java/lang/String"), accessFlags := 10, slot := 12, constantValue := 0 }, { name := "bootLayer", type := (.object "java/lang/ModuleLayer"), accessFlags := 8, slot := 13, constantValue := 0 }]
  methods := #[k13m0, k13m1]
  instanceTypes := #[]
  staticTypes := #[(.object "java/io/InputStream"), (.object "java/io/PrintStream"), (.object "java/io/PrintStream"), (.object "java/io/InputStream"), .int, .int, .int, (.object "java/lang/SecurityManager"), (.object "java/lang/String"), (.object "java/io/Console"), (.object "java/io/PrintStream"), (.object "java/util/Properties"), (.object "java/lang/String"), (.object "java/lang/ModuleLayer")]
  resolved := Array.replicate 834 none
  statics := none }

def pool14 : Array CpInfo := pool [(2, .class_ 4), (1, u "java/lang/Object"), (0, u "<init>"), (0, u "()V"), (7, .class_ 16), (1, u "java/util/Arrays"), (57, .class_ 76), (1, u "java/util/Arrays$NaturalOrder"), (36, .class_ 115), (1, u "java/util/Arrays$LegacyMergeSort"), (1, u "Z"), (21, u "copyOfRange"), (10, .methodref 151 152), (0, .class_ 153), (0, .nameAndType 154 155), (0, u "java/lang/System"), (0, u "arraycopy"), (0, u "(Ljava/lang/Object;ILjava/lang/Object;II)V"), (148, .methodref 305 306), (0, .class_ 307), (0, .nameAndType 308 309), (0, u "java/lang/Math"), (0, u "min"), (0, u "(II)I"), (29, .methodref 14 340), (0, .nameAndType 341 342), (0, u "copyOfRangeByte"), (0, u "([BII)[B"), (0, .methodref 14 344), (0, .nameAndType 345 346), (0, u "checkLength"), (0, u "(II)V"), (28, .class_ 376), (0, u "java/util/Arrays$ArrayList"), (68, u "$assertionsDisabled"), (269, u "MIN_ARRAY_SORT_GRAN"), (0, u "I"), (2, u "INSERTIONSORT_THRESHOLD"), (255, .class_ 976), (0, u "java/util/Arrays$ArrayItr")] 52

def k14m0 : Method := { name := "<init>", desc := "()V", sig := { parameters := [], returnType := none }, accessFlags := 2, code := none }
def k14c1 : Code := { maxStack := 4, maxLocals := 2, code := jdk_65_method_131_code, exceptionTable := #[], attributes := #[] }
def k14m1 : Method := { name := "checkLength", desc := "(II)V", sig := { parameters := [.int, .int], returnType := none }, accessFlags := 10, code := some k14c1 }
def k14c2 : Code := { maxStack := 3, maxLocals := 3, code := jdk_65_method_132_code, exceptionTable := #[], attributes := #[] }
def k14m2 : Method := { name := "copyOfRange", desc := "([BII)[B", sig := { parameters := [(.array .byte), .int, .int], returnType := some (.array .byte) }, accessFlags := 9, code := some k14c2 }
def k14c3 : Code := { maxStack := 6, maxLocals := 5, code := jdk_65_method_133_code, exceptionTable := #[], attributes := #[] }
def k14m3 : Method := { name := "copyOfRangeByte", desc := "([BII)[B", sig := { parameters := [(.array .byte), .int, .int], returnType := some (.array .byte) }, accessFlags := 10, code := some k14c3 }
/-- java/util/Arrays -/
def k14 : Class := { plain "java/util/Arrays" (some 0) with
  accessFlags := 49
  interfaces := #[]
  cf := some (fileOf pool14 14 #[.nestMembers #[975, 375, 113, 74]] #[{ accessFlags := 2, nameIndex := 5, descriptorIndex := 6, attributes := #[] }, { accessFlags := 10, nameIndex := 345, descriptorIndex := 346, attributes := #[] }, { accessFlags := 9, nameIndex := 139, descriptorIndex := 342, attributes := #[] }, { accessFlags := 10, nameIndex := 341, descriptorIndex := 342, attributes := #[] }] 49 2 #[] #[{ accessFlags := 26, nameIndex := 715, descriptorIndex := 716, attributes := #[] }, { accessFlags := 26, nameIndex := 719, descriptorIndex := 716, attributes := #[] }, { accessFlags := 4120, nameIndex := 445, descriptorIndex := 117, attributes := #[] }])
  fields := #[{ name := "MIN_ARRAY_SORT_GRAN", type := .int, accessFlags := 26, slot := 0, constantValue := 0 }, { name := "INSERTIONSORT_THRESHOLD", type := .int, accessFlags := 26, slot := 1, constantValue := 0 }, { name := "$assertionsDisabled", type := .boolean, accessFlags := 4120, slot := 2, constantValue := 0 }]
  methods := #[k14m0, k14m1, k14m2, k14m3]
  instanceTypes := #[]
  staticTypes := #[.int, .int, .boolean]
  resolved := Array.replicate 1029 none
  statics := none }

def pool15 : Array CpInfo := pool [(1, .class_ 2), (0, u "java/lang/Math"), (1, .class_ 6), (1, u "java/lang/Object"), (0, u "<init>"), (0, u "()V"), (89, .class_ 100), (1, u "java/lang/Math$RandomNumberGeneratorHolder"), (71, u "negativeZeroFloatBits"), (0, u "J"), (2, u "negativeZeroDoubleBits"), (24, u "min"), (43, u "$assertionsDisabled"), (0, u "Z"), (88, u "(II)I"), (2, u "twoToTheDoubleScaleDown"), (0, u "D"), (4, u "twoToTheDoubleScaleUp"), (9, u "E"), (3, u "PI"), (2, u "TAU"), (2, u "DEGREES_TO_RADIANS"), (0, u "RADIANS_TO_DEGREES")] 94

def k15m0 : Method := { name := "<init>", desc := "()V", sig := { parameters := [], returnType := none }, accessFlags := 2, code := none }
def k15c1 : Code := { maxStack := 2, maxLocals := 2, code := jdk_29_method_69_code, exceptionTable := #[], attributes := #[] }
def k15m1 : Method := { name := "min", desc := "(II)I", sig := { parameters := [.int, .int], returnType := some .int }, accessFlags := 9, code := some k15c1 }
/-- java/lang/Math -/
def k15 : Class := { plain "java/lang/Math" (some 0) with
  accessFlags := 49
  interfaces := #[]
  cf := some (fileOf pool15 1 #[.nestMembers #[98]] #[{ accessFlags := 2, nameIndex := 7, descriptorIndex := 8, attributes := #[] }, { accessFlags := 9, nameIndex := 201, descriptorIndex := 335, attributes := #[] }] 49 4 #[] #[{ accessFlags := 25, nameIndex := 354, descriptorIndex := 339, attributes := #[] }, { accessFlags := 25, nameIndex := 358, descriptorIndex := 339, attributes := #[] }, { accessFlags := 25, nameIndex := 361, descriptorIndex := 339, attributes := #[] }, { accessFlags := 26, nameIndex := 364, descriptorIndex := 339, attributes := #[] }, { accessFlags := 26, nameIndex := 365, descriptorIndex := 339, attributes := #[] }, { accessFlags := 26, nameIndex := 172, descriptorIndex := 173, attributes := #[] }, { accessFlags := 26, nameIndex := 176, descriptorIndex := 173, attributes := #[] }, { accessFlags := 8, nameIndex := 344, descriptorIndex := 339, attributes := #[] }, { accessFlags := 8, nameIndex := 338, descriptorIndex := 339, attributes := #[] }, { accessFlags := 4120, nameIndex := 245, descriptorIndex := 246, attributes := #[] }])
  fields := #[{ name := "E", type := .double, accessFlags := 25, slot := 0, constantValue := 0 }, { name := "PI", type := .double, accessFlags := 25, slot := 1, constantValue := 0 }, { name := "TAU", type := .double, accessFlags := 25, slot := 2, constantValue := 0 }, { name := "DEGREES_TO_RADIANS", type := .double, accessFlags := 26, slot := 3, constantValue := 0 }, { name := "RADIANS_TO_DEGREES", type := .double, accessFlags := 26, slot := 4, constantValue := 0 }, { name := "negativeZeroFloatBits", type := .long, accessFlags := 26, slot := 5, constantValue := 0 }, { name := "negativeZeroDoubleBits", type := .long, accessFlags := 26, slot := 6, constantValue := 0 }, { name := "twoToTheDoubleScaleUp", type := .double, accessFlags := 8, slot := 7, constantValue := 0 }, { name := "twoToTheDoubleScaleDown", type := .double, accessFlags := 8, slot := 8, constantValue := 0 }, { name := "$assertionsDisabled", type := .boolean, accessFlags := 4120, slot := 9, constantValue := 0 }]
  methods := #[k15m0, k15m1]
  instanceTypes := #[]
  staticTypes := #[.double, .double, .double, .double, .double, .long, .long, .double, .double, .boolean]
  resolved := Array.replicate 460 none
  statics := none }

def pool16 : Array CpInfo := pool [(1, .class_ 2), (0, u "java/lang/String"), (1, .class_ 6), (1, u "java/lang/Object"), (0, u "<init>"), (0, u "()V"), (0, .methodref 1 10), (0, .nameAndType 11 12), (0, u "checkIndex"), (0, u "(II)V"), (1, .class_ 16), (1, u "java/lang/StringLatin1"), (36, u "([BI)C"), (67, u "$assertionsDisabled"), (0, u "Z"), (98, .class_ 223), (1, u "java/lang/StringLatin1$LinesSpliterator"), (28, u "charAt"), (137, .class_ 391), (0, u "java/lang/StringLatin1$CharsSpliterator")] 3

def k16m0 : Method := { name := "<init>", desc := "()V", sig := { parameters := [], returnType := none }, accessFlags := 0, code := none }
def k16c1 : Code := { maxStack := 2, maxLocals := 2, code := jdk_43_method_2_code, exceptionTable := #[], attributes := #[] }
def k16m1 : Method := { name := "charAt", desc := "([BI)C", sig := { parameters := [(.array .byte), .int], returnType := some .char }, accessFlags := 9, code := some k16c1 }
/-- java/lang/StringLatin1 -/
def k16 : Class := { plain "java/lang/StringLatin1" (some 0) with
  accessFlags := 48
  interfaces := #[]
  cf := some (fileOf pool16 14 #[.nestMembers #[390, 221]] #[{ accessFlags := 0, nameIndex := 7, descriptorIndex := 8, attributes := #[] }, { accessFlags := 9, nameIndex := 252, descriptorIndex := 53, attributes := #[] }] 48 4 #[] #[{ accessFlags := 4120, nameIndex := 121, descriptorIndex := 122, attributes := #[] }])
  fields := #[{ name := "$assertionsDisabled", type := .boolean, accessFlags := 4120, slot := 0, constantValue := 0 }]
  methods := #[k16m0, k16m1]
  instanceTypes := #[]
  staticTypes := #[.boolean]
  resolved := Array.replicate 395 none
  statics := none }

def pool17 : Array CpInfo := pool [(2, .class_ 4), (1, u "java/lang/Object"), (0, u "<init>"), (0, u "()V"), (17, .class_ 26), (1, u "jdk/internal/util/Preconditions"), (6, u "checkIndex"), (21, .class_ 56), (0, u "jdk/internal/util/Preconditions$4"), (57, .class_ 115), (0, u "jdk/internal/util/Preconditions$1"), (7, u "SIOOBE_FORMATTER"), (0, u "Ljava/util/function/BiFunction;"), (0, .class_ 126), (0, u "jdk/internal/util/Preconditions$2"), (3, u "AIOOBE_FORMATTER"), (0, .class_ 132), (0, u "jdk/internal/util/Preconditions$3"), (3, u "IOOBE_FORMATTER"), (41, u "(IILjava/util/function/BiFunction;)I")] 15

def k17m0 : Method := { name := "<init>", desc := "()V", sig := { parameters := [], returnType := none }, accessFlags := 1, code := none }
def k17c1 : Code := { maxStack := 3, maxLocals := 3, code := jdk_41_method_11_code, exceptionTable := #[], attributes := #[] }
def k17m1 : Method := { name := "checkIndex", desc := "(IILjava/util/function/BiFunction;)I", sig := { parameters := [.int, .int, (.object "java/util/function/BiFunction")], returnType := some .int }, accessFlags := 9, code := some k17c1 }
/-- jdk/internal/util/Preconditions -/
def k17 : Class := { plain "jdk/internal/util/Preconditions" (some 0) with
  accessFlags := 33
  interfaces := #[]
  cf := some (fileOf pool17 24 #[.nestMembers #[55, 131, 125, 114]] #[{ accessFlags := 1, nameIndex := 5, descriptorIndex := 6, attributes := #[] }, { accessFlags := 9, nameIndex := 33, descriptorIndex := 178, attributes := #[] }] 33 2 #[] #[{ accessFlags := 25, nameIndex := 123, descriptorIndex := 124, attributes := #[] }, { accessFlags := 25, nameIndex := 130, descriptorIndex := 124, attributes := #[] }, { accessFlags := 25, nameIndex := 136, descriptorIndex := 124, attributes := #[] }])
  fields := #[{ name := "SIOOBE_FORMATTER", type := (.object "java/util/function/BiFunction"), accessFlags := 25, slot := 0, constantValue := 0 }, { name := "AIOOBE_FORMATTER", type := (.object "java/util/function/BiFunction"), accessFlags := 25, slot := 1, constantValue := 0 }, { name := "IOOBE_FORMATTER", type := (.object "java/util/function/BiFunction"), accessFlags := 25, slot := 2, constantValue := 0 }]
  methods := #[k17m0, k17m1]
  instanceTypes := #[]
  staticTypes := #[(.object "java/util/function/BiFunction"), (.object "java/util/function/BiFunction"), (.object "java/util/function/BiFunction")]
  resolved := Array.replicate 194 none
  statics := some 1 }

def pool18 : Array CpInfo := pool [(6, .class_ 8), (1, u "java/lang/Object"), (0, u "<init>"), (0, u "()V"), (1, .class_ 14), (1, u "java/lang/StringUTF16"), (31, u "$assertionsDisabled"), (0, u "Z"), (13, u "HI_BYTE_SHIFT"), (0, u "I"), (2, u "LO_BYTE_SHIFT"), (49, .methodref 12 116), (0, .nameAndType 117 118), (0, u "compress"), (0, u "([CI[BII)I"), (3, u "([CII)[B"), (138, u "coderFromArrayLen"), (0, u "([BI)B"), (106, .class_ 371), (1, u "java/lang/StringUTF16$LinesSpliterator"), (58, u "MAX_LENGTH"), (196, .class_ 628), (0, u "java/lang/StringUTF16$CodePointsSpliterator"), (0, .class_ 630), (0, u "java/lang/StringUTF16$CharsSpliterator")] 4

def k18m0 : Method := { name := "<init>", desc := "()V", sig := { parameters := [], returnType := none }, accessFlags := 0, code := none }
def k18c1 : Code := { maxStack := 2, maxLocals := 2, code := jdk_52_method_15_code, exceptionTable := #[], attributes := #[] }
def k18m1 : Method := { name := "coderFromArrayLen", desc := "([BI)B", sig := { parameters := [(.array .byte), .int], returnType := some .byte }, accessFlags := 8, code := some k18c1 }
def k18c2 : Code := { maxStack := 5, maxLocals := 6, code := jdk_52_method_16_code, exceptionTable := #[], attributes := #[] }
def k18m2 : Method := { name := "compress", desc := "([CII)[B", sig := { parameters := [(.array .char), .int, .int], returnType := some (.array .byte) }, accessFlags := 9, code := some k18c2 }
def k18c3 : Code := { maxStack := 3, maxLocals := 7, code := jdk_52_method_21_code, exceptionTable := #[], attributes := #[] }
def k18m3 : Method := { name := "compress", desc := "([CI[BII)I", sig := { parameters := [(.array .char), .int, (.array .byte), .int, .int], returnType := some .int }, accessFlags := 9, code := some k18c3 }
/-- java/lang/StringUTF16 -/
def k18 : Class := { plain "java/lang/StringUTF16" (some 0) with
  accessFlags := 48
  interfaces := #[]
  cf := some (fileOf pool18 12 #[.nestMembers #[627, 629, 369]] #[{ accessFlags := 0, nameIndex := 9, descriptorIndex := 10, attributes := #[] }, { accessFlags := 8, nameIndex := 261, descriptorIndex := 262, attributes := #[] }, { accessFlags := 9, nameIndex := 117, descriptorIndex := 122, attributes := #[] }, { accessFlags := 9, nameIndex := 117, descriptorIndex := 118, attributes := #[] }] 48 6 #[] #[{ accessFlags := 26, nameIndex := 61, descriptorIndex := 62, attributes := #[] }, { accessFlags := 26, nameIndex := 65, descriptorIndex := 62, attributes := #[] }, { accessFlags := 24, nameIndex := 430, descriptorIndex := 62, attributes := #[] }, { accessFlags := 4120, nameIndex := 46, descriptorIndex := 47, attributes := #[] }])
  fields := #[{ name := "HI_BYTE_SHIFT", type := .int, accessFlags := 26, slot := 0, constantValue := 0 }, { name := "LO_BYTE_SHIFT", type := .int, accessFlags := 26, slot := 1, constantValue := 0 }, { name := "MAX_LENGTH", type := .int, accessFlags := 24, slot := 2, constantValue := 0 }, { name := "$assertionsDisabled", type := .boolean, accessFlags := 4120, slot := 3, constantValue := 0 }]
  methods := #[k18m0, k18m1, k18m2, k18m3]
  instanceTypes := #[]
  staticTypes := #[.int, .int, .int, .boolean]
  resolved := Array.replicate 635 none
  statics := none }

def pool19 : Array CpInfo := pool [(9, u "<init>"), (6, .class_ 18), (1, u "java/lang/Object"), (0, u "()V"), (1, .class_ 23), (1, u "jdk/internal/util/ArraysSupport"), (0, u "LOG2_ARRAY_LONG_INDEX_SCALE"), (0, u "I"), (2, u "U"), (0, u "Ljdk/internal/misc/Unsafe;"), (8, u "BIG_ENDIAN"), (0, u "Z"), (8, u "LOG2_BYTE_BIT_SIZE"), (4, u "LOG2_ARRAY_INT_INDEX_SCALE"), (54, u "JLA"), (0, u "Ljdk/internal/access/JavaLangAccess;"), (11, u "LOG2_ARRAY_BOOLEAN_INDEX_SCALE"), (9, u "LOG2_ARRAY_BYTE_INDEX_SCALE"), (5, u "LOG2_ARRAY_CHAR_INDEX_SCALE"), (5, u "LOG2_ARRAY_SHORT_INDEX_SCALE"), (18, u "LOG2_ARRAY_FLOAT_INDEX_SCALE"), (24, u "LOG2_ARRAY_DOUBLE_INDEX_SCALE"), (89, u "T_BOOLEAN"), (2, u "T_CHAR"), (1, u "T_FLOAT"), (1, u "T_DOUBLE"), (1, u "T_BYTE"), (1, u "T_SHORT"), (1, u "T_INT"), (1, u "T_LONG"), (1, u "SOFT_MAX_ARRAY_LENGTH")] 83

def k19m0 : Method := { name := "<init>", desc := "()V", sig := { parameters := [], returnType := none }, accessFlags := 2, code := none }
/-- jdk/internal/util/ArraysSupport -/
def k19 : Class := { plain "jdk/internal/util/ArraysSupport" (some 0) with
  accessFlags := 33
  interfaces := #[]
  cf := some (fileOf pool19 21 #[] #[{ accessFlags := 2, nameIndex := 9, descriptorIndex := 19, attributes := #[] }] 33 16 #[] #[{ accessFlags := 24, nameIndex := 28, descriptorIndex := 29, attributes := #[] }, { accessFlags := 26, nameIndex := 38, descriptorIndex := 39, attributes := #[] }, { accessFlags := 25, nameIndex := 121, descriptorIndex := 25, attributes := #[] }, { accessFlags := 25, nameIndex := 131, descriptorIndex := 25, attributes := #[] }, { accessFlags := 25, nameIndex := 137, descriptorIndex := 25, attributes := #[] }, { accessFlags := 25, nameIndex := 143, descriptorIndex := 25, attributes := #[] }, { accessFlags := 25, nameIndex := 53, descriptorIndex := 25, attributes := #[] }, { accessFlags := 25, nameIndex := 24, descriptorIndex := 25, attributes := #[] }, { accessFlags := 25, nameIndex := 162, descriptorIndex := 25, attributes := #[] }, { accessFlags := 25, nameIndex := 187, descriptorIndex := 25, attributes := #[] }, { accessFlags := 26, nameIndex := 48, descriptorIndex := 25, attributes := #[] }, { accessFlags := 25, nameIndex := 277, descriptorIndex := 25, attributes := #[] }, { accessFlags := 25, nameIndex := 280, descriptorIndex := 25, attributes := #[] }, { accessFlags := 25, nameIndex := 282, descriptorIndex := 25, attributes := #[] }, { accessFlags := 25, nameIndex := 284, descriptorIndex := 25, attributes := #[] }, { accessFlags := 25, nameIndex := 286, descriptorIndex := 25, attributes := #[] }, { accessFlags := 25, nameIndex := 288, descriptorIndex := 25, attributes := #[] }, { accessFlags := 25, nameIndex := 290, descriptorIndex := 25, attributes := #[] }, { accessFlags := 25, nameIndex := 292, descriptorIndex := 25, attributes := #[] }, { accessFlags := 26, nameIndex := 108, descriptorIndex := 109, attributes := #[] }, { accessFlags := 25, nameIndex := 294, descriptorIndex := 25, attributes := #[] }])
  fields := #[{ name := "U", type := (.object "jdk/internal/misc/Unsafe"), accessFlags := 24, slot := 0, constantValue := 0 }, { name := "BIG_ENDIAN", type := .boolean, accessFlags := 26, slot := 1, constantValue := 0 }, { name := "LOG2_ARRAY_BOOLEAN_INDEX_SCALE", type := .int, accessFlags := 25, slot := 2, constantValue := 0 }, { name := "LOG2_ARRAY_BYTE_INDEX_SCALE", type := .int, accessFlags := 25, slot := 3, constantValue := 0 }, { name := "LOG2_ARRAY_CHAR_INDEX_SCALE", type := .int, accessFlags := 25, slot := 4, constantValue := 0 }, { name := "LOG2_ARRAY_SHORT_INDEX_SCALE", type := .int, accessFlags := 25, slot := 5, constantValue := 0 }, { name := "LOG2_ARRAY_INT_INDEX_SCALE", type := .int, accessFlags := 25, slot := 6, constantValue := 0 }, { name := "LOG2_ARRAY_LONG_INDEX_SCALE", type := .int, accessFlags := 25, slot := 7, constantValue := 0 }, { name := "LOG2_ARRAY_FLOAT_INDEX_SCALE", type := .int, accessFlags := 25, slot := 8, constantValue := 0 }, { name := "LOG2_ARRAY_DOUBLE_INDEX_SCALE", type := .int, accessFlags := 25, slot := 9, constantValue := 0 }, { name := "LOG2_BYTE_BIT_SIZE", type := .int, accessFlags := 26, slot := 10, constantValue := 0 }, { name := "T_BOOLEAN", type := .int, accessFlags := 25, slot := 11, constantValue := 0 }, { name := "T_CHAR", type := .int, accessFlags := 25, slot := 12, constantValue := 0 }, { name := "T_FLOAT", type := .int, accessFlags := 25, slot := 13, constantValue := 0 }, { name := "T_DOUBLE", type := .int, accessFlags := 25, slot := 14, constantValue := 0 }, { name := "T_BYTE", type := .int, accessFlags := 25, slot := 15, constantValue := 0 }, { name := "T_SHORT", type := .int, accessFlags := 25, slot := 16, constantValue := 0 }, { name := "T_INT", type := .int, accessFlags := 25, slot := 17, constantValue := 0 }, { name := "T_LONG", type := .int, accessFlags := 25, slot := 18, constantValue := 0 }, { name := "JLA", type := (.object "jdk/internal/access/JavaLangAccess"), accessFlags := 26, slot := 19, constantValue := 0 }, { name := "SOFT_MAX_ARRAY_LENGTH", type := .int, accessFlags := 25, slot := 20, constantValue := 0 }]
  methods := #[k19m0]
  instanceTypes := #[]
  staticTypes := #[(.object "jdk/internal/misc/Unsafe"), .boolean, .int, .int, .int, .int, .int, .int, .int, .int, .int, .int, .int, .int, .int, .int, .int, .int, .int, (.object "jdk/internal/access/JavaLangAccess"), .int]
  resolved := Array.replicate 378 none
  statics := none }

def pool20 : Array CpInfo := pool [(1, u "java/lang/Cloneable"), (0, .class_ 1), (0, u "java/lang/Object"), (0, .class_ 3)] 3

/-- java/lang/Cloneable -/
def k20 : Class := { plain "java/lang/Cloneable" (some 0) with
  accessFlags := 1537
  interfaces := #[]
  cf := some (fileOf pool20 2 #[] #[] 1537 4 #[] #[])
  fields := #[]
  methods := #[]
  instanceTypes := #[]
  staticTypes := #[]
  resolved := Array.replicate 8 none
  statics := none }

/-- the primitive byte -/
def k21 : Class := { plain "byte" none with kind := .primitive 'B', accessFlags := 0x411 }
/-- [B -/
def k22 : Class := { plain "[B" (some 0) with kind := .array 21 .byte, interfaces := #[20, 2], accessFlags := 1041 }

/-- the primitive char -/
def k23 : Class := { plain "char" none with kind := .primitive 'C', accessFlags := 0x411 }
/-- [C -/
def k24 : Class := { plain "[C" (some 0) with kind := .array 23 .char, interfaces := #[20, 2], accessFlags := 1041 }

/-- the primitive int -/
def k25 : Class := { plain "int" none with kind := .primitive 'I', accessFlags := 0x411 }
/-- [I -/
def k26 : Class := { plain "[I" (some 0) with kind := .array 25 .int, interfaces := #[20, 2], accessFlags := 1041 }

def heap : Heap := #[{ cls := 7, slots := #[.long 0, .int 1, .null, .int 0, .null, .int 0, .int 0], vm := .statics 7 },
  { cls := 17, slots := #[.null, .null, .null], vm := .statics 17 }]
def classes : Array Class := #[k0, k1, k2, k3, k4, k5, k6, k7, k8, k9, k10, k11, k12, k13, k14, k15, k16, k17, k18, k19, k20, k21, k22, k23, k24, k25, k26]
def interned : List (Array UInt16 × Addr) := []
def slotsUsed : Nat := 10
def theMethod : MethodId := ⟨1, 1⟩
def args0 : Array Value := #[.int 6, .int 16961, .int 17475]
def aboutOver (below : List Frame) : State where
  vm := { classes := classes, interned := interned.toArray }
  heap := heap
  slotsUsed := slotsUsed
  threads := #[{ frames := .invoking theMethod args0 :: below }]
def below0 : List Frame := [.native { method := ⟨0, 0⟩, args := #[] }]
def about1 : State := aboutOver below0
def p0 : Program := .bare "" "" ""
def e0 : Env := launch0.env 0 0 0
theorem w_frames : about1.frames = Frame.invoking theMethod args0 :: below0 := rfl
set_option maxRecDepth 65536 in
theorem w_args : argsFit about1.vm theMethod args0 = true := by decide +kernel
set_option maxRecDepth 65536 in
theorem w_heap : heapFits about1 = true := by decide +kernel
set_option maxRecDepth 65536 in
theorem w_runnable : about1.curStatus? = some .runnable := by decide +kernel
set_option maxRecDepth 65536 in
theorem w_alone : about1.alone = true := by decide +kernel
set_option maxRecDepth 65536 in
theorem w_named : about1.methodNamed? x = some theMethod := by decide +kernel
set_option maxRecDepth 65536 in
theorem w_hears : about1.hears theMethod below0 = true := by decide +kernel
set_option maxRecDepth 65536 in
theorem w_ripe : about1.ripe theMethod args0 below0 = true := by decide +kernel
theorem w_running : about1.status = .running := rfl
set_option maxRecDepth 65536 in
theorem w_room : about1.hasRoom e0.platform room_1 = true :=
  launch0.hasRoom_least _ room_1 (by decide +kernel) (by decide +kernel) (by decide +kernel) (by decide +kernel) (by decide +kernel) (by decide +kernel)
theorem allAtoms_all (ts : List Jvm.Cond) (a : Array Jvm.Value) (st : Jvm.State) : (allAtoms ts).before a st = ts.all (fun c => c.before a st) := by
  induction ts with
  | nil => rfl
  | cons c t ih =>
    show (Jvm.Cond.and c (allAtoms t)).before a st = _
    rw [Jvm.Cond.before_and, ih, List.all_cons]
def words1 : List Jvm.Cond := Jvm.Cond.code x code maxLocals ret :: tables_1
/-- a 'code' word, met by the world's own term for the bytes: nothing is compared byte by byte -/
theorem code_word {y : MethodName} {bytes : ByteArray} {mx : Nat} {rt : Option FieldType} {a : Array Value} {s : State} {m : MethodId} {meth : Method} {c : Code} (h1 : s.methodNamed? y = some m) (h2 : s.vm.method? m = some meth) (h3 : meth.code = some c) (h4 : c.code = bytes)
    (h5 : (c.maxLocals == mx && c.exceptionTable.isEmpty && decide (c.maxStack ≤ mostOperands) && decide (meth.sig.returnType = rt) && !meth.locks && decide (parseMethodDescriptor y.desc = some meth.sig)) = true) : (Jvm.Cond.code y bytes mx rt).before a s = true := by
  simp only [Bool.and_eq_true, beq_iff_eq, Bool.not_eq_true', decide_eq_true_eq] at h5
  obtain ⟨⟨⟨⟨⟨g1, g2⟩, g3⟩, g4⟩, g5⟩, g6⟩ := h5
  simp [Cond.before, Cond.holds, Cond.value, h1, h2, h3, h4, g1, g2, g3, g4, g5, g6]
def isCode : Jvm.Cond → Bool
  | .code _ _ _ _ => true
  | _ => false
theorem all_split {L : List Jvm.Cond} {P : Jvm.Cond → Bool} (h1 : L.all (fun c => isCode c || P c) = true) (h2 : ∀ c ∈ L.filter isCode, P c = true) : L.all P = true := by
  refine List.all_eq_true.mpr fun c hc => ?_
  have h := List.all_eq_true.mp h1 c hc
  rcases Bool.eq_false_or_eq_true (isCode c) with hi | hi
  · exact h2 c (List.mem_filter.mpr ⟨hc, hi⟩)
  · simpa [hi] using h
set_option maxRecDepth 65536 in
theorem w_c0 : (Jvm.Cond.code x code maxLocals ret).before args0 about1 = true := code_word (m := ⟨1, 1⟩) (meth := k1m1) (c := k1c1) (by decide +kernel) rfl rfl rfl (by decide +kernel)
set_option maxRecDepth 65536 in
theorem w_c1 : (Jvm.Cond.code ({ cls := "com/example/vestry/vestry/plan/PlanSectionToStringPinLaw", name := "mk", desc := "(II)Ljava/lang/String;" } : Jvm.MethodName) method_3_code (5 : Nat) (Option.some (Jvm.ClassFile.FieldType.object "java/lang/String"))).before args0 about1 = true := code_word (m := ⟨1, 2⟩) (meth := k1m2) (c := k1c2) (by decide +kernel) rfl rfl rfl (by decide +kernel)
set_option maxRecDepth 65536 in
theorem w_c2 : (Jvm.Cond.code ({ cls := "java/lang/String", name := "<init>", desc := "([C)V" } : Jvm.MethodName) jdk_42_method_3_code (2 : Nat) (Option.none : Option Jvm.ClassFile.FieldType)).before args0 about1 = true := code_word (m := ⟨7, 1⟩) (meth := k7m1) (c := k7c1) (by decide +kernel) rfl rfl rfl (by decide +kernel)
set_option maxRecDepth 65536 in
theorem w_c3 : (Jvm.Cond.code ({ cls := "java/lang/String", name := "<init>", desc := "([CIILjava/lang/Void;)V" } : Jvm.MethodName) jdk_42_method_149_code (6 : Nat) (Option.none : Option Jvm.ClassFile.FieldType)).before args0 about1 = true := code_word (m := ⟨7, 6⟩) (meth := k7m6) (c := k7c6) (by decide +kernel) rfl rfl rfl (by decide +kernel)
set_option maxRecDepth 65536 in
theorem w_c4 : (Jvm.Cond.code ({ cls := "java/lang/Object", name := "<init>", desc := "()V" } : Jvm.MethodName) object_method_1_code (1 : Nat) (Option.none : Option Jvm.ClassFile.FieldType)).before args0 about1 = true := code_word (m := ⟨0, 0⟩) (meth := k0m0) (c := k0c0) (by decide +kernel) rfl rfl rfl (by decide +kernel)
set_option maxRecDepth 65536 in
theorem w_c5 : (Jvm.Cond.code ({ cls := "com/example/vestry/vestry/plan/PlanSection", name := "<init>", desc := "(Ljava/lang/String;Ljava/lang/String;)V" } : Jvm.MethodName) prog_55_method_1_code (3 : Nat) (Option.none : Option Jvm.ClassFile.FieldType)).before args0 about1 = true := code_word (m := ⟨9, 0⟩) (meth := k9m0) (c := k9c0) (by decide +kernel) rfl rfl rfl (by decide +kernel)
set_option maxRecDepth 65536 in
theorem w_c6 : (Jvm.Cond.code ({ cls := "java/lang/Record", name := "<init>", desc := "()V" } : Jvm.MethodName) jdk_30_method_1_code (1 : Nat) (Option.none : Option Jvm.ClassFile.FieldType)).before args0 about1 = true := code_word (m := ⟨8, 0⟩) (meth := k8m0) (c := k8c0) (by decide +kernel) rfl rfl rfl (by decide +kernel)
set_option maxRecDepth 65536 in
theorem w_c7 : (Jvm.Cond.code ({ cls := "com/example/vestry/vestry/plan/PlanSection", name := "toString", desc := "()Ljava/lang/String;" } : Jvm.MethodName) prog_55_method_2_code (1 : Nat) (Option.some (Jvm.ClassFile.FieldType.object "java/lang/String"))).before args0 about1 = true := code_word (m := ⟨9, 1⟩) (meth := k9m1) (c := k9c1) (by decide +kernel) rfl rfl rfl (by decide +kernel)
set_option maxRecDepth 65536 in
theorem w_c8 : (Jvm.Cond.code ({ cls := "java/lang/StringBuilder", name := "<init>", desc := "()V" } : Jvm.MethodName) jdk_67_method_1_code (1 : Nat) (Option.none : Option Jvm.ClassFile.FieldType)).before args0 about1 = true := code_word (m := ⟨12, 0⟩) (meth := k12m0) (c := k12c0) (by decide +kernel) rfl rfl rfl (by decide +kernel)
set_option maxRecDepth 65536 in
theorem w_c9 : (Jvm.Cond.code ({ cls := "java/lang/AbstractStringBuilder", name := "<init>", desc := "(I)V" } : Jvm.MethodName) jdk_68_method_2_code (2 : Nat) (Option.none : Option Jvm.ClassFile.FieldType)).before args0 about1 = true := code_word (m := ⟨11, 1⟩) (meth := k11m1) (c := k11c1) (by decide +kernel) rfl rfl rfl (by decide +kernel)
set_option maxRecDepth 65536 in
theorem w_c10 : (Jvm.Cond.code ({ cls := "java/lang/StringBuilder", name := "append", desc := "(Ljava/lang/String;)Ljava/lang/StringBuilder;" } : Jvm.MethodName) jdk_67_method_7_code (2 : Nat) (Option.some (Jvm.ClassFile.FieldType.object "java/lang/StringBuilder"))).before args0 about1 = true := code_word (m := ⟨12, 1⟩) (meth := k12m1) (c := k12c1) (by decide +kernel) rfl rfl rfl (by decide +kernel)
set_option maxRecDepth 65536 in
theorem w_c11 : (Jvm.Cond.code ({ cls := "java/lang/AbstractStringBuilder", name := "append", desc := "(Ljava/lang/String;)Ljava/lang/AbstractStringBuilder;" } : Jvm.MethodName) jdk_68_method_22_code (3 : Nat) (Option.some (Jvm.ClassFile.FieldType.object "java/lang/AbstractStringBuilder"))).before args0 about1 = true := code_word (m := ⟨11, 4⟩) (meth := k11m4) (c := k11c4) (by decide +kernel) rfl rfl rfl (by decide +kernel)
set_option maxRecDepth 65536 in
theorem w_c12 : (Jvm.Cond.code ({ cls := "java/lang/String", name := "length", desc := "()I" } : Jvm.MethodName) jdk_42_method_54_code (1 : Nat) (Option.some Jvm.ClassFile.FieldType.int)).before args0 about1 = true := code_word (m := ⟨7, 3⟩) (meth := k7m3) (c := k7c3) (by decide +kernel) rfl rfl rfl (by decide +kernel)
set_option maxRecDepth 65536 in
theorem w_c13 : (Jvm.Cond.code ({ cls := "java/lang/String", name := "coder", desc := "()B" } : Jvm.MethodName) jdk_42_method_152_code (1 : Nat) (Option.some Jvm.ClassFile.FieldType.byte)).before args0 about1 = true := code_word (m := ⟨7, 8⟩) (meth := k7m8) (c := k7c8) (by decide +kernel) rfl rfl rfl (by decide +kernel)
set_option maxRecDepth 65536 in
theorem w_c14 : (Jvm.Cond.code ({ cls := "java/lang/AbstractStringBuilder", name := "ensureCapacityInternal", desc := "(I)V" } : Jvm.MethodName) jdk_68_method_9_code (3 : Nat) (Option.none : Option Jvm.ClassFile.FieldType)).before args0 about1 = true := code_word (m := ⟨11, 3⟩) (meth := k11m3) (c := k11c3) (by decide +kernel) rfl rfl rfl (by decide +kernel)
set_option maxRecDepth 65536 in
theorem w_c15 : (Jvm.Cond.code ({ cls := "java/lang/AbstractStringBuilder", name := "putStringAt", desc := "(ILjava/lang/String;)V" } : Jvm.MethodName) jdk_68_method_73_code (3 : Nat) (Option.none : Option Jvm.ClassFile.FieldType)).before args0 about1 = true := code_word (m := ⟨11, 9⟩) (meth := k11m9) (c := k11c9) (by decide +kernel) rfl rfl rfl (by decide +kernel)
set_option maxRecDepth 65536 in
theorem w_c16 : (Jvm.Cond.code ({ cls := "java/lang/AbstractStringBuilder", name := "inflateIfNeededFor", desc := "(Ljava/lang/String;)V" } : Jvm.MethodName) jdk_68_method_71_code (2 : Nat) (Option.none : Option Jvm.ClassFile.FieldType)).before args0 about1 = true := code_word (m := ⟨11, 8⟩) (meth := k11m8) (c := k11c8) (by decide +kernel) rfl rfl rfl (by decide +kernel)
set_option maxRecDepth 65536 in
theorem w_c17 : (Jvm.Cond.code ({ cls := "java/lang/String", name := "getBytes", desc := "([BIB)V" } : Jvm.MethodName) jdk_42_method_147_code (4 : Nat) (Option.none : Option Jvm.ClassFile.FieldType)).before args0 about1 = true := code_word (m := ⟨7, 5⟩) (meth := k7m5) (c := k7c5) (by decide +kernel) rfl rfl rfl (by decide +kernel)
set_option maxRecDepth 65536 in
theorem w_c18 : (Jvm.Cond.code ({ cls := "java/lang/StringBuilder", name := "toString", desc := "()Ljava/lang/String;" } : Jvm.MethodName) jdk_67_method_42_code (1 : Nat) (Option.some (Jvm.ClassFile.FieldType.object "java/lang/String"))).before args0 about1 = true := code_word (m := ⟨12, 2⟩) (meth := k12m2) (c := k12c2) (by decide +kernel) rfl rfl rfl (by decide +kernel)
set_option maxRecDepth 65536 in
theorem w_c19 : (Jvm.Cond.code ({ cls := "java/lang/String", name := "<init>", desc := "(Ljava/lang/StringBuilder;)V" } : Jvm.MethodName) jdk_42_method_53_code (2 : Nat) (Option.none : Option Jvm.ClassFile.FieldType)).before args0 about1 = true := code_word (m := ⟨7, 2⟩) (meth := k7m2) (c := k7c2) (by decide +kernel) rfl rfl rfl (by decide +kernel)
set_option maxRecDepth 65536 in
theorem w_c20 : (Jvm.Cond.code ({ cls := "java/lang/String", name := "<init>", desc := "(Ljava/lang/AbstractStringBuilder;Ljava/lang/Void;)V" } : Jvm.MethodName) jdk_42_method_150_code (5 : Nat) (Option.none : Option Jvm.ClassFile.FieldType)).before args0 about1 = true := code_word (m := ⟨7, 7⟩) (meth := k7m7) (c := k7c7) (by decide +kernel) rfl rfl rfl (by decide +kernel)
set_option maxRecDepth 65536 in
theorem w_c21 : (Jvm.Cond.code ({ cls := "java/lang/AbstractStringBuilder", name := "getValue", desc := "()[B" } : Jvm.MethodName) jdk_68_method_64_code (1 : Nat) (Option.some (Jvm.ClassFile.FieldType.array Jvm.ClassFile.FieldType.byte))).before args0 about1 = true := code_word (m := ⟨11, 6⟩) (meth := k11m6) (c := k11c6) (by decide +kernel) rfl rfl rfl (by decide +kernel)
set_option maxRecDepth 65536 in
theorem w_c22 : (Jvm.Cond.code ({ cls := "java/lang/StringBuilder", name := "length", desc := "()I" } : Jvm.MethodName) jdk_67_method_93_code (1 : Nat) (Option.some Jvm.ClassFile.FieldType.int)).before args0 about1 = true := code_word (m := ⟨12, 3⟩) (meth := k12m3) (c := k12c3) (by decide +kernel) rfl rfl rfl (by decide +kernel)
set_option maxRecDepth 65536 in
theorem w_c23 : (Jvm.Cond.code ({ cls := "java/lang/AbstractStringBuilder", name := "length", desc := "()I" } : Jvm.MethodName) jdk_68_method_6_code (1 : Nat) (Option.some Jvm.ClassFile.FieldType.int)).before args0 about1 = true := code_word (m := ⟨11, 2⟩) (meth := k11m2) (c := k11c2) (by decide +kernel) rfl rfl rfl (by decide +kernel)
set_option maxRecDepth 65536 in
theorem w_c24 : (Jvm.Cond.code ({ cls := "java/lang/AbstractStringBuilder", name := "isLatin1", desc := "()Z" } : Jvm.MethodName) jdk_68_method_68_code (1 : Nat) (Option.some Jvm.ClassFile.FieldType.boolean)).before args0 about1 = true := code_word (m := ⟨11, 7⟩) (meth := k11m7) (c := k11c7) (by decide +kernel) rfl rfl rfl (by decide +kernel)
set_option maxRecDepth 65536 in
theorem w_c25 : (Jvm.Cond.code ({ cls := "java/util/Arrays", name := "copyOfRange", desc := "([BII)[B" } : Jvm.MethodName) jdk_65_method_132_code (3 : Nat) (Option.some (Jvm.ClassFile.FieldType.array Jvm.ClassFile.FieldType.byte))).before args0 about1 = true := code_word (m := ⟨14, 2⟩) (meth := k14m2) (c := k14c2) (by decide +kernel) rfl rfl rfl (by decide +kernel)
set_option maxRecDepth 65536 in
theorem w_c26 : (Jvm.Cond.code ({ cls := "java/util/Arrays", name := "copyOfRangeByte", desc := "([BII)[B" } : Jvm.MethodName) jdk_65_method_133_code (5 : Nat) (Option.some (Jvm.ClassFile.FieldType.array Jvm.ClassFile.FieldType.byte))).before args0 about1 = true := code_word (m := ⟨14, 3⟩) (meth := k14m3) (c := k14c3) (by decide +kernel) rfl rfl rfl (by decide +kernel)
set_option maxRecDepth 65536 in
theorem w_c27 : (Jvm.Cond.code ({ cls := "java/util/Arrays", name := "checkLength", desc := "(II)V" } : Jvm.MethodName) jdk_65_method_131_code (2 : Nat) (Option.none : Option Jvm.ClassFile.FieldType)).before args0 about1 = true := code_word (m := ⟨14, 1⟩) (meth := k14m1) (c := k14c1) (by decide +kernel) rfl rfl rfl (by decide +kernel)
set_option maxRecDepth 65536 in
theorem w_c28 : (Jvm.Cond.code ({ cls := "java/lang/Math", name := "min", desc := "(II)I" } : Jvm.MethodName) jdk_29_method_69_code (2 : Nat) (Option.some Jvm.ClassFile.FieldType.int)).before args0 about1 = true := code_word (m := ⟨15, 1⟩) (meth := k15m1) (c := k15c1) (by decide +kernel) rfl rfl rfl (by decide +kernel)
set_option maxRecDepth 65536 in
theorem w_c29 : (Jvm.Cond.code ({ cls := "com/example/vestry/vestry/plan/PlanSectionToStringPinLaw", name := "pre", desc := "(Ljava/lang/String;Ljava/lang/String;I)Z" } : Jvm.MethodName) method_4_code (4 : Nat) (Option.some Jvm.ClassFile.FieldType.boolean)).before args0 about1 = true := code_word (m := ⟨1, 3⟩) (meth := k1m3) (c := k1c3) (by decide +kernel) rfl rfl rfl (by decide +kernel)
set_option maxRecDepth 65536 in
theorem w_c30 : (Jvm.Cond.code ({ cls := "java/lang/String", name := "charAt", desc := "(I)C" } : Jvm.MethodName) jdk_42_method_56_code (2 : Nat) (Option.some Jvm.ClassFile.FieldType.char)).before args0 about1 = true := code_word (m := ⟨7, 4⟩) (meth := k7m4) (c := k7c4) (by decide +kernel) rfl rfl rfl (by decide +kernel)
set_option maxRecDepth 65536 in
theorem w_c31 : (Jvm.Cond.code ({ cls := "java/lang/String", name := "isLatin1", desc := "()Z" } : Jvm.MethodName) jdk_42_method_154_code (1 : Nat) (Option.some Jvm.ClassFile.FieldType.boolean)).before args0 about1 = true := code_word (m := ⟨7, 9⟩) (meth := k7m9) (c := k7c9) (by decide +kernel) rfl rfl rfl (by decide +kernel)
set_option maxRecDepth 65536 in
theorem w_c32 : (Jvm.Cond.code ({ cls := "java/lang/StringLatin1", name := "charAt", desc := "([BI)C" } : Jvm.MethodName) jdk_43_method_2_code (2 : Nat) (Option.some Jvm.ClassFile.FieldType.char)).before args0 about1 = true := code_word (m := ⟨16, 1⟩) (meth := k16m1) (c := k16c1) (by decide +kernel) rfl rfl rfl (by decide +kernel)
set_option maxRecDepth 65536 in
theorem w_c33 : (Jvm.Cond.code ({ cls := "java/lang/String", name := "checkIndex", desc := "(II)V" } : Jvm.MethodName) jdk_42_method_155_code (2 : Nat) (Option.none : Option Jvm.ClassFile.FieldType)).before args0 about1 = true := code_word (m := ⟨7, 10⟩) (meth := k7m10) (c := k7c10) (by decide +kernel) rfl rfl rfl (by decide +kernel)
set_option maxRecDepth 65536 in
theorem w_c34 : (Jvm.Cond.code ({ cls := "jdk/internal/util/Preconditions", name := "checkIndex", desc := "(IILjava/util/function/BiFunction;)I" } : Jvm.MethodName) jdk_41_method_11_code (3 : Nat) (Option.some Jvm.ClassFile.FieldType.int)).before args0 about1 = true := code_word (m := ⟨17, 1⟩) (meth := k17m1) (c := k17c1) (by decide +kernel) rfl rfl rfl (by decide +kernel)
set_option maxRecDepth 65536 in
theorem w_c35 : (Jvm.Cond.code ({ cls := "java/lang/StringUTF16", name := "compress", desc := "([CII)[B" } : Jvm.MethodName) jdk_52_method_16_code (6 : Nat) (Option.some (Jvm.ClassFile.FieldType.array Jvm.ClassFile.FieldType.byte))).before args0 about1 = true := code_word (m := ⟨18, 2⟩) (meth := k18m2) (c := k18c2) (by decide +kernel) rfl rfl rfl (by decide +kernel)
set_option maxRecDepth 65536 in
theorem w_c36 : (Jvm.Cond.code ({ cls := "java/lang/StringUTF16", name := "compress", desc := "([CI[BII)I" } : Jvm.MethodName) jdk_52_method_21_code (7 : Nat) (Option.some Jvm.ClassFile.FieldType.int)).before args0 about1 = true := code_word (m := ⟨18, 3⟩) (meth := k18m3) (c := k18c3) (by decide +kernel) rfl rfl rfl (by decide +kernel)
set_option maxRecDepth 65536 in
theorem w_c37 : (Jvm.Cond.code ({ cls := "java/lang/StringUTF16", name := "coderFromArrayLen", desc := "([BI)B" } : Jvm.MethodName) jdk_52_method_15_code (2 : Nat) (Option.some Jvm.ClassFile.FieldType.byte)).before args0 about1 = true := code_word (m := ⟨18, 1⟩) (meth := k18m1) (c := k18c1) (by decide +kernel) rfl rfl rfl (by decide +kernel)
set_option maxRecDepth 65536 in
theorem w_c38 : (Jvm.Cond.code ({ cls := "java/lang/AbstractStringBuilder", name := "appendNull", desc := "()Ljava/lang/AbstractStringBuilder;" } : Jvm.MethodName) jdk_68_method_26_code (3 : Nat) (Option.some (Jvm.ClassFile.FieldType.object "java/lang/AbstractStringBuilder"))).before args0 about1 = true := code_word (m := ⟨11, 5⟩) (meth := k11m5) (c := k11c5) (by decide +kernel) rfl rfl rfl (by decide +kernel)
def codes1 : List Jvm.Cond := [Jvm.Cond.code x code maxLocals ret, Jvm.Cond.code ({ cls := "com/example/vestry/vestry/plan/PlanSectionToStringPinLaw", name := "mk", desc := "(II)Ljava/lang/String;" } : Jvm.MethodName) method_3_code (5 : Nat) (Option.some (Jvm.ClassFile.FieldType.object "java/lang/String")), Jvm.Cond.code ({ cls := "java/lang/String", name := "<init>", desc := "([C)V" } : Jvm.MethodName) jdk_42_method_3_code (2 : Nat) (Option.none : Option Jvm.ClassFile.FieldType), Jvm.Cond.code ({ cls := "java/lang/String", name := "<init>", desc := "([CIILjava/lang/Void;)V" } : Jvm.MethodName) jdk_42_method_149_code (6 : Nat) (Option.none : Option Jvm.ClassFile.FieldType), Jvm.Cond.code ({ cls := "java/lang/Object", name := "<init>", desc := "()V" } : Jvm.MethodName) object_method_1_code (1 : Nat) (Option.none : Option Jvm.ClassFile.FieldType), Jvm.Cond.code ({ cls := "com/example/vestry/vestry/plan/PlanSection", name := "<init>", desc := "(Ljava/lang/String;Ljava/lang/String;)V" } : Jvm.MethodName) prog_55_method_1_code (3 : Nat) (Option.none : Option Jvm.ClassFile.FieldType), Jvm.Cond.code ({ cls := "java/lang/Record", name := "<init>", desc := "()V" } : Jvm.MethodName) jdk_30_method_1_code (1 : Nat) (Option.none : Option Jvm.ClassFile.FieldType), Jvm.Cond.code ({ cls := "com/example/vestry/vestry/plan/PlanSection", name := "toString", desc := "()Ljava/lang/String;" } : Jvm.MethodName) prog_55_method_2_code (1 : Nat) (Option.some (Jvm.ClassFile.FieldType.object "java/lang/String")), Jvm.Cond.code ({ cls := "java/lang/StringBuilder", name := "<init>", desc := "()V" } : Jvm.MethodName) jdk_67_method_1_code (1 : Nat) (Option.none : Option Jvm.ClassFile.FieldType), Jvm.Cond.code ({ cls := "java/lang/AbstractStringBuilder", name := "<init>", desc := "(I)V" } : Jvm.MethodName) jdk_68_method_2_code (2 : Nat) (Option.none : Option Jvm.ClassFile.FieldType), Jvm.Cond.code ({ cls := "java/lang/StringBuilder", name := "append", desc := "(Ljava/lang/String;)Ljava/lang/StringBuilder;" } : Jvm.MethodName) jdk_67_method_7_code (2 : Nat) (Option.some (Jvm.ClassFile.FieldType.object "java/lang/StringBuilder")), Jvm.Cond.code ({ cls := "java/lang/AbstractStringBuilder", name := "append", desc := "(Ljava/lang/String;)Ljava/lang/AbstractStringBuilder;" } : Jvm.MethodName) jdk_68_method_22_code (3 : Nat) (Option.some (Jvm.ClassFile.FieldType.object "java/lang/AbstractStringBuilder")), Jvm.Cond.code ({ cls := "java/lang/String", name := "length", desc := "()I" } : Jvm.MethodName) jdk_42_method_54_code (1 : Nat) (Option.some Jvm.ClassFile.FieldType.int), Jvm.Cond.code ({ cls := "java/lang/String", name := "coder", desc := "()B" } : Jvm.MethodName) jdk_42_method_152_code (1 : Nat) (Option.some Jvm.ClassFile.FieldType.byte), Jvm.Cond.code ({ cls := "java/lang/AbstractStringBuilder", name := "ensureCapacityInternal", desc := "(I)V" } : Jvm.MethodName) jdk_68_method_9_code (3 : Nat) (Option.none : Option Jvm.ClassFile.FieldType), Jvm.Cond.code ({ cls := "java/lang/AbstractStringBuilder", name := "putStringAt", desc := "(ILjava/lang/String;)V" } : Jvm.MethodName) jdk_68_method_73_code (3 : Nat) (Option.none : Option Jvm.ClassFile.FieldType), Jvm.Cond.code ({ cls := "java/lang/AbstractStringBuilder", name := "inflateIfNeededFor", desc := "(Ljava/lang/String;)V" } : Jvm.MethodName) jdk_68_method_71_code (2 : Nat) (Option.none : Option Jvm.ClassFile.FieldType), Jvm.Cond.code ({ cls := "java/lang/String", name := "getBytes", desc := "([BIB)V" } : Jvm.MethodName) jdk_42_method_147_code (4 : Nat) (Option.none : Option Jvm.ClassFile.FieldType), Jvm.Cond.code ({ cls := "java/lang/StringBuilder", name := "toString", desc := "()Ljava/lang/String;" } : Jvm.MethodName) jdk_67_method_42_code (1 : Nat) (Option.some (Jvm.ClassFile.FieldType.object "java/lang/String")), Jvm.Cond.code ({ cls := "java/lang/String", name := "<init>", desc := "(Ljava/lang/StringBuilder;)V" } : Jvm.MethodName) jdk_42_method_53_code (2 : Nat) (Option.none : Option Jvm.ClassFile.FieldType), Jvm.Cond.code ({ cls := "java/lang/String", name := "<init>", desc := "(Ljava/lang/AbstractStringBuilder;Ljava/lang/Void;)V" } : Jvm.MethodName) jdk_42_method_150_code (5 : Nat) (Option.none : Option Jvm.ClassFile.FieldType), Jvm.Cond.code ({ cls := "java/lang/AbstractStringBuilder", name := "getValue", desc := "()[B" } : Jvm.MethodName) jdk_68_method_64_code (1 : Nat) (Option.some (Jvm.ClassFile.FieldType.array Jvm.ClassFile.FieldType.byte)), Jvm.Cond.code ({ cls := "java/lang/StringBuilder", name := "length", desc := "()I" } : Jvm.MethodName) jdk_67_method_93_code (1 : Nat) (Option.some Jvm.ClassFile.FieldType.int), Jvm.Cond.code ({ cls := "java/lang/AbstractStringBuilder", name := "length", desc := "()I" } : Jvm.MethodName) jdk_68_method_6_code (1 : Nat) (Option.some Jvm.ClassFile.FieldType.int), Jvm.Cond.code ({ cls := "java/lang/AbstractStringBuilder", name := "isLatin1", desc := "()Z" } : Jvm.MethodName) jdk_68_method_68_code (1 : Nat) (Option.some Jvm.ClassFile.FieldType.boolean), Jvm.Cond.code ({ cls := "java/util/Arrays", name := "copyOfRange", desc := "([BII)[B" } : Jvm.MethodName) jdk_65_method_132_code (3 : Nat) (Option.some (Jvm.ClassFile.FieldType.array Jvm.ClassFile.FieldType.byte)), Jvm.Cond.code ({ cls := "java/util/Arrays", name := "copyOfRangeByte", desc := "([BII)[B" } : Jvm.MethodName) jdk_65_method_133_code (5 : Nat) (Option.some (Jvm.ClassFile.FieldType.array Jvm.ClassFile.FieldType.byte)), Jvm.Cond.code ({ cls := "java/util/Arrays", name := "checkLength", desc := "(II)V" } : Jvm.MethodName) jdk_65_method_131_code (2 : Nat) (Option.none : Option Jvm.ClassFile.FieldType), Jvm.Cond.code ({ cls := "java/lang/Math", name := "min", desc := "(II)I" } : Jvm.MethodName) jdk_29_method_69_code (2 : Nat) (Option.some Jvm.ClassFile.FieldType.int), Jvm.Cond.code ({ cls := "com/example/vestry/vestry/plan/PlanSectionToStringPinLaw", name := "pre", desc := "(Ljava/lang/String;Ljava/lang/String;I)Z" } : Jvm.MethodName) method_4_code (4 : Nat) (Option.some Jvm.ClassFile.FieldType.boolean), Jvm.Cond.code ({ cls := "java/lang/String", name := "charAt", desc := "(I)C" } : Jvm.MethodName) jdk_42_method_56_code (2 : Nat) (Option.some Jvm.ClassFile.FieldType.char), Jvm.Cond.code ({ cls := "java/lang/String", name := "isLatin1", desc := "()Z" } : Jvm.MethodName) jdk_42_method_154_code (1 : Nat) (Option.some Jvm.ClassFile.FieldType.boolean), Jvm.Cond.code ({ cls := "java/lang/StringLatin1", name := "charAt", desc := "([BI)C" } : Jvm.MethodName) jdk_43_method_2_code (2 : Nat) (Option.some Jvm.ClassFile.FieldType.char), Jvm.Cond.code ({ cls := "java/lang/String", name := "checkIndex", desc := "(II)V" } : Jvm.MethodName) jdk_42_method_155_code (2 : Nat) (Option.none : Option Jvm.ClassFile.FieldType), Jvm.Cond.code ({ cls := "jdk/internal/util/Preconditions", name := "checkIndex", desc := "(IILjava/util/function/BiFunction;)I" } : Jvm.MethodName) jdk_41_method_11_code (3 : Nat) (Option.some Jvm.ClassFile.FieldType.int), Jvm.Cond.code ({ cls := "java/lang/StringUTF16", name := "compress", desc := "([CII)[B" } : Jvm.MethodName) jdk_52_method_16_code (6 : Nat) (Option.some (Jvm.ClassFile.FieldType.array Jvm.ClassFile.FieldType.byte)), Jvm.Cond.code ({ cls := "java/lang/StringUTF16", name := "compress", desc := "([CI[BII)I" } : Jvm.MethodName) jdk_52_method_21_code (7 : Nat) (Option.some Jvm.ClassFile.FieldType.int), Jvm.Cond.code ({ cls := "java/lang/StringUTF16", name := "coderFromArrayLen", desc := "([BI)B" } : Jvm.MethodName) jdk_52_method_15_code (2 : Nat) (Option.some Jvm.ClassFile.FieldType.byte), Jvm.Cond.code ({ cls := "java/lang/AbstractStringBuilder", name := "appendNull", desc := "()Ljava/lang/AbstractStringBuilder;" } : Jvm.MethodName) jdk_68_method_26_code (3 : Nat) (Option.some (Jvm.ClassFile.FieldType.object "java/lang/AbstractStringBuilder"))]
set_option maxRecDepth 65536 in
theorem codes_eq : words1.filter isCode = codes1 := rfl
theorem w_codes : ∀ c ∈ words1.filter isCode, c.before args0 about1 = true := by
  rw [codes_eq]
  intro c hc
  simp only [codes1, List.mem_cons, List.not_mem_nil, or_false] at hc
  rcases hc with rfl | rfl | rfl | rfl | rfl | rfl | rfl | rfl | rfl | rfl | rfl | rfl | rfl | rfl | rfl | rfl | rfl | rfl | rfl | rfl | rfl | rfl | rfl | rfl | rfl | rfl | rfl | rfl | rfl | rfl | rfl | rfl | rfl | rfl | rfl | rfl | rfl | rfl | rfl
  · exact w_c0
  · exact w_c1
  · exact w_c2
  · exact w_c3
  · exact w_c4
  · exact w_c5
  · exact w_c6
  · exact w_c7
  · exact w_c8
  · exact w_c9
  · exact w_c10
  · exact w_c11
  · exact w_c12
  · exact w_c13
  · exact w_c14
  · exact w_c15
  · exact w_c16
  · exact w_c17
  · exact w_c18
  · exact w_c19
  · exact w_c20
  · exact w_c21
  · exact w_c22
  · exact w_c23
  · exact w_c24
  · exact w_c25
  · exact w_c26
  · exact w_c27
  · exact w_c28
  · exact w_c29
  · exact w_c30
  · exact w_c31
  · exact w_c32
  · exact w_c33
  · exact w_c34
  · exact w_c35
  · exact w_c36
  · exact w_c37
  · exact w_c38
set_option maxRecDepth 65536 in
theorem w_t1 : (words1.take 24).all (fun c => isCode c || c.before args0 about1) = true := by decide +kernel
set_option maxRecDepth 65536 in
theorem w_t2 : ((words1.drop 24).take 24).all (fun c => isCode c || c.before args0 about1) = true := by decide +kernel
set_option maxRecDepth 65536 in
theorem w_t3 : (((words1.drop 24).drop 24).take 24).all (fun c => isCode c || c.before args0 about1) = true := by decide +kernel
set_option maxRecDepth 65536 in
theorem w_t4 : ((((words1.drop 24).drop 24).drop 24).take 24).all (fun c => isCode c || c.before args0 about1) = true := by decide +kernel
set_option maxRecDepth 65536 in
theorem w_t5 : (((((words1.drop 24).drop 24).drop 24).drop 24).take 24).all (fun c => isCode c || c.before args0 about1) = true := by decide +kernel
set_option maxRecDepth 65536 in
theorem w_t6 : ((((((words1.drop 24).drop 24).drop 24).drop 24).drop 24).take 24).all (fun c => isCode c || c.before args0 about1) = true := by decide +kernel
set_option maxRecDepth 65536 in
theorem w_t7 : (((((((words1.drop 24).drop 24).drop 24).drop 24).drop 24).drop 24).take 24).all (fun c => isCode c || c.before args0 about1) = true := by decide +kernel
set_option maxRecDepth 65536 in
theorem w_t8 : ((((((((words1.drop 24).drop 24).drop 24).drop 24).drop 24).drop 24).drop 24).take 24).all (fun c => isCode c || c.before args0 about1) = true := by decide +kernel
set_option maxRecDepth 65536 in
theorem w_t9 : ((((((((words1.drop 24).drop 24).drop 24).drop 24).drop 24).drop 24).drop 24).drop 24).all (fun c => isCode c || c.before args0 about1) = true := by decide +kernel
theorem w_tables : (allAtoms (Jvm.Cond.code x code maxLocals ret :: tables_1)).before args0 about1 = true := by
  rw [allAtoms_all]
  show words1.all (fun c => c.before args0 about1) = true
  refine all_split ?_ w_codes
  rw [← List.take_append_drop 24 words1, List.all_append, w_t1, ← List.take_append_drop 24 (words1.drop 24), List.all_append, w_t2, ← List.take_append_drop 24 ((words1.drop 24).drop 24), List.all_append, w_t3, ← List.take_append_drop 24 (((words1.drop 24).drop 24).drop 24), List.all_append, w_t4, ← List.take_append_drop 24 ((((words1.drop 24).drop 24).drop 24).drop 24), List.all_append, w_t5, ← List.take_append_drop 24 (((((words1.drop 24).drop 24).drop 24).drop 24).drop 24), List.all_append, w_t6, ← List.take_append_drop 24 ((((((words1.drop 24).drop 24).drop 24).drop 24).drop 24).drop 24), List.all_append, w_t7, ← List.take_append_drop 24 (((((((words1.drop 24).drop 24).drop 24).drop 24).drop 24).drop 24).drop 24), List.all_append, w_t8, w_t9]
  rfl
set_option maxRecDepth 65536 in
theorem w_rest : rest_1_c.before args0 about1 = true := by decide +kernel
set_option maxRecDepth 65536 in
theorem w_case : (Jvm.Cond.and given_1 narrow_1).before args0 about1 = true := by decide +kernel
set_option maxRecDepth 65536 in
theorem w_consts : constsHeld consts_1 about1 := Jvm.Lit.constsHeldB_iff.mp (by decide +kernel)
theorem w_applies : (headSpec (Jvm.Cond.code x code maxLocals ret :: tables_1) room_1).applies x e0.platform about1 = true :=
  (Spec.applies_iff w_frames).mpr ⟨w_running, w_runnable, w_alone, w_named, w_hears, w_ripe, w_room, w_tables⟩
theorem atStart : AtStart classFile x code maxLocals ret World_1 tables_1 room_1 Calls_1 rest_1 Pre_1 launch0 p0 e0 about1 theMethod args0 below0 :=
  ⟨lists_1, trivial, launch0.admits_env _ _ _, launch0.least_env, fairChoices_fair.cas, fairChoices_fair.clock, w_frames, w_args, w_heap, w_applies, ⟨w_consts, trivial⟩, w_rest, w_case⟩
end start1
theorem witness_1 : WitnessClaimed_1 := ⟨start1.p0, start1.e0, start1.about1, start1.theMethod, start1.args0, start1.below0, start1.atStart⟩
end Jvm.Pilot.@@N@@
