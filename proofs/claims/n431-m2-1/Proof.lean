import JvmDerived
import JvmDerived.Pilot.@@N@@Statement
import JvmDerived.Pilot.@@N@@Code
set_option linter.unusedVariables false
set_option linter.unusedSimpArgs false
/- laws to paste: Road.backV (cut by pick.py; bodies as the Statement names them) -/
namespace Jvm.Pilot.@@N@@
namespace StrChars
open Jvm Sem ClassFile Op Lib Jvm.Stand Jvm.Free.XT Jvm.Free.ALB Jvm.Free.JM Jvm.Free
open Jvm.Lib.Cold (StaticIs)
/-- a char array whose places are chars -/
def Ch (a : Addr) (A : Cell) (U : State) : Prop := Arr .char a A U ∧ Typed .char A
theorem Ch.mv {a : Addr} {A : Cell} {U U' : State} (h : Ch a A U) (hal : U.vm.Alike U'.vm) (hh : U'.heap = U.heap) : Ch a A U' := ⟨h.1.mv hal hh, h.2⟩
theorem Ch.keep {a : Addr} {A : Cell} {U U' : State} (h : Ch a A U) (hal : U.vm.Alike U'.vm) (hk : U'.heap[a]? = some A) : Ch a A U' := ⟨h.1.keep hal hk, h.2⟩
/-- what place i of a char[]'s cell holds -/
def cv (A : Cell) (i : Nat) : Int32 := match A.slots[i]? with | some (.int x) => x | _ => 0
theorem Ch.get {a : Addr} {A : Cell} {U : State} (h : Ch a A U) {i : Nat} (hi : i < A.slots.size) : A.slots[i]? = some (.int (cv A i)) := by
  have e := Array.getElem?_eq_getElem hi
  have f := h.2 i _ e
  unfold cv; rw [e]
  generalize A.slots[i] = v at f
  cases v <;> simp [fits] at f ⊢
/-- the byte that i2b leaves of a char -/
def lo8 (x : Int32) : Int32 := x.toInt8.toInt32
theorem fits_lo8 (y : Int32) : fits .byte (.int (lo8 y)) = true := by
  have h1 := y.toInt8.le_toInt
  have h2 := y.toInt8.toInt_lt
  simp only [lo8, fits, Bool.and_eq_true, decide_eq_true_eq, Int32.le_iff_toInt_le, Int8.toInt_toInt32, show (-128 : Int32).toInt = -128 from by decide, show (127 : Int32).toInt = 127 from by decide]
  omega
/-- A' is A but that each place j of lo .. hi - 1 holds f j -/
def Laid (A A' : Cell) (lo hi : Nat) (f : Nat → Value) : Prop := A'.cls = A.cls ∧ A'.vm = A.vm ∧ A'.slots.size = A.slots.size ∧ ∀ i, A'.slots[i]? = if lo ≤ i ∧ i < hi then some (f i) else A.slots[i]?
theorem Laid.zero (A : Cell) (lo : Nat) (f : Nat → Value) : Laid A A lo (lo + 0) f := ⟨rfl, rfl, rfl, fun i => by rw [if_neg (by omega)]⟩
theorem Laid.step {A Ak : Cell} {lo k : Nat} {f : Nat → Value} {v : Value} (h : Laid A Ak lo k f) (hlo : lo ≤ k) (hk : k < Ak.slots.size) (hv : v = f k) : Laid A (Ak.setSlot k v) lo (k + 1) f := by
  refine ⟨h.1, h.2.1, by simpa [Cell.setSlot] using h.2.2.1, fun i => ?_⟩
  by_cases e : k = i
  · subst e; rw [Cell.slots_setSlot_self v hk, if_pos (by omega), hv]
  · rw [Cell.slots_setSlot_ne v e, h.2.2.2 i]
    by_cases q : lo ≤ i ∧ i < k
    · rw [if_pos q, if_pos (by omega)]
    · rw [if_neg q, if_neg (by omega)]
def U16 : String := "java/lang/StringUTF16"
namespace Cmp5
def yN : MethodName := ⟨"java/lang/StringUTF16", "compress", "([CI[BII)I"⟩
abbrev yB : ByteArray := jdk_52_method_21_code
theorem d0 : decode yB 0 = .ok (.iconst 0, 1) := by decide +kernel
theorem d1 : decode yB 1 = .ok (.istore 5, 2) := by decide +kernel
theorem d3 : decode yB 3 = .ok (.iload 5, 2) := by decide +kernel
theorem d5 : decode yB 5 = .ok (.iload 4, 2) := by decide +kernel
theorem d7 : decode yB 7 = .ok (.if_icmp (.ge) 37, 3) := by decide +kernel
theorem d10 : decode yB 10 = .ok (.aload_n 0, 1) := by decide +kernel
theorem d11 : decode yB 11 = .ok (.iload_n 1, 1) := by decide +kernel
theorem d12 : decode yB 12 = .ok (.caload, 1) := by decide +kernel
theorem d13 : decode yB 13 = .ok (.istore 6, 2) := by decide +kernel
theorem d15 : decode yB 15 = .ok (.iload 6, 2) := by decide +kernel
theorem d17 : decode yB 17 = .ok (.sipush 255, 3) := by decide +kernel
theorem d20 : decode yB 20 = .ok (.if_icmp (.le) 6, 3) := by decide +kernel
theorem d26 : decode yB 26 = .ok (.aload_n 2, 1) := by decide +kernel
theorem d27 : decode yB 27 = .ok (.iload_n 3, 1) := by decide +kernel
theorem d28 : decode yB 28 = .ok (.iload 6, 2) := by decide +kernel
theorem d30 : decode yB 30 = .ok (.i2b, 1) := by decide +kernel
theorem d31 : decode yB 31 = .ok (.bastore, 1) := by decide +kernel
theorem d32 : decode yB 32 = .ok (.iinc 1 1, 3) := by decide +kernel
theorem d35 : decode yB 35 = .ok (.iinc 3 1, 3) := by decide +kernel
theorem d38 : decode yB 38 = .ok (.iinc 5 1, 3) := by decide +kernel
theorem d41 : decode yB 41 = .ok (.goto (-38), 3) := by decide +kernel
theorem d44 : decode yB 44 = .ok (.iload 4, 2) := by decide +kernel
theorem d46 : decode yB 46 = .ok (.ireturn, 1) := by decide +kernel
def site : List Cond := []
def tab : Cond := tabOf yN yB 7 (some .int) site
def P (b : Addr) (A : Cell) (d : Addr) (B : Cell) (o q len : Nat) (args : Array Value) (s : State) : Prop := args = #[.ref b, .int (Int32.ofNat o), .ref d, .int (Int32.ofNat q), .int (Int32.ofNat len)] ∧ Ch b A s ∧ Arr .byte d B s ∧ b ≠ d ∧ o + len ≤ A.slots.size ∧ q + len ≤ B.slots.size ∧ ∀ i, i < len → ¬ 255 < cv A (o + i)
def E (b : Addr) (A : Cell) (d : Addr) (B : Cell) (o q len : Nat) (r : Option Value) (s u : State) : Prop := r = some (.int (Int32.ofNat len)) ∧ ∃ B', Put d B' s u ∧ Laid B B' q (q + len) (fun j => Value.int (lo8 (cv A (o + (j - q)))))
/-- no char of the range above 255: len; the places written hold each char's low byte -/
theorem law (l : Launch) (b : Addr) (A : Cell) (d : Addr) (B : Cell) (o q len : Nat) : Law l yN 5 5 0 0 yB 7 (some .int) site (P b A d B o q len) (E b A d B o q len) (copyLocs d q len) 0 0 := by
  refine Law.of_walk (plainFor_of_name (by decide +kernel)) (by decide +kernel) (by decide +kernel) (by decide) (fun _ _ h => by rw [h.1]; rfl) (fun _ U U' hal hh h => ⟨h.1, h.2.1.mv hal hh, h.2.2.1.mv hal hh, h.2.2.2⟩) (fun r U U' V V' h1 hal h2 h => ⟨h.1, h.2.elim fun B' q => ⟨B', q.1.mv h1 h2, q.2⟩⟩) ?_
  intro p e s m args below meth c s₁ X0 hexec hbytes hml hret hlk hnm hown hh0 W hP
  obtain ⟨rfl, hA, hB, hne, l1, l2, hp⟩ := hP
  have c1 : Steps p.tables e below (s₁.setTop (entryFrame m #[.ref b, .int (Int32.ofNat o), .ref d, .int (Int32.ofNat q), .int (Int32.ofNat len)] 7)) (s₁.setTop (mkF m 0 #[.val (.ref b), .val (.int (Int32.ofNat o)), .val (.ref d), .val (.int (Int32.ofNat q)), .val (.int (Int32.ofNat len)), .unset, .unset] [])) := entry rfl
  have hA0 := hA.1.mv X0.warmed.alike hh0
  have hB0 := hB.mv X0.warmed.alike hh0
  have a31 := hA.1.2.2.2
  have c2 : Steps p.tables e below (s₁.setTop (entryFrame m #[.ref b, .int (Int32.ofNat o), .ref d, .int (Int32.ofNat q), .int (Int32.ofNat len)] 7)) (s₁.setTop (mkF m 3 #[.val (.ref b), .val (.int (Int32.ofNat o)), .val (.ref d), .val (.int (Int32.ofNat q)), .val (.int (Int32.ofNat len)), .val (.int 0), .unset] [])) := c1.trans (by
    refine iconstV X0.here hexec rfl 0 (hb hbytes d0) (by decide) ?_
    refine XS.istore X0.here hexec rfl (hb hbytes d1) rfl rfl ?_
    exact Steps.refl _)
  have loop : ∀ (r i : Nat), i + r = len → ∀ (z : Slot), (z = .unset ∨ ∃ w, z = .val w ∧ w.category = 1) → ∀ (Tl : State) (Bk : Cell), Stand p l e { frames := 0, locals := 0, cells := 0, slots := 0 } s m #[.ref b, .int (Int32.ofNat o), .ref d, .int (Int32.ofNat q), .int (Int32.ofNat len)] below meth c Tl ([] ++ copyLocs d q i) 0 0 → Put d Bk s₁ Tl → Laid B Bk q (q + i) (fun j => Value.int (lo8 (cv A (o + (j - q))))) →
      Steps p.tables e below (s₁.setTop (entryFrame m #[.ref b, .int (Int32.ofNat o), .ref d, .int (Int32.ofNat q), .int (Int32.ofNat len)] 7)) (Tl.setTop (mkF m 3 #[.val (.ref b), .val (.int (Int32.ofNat (o + i))), .val (.ref d), .val (.int (Int32.ofNat (q + i))), .val (.int (Int32.ofNat len)), .val (.int (Int32.ofNat i)), z] [])) → ∃ (T' : State) (B' : Cell) (z' : Slot), Stand p l e { frames := 0, locals := 0, cells := 0, slots := 0 } s m #[.ref b, .int (Int32.ofNat o), .ref d, .int (Int32.ofNat q), .int (Int32.ofNat len)] below meth c T' ([] ++ copyLocs d q len) 0 0 ∧ Put d B' s₁ T' ∧ Laid B B' q (q + len) (fun j => Value.int (lo8 (cv A (o + (j - q))))) ∧
      Steps p.tables e below (s₁.setTop (entryFrame m #[.ref b, .int (Int32.ofNat o), .ref d, .int (Int32.ofNat q), .int (Int32.ofNat len)] 7)) (T'.setTop (mkF m 3 #[.val (.ref b), .val (.int (Int32.ofNat (o + len))), .val (.ref d), .val (.int (Int32.ofNat (q + len))), .val (.int (Int32.ofNat len)), .val (.int (Int32.ofNat len)), z'] [])) := by
    intro r
    induction r with
    | zero =>
      intro i hi z hz Tl Bk Xl pl fl cl
      have hil : i = len := by omega
      rw [hil] at Xl fl cl
      exact ⟨Tl, Bk, z, Xl, pl, fl, cl⟩
    | succ r ih =>
      intro i hi z hz Tl Bk Xl pl fl cl
      have all := X0.warmed.alike.symm.trans Xl.warmed.alike
      have hAl := hA0.keep all (pl.other hne hA0.1)
      have hBk := hB0.like all pl.1 fl.1 fl.2.1 fl.2.2.1
      have hlt : q + i < Bk.slots.size := by rw [fl.2.2.1]; omega
      have c3 : Steps p.tables e below (s₁.setTop (entryFrame m #[.ref b, .int (Int32.ofNat o), .ref d, .int (Int32.ofNat q), .int (Int32.ofNat len)] 7)) (Tl.setTop (mkF m 12 #[.val (.ref b), .val (.int (Int32.ofNat (o + i))), .val (.ref d), .val (.int (Int32.ofNat (q + i))), .val (.int (Int32.ofNat len)), .val (.int (Int32.ofNat i)), z] [.int (Int32.ofNat (o + i)), .ref b])) := cl.trans (by
        refine XS.iload Xl.here hexec rfl (hb hbytes d3) rfl ?_
        refine XS.iload Xl.here hexec rfl (hb hbytes d5) rfl ?_
        refine XS.icmpNo Xl.here hexec rfl (hb hbytes d7) rfl (ii_ge_f (lt32 (by omega) (by omega))) ?_
        refine XS.aloadN Xl.here hexec rfl (hb hbytes d10) rfl rfl ?_
        refine XS.iloadN Xl.here hexec rfl (hb hbytes d11) rfl ?_
        exact Steps.refl _)
      have c4 : Steps p.tables e below (s₁.setTop (entryFrame m #[.ref b, .int (Int32.ofNat o), .ref d, .int (Int32.ofNat q), .int (Int32.ofNat len)] 7)) (Tl.setTop (mkF m 13 #[.val (.ref b), .val (.int (Int32.ofNat (o + i))), .val (.ref d), .val (.int (Int32.ofNat (q + i))), .val (.int (Int32.ofNat len)), .val (.int (Int32.ofNat i)), z] [.int (cv A (o + i))])) := c3.trans (by
        refine Xl.aget hexec hAl rfl (hA.get (i := o + i) (by omega)) rfl rfl (hb hbytes d12) ?_
        exact Steps.refl _)
      have c5 : Steps p.tables e below (s₁.setTop (entryFrame m #[.ref b, .int (Int32.ofNat o), .ref d, .int (Int32.ofNat q), .int (Int32.ofNat len)] 7)) (Tl.setTop (mkF m 15 #[.val (.ref b), .val (.int (Int32.ofNat (o + i))), .val (.ref d), .val (.int (Int32.ofNat (q + i))), .val (.int (Int32.ofNat len)), .val (.int (Int32.ofNat i)), .val (.int (cv A (o + i)))] [])) := c4.trans (by
        refine XS.istoreS Xl.here hexec rfl (hb hbytes d13) rfl rfl hz ?_
        exact Steps.refl _)
      have c6 : Steps p.tables e below (s₁.setTop (entryFrame m #[.ref b, .int (Int32.ofNat o), .ref d, .int (Int32.ofNat q), .int (Int32.ofNat len)] 7)) (Tl.setTop (mkF m 31 #[.val (.ref b), .val (.int (Int32.ofNat (o + i))), .val (.ref d), .val (.int (Int32.ofNat (q + i))), .val (.int (Int32.ofNat len)), .val (.int (Int32.ofNat i)), .val (.int (cv A (o + i)))] [.int (lo8 (cv A (o + i))), .int (Int32.ofNat (q + i)), .ref d])) := c5.trans (by
        refine XS.iload Xl.here hexec rfl (hb hbytes d15) rfl ?_
        refine sipushV Xl.here hexec rfl 255 (hb hbytes d17) (by decide) ?_
        refine XS.icmpYes Xl.here hexec rfl (pc0 := 20) rfl (hb hbytes d20) rfl (ii_le_t (hp i (by omega))) (by decide) rfl ?_
        refine XS.aloadN Xl.here hexec rfl (hb hbytes d26) rfl rfl ?_
        refine XS.iloadN Xl.here hexec rfl (hb hbytes d27) rfl ?_
        refine XS.iload Xl.here hexec rfl (hb hbytes d28) rfl ?_
        refine i2b Xl.here hexec rfl (hb hbytes d30) rfl ?_
        exact Steps.refl _)
      obtain ⟨T7, X7, p7, st7⟩ := Xl.aput hexec hBk rfl hlt rfl (fits_lo8 (cv A (o + i))) (g := (mkF m 31 #[.val (.ref b), .val (.int (Int32.ofNat (o + i))), .val (.ref d), .val (.int (Int32.ofNat (q + i))), .val (.int (Int32.ofNat len)), .val (.int (Int32.ofNat i)), .val (.int (cv A (o + i)))] [.int (lo8 (cv A (o + i))), .int (Int32.ofNat (q + i)), .ref d])) rfl (rest := []) rfl (hb hbytes d31)
      have c8 : Steps p.tables e below (s₁.setTop (entryFrame m #[.ref b, .int (Int32.ofNat o), .ref d, .int (Int32.ofNat q), .int (Int32.ofNat len)] 7)) (T7.setTop (mkF m 32 #[.val (.ref b), .val (.int (Int32.ofNat (o + i))), .val (.ref d), .val (.int (Int32.ofNat (q + i))), .val (.int (Int32.ofNat len)), .val (.int (Int32.ofNat i)), .val (.int (cv A (o + i)))] [])) := c6.trans (st7 _ (Steps.refl _))
      have c9 : Steps p.tables e below (s₁.setTop (entryFrame m #[.ref b, .int (Int32.ofNat o), .ref d, .int (Int32.ofNat q), .int (Int32.ofNat len)] 7)) (T7.setTop (mkF m 3 #[.val (.ref b), .val (.int (Int32.ofNat (o + i) + 1)), .val (.ref d), .val (.int (Int32.ofNat (q + i) + 1)), .val (.int (Int32.ofNat len)), .val (.int (Int32.ofNat i + 1)), .val (.int (cv A (o + i)))] [])) := c8.trans (by
        refine iincV X7.here hexec rfl 1 (hb hbytes d32) (by decide) rfl rfl ?_
        refine iincV X7.here hexec rfl 1 (hb hbytes d35) (by decide) rfl rfl ?_
        refine iincV X7.here hexec rfl 1 (hb hbytes d38) (by decide) rfl rfl ?_
        refine XS.goto X7.here hexec rfl (pc0 := 41) rfl (hb hbytes d41) (by decide) rfl ?_
        exact Steps.refl _)
      have c10 : Steps p.tables e below (s₁.setTop (entryFrame m #[.ref b, .int (Int32.ofNat o), .ref d, .int (Int32.ofNat q), .int (Int32.ofNat len)] 7)) (T7.setTop (mkF m 3 #[.val (.ref b), .val (.int (Int32.ofNat (o + (i + 1)))), .val (.ref d), .val (.int (Int32.ofNat (q + (i + 1)))), .val (.int (Int32.ofNat len)), .val (.int (Int32.ofNat (i + 1))), .val (.int (cv A (o + i)))] [])) := by
        have := c9
        rw [succ32, succ32, succ32] at this
        exact this
      exact ih (i + 1) (by omega) _ (Or.inr ⟨_, rfl, rfl⟩) T7 _ (by rw [copyLocs_step, ← List.append_assoc]; exact X7) (pl.trans p7) (fl.step (by omega) hlt (by simp)) c10
  obtain ⟨T9, B9, z9, X9, p9, f9, g9⟩ := loop len 0 (by omega) .unset (Or.inl rfl) s₁ B (by simpa [copyLocs] using X0) ⟨hB0.1, fun _ _ => rfl, rfl⟩ (Laid.zero _ _ _) c2
  have c11 : Steps p.tables e below (s₁.setTop (entryFrame m #[.ref b, .int (Int32.ofNat o), .ref d, .int (Int32.ofNat q), .int (Int32.ofNat len)] 7)) (T9.setTop (mkF m 46 #[.val (.ref b), .val (.int (Int32.ofNat (o + len))), .val (.ref d), .val (.int (Int32.ofNat (q + len))), .val (.int (Int32.ofNat len)), .val (.int (Int32.ofNat len)), z9] [.int (Int32.ofNat len)])) := g9.trans (by
    refine XS.iload X9.here hexec rfl (hb hbytes d3) rfl ?_
    refine XS.iload X9.here hexec rfl (hb hbytes d5) rfl ?_
    refine XS.icmpYes X9.here hexec rfl (pc0 := 7) rfl (hb hbytes d7) rfl (ii_ge_t (nlt32 (by omega) (Nat.le_refl _))) (by decide) rfl ?_
    refine XS.iload X9.here hexec rfl (hb hbytes d44) rfl ?_
    exact Steps.refl _)
  exact ⟨T9, some (.int (Int32.ofNat len)), _, _, _, X9, by simp, rfl, rfl, (fun h => by cases h), ⟨rfl, B9, p9.from hh0, f9⟩, fun fs hl => c11.trans (X9.ireturnOut hexec hret rfl (Or.inl rfl) (hb hbytes d46) hl)⟩
end Cmp5
namespace Cmp3
def yN : MethodName := ⟨"java/lang/StringUTF16", "compress", "([CII)[B"⟩
abbrev yB : ByteArray := jdk_52_method_16_code
theorem d0 : decode yB 0 = .ok (.iload_n 2, 1) := by decide +kernel
theorem d1 : decode yB 1 = .ok (.newarray .byte, 2) := by decide +kernel
theorem d3 : decode yB 3 = .ok (.astore_n 3, 1) := by decide +kernel
theorem d4 : decode yB 4 = .ok (.aload_n 0, 1) := by decide +kernel
theorem d5 : decode yB 5 = .ok (.iload_n 1, 1) := by decide +kernel
theorem d6 : decode yB 6 = .ok (.aload_n 3, 1) := by decide +kernel
theorem d7 : decode yB 7 = .ok (.iconst 0, 1) := by decide +kernel
theorem d8 : decode yB 8 = .ok (.iload_n 2, 1) := by decide +kernel
theorem d9 : decode yB 9 = .ok (.invokestatic 115, 3) := by decide +kernel
theorem d12 : decode yB 12 = .ok (.istore 4, 2) := by decide +kernel
theorem d14 : decode yB 14 = .ok (.iload 4, 2) := by decide +kernel
theorem d16 : decode yB 16 = .ok (.iload_n 2, 1) := by decide +kernel
theorem d17 : decode yB 17 = .ok (.if_icmp (.eq) 40, 3) := by decide +kernel
theorem d57 : decode yB 57 = .ok (.aload_n 3, 1) := by decide +kernel
theorem d58 : decode yB 58 = .ok (.areturn, 1) := by decide +kernel
def site : List Cond := [.arrayClass .byte, Cmp5.tab] ++ staticW U16 115 Cmp5.yN
def tab : Cond := tabOf yN yB 6 (some (.array .byte)) site
def P (b : Addr) (A : Cell) (o len : Nat) (args : Array Value) (s : State) : Prop := args = #[.ref b, .int (Int32.ofNat o), .int (Int32.ofNat len)] ∧ Ch b A s ∧ o + len ≤ A.slots.size ∧ len ≤ 536870912 ∧ ∀ i, i < len → ¬ 255 < cv A (o + i)
def E (b : Addr) (A : Cell) (o len : Nat) (r : Option Value) (s u : State) : Prop := NewArr .byte "[B" len (fun j => .int (lo8 (cv A (o + j)))) r s u ∧ u.heap.size = s.heap.size + 1
/-- no char of the range above 255: a new byte[] of their low bytes -/
theorem law (l : Launch) (b : Addr) (A : Cell) (o len : Nat) : Law l yN 3 3 1 18 yB 6 (some (.array .byte)) site (P b A o len) (E b A o len) [] 1 len := by
  refine Law.of_walk (plainFor_of_name (by decide +kernel)) (by decide +kernel) (by decide +kernel) (by decide) (fun _ _ h => by rw [h.1]; rfl) (fun _ U U' hal hh h => ⟨h.1, h.2.1.mv hal hh, h.2.2⟩) (fun r U U' V V' h1 hal h2 h => ⟨NewArr.mv r U U' V V' h1 hal h2 h.1, by rw [h1, h2]; exact h.2⟩) ?_
  intro p e s m args below meth c s₁ X0 hexec hbytes hml hret hlk hnm hown hh0 W hP
  obtain ⟨rfl, hA, l1, l2, hp⟩ := hP
  have a31 := hA.1.2.2.2
  have c1 : Steps p.tables e below (s₁.setTop (entryFrame m #[.ref b, .int (Int32.ofNat o), .int (Int32.ofNat len)] 6)) (s₁.setTop (mkF m 0 #[.val (.ref b), .val (.int (Int32.ofNat o)), .val (.int (Int32.ofNat len)), .unset, .unset, .unset] [])) := entry rfl
  have c2 : Steps p.tables e below (s₁.setTop (entryFrame m #[.ref b, .int (Int32.ofNat o), .int (Int32.ofNat len)] 6)) (s₁.setTop (mkF m 1 #[.val (.ref b), .val (.int (Int32.ofNat o)), .val (.int (Int32.ofNat len)), .unset, .unset, .unset] [.int (Int32.ofNat len)])) := c1.trans (by
    refine XS.iloadN X0.here hexec rfl (hb hbytes d0) rfl ?_
    exact Steps.refl _)
  obtain ⟨T3, B3, X3, ba3, bs3, bv3, bh3, bf3, st3⟩ := X0.anew hexec (atype := .byte) (wk W (.arrayClass .byte)) rfl (by show len * 1 ≤ _; omega) (by omega) (g := (mkF m 1 #[.val (.ref b), .val (.int (Int32.ofNat o)), .val (.int (Int32.ofNat len)), .unset, .unset, .unset] [.int (Int32.ofNat len)])) rfl (hb hbytes d1) (rest := []) rfl (Nat.le_refl _) (by show 0 + len ≤ len; omega)
  rw [hh0] at ba3 st3
  have kp3 : XT.Kept s T3 := (XT.Kept.of_eq hh0).push bh3
  have hA3 := hA.keep X3.warmed.alike (kp3 _ _ hA.1.1)
  have hne : b ≠ s.heap.size := hA.1.ne
  have c4 : Steps p.tables e below (s₁.setTop (entryFrame m #[.ref b, .int (Int32.ofNat o), .int (Int32.ofNat len)] 6)) (T3.setTop (mkF m 3 #[.val (.ref b), .val (.int (Int32.ofNat o)), .val (.int (Int32.ofNat len)), .unset, .unset, .unset] [.ref s.heap.size])) := c2.trans (st3 _ (Steps.refl _))
  have c5 : Steps p.tables e below (s₁.setTop (entryFrame m #[.ref b, .int (Int32.ofNat o), .int (Int32.ofNat len)] 6)) (T3.setTop (mkF m 9 #[.val (.ref b), .val (.int (Int32.ofNat o)), .val (.int (Int32.ofNat len)), .val (.ref s.heap.size), .unset, .unset] [.int (Int32.ofNat len), .int 0, .ref s.heap.size, .int (Int32.ofNat o), .ref b])) := c4.trans (by
    refine XS.astoreN X3.here hexec rfl (hb hbytes d3) rfl rfl rfl ?_
    refine XS.aloadN X3.here hexec rfl (hb hbytes d4) rfl rfl ?_
    refine XS.iloadN X3.here hexec rfl (hb hbytes d5) rfl ?_
    refine XS.aloadN X3.here hexec rfl (hb hbytes d6) rfl rfl ?_
    refine iconstV X3.here hexec rfl 0 (hb hbytes d7) (by decide) ?_
    refine XS.iloadN X3.here hexec rfl (hb hbytes d8) rfl ?_
    exact Steps.refl _)
  obtain ⟨v6, T6, X6, E6, g6⟩ := X3.callS hexec (Cmp5.law l b A s.heap.size B3 o 0 len) hown (wks W (staticW U16 115 Cmp5.yN)) (wk W Cmp5.tab) (W := 0) (Nat.le_of_ble_eq_true rfl) (Nat.le_of_ble_eq_true rfl) (Nat.le_refl _) (by show 0 + len + 0 ≤ len; omega) (g := (mkF m 9 #[.val (.ref b), .val (.int (Int32.ofNat o)), .val (.int (Int32.ofNat len)), .val (.ref s.heap.size), .unset, .unset] [.int (Int32.ofNat len), .int (Int32.ofNat 0), .ref s.heap.size, .int (Int32.ofNat o), .ref b])) rfl (by rw [hml]; rfl) c5 (argsL := [.ref b, .int (Int32.ofNat o), .ref s.heap.size, .int (Int32.ofNat 0), .int (Int32.ofNat len)]) (rest := []) rfl rfl (by show 2 * 0 + 0 ≤ _; decide) (hb hbytes d9) (⟨rfl, hA3, ba3, hne, l1, by rw [bs3]; simp, hp⟩)
  obtain ⟨rfl, B6, p6, f6⟩ := E6
  have c7 : Steps p.tables e below (s₁.setTop (entryFrame m #[.ref b, .int (Int32.ofNat o), .int (Int32.ofNat len)] 6)) (T6.setTop (mkF m 12 #[.val (.ref b), .val (.int (Int32.ofNat o)), .val (.int (Int32.ofNat len)), .val (.ref s.heap.size), .unset, .unset] [.int (Int32.ofNat len)])) := g6
  have c8 : Steps p.tables e below (s₁.setTop (entryFrame m #[.ref b, .int (Int32.ofNat o), .int (Int32.ofNat len)] 6)) (T6.setTop (mkF m 58 #[.val (.ref b), .val (.int (Int32.ofNat o)), .val (.int (Int32.ofNat len)), .val (.ref s.heap.size), .val (.int (Int32.ofNat len)), .unset] [.ref s.heap.size])) := c7.trans (by
    refine XS.istore X6.here hexec rfl (hb hbytes d12) rfl rfl ?_
    refine XS.iload X6.here hexec rfl (hb hbytes d14) rfl ?_
    refine XS.iloadN X6.here hexec rfl (hb hbytes d16) rfl ?_
    refine XS.icmpYes X6.here hexec rfl (pc0 := 17) rfl (hb hbytes d17) rfl (ii_eq_t rfl) (by decide) rfl ?_
    refine XS.aloadN X6.here hexec rfl (hb hbytes d57) rfl rfl ?_
    exact Steps.refl _)
  have X8 := X6.wide (L' := []) (cells' := 1) (slots' := len) (fun x hx hlt => by
    simp only [List.nil_append, copyLocs, List.mem_map, List.mem_range] at hx
    obtain ⟨i, -, rfl⟩ := hx
    exact absurd hlt (Nat.lt_irrefl _)) (Nat.le_refl _) (by omega)
  exact ⟨T6, some (.ref s.heap.size), _, _, _, X8, rfl, rfl, rfl, (fun h => by cases h), ⟨⟨rfl, B6, ba3.like (X3.warmed.alike.symm.trans X6.warmed.alike) p6.1 f6.1 f6.2.1 f6.2.2.1, f6.2.1.trans bv3, by rw [X6.warmed.alike.findClass, f6.1]; exact bf3, by rw [f6.2.2.1, bs3]; simp, fun j hj => by rw [f6.2.2.2 j, if_pos (by omega)]; rfl, kp3.put p6 (Nat.le_refl _)⟩, by rw [p6.2.2, bh3, hh0]; simp⟩, fun fs hl => c8.trans (X8.areturnOut hexec rfl hret rfl (hb hbytes d58) hl)⟩
end Cmp3
namespace CodL
def yN : MethodName := ⟨"java/lang/StringUTF16", "coderFromArrayLen", "([BI)B"⟩
abbrev yB : ByteArray := jdk_52_method_15_code
theorem d0 : decode yB 0 = .ok (.iload_n 1, 1) := by decide +kernel
theorem d1 : decode yB 1 = .ok (.aload_n 0, 1) := by decide +kernel
theorem d2 : decode yB 2 = .ok (.arraylength, 1) := by decide +kernel
theorem d3 : decode yB 3 = .ok (.isub, 1) := by decide +kernel
theorem d4 : decode yB 4 = .ok (.bipush 31, 2) := by decide +kernel
theorem d6 : decode yB 6 = .ok (.iushr, 1) := by decide +kernel
theorem d7 : decode yB 7 = .ok (.i2b, 1) := by decide +kernel
theorem d8 : decode yB 8 = .ok (.ireturn, 1) := by decide +kernel
def site : List Cond := []
def tab : Cond := tabOf yN yB 2 (some .byte) site
def P (d : Addr) (B : Cell) (args : Array Value) (s : State) : Prop := args = #[.ref d, .int (Int32.ofNat B.slots.size)] ∧ Arr .byte d B s
def E (r : Option Value) (s u : State) : Prop := XT.PureE (some (.int 0)) r s u
/-- an array as long as the number of chars: LATIN1 -/
theorem law (l : Launch) (d : Addr) (B : Cell) : Law l yN 2 2 0 0 yB 2 (some .byte) site (P d B) E [] 0 0 := by
  refine Law.of_walk (plainFor_of_name (by decide +kernel)) (by decide +kernel) (by decide +kernel) (by decide) (fun _ _ h => by rw [h.1]; rfl) (fun _ U U' hal hh h => ⟨h.1, h.2.mv hal hh⟩) (fun r U U' V V' h1 hal h2 h => XT.PureE.mv r U U' V V' h1 hal h2 h) ?_
  intro p e s m args below meth c s₁ X0 hexec hbytes hml hret hlk hnm hown hh0 W hP
  obtain ⟨rfl, hB⟩ := hP
  have hB0 := hB.mv X0.warmed.alike hh0
  have c1 : Steps p.tables e below (s₁.setTop (entryFrame m #[.ref d, .int (Int32.ofNat B.slots.size)] 2)) (s₁.setTop (mkF m 0 #[.val (.ref d), .val (.int (Int32.ofNat B.slots.size))] [])) := entry rfl
  have c2 : Steps p.tables e below (s₁.setTop (entryFrame m #[.ref d, .int (Int32.ofNat B.slots.size)] 2)) (s₁.setTop (mkF m 2 #[.val (.ref d), .val (.int (Int32.ofNat B.slots.size))] [.ref d, .int (Int32.ofNat B.slots.size)])) := c1.trans (by
    refine XS.iloadN X0.here hexec rfl (hb hbytes d0) rfl ?_
    refine XS.aloadN X0.here hexec rfl (hb hbytes d1) rfl rfl ?_
    exact Steps.refl _)
  have c3 : Steps p.tables e below (s₁.setTop (entryFrame m #[.ref d, .int (Int32.ofNat B.slots.size)] 2)) (s₁.setTop (mkF m 8 #[.val (.ref d), .val (.int (Int32.ofNat B.slots.size))] [.int (lo8 (ushr (Int32.ofNat B.slots.size - Int32.ofNat B.slots.size) 31))])) := c2.trans (by
    refine X0.alen hexec hB0 rfl rfl (hb hbytes d2) ?_
    refine XS.isub X0.here hexec rfl (hb hbytes d3) rfl ?_
    refine bipushV X0.here hexec rfl 31 (hb hbytes d4) (by decide) ?_
    refine iushr X0.here hexec rfl (hb hbytes d6) rfl ?_
    refine i2b X0.here hexec rfl (hb hbytes d7) rfl ?_
    exact Steps.refl _)
  have e0 : lo8 (ushr (Int32.ofNat B.slots.size - Int32.ofNat B.slots.size) 31) = 0 := by rw [Int32.sub_self]; decide
  rw [e0] at c3
  exact ⟨s₁, some (.int 0), _, _, _, X0, rfl, rfl, rfl, (fun h => by cases h), ⟨rfl, hh0⟩, fun fs hl => c3.trans (X0.ireturnOut hexec hret rfl (Or.inr (Or.inr (Or.inl rfl))) (hb hbytes d8) hl)⟩
end CodL
/-- the String at a is Latin-1 over a new byte[] (the heap's one new cell): the low bytes of the len chars of A from o on; every cell but a is kept -/
def Got (a : Addr) (D : Cell) (fV fC : Field) (A : Cell) (o len : Nat) (r : Option Value) (s u : State) : Prop := r = none ∧ ∃ D' V : Cell, Blank "java/lang/String" a D' u ∧ Same D D' [fV.slot, fC.slot] ∧ D'.slots[fV.slot]? = some (.ref s.heap.size) ∧ D'.slots[fC.slot]? = some (.int 0) ∧ Arr .byte s.heap.size V u ∧ V.vm = .none ∧ u.vm.findClass "[B" = some V.cls ∧ V.slots.size = len ∧ (∀ j, j < len → V.slots[j]? = some (.int (lo8 (cv A (o + j))))) ∧ (∀ (y : Addr) (c : Cell), y ≠ a → s.heap[y]? = some c → u.heap[y]? = some c) ∧ u.heap.size = s.heap.size + 1
theorem Got.mv {a : Addr} {D A : Cell} {fV fC : Field} {o len : Nat} : ∀ r (U U' V V' : State), U'.heap = U.heap → V.vm.Alike V'.vm → V'.heap = V.heap → Got a D fV fC A o len r U V → Got a D fV fC A o len r U' V' :=
  fun r U U' V V' h1 hal h2 ⟨e0, D', X, a1, a2, a3, a4, a5, a6, a7, a8, a9, a10, a11⟩ => ⟨e0, D', X, a1.mv hal h2, a2, by rw [h1]; exact a3, a4, by rw [h1]; exact a5.mv hal h2, a6, by rw [hal.findClass]; exact a7, a8, a9, by rw [h1, h2]; exact a10, by rw [h1, h2]; exact a11⟩
namespace New4
def yN : MethodName := ⟨"java/lang/String", "<init>", "([CIILjava/lang/Void;)V"⟩
abbrev yB : ByteArray := jdk_42_method_149_code
theorem d0 : decode yB 0 = .ok (.aload_n 0, 1) := by decide +kernel
theorem d1 : decode yB 1 = .ok (.invokespecial 1, 3) := by decide +kernel
theorem d4 : decode yB 4 = .ok (.iload_n 3, 1) := by decide +kernel
theorem d5 : decode yB 5 = .ok (.ifCond (.ne) 22, 3) := by decide +kernel
theorem d27 : decode yB 27 = .ok (.getstatic 38, 3) := by decide +kernel
theorem d30 : decode yB 30 = .ok (.ifCond (.eq) 28, 3) := by decide +kernel
theorem d33 : decode yB 33 = .ok (.aload_n 1, 1) := by decide +kernel
theorem d34 : decode yB 34 = .ok (.iload_n 2, 1) := by decide +kernel
theorem d35 : decode yB 35 = .ok (.iload_n 3, 1) := by decide +kernel
theorem d36 : decode yB 36 = .ok (.invokestatic 177, 3) := by decide +kernel
theorem d39 : decode yB 39 = .ok (.astore 5, 2) := by decide +kernel
theorem d41 : decode yB 41 = .ok (.aload_n 0, 1) := by decide +kernel
theorem d42 : decode yB 42 = .ok (.aload 5, 2) := by decide +kernel
theorem d44 : decode yB 44 = .ok (.iload_n 3, 1) := by decide +kernel
theorem d45 : decode yB 45 = .ok (.invokestatic 47, 3) := by decide +kernel
theorem d48 : decode yB 48 = .ok (.putfield 15, 3) := by decide +kernel
theorem d51 : decode yB 51 = .ok (.aload_n 0, 1) := by decide +kernel
theorem d52 : decode yB 52 = .ok (.aload 5, 2) := by decide +kernel
theorem d54 : decode yB 54 = .ok (.putfield 9, 3) := by decide +kernel
theorem d57 : decode yB 57 = .ok (.return_, 1) := by decide +kernel
def site : List Cond := [.fieldLink "java/lang/String" 38 "java/lang/String" "COMPACT_STRINGS" "Z", Cmp3.tab, CodL.tab, .laysFinal "java/lang/String" "java/lang/String" "value" "[B", .fieldLink "java/lang/String" 9 "java/lang/String" "value" "[B", .laysFinal "java/lang/String" "java/lang/String" "coder" "B", .fieldLink "java/lang/String" 15 "java/lang/String" "coder" "B"] ++ objW "java/lang/String" 1 ++ staticW "java/lang/String" 177 Cmp3.yN ++ staticW "java/lang/String" 47 CodL.yN
def tab : Cond := tabOf yN yB 6 none site
def P (a : Addr) (D : Cell) (fV fC : Field) (b : Addr) (A : Cell) (z : Int32) (o len : Nat) (args : Array Value) (s : State) : Prop := args = #[.ref a, .ref b, .int (Int32.ofNat o), .int (Int32.ofNat len), .null] ∧ Blank "java/lang/String" a D s ∧ Found "java/lang/String" "value" "[B" fV s ∧ Found "java/lang/String" "coder" "B" fC s ∧ Ch b A s ∧ StaticIs s "java/lang/String" "COMPACT_STRINGS" "Z" (.int z) ∧ ¬ z = 0 ∧ 0 < len ∧ o + len ≤ A.slots.size ∧ len ≤ 536870912 ∧ ∀ i, i < len → ¬ 255 < cv A (o + i)
def E (a : Addr) (D : Cell) (fV fC : Field) (A : Cell) (o len : Nat) (r : Option Value) (s u : State) : Prop := Got a D fV fC A o len r s u
/-- len > 0, no char of the range above 255: a Latin-1 String of their low bytes -/
theorem law (l : Launch) (a : Addr) (D : Cell) (fV fC : Field) (b : Addr) (A : Cell) (z : Int32) (o len : Nat) : Law l yN 5 4 2 35 yB 6 none site (P a D fV fC b A z o len) (E a D fV fC A o len) [⟨a, fC.slot⟩, ⟨a, fV.slot⟩] 1 len := by
  refine Law.of_walk (plainFor_of_name (by decide +kernel)) (by decide +kernel) (by decide +kernel) (by decide) (fun _ _ h => by rw [h.1]; rfl) (fun _ U U' hal hh h => ⟨h.1, h.2.1.mv hal hh, h.2.2.1.al hal, h.2.2.2.1.al hal, h.2.2.2.2.1.mv hal hh, h.2.2.2.2.2.1.there hal hh, h.2.2.2.2.2.2⟩) (fun r U U' V V' h1 hal h2 h => Got.mv r U U' V V' h1 hal h2 h) ?_
  intro p e s m args below meth c s₁ X0 hexec hbytes hml hret hlk hnm hown hh0 W hP
  obtain ⟨rfl, hB, f1, f2, hA, s1, hz, l0, l1, l2, hp⟩ := hP
  have a31 := hA.1.2.2.2
  have c1 : Steps p.tables e below (s₁.setTop (entryFrame m #[.ref a, .ref b, .int (Int32.ofNat o), .int (Int32.ofNat len), .null] 6)) (s₁.setTop (mkF m 0 #[.val (.ref a), .val (.ref b), .val (.int (Int32.ofNat o)), .val (.int (Int32.ofNat len)), .val .null, .unset] [])) := entry rfl
  have c2 : Steps p.tables e below (s₁.setTop (entryFrame m #[.ref a, .ref b, .int (Int32.ofNat o), .int (Int32.ofNat len), .null] 6)) (s₁.setTop (mkF m 1 #[.val (.ref a), .val (.ref b), .val (.int (Int32.ofNat o)), .val (.int (Int32.ofNat len)), .val .null, .unset] [.ref a])) := c1.trans (by
    refine XS.aloadN X0.here hexec rfl (hb hbytes d0) rfl rfl ?_
    exact Steps.refl _)
  obtain ⟨T3, X3, q3, st3⟩ := X0.oinit hexec hown (wks W (objW "java/lang/String" 1)) (g := (mkF m 1 #[.val (.ref a), .val (.ref b), .val (.int (Int32.ofNat o)), .val (.int (Int32.ofNat len)), .val .null, .unset] [.ref a])) rfl (by rw [hml]; rfl) (rest := []) rfl (hb hbytes d1) (W := 0) (by show 2 * 0 + 0 ≤ _; decide) (Nat.le_of_ble_eq_true rfl) (Nat.le_of_ble_eq_true rfl)
  have hh3 := q3.trans hh0
  have c4 : Steps p.tables e below (s₁.setTop (entryFrame m #[.ref a, .ref b, .int (Int32.ofNat o), .int (Int32.ofNat len), .null] 6)) (T3.setTop (mkF m 27 #[.val (.ref a), .val (.ref b), .val (.int (Int32.ofNat o)), .val (.int (Int32.ofNat len)), .val .null, .unset] [])) := (c2.trans (st3 _ (Steps.refl _))).trans (by
    refine XS.iloadN X3.here hexec rfl (hb hbytes d4) rfl ?_
    refine XS.ifYes X3.here hexec rfl (pc0 := 5) rfl (hb hbytes d5) rfl (i0_ne_t (nz32 (by omega) l0)) (by decide) rfl ?_
    exact Steps.refl _)
  obtain ⟨T5, X5, q5, st5⟩ := X3.sget hexec hown (wk W (.fieldLink "java/lang/String" 38 "java/lang/String" "COMPACT_STRINGS" "Z")) s1 (fun _ _ h => by rw [hh3]; exact h) (g := (mkF m 27 #[.val (.ref a), .val (.ref b), .val (.int (Int32.ofNat o)), .val (.int (Int32.ofNat len)), .val .null, .unset] [])) rfl (hb hbytes d27)
  have hh5 := q5.trans hh3
  have c6 : Steps p.tables e below (s₁.setTop (entryFrame m #[.ref a, .ref b, .int (Int32.ofNat o), .int (Int32.ofNat len), .null] 6)) (T5.setTop (mkF m 30 #[.val (.ref a), .val (.ref b), .val (.int (Int32.ofNat o)), .val (.int (Int32.ofNat len)), .val .null, .unset] [.int z])) := c4.trans (st5 _ (Steps.refl _))
  have c7 : Steps p.tables e below (s₁.setTop (entryFrame m #[.ref a, .ref b, .int (Int32.ofNat o), .int (Int32.ofNat len), .null] 6)) (T5.setTop (mkF m 36 #[.val (.ref a), .val (.ref b), .val (.int (Int32.ofNat o)), .val (.int (Int32.ofNat len)), .val .null, .unset] [.int (Int32.ofNat len), .int (Int32.ofNat o), .ref b])) := c6.trans (by
    refine XS.ifNo X5.here hexec rfl (hb hbytes d30) rfl (i0_eq_f hz) ?_
    refine XS.aloadN X5.here hexec rfl (hb hbytes d33) rfl rfl ?_
    refine XS.iloadN X5.here hexec rfl (hb hbytes d34) rfl ?_
    refine XS.iloadN X5.here hexec rfl (hb hbytes d35) rfl ?_
    exact Steps.refl _)
  obtain ⟨v8, T8, X8, E8, g8⟩ := X5.callS hexec (Cmp3.law l b A o len) hown (wks W (staticW "java/lang/String" 177 Cmp3.yN)) (wk W Cmp3.tab) (W := 0) (Nat.le_of_ble_eq_true rfl) (Nat.le_of_ble_eq_true rfl) (Nat.le_refl _) (by show 0 + len ≤ len; omega) (g := (mkF m 36 #[.val (.ref a), .val (.ref b), .val (.int (Int32.ofNat o)), .val (.int (Int32.ofNat len)), .val .null, .unset] [.int (Int32.ofNat len), .int (Int32.ofNat o), .ref b])) rfl (by rw [hml]; rfl) c7 (argsL := [.ref b, .int (Int32.ofNat o), .int (Int32.ofNat len)]) (rest := []) rfl rfl (by show 2 * 0 + 0 ≤ _; decide) (hb hbytes d36) (⟨rfl, hA.mv X5.warmed.alike hh5, l1, l2, hp⟩)
  obtain ⟨e8, z8⟩ := E8
  obtain ⟨rfl, N, n1, n2, n3, n4, n5, n6⟩ := NewArr.mv _ T5 s _ _ hh5.symm (Vm.Alike.refl _) rfl e8
  rw [hh5] at z8
  have hB1 := hB.keep X8.warmed.alike (n6 _ _ hB.1)
  have hne : s.heap.size ≠ a := (Nat.ne_of_lt (Array.getElem?_eq_some_iff.mp hB.1).1).symm
  have c9 : Steps p.tables e below (s₁.setTop (entryFrame m #[.ref a, .ref b, .int (Int32.ofNat o), .int (Int32.ofNat len), .null] 6)) (T8.setTop (mkF m 39 #[.val (.ref a), .val (.ref b), .val (.int (Int32.ofNat o)), .val (.int (Int32.ofNat len)), .val .null, .unset] [.ref s.heap.size])) := g8
  have c10 : Steps p.tables e below (s₁.setTop (entryFrame m #[.ref a, .ref b, .int (Int32.ofNat o), .int (Int32.ofNat len), .null] 6)) (T8.setTop (mkF m 45 #[.val (.ref a), .val (.ref b), .val (.int (Int32.ofNat o)), .val (.int (Int32.ofNat len)), .val .null, .val (.ref s.heap.size)] [.int (Int32.ofNat N.slots.size), .ref s.heap.size, .ref a])) := by
    have hc : Steps p.tables e below (s₁.setTop (entryFrame m #[.ref a, .ref b, .int (Int32.ofNat o), .int (Int32.ofNat len), .null] 6)) (T8.setTop (mkF m 45 #[.val (.ref a), .val (.ref b), .val (.int (Int32.ofNat o)), .val (.int (Int32.ofNat len)), .val .null, .val (.ref s.heap.size)] [.int (Int32.ofNat len), .ref s.heap.size, .ref a])) := c9.trans (by
      refine XS.astore X8.here hexec rfl (hb hbytes d39) rfl rfl rfl ?_
      refine XS.aloadN X8.here hexec rfl (hb hbytes d41) rfl rfl ?_
      refine XS.aload X8.here hexec rfl (hb hbytes d42) rfl rfl ?_
      refine XS.iloadN X8.here hexec rfl (hb hbytes d44) rfl ?_
      exact Steps.refl _)
    rw [n4]; exact hc
  obtain ⟨v11, T11, X11, E11, g11⟩ := X8.callS hexec (CodL.law l s.heap.size N) hown (wks W (staticW "java/lang/String" 47 CodL.yN)) (wk W CodL.tab) (W := 1) (Nat.le_of_ble_eq_true rfl) (Nat.le_of_ble_eq_true rfl) (Nat.le_refl _) (by show 0 + len + 0 ≤ len; omega) (g := (mkF m 45 #[.val (.ref a), .val (.ref b), .val (.int (Int32.ofNat o)), .val (.int (Int32.ofNat len)), .val .null, .val (.ref s.heap.size)] [.int (Int32.ofNat N.slots.size), .ref s.heap.size, .ref a])) rfl (by rw [hml]; rfl) c10 (argsL := [.ref s.heap.size, .int (Int32.ofNat N.slots.size)]) (rest := [.ref a]) rfl rfl (by show 2 * 0 + (1 + 0) ≤ _; decide) (hb hbytes d45) (⟨rfl, n1⟩)
  obtain ⟨rfl, q11⟩ := E11
  have hB11 := hB1.mv (X8.warmed.alike.symm.trans X11.warmed.alike) q11
  have c12 : Steps p.tables e below (s₁.setTop (entryFrame m #[.ref a, .ref b, .int (Int32.ofNat o), .int (Int32.ofNat len), .null] 6)) (T11.setTop (mkF m 48 #[.val (.ref a), .val (.ref b), .val (.int (Int32.ofNat o)), .val (.int (Int32.ofNat len)), .val .null, .val (.ref s.heap.size)] [.int 0, .ref a])) := g11
  obtain ⟨T13, X13, p13, bl13, sl13, st13⟩ := X11.finit hexec hown (wk W (.fieldLink "java/lang/String" 15 "java/lang/String" "coder" "B")) (Or.inr ⟨_, (wk W (.laysFinal "java/lang/String" "java/lang/String" "coder" "B"))⟩) (Or.inl ⟨rfl, hnm⟩) f2 (Or.inl rfl) hB11 (t := .byte) (by decide +kernel) rfl (g := (mkF m 48 #[.val (.ref a), .val (.ref b), .val (.int (Int32.ofNat o)), .val (.int (Int32.ofNat len)), .val .null, .val (.ref s.heap.size)] [.int 0, .ref a])) rfl (rest := []) rfl (hb hbytes d48)
  have c14 : Steps p.tables e below (s₁.setTop (entryFrame m #[.ref a, .ref b, .int (Int32.ofNat o), .int (Int32.ofNat len), .null] 6)) (T13.setTop (mkF m 54 #[.val (.ref a), .val (.ref b), .val (.int (Int32.ofNat o)), .val (.int (Int32.ofNat len)), .val .null, .val (.ref s.heap.size)] [.ref s.heap.size, .ref a])) := (c12.trans (st13 _ (Steps.refl _))).trans (by
    refine XS.aloadN X13.here hexec rfl (hb hbytes d51) rfl rfl ?_
    refine XS.aload X13.here hexec rfl (hb hbytes d52) rfl rfl ?_
    exact Steps.refl _)
  obtain ⟨T15, X15, p15, bl15, sl15, st15⟩ := X13.finit hexec hown (wk W (.fieldLink "java/lang/String" 9 "java/lang/String" "value" "[B")) (Or.inr ⟨_, (wk W (.laysFinal "java/lang/String" "java/lang/String" "value" "[B"))⟩) (Or.inl ⟨rfl, hnm⟩) f1 (Or.inl rfl) bl13 (t := (.array .byte)) (by decide +kernel) rfl (g := (mkF m 54 #[.val (.ref a), .val (.ref b), .val (.int (Int32.ofNat o)), .val (.int (Int32.ofNat len)), .val .null, .val (.ref s.heap.size)] [.ref s.heap.size, .ref a])) rfl (rest := []) rfl (hb hbytes d54)
  have c16 : Steps p.tables e below (s₁.setTop (entryFrame m #[.ref a, .ref b, .int (Int32.ofNat o), .int (Int32.ofNat len), .null] 6)) (T15.setTop (mkF m 57 #[.val (.ref a), .val (.ref b), .val (.int (Int32.ofNat o)), .val (.int (Int32.ofNat len)), .val .null, .val (.ref s.heap.size)] [])) := c14.trans (st15 _ (Steps.refl _))
  have ap := apart (Or.inr ⟨_, (wk W (.laysFinal "java/lang/String" "java/lang/String" "value" "[B"))⟩) (Or.inr ⟨_, (wk W (.laysFinal "java/lang/String" "java/lang/String" "coder" "B"))⟩) f1 f2 (t₁ := .array .byte) (t₂ := .byte) (by decide +kernel) (by decide +kernel) (by decide)
  have al := X8.warmed.alike.symm.trans X15.warmed.alike
  have n7 : T11.heap[s.heap.size]? = some N := by rw [q11]; exact n1.1
  exact ⟨T15, none, _, _, _, X15, by simp, rfl, by omega, (fun _ => rfl), ⟨rfl, _, N, bl15, ((Same.refl D _).set _ (by simp)).set _ (by simp), sl15, (Cell.slots_setSlot_ne _ ap).trans sl13, n1.keep al (p15.other hne (p13.other hne n7)), n2, by rw [al.findClass]; exact n3, n4, n5, fun y c h1 h2 => p15.other h1 (p13.other h1 (by rw [q11]; exact n6 y c h2)), by rw [p15.2.2, p13.2.2, q11]; exact z8⟩, fun fs hl => c16.trans (X15.returnOut hexec hret (hb hbytes d57) hl)⟩
end New4
namespace New1
def yN : MethodName := ⟨"java/lang/String", "<init>", "([C)V"⟩
abbrev yB : ByteArray := jdk_42_method_3_code
theorem d0 : decode yB 0 = .ok (.aload_n 0, 1) := by decide +kernel
theorem d1 : decode yB 1 = .ok (.aload_n 1, 1) := by decide +kernel
theorem d2 : decode yB 2 = .ok (.iconst 0, 1) := by decide +kernel
theorem d3 : decode yB 3 = .ok (.aload_n 1, 1) := by decide +kernel
theorem d4 : decode yB 4 = .ok (.arraylength, 1) := by decide +kernel
theorem d5 : decode yB 5 = .ok (.aconst_null, 1) := by decide +kernel
theorem d6 : decode yB 6 = .ok (.invokespecial 27, 3) := by decide +kernel
theorem d9 : decode yB 9 = .ok (.return_, 1) := by decide +kernel
def site : List Cond := [New4.tab] ++ initW "java/lang/String" 27 New4.yN
def tab : Cond := tabOf yN yB 2 none site
def P (a : Addr) (D : Cell) (fV fC : Field) (b : Addr) (A : Cell) (z : Int32) (args : Array Value) (s : State) : Prop := args = #[.ref a, .ref b] ∧ Blank "java/lang/String" a D s ∧ Found "java/lang/String" "value" "[B" fV s ∧ Found "java/lang/String" "coder" "B" fC s ∧ Ch b A s ∧ StaticIs s "java/lang/String" "COMPACT_STRINGS" "Z" (.int z) ∧ ¬ z = 0 ∧ 0 < A.slots.size ∧ A.slots.size ≤ 536870912 ∧ ∀ i, i < A.slots.size → ¬ 255 < cv A i
def E (a : Addr) (D : Cell) (fV fC : Field) (A : Cell) (r : Option Value) (s u : State) : Prop := Got a D fV fC A 0 A.slots.size r s u
/-- new String(chars), not empty, no char above 255: a Latin-1 String of their low bytes -/
theorem law (l : Launch) (a : Addr) (D : Cell) (fV fC : Field) (b : Addr) (A : Cell) (z : Int32) : Law l yN 2 1 3 52 yB 2 none site (P a D fV fC b A z) (E a D fV fC A) [⟨a, fC.slot⟩, ⟨a, fV.slot⟩] 1 A.slots.size := by
  refine Law.of_walk (plainFor_of_name (by decide +kernel)) (by decide +kernel) (by decide +kernel) (by decide) (fun _ _ h => by rw [h.1]; rfl) (fun _ U U' hal hh h => ⟨h.1, h.2.1.mv hal hh, h.2.2.1.al hal, h.2.2.2.1.al hal, h.2.2.2.2.1.mv hal hh, h.2.2.2.2.2.1.there hal hh, h.2.2.2.2.2.2⟩) (fun r U U' V V' h1 hal h2 h => Got.mv r U U' V V' h1 hal h2 h) ?_
  intro p e s m args below meth c s₁ X0 hexec hbytes hml hret hlk hnm hown hh0 W hP
  obtain ⟨rfl, hB, f1, f2, hA, s1, hz, l0, l2, hp⟩ := hP
  have c1 : Steps p.tables e below (s₁.setTop (entryFrame m #[.ref a, .ref b] 2)) (s₁.setTop (mkF m 0 #[.val (.ref a), .val (.ref b)] [])) := entry rfl
  have c2 : Steps p.tables e below (s₁.setTop (entryFrame m #[.ref a, .ref b] 2)) (s₁.setTop (mkF m 6 #[.val (.ref a), .val (.ref b)] [.null, .int (Int32.ofNat A.slots.size), .int 0, .ref b, .ref a])) := c1.trans (by
    refine XS.aloadN X0.here hexec rfl (hb hbytes d0) rfl rfl ?_
    refine XS.aloadN X0.here hexec rfl (hb hbytes d1) rfl rfl ?_
    refine iconstV X0.here hexec rfl 0 (hb hbytes d2) (by decide) ?_
    refine XS.aloadN X0.here hexec rfl (hb hbytes d3) rfl rfl ?_
    refine X0.alen hexec (hA.1.mv X0.warmed.alike hh0) rfl rfl (hb hbytes d4) ?_
    refine XS.aconstNull X0.here hexec rfl (hb hbytes d5) ?_
    exact Steps.refl _)
  obtain ⟨v3, T3, X3, E3, g3⟩ := X0.callN hexec (New4.law l a D fV fC b A z 0 A.slots.size) rfl hown (wks W (initW "java/lang/String" 27 New4.yN)) (W New4.tab (by simp only [site, List.mem_cons, List.mem_append, true_or, or_true])) (W := 0) (Nat.le_of_ble_eq_true rfl) (Nat.le_of_ble_eq_true rfl) (Nat.le_refl _) (by show 0 + A.slots.size ≤ A.slots.size; omega) (g := (mkF m 6 #[.val (.ref a), .val (.ref b)] [.null, .int (Int32.ofNat A.slots.size), .int (Int32.ofNat 0), .ref b, .ref a])) rfl (by rw [hml]; rfl) c2 (argsL := [.ref b, .int (Int32.ofNat 0), .int (Int32.ofNat A.slots.size), .null]) (rest := []) rfl rfl (by show 2 * 0 + 0 ≤ _; decide) (hb hbytes d6) (⟨rfl, hB.mv X0.warmed.alike hh0, f1.al X0.warmed.alike, f2.al X0.warmed.alike, hA.mv X0.warmed.alike hh0, s1.there X0.warmed.alike hh0, hz, l0, by omega, l2, fun i hi => by rw [Nat.zero_add]; exact hp i hi⟩)
  have e0 := Got.mv _ s₁ s _ _ hh0.symm (Vm.Alike.refl _) rfl E3
  obtain rfl := e0.1
  have c4 : Steps p.tables e below (s₁.setTop (entryFrame m #[.ref a, .ref b] 2)) (T3.setTop (mkF m 9 #[.val (.ref a), .val (.ref b)] [])) := g3
  exact ⟨T3, none, _, _, _, X3, by simp, rfl, by omega, (fun _ => rfl), e0, fun fs hl => c4.trans (X3.returnOut hexec hret (hb hbytes d9) hl)⟩
theorem pays {l : Launch} {R : Room} {p : Program} {e : Env} {below : List Frame} {s : State} {sargs : Array Value} {len W : Nat} (a : Addr) (D : Cell) (fV fC : Field) (b : Addr) (A : Cell) (z : Int32) (htab : tab.before sargs s = true) (hfr : 4 ≤ R.frames) (hlo : W + 65 ≤ R.locals) :
    Back l R p e below s sargs yN len W (fun A₁ a₁ => A₁.cells + 1 ≤ R.cells ∧ A₁.slots + A.slots.size ≤ R.slots ∧ P a D fV fC b A z a₁ A₁.U) (fun A₁ _ v₁ B₁ => E a D fV fC A v₁ A₁.U B₁.U ∧ B₁.locs = A₁.locs ++ [⟨a, fC.slot⟩, ⟨a, fV.slot⟩] ∧ B₁.cells = A₁.cells + 1 ∧ B₁.slots = A₁.slots + A.slots.size) :=
  (law l a D fV fC b A z).pays htab hfr (by omega)
end New1
end StrChars
namespace StrChars.Road
open Jvm Sem ClassFile Op Lib Jvm.Stand Jvm.Free Jvm.Free.XT
open Jvm.Lib.Cold (StaticIs)
abbrev ST : String := "java/lang/String"
/-- every table word that New1's law asks, flat -/
abbrev words : List Jvm.Cond := [.code New1.yN New1.yB 2 none, .initialized ST, .methodLink ST 27 New4.yN, .instanceMethod New4.yN,
  .code New4.yN New4.yB 6 none, .fieldLink ST 38 ST "COMPACT_STRINGS" "Z", .laysFinal ST ST "value" "[B", .fieldLink ST 9 ST "value" "[B", .laysFinal ST ST "coder" "B", .fieldLink ST 15 ST "coder" "B",
  .methodLink ST 1 Lib.objectInit, .instanceMethod Lib.objectInit, .code Lib.objectInit ⟨#[0xb1]⟩ 1 none, .methodLink ST 177 Cmp3.yN, .static Cmp3.yN, .methodLink ST 47 CodL.yN, .static CodL.yN,
  .code Cmp3.yN Cmp3.yB 6 (some (.array .byte)), .initialized U16, .arrayClass .byte, .methodLink U16 115 Cmp5.yN, .static Cmp5.yN, .code Cmp5.yN Cmp5.yB 7 (some .int), .code CodL.yN CodL.yB 2 (some .byte)]
theorem tab_of {a : Array Value} {s : State} (h : ∀ w ∈ words, w.before a s = true) : New1.tab.before a s = true := by
  have h5 : Cmp5.tab.before a s = true := unparts (wk h (.code Cmp5.yN Cmp5.yB 7 (some .int))) (wks h (.initialized Cmp5.yN.cls :: Cmp5.site))
  have hc : CodL.tab.before a s = true := unparts (wk h (.code CodL.yN CodL.yB 2 (some .byte))) (wks h (.initialized CodL.yN.cls :: CodL.site))
  have q5 : ∀ w ∈ Cmp5.tab :: words, w.before a s = true := fun w hw => (List.mem_cons.mp hw).elim (fun e => e ▸ h5) (h w)
  have h3 : Cmp3.tab.before a s = true := unparts (wk q5 (.code Cmp3.yN Cmp3.yB 6 (some (.array .byte)))) (wks q5 (.initialized Cmp3.yN.cls :: Cmp3.site))
  have q3 : ∀ w ∈ Cmp3.tab :: CodL.tab :: words, w.before a s = true := fun w hw => (List.mem_cons.mp hw).elim (fun e => e ▸ h3) fun hw => (List.mem_cons.mp hw).elim (fun e => e ▸ hc) (h w)
  have h4 : New4.tab.before a s = true := unparts (wk q3 (.code New4.yN New4.yB 6 none)) (wks q3 (.initialized New4.yN.cls :: New4.site))
  have q4 : ∀ w ∈ New4.tab :: words, w.before a s = true := fun w hw => (List.mem_cons.mp hw).elim (fun e => e ▸ h4) (h w)
  exact unparts (wk q4 (.code New1.yN New1.yB 2 none)) (wks q4 (.initialized New1.yN.cls :: New1.site))
/-- the words ride from the start Z to the walk's own state -/
theorem moved {Z s : State} {a0 args : Array Value} (hZ : Z.Warmed39 s.vm) (hw : ∀ d ∈ words, d.before a0 Z = true) : ∀ d ∈ words, d.before args s = true := fun d hd => by
  have q := hw d hd
  have t : ∀ d ∈ words, d = .arrayClass .byte ∨ (d.onTables && d.keepsFace) = true := by decide +kernel
  rcases t d hd with rfl | t
  · exact RoadKit.mvA hZ q
  · exact RoadKit.mv hZ q t
/-- WHAT COMES BACK, over the tables of the start Z: h the heap at the call, h' behind it -/
def Q (Z : State) (x : Addr) (A : Cell) (h : Heap) (v : Option Value) (h' : Heap) (L : List Loc) : Prop := v = none ∧ (∀ y ∈ L, y.base = x) ∧ RoadKit.Keep h h' [x] ∧ h'.size = h.size + 1 ∧ RoadKit.Exa Z h' x ST ∧ RoadKit.Fld Z h' x ST "value" "[B" (.ref h.size) ∧ RoadKit.Fld Z h' x ST "coder" "B" (.int 0) ∧
  (∃ V : Cell, RoadKit.Arr Z h' h.size V .byte ∧ V.vm = .none ∧ Z.vm.findClass "[B" = some V.cls ∧ V.slots.size = A.slots.size ∧ ∀ j, j < A.slots.size → V.slots[j]? = some (.int (lo8 (cv A j)))) ∧
  ∀ (O n d : String) (w : Value), RoadKit.Fld Z h x O n d w → RoadKit.slotOf Z O n d ≠ RoadKit.slotOf Z ST "value" "[B" → RoadKit.slotOf Z O n d ≠ RoadKit.slotOf Z ST "coder" "B" → RoadKit.Fld Z h' x O n d w
/-- **new String(chars) AT A CALL, IN THE ROAD'S FORM**: for specialBack behind newO: x the fresh String, b the char[] with the cell A -/
theorem back {p : Program} {l : Launch} {e : Env} {R : Room} {s : State} {args : Array Value} {below : List Frame} {len W : Nat} {Z : State} {a0 : Array Value} {h : Heap} (hZ : Z.Warmed39 s.vm) (hw : ∀ d ∈ words, d.before a0 Z = true) {kI : Nat} (wi : (Jvm.Cond.instantiable ST kI).before a0 Z = true)
    {x b : Addr} {A : Cell} {z : Int32} {v0 c0 : Value} (E : RoadKit.Exa Z h x ST) (V : RoadKit.Fld Z h x ST "value" "[B" v0) (C : RoadKit.Fld Z h x ST "coder" "B" c0) (K : RoadKit.Arr Z h b A .char) (hty : Typed .char A) (S : RoadKit.Sta Z h ST "COMPACT_STRINGS" "Z" (.int z)) (hz : ¬ z = 0)
    (l0 : 0 < A.slots.size) (l2 : A.slots.size ≤ 536870912) (hp : ∀ i, i < A.slots.size → ¬ 255 < cv A i) (hfr : 4 ≤ R.frames) (hlo : W + 65 ≤ R.locals) :
    Back l R p e below s args New1.yN len W (fun P a => a = #[.ref x, .ref b] ∧ P.U.heap = h ∧ P.cells + 1 ≤ R.cells ∧ P.slots + A.slots.size ≤ R.slots)
      (fun P _ v B => ∃ L, Q Z x A h v B.U.heap L ∧ B.locs = P.locs ++ L ∧ B.cells = P.cells + 1 ∧ B.slots = P.slots + A.slots.size) := by
  intro m meth c P g ig mk a X hg hsize hdg hW hn hp'
  obtain ⟨rfl, rfl, r1, r2⟩ := hp'
  have al : Z.vm.Alike P.U.vm := hZ.alike.trans X.warmed.alike
  obtain ⟨D, cfV, kV, iV, fV, hD, gV, stV, knV, obV, asV, slV⟩ := id V
  obtain ⟨D', cfC, kC, iC, fC, hD', gC, stC, -, -, asC, slC⟩ := id C
  cases hD.symm.trans hD'
  obtain ⟨D2, kD, e1, e2, e3, e4, e5⟩ := id E
  cases hD.symm.trans e1
  obtain ⟨c2, k2, i1, i2, i3, -⟩ := Cond.instantiable_spec wi
  cases e2.symm.trans i1
  cases e3.symm.trans i2
  obtain ⟨kU, u1, u2⟩ := al.2.2 _ _ e3
  have hB : Blank ST x D P.U := ⟨hD, ⟨knV, fun q hq => by rw [hq] at obV; cases obV⟩, by rw [al.findClass]; exact e2, kU, u1, by rw [u2]; exact i3, by rw [u2]; exact e5 i3⟩
  have F1 : Found ST "value" "[B" fV P.U := ⟨SBG.found_only al ⟨cfV, kV, iV, gV⟩, stV⟩
  have F2 : Found ST "coder" "B" fC P.U := ⟨SBG.found_only al ⟨cfC, kC, iC, gC⟩, stC⟩
  have hA : Ch b A P.U := ⟨⟨K.1, State.isArrayOf_alike al K.2.1, K.2.2, by omega⟩, hty⟩
  have hS : StaticIs P.U ST "COMPACT_STRINGS" "Z" (.int z) := by
    obtain ⟨cfS, iS, kS, fS, st, cS, t1, t2, t3, t4, t5, t6, t7⟩ := S
    exact StaticIs.there (s := { Z with heap := P.U.heap }) ⟨cfS, iS, kS, fS, st, cS, t1, t2, t3, t4, t5, (fun q => by rw [q] at t6; cases t6), t7⟩ al rfl
  obtain ⟨v, B, X', ⟨⟨hv, E', V', q1, q2, q3, q4, q5, q6, q7, q8, q9, q10, q11⟩, hl, hc, hs⟩, st⟩ := New1.pays x D fV fC b A z (tab_of (moved hZ hw)) hfr hlo m meth c P g ig mk _ X hg hsize hdg hW hn ⟨r1, r2, rfl, hB, F1, F2, hA, hS, hz, l0, l2, hp⟩
  have al' : Z.vm.Alike B.U.vm := hZ.alike.trans X'.warmed.alike
  have hsz : E'.slots.size = D.slots.size := by
    obtain ⟨-, -, -, kB, w1, w2, w3⟩ := q1
    obtain ⟨kB', y1, y2⟩ := al'.2.2 _ _ e3
    rw [q2.2.1] at w1
    cases w1.symm.trans y1
    rw [w3, e5 i3, y2]
  refine ⟨v, B, X', ⟨_, ⟨hv, ?_, ⟨by omega, fun y cy hy hn' => q10 y cy (by simpa using hn') hy, fun y cy hy => ?_⟩, q11, ⟨E', _, q1.1, by rw [q2.2.1]; exact e2, by rw [q2.2.1]; exact e3, by rw [q2.1]; exact obV, fun _ => by rw [hsz]; exact e5 i3⟩,
    ⟨E', cfV, kV, iV, fV, q1.1, gV, stV, by rw [q2.1]; exact knV, by rw [q2.1]; exact obV, by rw [q2.2.1]; exact asV, q3⟩, ⟨E', cfC, kC, iC, fC, q1.1, gC, stC, by rw [q2.1]; exact knV, by rw [q2.1]; exact obV, by rw [q2.2.1]; exact asC, q4⟩,
    ⟨V', ⟨q5.1, State.isArrayOf_alike al'.symm q5.2.1, q5.2.2.1⟩, q6, by rw [← al'.findClass]; exact q7, q8, fun j hj => by have := q9 j hj; rwa [Nat.zero_add] at this⟩, fun O n d w F n1 n2 => ?_⟩, hl, hc, hs⟩, st⟩
  · intro y hy
    simp only [List.mem_cons, List.not_mem_nil, or_false] at hy
    rcases hy with rfl | rfl <;> rfl
  · by_cases q : y = x
    · subst q
      cases hD.symm.trans hy
      exact ⟨E', q1.1, q2.2.1, q2.1, hsz⟩
    · exact ⟨cy, q10 y cy q hy, rfl, rfl, rfl⟩
  · obtain ⟨D3, cf, k, i, f, g1, g2, g3, g4, g5, g6, g7⟩ := F
    cases hD.symm.trans g1
    simp only [RoadKit.slotOf, g2, gV, gC, Option.map_some, Option.getD_some] at n1 n2
    exact ⟨E', cf, k, i, f, q1.1, g2, g3, by rw [q2.1]; exact g4, by rw [q2.1]; exact g5, by rw [q2.2.1]; exact g6, by rw [q2.2.2 f.slot (by simp [n1, n2])]; exact g7⟩
end StrChars.Road
namespace StrChars.Road
open Jvm Sem ClassFile Op Lib Jvm.Stand Jvm.Free Jvm.Free.XT
/-- WHAT COMES BACK, the byte[] as a list of values -/
def QA (Z : State) (x : Addr) (zn : Int32) (cs : List Int32) (h : Heap) (v : Option Value) (h' : Heap) (L : List Loc) : Prop := v = none ∧ (∀ y ∈ L, y.base = x) ∧ RoadKit.Keep h h' [x] ∧ h'.size = h.size + 1 ∧ RoadKit.Exa Z h' x ST ∧ RoadKit.Fld Z h' x ST "value" "[B" (.ref h.size) ∧ RoadKit.Fld Z h' x ST "coder" "B" (.int 0) ∧
  (∃ kb, Z.vm.findClass "[B" = some kb ∧ RoadKit.Arv Z h' h.size kb .byte zn (cs.map fun c => .int (lo8 c)) (.int 0)) ∧
  ∀ (O n d : String) (w : Value), RoadKit.Fld Z h x O n d w → RoadKit.slotOf Z O n d ≠ RoadKit.slotOf Z ST "value" "[B" → RoadKit.slotOf Z O n d ≠ RoadKit.slotOf Z ST "coder" "B" → RoadKit.Fld Z h' x O n d w
/-- **new String(chars) AT A CALL, THE ARRAYS AS LISTS**: the char[] at b holds cs, not empty, no char above 255 -/
theorem backArv {p : Program} {l : Launch} {e : Env} {R : Room} {s : State} {args : Array Value} {below : List Frame} {len W : Nat} {Z : State} {a0 : Array Value} {h : Heap} (hZ : Z.Warmed39 s.vm) (hw : ∀ d ∈ words, d.before a0 Z = true) {kI : Nat} (wi : (Jvm.Cond.instantiable ST kI).before a0 Z = true)
    {x b : Addr} {k : ClassId} {zn z : Int32} {cs : List Int32} {dv v0 c0 : Value} (E : RoadKit.Exa Z h x ST) (V : RoadKit.Fld Z h x ST "value" "[B" v0) (C : RoadKit.Fld Z h x ST "coder" "B" c0) (K : RoadKit.Arv Z h b k .char zn (cs.map Value.int) dv) (S : RoadKit.Sta Z h ST "COMPACT_STRINGS" "Z" (.int z)) (hz : ¬ z = 0)
    (hlen : zn.toNatClampNeg = cs.length) (h0 : 0 < cs.length) (hbig : cs.length ≤ 536870912) (hall : ∀ c ∈ cs, ¬ 255 < c) (hfr : 4 ≤ R.frames) (hlo : W + 65 ≤ R.locals) :
    Back l R p e below s args New1.yN len W (fun P a => a = #[.ref x, .ref b] ∧ P.U.heap = h ∧ P.cells + 1 ≤ R.cells ∧ P.slots + cs.length ≤ R.slots)
      (fun P _ v B => ∃ L, QA Z x zn cs h v B.U.heap L ∧ B.locs = P.locs ++ L ∧ B.cells = P.cells + 1 ∧ B.slots = P.slots + cs.length) := by
  obtain ⟨A, K1, K2, K3, K4, K5, K6⟩ := K
  have e : A.slots.size = cs.length := K3.trans hlen
  have hat : ∀ (i : Nat) (hi : i < cs.length), A.slots[i]? = some (.int cs[i]) := fun i hi => by rw [K5 i (by omega)]; simp [List.getD_eq_getElem?_getD, hi]
  have hcv : ∀ (i : Nat) (hi : i < cs.length), cv A i = cs[i] := fun i hi => by unfold cv; rw [hat i hi]
  have hty : Typed .char A := fun i v hv => by
    have hi : i < A.slots.size := (Array.getElem?_eq_some_iff.mp hv).1
    have q := K5 i hi
    rw [hv] at q
    rw [Option.some.inj q]
    exact K6 i hi
  refine Back.mono (back hZ hw wi E V C K1 hty S hz (by omega) (by omega) (fun i hi => by rw [hcv i (by omega)]; exact hall _ (List.getElem_mem _)) hfr hlo) (fun P a hp => ⟨hp.1, hp.2.1, hp.2.2.1, by rw [e]; exact hp.2.2.2⟩) (fun P a v B hp hq => ?_)
  obtain ⟨L, ⟨q1, q2, q3, q4, q5, q6, q7, ⟨V', v1, v2, v3, v4, v5⟩, q9⟩, hl, hc, hs⟩ := hq
  refine ⟨L, ⟨q1, q2, q3, q4, q5, q6, q7, ⟨V'.cls, v3, V', v1, rfl, by rw [v4, e, hlen], K4, fun i hi => ?_, fun i hi => ?_⟩, q9⟩, hl, hc, by rw [hs, e]⟩
  · have hi' : i < cs.length := by omega
    rw [v5 i (by omega), hcv i hi']; simp [List.getD_eq_getElem?_getD, hi']
  · have hi' : i < cs.length := by omega
    simp only [List.getD_eq_getElem?_getD, List.getElem?_map, List.getElem?_eq_getElem hi', Option.map_some, Option.getD_some]
    exact fits_lo8 _
end StrChars.Road
namespace StrChars.Road
open Jvm Sem ClassFile Op Lib Jvm.Stand Jvm.Free Jvm.Free.XT
/-- WHAT COMES BACK, in the writer's own shape -/
def QV (Z : State) (x : Addr) (N : Int32) (bs : List Int32) (h : Heap) (n0 : Nat) (v : Option Value) (h' : Heap) (L : List Loc) : Prop := v = none ∧ RoadKit.Fr n0 L ∧ RoadKit.Keep h h' [x] ∧ RoadKit.Exa Z h' x ST ∧ RoadKit.Fld Z h' x ST "coder" "B" (.int 0) ∧
  ∃ (t : Addr) (kb : ClassId), n0 ≤ t ∧ h.size ≤ t ∧ ¬ t = x ∧ RoadKit.Fld Z h' x ST "value" "[B" (.ref t) ∧ RoadKit.Arv Z h' t kb .byte N (bs.map Value.int) (.int 0)
/-- **new String(chars) AT A CALL, FOR THE WRITER**: a char[] of n known ints, each 0 to 255 -/
theorem backV {p : Program} {l : Launch} {e : Env} {R : Room} {s : State} {args : Array Value} {below : List Frame} {len W : Nat} {Z : State} {a0 : Array Value} {h : Heap} (hZ : Z.Warmed39 s.vm) (hw : ∀ d ∈ words, d.before a0 Z = true) {kI : Nat} (wi : (Jvm.Cond.instantiable ST kI).before a0 Z = true)
    {x b : Addr} {kC : ClassId} {cs bs : List Int32} {d v0 c0 : Value} {z N : Int32} {n n0 : Nat} (hx0 : n0 ≤ x) (hh0 : n0 ≤ h.size) (E : RoadKit.Exa Z h x ST) (V : RoadKit.Fld Z h x ST "value" "[B" v0) (C : RoadKit.Fld Z h x ST "coder" "B" c0) (K : RoadKit.Arv Z h b kC .char N (cs.map Value.int) d) (S : RoadKit.Sta Z h ST "COMPACT_STRINGS" "Z" (.int z)) (hz : ¬ z = 0)
    (hn : cs.length = n) (hN : N = Int32.ofNat n) (l0 : 0 < n) (l2 : n ≤ 4000) (hp : ∀ c ∈ cs, ¬ c < 0 ∧ ¬ (255 : Int32) < c) (hb : bs = cs.map (fun c => c.toInt8.toInt32)) (hfr : 4 ≤ R.frames) (hlo : W + 65 ≤ R.locals) :
    Back l R p e below s args (⟨"java/lang/String", "<init>", "([C)V"⟩ : MethodName) len W (fun P a => a = #[.ref x, .ref b] ∧ P.U.heap = h ∧ P.cells + 1 ≤ R.cells ∧ P.slots + n ≤ R.slots)
      (fun P _ v B => ∃ L, QV Z x N bs h n0 v B.U.heap L ∧ B.locs = P.locs ++ L ∧ B.cells = P.cells + 1 ∧ B.slots = P.slots + n) := by
  subst hn hN hb
  refine Back.mono (backArv hZ hw wi E V C K S hz (n32 (by omega)) l0 (by omega) (fun c hc => (hp c hc).2) hfr hlo) (fun P a hp => hp) (fun P a v B hp hq => ?_)
  obtain ⟨L, ⟨q1, q2, q3, q4, q5, q6, q7, ⟨kb, v1, v2⟩, q9⟩, hl, hc, hs⟩ := hq
  exact ⟨L, ⟨q1, fun y hy => by rw [q2 y hy]; exact hx0, q3, q5, q7, h.size, kb, hh0, Nat.le_refl _, Nat.ne_of_gt E.lt, q6, by rw [List.map_map]; exact v2⟩, hl, hc, hs⟩
end StrChars.Road
end Jvm.Pilot.@@N@@
namespace Jvm.Pilot.@@N@@
open Jvm Jvm.ClassFile Sem Op Lib Jvm.Free Jvm.Stand Jvm.LawKit Jvm.RoadKit Bundle Jvm.Pilot.@@N@@.Jvm.D
section OwnGo
/-- from this frame the run ends, and leaves what Q says -/
def Go (p : Program) (e : Env) (below : List Frame) (s : State) (k n : Nat) (Q : Option Value → Heap → List Loc → Prop) (m : MethodId) (T : State) (pc : Nat) (L : Array Slot) (S : List Value) : Prop :=
  ∃ s₂ o, Steps p.tables e below (T.setTop (mkF m pc L S)) s₂ ∧ s₂.status = .running ∧ Ended s₂ below o ∧ ∃ v Ls, o = .returned v ∧ Q v s₂.heap Ls ∧ FrameEnd s o s₂ Ls k n
variable {p : Program} {l : Launch} {e : Env} {R : Room} {s : State} {m : MethodId} {args : Array Value} {below : List Frame} {meth : Method} {c : Code} {T T' : State} {locs : List Loc} {cells slots k n : Nat} {Z : State} {h : Heap} {Q : Option Value → Heap → List Loc → Prop} {pc pc' : Nat} {L L' : Array Slot} {S S' : List Value}
theorem Go.st (h : ∀ t, Steps p.tables e below (T'.setTop (mkF m pc' L' S')) t → Steps p.tables e below (T.setTop (mkF m pc L S)) t) (g : Go p e below s k n Q m T' pc' L' S') : Go p e below s k n Q m T pc L S := by
  obtain ⟨a, b, c, d⟩ := g; exact ⟨a, b, h _ c, d⟩
theorem Go.tr (h : Steps p.tables e below (T.setTop (mkF m pc L S)) (T'.setTop (mkF m pc' L' S'))) (g : Go p e below s k n Q m T' pc' L' S') : Go p e below s k n Q m T pc L S := Go.st (fun _ q => h.trans q) g
theorem Go.retV (X : Stand p l e R s m args below meth c T locs cells slots) (hx : p.tables.exec = Jvm.exec) (hlk : meth.locks = false) (hret : meth.sig.returnType = none) (hd : decode c.code pc = .ok (.return_, 1)) (hk : cells ≤ k) (hn : slots ≤ n) (hq : Q none T.heap locs) : Go p e below s k n Q m T pc L [] := by
  obtain ⟨fs, hr, hrun, hended, hW, hsame⟩ := X.leave (v := none) (fun _ => rfl) hlk
  exact ⟨_, _, X.returnOut hx hret hd hr, hrun, hended, _, _, rfl, hq, ⟨_, rfl⟩, hW, hsame.mono hk hn⟩
theorem Go.retN (X : Stand p l e R s m args below meth c T locs cells slots) (hx : p.tables.exec = Jvm.exec) (hlk : meth.locks = false) {t : FieldType} {z : Int32} {rest : List Value} (hret : meth.sig.returnType = some t) (ht : t = .boolean ∨ t = .byte ∨ t = .char ∨ t = .short) (hd : decode c.code pc = .ok (.ireturn, 1)) (hk : cells ≤ k) (hn : slots ≤ n) (hq : Q (some (.int (nar t z))) T.heap locs) : Go p e below s k n Q m T pc L (.int z :: rest) := by
  obtain ⟨fs, hr, hrun, hended, hW, hsame⟩ := X.leave (v := some (.int (nar t z))) (fun h => by rw [hret] at h; cases h) hlk
  exact ⟨_, _, Jvm.RoadKit.retN X hx hret ht hd hr, hrun, hended, _, _, rfl, hq, ⟨_, rfl⟩, hW, hsame.mono hk hn⟩
theorem Go.retO (X : Stand p l e R s m args below meth c T locs cells slots) (hx : p.tables.exec = Jvm.exec) (hlk : meth.locks = false) {t : FieldType} {w : Value} {i : Instr} {rest : List Value} (hret : meth.sig.returnType = some t) (hw : narrow t w = w) (hi : (i = .ireturn ∧ (t = .int ∨ t = .boolean ∨ t = .byte ∨ t = .char ∨ t = .short) ∧ ∃ z, w = .int z) ∨ (i = .lreturn ∧ t = .long ∧ ∃ z, w = .long z) ∨ (i = .dreturn ∧ t = .double ∧ ∃ z, w = .double z) ∨ (i = .freturn ∧ t = .float ∧ ∃ z, w = .float z) ∨ (i = .areturn ∧ t.isReference = true ∧ w.isRef = true)) (hd : decode c.code pc = .ok (i, 1)) (hk : cells ≤ k) (hn : slots ≤ n) (hq : Q (some w) T.heap locs) : Go p e below s k n Q m T pc L (w :: rest) := by
  obtain ⟨fs, hr, hrun, hended, hW, hsame⟩ := X.leave (v := some w) (fun h => by rw [hret] at h; cases h) hlk
  exact ⟨_, _, retOut X hx hret hw hi hd hr, hrun, hended, _, _, rfl, hq, ⟨_, rfl⟩, hW, hsame.mono hk hn⟩
theorem Stand.up (X : Stand p l e R s m args below meth c T locs cells slots) (hk : cells ≤ k) (hn : slots ≤ n) : Stand p l e R s m args below meth c T locs k n :=
  ⟨X.admits, X.cas, X.clock, X.frames, X.room, X.hears, X.method, X.code, X.here, X.tail, X.warmed, X.limits, X.bytes, X.same.mono hk hn⟩
theorem own_len (X : Stand p l e R s m args below meth c T locs cells slots) (hx : p.tables.exec = Jvm.exec) (hZ : Z.Warmed39 s.vm) (eT : T.heap = h) {a : Addr} {cl : Cell} {ty : FieldType} {z : Int32} (A : Arr Z h a cl ty) (S : cl.slots.size = z.toNatClampNeg) (q : ¬ z < 0) {g : JFrame} (hg : g.method = m) {rest : List Value} (hs : g.stack = .ref a :: rest) (hd : decode c.code g.pc = .ok (.arraylength, 1)) (t : State)
    (k : Steps p.tables e below (T.setTop { g with pc := g.pc + 1, stack := .int z :: rest }) t) : Steps p.tables e below (T.setTop g) t := by
  refine X.arraylength hx (by rw [eT]; exact A.1) (State.isArrayOf_alike hZ.alike A.2.1) (g := g) hg hs hd _ ?_
  rw [len_of S q]; exact k
theorem own_met {l : Launch} {y : MethodName} {bytes : ByteArray} {maxL : Nat} {ret : Option FieldType} {ws : List Jvm.Cond} {rm : Room} {A : Array Value} {Z : State} {h0 : Heap} {Q : Option Value → Heap → List Loc → Prop} {L0 : Array Slot} {K N : Nat} (hpl : plainFor y = true) (hef : ∀ m, entryFrame m A maxL = mkF m 0 L0 [])
    (body : ∀ (p : Program) (e : Env) (s : State) (m : MethodId) (below : List Frame) (meth : Method) (c : Code) (s₁ : State), Stand p l e rm s m A below meth c s₁ [] 0 0 → p.tables.exec = Jvm.exec → c.code = bytes → c.maxLocals = maxL → s.vm.findClass y.cls = some m.cls → meth.name = y.name → meth.sig.returnType = ret → meth.locks = false → Z.Warmed39 s.vm → s₁.heap = h0 → Go p e below s K N Q m s₁ 0 L0 []) :
    MetFree l y (head1 (Jvm.Cond.code y bytes maxL ret :: ws) rm) (fun a U => a = A ∧ Z.Warmed39 U.vm ∧ U.heap = h0) (fun _ _ _ _ _ => True) (fun _ U o U' => ∃ v L, o = .returned v ∧ Q v U'.heap L ∧ FrameEnd U o U' L K N) := by
  refine MetFree.of_bodySF hpl hisR ?_
  intro p e s m args below meth c s₁ Bd hml0 hP hK
  obtain ⟨rfl, hZ, hh⟩ := hP
  obtain ⟨s₂, o, h1, h2⟩ := body p e s m below meth c s₁ (Stand.of_body Bd) Bd.exec Bd.bytes hml0 (findClass_of_methodNamed Bd.named) (name_of_methodNamed Bd.named Bd.method).1 Bd.returns Bd.notSynchronized hZ (by rw [← hh, Bd.state]; rfl)
  exact ⟨s₂, o, castTop (hef m) h1, h2⟩
end OwnGo
theorem own_and255 (x : Int32) : ¬ nar .char ((x &&& (255 : Int32)).toUInt32.toUInt16.toUInt32.toInt32) < 0 ∧ ¬ (255 : Int32) < nar .char ((x &&& (255 : Int32)).toUInt32.toUInt16.toUInt32.toInt32) := by
  have e1 : nar .char ((x &&& (255 : Int32)).toUInt32.toUInt16.toUInt32.toInt32) = x &&& 255 := by simp only [nar, i2c_mask]
  rw [e1]
  have h := c_mask x 255 8 (by decide) (by decide)
  have e0 : (0 : Int32).toInt = 0 := rfl
  have e2 : (255 : Int32).toInt = 255 := rfl
  simp only [Int32.lt_iff_toInt_lt, h, e0, e2]
  omega
theorem own_c255 (x : Int32) : ¬ (x &&& (255 : Int32)).toUInt32.toUInt16.toUInt32.toInt32 < 0 ∧ ¬ (255 : Int32) < (x &&& (255 : Int32)).toUInt32.toUInt16.toUInt32.toInt32 := by
  rw [i2c_mask]
  have h := c_mask x 255 8 (by decide) (by decide)
  have e0 : (0 : Int32).toInt = 0 := rfl
  have e2 : (255 : Int32).toInt = 255 := rfl
  simp only [Int32.lt_iff_toInt_lt, h, e0, e2]
  omega
section OwnGoH
/-- as Go, where String constants may be loaded: the wide frame, and the invariant of the constants held -/
def GoH (Z : State) (EL : List (String × Nat)) (p : Program) (e : Env) (below : List Frame) (s : State) (k n : Nat) (Q : Option Value → Heap → List Loc → Prop) (m : MethodId) (T : State) (pc : Nat) (L : Array Slot) (S : List Value) : Prop :=
  ∃ s₂ o, Steps p.tables e below (T.setTop (mkF m pc L S)) s₂ ∧ s₂.status = .running ∧ Ended s₂ below o ∧ ∃ v Ls, o = .returned v ∧ Q v s₂.heap Ls ∧ CHr Z EL s.vm s.heap s₂.vm s₂.heap ∧ ReturnedEndW s o s₂ Ls k n
variable {p : Program} {l : Launch} {e : Env} {R : Room} {s : State} {m : MethodId} {args : Array Value} {below : List Frame} {meth : Method} {c : Code} {T T' : State} {locs : List Loc} {cells slots k n k0 : Nat} {Z : State} {a0 : Array Value} {h h0 : Heap} {vm0 : Vm} {EL : List (String × Nat)} {Q : Option Value → Heap → List Loc → Prop} {pc pc' : Nat} {L L' : Array Slot} {S S' : List Value}
theorem GoH.st (h : ∀ t, Steps p.tables e below (T'.setTop (mkF m pc' L' S')) t → Steps p.tables e below (T.setTop (mkF m pc L S)) t) (g : GoH Z EL p e below s k n Q m T' pc' L' S') : GoH Z EL p e below s k n Q m T pc L S := by
  obtain ⟨a, b, c, d⟩ := g; exact ⟨a, b, h _ c, d⟩
theorem GoH.tr (h : Steps p.tables e below (T.setTop (mkF m pc L S)) (T'.setTop (mkF m pc' L' S'))) (g : GoH Z EL p e below s k n Q m T' pc' L' S') : GoH Z EL p e below s k n Q m T pc L S := GoH.st (fun _ q => h.trans q) g
theorem own_upW {s t : State} {o : Outcome} {L : List Loc} {k n k' n' : Nat} (h : ReturnedEndW s o t L k n) (hk : k ≤ k') (hn : n ≤ n') : ReturnedEndW s o t L k' n' := ⟨h.1, h.2.1, h.2.2.1, h.2.2.2.mono hk hn⟩
theorem own_chr (X : Stand p l e R (s.setVm vm0) m args below meth c T locs cells slots) (eT : T.heap = h) (hs0 : s.heap = h0) (hZ : Z.Warmed39 vm0) (hEL : EW Z a0 EL) (CR : CHr Z EL s.vm h0 vm0 h) : CHr Z EL s.vm s.heap T.vm T.heap := by
  rw [eT, hs0]; exact CR.trans (CHv.at X hZ hEL CR.1)
theorem GoH.retV (X : Stand p l e R (s.setVm vm0) m args below meth c T locs cells slots) (hx : p.tables.exec = Jvm.exec) (hlk : meth.locks = false) (hret : meth.sig.returnType = none) (hd : decode c.code pc = .ok (.return_, 1)) (hk : cells ≤ k) (hn : slots ≤ n) (hS : s.Since vm0 k0) (hk0 : k0 ≤ h.size) (eT : T.heap = h) (hs0 : s.heap = h0) (hZ : Z.Warmed39 vm0) (hEL : EW Z a0 EL) (CR : CHr Z EL s.vm h0 vm0 h) (hq : Q none T.heap locs) : GoH Z EL p e below s k n Q m T pc L [] := by
  obtain ⟨fs, hr, hrun, hended, hW⟩ := X.leaveW hS (by rw [eT]; exact hk0) (v := none) (fun _ => rfl) hlk
  have hc := own_chr X eT hs0 hZ hEL CR
  exact ⟨_, _, X.returnOut hx hret hd hr, hrun, hended, _, _, rfl, hq, hc, own_upW hW hk hn⟩
theorem GoH.retN (X : Stand p l e R (s.setVm vm0) m args below meth c T locs cells slots) (hx : p.tables.exec = Jvm.exec) (hlk : meth.locks = false) {t : FieldType} {z : Int32} {rest : List Value} (hret : meth.sig.returnType = some t) (ht : t = .boolean ∨ t = .byte ∨ t = .char ∨ t = .short) (hd : decode c.code pc = .ok (.ireturn, 1)) (hk : cells ≤ k) (hn : slots ≤ n) (hS : s.Since vm0 k0) (hk0 : k0 ≤ h.size) (eT : T.heap = h) (hs0 : s.heap = h0) (hZ : Z.Warmed39 vm0) (hEL : EW Z a0 EL) (CR : CHr Z EL s.vm h0 vm0 h) (hq : Q (some (.int (nar t z))) T.heap locs) : GoH Z EL p e below s k n Q m T pc L (.int z :: rest) := by
  obtain ⟨fs, hr, hrun, hended, hW⟩ := X.leaveW hS (by rw [eT]; exact hk0) (v := some (.int (nar t z))) (fun h => by rw [hret] at h; cases h) hlk
  have hc := own_chr X eT hs0 hZ hEL CR
  exact ⟨_, _, Jvm.RoadKit.retN X hx hret ht hd hr, hrun, hended, _, _, rfl, hq, hc, own_upW hW hk hn⟩
theorem GoH.retO (X : Stand p l e R (s.setVm vm0) m args below meth c T locs cells slots) (hx : p.tables.exec = Jvm.exec) (hlk : meth.locks = false) {t : FieldType} {w : Value} {i : Instr} {rest : List Value} (hret : meth.sig.returnType = some t) (hw : narrow t w = w) (hi : (i = .ireturn ∧ (t = .int ∨ t = .boolean ∨ t = .byte ∨ t = .char ∨ t = .short) ∧ ∃ z, w = .int z) ∨ (i = .lreturn ∧ t = .long ∧ ∃ z, w = .long z) ∨ (i = .dreturn ∧ t = .double ∧ ∃ z, w = .double z) ∨ (i = .freturn ∧ t = .float ∧ ∃ z, w = .float z) ∨ (i = .areturn ∧ t.isReference = true ∧ w.isRef = true)) (hd : decode c.code pc = .ok (i, 1)) (hk : cells ≤ k) (hn : slots ≤ n) (hS : s.Since vm0 k0) (hk0 : k0 ≤ h.size) (eT : T.heap = h) (hs0 : s.heap = h0) (hZ : Z.Warmed39 vm0) (hEL : EW Z a0 EL) (CR : CHr Z EL s.vm h0 vm0 h) (hq : Q (some w) T.heap locs) : GoH Z EL p e below s k n Q m T pc L (w :: rest) := by
  obtain ⟨fs, hr, hrun, hended, hW⟩ := X.leaveW hS (by rw [eT]; exact hk0) (v := some w) (fun h => by rw [hret] at h; cases h) hlk
  have hc := own_chr X eT hs0 hZ hEL CR
  exact ⟨_, _, retOut X hx hret hw hi hd hr, hrun, hended, _, _, rfl, hq, hc, own_upW hW hk hn⟩
theorem own_metH {l : Launch} {y : MethodName} {bytes : ByteArray} {maxL : Nat} {ret : Option FieldType} {ws : List Jvm.Cond} {rm : Room} {A : Array Value} {Z : State} {EL : List (String × Nat)} {h0 : Heap} {Q : Option Value → Heap → List Loc → Prop} {L0 : Array Slot} {K N : Nat} (hpl : plainFor y = true) (hef : ∀ m, entryFrame m A maxL = mkF m 0 L0 [])
    (body : ∀ (p : Program) (e : Env) (s : State) (m : MethodId) (below : List Frame) (meth : Method) (c : Code) (s₁ : State), Stand p l e rm (s.setVm s.vm) m A below meth c s₁ [] 0 0 → p.tables.exec = Jvm.exec → c.code = bytes → c.maxLocals = maxL → (s.setVm s.vm).vm.findClass y.cls = some m.cls → meth.name = y.name → meth.sig.returnType = ret → meth.locks = false → Z.Warmed39 (s.setVm s.vm).vm → s₁.heap = h0 → s.heap = h0 → CHr Z EL s.vm h0 s.vm h0 → s.Since s.vm 0 → 0 ≤ h0.size → GoH Z EL p e below s K N Q m s₁ 0 L0 []) :
    MetFree l y (head1 (Jvm.Cond.code y bytes maxL ret :: ws) rm) (fun a U => a = A ∧ Z.Warmed39 U.vm ∧ U.heap = h0 ∧ CHv Z EL U.vm h0) (fun _ _ _ _ _ => True) (fun _ U o U' => ∃ v L, o = .returned v ∧ Q v U'.heap L ∧ CHr Z EL U.vm U.heap U'.vm U'.heap ∧ ReturnedEndW U o U' L K N) := by
  refine MetFree.of_bodySF hpl hisR ?_
  intro p e s m args below meth c s₁ Bd hml0 hP hK
  obtain ⟨rfl, hZ, hh, hC⟩ := hP
  obtain ⟨s₂, o, h1, h2⟩ := body p e s m below meth c s₁ (Stand.of_body Bd) Bd.exec Bd.bytes hml0 (findClass_of_methodNamed Bd.named) (name_of_methodNamed Bd.named Bd.method).1 Bd.returns Bd.notSynchronized hZ (by rw [← hh, Bd.state]; rfl) hh (CHr.refl hC) ((State.WarmedH.refl s).since 0) (Nat.zero_le _)
  exact ⟨s₂, o, castTop (hef m) h1, h2⟩
theorem own_safeV {x : Addr} {kk : ClassId} {ty : FieldType} {z : Int32} {vs : List Value} {dv : Value} (hal : Z.vm.Alike vm0) (V : Arv Z h x kk ty z vs dv) (ht : ty ≠ .byte) : Safe Z EL vm0 h x := by
  obtain ⟨cl, A, -⟩ := V; exact Safe.arr hal A ht
theorem own_safeS {x : Addr} (hal : Z.vm.Alike vm0) (E : Exa Z h x "java/lang/String") (F : Fld Z h x "java/lang/String" "value" "[B" .null) : Safe Z EL vm0 h x := fun B => by
  obtain ⟨cell, kE, e1, e2, e3, -, -⟩ := E
  obtain ⟨cell', cf, kF, iF, f, f1, f2, f3, f4, f5, f6, f7⟩ := F
  cases e1.symm.trans f1
  obtain ⟨p, -, u, a, -, q, -, G, rfl | rfl⟩ := B
  · cases (show h[q.sa]? = some q.sC from G.ha).symm.trans e1
    obtain ⟨cS, ⟨⟨-, -, -, ⟨c1, k1, i1, g1, -⟩, -, -, -, v1, -⟩, -⟩, -⟩ := G
    obtain ⟨k3, g3, -⟩ := State.fieldFound?_setVm (s := Z) (vm' := vm0) hal f2
    have g4 := (show (Wst Z vm0 h).fieldFound? "java/lang/String" "value" "[B" = _ from g3).symm.trans g1
    simp only [Option.some.injEq, Prod.mk.injEq] at g4
    rw [← g4.2.2.2, f7] at v1
    cases v1
  · cases (show h[q.sd]? = some q.SA from G.hd).symm.trans e1
    obtain ⟨cS, -, -, g1, -⟩ := G
    have g2 : vm0.findClass "[B" = some q.SA.cls := g1
    rw [hal.findClass] at g2
    obtain ⟨k1, q1, q2⟩ := Vm.findClass_spec g2
    obtain ⟨k2, q3, q4⟩ := Vm.findClass_spec e2
    cases q1.symm.trans q3
    exact absurd (q2.symm.trans q4) (by decide)
end OwnGoH
theorem own_wS {Z : State} {a0 : Array Value} (hw : ∀ d ∈ tables_1, d.before a0 Z = true) : ∀ a ∈ Bundle.stringAtoms, a.before a0 Z = true := fun d hd => hw d ((by decide +kernel : ∀ d ∈ Bundle.stringAtoms, d ∈ tables_1) d hd)

def EL : List (String × Nat) := [("java/lang/String", 7)]
theorem own_EW {Z : State} {a0 : Array Value} (hw : ∀ d ∈ tables_1, d.before a0 Z = true) : EW Z a0 EL := (EW.cons (hw _ (List.mem_of_getElem? (i := 34) rfl)) (by decide) EW.nil)
theorem d3_0 : decode jdk_42_method_149_code 0 = .ok (.aload_n 0, 1) := by decide +kernel
theorem d3_1 : decode jdk_42_method_149_code 1 = .ok (.invokespecial 1, 3) := by decide +kernel
theorem d3_4 : decode jdk_42_method_149_code 4 = .ok (.iload_n 3, 1) := by decide +kernel
theorem d3_5 : decode jdk_42_method_149_code 5 = .ok (.ifCond .ne 22, 3) := by decide +kernel
theorem d3_8 : decode jdk_42_method_149_code 8 = .ok (.aload_n 0, 1) := by decide +kernel
theorem d3_9 : decode jdk_42_method_149_code 9 = .ok (.ldc 7, 2) := by decide +kernel
theorem d3_11 : decode jdk_42_method_149_code 11 = .ok (.getfield 9, 3) := by decide +kernel
theorem d3_14 : decode jdk_42_method_149_code 14 = .ok (.putfield 9, 3) := by decide +kernel
theorem d3_17 : decode jdk_42_method_149_code 17 = .ok (.aload_n 0, 1) := by decide +kernel
theorem d3_18 : decode jdk_42_method_149_code 18 = .ok (.ldc 7, 2) := by decide +kernel
theorem d3_20 : decode jdk_42_method_149_code 20 = .ok (.getfield 15, 3) := by decide +kernel
theorem d3_23 : decode jdk_42_method_149_code 23 = .ok (.putfield 15, 3) := by decide +kernel
theorem d3_26 : decode jdk_42_method_149_code 26 = .ok (.return_, 1) := by decide +kernel
theorem pn_0 : plainName "java/lang/String" = true := by first | (simp [plainName, overriddenIn]; done) | decide +kernel
def QE149 (Z : State) (a1 : Addr) (h0 : Heap) (n0 : Nat) (v : Option Value) (h : Heap) (L : List Loc) : Prop := ∃ (t : Addr) (kb : ClassId), v = none ∧ Fr n0 L ∧ Keep h0 h [a1] ∧ Fld Z h a1 "java/lang/String" "coder" "B" (.int 0) ∧ a1 ≠ t ∧ Fld Z h a1 "java/lang/String" "value" "[B" (.ref t) ∧ Arv Z h t kb .byte (0 : Int32) [] (.int (0 : Int32))
def roomE149 : Room := { frames := 1, cells := 4, slots := 8, locals := 12 }
set_option maxRecDepth 65536 in
set_option maxHeartbeats 40000000 in
theorem rmE149 (l : Launch) (Z : State) (a0 : Array Value) (hw : ∀ d ∈ tables_1, d.before a0 Z = true) (ws : List Jvm.Cond) (a1 : Addr) (a2 : Addr) (h0 : Heap) (n0 : Nat) (Z0 : n0 ≤ h0.size) (E_a1 : Exa Z h0 a1 "java/lang/String") (g_a1 : n0 ≤ a1) (F_value : Fld Z h0 a1 "java/lang/String" "value" "[B" .null) (F_coder : Fld Z h0 a1 "java/lang/String" "coder" "B" (.int (0 : Int32))) :
    MetFree l (⟨"java/lang/String", "<init>", "([CIILjava/lang/Void;)V"⟩ : MethodName) (head1 (Jvm.Cond.code (⟨"java/lang/String", "<init>", "([CIILjava/lang/Void;)V"⟩ : MethodName) jdk_42_method_149_code 6 none :: ws) roomE149) (fun aa_ U_ => aa_ = #[(.ref a1), (.ref a2), (.int (0 : Int32)), (.int (0 : Int32)), .null] ∧ Z.Warmed39 U_.vm ∧ U_.heap = h0 ∧ CHv Z EL U_.vm h0) (fun _ _ _ _ _ => True) (fun _ U_ o_ W_ => ∃ v_ L_, o_ = .returned v_ ∧ (QE149 Z a1 h0 n0) v_ W_.heap L_ ∧ CHr Z EL U_.vm U_.heap W_.vm W_.heap ∧ ReturnedEndW U_ o_ W_ L_ roomE149.cells roomE149.slots) := by
  refine own_metH (Q := (QE149 Z a1 h0 n0)) (L0 := #[.val (.ref a1), .val (.ref a2), .val (.int (0 : Int32)), .val (.int (0 : Int32)), .val .null, .unset]) (plainFor_of_name pn_0) (fun m => by first | (simp [entryFrame, mkF, argsToLocals, Value.category]; done) | rfl) ?_
  intro p e s m below meth c T0 X0 hx hby hml hown hnm hret hlk hZ e0 hs0 CR hS hk
  have N0 := Fr.nil n0
  have K0 := Keep.refl h0 [a1]
  have S_a1 : Safe Z EL s.vm h0 a1 := own_safeS hZ.alike E_a1 F_value
  refine GoH.st (T' := T0) (pc' := 1) (L' := #[.val (.ref a1), .val (.ref a2), .val (.int (0 : Int32)), .val (.int (0 : Int32)), .val .null, .unset]) (S' := [(.ref a1)]) (fun t_ k_ => XS.aloadN X0.here hx rfl (hb hby d3_0) rfl rfl  k_) ?_
  obtain ⟨T1, X1, e1, st1⟩ := initO X0 hx hZ hown (hw _ (List.mem_of_getElem? (i := 15) rfl)) (hw _ (List.mem_of_getElem? (i := 16) rfl)) (hw _ (List.mem_of_getElem? (i := 17) rfl)) e0 (g := (mkF m 1 #[.val (.ref a1), .val (.ref a2), .val (.int (0 : Int32)), .val (.int (0 : Int32)), .val .null, .unset] [(.ref a1)])) rfl (by rw [hml]; rfl) rfl (hb hby d3_1) (by decide) (W := 0) (by show 2 * 0 + _ ≤ _; exact Nat.le_of_eq rfl) (by decide)
  refine GoH.st (T' := T1) (pc' := 4) (L' := #[.val (.ref a1), .val (.ref a2), .val (.int (0 : Int32)), .val (.int (0 : Int32)), .val .null, .unset]) (S' := []) st1 ?_
  refine GoH.st (T' := T1) (pc' := 5) (L' := #[.val (.ref a1), .val (.ref a2), .val (.int (0 : Int32)), .val (.int (0 : Int32)), .val .null, .unset]) (S' := [(.int (0 : Int32))]) (fun t_ k_ => XS.iloadN X1.here hx rfl (hb hby d3_4) rfl  k_) ?_
  refine GoH.st (T' := T1) (pc' := 8) (L' := #[.val (.ref a1), .val (.ref a2), .val (.int (0 : Int32)), .val (.int (0 : Int32)), .val .null, .unset]) (S' := []) (fun t_ k_ => XS.ifNo X1.here hx rfl (hb hby d3_5) rfl ((if0 _ _).trans (teq (by decide : ((0 : Int32) = (0 : Int32)))).2) k_) ?_
  refine GoH.st (T' := T1) (pc' := 9) (L' := #[.val (.ref a1), .val (.ref a2), .val (.int (0 : Int32)), .val (.int (0 : Int32)), .val .null, .unset]) (S' := [(.ref a1)]) (fun t_ k_ => XS.aloadN X1.here hx rfl (hb hby d3_8) rfl rfl  k_) ?_
  obtain ⟨a2_, T2, h2, k2, b2_, c2, X2, e2, E2, hS2, hk2, hZ2, ho2, E_a2_, Fc_a2_, Fv_a2_, V_b2_, lta2, ltb2, CR2, -, Sf2, st2⟩ := ldcCH X1 hx hZ hown (hw _ (List.mem_of_getElem? (i := 34) rfl)) (own_wS hw) e1 hS hk (own_EW hw) (by decide : ("java/lang/String", 7) ∈ EL) CR.1 (vs := []) (z := (0 : Int32)) ⟨by decide, by decide⟩ (by decide) rfl (g := (mkF m 9 #[.val (.ref a1), .val (.ref a2), .val (.int (0 : Int32)), .val (.int (0 : Int32)), .val .null, .unset] [(.ref a1)])) rfl (hb hby d3_9) (n := 0) (by decide) (by decide) (by decide) (by decide)
  replace S_a1 := CR2.safe E_a1.lt S_a1
  replace CR := CR.trans CR2
  replace Z0 := Nat.le_trans Z0 E2.1
  replace K0 := K0.ext E2
  replace E_a1 := E_a1.ext E2
  replace F_value := F_value.ext E2
  replace F_coder := F_coder.ext E2
  replace hZ := hZ2
  replace hown := ho2
  replace hS := hS2
  replace hk := hk2
  have ne_a1_a2_ := (Sf2 _ S_a1).1
  have ne_a1_b2_ := (Sf2 _ S_a1).2
  refine GoH.st (T' := T2) (pc' := 11) (L' := #[.val (.ref a1), .val (.ref a2), .val (.int (0 : Int32)), .val (.int (0 : Int32)), .val .null, .unset]) (S' := [(.ref a2_), (.ref a1)]) st2 ?_
  obtain ⟨T3, X3, e3, st3⟩ := getF X2 hx hZ hown (host := "") (Or.inl (hw _ (List.mem_of_getElem? (i := 32) rfl))) Via.refl e2 Fv_a2_ (g := (mkF m 11 #[.val (.ref a1), .val (.ref a2), .val (.int (0 : Int32)), .val (.int (0 : Int32)), .val .null, .unset] [(.ref a2_), (.ref a1)])) rfl rfl (hb hby d3_11)
  refine GoH.st (T' := T3) (pc' := 14) (L' := #[.val (.ref a1), .val (.ref a2), .val (.int (0 : Int32)), .val (.int (0 : Int32)), .val .null, .unset]) (S' := [(.ref b2_), (.ref a1)]) st3 ?_
  obtain ⟨T4, h4, X4, e4, W4, st4⟩ := putF X3 hx hZ hown (host := "") (Or.inl (hw _ (List.mem_of_getElem? (i := 32) rfl))) Via.refl e3 F_value E_a1 (Or.inr ⟨(hw _ (List.mem_of_getElem? (i := 33) rfl)), rfl, hnm⟩) (hw _ (List.mem_of_getElem? (i := 5) rfl)) (ty := (.array .byte)) (by decide) rfl rfl (g := (mkF m 14 #[.val (.ref a1), .val (.ref a2), .val (.int (0 : Int32)), .val (.int (0 : Int32)), .val .null, .unset] [(.ref b2_), (.ref a1)])) rfl rfl (hb hby d3_14)
  have Sw5 : Safe Z EL T2.vm h2 a1 := S_a1
  replace S_a1 := Safe.wr W4 Sw5 CR.1 S_a1
  replace CR := CR.trans (CHr.wr W4 Sw5 CR.1)
  replace hk := Nat.le_trans hk (Keep.of_wr W4).1
  replace Z0 := Nat.le_trans Z0 (Keep.of_wr W4).1
  replace K0 := K0.wr W4 (Or.inl (List.mem_of_getElem? (i := 0) rfl))
  replace E_a1 := E_a1.wr W4
  replace F_coder := F_coder.other W4 (Or.inr (slot_ne (Or.inr (hw _ (List.mem_of_getElem? (i := 31) rfl))) (Or.inr (hw _ (List.mem_of_getElem? (i := 33) rfl))) (by decide) (t := .byte) (t' := (.array .byte)) (by decide) (by decide)))
  replace E_a2_ := E_a2_.wr W4
  replace Fc_a2_ := Fc_a2_.other W4 (Or.inl (Ne.symm ne_a1_a2_))
  replace Fv_a2_ := Fv_a2_.other W4 (Or.inl (Ne.symm ne_a1_a2_))
  replace V_b2_ := V_b2_.other W4 (Ne.symm ne_a1_b2_)
  replace F_value := F_value.same W4
  have N4 := Fr.snoc X4 N0 g_a1
  refine GoH.st (T' := T4) (pc' := 17) (L' := #[.val (.ref a1), .val (.ref a2), .val (.int (0 : Int32)), .val (.int (0 : Int32)), .val .null, .unset]) (S' := []) st4 ?_
  refine GoH.st (T' := T4) (pc' := 18) (L' := #[.val (.ref a1), .val (.ref a2), .val (.int (0 : Int32)), .val (.int (0 : Int32)), .val .null, .unset]) (S' := [(.ref a1)]) (fun t_ k_ => XS.aloadN X4.here hx rfl (hb hby d3_17) rfl rfl  k_) ?_
  obtain ⟨a6_, T6, h6, k6, b6_, c6, X6, e6, E6, hS6, hk6, hZ6, ho6, E_a6_, Fc_a6_, Fv_a6_, V_b6_, lta6, ltb6, CR6, -, Sf6, st6⟩ := ldcCH X4 hx hZ hown (hw _ (List.mem_of_getElem? (i := 34) rfl)) (own_wS hw) e4 hS hk (own_EW hw) (by decide : ("java/lang/String", 7) ∈ EL) CR.1 (vs := []) (z := (0 : Int32)) ⟨by decide, by decide⟩ (by decide) rfl (g := (mkF m 18 #[.val (.ref a1), .val (.ref a2), .val (.int (0 : Int32)), .val (.int (0 : Int32)), .val .null, .unset] [(.ref a1)])) rfl (hb hby d3_18) (n := 0) (by decide) (by decide) (by decide) (by decide)
  replace S_a1 := CR6.safe E_a1.lt S_a1
  replace CR := CR.trans CR6
  replace Z0 := Nat.le_trans Z0 E6.1
  replace K0 := K0.ext E6
  replace E_a1 := E_a1.ext E6
  replace F_value := F_value.ext E6
  replace F_coder := F_coder.ext E6
  replace E_a2_ := E_a2_.ext E6
  replace Fc_a2_ := Fc_a2_.ext E6
  replace Fv_a2_ := Fv_a2_.ext E6
  replace V_b2_ := V_b2_.ext E6
  replace hZ := hZ6
  replace hown := ho6
  replace hS := hS6
  replace hk := hk6
  have ne_a1_a6_ := (Sf6 _ S_a1).1
  have ne_a1_b6_ := (Sf6 _ S_a1).2
  refine GoH.st (T' := T6) (pc' := 20) (L' := #[.val (.ref a1), .val (.ref a2), .val (.int (0 : Int32)), .val (.int (0 : Int32)), .val .null, .unset]) (S' := [(.ref a6_), (.ref a1)]) st6 ?_
  obtain ⟨T7, X7, e7, st7⟩ := getF X6 hx hZ hown (host := "") (Or.inl (hw _ (List.mem_of_getElem? (i := 30) rfl))) Via.refl e6 Fc_a6_ (g := (mkF m 20 #[.val (.ref a1), .val (.ref a2), .val (.int (0 : Int32)), .val (.int (0 : Int32)), .val .null, .unset] [(.ref a6_), (.ref a1)])) rfl rfl (hb hby d3_20)
  refine GoH.st (T' := T7) (pc' := 23) (L' := #[.val (.ref a1), .val (.ref a2), .val (.int (0 : Int32)), .val (.int (0 : Int32)), .val .null, .unset]) (S' := [(.int (0 : Int32)), (.ref a1)]) st7 ?_
  obtain ⟨T8, h8, X8, e8, W8, st8⟩ := putFN X7 hx hZ hown (hw _ (List.mem_of_getElem? (i := 30) rfl)) Via.refl e7 F_coder E_a1 (Or.inr ⟨(hw _ (List.mem_of_getElem? (i := 31) rfl)), rfl, hnm⟩) (hw _ (List.mem_of_getElem? (i := 5) rfl)) (ty := .byte) (v' := (.int (0 : Int32))) (by decide) rfl rfl (g := (mkF m 23 #[.val (.ref a1), .val (.ref a2), .val (.int (0 : Int32)), .val (.int (0 : Int32)), .val .null, .unset] [(.int (0 : Int32)), (.ref a1)])) rfl rfl (hb hby d3_23)
  have Sw9 : Safe Z EL T6.vm h6 a1 := S_a1
  replace S_a1 := Safe.wr W8 Sw9 CR.1 S_a1
  replace CR := CR.trans (CHr.wr W8 Sw9 CR.1)
  replace hk := Nat.le_trans hk (Keep.of_wr W8).1
  replace Z0 := Nat.le_trans Z0 (Keep.of_wr W8).1
  replace K0 := K0.wr W8 (Or.inl (List.mem_of_getElem? (i := 0) rfl))
  replace E_a1 := E_a1.wr W8
  replace F_value := F_value.other W8 (Or.inr (slot_ne (Or.inr (hw _ (List.mem_of_getElem? (i := 33) rfl))) (Or.inr (hw _ (List.mem_of_getElem? (i := 31) rfl))) (by decide) (t := (.array .byte)) (t' := .byte) (by decide) (by decide)))
  replace E_a2_ := E_a2_.wr W8
  replace Fc_a2_ := Fc_a2_.other W8 (Or.inl (Ne.symm ne_a1_a2_))
  replace Fv_a2_ := Fv_a2_.other W8 (Or.inl (Ne.symm ne_a1_a2_))
  replace V_b2_ := V_b2_.other W8 (Ne.symm ne_a1_b2_)
  replace E_a6_ := E_a6_.wr W8
  replace Fc_a6_ := Fc_a6_.other W8 (Or.inl (Ne.symm ne_a1_a6_))
  replace Fv_a6_ := Fv_a6_.other W8 (Or.inl (Ne.symm ne_a1_a6_))
  replace V_b6_ := V_b6_.other W8 (Ne.symm ne_a1_b6_)
  replace F_coder := F_coder.same W8
  have N8 := Fr.snoc X8 N4 g_a1
  refine GoH.st (T' := T8) (pc' := 26) (L' := #[.val (.ref a1), .val (.ref a2), .val (.int (0 : Int32)), .val (.int (0 : Int32)), .val .null, .unset]) (S' := []) st8 ?_
  exact GoH.retV X8 hx hlk hret (hb hby d3_26) (by decide) (by decide) hS hk e8 hs0 hZ (own_EW hw) CR (by rw [e8]; exact ⟨b2_, _, rfl, N8, K0, F_coder, ne_a1_b2_, F_value, V_b2_⟩)
theorem d2_0 : decode jdk_42_method_3_code 0 = .ok (.aload_n 0, 1) := by decide +kernel
theorem d2_1 : decode jdk_42_method_3_code 1 = .ok (.aload_n 1, 1) := by decide +kernel
theorem d2_2 : decode jdk_42_method_3_code 2 = .ok (.iconst 0, 1) := by decide +kernel
theorem d2_3 : decode jdk_42_method_3_code 3 = .ok (.aload_n 1, 1) := by decide +kernel
theorem d2_4 : decode jdk_42_method_3_code 4 = .ok (.arraylength, 1) := by decide +kernel
theorem d2_5 : decode jdk_42_method_3_code 5 = .ok (.aconst_null, 1) := by decide +kernel
theorem d2_6 : decode jdk_42_method_3_code 6 = .ok (.invokespecial 27, 3) := by decide +kernel
theorem d2_9 : decode jdk_42_method_3_code 9 = .ok (.return_, 1) := by decide +kernel
theorem pd_0 : parseMethodDescriptor "([CIILjava/lang/Void;)V" = some ⟨[(.array .char), .int, .int, (.object "java/lang/Void")], none⟩ := by decide +kernel
def QE3 (Z : State) (a1 : Addr) (h0 : Heap) (n0 : Nat) (v : Option Value) (h : Heap) (L : List Loc) : Prop := ∃ (t : Addr) (kb : ClassId), v = none ∧ Fr n0 L ∧ Keep h0 h [a1] ∧ Fld Z h a1 "java/lang/String" "coder" "B" (.int 0) ∧ a1 ≠ t ∧ Fld Z h a1 "java/lang/String" "value" "[B" (.ref t) ∧ Arv Z h t kb .byte (0 : Int32) [] (.int (0 : Int32))
def roomE3 : Room := { frames := 2, cells := 4, slots := 8, locals := 29 }
set_option maxRecDepth 65536 in
set_option maxHeartbeats 40000000 in
theorem rmE3 (l : Launch) (Z : State) (a0 : Array Value) (hw : ∀ d ∈ tables_1, d.before a0 Z = true) (ws : List Jvm.Cond) (a1 : Addr) (a2 : Addr) (ka : ClassId) (h0 : Heap) (n0 : Nat) (Z0 : n0 ≤ h0.size) (E_a1 : Exa Z h0 a1 "java/lang/String") (g_a1 : n0 ≤ a1) (F_value : Fld Z h0 a1 "java/lang/String" "value" "[B" .null) (F_coder : Fld Z h0 a1 "java/lang/String" "coder" "B" (.int (0 : Int32))) (V_a2 : Arv Z h0 a2 ka .char (0 : Int32) [] (.int (0 : Int32))) (ne12 : a1 ≠ a2) :
    MetFree l (⟨"java/lang/String", "<init>", "([C)V"⟩ : MethodName) (head1 (Jvm.Cond.code (⟨"java/lang/String", "<init>", "([C)V"⟩ : MethodName) jdk_42_method_3_code 2 none :: ws) roomE3) (fun aa_ U_ => aa_ = #[(.ref a1), (.ref a2)] ∧ Z.Warmed39 U_.vm ∧ U_.heap = h0 ∧ CHv Z EL U_.vm h0) (fun _ _ _ _ _ => True) (fun _ U_ o_ W_ => ∃ v_ L_, o_ = .returned v_ ∧ (QE3 Z a1 h0 n0) v_ W_.heap L_ ∧ CHr Z EL U_.vm U_.heap W_.vm W_.heap ∧ ReturnedEndW U_ o_ W_ L_ roomE3.cells roomE3.slots) := by
  refine own_metH (Q := (QE3 Z a1 h0 n0)) (L0 := #[.val (.ref a1), .val (.ref a2)]) (plainFor_of_name pn_0) (fun m => by first | (simp [entryFrame, mkF, argsToLocals, Value.category]; done) | rfl) ?_
  intro p e s m below meth c T0 X0 hx hby hml hown hnm hret hlk hZ e0 hs0 CR hS hk
  have N0 := Fr.nil n0
  have K0 := Keep.refl h0 [a1]
  have S_a1 : Safe Z EL s.vm h0 a1 := own_safeS hZ.alike E_a1 F_value
  refine GoH.st (T' := T0) (pc' := 1) (L' := #[.val (.ref a1), .val (.ref a2)]) (S' := [(.ref a1)]) (fun t_ k_ => XS.aloadN X0.here hx rfl (hb hby d2_0) rfl rfl  k_) ?_
  refine GoH.st (T' := T0) (pc' := 2) (L' := #[.val (.ref a1), .val (.ref a2)]) (S' := [(.ref a2), (.ref a1)]) (fun t_ k_ => XS.aloadN X0.here hx rfl (hb hby d2_1) rfl rfl  k_) ?_
  refine GoH.st (T' := T0) (pc' := 3) (L' := #[.val (.ref a1), .val (.ref a2)]) (S' := [(.int (0 : Int32)), (.ref a2), (.ref a1)]) (fun t_ k_ => XS.iconst X0.here hx rfl (hb hby d2_2) k_) ?_
  refine GoH.st (T' := T0) (pc' := 4) (L' := #[.val (.ref a1), .val (.ref a2)]) (S' := [(.ref a2), (.int (0 : Int32)), (.ref a2), (.ref a1)]) (fun t_ k_ => XS.aloadN X0.here hx rfl (hb hby d2_3) rfl rfl  k_) ?_
  obtain ⟨cl1, Ar1, -, q1a, q1b, -, -⟩ := id V_a2
  refine GoH.st (T' := T0) (pc' := 5) (L' := #[.val (.ref a1), .val (.ref a2)]) (S' := [(.int (0 : Int32)), (.int (0 : Int32)), (.ref a2), (.ref a1)]) (fun t_ k_ => own_len X0 hx hZ e0 Ar1 q1a q1b (g := (mkF m 4 #[.val (.ref a1), .val (.ref a2)] [(.ref a2), (.int (0 : Int32)), (.ref a2), (.ref a1)])) rfl rfl (hb hby d2_4) t_ k_) ?_
  refine GoH.st (T' := T0) (pc' := 6) (L' := #[.val (.ref a1), .val (.ref a2)]) (S' := [.null, (.int (0 : Int32)), (.int (0 : Int32)), (.ref a2), (.ref a1)]) (fun t_ k_ => XS.aconstNull X0.here hx rfl (hb hby d2_5) k_) ?_
  obtain ⟨_, _, ⟨T2, L2, k2, n2⟩, -, X2, hS2, hg2, ⟨Lc2, hQ2, l2, y2, z2, CR2⟩, st2⟩ := X0.specialBackS hx (y := (⟨"java/lang/String", "<init>", "([CIILjava/lang/Void;)V"⟩ : MethodName)) rfl hown (mvT hZ (hw _ (List.mem_of_getElem? (i := 11) rfl))) (mvT hZ (hw _ (List.mem_of_getElem? (i := 12) rfl))) (mvT hZ (hw _ (List.mem_of_getElem? (i := 14) rfl))) (by decide) (backOfSH (W := 0) (rmE149 l Z a0 hw [] a1 a2 h0 n0 Z0 E_a1 g_a1 F_value F_coder) hZ (hw _ (List.mem_of_getElem? (i := 14) rfl)) (hw _ (List.mem_of_getElem? (i := 6) rfl)) (by decide) (by decide) (own_EW hw) CR.1) (g := (mkF m 6 #[.val (.ref a1), .val (.ref a2)] [.null, (.int (0 : Int32)), (.int (0 : Int32)), (.ref a2), (.ref a1)])) rfl (by rw [hml]; rfl) (Steps.refl _) (a := a1) (argsL := [(.ref a2), (.int (0 : Int32)), (.int (0 : Int32)), .null]) (rest := []) (lenOf pd_0 rfl) rfl (by show 2 * 0 + _ ≤ _; exact Nat.le_of_eq rfl) (hb hby d2_6) (fun _ _ => ⟨rfl, e0, (by decide : 0 + 4 ≤ _), (by decide : 0 + 8 ≤ _)⟩)
  dsimp only [Pt.U, Pt.locs, Pt.cells, Pt.slots] at X2 l2 y2 z2 st2 hQ2 hS2 hg2 CR2
  subst l2 y2 z2
  replace X2 : Stand p l e _ (s.setVm T2.vm) m _ below meth c T2 _ _ _ := X2
  replace hS := foldS hS (T := T0) (Nat.le_trans hk (Nat.le_of_eq (congrArg Array.size e0.symm))) hS2 hg2
  replace hk := Nat.le_refl T2.heap.size
  replace hZ : Z.Warmed39 (s.setVm T2.vm).vm := State.Warmed39.trans (t := s.setVm s.vm) hZ hS2.1
  replace hown : (s.setVm T2.vm).vm.findClass "java/lang/String" = some m.cls := by rw [show (s.setVm T2.vm).vm = T2.vm from rfl, hS2.1.alike.findClass]; exact hown
  obtain ⟨t2, kb2, rfl, N2q, K2, Co2, nt2, Va2, Ay2⟩ := hQ2
  have N2 := Fr.app N0 N2q
  obtain ⟨h2, e2⟩ : ∃ z, T2.heap = z := ⟨_, rfl⟩
  rw [e2] at K2 Co2 Va2 Ay2 CR2
  replace S_a1 := CR2.safe E_a1.lt S_a1
  replace CR := CR.trans CR2
  replace Z0 := Nat.le_trans Z0 K2.1
  replace K0 := K0.trans K2 (allS (Or.inl (List.mem_of_getElem? (i := 0) rfl)) all0)
  replace E_a1 := E_a1.keep K2
  replace V_a2 := V_a2.keep K2 (ninS (Ne.symm ne12) nin0)
  replace hk : T2.heap.size ≤ h2.size := Nat.le_of_eq (congrArg Array.size e2)
  refine GoH.tr (T' := T2) (pc' := 9) (L' := #[.val (.ref a1), .val (.ref a2)]) (S' := []) st2 ?_
  exact GoH.retV X2 hx hlk hret (hb hby d2_9) (by decide) (by decide) hS hk e2 hs0 hZ (own_EW hw) CR (by rw [e2]; exact ⟨t2, _, rfl, N2, K0, Co2, nt2, Va2, Ay2⟩)
theorem d24_0 : decode jdk_43_method_3_code 0 = .ok (.iload_n 0, 1) := by decide +kernel
theorem d24_1 : decode jdk_43_method_3_code 1 = .ok (.sipush 255, 3) := by decide +kernel
theorem d24_4 : decode jdk_43_method_3_code 4 = .ok (.if_icmp .gt 7, 3) := by decide +kernel
theorem d24_7 : decode jdk_43_method_3_code 7 = .ok (.iconst 1, 1) := by decide +kernel
theorem d24_8 : decode jdk_43_method_3_code 8 = .ok (.goto 4, 3) := by decide +kernel
theorem d24_12 : decode jdk_43_method_3_code 12 = .ok (.ireturn, 1) := by decide +kernel
theorem pn_1 : plainName "java/lang/StringLatin1" = true := by first | (simp [plainName, overriddenIn]; done) | decide +kernel
def Q24 (Z : State) (c1 : Int32) (h0 : Heap) (n0 : Nat) (v : Option Value) (h : Heap) (L : List Loc) : Prop := v = some (.int 1) ∧ Fr n0 L ∧ h = h0
def room24 : Room := { frames := 0, cells := 0, slots := 0, locals := 0 }
set_option maxRecDepth 65536 in
set_option maxHeartbeats 40000000 in
theorem rm24 (l : Launch) (Z : State) (a0 : Array Value) (hw : ∀ d ∈ tables_1, d.before a0 Z = true) (ws : List Jvm.Cond) (c1 : Int32) (h0 : Heap) (n0 : Nat) (Z0 : n0 ≤ h0.size) (hc : ¬ c1 < 0 ∧ ¬ (255 : Int32) < c1) :
    MetFree l (⟨"java/lang/StringLatin1", "canEncode", "(C)Z"⟩ : MethodName) (head1 (Jvm.Cond.code (⟨"java/lang/StringLatin1", "canEncode", "(C)Z"⟩ : MethodName) jdk_43_method_3_code 1 (some .boolean) :: ws) room24) (fun aa_ U_ => aa_ = #[(.int c1)] ∧ Z.Warmed39 U_.vm ∧ U_.heap = h0) (fun _ _ _ _ _ => True) (fun _ U_ o_ W_ => ∃ v_ L_, o_ = .returned v_ ∧ (Q24 Z c1 h0 n0) v_ W_.heap L_ ∧ FrameEnd U_ o_ W_ L_ room24.cells room24.slots) := by
  refine own_met (Q := (Q24 Z c1 h0 n0)) (L0 := #[.val (.int c1)]) (plainFor_of_name pn_1) (fun m => by first | (simp [entryFrame, mkF, argsToLocals, Value.category]; done) | rfl) ?_
  intro p e s m below meth c T0 X0 hx hby hml hown hnm hret hlk hZ e0
  have N0 := Fr.nil n0
  refine Go.st (T' := T0) (pc' := 1) (L' := #[.val (.int c1)]) (S' := [(.int c1)]) (fun t_ k_ => XS.iloadN X0.here hx rfl (hb hby d24_0) rfl  k_) ?_
  refine Go.st (T' := T0) (pc' := 4) (L' := #[.val (.int c1)]) (S' := [(.int (255 : Int32)), (.int c1)]) (fun t_ k_ => XS.sipush X0.here hx rfl (hb hby d24_1) k_) ?_
  refine Go.st (T' := T0) (pc' := 7) (L' := #[.val (.int c1)]) (S' := []) (fun t_ k_ => XS.icmpNo X0.here hx rfl (hb hby d24_4) rfl (flt (hc.2 : ¬ ((255 : Int32) < c1))).2.2.1 k_) ?_
  refine Go.st (T' := T0) (pc' := 8) (L' := #[.val (.int c1)]) (S' := [(.int (1 : Int32))]) (fun t_ k_ => XS.iconst X0.here hx rfl (hb hby d24_7) k_) ?_
  refine Go.st (T' := T0) (pc' := 12) (L' := #[.val (.int c1)]) (S' := [(.int (1 : Int32))]) (fun t_ k_ => XS.goto X0.here hx rfl (pc0 := 8) (pc' := 12) rfl (hb hby d24_8) (by decide) (by decide) k_) ?_
  exact Go.retN X0 hx hlk hret (by simp) (hb hby d24_12) (by decide) (by decide) (by rw [e0]; exact ⟨rfl, N0, rfl⟩)
theorem d25_0 : decode jdk_43_method_46_code 0 = .ok (.iconst 1, 1) := by decide +kernel
theorem d25_1 : decode jdk_43_method_46_code 1 = .ok (.newarray .byte, 2) := by decide +kernel
theorem d25_3 : decode jdk_43_method_46_code 3 = .ok (.dup, 1) := by decide +kernel
theorem d25_4 : decode jdk_43_method_46_code 4 = .ok (.iconst 0, 1) := by decide +kernel
theorem d25_5 : decode jdk_43_method_46_code 5 = .ok (.iload_n 0, 1) := by decide +kernel
theorem d25_6 : decode jdk_43_method_46_code 6 = .ok (.i2b, 1) := by decide +kernel
theorem d25_7 : decode jdk_43_method_46_code 7 = .ok (.bastore, 1) := by decide +kernel
theorem d25_8 : decode jdk_43_method_46_code 8 = .ok (.areturn, 1) := by decide +kernel
def Q25 (Z : State) (c1 : Int32) (h0 : Heap) (n0 : Nat) (v : Option Value) (h : Heap) (L : List Loc) : Prop := ∃ (b : Addr) (kb : ClassId), v = some (.ref b) ∧ Fr n0 L ∧ Keep h0 h [] ∧ n0 ≤ b ∧ h0.size ≤ b ∧ Arv Z h b kb .byte (1 : Int32) [(.int ((c1.toInt8.toInt32).toInt8.toInt32))] (.int (0 : Int32))
def room25 : Room := { frames := 0, cells := 1, slots := 1, locals := 0 }
set_option maxRecDepth 65536 in
set_option maxHeartbeats 40000000 in
theorem rm25 (l : Launch) (Z : State) (a0 : Array Value) (hw : ∀ d ∈ tables_1, d.before a0 Z = true) (ws : List Jvm.Cond) (c1 : Int32) (h0 : Heap) (n0 : Nat) (Z0 : n0 ≤ h0.size)  :
    MetFree l (⟨"java/lang/StringLatin1", "toBytes", "(C)[B"⟩ : MethodName) (head1 (Jvm.Cond.code (⟨"java/lang/StringLatin1", "toBytes", "(C)[B"⟩ : MethodName) jdk_43_method_46_code 1 (some (.array .byte)) :: ws) room25) (fun aa_ U_ => aa_ = #[(.int c1)] ∧ Z.Warmed39 U_.vm ∧ U_.heap = h0) (fun _ _ _ _ _ => True) (fun _ U_ o_ W_ => ∃ v_ L_, o_ = .returned v_ ∧ (Q25 Z c1 h0 n0) v_ W_.heap L_ ∧ FrameEnd U_ o_ W_ L_ room25.cells room25.slots) := by
  refine own_met (Q := (Q25 Z c1 h0 n0)) (L0 := #[.val (.int c1)]) (plainFor_of_name pn_1) (fun m => by first | (simp [entryFrame, mkF, argsToLocals, Value.category]; done) | rfl) ?_
  intro p e s m below meth c T0 X0 hx hby hml hown hnm hret hlk hZ e0
  have N0 := Fr.nil n0
  have K0 := Keep.refl h0 []
  refine Go.st (T' := T0) (pc' := 1) (L' := #[.val (.int c1)]) (S' := [(.int (1 : Int32))]) (fun t_ k_ => XS.iconst X0.here hx rfl (hb hby d25_0) k_) ?_
  obtain ⟨T1, h1, k1, X1, e1, E1, A1, st1⟩ := newP X0 hx hZ (hw _ (List.mem_of_getElem? (i := 23) rfl)) e0 (g := (mkF m 1 #[.val (.int c1)] [(.int (1 : Int32))])) rfl (hb hby d25_1) rfl (by decide) (cap := 1) (by decide) (by decide) (by decide) (by decide)
  obtain ⟨b1, g1⟩ : ∃ z, z = h0.size := ⟨_, rfl⟩
  rw [← g1] at A1 st1
  have g_b1 : n0 ≤ b1 := Nat.le_trans Z0 (Nat.le_of_eq g1.symm)
  have sz_b1 : h0.size ≤ b1 := Nat.le_trans K0.1 (Nat.le_of_eq g1.symm)
  replace Z0 := Nat.le_trans Z0 E1.1
  replace K0 := K0.ext E1
  have V_b1 : Arv Z h1 b1 k1 .byte (1 : Int32) [(.int (0 : Int32))] (.int (0 : Int32)) := (Arv.new A1 (by decide)).pad (pad_rep [] (.int (0 : Int32)) 1)
  refine Go.st (T' := T1) (pc' := 3) (L' := #[.val (.int c1)]) (S' := [(.ref b1)]) st1 ?_
  refine Go.st (T' := T1) (pc' := 4) (L' := #[.val (.int c1)]) (S' := [(.ref b1), (.ref b1)]) (fun t_ k_ => XS.dup X1.here hx rfl (hb hby d25_3) rfl rfl k_) ?_
  refine Go.st (T' := T1) (pc' := 5) (L' := #[.val (.int c1)]) (S' := [(.int (0 : Int32)), (.ref b1), (.ref b1)]) (fun t_ k_ => XS.iconst X1.here hx rfl (hb hby d25_4) k_) ?_
  refine Go.st (T' := T1) (pc' := 6) (L' := #[.val (.int c1)]) (S' := [(.int c1), (.int (0 : Int32)), (.ref b1), (.ref b1)]) (fun t_ k_ => XS.iloadN X1.here hx rfl (hb hby d25_5) rfl  k_) ?_
  refine Go.st (T' := T1) (pc' := 7) (L' := #[.val (.int c1)]) (S' := [(.int (c1.toInt8.toInt32)), (.int (0 : Int32)), (.ref b1), (.ref b1)]) (fun t_ k_ => XS.i2b X1.here hx rfl (hb hby d25_6) rfl k_) ?_
  obtain ⟨cl2, Ar2, q21, q22, q23, q24, q25⟩ := V_b1
  obtain ⟨T2, h2, X2, e2, W2, st2⟩ := stB X1 hx hZ e1 Ar2 (j := (0 : Int32)) (inb_of q22 ⟨by decide, by decide⟩) (g := (mkF m 7 #[.val (.int c1)] [(.int (c1.toInt8.toInt32)), (.int (0 : Int32)), (.ref b1), (.ref b1)])) rfl rfl (hb hby d25_7)
  replace V_b1 := Arv.set Ar2 q21 q22 q23 q24 q25 (fits_nar_byte _) W2 0 rfl (Nat.le_of_ble_eq_true rfl)
  have V_b1 : Arv Z h2 b1 k1 .byte (1 : Int32) [(.int (c1.toInt8.toInt32).toInt8.toInt32)] (.int (0 : Int32)) := V_b1
  replace Z0 := Nat.le_trans Z0 (Keep.of_wr W2).1
  replace K0 := K0.wr W2 (Or.inr sz_b1)
  have N2 := Fr.snoc X2 N0 g_b1
  refine Go.st (T' := T2) (pc' := 8) (L' := #[.val (.int c1)]) (S' := [(.ref b1)]) st2 ?_
  exact Go.retO X2 hx hlk hret rfl (by simp [FieldType.isReference, Value.isRef]) (hb hby d25_8) (by decide) (by decide) (by rw [e2]; exact ⟨b1, _, rfl, N2, K0, g_b1, sz_b1, V_b1⟩)
theorem d26_0 : decode jdk_42_method_151_code 0 = .ok (.aload_n 0, 1) := by decide +kernel
theorem d26_1 : decode jdk_42_method_151_code 1 = .ok (.invokespecial 1, 3) := by decide +kernel
theorem d26_4 : decode jdk_42_method_151_code 4 = .ok (.aload_n 0, 1) := by decide +kernel
theorem d26_5 : decode jdk_42_method_151_code 5 = .ok (.aload_n 1, 1) := by decide +kernel
theorem d26_6 : decode jdk_42_method_151_code 6 = .ok (.putfield 9, 3) := by decide +kernel
theorem d26_9 : decode jdk_42_method_151_code 9 = .ok (.aload_n 0, 1) := by decide +kernel
theorem d26_10 : decode jdk_42_method_151_code 10 = .ok (.iload_n 2, 1) := by decide +kernel
theorem d26_11 : decode jdk_42_method_151_code 11 = .ok (.putfield 15, 3) := by decide +kernel
theorem d26_14 : decode jdk_42_method_151_code 14 = .ok (.return_, 1) := by decide +kernel
def Q26 (Z : State) (a1 : Addr) (a2 : Addr) (h0 : Heap) (n0 : Nat) (v : Option Value) (h : Heap) (L : List Loc) : Prop := v = none ∧ Fr n0 L ∧ Keep h0 h [a1] ∧ Fld Z h a1 "java/lang/String" "value" "[B" (.ref a2) ∧ Fld Z h a1 "java/lang/String" "coder" "B" (.int (0 : Int32))
def room26 : Room := { frames := 1, cells := 0, slots := 0, locals := 12 }
set_option maxRecDepth 65536 in
set_option maxHeartbeats 40000000 in
theorem rm26 (l : Launch) (Z : State) (a0 : Array Value) (hw : ∀ d ∈ tables_1, d.before a0 Z = true) (ws : List Jvm.Cond) (a1 : Addr) (a2 : Addr) (h0 : Heap) (n0 : Nat) (Z0 : n0 ≤ h0.size) (E_a1 : Exa Z h0 a1 "java/lang/String") (g_a1 : n0 ≤ a1) (F_value : Fld Z h0 a1 "java/lang/String" "value" "[B" .null) (F_coder : Fld Z h0 a1 "java/lang/String" "coder" "B" (.int (0 : Int32))) :
    MetFree l (⟨"java/lang/String", "<init>", "([BB)V"⟩ : MethodName) (head1 (Jvm.Cond.code (⟨"java/lang/String", "<init>", "([BB)V"⟩ : MethodName) jdk_42_method_151_code 3 none :: ws) room26) (fun aa_ U_ => aa_ = #[(.ref a1), (.ref a2), (.int (0 : Int32))] ∧ Z.Warmed39 U_.vm ∧ U_.heap = h0) (fun _ _ _ _ _ => True) (fun _ U_ o_ W_ => ∃ v_ L_, o_ = .returned v_ ∧ (Q26 Z a1 a2 h0 n0) v_ W_.heap L_ ∧ FrameEnd U_ o_ W_ L_ room26.cells room26.slots) := by
  refine own_met (Q := (Q26 Z a1 a2 h0 n0)) (L0 := #[.val (.ref a1), .val (.ref a2), .val (.int (0 : Int32))]) (plainFor_of_name pn_0) (fun m => by first | (simp [entryFrame, mkF, argsToLocals, Value.category]; done) | rfl) ?_
  intro p e s m below meth c T0 X0 hx hby hml hown hnm hret hlk hZ e0
  have N0 := Fr.nil n0
  have K0 := Keep.refl h0 [a1]
  refine Go.st (T' := T0) (pc' := 1) (L' := #[.val (.ref a1), .val (.ref a2), .val (.int (0 : Int32))]) (S' := [(.ref a1)]) (fun t_ k_ => XS.aloadN X0.here hx rfl (hb hby d26_0) rfl rfl  k_) ?_
  obtain ⟨T1, X1, e1, st1⟩ := initO X0 hx hZ hown (hw _ (List.mem_of_getElem? (i := 15) rfl)) (hw _ (List.mem_of_getElem? (i := 16) rfl)) (hw _ (List.mem_of_getElem? (i := 17) rfl)) e0 (g := (mkF m 1 #[.val (.ref a1), .val (.ref a2), .val (.int (0 : Int32))] [(.ref a1)])) rfl (by rw [hml]; rfl) rfl (hb hby d26_1) (by decide) (W := 0) (by show 2 * 0 + _ ≤ _; exact Nat.le_of_eq rfl) (by decide)
  refine Go.st (T' := T1) (pc' := 4) (L' := #[.val (.ref a1), .val (.ref a2), .val (.int (0 : Int32))]) (S' := []) st1 ?_
  refine Go.st (T' := T1) (pc' := 5) (L' := #[.val (.ref a1), .val (.ref a2), .val (.int (0 : Int32))]) (S' := [(.ref a1)]) (fun t_ k_ => XS.aloadN X1.here hx rfl (hb hby d26_4) rfl rfl  k_) ?_
  refine Go.st (T' := T1) (pc' := 6) (L' := #[.val (.ref a1), .val (.ref a2), .val (.int (0 : Int32))]) (S' := [(.ref a2), (.ref a1)]) (fun t_ k_ => XS.aloadN X1.here hx rfl (hb hby d26_5) rfl rfl  k_) ?_
  obtain ⟨T2, h2, X2, e2, W2, st2⟩ := putF X1 hx hZ hown (host := "") (Or.inl (hw _ (List.mem_of_getElem? (i := 32) rfl))) Via.refl e1 F_value E_a1 (Or.inr ⟨(hw _ (List.mem_of_getElem? (i := 33) rfl)), rfl, hnm⟩) (hw _ (List.mem_of_getElem? (i := 5) rfl)) (ty := (.array .byte)) (by decide) rfl rfl (g := (mkF m 6 #[.val (.ref a1), .val (.ref a2), .val (.int (0 : Int32))] [(.ref a2), (.ref a1)])) rfl rfl (hb hby d26_6)
  replace Z0 := Nat.le_trans Z0 (Keep.of_wr W2).1
  replace K0 := K0.wr W2 (Or.inl (List.mem_of_getElem? (i := 0) rfl))
  replace E_a1 := E_a1.wr W2
  replace F_coder := F_coder.other W2 (Or.inr (slot_ne (Or.inr (hw _ (List.mem_of_getElem? (i := 31) rfl))) (Or.inr (hw _ (List.mem_of_getElem? (i := 33) rfl))) (by decide) (t := .byte) (t' := (.array .byte)) (by decide) (by decide)))
  replace F_value := F_value.same W2
  have N2 := Fr.snoc X2 N0 g_a1
  refine Go.st (T' := T2) (pc' := 9) (L' := #[.val (.ref a1), .val (.ref a2), .val (.int (0 : Int32))]) (S' := []) st2 ?_
  refine Go.st (T' := T2) (pc' := 10) (L' := #[.val (.ref a1), .val (.ref a2), .val (.int (0 : Int32))]) (S' := [(.ref a1)]) (fun t_ k_ => XS.aloadN X2.here hx rfl (hb hby d26_9) rfl rfl  k_) ?_
  refine Go.st (T' := T2) (pc' := 11) (L' := #[.val (.ref a1), .val (.ref a2), .val (.int (0 : Int32))]) (S' := [(.int (0 : Int32)), (.ref a1)]) (fun t_ k_ => XS.iloadN X2.here hx rfl (hb hby d26_10) rfl  k_) ?_
  obtain ⟨T3, h3, X3, e3, W3, st3⟩ := putFN X2 hx hZ hown (hw _ (List.mem_of_getElem? (i := 30) rfl)) Via.refl e2 F_coder E_a1 (Or.inr ⟨(hw _ (List.mem_of_getElem? (i := 31) rfl)), rfl, hnm⟩) (hw _ (List.mem_of_getElem? (i := 5) rfl)) (ty := .byte) (v' := (.int (0 : Int32))) (by decide) rfl rfl (g := (mkF m 11 #[.val (.ref a1), .val (.ref a2), .val (.int (0 : Int32))] [(.int (0 : Int32)), (.ref a1)])) rfl rfl (hb hby d26_11)
  replace Z0 := Nat.le_trans Z0 (Keep.of_wr W3).1
  replace K0 := K0.wr W3 (Or.inl (List.mem_of_getElem? (i := 0) rfl))
  replace E_a1 := E_a1.wr W3
  replace F_value := F_value.other W3 (Or.inr (slot_ne (Or.inr (hw _ (List.mem_of_getElem? (i := 33) rfl))) (Or.inr (hw _ (List.mem_of_getElem? (i := 31) rfl))) (by decide) (t := (.array .byte)) (t' := .byte) (by decide) (by decide)))
  replace F_coder := F_coder.same W3
  have N3 := Fr.snoc X3 N2 g_a1
  refine Go.st (T' := T3) (pc' := 14) (L' := #[.val (.ref a1), .val (.ref a2), .val (.int (0 : Int32))]) (S' := []) st3 ?_
  exact Go.retV X3 hx hlk hret (hb hby d26_14) (by decide) (by decide) (by rw [e3]; exact ⟨rfl, N3, K0, F_value, F_coder⟩)
theorem d23_0 : decode jdk_42_method_139_code 0 = .ok (.getstatic 38, 3) := by decide +kernel
theorem d23_3 : decode jdk_42_method_139_code 3 = .ok (.ifCond .eq 23, 3) := by decide +kernel
theorem d23_6 : decode jdk_42_method_139_code 6 = .ok (.iload_n 0, 1) := by decide +kernel
theorem d23_7 : decode jdk_42_method_139_code 7 = .ok (.invokestatic 1015, 3) := by decide +kernel
theorem d23_10 : decode jdk_42_method_139_code 10 = .ok (.ifCond .eq 16, 3) := by decide +kernel
theorem d23_13 : decode jdk_42_method_139_code 13 = .ok (.new 10, 3) := by decide +kernel
theorem d23_16 : decode jdk_42_method_139_code 16 = .ok (.dup, 1) := by decide +kernel
theorem d23_17 : decode jdk_42_method_139_code 17 = .ok (.iload_n 0, 1) := by decide +kernel
theorem d23_18 : decode jdk_42_method_139_code 18 = .ok (.invokestatic 1018, 3) := by decide +kernel
theorem d23_21 : decode jdk_42_method_139_code 21 = .ok (.iconst 0, 1) := by decide +kernel
theorem d23_22 : decode jdk_42_method_139_code 22 = .ok (.invokespecial 209, 3) := by decide +kernel
theorem d23_25 : decode jdk_42_method_139_code 25 = .ok (.areturn, 1) := by decide +kernel
theorem pd_1 : parseMethodDescriptor "(C)Z" = some ⟨[.char], some .boolean⟩ := by decide +kernel
theorem pd_2 : parseMethodDescriptor "(C)[B" = some ⟨[.char], some (.array .byte)⟩ := by decide +kernel
theorem pd_3 : parseMethodDescriptor "([BB)V" = some ⟨[(.array .byte), .byte], none⟩ := by decide +kernel
def Q23 (Z : State) (c1 : Int32) (h0 : Heap) (n0 : Nat) (v : Option Value) (h : Heap) (L : List Loc) : Prop := ∃ (b t : Addr) (kb : ClassId), v = some (.ref b) ∧ Fr n0 L ∧ Keep h0 h [] ∧ n0 ≤ b ∧ h0.size ≤ b ∧ Exa Z h b "java/lang/String" ∧ Fld Z h b "java/lang/String" "coder" "B" (.int (0 : Int32)) ∧ Fld Z h b "java/lang/String" "value" "[B" (.ref t) ∧ Arv Z h t kb .byte (1 : Int32) [(.int ((c1.toInt8.toInt32).toInt8.toInt32))] (.int (0 : Int32))
def room23 : Room := { frames := 2, cells := 2, slots := 5, locals := 27 }
set_option maxRecDepth 65536 in
set_option maxHeartbeats 40000000 in
theorem rm23 (l : Launch) (Z : State) (a0 : Array Value) (hw : ∀ d ∈ tables_1, d.before a0 Z = true) (ws : List Jvm.Cond) (c1 : Int32) (gC : Int32) (h0 : Heap) (n0 : Nat) (Z0 : n0 ≤ h0.size) (SC : Sta Z Z.heap "java/lang/String" "COMPACT_STRINGS" "Z" (.int gC)) (PC : ¬ (gC = (0 : Int32))) (O0 : Old Z n0 h0) (hc : ¬ c1 < 0 ∧ ¬ (255 : Int32) < c1) :
    MetFree l (⟨"java/lang/String", "valueOf", "(C)Ljava/lang/String;"⟩ : MethodName) (head1 (Jvm.Cond.code (⟨"java/lang/String", "valueOf", "(C)Ljava/lang/String;"⟩ : MethodName) jdk_42_method_139_code 1 (some (.object "java/lang/String")) :: ws) room23) (fun aa_ U_ => aa_ = #[(.int c1)] ∧ Z.Warmed39 U_.vm ∧ U_.heap = h0) (fun _ _ _ _ _ => True) (fun _ U_ o_ W_ => ∃ v_ L_, o_ = .returned v_ ∧ (Q23 Z c1 h0 n0) v_ W_.heap L_ ∧ FrameEnd U_ o_ W_ L_ room23.cells room23.slots) := by
  refine own_met (Q := (Q23 Z c1 h0 n0)) (L0 := #[.val (.int c1)]) (plainFor_of_name pn_0) (fun m => by first | (simp [entryFrame, mkF, argsToLocals, Value.category]; done) | rfl) ?_
  intro p e s m below meth c T0 X0 hx hby hml hown hnm hret hlk hZ e0
  have N0 := Fr.nil n0
  have K0 := Keep.refl h0 []
  obtain ⟨T1, X1, e1, st1⟩ := getS2 X0 hx hZ hown (host := "") (Or.inl (hw _ (List.mem_of_getElem? (i := 18) rfl))) Via.refl e0 (SC.ext O0.2) (g := (mkF m 0 #[.val (.int c1)] [])) rfl (hb hby d23_0)
  refine Go.st (T' := T1) (pc' := 3) (L' := #[.val (.int c1)]) (S' := [(.int gC)]) st1 ?_
  refine Go.st (T' := T1) (pc' := 6) (L' := #[.val (.int c1)]) (S' := []) (fun t_ k_ => XS.ifNo X1.here hx rfl (hb hby d23_3) rfl ((if0 _ _).trans (feq (PC : ¬ (gC = (0 : Int32)))).1) k_) ?_
  refine Go.st (T' := T1) (pc' := 7) (L' := #[.val (.int c1)]) (S' := [(.int c1)]) (fun t_ k_ => XS.iloadN X1.here hx rfl (hb hby d23_6) rfl  k_) ?_
  obtain ⟨_, _, ⟨T2, L2, k2, n2⟩, -, X2, ⟨Lc2, hQ2, l2, y2, z2⟩, st2⟩ := Jvm.LawKit.callS X1 hx (y := (⟨"java/lang/StringLatin1", "canEncode", "(C)Z"⟩ : MethodName)) hown (mvT hZ (hw _ (List.mem_of_getElem? (i := 182) rfl))) (mvT hZ (hw _ (List.mem_of_getElem? (i := 183) rfl))) (mvT hZ (hw _ (List.mem_of_getElem? (i := 184) rfl))) (mvT hZ (hw _ (List.mem_of_getElem? (i := 185) rfl))) (by decide) (backOf (W := 0) (rm24 l Z a0 hw [] c1 h0 n0 Z0 hc) hZ (hw _ (List.mem_of_getElem? (i := 185) rfl)) (hw _ (List.mem_of_getElem? (i := 184) rfl)) (by decide) (by decide)) (g := (mkF m 7 #[.val (.int c1)] [(.int c1)])) rfl (by rw [hml]; rfl) (argsL := [(.int c1)]) (rest := []) (lenOf pd_1 rfl) rfl (by show 2 * 0 + _ ≤ _; exact Nat.le_of_eq rfl) (hb hby d23_7) (fun _ _ => ⟨rfl, e1, (by decide : 0 + 0 ≤ _), (by decide : 0 + 0 ≤ _)⟩)
  dsimp only [Pt.U, Pt.locs, Pt.cells, Pt.slots] at X2 l2 y2 z2 st2 hQ2
  subst l2 y2 z2
  obtain ⟨rfl, N2q, e2⟩ := hQ2
  have N2 := Fr.app N0 N2q
  refine Go.st (T' := T2) (pc' := 10) (L' := #[.val (.int c1)]) (S' := [(.int (1 : Int32))]) st2 ?_
  refine Go.st (T' := T2) (pc' := 13) (L' := #[.val (.int c1)]) (S' := []) (fun t_ k_ => XS.ifNo X2.here hx rfl (hb hby d23_10) rfl ((if0 _ _).trans (feq (by decide : ¬ ((1 : Int32) = (0 : Int32)))).1) k_) ?_
  obtain ⟨T3, h3, X3, e3, E3, A3, D3, U3, st3⟩ := newO X2 hx hZ hown (hw _ (List.mem_of_getElem? (i := 186) rfl)) (hw _ (List.mem_of_getElem? (i := 5) rfl)) (hw _ (List.mem_of_getElem? (i := 6) rfl)) e2 (g := (mkF m 13 #[.val (.int c1)] [])) rfl (hb hby d23_13) (by decide) (by decide)
  obtain ⟨b3, g3⟩ : ∃ z, z = h0.size := ⟨_, rfl⟩
  rw [← g3] at A3 D3 U3 st3
  have g_b3 : n0 ≤ b3 := Nat.le_trans Z0 (Nat.le_of_eq g3.symm)
  have sz_b3 : h0.size ≤ b3 := Nat.le_trans K0.1 (Nat.le_of_eq g3.symm)
  replace Z0 := Nat.le_trans Z0 E3.1
  replace K0 := K0.ext E3
  replace O0 := O0.ext E3
  have E_b3 := A3
  have F_b3_coder : Fld Z h3 b3 "java/lang/String" "coder" "B" (.int (0 : Int32)) := D3 (Or.inr (hw _ (List.mem_of_getElem? (i := 31) rfl))) (ty := .byte) (by decide)
  have F_b3_value : Fld Z h3 b3 "java/lang/String" "value" "[B" .null := D3 (Or.inr (hw _ (List.mem_of_getElem? (i := 33) rfl))) (ty := (.array .byte)) (by decide)
  refine Go.st (T' := T3) (pc' := 16) (L' := #[.val (.int c1)]) (S' := [(.ref b3)]) st3 ?_
  refine Go.st (T' := T3) (pc' := 17) (L' := #[.val (.int c1)]) (S' := [(.ref b3), (.ref b3)]) (fun t_ k_ => XS.dup X3.here hx rfl (hb hby d23_16) rfl rfl k_) ?_
  refine Go.st (T' := T3) (pc' := 18) (L' := #[.val (.int c1)]) (S' := [(.int c1), (.ref b3), (.ref b3)]) (fun t_ k_ => XS.iloadN X3.here hx rfl (hb hby d23_17) rfl  k_) ?_
  obtain ⟨_, _, ⟨T4, L4, k4, n4⟩, -, X4, ⟨Lc4, hQ4, l4, y4, z4⟩, st4⟩ := Jvm.LawKit.callS X3 hx (y := (⟨"java/lang/StringLatin1", "toBytes", "(C)[B"⟩ : MethodName)) hown (mvT hZ (hw _ (List.mem_of_getElem? (i := 187) rfl))) (mvT hZ (hw _ (List.mem_of_getElem? (i := 188) rfl))) (mvT hZ (hw _ (List.mem_of_getElem? (i := 184) rfl))) (mvT hZ (hw _ (List.mem_of_getElem? (i := 189) rfl))) (by decide) (backOf (W := 2) (rm25 l Z a0 hw [] c1 h3 n0 Z0) hZ (hw _ (List.mem_of_getElem? (i := 189) rfl)) (hw _ (List.mem_of_getElem? (i := 184) rfl)) (by decide) (by decide)) (g := (mkF m 18 #[.val (.int c1)] [(.int c1), (.ref b3), (.ref b3)])) rfl (by rw [hml]; rfl) (argsL := [(.int c1)]) (rest := [(.ref b3), (.ref b3)]) (lenOf pd_2 rfl) rfl (by show 2 * 0 + _ ≤ _; exact Nat.le_of_eq rfl) (hb hby d23_18) (fun _ _ => ⟨rfl, e3, (by decide : 1 + 1 ≤ _), (by decide : 4 + 1 ≤ _)⟩)
  dsimp only [Pt.U, Pt.locs, Pt.cells, Pt.slots] at X4 l4 y4 z4 st4 hQ4
  subst l4 y4 z4
  obtain ⟨b4, kb4, rfl, N4q, K4, g_b4, lt4, V_b4⟩ := hQ4
  have N4 := Fr.app N2 N4q
  have ne_b3_b4 : b3 ≠ b4 := Nat.ne_of_lt (Nat.lt_of_lt_of_le E_b3.lt lt4)
  have sz_b4 : h0.size ≤ b4 := Nat.le_trans K0.1 lt4
  obtain ⟨h4, e4⟩ : ∃ z, T4.heap = z := ⟨_, rfl⟩
  rw [e4] at K4 V_b4
  replace Z0 := Nat.le_trans Z0 K4.1
  replace K0 := K0.trans K4 all0
  replace O0 := O0.keep K4 all0
  replace E_b3 := E_b3.keep K4
  replace F_b3_coder := F_b3_coder.keep K4 nin0
  replace F_b3_value := F_b3_value.keep K4 nin0
  refine Go.st (T' := T4) (pc' := 21) (L' := #[.val (.int c1)]) (S' := [(.ref b4), (.ref b3), (.ref b3)]) st4 ?_
  refine Go.st (T' := T4) (pc' := 22) (L' := #[.val (.int c1)]) (S' := [(.int (0 : Int32)), (.ref b4), (.ref b3), (.ref b3)]) (fun t_ k_ => XS.iconst X4.here hx rfl (hb hby d23_21) k_) ?_
  obtain ⟨_, _, ⟨T5, L5, k5, n5⟩, -, X5, ⟨Lc5, hQ5, l5, y5, z5⟩, st5⟩ := X4.specialBack hx (y := (⟨"java/lang/String", "<init>", "([BB)V"⟩ : MethodName)) rfl hown (mvT hZ (hw _ (List.mem_of_getElem? (i := 190) rfl))) (mvT hZ (hw _ (List.mem_of_getElem? (i := 191) rfl))) (mvT hZ (hw _ (List.mem_of_getElem? (i := 192) rfl))) (by decide) (backOf (W := 1) (rm26 l Z a0 hw [] b3 b4 h4 n0 Z0 E_b3 g_b3 F_b3_value F_b3_coder) hZ (hw _ (List.mem_of_getElem? (i := 192) rfl)) (hw _ (List.mem_of_getElem? (i := 6) rfl)) (by decide) (by decide)) (g := (mkF m 22 #[.val (.int c1)] [(.int (0 : Int32)), (.ref b4), (.ref b3), (.ref b3)])) rfl (by rw [hml]; rfl) (Steps.refl _) (a := b3) (argsL := [(.ref b4), (.int (0 : Int32))]) (rest := [(.ref b3)]) (lenOf pd_3 rfl) rfl (by show 2 * 0 + _ ≤ _; exact Nat.le_of_eq rfl) (hb hby d23_22) (fun _ _ => ⟨rfl, e4, (by decide : 2 + 0 ≤ _), (by decide : 5 + 0 ≤ _)⟩)
  dsimp only [Pt.U, Pt.locs, Pt.cells, Pt.slots] at X5 l5 y5 z5 st5 hQ5
  subst l5 y5 z5
  obtain ⟨rfl, N5q, K5, G5_value, G5_coder⟩ := hQ5
  have N5 := Fr.app N4 N5q
  obtain ⟨h5, e5⟩ : ∃ z, T5.heap = z := ⟨_, rfl⟩
  rw [e5] at K5 G5_value G5_coder
  replace Z0 := Nat.le_trans Z0 K5.1
  replace K0 := K0.trans K5 (allS (Or.inr sz_b3) all0)
  replace O0 := O0.keep K5 (allS g_b3 all0)
  replace E_b3 := E_b3.keep K5
  replace V_b4 := V_b4.keep K5 (ninS (Ne.symm ne_b3_b4) nin0)
  refine Go.tr (T' := T5) (pc' := 25) (L' := #[.val (.int c1)]) (S' := [(.ref b3)]) st5 ?_
  exact Go.retO X5 hx hlk hret rfl (by simp [FieldType.isReference, Value.isRef]) (hb hby d23_25) (by decide) (by decide) (by rw [e5]; exact ⟨b3, b4, _, rfl, N5, K0, g_b3, sz_b3, E_b3, G5_coder, G5_value, V_b4⟩)
theorem d9_0 : decode jdk_30_method_1_code 0 = .ok (.aload_n 0, 1) := by decide +kernel
theorem d9_1 : decode jdk_30_method_1_code 1 = .ok (.invokespecial 1, 3) := by decide +kernel
theorem d9_4 : decode jdk_30_method_1_code 4 = .ok (.return_, 1) := by decide +kernel
theorem pn_2 : plainName "java/lang/Record" = true := by first | (simp [plainName, overriddenIn]; done) | decide +kernel
def Q9 (Z : State) (a1 : Addr) (h0 : Heap) (n0 : Nat) (v : Option Value) (h : Heap) (L : List Loc) : Prop := v = none ∧ Fr n0 L ∧ h = h0
def room9 : Room := { frames := 1, cells := 0, slots := 0, locals := 12 }
set_option maxRecDepth 65536 in
set_option maxHeartbeats 40000000 in
theorem rm9 (l : Launch) (Z : State) (a0 : Array Value) (hw : ∀ d ∈ tables_1, d.before a0 Z = true) (ws : List Jvm.Cond) (a1 : Addr) (h0 : Heap) (n0 : Nat) (Z0 : n0 ≤ h0.size)  :
    MetFree l (⟨"java/lang/Record", "<init>", "()V"⟩ : MethodName) (head1 (Jvm.Cond.code (⟨"java/lang/Record", "<init>", "()V"⟩ : MethodName) jdk_30_method_1_code 1 none :: ws) room9) (fun aa_ U_ => aa_ = #[(.ref a1)] ∧ Z.Warmed39 U_.vm ∧ U_.heap = h0) (fun _ _ _ _ _ => True) (fun _ U_ o_ W_ => ∃ v_ L_, o_ = .returned v_ ∧ (Q9 Z a1 h0 n0) v_ W_.heap L_ ∧ FrameEnd U_ o_ W_ L_ room9.cells room9.slots) := by
  refine own_met (Q := (Q9 Z a1 h0 n0)) (L0 := #[.val (.ref a1)]) (plainFor_of_name pn_2) (fun m => by first | (simp [entryFrame, mkF, argsToLocals, Value.category]; done) | rfl) ?_
  intro p e s m below meth c T0 X0 hx hby hml hown hnm hret hlk hZ e0
  have N0 := Fr.nil n0
  refine Go.st (T' := T0) (pc' := 1) (L' := #[.val (.ref a1)]) (S' := [(.ref a1)]) (fun t_ k_ => XS.aloadN X0.here hx rfl (hb hby d9_0) rfl rfl  k_) ?_
  obtain ⟨T1, X1, e1, st1⟩ := initO X0 hx hZ hown (hw _ (List.mem_of_getElem? (i := 51) rfl)) (hw _ (List.mem_of_getElem? (i := 16) rfl)) (hw _ (List.mem_of_getElem? (i := 17) rfl)) e0 (g := (mkF m 1 #[.val (.ref a1)] [(.ref a1)])) rfl (by rw [hml]; rfl) rfl (hb hby d9_1) (by decide) (W := 0) (by show 2 * 0 + _ ≤ _; exact Nat.le_of_eq rfl) (by decide)
  refine Go.st (T' := T1) (pc' := 4) (L' := #[.val (.ref a1)]) (S' := []) st1 ?_
  exact Go.retV X1 hx hlk hret (hb hby d9_4) (by decide) (by decide) (by rw [e1]; exact ⟨rfl, N0, rfl⟩)
theorem d10_0 : decode jdk_31_method_11_code 0 = .ok (.aload_n 0, 1) := by decide +kernel
theorem d10_1 : decode jdk_31_method_11_code 1 = .ok (.ifnonnull 12, 3) := by decide +kernel
theorem d10_13 : decode jdk_31_method_11_code 13 = .ok (.aload_n 0, 1) := by decide +kernel
theorem d10_14 : decode jdk_31_method_11_code 14 = .ok (.areturn, 1) := by decide +kernel
theorem pn_3 : plainName "java/util/Objects" = true := by first | (simp [plainName, overriddenIn]; done) | decide +kernel
def Q10 (Z : State) (x1 : Addr) (x2 : Addr) (h0 : Heap) (n0 : Nat) (v : Option Value) (h : Heap) (L : List Loc) : Prop := v = some (.ref x1) ∧ Fr n0 L ∧ h = h0
def room10 : Room := { frames := 0, cells := 0, slots := 0, locals := 0 }
set_option maxRecDepth 65536 in
set_option maxHeartbeats 40000000 in
theorem rm10 (l : Launch) (Z : State) (a0 : Array Value) (hw : ∀ d ∈ tables_1, d.before a0 Z = true) (ws : List Jvm.Cond) (x1 : Addr) (x2 : Addr) (h0 : Heap) (n0 : Nat) (Z0 : n0 ≤ h0.size)  :
    MetFree l (⟨"java/util/Objects", "requireNonNull", "(Ljava/lang/Object;Ljava/lang/String;)Ljava/lang/Object;"⟩ : MethodName) (head1 (Jvm.Cond.code (⟨"java/util/Objects", "requireNonNull", "(Ljava/lang/Object;Ljava/lang/String;)Ljava/lang/Object;"⟩ : MethodName) jdk_31_method_11_code 2 (some (.object "java/lang/Object")) :: ws) room10) (fun aa_ U_ => aa_ = #[(.ref x1), (.ref x2)] ∧ Z.Warmed39 U_.vm ∧ U_.heap = h0) (fun _ _ _ _ _ => True) (fun _ U_ o_ W_ => ∃ v_ L_, o_ = .returned v_ ∧ (Q10 Z x1 x2 h0 n0) v_ W_.heap L_ ∧ FrameEnd U_ o_ W_ L_ room10.cells room10.slots) := by
  refine own_met (Q := (Q10 Z x1 x2 h0 n0)) (L0 := #[.val (.ref x1), .val (.ref x2)]) (plainFor_of_name pn_3) (fun m => by first | (simp [entryFrame, mkF, argsToLocals, Value.category]; done) | rfl) ?_
  intro p e s m below meth c T0 X0 hx hby hml hown hnm hret hlk hZ e0
  have N0 := Fr.nil n0
  refine Go.st (T' := T0) (pc' := 1) (L' := #[.val (.ref x1), .val (.ref x2)]) (S' := [(.ref x1)]) (fun t_ k_ => XS.aloadN X0.here hx rfl (hb hby d10_0) rfl rfl  k_) ?_
  refine Go.st (T' := T0) (pc' := 13) (L' := #[.val (.ref x1), .val (.ref x2)]) (S' := []) (fun t_ k_ => XS.ifnonnullYes X0.here hx rfl (pc0 := 1) (pc' := 13) rfl (hb hby d10_1) rfl (by decide) (by decide) k_) ?_
  refine Go.st (T' := T0) (pc' := 14) (L' := #[.val (.ref x1), .val (.ref x2)]) (S' := [(.ref x1)]) (fun t_ k_ => XS.aloadN X0.here hx rfl (hb hby d10_13) rfl rfl  k_) ?_
  exact Go.retO X0 hx hlk hret rfl (by simp [FieldType.isReference, Value.isRef]) (hb hby d10_14) (by decide) (by decide) (by rw [e0]; exact ⟨rfl, N0, rfl⟩)
theorem d19_0 : decode jdk_31_method_10_code 0 = .ok (.aload_n 0, 1) := by decide +kernel
theorem d19_1 : decode jdk_31_method_10_code 1 = .ok (.ifnonnull 11, 3) := by decide +kernel
theorem d19_12 : decode jdk_31_method_10_code 12 = .ok (.aload_n 0, 1) := by decide +kernel
theorem d19_13 : decode jdk_31_method_10_code 13 = .ok (.areturn, 1) := by decide +kernel
def Q19 (Z : State) (x1 : Addr) (h0 : Heap) (n0 : Nat) (v : Option Value) (h : Heap) (L : List Loc) : Prop := v = some (.ref x1) ∧ Fr n0 L ∧ h = h0
def room19 : Room := { frames := 0, cells := 0, slots := 0, locals := 0 }
set_option maxRecDepth 65536 in
set_option maxHeartbeats 40000000 in
theorem rm19 (l : Launch) (Z : State) (a0 : Array Value) (hw : ∀ d ∈ tables_1, d.before a0 Z = true) (ws : List Jvm.Cond) (x1 : Addr) (h0 : Heap) (n0 : Nat) (Z0 : n0 ≤ h0.size)  :
    MetFree l (⟨"java/util/Objects", "requireNonNull", "(Ljava/lang/Object;)Ljava/lang/Object;"⟩ : MethodName) (head1 (Jvm.Cond.code (⟨"java/util/Objects", "requireNonNull", "(Ljava/lang/Object;)Ljava/lang/Object;"⟩ : MethodName) jdk_31_method_10_code 1 (some (.object "java/lang/Object")) :: ws) room19) (fun aa_ U_ => aa_ = #[(.ref x1)] ∧ Z.Warmed39 U_.vm ∧ U_.heap = h0) (fun _ _ _ _ _ => True) (fun _ U_ o_ W_ => ∃ v_ L_, o_ = .returned v_ ∧ (Q19 Z x1 h0 n0) v_ W_.heap L_ ∧ FrameEnd U_ o_ W_ L_ room19.cells room19.slots) := by
  refine own_met (Q := (Q19 Z x1 h0 n0)) (L0 := #[.val (.ref x1)]) (plainFor_of_name pn_3) (fun m => by first | (simp [entryFrame, mkF, argsToLocals, Value.category]; done) | rfl) ?_
  intro p e s m below meth c T0 X0 hx hby hml hown hnm hret hlk hZ e0
  have N0 := Fr.nil n0
  refine Go.st (T' := T0) (pc' := 1) (L' := #[.val (.ref x1)]) (S' := [(.ref x1)]) (fun t_ k_ => XS.aloadN X0.here hx rfl (hb hby d19_0) rfl rfl  k_) ?_
  refine Go.st (T' := T0) (pc' := 12) (L' := #[.val (.ref x1)]) (S' := []) (fun t_ k_ => XS.ifnonnullYes X0.here hx rfl (pc0 := 1) (pc' := 12) rfl (hb hby d19_1) rfl (by decide) (by decide) k_) ?_
  refine Go.st (T' := T0) (pc' := 13) (L' := #[.val (.ref x1)]) (S' := [(.ref x1)]) (fun t_ k_ => XS.aloadN X0.here hx rfl (hb hby d19_12) rfl rfl  k_) ?_
  exact Go.retO X0 hx hlk hret rfl (by simp [FieldType.isReference, Value.isRef]) (hb hby d19_13) (by decide) (by decide) (by rw [e0]; exact ⟨rfl, N0, rfl⟩)
theorem d8_0 : decode prog_53_method_1_code 0 = .ok (.aload_n 0, 1) := by decide +kernel
theorem d8_1 : decode prog_53_method_1_code 1 = .ok (.invokespecial 1, 3) := by decide +kernel
theorem d8_4 : decode prog_53_method_1_code 4 = .ok (.aload_n 1, 1) := by decide +kernel
theorem d8_5 : decode prog_53_method_1_code 5 = .ok (.ldc 7, 2) := by decide +kernel
theorem d8_7 : decode prog_53_method_1_code 7 = .ok (.invokestatic 9, 3) := by decide +kernel
theorem d8_10 : decode prog_53_method_1_code 10 = .ok (.pop, 1) := by decide +kernel
theorem d8_11 : decode prog_53_method_1_code 11 = .ok (.aload_n 2, 1) := by decide +kernel
theorem d8_12 : decode prog_53_method_1_code 12 = .ok (.ldc 15, 2) := by decide +kernel
theorem d8_14 : decode prog_53_method_1_code 14 = .ok (.invokestatic 9, 3) := by decide +kernel
theorem d8_17 : decode prog_53_method_1_code 17 = .ok (.pop, 1) := by decide +kernel
theorem d8_18 : decode prog_53_method_1_code 18 = .ok (.aload_n 3, 1) := by decide +kernel
theorem d8_19 : decode prog_53_method_1_code 19 = .ok (.ldc 17, 2) := by decide +kernel
theorem d8_21 : decode prog_53_method_1_code 21 = .ok (.invokestatic 9, 3) := by decide +kernel
theorem d8_24 : decode prog_53_method_1_code 24 = .ok (.pop, 1) := by decide +kernel
theorem d8_25 : decode prog_53_method_1_code 25 = .ok (.aload_n 0, 1) := by decide +kernel
theorem d8_26 : decode prog_53_method_1_code 26 = .ok (.aload_n 1, 1) := by decide +kernel
theorem d8_27 : decode prog_53_method_1_code 27 = .ok (.putfield 19, 3) := by decide +kernel
theorem d8_30 : decode prog_53_method_1_code 30 = .ok (.aload_n 0, 1) := by decide +kernel
theorem d8_31 : decode prog_53_method_1_code 31 = .ok (.aload_n 2, 1) := by decide +kernel
theorem d8_32 : decode prog_53_method_1_code 32 = .ok (.putfield 24, 3) := by decide +kernel
theorem d8_35 : decode prog_53_method_1_code 35 = .ok (.aload_n 0, 1) := by decide +kernel
theorem d8_36 : decode prog_53_method_1_code 36 = .ok (.aload_n 3, 1) := by decide +kernel
theorem d8_37 : decode prog_53_method_1_code 37 = .ok (.putfield 26, 3) := by decide +kernel
theorem d8_40 : decode prog_53_method_1_code 40 = .ok (.return_, 1) := by decide +kernel
theorem pd_4 : parseMethodDescriptor "()V" = some ⟨[], none⟩ := by decide +kernel
theorem pd_5 : parseMethodDescriptor "(Ljava/lang/Object;Ljava/lang/String;)Ljava/lang/Object;" = some ⟨[(.object "java/lang/Object"), (.object "java/lang/String")], some (.object "java/lang/Object")⟩ := by decide +kernel
theorem pn_4 : plainName "org/concordat/report/Rule" = true := by first | (simp [plainName, overriddenIn]; done) | decide +kernel
def Q8 (Z : State) (a1 : Addr) (x1 : Addr) (x2 : Addr) (x3 : Addr) (h0 : Heap) (n0 : Nat) (v : Option Value) (h : Heap) (L : List Loc) : Prop := v = none ∧ Fr n0 L ∧ Keep h0 h [a1] ∧ Fld Z h a1 "org/concordat/report/Rule" "id" "Ljava/lang/String;" (.ref x1) ∧ Fld Z h a1 "org/concordat/report/Rule" "summary" "Ljava/lang/String;" (.ref x2) ∧ Fld Z h a1 "org/concordat/report/Rule" "description" "Ljava/lang/String;" (.ref x3)
def room8 : Room := { frames := 2, cells := 6, slots := 92, locals := 24 }
set_option maxRecDepth 65536 in
set_option maxHeartbeats 40000000 in
theorem rm8 (l : Launch) (Z : State) (a0 : Array Value) (hw : ∀ d ∈ tables_1, d.before a0 Z = true) (ws : List Jvm.Cond) (a1 : Addr) (x1 : Addr) (x2 : Addr) (x3 : Addr) (h0 : Heap) (n0 : Nat) (Z0 : n0 ≤ h0.size) (E_a1 : Exa Z h0 a1 "org/concordat/report/Rule") (g_a1 : n0 ≤ a1) (F_id : Fld Z h0 a1 "org/concordat/report/Rule" "id" "Ljava/lang/String;" .null) (F_summary : Fld Z h0 a1 "org/concordat/report/Rule" "summary" "Ljava/lang/String;" .null) (F_description : Fld Z h0 a1 "org/concordat/report/Rule" "description" "Ljava/lang/String;" .null) :
    MetFree l (⟨"org/concordat/report/Rule", "<init>", "(Ljava/lang/String;Ljava/lang/String;Ljava/lang/String;)V"⟩ : MethodName) (head1 (Jvm.Cond.code (⟨"org/concordat/report/Rule", "<init>", "(Ljava/lang/String;Ljava/lang/String;Ljava/lang/String;)V"⟩ : MethodName) prog_53_method_1_code 4 none :: ws) room8) (fun aa_ U_ => aa_ = #[(.ref a1), (.ref x1), (.ref x2), (.ref x3)] ∧ Z.Warmed39 U_.vm ∧ U_.heap = h0 ∧ CHv Z EL U_.vm h0) (fun _ _ _ _ _ => True) (fun _ U_ o_ W_ => ∃ v_ L_, o_ = .returned v_ ∧ (Q8 Z a1 x1 x2 x3 h0 n0) v_ W_.heap L_ ∧ CHr Z EL U_.vm U_.heap W_.vm W_.heap ∧ ReturnedEndW U_ o_ W_ L_ room8.cells room8.slots) := by
  refine own_metH (Q := (Q8 Z a1 x1 x2 x3 h0 n0)) (L0 := #[.val (.ref a1), .val (.ref x1), .val (.ref x2), .val (.ref x3)]) (plainFor_of_name pn_4) (fun m => by first | (simp [entryFrame, mkF, argsToLocals, Value.category]; done) | rfl) ?_
  intro p e s m below meth c T0 X0 hx hby hml hown hnm hret hlk hZ e0 hs0 CR hS hk
  have N0 := Fr.nil n0
  have K0 := Keep.refl h0 [a1]
  refine GoH.st (T' := T0) (pc' := 1) (L' := #[.val (.ref a1), .val (.ref x1), .val (.ref x2), .val (.ref x3)]) (S' := [(.ref a1)]) (fun t_ k_ => XS.aloadN X0.here hx rfl (hb hby d8_0) rfl rfl  k_) ?_
  obtain ⟨_, _, ⟨T1, L1, k1, n1⟩, -, X1, ⟨Lc1, hQ1, l1, y1, z1⟩, st1⟩ := X0.specialBack hx (y := (⟨"java/lang/Record", "<init>", "()V"⟩ : MethodName)) rfl hown (mvT hZ (hw _ (List.mem_of_getElem? (i := 46) rfl))) (mvT hZ (hw _ (List.mem_of_getElem? (i := 47) rfl))) (mvT hZ (hw _ (List.mem_of_getElem? (i := 50) rfl))) (by decide) (backOf (W := 0) (rm9 l Z a0 hw [] a1 h0 n0 Z0) hZ (hw _ (List.mem_of_getElem? (i := 50) rfl)) (hw _ (List.mem_of_getElem? (i := 49) rfl)) (by decide) (by decide)) (g := (mkF m 1 #[.val (.ref a1), .val (.ref x1), .val (.ref x2), .val (.ref x3)] [(.ref a1)])) rfl (by rw [hml]; rfl) (Steps.refl _) (a := a1) (argsL := []) (rest := []) (lenOf pd_4 rfl) rfl (by show 2 * 0 + _ ≤ _; exact Nat.le_of_eq rfl) (hb hby d8_1) (fun _ _ => ⟨rfl, e0, (by decide : 0 + 0 ≤ _), (by decide : 0 + 0 ≤ _)⟩)
  dsimp only [Pt.U, Pt.locs, Pt.cells, Pt.slots] at X1 l1 y1 z1 st1 hQ1
  subst l1 y1 z1
  obtain ⟨rfl, N1q, e1⟩ := hQ1
  have N1 := Fr.app N0 N1q
  refine GoH.tr (T' := T1) (pc' := 4) (L' := #[.val (.ref a1), .val (.ref x1), .val (.ref x2), .val (.ref x3)]) (S' := []) st1 ?_
  refine GoH.st (T' := T1) (pc' := 5) (L' := #[.val (.ref a1), .val (.ref x1), .val (.ref x2), .val (.ref x3)]) (S' := [(.ref x1)]) (fun t_ k_ => XS.aloadN X1.here hx rfl (hb hby d8_4) rfl rfl  k_) ?_
  obtain ⟨a2_, T2, h2, k2, X2, e2, E2, hS2, hk2, hZ2, ho2, CR2, -, st2⟩ := ldcOH X1 hx hZ hown (hw _ (List.mem_of_getElem? (i := 52) rfl)) (own_wS hw) e1 hS hk (own_EW hw) CR.1 (g := (mkF m 5 #[.val (.ref a1), .val (.ref x1), .val (.ref x2), .val (.ref x3)] [(.ref x1)])) rfl (hb hby d8_5) (n := 8) (by decide) (by decide) (by decide) (by decide)
  replace CR := CR.trans CR2
  replace Z0 := Nat.le_trans Z0 E2.1
  replace K0 := K0.ext E2
  replace E_a1 := E_a1.ext E2
  replace F_id := F_id.ext E2
  replace F_summary := F_summary.ext E2
  replace F_description := F_description.ext E2
  replace hZ := hZ2
  replace hown := ho2
  replace hS := hS2
  replace hk := hk2
  refine GoH.st (T' := T2) (pc' := 7) (L' := #[.val (.ref a1), .val (.ref x1), .val (.ref x2), .val (.ref x3)]) (S' := [(.ref a2_), (.ref x1)]) st2 ?_
  obtain ⟨_, _, ⟨T3, L3, k3, n3⟩, -, X3, ⟨Lc3, hQ3, l3, y3, z3⟩, st3⟩ := Jvm.LawKit.callS X2 hx (y := (⟨"java/util/Objects", "requireNonNull", "(Ljava/lang/Object;Ljava/lang/String;)Ljava/lang/Object;"⟩ : MethodName)) hown (mvT hZ (hw _ (List.mem_of_getElem? (i := 53) rfl))) (mvT hZ (hw _ (List.mem_of_getElem? (i := 54) rfl))) (mvT hZ (hw _ (List.mem_of_getElem? (i := 55) rfl))) (mvT hZ (hw _ (List.mem_of_getElem? (i := 56) rfl))) (by decide) (backOf (W := 0) (rm10 l Z a0 hw [] x1 a2_ h2 n0 Z0) hZ (hw _ (List.mem_of_getElem? (i := 56) rfl)) (hw _ (List.mem_of_getElem? (i := 55) rfl)) (by decide) (by decide)) (g := (mkF m 7 #[.val (.ref a1), .val (.ref x1), .val (.ref x2), .val (.ref x3)] [(.ref a2_), (.ref x1)])) rfl (by rw [hml]; rfl) (argsL := [(.ref x1), (.ref a2_)]) (rest := []) (lenOf pd_5 rfl) rfl (by show 2 * 0 + _ ≤ _; exact Nat.le_of_eq rfl) (hb hby d8_7) (fun _ _ => ⟨rfl, e2, (by decide : 2 + 0 ≤ _), (by decide : 12 + 0 ≤ _)⟩)
  dsimp only [Pt.U, Pt.locs, Pt.cells, Pt.slots] at X3 l3 y3 z3 st3 hQ3
  subst l3 y3 z3
  obtain ⟨rfl, N3q, e3⟩ := hQ3
  have N3 := Fr.app N1 N3q
  refine GoH.st (T' := T3) (pc' := 10) (L' := #[.val (.ref a1), .val (.ref x1), .val (.ref x2), .val (.ref x3)]) (S' := [(.ref x1)]) st3 ?_
  refine GoH.st (T' := T3) (pc' := 11) (L' := #[.val (.ref a1), .val (.ref x1), .val (.ref x2), .val (.ref x3)]) (S' := []) (fun t_ k_ => XS.pop X3.here hx rfl (hb hby d8_10) rfl rfl k_) ?_
  refine GoH.st (T' := T3) (pc' := 12) (L' := #[.val (.ref a1), .val (.ref x1), .val (.ref x2), .val (.ref x3)]) (S' := [(.ref x2)]) (fun t_ k_ => XS.aloadN X3.here hx rfl (hb hby d8_11) rfl rfl  k_) ?_
  obtain ⟨a4_, T4, h4, k4, X4, e4, E4, hS4, hk4, hZ4, ho4, CR4, -, st4⟩ := ldcOH X3 hx hZ hown (hw _ (List.mem_of_getElem? (i := 57) rfl)) (own_wS hw) e3 hS hk (own_EW hw) CR.1 (g := (mkF m 12 #[.val (.ref a1), .val (.ref x1), .val (.ref x2), .val (.ref x3)] [(.ref x2)])) rfl (hb hby d8_12) (n := 28) (by decide) (by decide) (by decide) (by decide)
  replace CR := CR.trans CR4
  replace Z0 := Nat.le_trans Z0 E4.1
  replace K0 := K0.ext E4
  replace E_a1 := E_a1.ext E4
  replace F_id := F_id.ext E4
  replace F_summary := F_summary.ext E4
  replace F_description := F_description.ext E4
  replace hZ := hZ4
  replace hown := ho4
  replace hS := hS4
  replace hk := hk4
  refine GoH.st (T' := T4) (pc' := 14) (L' := #[.val (.ref a1), .val (.ref x1), .val (.ref x2), .val (.ref x3)]) (S' := [(.ref a4_), (.ref x2)]) st4 ?_
  obtain ⟨_, _, ⟨T5, L5, k5, n5⟩, -, X5, ⟨Lc5, hQ5, l5, y5, z5⟩, st5⟩ := Jvm.LawKit.callS X4 hx (y := (⟨"java/util/Objects", "requireNonNull", "(Ljava/lang/Object;Ljava/lang/String;)Ljava/lang/Object;"⟩ : MethodName)) hown (mvT hZ (hw _ (List.mem_of_getElem? (i := 53) rfl))) (mvT hZ (hw _ (List.mem_of_getElem? (i := 54) rfl))) (mvT hZ (hw _ (List.mem_of_getElem? (i := 55) rfl))) (mvT hZ (hw _ (List.mem_of_getElem? (i := 56) rfl))) (by decide) (backOf (W := 0) (rm10 l Z a0 hw [] x2 a4_ h4 n0 Z0) hZ (hw _ (List.mem_of_getElem? (i := 56) rfl)) (hw _ (List.mem_of_getElem? (i := 55) rfl)) (by decide) (by decide)) (g := (mkF m 14 #[.val (.ref a1), .val (.ref x1), .val (.ref x2), .val (.ref x3)] [(.ref a4_), (.ref x2)])) rfl (by rw [hml]; rfl) (argsL := [(.ref x2), (.ref a4_)]) (rest := []) (lenOf pd_5 rfl) rfl (by show 2 * 0 + _ ≤ _; exact Nat.le_of_eq rfl) (hb hby d8_14) (fun _ _ => ⟨rfl, e4, (by decide : 4 + 0 ≤ _), (by decide : 44 + 0 ≤ _)⟩)
  dsimp only [Pt.U, Pt.locs, Pt.cells, Pt.slots] at X5 l5 y5 z5 st5 hQ5
  subst l5 y5 z5
  obtain ⟨rfl, N5q, e5⟩ := hQ5
  have N5 := Fr.app N3 N5q
  refine GoH.st (T' := T5) (pc' := 17) (L' := #[.val (.ref a1), .val (.ref x1), .val (.ref x2), .val (.ref x3)]) (S' := [(.ref x2)]) st5 ?_
  refine GoH.st (T' := T5) (pc' := 18) (L' := #[.val (.ref a1), .val (.ref x1), .val (.ref x2), .val (.ref x3)]) (S' := []) (fun t_ k_ => XS.pop X5.here hx rfl (hb hby d8_17) rfl rfl k_) ?_
  refine GoH.st (T' := T5) (pc' := 19) (L' := #[.val (.ref a1), .val (.ref x1), .val (.ref x2), .val (.ref x3)]) (S' := [(.ref x3)]) (fun t_ k_ => XS.aloadN X5.here hx rfl (hb hby d8_18) rfl rfl  k_) ?_
  obtain ⟨a6_, T6, h6, k6, X6, e6, E6, hS6, hk6, hZ6, ho6, CR6, -, st6⟩ := ldcOH X5 hx hZ hown (hw _ (List.mem_of_getElem? (i := 58) rfl)) (own_wS hw) e5 hS hk (own_EW hw) CR.1 (g := (mkF m 19 #[.val (.ref a1), .val (.ref x1), .val (.ref x2), .val (.ref x3)] [(.ref x3)])) rfl (hb hby d8_19) (n := 44) (by decide) (by decide) (by decide) (by decide)
  replace CR := CR.trans CR6
  replace Z0 := Nat.le_trans Z0 E6.1
  replace K0 := K0.ext E6
  replace E_a1 := E_a1.ext E6
  replace F_id := F_id.ext E6
  replace F_summary := F_summary.ext E6
  replace F_description := F_description.ext E6
  replace hZ := hZ6
  replace hown := ho6
  replace hS := hS6
  replace hk := hk6
  refine GoH.st (T' := T6) (pc' := 21) (L' := #[.val (.ref a1), .val (.ref x1), .val (.ref x2), .val (.ref x3)]) (S' := [(.ref a6_), (.ref x3)]) st6 ?_
  obtain ⟨_, _, ⟨T7, L7, k7, n7⟩, -, X7, ⟨Lc7, hQ7, l7, y7, z7⟩, st7⟩ := Jvm.LawKit.callS X6 hx (y := (⟨"java/util/Objects", "requireNonNull", "(Ljava/lang/Object;Ljava/lang/String;)Ljava/lang/Object;"⟩ : MethodName)) hown (mvT hZ (hw _ (List.mem_of_getElem? (i := 53) rfl))) (mvT hZ (hw _ (List.mem_of_getElem? (i := 54) rfl))) (mvT hZ (hw _ (List.mem_of_getElem? (i := 55) rfl))) (mvT hZ (hw _ (List.mem_of_getElem? (i := 56) rfl))) (by decide) (backOf (W := 0) (rm10 l Z a0 hw [] x3 a6_ h6 n0 Z0) hZ (hw _ (List.mem_of_getElem? (i := 56) rfl)) (hw _ (List.mem_of_getElem? (i := 55) rfl)) (by decide) (by decide)) (g := (mkF m 21 #[.val (.ref a1), .val (.ref x1), .val (.ref x2), .val (.ref x3)] [(.ref a6_), (.ref x3)])) rfl (by rw [hml]; rfl) (argsL := [(.ref x3), (.ref a6_)]) (rest := []) (lenOf pd_5 rfl) rfl (by show 2 * 0 + _ ≤ _; exact Nat.le_of_eq rfl) (hb hby d8_21) (fun _ _ => ⟨rfl, e6, (by decide : 6 + 0 ≤ _), (by decide : 92 + 0 ≤ _)⟩)
  dsimp only [Pt.U, Pt.locs, Pt.cells, Pt.slots] at X7 l7 y7 z7 st7 hQ7
  subst l7 y7 z7
  obtain ⟨rfl, N7q, e7⟩ := hQ7
  have N7 := Fr.app N5 N7q
  refine GoH.st (T' := T7) (pc' := 24) (L' := #[.val (.ref a1), .val (.ref x1), .val (.ref x2), .val (.ref x3)]) (S' := [(.ref x3)]) st7 ?_
  refine GoH.st (T' := T7) (pc' := 25) (L' := #[.val (.ref a1), .val (.ref x1), .val (.ref x2), .val (.ref x3)]) (S' := []) (fun t_ k_ => XS.pop X7.here hx rfl (hb hby d8_24) rfl rfl k_) ?_
  refine GoH.st (T' := T7) (pc' := 26) (L' := #[.val (.ref a1), .val (.ref x1), .val (.ref x2), .val (.ref x3)]) (S' := [(.ref a1)]) (fun t_ k_ => XS.aloadN X7.here hx rfl (hb hby d8_25) rfl rfl  k_) ?_
  refine GoH.st (T' := T7) (pc' := 27) (L' := #[.val (.ref a1), .val (.ref x1), .val (.ref x2), .val (.ref x3)]) (S' := [(.ref x1), (.ref a1)]) (fun t_ k_ => XS.aloadN X7.here hx rfl (hb hby d8_26) rfl rfl  k_) ?_
  obtain ⟨T8, h8, X8, e8, W8, st8⟩ := putF X7 hx hZ hown (host := "") (Or.inl (hw _ (List.mem_of_getElem? (i := 59) rfl))) Via.refl e7 F_id E_a1 (Or.inr ⟨(hw _ (List.mem_of_getElem? (i := 60) rfl)), rfl, hnm⟩) (hw _ (List.mem_of_getElem? (i := 38) rfl)) (ty := (.object "java/lang/String")) (by decide) rfl rfl (g := (mkF m 27 #[.val (.ref a1), .val (.ref x1), .val (.ref x2), .val (.ref x3)] [(.ref x1), (.ref a1)])) rfl rfl (hb hby d8_27)
  have Sw9 : Safe Z EL T6.vm h6 a1 := (Safe.exa hZ.alike E_a1 (by decide) (by decide))
  replace CR := CR.trans (CHr.wr W8 Sw9 CR.1)
  replace hk := Nat.le_trans hk (Keep.of_wr W8).1
  replace Z0 := Nat.le_trans Z0 (Keep.of_wr W8).1
  replace K0 := K0.wr W8 (Or.inl (List.mem_of_getElem? (i := 0) rfl))
  replace E_a1 := E_a1.wr W8
  replace F_summary := F_summary.other W8 (Or.inr (slot_ne (Or.inr (hw _ (List.mem_of_getElem? (i := 62) rfl))) (Or.inr (hw _ (List.mem_of_getElem? (i := 60) rfl))) (by decide) (t := (.object "java/lang/String")) (t' := (.object "java/lang/String")) (by decide) (by decide)))
  replace F_description := F_description.other W8 (Or.inr (slot_ne (Or.inr (hw _ (List.mem_of_getElem? (i := 64) rfl))) (Or.inr (hw _ (List.mem_of_getElem? (i := 60) rfl))) (by decide) (t := (.object "java/lang/String")) (t' := (.object "java/lang/String")) (by decide) (by decide)))
  replace F_id := F_id.same W8
  have N8 := Fr.snoc X8 N7 g_a1
  refine GoH.st (T' := T8) (pc' := 30) (L' := #[.val (.ref a1), .val (.ref x1), .val (.ref x2), .val (.ref x3)]) (S' := []) st8 ?_
  refine GoH.st (T' := T8) (pc' := 31) (L' := #[.val (.ref a1), .val (.ref x1), .val (.ref x2), .val (.ref x3)]) (S' := [(.ref a1)]) (fun t_ k_ => XS.aloadN X8.here hx rfl (hb hby d8_30) rfl rfl  k_) ?_
  refine GoH.st (T' := T8) (pc' := 32) (L' := #[.val (.ref a1), .val (.ref x1), .val (.ref x2), .val (.ref x3)]) (S' := [(.ref x2), (.ref a1)]) (fun t_ k_ => XS.aloadN X8.here hx rfl (hb hby d8_31) rfl rfl  k_) ?_
  obtain ⟨T10, h10, X10, e10, W10, st10⟩ := putF X8 hx hZ hown (host := "") (Or.inl (hw _ (List.mem_of_getElem? (i := 61) rfl))) Via.refl e8 F_summary E_a1 (Or.inr ⟨(hw _ (List.mem_of_getElem? (i := 62) rfl)), rfl, hnm⟩) (hw _ (List.mem_of_getElem? (i := 38) rfl)) (ty := (.object "java/lang/String")) (by decide) rfl rfl (g := (mkF m 32 #[.val (.ref a1), .val (.ref x1), .val (.ref x2), .val (.ref x3)] [(.ref x2), (.ref a1)])) rfl rfl (hb hby d8_32)
  have Sw11 : Safe Z EL T6.vm h8 a1 := (Safe.exa hZ.alike E_a1 (by decide) (by decide))
  replace CR := CR.trans (CHr.wr W10 Sw11 CR.1)
  replace hk := Nat.le_trans hk (Keep.of_wr W10).1
  replace Z0 := Nat.le_trans Z0 (Keep.of_wr W10).1
  replace K0 := K0.wr W10 (Or.inl (List.mem_of_getElem? (i := 0) rfl))
  replace E_a1 := E_a1.wr W10
  replace F_id := F_id.other W10 (Or.inr (slot_ne (Or.inr (hw _ (List.mem_of_getElem? (i := 60) rfl))) (Or.inr (hw _ (List.mem_of_getElem? (i := 62) rfl))) (by decide) (t := (.object "java/lang/String")) (t' := (.object "java/lang/String")) (by decide) (by decide)))
  replace F_description := F_description.other W10 (Or.inr (slot_ne (Or.inr (hw _ (List.mem_of_getElem? (i := 64) rfl))) (Or.inr (hw _ (List.mem_of_getElem? (i := 62) rfl))) (by decide) (t := (.object "java/lang/String")) (t' := (.object "java/lang/String")) (by decide) (by decide)))
  replace F_summary := F_summary.same W10
  have N10 := Fr.snoc X10 N8 g_a1
  refine GoH.st (T' := T10) (pc' := 35) (L' := #[.val (.ref a1), .val (.ref x1), .val (.ref x2), .val (.ref x3)]) (S' := []) st10 ?_
  refine GoH.st (T' := T10) (pc' := 36) (L' := #[.val (.ref a1), .val (.ref x1), .val (.ref x2), .val (.ref x3)]) (S' := [(.ref a1)]) (fun t_ k_ => XS.aloadN X10.here hx rfl (hb hby d8_35) rfl rfl  k_) ?_
  refine GoH.st (T' := T10) (pc' := 37) (L' := #[.val (.ref a1), .val (.ref x1), .val (.ref x2), .val (.ref x3)]) (S' := [(.ref x3), (.ref a1)]) (fun t_ k_ => XS.aloadN X10.here hx rfl (hb hby d8_36) rfl rfl  k_) ?_
  obtain ⟨T12, h12, X12, e12, W12, st12⟩ := putF X10 hx hZ hown (host := "") (Or.inl (hw _ (List.mem_of_getElem? (i := 63) rfl))) Via.refl e10 F_description E_a1 (Or.inr ⟨(hw _ (List.mem_of_getElem? (i := 64) rfl)), rfl, hnm⟩) (hw _ (List.mem_of_getElem? (i := 38) rfl)) (ty := (.object "java/lang/String")) (by decide) rfl rfl (g := (mkF m 37 #[.val (.ref a1), .val (.ref x1), .val (.ref x2), .val (.ref x3)] [(.ref x3), (.ref a1)])) rfl rfl (hb hby d8_37)
  have Sw13 : Safe Z EL T6.vm h10 a1 := (Safe.exa hZ.alike E_a1 (by decide) (by decide))
  replace CR := CR.trans (CHr.wr W12 Sw13 CR.1)
  replace hk := Nat.le_trans hk (Keep.of_wr W12).1
  replace Z0 := Nat.le_trans Z0 (Keep.of_wr W12).1
  replace K0 := K0.wr W12 (Or.inl (List.mem_of_getElem? (i := 0) rfl))
  replace E_a1 := E_a1.wr W12
  replace F_id := F_id.other W12 (Or.inr (slot_ne (Or.inr (hw _ (List.mem_of_getElem? (i := 60) rfl))) (Or.inr (hw _ (List.mem_of_getElem? (i := 64) rfl))) (by decide) (t := (.object "java/lang/String")) (t' := (.object "java/lang/String")) (by decide) (by decide)))
  replace F_summary := F_summary.other W12 (Or.inr (slot_ne (Or.inr (hw _ (List.mem_of_getElem? (i := 62) rfl))) (Or.inr (hw _ (List.mem_of_getElem? (i := 64) rfl))) (by decide) (t := (.object "java/lang/String")) (t' := (.object "java/lang/String")) (by decide) (by decide)))
  replace F_description := F_description.same W12
  have N12 := Fr.snoc X12 N10 g_a1
  refine GoH.st (T' := T12) (pc' := 40) (L' := #[.val (.ref a1), .val (.ref x1), .val (.ref x2), .val (.ref x3)]) (S' := []) st12 ?_
  exact GoH.retV X12 hx hlk hret (hb hby d8_40) (by decide) (by decide) hS hk e12 hs0 hZ (own_EW hw) CR (by rw [e12]; exact ⟨rfl, N12, K0, F_id, F_summary, F_description⟩)
theorem d11_0 : decode prog_51_method_1_code 0 = .ok (.aload_n 0, 1) := by decide +kernel
theorem d11_1 : decode prog_51_method_1_code 1 = .ok (.invokespecial 1, 3) := by decide +kernel
theorem d11_4 : decode prog_51_method_1_code 4 = .ok (.aload_n 1, 1) := by decide +kernel
theorem d11_5 : decode prog_51_method_1_code 5 = .ok (.ldc 7, 2) := by decide +kernel
theorem d11_7 : decode prog_51_method_1_code 7 = .ok (.invokestatic 9, 3) := by decide +kernel
theorem d11_10 : decode prog_51_method_1_code 10 = .ok (.pop, 1) := by decide +kernel
theorem d11_11 : decode prog_51_method_1_code 11 = .ok (.aload_n 2, 1) := by decide +kernel
theorem d11_12 : decode prog_51_method_1_code 12 = .ok (.ldc 15, 2) := by decide +kernel
theorem d11_14 : decode prog_51_method_1_code 14 = .ok (.invokestatic 9, 3) := by decide +kernel
theorem d11_17 : decode prog_51_method_1_code 17 = .ok (.pop, 1) := by decide +kernel
theorem d11_18 : decode prog_51_method_1_code 18 = .ok (.aload_n 3, 1) := by decide +kernel
theorem d11_19 : decode prog_51_method_1_code 19 = .ok (.ldc 17, 2) := by decide +kernel
theorem d11_21 : decode prog_51_method_1_code 21 = .ok (.invokestatic 9, 3) := by decide +kernel
theorem d11_24 : decode prog_51_method_1_code 24 = .ok (.pop, 1) := by decide +kernel
theorem d11_25 : decode prog_51_method_1_code 25 = .ok (.aload_n 0, 1) := by decide +kernel
theorem d11_26 : decode prog_51_method_1_code 26 = .ok (.aload_n 1, 1) := by decide +kernel
theorem d11_27 : decode prog_51_method_1_code 27 = .ok (.putfield 19, 3) := by decide +kernel
theorem d11_30 : decode prog_51_method_1_code 30 = .ok (.aload_n 0, 1) := by decide +kernel
theorem d11_31 : decode prog_51_method_1_code 31 = .ok (.aload_n 2, 1) := by decide +kernel
theorem d11_32 : decode prog_51_method_1_code 32 = .ok (.putfield 24, 3) := by decide +kernel
theorem d11_35 : decode prog_51_method_1_code 35 = .ok (.aload_n 0, 1) := by decide +kernel
theorem d11_36 : decode prog_51_method_1_code 36 = .ok (.aload_n 3, 1) := by decide +kernel
theorem d11_37 : decode prog_51_method_1_code 37 = .ok (.putfield 26, 3) := by decide +kernel
theorem d11_40 : decode prog_51_method_1_code 40 = .ok (.aload_n 0, 1) := by decide +kernel
theorem d11_41 : decode prog_51_method_1_code 41 = .ok (.iload 4, 2) := by decide +kernel
theorem d11_43 : decode prog_51_method_1_code 43 = .ok (.putfield 28, 3) := by decide +kernel
theorem d11_46 : decode prog_51_method_1_code 46 = .ok (.return_, 1) := by decide +kernel
theorem pn_5 : plainName "org/concordat/report/Place" = true := by first | (simp [plainName, overriddenIn]; done) | decide +kernel
def Q11 (Z : State) (a1 : Addr) (x1 : Addr) (x2 : Addr) (x3 : Addr) (p4 : Int32) (h0 : Heap) (n0 : Nat) (v : Option Value) (h : Heap) (L : List Loc) : Prop := v = none ∧ Fr n0 L ∧ Keep h0 h [a1] ∧ Fld Z h a1 "org/concordat/report/Place" "className" "Ljava/lang/String;" (.ref x1) ∧ Fld Z h a1 "org/concordat/report/Place" "methodName" "Ljava/lang/String;" (.ref x2) ∧ Fld Z h a1 "org/concordat/report/Place" "file" "Ljava/lang/String;" (.ref x3) ∧ Fld Z h a1 "org/concordat/report/Place" "line" "I" (.int p4)
def room11 : Room := { frames := 2, cells := 6, slots := 104, locals := 24 }
set_option maxRecDepth 65536 in
set_option maxHeartbeats 40000000 in
theorem rm11 (l : Launch) (Z : State) (a0 : Array Value) (hw : ∀ d ∈ tables_1, d.before a0 Z = true) (ws : List Jvm.Cond) (a1 : Addr) (x1 : Addr) (x2 : Addr) (x3 : Addr) (p4 : Int32) (h0 : Heap) (n0 : Nat) (Z0 : n0 ≤ h0.size) (E_a1 : Exa Z h0 a1 "org/concordat/report/Place") (g_a1 : n0 ≤ a1) (F_className : Fld Z h0 a1 "org/concordat/report/Place" "className" "Ljava/lang/String;" .null) (F_methodName : Fld Z h0 a1 "org/concordat/report/Place" "methodName" "Ljava/lang/String;" .null) (F_file : Fld Z h0 a1 "org/concordat/report/Place" "file" "Ljava/lang/String;" .null) (F_line : Fld Z h0 a1 "org/concordat/report/Place" "line" "I" (.int (0 : Int32))) :
    MetFree l (⟨"org/concordat/report/Place", "<init>", "(Ljava/lang/String;Ljava/lang/String;Ljava/lang/String;I)V"⟩ : MethodName) (head1 (Jvm.Cond.code (⟨"org/concordat/report/Place", "<init>", "(Ljava/lang/String;Ljava/lang/String;Ljava/lang/String;I)V"⟩ : MethodName) prog_51_method_1_code 5 none :: ws) room11) (fun aa_ U_ => aa_ = #[(.ref a1), (.ref x1), (.ref x2), (.ref x3), (.int p4)] ∧ Z.Warmed39 U_.vm ∧ U_.heap = h0 ∧ CHv Z EL U_.vm h0) (fun _ _ _ _ _ => True) (fun _ U_ o_ W_ => ∃ v_ L_, o_ = .returned v_ ∧ (Q11 Z a1 x1 x2 x3 p4 h0 n0) v_ W_.heap L_ ∧ CHr Z EL U_.vm U_.heap W_.vm W_.heap ∧ ReturnedEndW U_ o_ W_ L_ room11.cells room11.slots) := by
  refine own_metH (Q := (Q11 Z a1 x1 x2 x3 p4 h0 n0)) (L0 := #[.val (.ref a1), .val (.ref x1), .val (.ref x2), .val (.ref x3), .val (.int p4)]) (plainFor_of_name pn_5) (fun m => by first | (simp [entryFrame, mkF, argsToLocals, Value.category]; done) | rfl) ?_
  intro p e s m below meth c T0 X0 hx hby hml hown hnm hret hlk hZ e0 hs0 CR hS hk
  have N0 := Fr.nil n0
  have K0 := Keep.refl h0 [a1]
  refine GoH.st (T' := T0) (pc' := 1) (L' := #[.val (.ref a1), .val (.ref x1), .val (.ref x2), .val (.ref x3), .val (.int p4)]) (S' := [(.ref a1)]) (fun t_ k_ => XS.aloadN X0.here hx rfl (hb hby d11_0) rfl rfl  k_) ?_
  obtain ⟨_, _, ⟨T1, L1, k1, n1⟩, -, X1, ⟨Lc1, hQ1, l1, y1, z1⟩, st1⟩ := X0.specialBack hx (y := (⟨"java/lang/Record", "<init>", "()V"⟩ : MethodName)) rfl hown (mvT hZ (hw _ (List.mem_of_getElem? (i := 74) rfl))) (mvT hZ (hw _ (List.mem_of_getElem? (i := 47) rfl))) (mvT hZ (hw _ (List.mem_of_getElem? (i := 50) rfl))) (by decide) (backOf (W := 0) (rm9 l Z a0 hw [] a1 h0 n0 Z0) hZ (hw _ (List.mem_of_getElem? (i := 50) rfl)) (hw _ (List.mem_of_getElem? (i := 49) rfl)) (by decide) (by decide)) (g := (mkF m 1 #[.val (.ref a1), .val (.ref x1), .val (.ref x2), .val (.ref x3), .val (.int p4)] [(.ref a1)])) rfl (by rw [hml]; rfl) (Steps.refl _) (a := a1) (argsL := []) (rest := []) (lenOf pd_4 rfl) rfl (by show 2 * 0 + _ ≤ _; exact Nat.le_of_eq rfl) (hb hby d11_1) (fun _ _ => ⟨rfl, e0, (by decide : 0 + 0 ≤ _), (by decide : 0 + 0 ≤ _)⟩)
  dsimp only [Pt.U, Pt.locs, Pt.cells, Pt.slots] at X1 l1 y1 z1 st1 hQ1
  subst l1 y1 z1
  obtain ⟨rfl, N1q, e1⟩ := hQ1
  have N1 := Fr.app N0 N1q
  refine GoH.tr (T' := T1) (pc' := 4) (L' := #[.val (.ref a1), .val (.ref x1), .val (.ref x2), .val (.ref x3), .val (.int p4)]) (S' := []) st1 ?_
  refine GoH.st (T' := T1) (pc' := 5) (L' := #[.val (.ref a1), .val (.ref x1), .val (.ref x2), .val (.ref x3), .val (.int p4)]) (S' := [(.ref x1)]) (fun t_ k_ => XS.aloadN X1.here hx rfl (hb hby d11_4) rfl rfl  k_) ?_
  obtain ⟨a2_, T2, h2, k2, X2, e2, E2, hS2, hk2, hZ2, ho2, CR2, -, st2⟩ := ldcOH X1 hx hZ hown (hw _ (List.mem_of_getElem? (i := 75) rfl)) (own_wS hw) e1 hS hk (own_EW hw) CR.1 (g := (mkF m 5 #[.val (.ref a1), .val (.ref x1), .val (.ref x2), .val (.ref x3), .val (.int p4)] [(.ref x1)])) rfl (hb hby d11_5) (n := 36) (by decide) (by decide) (by decide) (by decide)
  replace CR := CR.trans CR2
  replace Z0 := Nat.le_trans Z0 E2.1
  replace K0 := K0.ext E2
  replace E_a1 := E_a1.ext E2
  replace F_className := F_className.ext E2
  replace F_methodName := F_methodName.ext E2
  replace F_file := F_file.ext E2
  replace F_line := F_line.ext E2
  replace hZ := hZ2
  replace hown := ho2
  replace hS := hS2
  replace hk := hk2
  refine GoH.st (T' := T2) (pc' := 7) (L' := #[.val (.ref a1), .val (.ref x1), .val (.ref x2), .val (.ref x3), .val (.int p4)]) (S' := [(.ref a2_), (.ref x1)]) st2 ?_
  obtain ⟨_, _, ⟨T3, L3, k3, n3⟩, -, X3, ⟨Lc3, hQ3, l3, y3, z3⟩, st3⟩ := Jvm.LawKit.callS X2 hx (y := (⟨"java/util/Objects", "requireNonNull", "(Ljava/lang/Object;Ljava/lang/String;)Ljava/lang/Object;"⟩ : MethodName)) hown (mvT hZ (hw _ (List.mem_of_getElem? (i := 76) rfl))) (mvT hZ (hw _ (List.mem_of_getElem? (i := 54) rfl))) (mvT hZ (hw _ (List.mem_of_getElem? (i := 55) rfl))) (mvT hZ (hw _ (List.mem_of_getElem? (i := 56) rfl))) (by decide) (backOf (W := 0) (rm10 l Z a0 hw [] x1 a2_ h2 n0 Z0) hZ (hw _ (List.mem_of_getElem? (i := 56) rfl)) (hw _ (List.mem_of_getElem? (i := 55) rfl)) (by decide) (by decide)) (g := (mkF m 7 #[.val (.ref a1), .val (.ref x1), .val (.ref x2), .val (.ref x3), .val (.int p4)] [(.ref a2_), (.ref x1)])) rfl (by rw [hml]; rfl) (argsL := [(.ref x1), (.ref a2_)]) (rest := []) (lenOf pd_5 rfl) rfl (by show 2 * 0 + _ ≤ _; exact Nat.le_of_eq rfl) (hb hby d11_7) (fun _ _ => ⟨rfl, e2, (by decide : 2 + 0 ≤ _), (by decide : 40 + 0 ≤ _)⟩)
  dsimp only [Pt.U, Pt.locs, Pt.cells, Pt.slots] at X3 l3 y3 z3 st3 hQ3
  subst l3 y3 z3
  obtain ⟨rfl, N3q, e3⟩ := hQ3
  have N3 := Fr.app N1 N3q
  refine GoH.st (T' := T3) (pc' := 10) (L' := #[.val (.ref a1), .val (.ref x1), .val (.ref x2), .val (.ref x3), .val (.int p4)]) (S' := [(.ref x1)]) st3 ?_
  refine GoH.st (T' := T3) (pc' := 11) (L' := #[.val (.ref a1), .val (.ref x1), .val (.ref x2), .val (.ref x3), .val (.int p4)]) (S' := []) (fun t_ k_ => XS.pop X3.here hx rfl (hb hby d11_10) rfl rfl k_) ?_
  refine GoH.st (T' := T3) (pc' := 12) (L' := #[.val (.ref a1), .val (.ref x1), .val (.ref x2), .val (.ref x3), .val (.int p4)]) (S' := [(.ref x2)]) (fun t_ k_ => XS.aloadN X3.here hx rfl (hb hby d11_11) rfl rfl  k_) ?_
  obtain ⟨a4_, T4, h4, k4, X4, e4, E4, hS4, hk4, hZ4, ho4, CR4, -, st4⟩ := ldcOH X3 hx hZ hown (hw _ (List.mem_of_getElem? (i := 77) rfl)) (own_wS hw) e3 hS hk (own_EW hw) CR.1 (g := (mkF m 12 #[.val (.ref a1), .val (.ref x1), .val (.ref x2), .val (.ref x3), .val (.int p4)] [(.ref x2)])) rfl (hb hby d11_12) (n := 40) (by decide) (by decide) (by decide) (by decide)
  replace CR := CR.trans CR4
  replace Z0 := Nat.le_trans Z0 E4.1
  replace K0 := K0.ext E4
  replace E_a1 := E_a1.ext E4
  replace F_className := F_className.ext E4
  replace F_methodName := F_methodName.ext E4
  replace F_file := F_file.ext E4
  replace F_line := F_line.ext E4
  replace hZ := hZ4
  replace hown := ho4
  replace hS := hS4
  replace hk := hk4
  refine GoH.st (T' := T4) (pc' := 14) (L' := #[.val (.ref a1), .val (.ref x1), .val (.ref x2), .val (.ref x3), .val (.int p4)]) (S' := [(.ref a4_), (.ref x2)]) st4 ?_
  obtain ⟨_, _, ⟨T5, L5, k5, n5⟩, -, X5, ⟨Lc5, hQ5, l5, y5, z5⟩, st5⟩ := Jvm.LawKit.callS X4 hx (y := (⟨"java/util/Objects", "requireNonNull", "(Ljava/lang/Object;Ljava/lang/String;)Ljava/lang/Object;"⟩ : MethodName)) hown (mvT hZ (hw _ (List.mem_of_getElem? (i := 76) rfl))) (mvT hZ (hw _ (List.mem_of_getElem? (i := 54) rfl))) (mvT hZ (hw _ (List.mem_of_getElem? (i := 55) rfl))) (mvT hZ (hw _ (List.mem_of_getElem? (i := 56) rfl))) (by decide) (backOf (W := 0) (rm10 l Z a0 hw [] x2 a4_ h4 n0 Z0) hZ (hw _ (List.mem_of_getElem? (i := 56) rfl)) (hw _ (List.mem_of_getElem? (i := 55) rfl)) (by decide) (by decide)) (g := (mkF m 14 #[.val (.ref a1), .val (.ref x1), .val (.ref x2), .val (.ref x3), .val (.int p4)] [(.ref a4_), (.ref x2)])) rfl (by rw [hml]; rfl) (argsL := [(.ref x2), (.ref a4_)]) (rest := []) (lenOf pd_5 rfl) rfl (by show 2 * 0 + _ ≤ _; exact Nat.le_of_eq rfl) (hb hby d11_14) (fun _ _ => ⟨rfl, e4, (by decide : 4 + 0 ≤ _), (by decide : 84 + 0 ≤ _)⟩)
  dsimp only [Pt.U, Pt.locs, Pt.cells, Pt.slots] at X5 l5 y5 z5 st5 hQ5
  subst l5 y5 z5
  obtain ⟨rfl, N5q, e5⟩ := hQ5
  have N5 := Fr.app N3 N5q
  refine GoH.st (T' := T5) (pc' := 17) (L' := #[.val (.ref a1), .val (.ref x1), .val (.ref x2), .val (.ref x3), .val (.int p4)]) (S' := [(.ref x2)]) st5 ?_
  refine GoH.st (T' := T5) (pc' := 18) (L' := #[.val (.ref a1), .val (.ref x1), .val (.ref x2), .val (.ref x3), .val (.int p4)]) (S' := []) (fun t_ k_ => XS.pop X5.here hx rfl (hb hby d11_17) rfl rfl k_) ?_
  refine GoH.st (T' := T5) (pc' := 19) (L' := #[.val (.ref a1), .val (.ref x1), .val (.ref x2), .val (.ref x3), .val (.int p4)]) (S' := [(.ref x3)]) (fun t_ k_ => XS.aloadN X5.here hx rfl (hb hby d11_18) rfl rfl  k_) ?_
  obtain ⟨a6_, T6, h6, k6, X6, e6, E6, hS6, hk6, hZ6, ho6, CR6, -, st6⟩ := ldcOH X5 hx hZ hown (hw _ (List.mem_of_getElem? (i := 78) rfl)) (own_wS hw) e5 hS hk (own_EW hw) CR.1 (g := (mkF m 19 #[.val (.ref a1), .val (.ref x1), .val (.ref x2), .val (.ref x3), .val (.int p4)] [(.ref x3)])) rfl (hb hby d11_19) (n := 16) (by decide) (by decide) (by decide) (by decide)
  replace CR := CR.trans CR6
  replace Z0 := Nat.le_trans Z0 E6.1
  replace K0 := K0.ext E6
  replace E_a1 := E_a1.ext E6
  replace F_className := F_className.ext E6
  replace F_methodName := F_methodName.ext E6
  replace F_file := F_file.ext E6
  replace F_line := F_line.ext E6
  replace hZ := hZ6
  replace hown := ho6
  replace hS := hS6
  replace hk := hk6
  refine GoH.st (T' := T6) (pc' := 21) (L' := #[.val (.ref a1), .val (.ref x1), .val (.ref x2), .val (.ref x3), .val (.int p4)]) (S' := [(.ref a6_), (.ref x3)]) st6 ?_
  obtain ⟨_, _, ⟨T7, L7, k7, n7⟩, -, X7, ⟨Lc7, hQ7, l7, y7, z7⟩, st7⟩ := Jvm.LawKit.callS X6 hx (y := (⟨"java/util/Objects", "requireNonNull", "(Ljava/lang/Object;Ljava/lang/String;)Ljava/lang/Object;"⟩ : MethodName)) hown (mvT hZ (hw _ (List.mem_of_getElem? (i := 76) rfl))) (mvT hZ (hw _ (List.mem_of_getElem? (i := 54) rfl))) (mvT hZ (hw _ (List.mem_of_getElem? (i := 55) rfl))) (mvT hZ (hw _ (List.mem_of_getElem? (i := 56) rfl))) (by decide) (backOf (W := 0) (rm10 l Z a0 hw [] x3 a6_ h6 n0 Z0) hZ (hw _ (List.mem_of_getElem? (i := 56) rfl)) (hw _ (List.mem_of_getElem? (i := 55) rfl)) (by decide) (by decide)) (g := (mkF m 21 #[.val (.ref a1), .val (.ref x1), .val (.ref x2), .val (.ref x3), .val (.int p4)] [(.ref a6_), (.ref x3)])) rfl (by rw [hml]; rfl) (argsL := [(.ref x3), (.ref a6_)]) (rest := []) (lenOf pd_5 rfl) rfl (by show 2 * 0 + _ ≤ _; exact Nat.le_of_eq rfl) (hb hby d11_21) (fun _ _ => ⟨rfl, e6, (by decide : 6 + 0 ≤ _), (by decide : 104 + 0 ≤ _)⟩)
  dsimp only [Pt.U, Pt.locs, Pt.cells, Pt.slots] at X7 l7 y7 z7 st7 hQ7
  subst l7 y7 z7
  obtain ⟨rfl, N7q, e7⟩ := hQ7
  have N7 := Fr.app N5 N7q
  refine GoH.st (T' := T7) (pc' := 24) (L' := #[.val (.ref a1), .val (.ref x1), .val (.ref x2), .val (.ref x3), .val (.int p4)]) (S' := [(.ref x3)]) st7 ?_
  refine GoH.st (T' := T7) (pc' := 25) (L' := #[.val (.ref a1), .val (.ref x1), .val (.ref x2), .val (.ref x3), .val (.int p4)]) (S' := []) (fun t_ k_ => XS.pop X7.here hx rfl (hb hby d11_24) rfl rfl k_) ?_
  refine GoH.st (T' := T7) (pc' := 26) (L' := #[.val (.ref a1), .val (.ref x1), .val (.ref x2), .val (.ref x3), .val (.int p4)]) (S' := [(.ref a1)]) (fun t_ k_ => XS.aloadN X7.here hx rfl (hb hby d11_25) rfl rfl  k_) ?_
  refine GoH.st (T' := T7) (pc' := 27) (L' := #[.val (.ref a1), .val (.ref x1), .val (.ref x2), .val (.ref x3), .val (.int p4)]) (S' := [(.ref x1), (.ref a1)]) (fun t_ k_ => XS.aloadN X7.here hx rfl (hb hby d11_26) rfl rfl  k_) ?_
  obtain ⟨T8, h8, X8, e8, W8, st8⟩ := putF X7 hx hZ hown (host := "") (Or.inl (hw _ (List.mem_of_getElem? (i := 79) rfl))) Via.refl e7 F_className E_a1 (Or.inr ⟨(hw _ (List.mem_of_getElem? (i := 80) rfl)), rfl, hnm⟩) (hw _ (List.mem_of_getElem? (i := 66) rfl)) (ty := (.object "java/lang/String")) (by decide) rfl rfl (g := (mkF m 27 #[.val (.ref a1), .val (.ref x1), .val (.ref x2), .val (.ref x3), .val (.int p4)] [(.ref x1), (.ref a1)])) rfl rfl (hb hby d11_27)
  have Sw9 : Safe Z EL T6.vm h6 a1 := (Safe.exa hZ.alike E_a1 (by decide) (by decide))
  replace CR := CR.trans (CHr.wr W8 Sw9 CR.1)
  replace hk := Nat.le_trans hk (Keep.of_wr W8).1
  replace Z0 := Nat.le_trans Z0 (Keep.of_wr W8).1
  replace K0 := K0.wr W8 (Or.inl (List.mem_of_getElem? (i := 0) rfl))
  replace E_a1 := E_a1.wr W8
  replace F_methodName := F_methodName.other W8 (Or.inr (slot_ne (Or.inr (hw _ (List.mem_of_getElem? (i := 82) rfl))) (Or.inr (hw _ (List.mem_of_getElem? (i := 80) rfl))) (by decide) (t := (.object "java/lang/String")) (t' := (.object "java/lang/String")) (by decide) (by decide)))
  replace F_file := F_file.other W8 (Or.inr (slot_ne (Or.inr (hw _ (List.mem_of_getElem? (i := 84) rfl))) (Or.inr (hw _ (List.mem_of_getElem? (i := 80) rfl))) (by decide) (t := (.object "java/lang/String")) (t' := (.object "java/lang/String")) (by decide) (by decide)))
  replace F_line := F_line.other W8 (Or.inr (slot_ne (Or.inr (hw _ (List.mem_of_getElem? (i := 86) rfl))) (Or.inr (hw _ (List.mem_of_getElem? (i := 80) rfl))) (by decide) (t := .int) (t' := (.object "java/lang/String")) (by decide) (by decide)))
  replace F_className := F_className.same W8
  have N8 := Fr.snoc X8 N7 g_a1
  refine GoH.st (T' := T8) (pc' := 30) (L' := #[.val (.ref a1), .val (.ref x1), .val (.ref x2), .val (.ref x3), .val (.int p4)]) (S' := []) st8 ?_
  refine GoH.st (T' := T8) (pc' := 31) (L' := #[.val (.ref a1), .val (.ref x1), .val (.ref x2), .val (.ref x3), .val (.int p4)]) (S' := [(.ref a1)]) (fun t_ k_ => XS.aloadN X8.here hx rfl (hb hby d11_30) rfl rfl  k_) ?_
  refine GoH.st (T' := T8) (pc' := 32) (L' := #[.val (.ref a1), .val (.ref x1), .val (.ref x2), .val (.ref x3), .val (.int p4)]) (S' := [(.ref x2), (.ref a1)]) (fun t_ k_ => XS.aloadN X8.here hx rfl (hb hby d11_31) rfl rfl  k_) ?_
  obtain ⟨T10, h10, X10, e10, W10, st10⟩ := putF X8 hx hZ hown (host := "") (Or.inl (hw _ (List.mem_of_getElem? (i := 81) rfl))) Via.refl e8 F_methodName E_a1 (Or.inr ⟨(hw _ (List.mem_of_getElem? (i := 82) rfl)), rfl, hnm⟩) (hw _ (List.mem_of_getElem? (i := 66) rfl)) (ty := (.object "java/lang/String")) (by decide) rfl rfl (g := (mkF m 32 #[.val (.ref a1), .val (.ref x1), .val (.ref x2), .val (.ref x3), .val (.int p4)] [(.ref x2), (.ref a1)])) rfl rfl (hb hby d11_32)
  have Sw11 : Safe Z EL T6.vm h8 a1 := (Safe.exa hZ.alike E_a1 (by decide) (by decide))
  replace CR := CR.trans (CHr.wr W10 Sw11 CR.1)
  replace hk := Nat.le_trans hk (Keep.of_wr W10).1
  replace Z0 := Nat.le_trans Z0 (Keep.of_wr W10).1
  replace K0 := K0.wr W10 (Or.inl (List.mem_of_getElem? (i := 0) rfl))
  replace E_a1 := E_a1.wr W10
  replace F_className := F_className.other W10 (Or.inr (slot_ne (Or.inr (hw _ (List.mem_of_getElem? (i := 80) rfl))) (Or.inr (hw _ (List.mem_of_getElem? (i := 82) rfl))) (by decide) (t := (.object "java/lang/String")) (t' := (.object "java/lang/String")) (by decide) (by decide)))
  replace F_file := F_file.other W10 (Or.inr (slot_ne (Or.inr (hw _ (List.mem_of_getElem? (i := 84) rfl))) (Or.inr (hw _ (List.mem_of_getElem? (i := 82) rfl))) (by decide) (t := (.object "java/lang/String")) (t' := (.object "java/lang/String")) (by decide) (by decide)))
  replace F_line := F_line.other W10 (Or.inr (slot_ne (Or.inr (hw _ (List.mem_of_getElem? (i := 86) rfl))) (Or.inr (hw _ (List.mem_of_getElem? (i := 82) rfl))) (by decide) (t := .int) (t' := (.object "java/lang/String")) (by decide) (by decide)))
  replace F_methodName := F_methodName.same W10
  have N10 := Fr.snoc X10 N8 g_a1
  refine GoH.st (T' := T10) (pc' := 35) (L' := #[.val (.ref a1), .val (.ref x1), .val (.ref x2), .val (.ref x3), .val (.int p4)]) (S' := []) st10 ?_
  refine GoH.st (T' := T10) (pc' := 36) (L' := #[.val (.ref a1), .val (.ref x1), .val (.ref x2), .val (.ref x3), .val (.int p4)]) (S' := [(.ref a1)]) (fun t_ k_ => XS.aloadN X10.here hx rfl (hb hby d11_35) rfl rfl  k_) ?_
  refine GoH.st (T' := T10) (pc' := 37) (L' := #[.val (.ref a1), .val (.ref x1), .val (.ref x2), .val (.ref x3), .val (.int p4)]) (S' := [(.ref x3), (.ref a1)]) (fun t_ k_ => XS.aloadN X10.here hx rfl (hb hby d11_36) rfl rfl  k_) ?_
  obtain ⟨T12, h12, X12, e12, W12, st12⟩ := putF X10 hx hZ hown (host := "") (Or.inl (hw _ (List.mem_of_getElem? (i := 83) rfl))) Via.refl e10 F_file E_a1 (Or.inr ⟨(hw _ (List.mem_of_getElem? (i := 84) rfl)), rfl, hnm⟩) (hw _ (List.mem_of_getElem? (i := 66) rfl)) (ty := (.object "java/lang/String")) (by decide) rfl rfl (g := (mkF m 37 #[.val (.ref a1), .val (.ref x1), .val (.ref x2), .val (.ref x3), .val (.int p4)] [(.ref x3), (.ref a1)])) rfl rfl (hb hby d11_37)
  have Sw13 : Safe Z EL T6.vm h10 a1 := (Safe.exa hZ.alike E_a1 (by decide) (by decide))
  replace CR := CR.trans (CHr.wr W12 Sw13 CR.1)
  replace hk := Nat.le_trans hk (Keep.of_wr W12).1
  replace Z0 := Nat.le_trans Z0 (Keep.of_wr W12).1
  replace K0 := K0.wr W12 (Or.inl (List.mem_of_getElem? (i := 0) rfl))
  replace E_a1 := E_a1.wr W12
  replace F_className := F_className.other W12 (Or.inr (slot_ne (Or.inr (hw _ (List.mem_of_getElem? (i := 80) rfl))) (Or.inr (hw _ (List.mem_of_getElem? (i := 84) rfl))) (by decide) (t := (.object "java/lang/String")) (t' := (.object "java/lang/String")) (by decide) (by decide)))
  replace F_methodName := F_methodName.other W12 (Or.inr (slot_ne (Or.inr (hw _ (List.mem_of_getElem? (i := 82) rfl))) (Or.inr (hw _ (List.mem_of_getElem? (i := 84) rfl))) (by decide) (t := (.object "java/lang/String")) (t' := (.object "java/lang/String")) (by decide) (by decide)))
  replace F_line := F_line.other W12 (Or.inr (slot_ne (Or.inr (hw _ (List.mem_of_getElem? (i := 86) rfl))) (Or.inr (hw _ (List.mem_of_getElem? (i := 84) rfl))) (by decide) (t := .int) (t' := (.object "java/lang/String")) (by decide) (by decide)))
  replace F_file := F_file.same W12
  have N12 := Fr.snoc X12 N10 g_a1
  refine GoH.st (T' := T12) (pc' := 40) (L' := #[.val (.ref a1), .val (.ref x1), .val (.ref x2), .val (.ref x3), .val (.int p4)]) (S' := []) st12 ?_
  refine GoH.st (T' := T12) (pc' := 41) (L' := #[.val (.ref a1), .val (.ref x1), .val (.ref x2), .val (.ref x3), .val (.int p4)]) (S' := [(.ref a1)]) (fun t_ k_ => XS.aloadN X12.here hx rfl (hb hby d11_40) rfl rfl  k_) ?_
  refine GoH.st (T' := T12) (pc' := 43) (L' := #[.val (.ref a1), .val (.ref x1), .val (.ref x2), .val (.ref x3), .val (.int p4)]) (S' := [(.int p4), (.ref a1)]) (fun t_ k_ => XS.iload X12.here hx rfl (hb hby d11_41) rfl  k_) ?_
  obtain ⟨T14, h14, X14, e14, W14, st14⟩ := putF X12 hx hZ hown (host := "") (Or.inl (hw _ (List.mem_of_getElem? (i := 85) rfl))) Via.refl e12 F_line E_a1 (Or.inr ⟨(hw _ (List.mem_of_getElem? (i := 86) rfl)), rfl, hnm⟩) (hw _ (List.mem_of_getElem? (i := 66) rfl)) (ty := .int) (by decide) rfl rfl (g := (mkF m 43 #[.val (.ref a1), .val (.ref x1), .val (.ref x2), .val (.ref x3), .val (.int p4)] [(.int p4), (.ref a1)])) rfl rfl (hb hby d11_43)
  have Sw15 : Safe Z EL T6.vm h12 a1 := (Safe.exa hZ.alike E_a1 (by decide) (by decide))
  replace CR := CR.trans (CHr.wr W14 Sw15 CR.1)
  replace hk := Nat.le_trans hk (Keep.of_wr W14).1
  replace Z0 := Nat.le_trans Z0 (Keep.of_wr W14).1
  replace K0 := K0.wr W14 (Or.inl (List.mem_of_getElem? (i := 0) rfl))
  replace E_a1 := E_a1.wr W14
  replace F_className := F_className.other W14 (Or.inr (slot_ne (Or.inr (hw _ (List.mem_of_getElem? (i := 80) rfl))) (Or.inr (hw _ (List.mem_of_getElem? (i := 86) rfl))) (by decide) (t := (.object "java/lang/String")) (t' := .int) (by decide) (by decide)))
  replace F_methodName := F_methodName.other W14 (Or.inr (slot_ne (Or.inr (hw _ (List.mem_of_getElem? (i := 82) rfl))) (Or.inr (hw _ (List.mem_of_getElem? (i := 86) rfl))) (by decide) (t := (.object "java/lang/String")) (t' := .int) (by decide) (by decide)))
  replace F_file := F_file.other W14 (Or.inr (slot_ne (Or.inr (hw _ (List.mem_of_getElem? (i := 84) rfl))) (Or.inr (hw _ (List.mem_of_getElem? (i := 86) rfl))) (by decide) (t := (.object "java/lang/String")) (t' := .int) (by decide) (by decide)))
  replace F_line := F_line.same W14
  have N14 := Fr.snoc X14 N12 g_a1
  refine GoH.st (T' := T14) (pc' := 46) (L' := #[.val (.ref a1), .val (.ref x1), .val (.ref x2), .val (.ref x3), .val (.int p4)]) (S' := []) st14 ?_
  exact GoH.retV X14 hx hlk hret (hb hby d11_46) (by decide) (by decide) hS hk e14 hs0 hZ (own_EW hw) CR (by rw [e14]; exact ⟨rfl, N14, K0, F_className, F_methodName, F_file, F_line⟩)
theorem d12_0 : decode prog_38_method_1_code 0 = .ok (.aload_n 0, 1) := by decide +kernel
theorem d12_1 : decode prog_38_method_1_code 1 = .ok (.invokespecial 1, 3) := by decide +kernel
theorem d12_4 : decode prog_38_method_1_code 4 = .ok (.aload_n 1, 1) := by decide +kernel
theorem d12_5 : decode prog_38_method_1_code 5 = .ok (.ldc 7, 2) := by decide +kernel
theorem d12_7 : decode prog_38_method_1_code 7 = .ok (.invokestatic 9, 3) := by decide +kernel
theorem d12_10 : decode prog_38_method_1_code 10 = .ok (.pop, 1) := by decide +kernel
theorem d12_11 : decode prog_38_method_1_code 11 = .ok (.aload_n 2, 1) := by decide +kernel
theorem d12_12 : decode prog_38_method_1_code 12 = .ok (.ldc 15, 2) := by decide +kernel
theorem d12_14 : decode prog_38_method_1_code 14 = .ok (.invokestatic 9, 3) := by decide +kernel
theorem d12_17 : decode prog_38_method_1_code 17 = .ok (.pop, 1) := by decide +kernel
theorem d12_18 : decode prog_38_method_1_code 18 = .ok (.aload_n 3, 1) := by decide +kernel
theorem d12_19 : decode prog_38_method_1_code 19 = .ok (.ldc 17, 2) := by decide +kernel
theorem d12_21 : decode prog_38_method_1_code 21 = .ok (.invokestatic 9, 3) := by decide +kernel
theorem d12_24 : decode prog_38_method_1_code 24 = .ok (.pop, 1) := by decide +kernel
theorem d12_25 : decode prog_38_method_1_code 25 = .ok (.aload 4, 2) := by decide +kernel
theorem d12_27 : decode prog_38_method_1_code 27 = .ok (.ldc 19, 2) := by decide +kernel
theorem d12_29 : decode prog_38_method_1_code 29 = .ok (.invokestatic 9, 3) := by decide +kernel
theorem d12_32 : decode prog_38_method_1_code 32 = .ok (.pop, 1) := by decide +kernel
theorem d12_33 : decode prog_38_method_1_code 33 = .ok (.aload 5, 2) := by decide +kernel
theorem d12_35 : decode prog_38_method_1_code 35 = .ok (.ldc 21, 2) := by decide +kernel
theorem d12_37 : decode prog_38_method_1_code 37 = .ok (.invokestatic 9, 3) := by decide +kernel
theorem d12_40 : decode prog_38_method_1_code 40 = .ok (.pop, 1) := by decide +kernel
theorem d12_41 : decode prog_38_method_1_code 41 = .ok (.aload 6, 2) := by decide +kernel
theorem d12_43 : decode prog_38_method_1_code 43 = .ok (.ldc 23, 2) := by decide +kernel
theorem d12_45 : decode prog_38_method_1_code 45 = .ok (.invokestatic 9, 3) := by decide +kernel
theorem d12_48 : decode prog_38_method_1_code 48 = .ok (.pop, 1) := by decide +kernel
theorem d12_49 : decode prog_38_method_1_code 49 = .ok (.aload_n 0, 1) := by decide +kernel
theorem d12_50 : decode prog_38_method_1_code 50 = .ok (.aload_n 1, 1) := by decide +kernel
theorem d12_51 : decode prog_38_method_1_code 51 = .ok (.putfield 25, 3) := by decide +kernel
theorem d12_54 : decode prog_38_method_1_code 54 = .ok (.aload_n 0, 1) := by decide +kernel
theorem d12_55 : decode prog_38_method_1_code 55 = .ok (.aload_n 2, 1) := by decide +kernel
theorem d12_56 : decode prog_38_method_1_code 56 = .ok (.putfield 30, 3) := by decide +kernel
theorem d12_59 : decode prog_38_method_1_code 59 = .ok (.aload_n 0, 1) := by decide +kernel
theorem d12_60 : decode prog_38_method_1_code 60 = .ok (.aload_n 3, 1) := by decide +kernel
theorem d12_61 : decode prog_38_method_1_code 61 = .ok (.putfield 33, 3) := by decide +kernel
theorem d12_64 : decode prog_38_method_1_code 64 = .ok (.aload_n 0, 1) := by decide +kernel
theorem d12_65 : decode prog_38_method_1_code 65 = .ok (.aload 4, 2) := by decide +kernel
theorem d12_67 : decode prog_38_method_1_code 67 = .ok (.putfield 35, 3) := by decide +kernel
theorem d12_70 : decode prog_38_method_1_code 70 = .ok (.aload_n 0, 1) := by decide +kernel
theorem d12_71 : decode prog_38_method_1_code 71 = .ok (.aload 5, 2) := by decide +kernel
theorem d12_73 : decode prog_38_method_1_code 73 = .ok (.putfield 37, 3) := by decide +kernel
theorem d12_76 : decode prog_38_method_1_code 76 = .ok (.aload_n 0, 1) := by decide +kernel
theorem d12_77 : decode prog_38_method_1_code 77 = .ok (.aload 6, 2) := by decide +kernel
theorem d12_79 : decode prog_38_method_1_code 79 = .ok (.putfield 40, 3) := by decide +kernel
theorem d12_82 : decode prog_38_method_1_code 82 = .ok (.return_, 1) := by decide +kernel
theorem pn_6 : plainName "org/concordat/report/AtomicityViolation" = true := by first | (simp [plainName, overriddenIn]; done) | decide +kernel
def Q12 (Z : State) (a1 : Addr) (x1 : Addr) (x2 : Addr) (x3 : Addr) (x4 : Addr) (x5 : Addr) (x6 : Addr) (h0 : Heap) (n0 : Nat) (v : Option Value) (h : Heap) (L : List Loc) : Prop := v = none ∧ Fr n0 L ∧ Keep h0 h [a1] ∧ Fld Z h a1 "org/concordat/report/AtomicityViolation" "rule" "Lorg/concordat/report/Rule;" (.ref x1) ∧ Fld Z h a1 "org/concordat/report/AtomicityViolation" "subject" "Ljava/lang/String;" (.ref x2) ∧ Fld Z h a1 "org/concordat/report/AtomicityViolation" "context" "Ljava/lang/String;" (.ref x3) ∧ Fld Z h a1 "org/concordat/report/AtomicityViolation" "witness" "Ljava/lang/String;" (.ref x4) ∧ Fld Z h a1 "org/concordat/report/AtomicityViolation" "first" "Lorg/concordat/report/Place;" (.ref x5) ∧ Fld Z h a1 "org/concordat/report/AtomicityViolation" "second" "Lorg/concordat/report/Place;" (.ref x6)
def room12 : Room := { frames := 2, cells := 12, slots := 168, locals := 24 }
set_option maxRecDepth 65536 in
set_option maxHeartbeats 40000000 in
theorem rm12 (l : Launch) (Z : State) (a0 : Array Value) (hw : ∀ d ∈ tables_1, d.before a0 Z = true) (ws : List Jvm.Cond) (a1 : Addr) (x1 : Addr) (x2 : Addr) (x3 : Addr) (x4 : Addr) (x5 : Addr) (x6 : Addr) (h0 : Heap) (n0 : Nat) (Z0 : n0 ≤ h0.size) (E_a1 : Exa Z h0 a1 "org/concordat/report/AtomicityViolation") (g_a1 : n0 ≤ a1) (F_rule : Fld Z h0 a1 "org/concordat/report/AtomicityViolation" "rule" "Lorg/concordat/report/Rule;" .null) (F_subject : Fld Z h0 a1 "org/concordat/report/AtomicityViolation" "subject" "Ljava/lang/String;" .null) (F_context : Fld Z h0 a1 "org/concordat/report/AtomicityViolation" "context" "Ljava/lang/String;" .null) (F_witness : Fld Z h0 a1 "org/concordat/report/AtomicityViolation" "witness" "Ljava/lang/String;" .null) (F_first : Fld Z h0 a1 "org/concordat/report/AtomicityViolation" "first" "Lorg/concordat/report/Place;" .null) (F_second : Fld Z h0 a1 "org/concordat/report/AtomicityViolation" "second" "Lorg/concordat/report/Place;" .null) :
    MetFree l (⟨"org/concordat/report/AtomicityViolation", "<init>", "(Lorg/concordat/report/Rule;Ljava/lang/String;Ljava/lang/String;Ljava/lang/String;Lorg/concordat/report/Place;Lorg/concordat/report/Place;)V"⟩ : MethodName) (head1 (Jvm.Cond.code (⟨"org/concordat/report/AtomicityViolation", "<init>", "(Lorg/concordat/report/Rule;Ljava/lang/String;Ljava/lang/String;Ljava/lang/String;Lorg/concordat/report/Place;Lorg/concordat/report/Place;)V"⟩ : MethodName) prog_38_method_1_code 7 none :: ws) room12) (fun aa_ U_ => aa_ = #[(.ref a1), (.ref x1), (.ref x2), (.ref x3), (.ref x4), (.ref x5), (.ref x6)] ∧ Z.Warmed39 U_.vm ∧ U_.heap = h0 ∧ CHv Z EL U_.vm h0) (fun _ _ _ _ _ => True) (fun _ U_ o_ W_ => ∃ v_ L_, o_ = .returned v_ ∧ (Q12 Z a1 x1 x2 x3 x4 x5 x6 h0 n0) v_ W_.heap L_ ∧ CHr Z EL U_.vm U_.heap W_.vm W_.heap ∧ ReturnedEndW U_ o_ W_ L_ room12.cells room12.slots) := by
  refine own_metH (Q := (Q12 Z a1 x1 x2 x3 x4 x5 x6 h0 n0)) (L0 := #[.val (.ref a1), .val (.ref x1), .val (.ref x2), .val (.ref x3), .val (.ref x4), .val (.ref x5), .val (.ref x6)]) (plainFor_of_name pn_6) (fun m => by first | (simp [entryFrame, mkF, argsToLocals, Value.category]; done) | rfl) ?_
  intro p e s m below meth c T0 X0 hx hby hml hown hnm hret hlk hZ e0 hs0 CR hS hk
  have N0 := Fr.nil n0
  have K0 := Keep.refl h0 [a1]
  refine GoH.st (T' := T0) (pc' := 1) (L' := #[.val (.ref a1), .val (.ref x1), .val (.ref x2), .val (.ref x3), .val (.ref x4), .val (.ref x5), .val (.ref x6)]) (S' := [(.ref a1)]) (fun t_ k_ => XS.aloadN X0.here hx rfl (hb hby d12_0) rfl rfl  k_) ?_
  obtain ⟨_, _, ⟨T1, L1, k1, n1⟩, -, X1, ⟨Lc1, hQ1, l1, y1, z1⟩, st1⟩ := X0.specialBack hx (y := (⟨"java/lang/Record", "<init>", "()V"⟩ : MethodName)) rfl hown (mvT hZ (hw _ (List.mem_of_getElem? (i := 93) rfl))) (mvT hZ (hw _ (List.mem_of_getElem? (i := 47) rfl))) (mvT hZ (hw _ (List.mem_of_getElem? (i := 50) rfl))) (by decide) (backOf (W := 0) (rm9 l Z a0 hw [] a1 h0 n0 Z0) hZ (hw _ (List.mem_of_getElem? (i := 50) rfl)) (hw _ (List.mem_of_getElem? (i := 49) rfl)) (by decide) (by decide)) (g := (mkF m 1 #[.val (.ref a1), .val (.ref x1), .val (.ref x2), .val (.ref x3), .val (.ref x4), .val (.ref x5), .val (.ref x6)] [(.ref a1)])) rfl (by rw [hml]; rfl) (Steps.refl _) (a := a1) (argsL := []) (rest := []) (lenOf pd_4 rfl) rfl (by show 2 * 0 + _ ≤ _; exact Nat.le_of_eq rfl) (hb hby d12_1) (fun _ _ => ⟨rfl, e0, (by decide : 0 + 0 ≤ _), (by decide : 0 + 0 ≤ _)⟩)
  dsimp only [Pt.U, Pt.locs, Pt.cells, Pt.slots] at X1 l1 y1 z1 st1 hQ1
  subst l1 y1 z1
  obtain ⟨rfl, N1q, e1⟩ := hQ1
  have N1 := Fr.app N0 N1q
  refine GoH.tr (T' := T1) (pc' := 4) (L' := #[.val (.ref a1), .val (.ref x1), .val (.ref x2), .val (.ref x3), .val (.ref x4), .val (.ref x5), .val (.ref x6)]) (S' := []) st1 ?_
  refine GoH.st (T' := T1) (pc' := 5) (L' := #[.val (.ref a1), .val (.ref x1), .val (.ref x2), .val (.ref x3), .val (.ref x4), .val (.ref x5), .val (.ref x6)]) (S' := [(.ref x1)]) (fun t_ k_ => XS.aloadN X1.here hx rfl (hb hby d12_4) rfl rfl  k_) ?_
  obtain ⟨a2_, T2, h2, k2, X2, e2, E2, hS2, hk2, hZ2, ho2, CR2, -, st2⟩ := ldcOH X1 hx hZ hown (hw _ (List.mem_of_getElem? (i := 94) rfl)) (own_wS hw) e1 hS hk (own_EW hw) CR.1 (g := (mkF m 5 #[.val (.ref a1), .val (.ref x1), .val (.ref x2), .val (.ref x3), .val (.ref x4), .val (.ref x5), .val (.ref x6)] [(.ref x1)])) rfl (hb hby d12_5) (n := 16) (by decide) (by decide) (by decide) (by decide)
  replace CR := CR.trans CR2
  replace Z0 := Nat.le_trans Z0 E2.1
  replace K0 := K0.ext E2
  replace E_a1 := E_a1.ext E2
  replace F_rule := F_rule.ext E2
  replace F_subject := F_subject.ext E2
  replace F_context := F_context.ext E2
  replace F_witness := F_witness.ext E2
  replace F_first := F_first.ext E2
  replace F_second := F_second.ext E2
  replace hZ := hZ2
  replace hown := ho2
  replace hS := hS2
  replace hk := hk2
  refine GoH.st (T' := T2) (pc' := 7) (L' := #[.val (.ref a1), .val (.ref x1), .val (.ref x2), .val (.ref x3), .val (.ref x4), .val (.ref x5), .val (.ref x6)]) (S' := [(.ref a2_), (.ref x1)]) st2 ?_
  obtain ⟨_, _, ⟨T3, L3, k3, n3⟩, -, X3, ⟨Lc3, hQ3, l3, y3, z3⟩, st3⟩ := Jvm.LawKit.callS X2 hx (y := (⟨"java/util/Objects", "requireNonNull", "(Ljava/lang/Object;Ljava/lang/String;)Ljava/lang/Object;"⟩ : MethodName)) hown (mvT hZ (hw _ (List.mem_of_getElem? (i := 95) rfl))) (mvT hZ (hw _ (List.mem_of_getElem? (i := 54) rfl))) (mvT hZ (hw _ (List.mem_of_getElem? (i := 55) rfl))) (mvT hZ (hw _ (List.mem_of_getElem? (i := 56) rfl))) (by decide) (backOf (W := 0) (rm10 l Z a0 hw [] x1 a2_ h2 n0 Z0) hZ (hw _ (List.mem_of_getElem? (i := 56) rfl)) (hw _ (List.mem_of_getElem? (i := 55) rfl)) (by decide) (by decide)) (g := (mkF m 7 #[.val (.ref a1), .val (.ref x1), .val (.ref x2), .val (.ref x3), .val (.ref x4), .val (.ref x5), .val (.ref x6)] [(.ref a2_), (.ref x1)])) rfl (by rw [hml]; rfl) (argsL := [(.ref x1), (.ref a2_)]) (rest := []) (lenOf pd_5 rfl) rfl (by show 2 * 0 + _ ≤ _; exact Nat.le_of_eq rfl) (hb hby d12_7) (fun _ _ => ⟨rfl, e2, (by decide : 2 + 0 ≤ _), (by decide : 20 + 0 ≤ _)⟩)
  dsimp only [Pt.U, Pt.locs, Pt.cells, Pt.slots] at X3 l3 y3 z3 st3 hQ3
  subst l3 y3 z3
  obtain ⟨rfl, N3q, e3⟩ := hQ3
  have N3 := Fr.app N1 N3q
  refine GoH.st (T' := T3) (pc' := 10) (L' := #[.val (.ref a1), .val (.ref x1), .val (.ref x2), .val (.ref x3), .val (.ref x4), .val (.ref x5), .val (.ref x6)]) (S' := [(.ref x1)]) st3 ?_
  refine GoH.st (T' := T3) (pc' := 11) (L' := #[.val (.ref a1), .val (.ref x1), .val (.ref x2), .val (.ref x3), .val (.ref x4), .val (.ref x5), .val (.ref x6)]) (S' := []) (fun t_ k_ => XS.pop X3.here hx rfl (hb hby d12_10) rfl rfl k_) ?_
  refine GoH.st (T' := T3) (pc' := 12) (L' := #[.val (.ref a1), .val (.ref x1), .val (.ref x2), .val (.ref x3), .val (.ref x4), .val (.ref x5), .val (.ref x6)]) (S' := [(.ref x2)]) (fun t_ k_ => XS.aloadN X3.here hx rfl (hb hby d12_11) rfl rfl  k_) ?_
  obtain ⟨a4_, T4, h4, k4, X4, e4, E4, hS4, hk4, hZ4, ho4, CR4, -, st4⟩ := ldcOH X3 hx hZ hown (hw _ (List.mem_of_getElem? (i := 96) rfl)) (own_wS hw) e3 hS hk (own_EW hw) CR.1 (g := (mkF m 12 #[.val (.ref a1), .val (.ref x1), .val (.ref x2), .val (.ref x3), .val (.ref x4), .val (.ref x5), .val (.ref x6)] [(.ref x2)])) rfl (hb hby d12_12) (n := 28) (by decide) (by decide) (by decide) (by decide)
  replace CR := CR.trans CR4
  replace Z0 := Nat.le_trans Z0 E4.1
  replace K0 := K0.ext E4
  replace E_a1 := E_a1.ext E4
  replace F_rule := F_rule.ext E4
  replace F_subject := F_subject.ext E4
  replace F_context := F_context.ext E4
  replace F_witness := F_witness.ext E4
  replace F_first := F_first.ext E4
  replace F_second := F_second.ext E4
  replace hZ := hZ4
  replace hown := ho4
  replace hS := hS4
  replace hk := hk4
  refine GoH.st (T' := T4) (pc' := 14) (L' := #[.val (.ref a1), .val (.ref x1), .val (.ref x2), .val (.ref x3), .val (.ref x4), .val (.ref x5), .val (.ref x6)]) (S' := [(.ref a4_), (.ref x2)]) st4 ?_
  obtain ⟨_, _, ⟨T5, L5, k5, n5⟩, -, X5, ⟨Lc5, hQ5, l5, y5, z5⟩, st5⟩ := Jvm.LawKit.callS X4 hx (y := (⟨"java/util/Objects", "requireNonNull", "(Ljava/lang/Object;Ljava/lang/String;)Ljava/lang/Object;"⟩ : MethodName)) hown (mvT hZ (hw _ (List.mem_of_getElem? (i := 95) rfl))) (mvT hZ (hw _ (List.mem_of_getElem? (i := 54) rfl))) (mvT hZ (hw _ (List.mem_of_getElem? (i := 55) rfl))) (mvT hZ (hw _ (List.mem_of_getElem? (i := 56) rfl))) (by decide) (backOf (W := 0) (rm10 l Z a0 hw [] x2 a4_ h4 n0 Z0) hZ (hw _ (List.mem_of_getElem? (i := 56) rfl)) (hw _ (List.mem_of_getElem? (i := 55) rfl)) (by decide) (by decide)) (g := (mkF m 14 #[.val (.ref a1), .val (.ref x1), .val (.ref x2), .val (.ref x3), .val (.ref x4), .val (.ref x5), .val (.ref x6)] [(.ref a4_), (.ref x2)])) rfl (by rw [hml]; rfl) (argsL := [(.ref x2), (.ref a4_)]) (rest := []) (lenOf pd_5 rfl) rfl (by show 2 * 0 + _ ≤ _; exact Nat.le_of_eq rfl) (hb hby d12_14) (fun _ _ => ⟨rfl, e4, (by decide : 4 + 0 ≤ _), (by decide : 52 + 0 ≤ _)⟩)
  dsimp only [Pt.U, Pt.locs, Pt.cells, Pt.slots] at X5 l5 y5 z5 st5 hQ5
  subst l5 y5 z5
  obtain ⟨rfl, N5q, e5⟩ := hQ5
  have N5 := Fr.app N3 N5q
  refine GoH.st (T' := T5) (pc' := 17) (L' := #[.val (.ref a1), .val (.ref x1), .val (.ref x2), .val (.ref x3), .val (.ref x4), .val (.ref x5), .val (.ref x6)]) (S' := [(.ref x2)]) st5 ?_
  refine GoH.st (T' := T5) (pc' := 18) (L' := #[.val (.ref a1), .val (.ref x1), .val (.ref x2), .val (.ref x3), .val (.ref x4), .val (.ref x5), .val (.ref x6)]) (S' := []) (fun t_ k_ => XS.pop X5.here hx rfl (hb hby d12_17) rfl rfl k_) ?_
  refine GoH.st (T' := T5) (pc' := 19) (L' := #[.val (.ref a1), .val (.ref x1), .val (.ref x2), .val (.ref x3), .val (.ref x4), .val (.ref x5), .val (.ref x6)]) (S' := [(.ref x3)]) (fun t_ k_ => XS.aloadN X5.here hx rfl (hb hby d12_18) rfl rfl  k_) ?_
  obtain ⟨a6_, T6, h6, k6, X6, e6, E6, hS6, hk6, hZ6, ho6, CR6, -, st6⟩ := ldcOH X5 hx hZ hown (hw _ (List.mem_of_getElem? (i := 97) rfl)) (own_wS hw) e5 hS hk (own_EW hw) CR.1 (g := (mkF m 19 #[.val (.ref a1), .val (.ref x1), .val (.ref x2), .val (.ref x3), .val (.ref x4), .val (.ref x5), .val (.ref x6)] [(.ref x3)])) rfl (hb hby d12_19) (n := 28) (by decide) (by decide) (by decide) (by decide)
  replace CR := CR.trans CR6
  replace Z0 := Nat.le_trans Z0 E6.1
  replace K0 := K0.ext E6
  replace E_a1 := E_a1.ext E6
  replace F_rule := F_rule.ext E6
  replace F_subject := F_subject.ext E6
  replace F_context := F_context.ext E6
  replace F_witness := F_witness.ext E6
  replace F_first := F_first.ext E6
  replace F_second := F_second.ext E6
  replace hZ := hZ6
  replace hown := ho6
  replace hS := hS6
  replace hk := hk6
  refine GoH.st (T' := T6) (pc' := 21) (L' := #[.val (.ref a1), .val (.ref x1), .val (.ref x2), .val (.ref x3), .val (.ref x4), .val (.ref x5), .val (.ref x6)]) (S' := [(.ref a6_), (.ref x3)]) st6 ?_
  obtain ⟨_, _, ⟨T7, L7, k7, n7⟩, -, X7, ⟨Lc7, hQ7, l7, y7, z7⟩, st7⟩ := Jvm.LawKit.callS X6 hx (y := (⟨"java/util/Objects", "requireNonNull", "(Ljava/lang/Object;Ljava/lang/String;)Ljava/lang/Object;"⟩ : MethodName)) hown (mvT hZ (hw _ (List.mem_of_getElem? (i := 95) rfl))) (mvT hZ (hw _ (List.mem_of_getElem? (i := 54) rfl))) (mvT hZ (hw _ (List.mem_of_getElem? (i := 55) rfl))) (mvT hZ (hw _ (List.mem_of_getElem? (i := 56) rfl))) (by decide) (backOf (W := 0) (rm10 l Z a0 hw [] x3 a6_ h6 n0 Z0) hZ (hw _ (List.mem_of_getElem? (i := 56) rfl)) (hw _ (List.mem_of_getElem? (i := 55) rfl)) (by decide) (by decide)) (g := (mkF m 21 #[.val (.ref a1), .val (.ref x1), .val (.ref x2), .val (.ref x3), .val (.ref x4), .val (.ref x5), .val (.ref x6)] [(.ref a6_), (.ref x3)])) rfl (by rw [hml]; rfl) (argsL := [(.ref x3), (.ref a6_)]) (rest := []) (lenOf pd_5 rfl) rfl (by show 2 * 0 + _ ≤ _; exact Nat.le_of_eq rfl) (hb hby d12_21) (fun _ _ => ⟨rfl, e6, (by decide : 6 + 0 ≤ _), (by decide : 84 + 0 ≤ _)⟩)
  dsimp only [Pt.U, Pt.locs, Pt.cells, Pt.slots] at X7 l7 y7 z7 st7 hQ7
  subst l7 y7 z7
  obtain ⟨rfl, N7q, e7⟩ := hQ7
  have N7 := Fr.app N5 N7q
  refine GoH.st (T' := T7) (pc' := 24) (L' := #[.val (.ref a1), .val (.ref x1), .val (.ref x2), .val (.ref x3), .val (.ref x4), .val (.ref x5), .val (.ref x6)]) (S' := [(.ref x3)]) st7 ?_
  refine GoH.st (T' := T7) (pc' := 25) (L' := #[.val (.ref a1), .val (.ref x1), .val (.ref x2), .val (.ref x3), .val (.ref x4), .val (.ref x5), .val (.ref x6)]) (S' := []) (fun t_ k_ => XS.pop X7.here hx rfl (hb hby d12_24) rfl rfl k_) ?_
  refine GoH.st (T' := T7) (pc' := 27) (L' := #[.val (.ref a1), .val (.ref x1), .val (.ref x2), .val (.ref x3), .val (.ref x4), .val (.ref x5), .val (.ref x6)]) (S' := [(.ref x4)]) (fun t_ k_ => XS.aload X7.here hx rfl (hb hby d12_25) rfl rfl  k_) ?_
  obtain ⟨a8_, T8, h8, k8, X8, e8, E8, hS8, hk8, hZ8, ho8, CR8, -, st8⟩ := ldcOH X7 hx hZ hown (hw _ (List.mem_of_getElem? (i := 98) rfl)) (own_wS hw) e7 hS hk (own_EW hw) CR.1 (g := (mkF m 27 #[.val (.ref a1), .val (.ref x1), .val (.ref x2), .val (.ref x3), .val (.ref x4), .val (.ref x5), .val (.ref x6)] [(.ref x4)])) rfl (hb hby d12_27) (n := 28) (by decide) (by decide) (by decide) (by decide)
  replace CR := CR.trans CR8
  replace Z0 := Nat.le_trans Z0 E8.1
  replace K0 := K0.ext E8
  replace E_a1 := E_a1.ext E8
  replace F_rule := F_rule.ext E8
  replace F_subject := F_subject.ext E8
  replace F_context := F_context.ext E8
  replace F_witness := F_witness.ext E8
  replace F_first := F_first.ext E8
  replace F_second := F_second.ext E8
  replace hZ := hZ8
  replace hown := ho8
  replace hS := hS8
  replace hk := hk8
  refine GoH.st (T' := T8) (pc' := 29) (L' := #[.val (.ref a1), .val (.ref x1), .val (.ref x2), .val (.ref x3), .val (.ref x4), .val (.ref x5), .val (.ref x6)]) (S' := [(.ref a8_), (.ref x4)]) st8 ?_
  obtain ⟨_, _, ⟨T9, L9, k9, n9⟩, -, X9, ⟨Lc9, hQ9, l9, y9, z9⟩, st9⟩ := Jvm.LawKit.callS X8 hx (y := (⟨"java/util/Objects", "requireNonNull", "(Ljava/lang/Object;Ljava/lang/String;)Ljava/lang/Object;"⟩ : MethodName)) hown (mvT hZ (hw _ (List.mem_of_getElem? (i := 95) rfl))) (mvT hZ (hw _ (List.mem_of_getElem? (i := 54) rfl))) (mvT hZ (hw _ (List.mem_of_getElem? (i := 55) rfl))) (mvT hZ (hw _ (List.mem_of_getElem? (i := 56) rfl))) (by decide) (backOf (W := 0) (rm10 l Z a0 hw [] x4 a8_ h8 n0 Z0) hZ (hw _ (List.mem_of_getElem? (i := 56) rfl)) (hw _ (List.mem_of_getElem? (i := 55) rfl)) (by decide) (by decide)) (g := (mkF m 29 #[.val (.ref a1), .val (.ref x1), .val (.ref x2), .val (.ref x3), .val (.ref x4), .val (.ref x5), .val (.ref x6)] [(.ref a8_), (.ref x4)])) rfl (by rw [hml]; rfl) (argsL := [(.ref x4), (.ref a8_)]) (rest := []) (lenOf pd_5 rfl) rfl (by show 2 * 0 + _ ≤ _; exact Nat.le_of_eq rfl) (hb hby d12_29) (fun _ _ => ⟨rfl, e8, (by decide : 8 + 0 ≤ _), (by decide : 116 + 0 ≤ _)⟩)
  dsimp only [Pt.U, Pt.locs, Pt.cells, Pt.slots] at X9 l9 y9 z9 st9 hQ9
  subst l9 y9 z9
  obtain ⟨rfl, N9q, e9⟩ := hQ9
  have N9 := Fr.app N7 N9q
  refine GoH.st (T' := T9) (pc' := 32) (L' := #[.val (.ref a1), .val (.ref x1), .val (.ref x2), .val (.ref x3), .val (.ref x4), .val (.ref x5), .val (.ref x6)]) (S' := [(.ref x4)]) st9 ?_
  refine GoH.st (T' := T9) (pc' := 33) (L' := #[.val (.ref a1), .val (.ref x1), .val (.ref x2), .val (.ref x3), .val (.ref x4), .val (.ref x5), .val (.ref x6)]) (S' := []) (fun t_ k_ => XS.pop X9.here hx rfl (hb hby d12_32) rfl rfl k_) ?_
  refine GoH.st (T' := T9) (pc' := 35) (L' := #[.val (.ref a1), .val (.ref x1), .val (.ref x2), .val (.ref x3), .val (.ref x4), .val (.ref x5), .val (.ref x6)]) (S' := [(.ref x5)]) (fun t_ k_ => XS.aload X9.here hx rfl (hb hby d12_33) rfl rfl  k_) ?_
  obtain ⟨a10_, T10, h10, k10, X10, e10, E10, hS10, hk10, hZ10, ho10, CR10, -, st10⟩ := ldcOH X9 hx hZ hown (hw _ (List.mem_of_getElem? (i := 99) rfl)) (own_wS hw) e9 hS hk (own_EW hw) CR.1 (g := (mkF m 35 #[.val (.ref a1), .val (.ref x1), .val (.ref x2), .val (.ref x3), .val (.ref x4), .val (.ref x5), .val (.ref x6)] [(.ref x5)])) rfl (hb hby d12_35) (n := 20) (by decide) (by decide) (by decide) (by decide)
  replace CR := CR.trans CR10
  replace Z0 := Nat.le_trans Z0 E10.1
  replace K0 := K0.ext E10
  replace E_a1 := E_a1.ext E10
  replace F_rule := F_rule.ext E10
  replace F_subject := F_subject.ext E10
  replace F_context := F_context.ext E10
  replace F_witness := F_witness.ext E10
  replace F_first := F_first.ext E10
  replace F_second := F_second.ext E10
  replace hZ := hZ10
  replace hown := ho10
  replace hS := hS10
  replace hk := hk10
  refine GoH.st (T' := T10) (pc' := 37) (L' := #[.val (.ref a1), .val (.ref x1), .val (.ref x2), .val (.ref x3), .val (.ref x4), .val (.ref x5), .val (.ref x6)]) (S' := [(.ref a10_), (.ref x5)]) st10 ?_
  obtain ⟨_, _, ⟨T11, L11, k11, n11⟩, -, X11, ⟨Lc11, hQ11, l11, y11, z11⟩, st11⟩ := Jvm.LawKit.callS X10 hx (y := (⟨"java/util/Objects", "requireNonNull", "(Ljava/lang/Object;Ljava/lang/String;)Ljava/lang/Object;"⟩ : MethodName)) hown (mvT hZ (hw _ (List.mem_of_getElem? (i := 95) rfl))) (mvT hZ (hw _ (List.mem_of_getElem? (i := 54) rfl))) (mvT hZ (hw _ (List.mem_of_getElem? (i := 55) rfl))) (mvT hZ (hw _ (List.mem_of_getElem? (i := 56) rfl))) (by decide) (backOf (W := 0) (rm10 l Z a0 hw [] x5 a10_ h10 n0 Z0) hZ (hw _ (List.mem_of_getElem? (i := 56) rfl)) (hw _ (List.mem_of_getElem? (i := 55) rfl)) (by decide) (by decide)) (g := (mkF m 37 #[.val (.ref a1), .val (.ref x1), .val (.ref x2), .val (.ref x3), .val (.ref x4), .val (.ref x5), .val (.ref x6)] [(.ref a10_), (.ref x5)])) rfl (by rw [hml]; rfl) (argsL := [(.ref x5), (.ref a10_)]) (rest := []) (lenOf pd_5 rfl) rfl (by show 2 * 0 + _ ≤ _; exact Nat.le_of_eq rfl) (hb hby d12_37) (fun _ _ => ⟨rfl, e10, (by decide : 10 + 0 ≤ _), (by decide : 140 + 0 ≤ _)⟩)
  dsimp only [Pt.U, Pt.locs, Pt.cells, Pt.slots] at X11 l11 y11 z11 st11 hQ11
  subst l11 y11 z11
  obtain ⟨rfl, N11q, e11⟩ := hQ11
  have N11 := Fr.app N9 N11q
  refine GoH.st (T' := T11) (pc' := 40) (L' := #[.val (.ref a1), .val (.ref x1), .val (.ref x2), .val (.ref x3), .val (.ref x4), .val (.ref x5), .val (.ref x6)]) (S' := [(.ref x5)]) st11 ?_
  refine GoH.st (T' := T11) (pc' := 41) (L' := #[.val (.ref a1), .val (.ref x1), .val (.ref x2), .val (.ref x3), .val (.ref x4), .val (.ref x5), .val (.ref x6)]) (S' := []) (fun t_ k_ => XS.pop X11.here hx rfl (hb hby d12_40) rfl rfl k_) ?_
  refine GoH.st (T' := T11) (pc' := 43) (L' := #[.val (.ref a1), .val (.ref x1), .val (.ref x2), .val (.ref x3), .val (.ref x4), .val (.ref x5), .val (.ref x6)]) (S' := [(.ref x6)]) (fun t_ k_ => XS.aload X11.here hx rfl (hb hby d12_41) rfl rfl  k_) ?_
  obtain ⟨a12_, T12, h12, k12, X12, e12, E12, hS12, hk12, hZ12, ho12, CR12, -, st12⟩ := ldcOH X11 hx hZ hown (hw _ (List.mem_of_getElem? (i := 100) rfl)) (own_wS hw) e11 hS hk (own_EW hw) CR.1 (g := (mkF m 43 #[.val (.ref a1), .val (.ref x1), .val (.ref x2), .val (.ref x3), .val (.ref x4), .val (.ref x5), .val (.ref x6)] [(.ref x6)])) rfl (hb hby d12_43) (n := 24) (by decide) (by decide) (by decide) (by decide)
  replace CR := CR.trans CR12
  replace Z0 := Nat.le_trans Z0 E12.1
  replace K0 := K0.ext E12
  replace E_a1 := E_a1.ext E12
  replace F_rule := F_rule.ext E12
  replace F_subject := F_subject.ext E12
  replace F_context := F_context.ext E12
  replace F_witness := F_witness.ext E12
  replace F_first := F_first.ext E12
  replace F_second := F_second.ext E12
  replace hZ := hZ12
  replace hown := ho12
  replace hS := hS12
  replace hk := hk12
  refine GoH.st (T' := T12) (pc' := 45) (L' := #[.val (.ref a1), .val (.ref x1), .val (.ref x2), .val (.ref x3), .val (.ref x4), .val (.ref x5), .val (.ref x6)]) (S' := [(.ref a12_), (.ref x6)]) st12 ?_
  obtain ⟨_, _, ⟨T13, L13, k13, n13⟩, -, X13, ⟨Lc13, hQ13, l13, y13, z13⟩, st13⟩ := Jvm.LawKit.callS X12 hx (y := (⟨"java/util/Objects", "requireNonNull", "(Ljava/lang/Object;Ljava/lang/String;)Ljava/lang/Object;"⟩ : MethodName)) hown (mvT hZ (hw _ (List.mem_of_getElem? (i := 95) rfl))) (mvT hZ (hw _ (List.mem_of_getElem? (i := 54) rfl))) (mvT hZ (hw _ (List.mem_of_getElem? (i := 55) rfl))) (mvT hZ (hw _ (List.mem_of_getElem? (i := 56) rfl))) (by decide) (backOf (W := 0) (rm10 l Z a0 hw [] x6 a12_ h12 n0 Z0) hZ (hw _ (List.mem_of_getElem? (i := 56) rfl)) (hw _ (List.mem_of_getElem? (i := 55) rfl)) (by decide) (by decide)) (g := (mkF m 45 #[.val (.ref a1), .val (.ref x1), .val (.ref x2), .val (.ref x3), .val (.ref x4), .val (.ref x5), .val (.ref x6)] [(.ref a12_), (.ref x6)])) rfl (by rw [hml]; rfl) (argsL := [(.ref x6), (.ref a12_)]) (rest := []) (lenOf pd_5 rfl) rfl (by show 2 * 0 + _ ≤ _; exact Nat.le_of_eq rfl) (hb hby d12_45) (fun _ _ => ⟨rfl, e12, (by decide : 12 + 0 ≤ _), (by decide : 168 + 0 ≤ _)⟩)
  dsimp only [Pt.U, Pt.locs, Pt.cells, Pt.slots] at X13 l13 y13 z13 st13 hQ13
  subst l13 y13 z13
  obtain ⟨rfl, N13q, e13⟩ := hQ13
  have N13 := Fr.app N11 N13q
  refine GoH.st (T' := T13) (pc' := 48) (L' := #[.val (.ref a1), .val (.ref x1), .val (.ref x2), .val (.ref x3), .val (.ref x4), .val (.ref x5), .val (.ref x6)]) (S' := [(.ref x6)]) st13 ?_
  refine GoH.st (T' := T13) (pc' := 49) (L' := #[.val (.ref a1), .val (.ref x1), .val (.ref x2), .val (.ref x3), .val (.ref x4), .val (.ref x5), .val (.ref x6)]) (S' := []) (fun t_ k_ => XS.pop X13.here hx rfl (hb hby d12_48) rfl rfl k_) ?_
  refine GoH.st (T' := T13) (pc' := 50) (L' := #[.val (.ref a1), .val (.ref x1), .val (.ref x2), .val (.ref x3), .val (.ref x4), .val (.ref x5), .val (.ref x6)]) (S' := [(.ref a1)]) (fun t_ k_ => XS.aloadN X13.here hx rfl (hb hby d12_49) rfl rfl  k_) ?_
  refine GoH.st (T' := T13) (pc' := 51) (L' := #[.val (.ref a1), .val (.ref x1), .val (.ref x2), .val (.ref x3), .val (.ref x4), .val (.ref x5), .val (.ref x6)]) (S' := [(.ref x1), (.ref a1)]) (fun t_ k_ => XS.aloadN X13.here hx rfl (hb hby d12_50) rfl rfl  k_) ?_
  obtain ⟨T14, h14, X14, e14, W14, st14⟩ := putF X13 hx hZ hown (host := "") (Or.inl (hw _ (List.mem_of_getElem? (i := 101) rfl))) Via.refl e13 F_rule E_a1 (Or.inr ⟨(hw _ (List.mem_of_getElem? (i := 102) rfl)), rfl, hnm⟩) (hw _ (List.mem_of_getElem? (i := 88) rfl)) (ty := (.object "org/concordat/report/Rule")) (by decide) rfl rfl (g := (mkF m 51 #[.val (.ref a1), .val (.ref x1), .val (.ref x2), .val (.ref x3), .val (.ref x4), .val (.ref x5), .val (.ref x6)] [(.ref x1), (.ref a1)])) rfl rfl (hb hby d12_51)
  have Sw15 : Safe Z EL T12.vm h12 a1 := (Safe.exa hZ.alike E_a1 (by decide) (by decide))
  replace CR := CR.trans (CHr.wr W14 Sw15 CR.1)
  replace hk := Nat.le_trans hk (Keep.of_wr W14).1
  replace Z0 := Nat.le_trans Z0 (Keep.of_wr W14).1
  replace K0 := K0.wr W14 (Or.inl (List.mem_of_getElem? (i := 0) rfl))
  replace E_a1 := E_a1.wr W14
  replace F_subject := F_subject.other W14 (Or.inr (slot_ne (Or.inr (hw _ (List.mem_of_getElem? (i := 104) rfl))) (Or.inr (hw _ (List.mem_of_getElem? (i := 102) rfl))) (by decide) (t := (.object "java/lang/String")) (t' := (.object "org/concordat/report/Rule")) (by decide) (by decide)))
  replace F_context := F_context.other W14 (Or.inr (slot_ne (Or.inr (hw _ (List.mem_of_getElem? (i := 106) rfl))) (Or.inr (hw _ (List.mem_of_getElem? (i := 102) rfl))) (by decide) (t := (.object "java/lang/String")) (t' := (.object "org/concordat/report/Rule")) (by decide) (by decide)))
  replace F_witness := F_witness.other W14 (Or.inr (slot_ne (Or.inr (hw _ (List.mem_of_getElem? (i := 108) rfl))) (Or.inr (hw _ (List.mem_of_getElem? (i := 102) rfl))) (by decide) (t := (.object "java/lang/String")) (t' := (.object "org/concordat/report/Rule")) (by decide) (by decide)))
  replace F_first := F_first.other W14 (Or.inr (slot_ne (Or.inr (hw _ (List.mem_of_getElem? (i := 110) rfl))) (Or.inr (hw _ (List.mem_of_getElem? (i := 102) rfl))) (by decide) (t := (.object "org/concordat/report/Place")) (t' := (.object "org/concordat/report/Rule")) (by decide) (by decide)))
  replace F_second := F_second.other W14 (Or.inr (slot_ne (Or.inr (hw _ (List.mem_of_getElem? (i := 112) rfl))) (Or.inr (hw _ (List.mem_of_getElem? (i := 102) rfl))) (by decide) (t := (.object "org/concordat/report/Place")) (t' := (.object "org/concordat/report/Rule")) (by decide) (by decide)))
  replace F_rule := F_rule.same W14
  have N14 := Fr.snoc X14 N13 g_a1
  refine GoH.st (T' := T14) (pc' := 54) (L' := #[.val (.ref a1), .val (.ref x1), .val (.ref x2), .val (.ref x3), .val (.ref x4), .val (.ref x5), .val (.ref x6)]) (S' := []) st14 ?_
  refine GoH.st (T' := T14) (pc' := 55) (L' := #[.val (.ref a1), .val (.ref x1), .val (.ref x2), .val (.ref x3), .val (.ref x4), .val (.ref x5), .val (.ref x6)]) (S' := [(.ref a1)]) (fun t_ k_ => XS.aloadN X14.here hx rfl (hb hby d12_54) rfl rfl  k_) ?_
  refine GoH.st (T' := T14) (pc' := 56) (L' := #[.val (.ref a1), .val (.ref x1), .val (.ref x2), .val (.ref x3), .val (.ref x4), .val (.ref x5), .val (.ref x6)]) (S' := [(.ref x2), (.ref a1)]) (fun t_ k_ => XS.aloadN X14.here hx rfl (hb hby d12_55) rfl rfl  k_) ?_
  obtain ⟨T16, h16, X16, e16, W16, st16⟩ := putF X14 hx hZ hown (host := "") (Or.inl (hw _ (List.mem_of_getElem? (i := 103) rfl))) Via.refl e14 F_subject E_a1 (Or.inr ⟨(hw _ (List.mem_of_getElem? (i := 104) rfl)), rfl, hnm⟩) (hw _ (List.mem_of_getElem? (i := 88) rfl)) (ty := (.object "java/lang/String")) (by decide) rfl rfl (g := (mkF m 56 #[.val (.ref a1), .val (.ref x1), .val (.ref x2), .val (.ref x3), .val (.ref x4), .val (.ref x5), .val (.ref x6)] [(.ref x2), (.ref a1)])) rfl rfl (hb hby d12_56)
  have Sw17 : Safe Z EL T12.vm h14 a1 := (Safe.exa hZ.alike E_a1 (by decide) (by decide))
  replace CR := CR.trans (CHr.wr W16 Sw17 CR.1)
  replace hk := Nat.le_trans hk (Keep.of_wr W16).1
  replace Z0 := Nat.le_trans Z0 (Keep.of_wr W16).1
  replace K0 := K0.wr W16 (Or.inl (List.mem_of_getElem? (i := 0) rfl))
  replace E_a1 := E_a1.wr W16
  replace F_rule := F_rule.other W16 (Or.inr (slot_ne (Or.inr (hw _ (List.mem_of_getElem? (i := 102) rfl))) (Or.inr (hw _ (List.mem_of_getElem? (i := 104) rfl))) (by decide) (t := (.object "org/concordat/report/Rule")) (t' := (.object "java/lang/String")) (by decide) (by decide)))
  replace F_context := F_context.other W16 (Or.inr (slot_ne (Or.inr (hw _ (List.mem_of_getElem? (i := 106) rfl))) (Or.inr (hw _ (List.mem_of_getElem? (i := 104) rfl))) (by decide) (t := (.object "java/lang/String")) (t' := (.object "java/lang/String")) (by decide) (by decide)))
  replace F_witness := F_witness.other W16 (Or.inr (slot_ne (Or.inr (hw _ (List.mem_of_getElem? (i := 108) rfl))) (Or.inr (hw _ (List.mem_of_getElem? (i := 104) rfl))) (by decide) (t := (.object "java/lang/String")) (t' := (.object "java/lang/String")) (by decide) (by decide)))
  replace F_first := F_first.other W16 (Or.inr (slot_ne (Or.inr (hw _ (List.mem_of_getElem? (i := 110) rfl))) (Or.inr (hw _ (List.mem_of_getElem? (i := 104) rfl))) (by decide) (t := (.object "org/concordat/report/Place")) (t' := (.object "java/lang/String")) (by decide) (by decide)))
  replace F_second := F_second.other W16 (Or.inr (slot_ne (Or.inr (hw _ (List.mem_of_getElem? (i := 112) rfl))) (Or.inr (hw _ (List.mem_of_getElem? (i := 104) rfl))) (by decide) (t := (.object "org/concordat/report/Place")) (t' := (.object "java/lang/String")) (by decide) (by decide)))
  replace F_subject := F_subject.same W16
  have N16 := Fr.snoc X16 N14 g_a1
  refine GoH.st (T' := T16) (pc' := 59) (L' := #[.val (.ref a1), .val (.ref x1), .val (.ref x2), .val (.ref x3), .val (.ref x4), .val (.ref x5), .val (.ref x6)]) (S' := []) st16 ?_
  refine GoH.st (T' := T16) (pc' := 60) (L' := #[.val (.ref a1), .val (.ref x1), .val (.ref x2), .val (.ref x3), .val (.ref x4), .val (.ref x5), .val (.ref x6)]) (S' := [(.ref a1)]) (fun t_ k_ => XS.aloadN X16.here hx rfl (hb hby d12_59) rfl rfl  k_) ?_
  refine GoH.st (T' := T16) (pc' := 61) (L' := #[.val (.ref a1), .val (.ref x1), .val (.ref x2), .val (.ref x3), .val (.ref x4), .val (.ref x5), .val (.ref x6)]) (S' := [(.ref x3), (.ref a1)]) (fun t_ k_ => XS.aloadN X16.here hx rfl (hb hby d12_60) rfl rfl  k_) ?_
  obtain ⟨T18, h18, X18, e18, W18, st18⟩ := putF X16 hx hZ hown (host := "") (Or.inl (hw _ (List.mem_of_getElem? (i := 105) rfl))) Via.refl e16 F_context E_a1 (Or.inr ⟨(hw _ (List.mem_of_getElem? (i := 106) rfl)), rfl, hnm⟩) (hw _ (List.mem_of_getElem? (i := 88) rfl)) (ty := (.object "java/lang/String")) (by decide) rfl rfl (g := (mkF m 61 #[.val (.ref a1), .val (.ref x1), .val (.ref x2), .val (.ref x3), .val (.ref x4), .val (.ref x5), .val (.ref x6)] [(.ref x3), (.ref a1)])) rfl rfl (hb hby d12_61)
  have Sw19 : Safe Z EL T12.vm h16 a1 := (Safe.exa hZ.alike E_a1 (by decide) (by decide))
  replace CR := CR.trans (CHr.wr W18 Sw19 CR.1)
  replace hk := Nat.le_trans hk (Keep.of_wr W18).1
  replace Z0 := Nat.le_trans Z0 (Keep.of_wr W18).1
  replace K0 := K0.wr W18 (Or.inl (List.mem_of_getElem? (i := 0) rfl))
  replace E_a1 := E_a1.wr W18
  replace F_rule := F_rule.other W18 (Or.inr (slot_ne (Or.inr (hw _ (List.mem_of_getElem? (i := 102) rfl))) (Or.inr (hw _ (List.mem_of_getElem? (i := 106) rfl))) (by decide) (t := (.object "org/concordat/report/Rule")) (t' := (.object "java/lang/String")) (by decide) (by decide)))
  replace F_subject := F_subject.other W18 (Or.inr (slot_ne (Or.inr (hw _ (List.mem_of_getElem? (i := 104) rfl))) (Or.inr (hw _ (List.mem_of_getElem? (i := 106) rfl))) (by decide) (t := (.object "java/lang/String")) (t' := (.object "java/lang/String")) (by decide) (by decide)))
  replace F_witness := F_witness.other W18 (Or.inr (slot_ne (Or.inr (hw _ (List.mem_of_getElem? (i := 108) rfl))) (Or.inr (hw _ (List.mem_of_getElem? (i := 106) rfl))) (by decide) (t := (.object "java/lang/String")) (t' := (.object "java/lang/String")) (by decide) (by decide)))
  replace F_first := F_first.other W18 (Or.inr (slot_ne (Or.inr (hw _ (List.mem_of_getElem? (i := 110) rfl))) (Or.inr (hw _ (List.mem_of_getElem? (i := 106) rfl))) (by decide) (t := (.object "org/concordat/report/Place")) (t' := (.object "java/lang/String")) (by decide) (by decide)))
  replace F_second := F_second.other W18 (Or.inr (slot_ne (Or.inr (hw _ (List.mem_of_getElem? (i := 112) rfl))) (Or.inr (hw _ (List.mem_of_getElem? (i := 106) rfl))) (by decide) (t := (.object "org/concordat/report/Place")) (t' := (.object "java/lang/String")) (by decide) (by decide)))
  replace F_context := F_context.same W18
  have N18 := Fr.snoc X18 N16 g_a1
  refine GoH.st (T' := T18) (pc' := 64) (L' := #[.val (.ref a1), .val (.ref x1), .val (.ref x2), .val (.ref x3), .val (.ref x4), .val (.ref x5), .val (.ref x6)]) (S' := []) st18 ?_
  refine GoH.st (T' := T18) (pc' := 65) (L' := #[.val (.ref a1), .val (.ref x1), .val (.ref x2), .val (.ref x3), .val (.ref x4), .val (.ref x5), .val (.ref x6)]) (S' := [(.ref a1)]) (fun t_ k_ => XS.aloadN X18.here hx rfl (hb hby d12_64) rfl rfl  k_) ?_
  refine GoH.st (T' := T18) (pc' := 67) (L' := #[.val (.ref a1), .val (.ref x1), .val (.ref x2), .val (.ref x3), .val (.ref x4), .val (.ref x5), .val (.ref x6)]) (S' := [(.ref x4), (.ref a1)]) (fun t_ k_ => XS.aload X18.here hx rfl (hb hby d12_65) rfl rfl  k_) ?_
  obtain ⟨T20, h20, X20, e20, W20, st20⟩ := putF X18 hx hZ hown (host := "") (Or.inl (hw _ (List.mem_of_getElem? (i := 107) rfl))) Via.refl e18 F_witness E_a1 (Or.inr ⟨(hw _ (List.mem_of_getElem? (i := 108) rfl)), rfl, hnm⟩) (hw _ (List.mem_of_getElem? (i := 88) rfl)) (ty := (.object "java/lang/String")) (by decide) rfl rfl (g := (mkF m 67 #[.val (.ref a1), .val (.ref x1), .val (.ref x2), .val (.ref x3), .val (.ref x4), .val (.ref x5), .val (.ref x6)] [(.ref x4), (.ref a1)])) rfl rfl (hb hby d12_67)
  have Sw21 : Safe Z EL T12.vm h18 a1 := (Safe.exa hZ.alike E_a1 (by decide) (by decide))
  replace CR := CR.trans (CHr.wr W20 Sw21 CR.1)
  replace hk := Nat.le_trans hk (Keep.of_wr W20).1
  replace Z0 := Nat.le_trans Z0 (Keep.of_wr W20).1
  replace K0 := K0.wr W20 (Or.inl (List.mem_of_getElem? (i := 0) rfl))
  replace E_a1 := E_a1.wr W20
  replace F_rule := F_rule.other W20 (Or.inr (slot_ne (Or.inr (hw _ (List.mem_of_getElem? (i := 102) rfl))) (Or.inr (hw _ (List.mem_of_getElem? (i := 108) rfl))) (by decide) (t := (.object "org/concordat/report/Rule")) (t' := (.object "java/lang/String")) (by decide) (by decide)))
  replace F_subject := F_subject.other W20 (Or.inr (slot_ne (Or.inr (hw _ (List.mem_of_getElem? (i := 104) rfl))) (Or.inr (hw _ (List.mem_of_getElem? (i := 108) rfl))) (by decide) (t := (.object "java/lang/String")) (t' := (.object "java/lang/String")) (by decide) (by decide)))
  replace F_context := F_context.other W20 (Or.inr (slot_ne (Or.inr (hw _ (List.mem_of_getElem? (i := 106) rfl))) (Or.inr (hw _ (List.mem_of_getElem? (i := 108) rfl))) (by decide) (t := (.object "java/lang/String")) (t' := (.object "java/lang/String")) (by decide) (by decide)))
  replace F_first := F_first.other W20 (Or.inr (slot_ne (Or.inr (hw _ (List.mem_of_getElem? (i := 110) rfl))) (Or.inr (hw _ (List.mem_of_getElem? (i := 108) rfl))) (by decide) (t := (.object "org/concordat/report/Place")) (t' := (.object "java/lang/String")) (by decide) (by decide)))
  replace F_second := F_second.other W20 (Or.inr (slot_ne (Or.inr (hw _ (List.mem_of_getElem? (i := 112) rfl))) (Or.inr (hw _ (List.mem_of_getElem? (i := 108) rfl))) (by decide) (t := (.object "org/concordat/report/Place")) (t' := (.object "java/lang/String")) (by decide) (by decide)))
  replace F_witness := F_witness.same W20
  have N20 := Fr.snoc X20 N18 g_a1
  refine GoH.st (T' := T20) (pc' := 70) (L' := #[.val (.ref a1), .val (.ref x1), .val (.ref x2), .val (.ref x3), .val (.ref x4), .val (.ref x5), .val (.ref x6)]) (S' := []) st20 ?_
  refine GoH.st (T' := T20) (pc' := 71) (L' := #[.val (.ref a1), .val (.ref x1), .val (.ref x2), .val (.ref x3), .val (.ref x4), .val (.ref x5), .val (.ref x6)]) (S' := [(.ref a1)]) (fun t_ k_ => XS.aloadN X20.here hx rfl (hb hby d12_70) rfl rfl  k_) ?_
  refine GoH.st (T' := T20) (pc' := 73) (L' := #[.val (.ref a1), .val (.ref x1), .val (.ref x2), .val (.ref x3), .val (.ref x4), .val (.ref x5), .val (.ref x6)]) (S' := [(.ref x5), (.ref a1)]) (fun t_ k_ => XS.aload X20.here hx rfl (hb hby d12_71) rfl rfl  k_) ?_
  obtain ⟨T22, h22, X22, e22, W22, st22⟩ := putF X20 hx hZ hown (host := "") (Or.inl (hw _ (List.mem_of_getElem? (i := 109) rfl))) Via.refl e20 F_first E_a1 (Or.inr ⟨(hw _ (List.mem_of_getElem? (i := 110) rfl)), rfl, hnm⟩) (hw _ (List.mem_of_getElem? (i := 88) rfl)) (ty := (.object "org/concordat/report/Place")) (by decide) rfl rfl (g := (mkF m 73 #[.val (.ref a1), .val (.ref x1), .val (.ref x2), .val (.ref x3), .val (.ref x4), .val (.ref x5), .val (.ref x6)] [(.ref x5), (.ref a1)])) rfl rfl (hb hby d12_73)
  have Sw23 : Safe Z EL T12.vm h20 a1 := (Safe.exa hZ.alike E_a1 (by decide) (by decide))
  replace CR := CR.trans (CHr.wr W22 Sw23 CR.1)
  replace hk := Nat.le_trans hk (Keep.of_wr W22).1
  replace Z0 := Nat.le_trans Z0 (Keep.of_wr W22).1
  replace K0 := K0.wr W22 (Or.inl (List.mem_of_getElem? (i := 0) rfl))
  replace E_a1 := E_a1.wr W22
  replace F_rule := F_rule.other W22 (Or.inr (slot_ne (Or.inr (hw _ (List.mem_of_getElem? (i := 102) rfl))) (Or.inr (hw _ (List.mem_of_getElem? (i := 110) rfl))) (by decide) (t := (.object "org/concordat/report/Rule")) (t' := (.object "org/concordat/report/Place")) (by decide) (by decide)))
  replace F_subject := F_subject.other W22 (Or.inr (slot_ne (Or.inr (hw _ (List.mem_of_getElem? (i := 104) rfl))) (Or.inr (hw _ (List.mem_of_getElem? (i := 110) rfl))) (by decide) (t := (.object "java/lang/String")) (t' := (.object "org/concordat/report/Place")) (by decide) (by decide)))
  replace F_context := F_context.other W22 (Or.inr (slot_ne (Or.inr (hw _ (List.mem_of_getElem? (i := 106) rfl))) (Or.inr (hw _ (List.mem_of_getElem? (i := 110) rfl))) (by decide) (t := (.object "java/lang/String")) (t' := (.object "org/concordat/report/Place")) (by decide) (by decide)))
  replace F_witness := F_witness.other W22 (Or.inr (slot_ne (Or.inr (hw _ (List.mem_of_getElem? (i := 108) rfl))) (Or.inr (hw _ (List.mem_of_getElem? (i := 110) rfl))) (by decide) (t := (.object "java/lang/String")) (t' := (.object "org/concordat/report/Place")) (by decide) (by decide)))
  replace F_second := F_second.other W22 (Or.inr (slot_ne (Or.inr (hw _ (List.mem_of_getElem? (i := 112) rfl))) (Or.inr (hw _ (List.mem_of_getElem? (i := 110) rfl))) (by decide) (t := (.object "org/concordat/report/Place")) (t' := (.object "org/concordat/report/Place")) (by decide) (by decide)))
  replace F_first := F_first.same W22
  have N22 := Fr.snoc X22 N20 g_a1
  refine GoH.st (T' := T22) (pc' := 76) (L' := #[.val (.ref a1), .val (.ref x1), .val (.ref x2), .val (.ref x3), .val (.ref x4), .val (.ref x5), .val (.ref x6)]) (S' := []) st22 ?_
  refine GoH.st (T' := T22) (pc' := 77) (L' := #[.val (.ref a1), .val (.ref x1), .val (.ref x2), .val (.ref x3), .val (.ref x4), .val (.ref x5), .val (.ref x6)]) (S' := [(.ref a1)]) (fun t_ k_ => XS.aloadN X22.here hx rfl (hb hby d12_76) rfl rfl  k_) ?_
  refine GoH.st (T' := T22) (pc' := 79) (L' := #[.val (.ref a1), .val (.ref x1), .val (.ref x2), .val (.ref x3), .val (.ref x4), .val (.ref x5), .val (.ref x6)]) (S' := [(.ref x6), (.ref a1)]) (fun t_ k_ => XS.aload X22.here hx rfl (hb hby d12_77) rfl rfl  k_) ?_
  obtain ⟨T24, h24, X24, e24, W24, st24⟩ := putF X22 hx hZ hown (host := "") (Or.inl (hw _ (List.mem_of_getElem? (i := 111) rfl))) Via.refl e22 F_second E_a1 (Or.inr ⟨(hw _ (List.mem_of_getElem? (i := 112) rfl)), rfl, hnm⟩) (hw _ (List.mem_of_getElem? (i := 88) rfl)) (ty := (.object "org/concordat/report/Place")) (by decide) rfl rfl (g := (mkF m 79 #[.val (.ref a1), .val (.ref x1), .val (.ref x2), .val (.ref x3), .val (.ref x4), .val (.ref x5), .val (.ref x6)] [(.ref x6), (.ref a1)])) rfl rfl (hb hby d12_79)
  have Sw25 : Safe Z EL T12.vm h22 a1 := (Safe.exa hZ.alike E_a1 (by decide) (by decide))
  replace CR := CR.trans (CHr.wr W24 Sw25 CR.1)
  replace hk := Nat.le_trans hk (Keep.of_wr W24).1
  replace Z0 := Nat.le_trans Z0 (Keep.of_wr W24).1
  replace K0 := K0.wr W24 (Or.inl (List.mem_of_getElem? (i := 0) rfl))
  replace E_a1 := E_a1.wr W24
  replace F_rule := F_rule.other W24 (Or.inr (slot_ne (Or.inr (hw _ (List.mem_of_getElem? (i := 102) rfl))) (Or.inr (hw _ (List.mem_of_getElem? (i := 112) rfl))) (by decide) (t := (.object "org/concordat/report/Rule")) (t' := (.object "org/concordat/report/Place")) (by decide) (by decide)))
  replace F_subject := F_subject.other W24 (Or.inr (slot_ne (Or.inr (hw _ (List.mem_of_getElem? (i := 104) rfl))) (Or.inr (hw _ (List.mem_of_getElem? (i := 112) rfl))) (by decide) (t := (.object "java/lang/String")) (t' := (.object "org/concordat/report/Place")) (by decide) (by decide)))
  replace F_context := F_context.other W24 (Or.inr (slot_ne (Or.inr (hw _ (List.mem_of_getElem? (i := 106) rfl))) (Or.inr (hw _ (List.mem_of_getElem? (i := 112) rfl))) (by decide) (t := (.object "java/lang/String")) (t' := (.object "org/concordat/report/Place")) (by decide) (by decide)))
  replace F_witness := F_witness.other W24 (Or.inr (slot_ne (Or.inr (hw _ (List.mem_of_getElem? (i := 108) rfl))) (Or.inr (hw _ (List.mem_of_getElem? (i := 112) rfl))) (by decide) (t := (.object "java/lang/String")) (t' := (.object "org/concordat/report/Place")) (by decide) (by decide)))
  replace F_first := F_first.other W24 (Or.inr (slot_ne (Or.inr (hw _ (List.mem_of_getElem? (i := 110) rfl))) (Or.inr (hw _ (List.mem_of_getElem? (i := 112) rfl))) (by decide) (t := (.object "org/concordat/report/Place")) (t' := (.object "org/concordat/report/Place")) (by decide) (by decide)))
  replace F_second := F_second.same W24
  have N24 := Fr.snoc X24 N22 g_a1
  refine GoH.st (T' := T24) (pc' := 82) (L' := #[.val (.ref a1), .val (.ref x1), .val (.ref x2), .val (.ref x3), .val (.ref x4), .val (.ref x5), .val (.ref x6)]) (S' := []) st24 ?_
  exact GoH.retV X24 hx hlk hret (hb hby d12_82) (by decide) (by decide) hS hk e24 hs0 hZ (own_EW hw) CR (by rw [e24]; exact ⟨rfl, N24, K0, F_rule, F_subject, F_context, F_witness, F_first, F_second⟩)
theorem d18_0 : decode jdk_22_method_1_code 0 = .ok (.aload_n 0, 1) := by decide +kernel
theorem d18_1 : decode jdk_22_method_1_code 1 = .ok (.invokespecial 1, 3) := by decide +kernel
theorem d18_4 : decode jdk_22_method_1_code 4 = .ok (.return_, 1) := by decide +kernel
theorem pn_7 : plainName "java/util/AbstractCollection" = true := by first | (simp [plainName, overriddenIn]; done) | decide +kernel
def Q18 (Z : State) (a1 : Addr) (h0 : Heap) (n0 : Nat) (v : Option Value) (h : Heap) (L : List Loc) : Prop := v = none ∧ Fr n0 L ∧ h = h0
def room18 : Room := { frames := 1, cells := 0, slots := 0, locals := 12 }
set_option maxRecDepth 65536 in
set_option maxHeartbeats 40000000 in
theorem rm18 (l : Launch) (Z : State) (a0 : Array Value) (hw : ∀ d ∈ tables_1, d.before a0 Z = true) (ws : List Jvm.Cond) (a1 : Addr) (h0 : Heap) (n0 : Nat) (Z0 : n0 ≤ h0.size)  :
    MetFree l (⟨"java/util/AbstractCollection", "<init>", "()V"⟩ : MethodName) (head1 (Jvm.Cond.code (⟨"java/util/AbstractCollection", "<init>", "()V"⟩ : MethodName) jdk_22_method_1_code 1 none :: ws) room18) (fun aa_ U_ => aa_ = #[(.ref a1)] ∧ Z.Warmed39 U_.vm ∧ U_.heap = h0) (fun _ _ _ _ _ => True) (fun _ U_ o_ W_ => ∃ v_ L_, o_ = .returned v_ ∧ (Q18 Z a1 h0 n0) v_ W_.heap L_ ∧ FrameEnd U_ o_ W_ L_ room18.cells room18.slots) := by
  refine own_met (Q := (Q18 Z a1 h0 n0)) (L0 := #[.val (.ref a1)]) (plainFor_of_name pn_7) (fun m => by first | (simp [entryFrame, mkF, argsToLocals, Value.category]; done) | rfl) ?_
  intro p e s m below meth c T0 X0 hx hby hml hown hnm hret hlk hZ e0
  have N0 := Fr.nil n0
  refine Go.st (T' := T0) (pc' := 1) (L' := #[.val (.ref a1)]) (S' := [(.ref a1)]) (fun t_ k_ => XS.aloadN X0.here hx rfl (hb hby d18_0) rfl rfl  k_) ?_
  obtain ⟨T1, X1, e1, st1⟩ := initO X0 hx hZ hown (hw _ (List.mem_of_getElem? (i := 147) rfl)) (hw _ (List.mem_of_getElem? (i := 16) rfl)) (hw _ (List.mem_of_getElem? (i := 17) rfl)) e0 (g := (mkF m 1 #[.val (.ref a1)] [(.ref a1)])) rfl (by rw [hml]; rfl) rfl (hb hby d18_1) (by decide) (W := 0) (by show 2 * 0 + _ ≤ _; exact Nat.le_of_eq rfl) (by decide)
  refine Go.st (T' := T1) (pc' := 4) (L' := #[.val (.ref a1)]) (S' := []) st1 ?_
  exact Go.retV X1 hx hlk hret (hb hby d18_4) (by decide) (by decide) (by rw [e1]; exact ⟨rfl, N0, rfl⟩)
theorem d17_0 : decode jdk_47_method_1_code 0 = .ok (.aload_n 0, 1) := by decide +kernel
theorem d17_1 : decode jdk_47_method_1_code 1 = .ok (.invokespecial 1, 3) := by decide +kernel
theorem d17_4 : decode jdk_47_method_1_code 4 = .ok (.return_, 1) := by decide +kernel
theorem pn_8 : plainName "java/util/ImmutableCollections$AbstractImmutableCollection" = true := by first | (simp [plainName, overriddenIn]; done) | decide +kernel
def Q17 (Z : State) (a1 : Addr) (h0 : Heap) (n0 : Nat) (v : Option Value) (h : Heap) (L : List Loc) : Prop := v = none ∧ Fr n0 L ∧ h = h0
def room17 : Room := { frames := 2, cells := 0, slots := 0, locals := 24 }
set_option maxRecDepth 65536 in
set_option maxHeartbeats 40000000 in
theorem rm17 (l : Launch) (Z : State) (a0 : Array Value) (hw : ∀ d ∈ tables_1, d.before a0 Z = true) (ws : List Jvm.Cond) (a1 : Addr) (h0 : Heap) (n0 : Nat) (Z0 : n0 ≤ h0.size)  :
    MetFree l (⟨"java/util/ImmutableCollections$AbstractImmutableCollection", "<init>", "()V"⟩ : MethodName) (head1 (Jvm.Cond.code (⟨"java/util/ImmutableCollections$AbstractImmutableCollection", "<init>", "()V"⟩ : MethodName) jdk_47_method_1_code 1 none :: ws) room17) (fun aa_ U_ => aa_ = #[(.ref a1)] ∧ Z.Warmed39 U_.vm ∧ U_.heap = h0) (fun _ _ _ _ _ => True) (fun _ U_ o_ W_ => ∃ v_ L_, o_ = .returned v_ ∧ (Q17 Z a1 h0 n0) v_ W_.heap L_ ∧ FrameEnd U_ o_ W_ L_ room17.cells room17.slots) := by
  refine own_met (Q := (Q17 Z a1 h0 n0)) (L0 := #[.val (.ref a1)]) (plainFor_of_name pn_8) (fun m => by first | (simp [entryFrame, mkF, argsToLocals, Value.category]; done) | rfl) ?_
  intro p e s m below meth c T0 X0 hx hby hml hown hnm hret hlk hZ e0
  have N0 := Fr.nil n0
  refine Go.st (T' := T0) (pc' := 1) (L' := #[.val (.ref a1)]) (S' := [(.ref a1)]) (fun t_ k_ => XS.aloadN X0.here hx rfl (hb hby d17_0) rfl rfl  k_) ?_
  obtain ⟨_, _, ⟨T1, L1, k1, n1⟩, -, X1, ⟨Lc1, hQ1, l1, y1, z1⟩, st1⟩ := X0.specialBack hx (y := (⟨"java/util/AbstractCollection", "<init>", "()V"⟩ : MethodName)) rfl hown (mvT hZ (hw _ (List.mem_of_getElem? (i := 141) rfl))) (mvT hZ (hw _ (List.mem_of_getElem? (i := 142) rfl))) (mvT hZ (hw _ (List.mem_of_getElem? (i := 146) rfl))) (by decide) (backOf (W := 0) (rm18 l Z a0 hw [] a1 h0 n0 Z0) hZ (hw _ (List.mem_of_getElem? (i := 146) rfl)) (hw _ (List.mem_of_getElem? (i := 145) rfl)) (by decide) (by decide)) (g := (mkF m 1 #[.val (.ref a1)] [(.ref a1)])) rfl (by rw [hml]; rfl) (Steps.refl _) (a := a1) (argsL := []) (rest := []) (lenOf pd_4 rfl) rfl (by show 2 * 0 + _ ≤ _; exact Nat.le_of_eq rfl) (hb hby d17_1) (fun _ _ => ⟨rfl, e0, (by decide : 0 + 0 ≤ _), (by decide : 0 + 0 ≤ _)⟩)
  dsimp only [Pt.U, Pt.locs, Pt.cells, Pt.slots] at X1 l1 y1 z1 st1 hQ1
  subst l1 y1 z1
  obtain ⟨rfl, N1q, e1⟩ := hQ1
  have N1 := Fr.app N0 N1q
  refine Go.tr (T' := T1) (pc' := 4) (L' := #[.val (.ref a1)]) (S' := []) st1 ?_
  exact Go.retV X1 hx hlk hret (hb hby d17_4) (by decide) (by decide) (by rw [e1]; exact ⟨rfl, N1, rfl⟩)
theorem d16_0 : decode jdk_46_method_1_code 0 = .ok (.aload_n 0, 1) := by decide +kernel
theorem d16_1 : decode jdk_46_method_1_code 1 = .ok (.invokespecial 1, 3) := by decide +kernel
theorem d16_4 : decode jdk_46_method_1_code 4 = .ok (.return_, 1) := by decide +kernel
theorem pn_9 : plainName "java/util/ImmutableCollections$AbstractImmutableList" = true := by first | (simp [plainName, overriddenIn]; done) | decide +kernel
def Q16 (Z : State) (a1 : Addr) (h0 : Heap) (n0 : Nat) (v : Option Value) (h : Heap) (L : List Loc) : Prop := v = none ∧ Fr n0 L ∧ h = h0
def room16 : Room := { frames := 3, cells := 0, slots := 0, locals := 36 }
set_option maxRecDepth 65536 in
set_option maxHeartbeats 40000000 in
theorem rm16 (l : Launch) (Z : State) (a0 : Array Value) (hw : ∀ d ∈ tables_1, d.before a0 Z = true) (ws : List Jvm.Cond) (a1 : Addr) (h0 : Heap) (n0 : Nat) (Z0 : n0 ≤ h0.size)  :
    MetFree l (⟨"java/util/ImmutableCollections$AbstractImmutableList", "<init>", "()V"⟩ : MethodName) (head1 (Jvm.Cond.code (⟨"java/util/ImmutableCollections$AbstractImmutableList", "<init>", "()V"⟩ : MethodName) jdk_46_method_1_code 1 none :: ws) room16) (fun aa_ U_ => aa_ = #[(.ref a1)] ∧ Z.Warmed39 U_.vm ∧ U_.heap = h0) (fun _ _ _ _ _ => True) (fun _ U_ o_ W_ => ∃ v_ L_, o_ = .returned v_ ∧ (Q16 Z a1 h0 n0) v_ W_.heap L_ ∧ FrameEnd U_ o_ W_ L_ room16.cells room16.slots) := by
  refine own_met (Q := (Q16 Z a1 h0 n0)) (L0 := #[.val (.ref a1)]) (plainFor_of_name pn_9) (fun m => by first | (simp [entryFrame, mkF, argsToLocals, Value.category]; done) | rfl) ?_
  intro p e s m below meth c T0 X0 hx hby hml hown hnm hret hlk hZ e0
  have N0 := Fr.nil n0
  refine Go.st (T' := T0) (pc' := 1) (L' := #[.val (.ref a1)]) (S' := [(.ref a1)]) (fun t_ k_ => XS.aloadN X0.here hx rfl (hb hby d16_0) rfl rfl  k_) ?_
  obtain ⟨_, _, ⟨T1, L1, k1, n1⟩, -, X1, ⟨Lc1, hQ1, l1, y1, z1⟩, st1⟩ := X0.specialBack hx (y := (⟨"java/util/ImmutableCollections$AbstractImmutableCollection", "<init>", "()V"⟩ : MethodName)) rfl hown (mvT hZ (hw _ (List.mem_of_getElem? (i := 135) rfl))) (mvT hZ (hw _ (List.mem_of_getElem? (i := 136) rfl))) (mvT hZ (hw _ (List.mem_of_getElem? (i := 140) rfl))) (by decide) (backOf (W := 0) (rm17 l Z a0 hw [] a1 h0 n0 Z0) hZ (hw _ (List.mem_of_getElem? (i := 140) rfl)) (hw _ (List.mem_of_getElem? (i := 139) rfl)) (by decide) (by decide)) (g := (mkF m 1 #[.val (.ref a1)] [(.ref a1)])) rfl (by rw [hml]; rfl) (Steps.refl _) (a := a1) (argsL := []) (rest := []) (lenOf pd_4 rfl) rfl (by show 2 * 0 + _ ≤ _; exact Nat.le_of_eq rfl) (hb hby d16_1) (fun _ _ => ⟨rfl, e0, (by decide : 0 + 0 ≤ _), (by decide : 0 + 0 ≤ _)⟩)
  dsimp only [Pt.U, Pt.locs, Pt.cells, Pt.slots] at X1 l1 y1 z1 st1 hQ1
  subst l1 y1 z1
  obtain ⟨rfl, N1q, e1⟩ := hQ1
  have N1 := Fr.app N0 N1q
  refine Go.tr (T' := T1) (pc' := 4) (L' := #[.val (.ref a1)]) (S' := []) st1 ?_
  exact Go.retV X1 hx hlk hret (hb hby d16_4) (by decide) (by decide) (by rw [e1]; exact ⟨rfl, N1, rfl⟩)
theorem d15_0 : decode jdk_44_method_2_code 0 = .ok (.aload_n 0, 1) := by decide +kernel
theorem d15_1 : decode jdk_44_method_2_code 1 = .ok (.invokespecial 1, 3) := by decide +kernel
theorem d15_4 : decode jdk_44_method_2_code 4 = .ok (.aload_n 0, 1) := by decide +kernel
theorem d15_5 : decode jdk_44_method_2_code 5 = .ok (.aload_n 1, 1) := by decide +kernel
theorem d15_6 : decode jdk_44_method_2_code 6 = .ok (.invokestatic 7, 3) := by decide +kernel
theorem d15_9 : decode jdk_44_method_2_code 9 = .ok (.putfield 13, 3) := by decide +kernel
theorem d15_12 : decode jdk_44_method_2_code 12 = .ok (.aload_n 0, 1) := by decide +kernel
theorem d15_13 : decode jdk_44_method_2_code 13 = .ok (.aload_n 2, 1) := by decide +kernel
theorem d15_14 : decode jdk_44_method_2_code 14 = .ok (.invokestatic 7, 3) := by decide +kernel
theorem d15_17 : decode jdk_44_method_2_code 17 = .ok (.putfield 24, 3) := by decide +kernel
theorem d15_20 : decode jdk_44_method_2_code 20 = .ok (.return_, 1) := by decide +kernel
theorem pd_6 : parseMethodDescriptor "(Ljava/lang/Object;)Ljava/lang/Object;" = some ⟨[(.object "java/lang/Object")], some (.object "java/lang/Object")⟩ := by decide +kernel
theorem pn_10 : plainName "java/util/ImmutableCollections$List12" = true := by first | (simp [plainName, overriddenIn]; done) | decide +kernel
def Q15 (Z : State) (a1 : Addr) (x1 : Addr) (x2 : Addr) (h0 : Heap) (n0 : Nat) (v : Option Value) (h : Heap) (L : List Loc) : Prop := v = none ∧ Fr n0 L ∧ Keep h0 h [a1] ∧ Fld Z h a1 "java/util/ImmutableCollections$List12" "e0" "Ljava/lang/Object;" (.ref x1) ∧ Fld Z h a1 "java/util/ImmutableCollections$List12" "e1" "Ljava/lang/Object;" (.ref x2)
def room15 : Room := { frames := 4, cells := 0, slots := 0, locals := 48 }
set_option maxRecDepth 65536 in
set_option maxHeartbeats 40000000 in
theorem rm15 (l : Launch) (Z : State) (a0 : Array Value) (hw : ∀ d ∈ tables_1, d.before a0 Z = true) (ws : List Jvm.Cond) (a1 : Addr) (x1 : Addr) (x2 : Addr) (h0 : Heap) (n0 : Nat) (Z0 : n0 ≤ h0.size) (E_a1 : Exa Z h0 a1 "java/util/ImmutableCollections$List12") (g_a1 : n0 ≤ a1) (F_e0 : Fld Z h0 a1 "java/util/ImmutableCollections$List12" "e0" "Ljava/lang/Object;" .null) (F_e1 : Fld Z h0 a1 "java/util/ImmutableCollections$List12" "e1" "Ljava/lang/Object;" .null) :
    MetFree l (⟨"java/util/ImmutableCollections$List12", "<init>", "(Ljava/lang/Object;Ljava/lang/Object;)V"⟩ : MethodName) (head1 (Jvm.Cond.code (⟨"java/util/ImmutableCollections$List12", "<init>", "(Ljava/lang/Object;Ljava/lang/Object;)V"⟩ : MethodName) jdk_44_method_2_code 3 none :: ws) room15) (fun aa_ U_ => aa_ = #[(.ref a1), (.ref x1), (.ref x2)] ∧ Z.Warmed39 U_.vm ∧ U_.heap = h0) (fun _ _ _ _ _ => True) (fun _ U_ o_ W_ => ∃ v_ L_, o_ = .returned v_ ∧ (Q15 Z a1 x1 x2 h0 n0) v_ W_.heap L_ ∧ FrameEnd U_ o_ W_ L_ room15.cells room15.slots) := by
  refine own_met (Q := (Q15 Z a1 x1 x2 h0 n0)) (L0 := #[.val (.ref a1), .val (.ref x1), .val (.ref x2)]) (plainFor_of_name pn_10) (fun m => by first | (simp [entryFrame, mkF, argsToLocals, Value.category]; done) | rfl) ?_
  intro p e s m below meth c T0 X0 hx hby hml hown hnm hret hlk hZ e0
  have N0 := Fr.nil n0
  have K0 := Keep.refl h0 [a1]
  refine Go.st (T' := T0) (pc' := 1) (L' := #[.val (.ref a1), .val (.ref x1), .val (.ref x2)]) (S' := [(.ref a1)]) (fun t_ k_ => XS.aloadN X0.here hx rfl (hb hby d15_0) rfl rfl  k_) ?_
  obtain ⟨_, _, ⟨T1, L1, k1, n1⟩, -, X1, ⟨Lc1, hQ1, l1, y1, z1⟩, st1⟩ := X0.specialBack hx (y := (⟨"java/util/ImmutableCollections$AbstractImmutableList", "<init>", "()V"⟩ : MethodName)) rfl hown (mvT hZ (hw _ (List.mem_of_getElem? (i := 129) rfl))) (mvT hZ (hw _ (List.mem_of_getElem? (i := 130) rfl))) (mvT hZ (hw _ (List.mem_of_getElem? (i := 134) rfl))) (by decide) (backOf (W := 0) (rm16 l Z a0 hw [] a1 h0 n0 Z0) hZ (hw _ (List.mem_of_getElem? (i := 134) rfl)) (hw _ (List.mem_of_getElem? (i := 133) rfl)) (by decide) (by decide)) (g := (mkF m 1 #[.val (.ref a1), .val (.ref x1), .val (.ref x2)] [(.ref a1)])) rfl (by rw [hml]; rfl) (Steps.refl _) (a := a1) (argsL := []) (rest := []) (lenOf pd_4 rfl) rfl (by show 2 * 0 + _ ≤ _; exact Nat.le_of_eq rfl) (hb hby d15_1) (fun _ _ => ⟨rfl, e0, (by decide : 0 + 0 ≤ _), (by decide : 0 + 0 ≤ _)⟩)
  dsimp only [Pt.U, Pt.locs, Pt.cells, Pt.slots] at X1 l1 y1 z1 st1 hQ1
  subst l1 y1 z1
  obtain ⟨rfl, N1q, e1⟩ := hQ1
  have N1 := Fr.app N0 N1q
  refine Go.tr (T' := T1) (pc' := 4) (L' := #[.val (.ref a1), .val (.ref x1), .val (.ref x2)]) (S' := []) st1 ?_
  refine Go.st (T' := T1) (pc' := 5) (L' := #[.val (.ref a1), .val (.ref x1), .val (.ref x2)]) (S' := [(.ref a1)]) (fun t_ k_ => XS.aloadN X1.here hx rfl (hb hby d15_4) rfl rfl  k_) ?_
  refine Go.st (T' := T1) (pc' := 6) (L' := #[.val (.ref a1), .val (.ref x1), .val (.ref x2)]) (S' := [(.ref x1), (.ref a1)]) (fun t_ k_ => XS.aloadN X1.here hx rfl (hb hby d15_5) rfl rfl  k_) ?_
  obtain ⟨_, _, ⟨T2, L2, k2, n2⟩, -, X2, ⟨Lc2, hQ2, l2, y2, z2⟩, st2⟩ := Jvm.LawKit.callS X1 hx (y := (⟨"java/util/Objects", "requireNonNull", "(Ljava/lang/Object;)Ljava/lang/Object;"⟩ : MethodName)) hown (mvT hZ (hw _ (List.mem_of_getElem? (i := 148) rfl))) (mvT hZ (hw _ (List.mem_of_getElem? (i := 149) rfl))) (mvT hZ (hw _ (List.mem_of_getElem? (i := 55) rfl))) (mvT hZ (hw _ (List.mem_of_getElem? (i := 150) rfl))) (by decide) (backOf (W := 1) (rm19 l Z a0 hw [] x1 h0 n0 Z0) hZ (hw _ (List.mem_of_getElem? (i := 150) rfl)) (hw _ (List.mem_of_getElem? (i := 55) rfl)) (by decide) (by decide)) (g := (mkF m 6 #[.val (.ref a1), .val (.ref x1), .val (.ref x2)] [(.ref x1), (.ref a1)])) rfl (by rw [hml]; rfl) (argsL := [(.ref x1)]) (rest := [(.ref a1)]) (lenOf pd_6 rfl) rfl (by show 2 * 0 + _ ≤ _; exact Nat.le_of_eq rfl) (hb hby d15_6) (fun _ _ => ⟨rfl, e1, (by decide : 0 + 0 ≤ _), (by decide : 0 + 0 ≤ _)⟩)
  dsimp only [Pt.U, Pt.locs, Pt.cells, Pt.slots] at X2 l2 y2 z2 st2 hQ2
  subst l2 y2 z2
  obtain ⟨rfl, N2q, e2⟩ := hQ2
  have N2 := Fr.app N1 N2q
  refine Go.st (T' := T2) (pc' := 9) (L' := #[.val (.ref a1), .val (.ref x1), .val (.ref x2)]) (S' := [(.ref x1), (.ref a1)]) st2 ?_
  obtain ⟨T3, h3, X3, e3, W3, st3⟩ := putF X2 hx hZ hown (host := "") (Or.inl (hw _ (List.mem_of_getElem? (i := 151) rfl))) Via.refl e2 F_e0 E_a1 (Or.inr ⟨(hw _ (List.mem_of_getElem? (i := 152) rfl)), rfl, hnm⟩) (hw _ (List.mem_of_getElem? (i := 123) rfl)) (ty := (.object "java/lang/Object")) (by decide) rfl rfl (g := (mkF m 9 #[.val (.ref a1), .val (.ref x1), .val (.ref x2)] [(.ref x1), (.ref a1)])) rfl rfl (hb hby d15_9)
  replace Z0 := Nat.le_trans Z0 (Keep.of_wr W3).1
  replace K0 := K0.wr W3 (Or.inl (List.mem_of_getElem? (i := 0) rfl))
  replace E_a1 := E_a1.wr W3
  replace F_e1 := F_e1.other W3 (Or.inr (slot_ne (Or.inr (hw _ (List.mem_of_getElem? (i := 154) rfl))) (Or.inr (hw _ (List.mem_of_getElem? (i := 152) rfl))) (by decide) (t := (.object "java/lang/Object")) (t' := (.object "java/lang/Object")) (by decide) (by decide)))
  replace F_e0 := F_e0.same W3
  have N3 := Fr.snoc X3 N2 g_a1
  refine Go.st (T' := T3) (pc' := 12) (L' := #[.val (.ref a1), .val (.ref x1), .val (.ref x2)]) (S' := []) st3 ?_
  refine Go.st (T' := T3) (pc' := 13) (L' := #[.val (.ref a1), .val (.ref x1), .val (.ref x2)]) (S' := [(.ref a1)]) (fun t_ k_ => XS.aloadN X3.here hx rfl (hb hby d15_12) rfl rfl  k_) ?_
  refine Go.st (T' := T3) (pc' := 14) (L' := #[.val (.ref a1), .val (.ref x1), .val (.ref x2)]) (S' := [(.ref x2), (.ref a1)]) (fun t_ k_ => XS.aloadN X3.here hx rfl (hb hby d15_13) rfl rfl  k_) ?_
  obtain ⟨_, _, ⟨T4, L4, k4, n4⟩, -, X4, ⟨Lc4, hQ4, l4, y4, z4⟩, st4⟩ := Jvm.LawKit.callS X3 hx (y := (⟨"java/util/Objects", "requireNonNull", "(Ljava/lang/Object;)Ljava/lang/Object;"⟩ : MethodName)) hown (mvT hZ (hw _ (List.mem_of_getElem? (i := 148) rfl))) (mvT hZ (hw _ (List.mem_of_getElem? (i := 149) rfl))) (mvT hZ (hw _ (List.mem_of_getElem? (i := 55) rfl))) (mvT hZ (hw _ (List.mem_of_getElem? (i := 150) rfl))) (by decide) (backOf (W := 1) (rm19 l Z a0 hw [] x2 h3 n0 Z0) hZ (hw _ (List.mem_of_getElem? (i := 150) rfl)) (hw _ (List.mem_of_getElem? (i := 55) rfl)) (by decide) (by decide)) (g := (mkF m 14 #[.val (.ref a1), .val (.ref x1), .val (.ref x2)] [(.ref x2), (.ref a1)])) rfl (by rw [hml]; rfl) (argsL := [(.ref x2)]) (rest := [(.ref a1)]) (lenOf pd_6 rfl) rfl (by show 2 * 0 + _ ≤ _; exact Nat.le_of_eq rfl) (hb hby d15_14) (fun _ _ => ⟨rfl, e3, (by decide : 0 + 0 ≤ _), (by decide : 0 + 0 ≤ _)⟩)
  dsimp only [Pt.U, Pt.locs, Pt.cells, Pt.slots] at X4 l4 y4 z4 st4 hQ4
  subst l4 y4 z4
  obtain ⟨rfl, N4q, e4⟩ := hQ4
  have N4 := Fr.app N3 N4q
  refine Go.st (T' := T4) (pc' := 17) (L' := #[.val (.ref a1), .val (.ref x1), .val (.ref x2)]) (S' := [(.ref x2), (.ref a1)]) st4 ?_
  obtain ⟨T5, h5, X5, e5, W5, st5⟩ := putF X4 hx hZ hown (host := "") (Or.inl (hw _ (List.mem_of_getElem? (i := 153) rfl))) Via.refl e4 F_e1 E_a1 (Or.inr ⟨(hw _ (List.mem_of_getElem? (i := 154) rfl)), rfl, hnm⟩) (hw _ (List.mem_of_getElem? (i := 123) rfl)) (ty := (.object "java/lang/Object")) (by decide) rfl rfl (g := (mkF m 17 #[.val (.ref a1), .val (.ref x1), .val (.ref x2)] [(.ref x2), (.ref a1)])) rfl rfl (hb hby d15_17)
  replace Z0 := Nat.le_trans Z0 (Keep.of_wr W5).1
  replace K0 := K0.wr W5 (Or.inl (List.mem_of_getElem? (i := 0) rfl))
  replace E_a1 := E_a1.wr W5
  replace F_e0 := F_e0.other W5 (Or.inr (slot_ne (Or.inr (hw _ (List.mem_of_getElem? (i := 152) rfl))) (Or.inr (hw _ (List.mem_of_getElem? (i := 154) rfl))) (by decide) (t := (.object "java/lang/Object")) (t' := (.object "java/lang/Object")) (by decide) (by decide)))
  replace F_e1 := F_e1.same W5
  have N5 := Fr.snoc X5 N4 g_a1
  refine Go.st (T' := T5) (pc' := 20) (L' := #[.val (.ref a1), .val (.ref x1), .val (.ref x2)]) (S' := []) st5 ?_
  exact Go.retV X5 hx hlk hret (hb hby d15_20) (by decide) (by decide) (by rw [e5]; exact ⟨rfl, N5, K0, F_e0, F_e1⟩)
theorem d14_0 : decode jdk_40_method_38_code 0 = .ok (.new 96, 3) := by decide +kernel
theorem d14_3 : decode jdk_40_method_38_code 3 = .ok (.dup, 1) := by decide +kernel
theorem d14_4 : decode jdk_40_method_38_code 4 = .ok (.aload_n 0, 1) := by decide +kernel
theorem d14_5 : decode jdk_40_method_38_code 5 = .ok (.aload_n 1, 1) := by decide +kernel
theorem d14_6 : decode jdk_40_method_38_code 6 = .ok (.invokespecial 100, 3) := by decide +kernel
theorem d14_9 : decode jdk_40_method_38_code 9 = .ok (.areturn, 1) := by decide +kernel
theorem pd_7 : parseMethodDescriptor "(Ljava/lang/Object;Ljava/lang/Object;)V" = some ⟨[(.object "java/lang/Object"), (.object "java/lang/Object")], none⟩ := by decide +kernel
theorem pn_11 : plainName "java/util/List" = true := by first | (simp [plainName, overriddenIn]; done) | decide +kernel
def Q14 (Z : State) (x1 : Addr) (x2 : Addr) (h0 : Heap) (n0 : Nat) (v : Option Value) (h : Heap) (L : List Loc) : Prop := ∃ b : Addr, v = some (.ref b) ∧ Fr n0 L ∧ Keep h0 h [] ∧ n0 ≤ b ∧ h0.size ≤ b ∧ Exa Z h b "java/util/ImmutableCollections$List12" ∧ Fld Z h b "java/util/ImmutableCollections$List12" "e0" "Ljava/lang/Object;" (.ref x1) ∧ Fld Z h b "java/util/ImmutableCollections$List12" "e1" "Ljava/lang/Object;" (.ref x2)
def room14 : Room := { frames := 5, cells := 1, slots := 2, locals := 63 }
set_option maxRecDepth 65536 in
set_option maxHeartbeats 40000000 in
theorem rm14 (l : Launch) (Z : State) (a0 : Array Value) (hw : ∀ d ∈ tables_1, d.before a0 Z = true) (ws : List Jvm.Cond) (x1 : Addr) (x2 : Addr) (h0 : Heap) (n0 : Nat) (Z0 : n0 ≤ h0.size)  :
    MetFree l (⟨"java/util/List", "of", "(Ljava/lang/Object;Ljava/lang/Object;)Ljava/util/List;"⟩ : MethodName) (head1 (Jvm.Cond.code (⟨"java/util/List", "of", "(Ljava/lang/Object;Ljava/lang/Object;)Ljava/util/List;"⟩ : MethodName) jdk_40_method_38_code 2 (some (.object "java/util/List")) :: ws) room14) (fun aa_ U_ => aa_ = #[(.ref x1), (.ref x2)] ∧ Z.Warmed39 U_.vm ∧ U_.heap = h0) (fun _ _ _ _ _ => True) (fun _ U_ o_ W_ => ∃ v_ L_, o_ = .returned v_ ∧ (Q14 Z x1 x2 h0 n0) v_ W_.heap L_ ∧ FrameEnd U_ o_ W_ L_ room14.cells room14.slots) := by
  refine own_met (Q := (Q14 Z x1 x2 h0 n0)) (L0 := #[.val (.ref x1), .val (.ref x2)]) (plainFor_of_name pn_11) (fun m => by first | (simp [entryFrame, mkF, argsToLocals, Value.category]; done) | rfl) ?_
  intro p e s m below meth c T0 X0 hx hby hml hown hnm hret hlk hZ e0
  have N0 := Fr.nil n0
  have K0 := Keep.refl h0 []
  obtain ⟨T1, h1, X1, e1, E1, A1, D1, U1, st1⟩ := newO X0 hx hZ hown (hw _ (List.mem_of_getElem? (i := 122) rfl)) (hw _ (List.mem_of_getElem? (i := 123) rfl)) (hw _ (List.mem_of_getElem? (i := 124) rfl)) e0 (g := (mkF m 0 #[.val (.ref x1), .val (.ref x2)] [])) rfl (hb hby d14_0) (by decide) (by decide)
  obtain ⟨b1, g1⟩ : ∃ z, z = h0.size := ⟨_, rfl⟩
  rw [← g1] at A1 D1 U1 st1
  have g_b1 : n0 ≤ b1 := Nat.le_trans Z0 (Nat.le_of_eq g1.symm)
  have sz_b1 : h0.size ≤ b1 := Nat.le_trans K0.1 (Nat.le_of_eq g1.symm)
  replace Z0 := Nat.le_trans Z0 E1.1
  replace K0 := K0.ext E1
  have E_b1 := A1
  have F_b1_e0 : Fld Z h1 b1 "java/util/ImmutableCollections$List12" "e0" "Ljava/lang/Object;" .null := D1 (Or.inr (hw _ (List.mem_of_getElem? (i := 152) rfl))) (ty := (.object "java/lang/Object")) (by decide)
  have F_b1_e1 : Fld Z h1 b1 "java/util/ImmutableCollections$List12" "e1" "Ljava/lang/Object;" .null := D1 (Or.inr (hw _ (List.mem_of_getElem? (i := 154) rfl))) (ty := (.object "java/lang/Object")) (by decide)
  refine Go.st (T' := T1) (pc' := 3) (L' := #[.val (.ref x1), .val (.ref x2)]) (S' := [(.ref b1)]) st1 ?_
  refine Go.st (T' := T1) (pc' := 4) (L' := #[.val (.ref x1), .val (.ref x2)]) (S' := [(.ref b1), (.ref b1)]) (fun t_ k_ => XS.dup X1.here hx rfl (hb hby d14_3) rfl rfl k_) ?_
  refine Go.st (T' := T1) (pc' := 5) (L' := #[.val (.ref x1), .val (.ref x2)]) (S' := [(.ref x1), (.ref b1), (.ref b1)]) (fun t_ k_ => XS.aloadN X1.here hx rfl (hb hby d14_4) rfl rfl  k_) ?_
  refine Go.st (T' := T1) (pc' := 6) (L' := #[.val (.ref x1), .val (.ref x2)]) (S' := [(.ref x2), (.ref x1), (.ref b1), (.ref b1)]) (fun t_ k_ => XS.aloadN X1.here hx rfl (hb hby d14_5) rfl rfl  k_) ?_
  obtain ⟨_, _, ⟨T2, L2, k2, n2⟩, -, X2, ⟨Lc2, hQ2, l2, y2, z2⟩, st2⟩ := X1.specialBack hx (y := (⟨"java/util/ImmutableCollections$List12", "<init>", "(Ljava/lang/Object;Ljava/lang/Object;)V"⟩ : MethodName)) rfl hown (mvT hZ (hw _ (List.mem_of_getElem? (i := 125) rfl))) (mvT hZ (hw _ (List.mem_of_getElem? (i := 126) rfl))) (mvT hZ (hw _ (List.mem_of_getElem? (i := 128) rfl))) (by decide) (backOf (W := 1) (rm15 l Z a0 hw [] b1 x1 x2 h1 n0 Z0 E_b1 g_b1 F_b1_e0 F_b1_e1) hZ (hw _ (List.mem_of_getElem? (i := 128) rfl)) (hw _ (List.mem_of_getElem? (i := 124) rfl)) (by decide) (by decide)) (g := (mkF m 6 #[.val (.ref x1), .val (.ref x2)] [(.ref x2), (.ref x1), (.ref b1), (.ref b1)])) rfl (by rw [hml]; rfl) (Steps.refl _) (a := b1) (argsL := [(.ref x1), (.ref x2)]) (rest := [(.ref b1)]) (lenOf pd_7 rfl) rfl (by show 2 * 0 + _ ≤ _; exact Nat.le_of_eq rfl) (hb hby d14_6) (fun _ _ => ⟨rfl, e1, (by decide : 1 + 0 ≤ _), (by decide : 2 + 0 ≤ _)⟩)
  dsimp only [Pt.U, Pt.locs, Pt.cells, Pt.slots] at X2 l2 y2 z2 st2 hQ2
  subst l2 y2 z2
  obtain ⟨rfl, N2q, K2, G2_e0, G2_e1⟩ := hQ2
  have N2 := Fr.app N0 N2q
  obtain ⟨h2, e2⟩ : ∃ z, T2.heap = z := ⟨_, rfl⟩
  rw [e2] at K2 G2_e0 G2_e1
  replace Z0 := Nat.le_trans Z0 K2.1
  replace K0 := K0.trans K2 (allS (Or.inr sz_b1) all0)
  replace E_b1 := E_b1.keep K2
  refine Go.tr (T' := T2) (pc' := 9) (L' := #[.val (.ref x1), .val (.ref x2)]) (S' := [(.ref b1)]) st2 ?_
  exact Go.retO X2 hx hlk hret rfl (by simp [FieldType.isReference, Value.isRef]) (hb hby d14_9) (by decide) (by decide) (by rw [e2]; exact ⟨b1, rfl, N2, K0, g_b1, sz_b1, E_b1, G2_e0, G2_e1⟩)
theorem d13_0 : decode prog_38_method_7_code 0 = .ok (.aload_n 0, 1) := by decide +kernel
theorem d13_1 : decode prog_38_method_7_code 1 = .ok (.getfield 33, 3) := by decide +kernel
theorem d13_4 : decode prog_38_method_7_code 4 = .ok (.aload_n 0, 1) := by decide +kernel
theorem d13_5 : decode prog_38_method_7_code 5 = .ok (.getfield 35, 3) := by decide +kernel
theorem d13_8 : decode prog_38_method_7_code 8 = .ok (.invokestatic 55, 3) := by decide +kernel
theorem d13_11 : decode prog_38_method_7_code 11 = .ok (.areturn, 1) := by decide +kernel
theorem pd_8 : parseMethodDescriptor "(Ljava/lang/Object;Ljava/lang/Object;)Ljava/util/List;" = some ⟨[(.object "java/lang/Object"), (.object "java/lang/Object")], some (.object "java/util/List")⟩ := by decide +kernel
def Q13 (Z : State) (x1 : Addr) (x2 : Addr) (h0 : Heap) (n0 : Nat) (v : Option Value) (h : Heap) (L : List Loc) : Prop := ∃ b : Addr, v = some (.ref b) ∧ Fr n0 L ∧ Keep h0 h [] ∧ n0 ≤ b ∧ h0.size ≤ b ∧ Exa Z h b "java/util/ImmutableCollections$List12" ∧ Fld Z h b "java/util/ImmutableCollections$List12" "e0" "Ljava/lang/Object;" (.ref x1) ∧ Fld Z h b "java/util/ImmutableCollections$List12" "e1" "Ljava/lang/Object;" (.ref x2)
def room13 : Room := { frames := 6, cells := 1, slots := 2, locals := 76 }
set_option maxRecDepth 65536 in
set_option maxHeartbeats 40000000 in
theorem rm13 (l : Launch) (Z : State) (a0 : Array Value) (hw : ∀ d ∈ tables_1, d.before a0 Z = true) (ws : List Jvm.Cond) (a1 : Addr) (x1 : Addr) (x2 : Addr) (h0 : Heap) (n0 : Nat) (Z0 : n0 ≤ h0.size) (F_c : Fld Z h0 a1 "org/concordat/report/AtomicityViolation" "context" "Ljava/lang/String;" (.ref x1)) (F_w : Fld Z h0 a1 "org/concordat/report/AtomicityViolation" "witness" "Ljava/lang/String;" (.ref x2)) :
    MetFree l (⟨"org/concordat/report/AtomicityViolation", "identity", "()Ljava/util/List;"⟩ : MethodName) (head1 (Jvm.Cond.code (⟨"org/concordat/report/AtomicityViolation", "identity", "()Ljava/util/List;"⟩ : MethodName) prog_38_method_7_code 1 (some (.object "java/util/List")) :: ws) room13) (fun aa_ U_ => aa_ = #[(.ref a1)] ∧ Z.Warmed39 U_.vm ∧ U_.heap = h0) (fun _ _ _ _ _ => True) (fun _ U_ o_ W_ => ∃ v_ L_, o_ = .returned v_ ∧ (Q13 Z x1 x2 h0 n0) v_ W_.heap L_ ∧ FrameEnd U_ o_ W_ L_ room13.cells room13.slots) := by
  refine own_met (Q := (Q13 Z x1 x2 h0 n0)) (L0 := #[.val (.ref a1)]) (plainFor_of_name pn_6) (fun m => by first | (simp [entryFrame, mkF, argsToLocals, Value.category]; done) | rfl) ?_
  intro p e s m below meth c T0 X0 hx hby hml hown hnm hret hlk hZ e0
  have N0 := Fr.nil n0
  have K0 := Keep.refl h0 []
  refine Go.st (T' := T0) (pc' := 1) (L' := #[.val (.ref a1)]) (S' := [(.ref a1)]) (fun t_ k_ => XS.aloadN X0.here hx rfl (hb hby d13_0) rfl rfl  k_) ?_
  obtain ⟨T1, X1, e1, st1⟩ := getF X0 hx hZ hown (host := "") (Or.inl (hw _ (List.mem_of_getElem? (i := 105) rfl))) Via.refl e0 F_c (g := (mkF m 1 #[.val (.ref a1)] [(.ref a1)])) rfl rfl (hb hby d13_1)
  refine Go.st (T' := T1) (pc' := 4) (L' := #[.val (.ref a1)]) (S' := [(.ref x1)]) st1 ?_
  refine Go.st (T' := T1) (pc' := 5) (L' := #[.val (.ref a1)]) (S' := [(.ref a1), (.ref x1)]) (fun t_ k_ => XS.aloadN X1.here hx rfl (hb hby d13_4) rfl rfl  k_) ?_
  obtain ⟨T2, X2, e2, st2⟩ := getF X1 hx hZ hown (host := "") (Or.inl (hw _ (List.mem_of_getElem? (i := 107) rfl))) Via.refl e1 F_w (g := (mkF m 5 #[.val (.ref a1)] [(.ref a1), (.ref x1)])) rfl rfl (hb hby d13_5)
  refine Go.st (T' := T2) (pc' := 8) (L' := #[.val (.ref a1)]) (S' := [(.ref x2), (.ref x1)]) st2 ?_
  obtain ⟨_, _, ⟨T3, L3, k3, n3⟩, -, X3, ⟨Lc3, hQ3, l3, y3, z3⟩, st3⟩ := Jvm.LawKit.callS X2 hx (y := (⟨"java/util/List", "of", "(Ljava/lang/Object;Ljava/lang/Object;)Ljava/util/List;"⟩ : MethodName)) hown (mvT hZ (hw _ (List.mem_of_getElem? (i := 118) rfl))) (mvT hZ (hw _ (List.mem_of_getElem? (i := 119) rfl))) (mvT hZ (hw _ (List.mem_of_getElem? (i := 120) rfl))) (mvT hZ (hw _ (List.mem_of_getElem? (i := 121) rfl))) (by decide) (backOf (W := 0) (rm14 l Z a0 hw [] x1 x2 h0 n0 Z0) hZ (hw _ (List.mem_of_getElem? (i := 121) rfl)) (hw _ (List.mem_of_getElem? (i := 120) rfl)) (by decide) (by decide)) (g := (mkF m 8 #[.val (.ref a1)] [(.ref x2), (.ref x1)])) rfl (by rw [hml]; rfl) (argsL := [(.ref x1), (.ref x2)]) (rest := []) (lenOf pd_8 rfl) rfl (by show 2 * 0 + _ ≤ _; exact Nat.le_of_eq rfl) (hb hby d13_8) (fun _ _ => ⟨rfl, e2, (by decide : 0 + 1 ≤ _), (by decide : 0 + 2 ≤ _)⟩)
  dsimp only [Pt.U, Pt.locs, Pt.cells, Pt.slots] at X3 l3 y3 z3 st3 hQ3
  subst l3 y3 z3
  obtain ⟨b3, rfl, N3q, K3, g_b3, lt3, E_b3, Fa3, Fb3⟩ := hQ3
  have N3 := Fr.app N0 N3q
  have ne_a1_b3 : a1 ≠ b3 := Nat.ne_of_lt (Nat.lt_of_lt_of_le F_c.lt lt3)
  have sz_b3 : h0.size ≤ b3 := Nat.le_trans K0.1 lt3
  obtain ⟨h3, e3⟩ : ∃ z, T3.heap = z := ⟨_, rfl⟩
  rw [e3] at K3 E_b3 Fa3 Fb3
  replace Z0 := Nat.le_trans Z0 K3.1
  replace K0 := K0.trans K3 all0
  replace F_c := F_c.keep K3 nin0
  replace F_w := F_w.keep K3 nin0
  refine Go.st (T' := T3) (pc' := 11) (L' := #[.val (.ref a1)]) (S' := [(.ref b3)]) st3 ?_
  exact Go.retO X3 hx hlk hret rfl (by simp [FieldType.isReference, Value.isRef]) (hb hby d13_11) (by decide) (by decide) (by rw [e3]; exact ⟨b3, rfl, N3, K0, g_b3, sz_b3, E_b3, Fa3, Fb3⟩)
theorem d20_0 : decode jdk_44_method_3_code 0 = .ok (.aload_n 0, 1) := by decide +kernel
theorem d20_1 : decode jdk_44_method_3_code 1 = .ok (.getfield 24, 3) := by decide +kernel
theorem d20_4 : decode jdk_44_method_3_code 4 = .ok (.getstatic 19, 3) := by decide +kernel
theorem d20_7 : decode jdk_44_method_3_code 7 = .ok (.if_acmp .eq 7, 3) := by decide +kernel
theorem d20_10 : decode jdk_44_method_3_code 10 = .ok (.iconst 2, 1) := by decide +kernel
theorem d20_11 : decode jdk_44_method_3_code 11 = .ok (.goto 4, 3) := by decide +kernel
theorem d20_15 : decode jdk_44_method_3_code 15 = .ok (.ireturn, 1) := by decide +kernel
def Q20 (Z : State) (a1 : Addr) (x2 : Addr) (em : Addr) (h0 : Heap) (n0 : Nat) (v : Option Value) (h : Heap) (L : List Loc) : Prop := v = some (.int 2) ∧ Fr n0 L ∧ h = h0
def room20 : Room := { frames := 0, cells := 0, slots := 0, locals := 0 }
set_option maxRecDepth 65536 in
set_option maxHeartbeats 40000000 in
theorem rm20 (l : Launch) (Z : State) (a0 : Array Value) (hw : ∀ d ∈ tables_1, d.before a0 Z = true) (ws : List Jvm.Cond) (a1 : Addr) (x2 : Addr) (em : Addr) (h0 : Heap) (n0 : Nat) (Z0 : n0 ≤ h0.size) (SE : Sta Z Z.heap "java/util/ImmutableCollections" "EMPTY" "Ljava/lang/Object;" (.ref em)) (O0 : Old Z n0 h0) (nem : x2 ≠ em) (F_e1 : Fld Z h0 a1 "java/util/ImmutableCollections$List12" "e1" "Ljava/lang/Object;" (.ref x2)) :
    MetFree l (⟨"java/util/ImmutableCollections$List12", "size", "()I"⟩ : MethodName) (head1 (Jvm.Cond.code (⟨"java/util/ImmutableCollections$List12", "size", "()I"⟩ : MethodName) jdk_44_method_3_code 1 (some .int) :: ws) room20) (fun aa_ U_ => aa_ = #[(.ref a1)] ∧ Z.Warmed39 U_.vm ∧ U_.heap = h0) (fun _ _ _ _ _ => True) (fun _ U_ o_ W_ => ∃ v_ L_, o_ = .returned v_ ∧ (Q20 Z a1 x2 em h0 n0) v_ W_.heap L_ ∧ FrameEnd U_ o_ W_ L_ room20.cells room20.slots) := by
  refine own_met (Q := (Q20 Z a1 x2 em h0 n0)) (L0 := #[.val (.ref a1)]) (plainFor_of_name pn_10) (fun m => by first | (simp [entryFrame, mkF, argsToLocals, Value.category]; done) | rfl) ?_
  intro p e s m below meth c T0 X0 hx hby hml hown hnm hret hlk hZ e0
  have N0 := Fr.nil n0
  refine Go.st (T' := T0) (pc' := 1) (L' := #[.val (.ref a1)]) (S' := [(.ref a1)]) (fun t_ k_ => XS.aloadN X0.here hx rfl (hb hby d20_0) rfl rfl  k_) ?_
  obtain ⟨T1, X1, e1, st1⟩ := getF X0 hx hZ hown (host := "") (Or.inl (hw _ (List.mem_of_getElem? (i := 153) rfl))) Via.refl e0 F_e1 (g := (mkF m 1 #[.val (.ref a1)] [(.ref a1)])) rfl rfl (hb hby d20_1)
  refine Go.st (T' := T1) (pc' := 4) (L' := #[.val (.ref a1)]) (S' := [(.ref x2)]) st1 ?_
  obtain ⟨T2, X2, e2, st2⟩ := getS2 X1 hx hZ hown (Or.inr (hw _ (List.mem_of_getElem? (i := 164) rfl))) Via.refl e1 (SE.ext O0.2) (g := (mkF m 4 #[.val (.ref a1)] [(.ref x2)])) rfl (hb hby d20_4)
  refine Go.st (T' := T2) (pc' := 7) (L' := #[.val (.ref a1)]) (S' := [(.ref em), (.ref x2)]) st2 ?_
  refine Go.st (T' := T2) (pc' := 10) (L' := #[.val (.ref a1)]) (S' := []) (fun t_ k_ => Jvm.RoadKit.acmp (g := (mkF m 7 #[.val (.ref a1)] [(.ref em), (.ref x2)])) X2 hx rfl rfl rfl (pc0 := 7) (pc' := 10) (same := false) rfl (hb hby d20_7) rfl (decide_eq_false (fun q => nem (Value.ref.inj q))) (by decide) (by decide) k_) ?_
  refine Go.st (T' := T2) (pc' := 11) (L' := #[.val (.ref a1)]) (S' := [(.int (2 : Int32))]) (fun t_ k_ => XS.iconst X2.here hx rfl (hb hby d20_10) k_) ?_
  refine Go.st (T' := T2) (pc' := 15) (L' := #[.val (.ref a1)]) (S' := [(.int (2 : Int32))]) (fun t_ k_ => XS.goto X2.here hx rfl (pc0 := 11) (pc' := 15) rfl (hb hby d20_11) (by decide) (by decide) k_) ?_
  exact Go.retO X2 hx hlk hret rfl (by simp [FieldType.isReference, Value.isRef]) (hb hby d20_15) (by decide) (by decide) (by rw [e2]; exact ⟨rfl, N0, rfl⟩)
theorem d21_0 : decode jdk_44_method_5_code 0 = .ok (.iload_n 1, 1) := by decide +kernel
theorem d21_1 : decode jdk_44_method_5_code 1 = .ok (.ifCond .ne 8, 3) := by decide +kernel
theorem d21_9 : decode jdk_44_method_5_code 9 = .ok (.iload_n 1, 1) := by decide +kernel
theorem d21_10 : decode jdk_44_method_5_code 10 = .ok (.iconst 1, 1) := by decide +kernel
theorem d21_11 : decode jdk_44_method_5_code 11 = .ok (.if_icmp .ne 18, 3) := by decide +kernel
theorem d21_14 : decode jdk_44_method_5_code 14 = .ok (.aload_n 0, 1) := by decide +kernel
theorem d21_15 : decode jdk_44_method_5_code 15 = .ok (.getfield 24, 3) := by decide +kernel
theorem d21_18 : decode jdk_44_method_5_code 18 = .ok (.getstatic 19, 3) := by decide +kernel
theorem d21_21 : decode jdk_44_method_5_code 21 = .ok (.if_acmp .eq 8, 3) := by decide +kernel
theorem d21_24 : decode jdk_44_method_5_code 24 = .ok (.aload_n 0, 1) := by decide +kernel
theorem d21_25 : decode jdk_44_method_5_code 25 = .ok (.getfield 24, 3) := by decide +kernel
theorem d21_28 : decode jdk_44_method_5_code 28 = .ok (.areturn, 1) := by decide +kernel
def Qget1 (Z : State) (a1 : Addr) (x2 : Addr) (em : Addr) (h0 : Heap) (n0 : Nat) (v : Option Value) (h : Heap) (L : List Loc) : Prop := v = some (.ref x2) ∧ Fr n0 L ∧ h = h0
def roomget1 : Room := { frames := 0, cells := 0, slots := 0, locals := 0 }
set_option maxRecDepth 65536 in
set_option maxHeartbeats 40000000 in
theorem rmget1 (l : Launch) (Z : State) (a0 : Array Value) (hw : ∀ d ∈ tables_1, d.before a0 Z = true) (ws : List Jvm.Cond) (a1 : Addr) (x2 : Addr) (em : Addr) (h0 : Heap) (n0 : Nat) (Z0 : n0 ≤ h0.size) (SE : Sta Z Z.heap "java/util/ImmutableCollections" "EMPTY" "Ljava/lang/Object;" (.ref em)) (O0 : Old Z n0 h0) (nem : x2 ≠ em) (F_e1 : Fld Z h0 a1 "java/util/ImmutableCollections$List12" "e1" "Ljava/lang/Object;" (.ref x2)) :
    MetFree l (⟨"java/util/ImmutableCollections$List12", "get", "(I)Ljava/lang/Object;"⟩ : MethodName) (head1 (Jvm.Cond.code (⟨"java/util/ImmutableCollections$List12", "get", "(I)Ljava/lang/Object;"⟩ : MethodName) jdk_44_method_5_code 2 (some (.object "java/lang/Object")) :: ws) roomget1) (fun aa_ U_ => aa_ = #[(.ref a1), (.int (1 : Int32))] ∧ Z.Warmed39 U_.vm ∧ U_.heap = h0) (fun _ _ _ _ _ => True) (fun _ U_ o_ W_ => ∃ v_ L_, o_ = .returned v_ ∧ (Qget1 Z a1 x2 em h0 n0) v_ W_.heap L_ ∧ FrameEnd U_ o_ W_ L_ roomget1.cells roomget1.slots) := by
  refine own_met (Q := (Qget1 Z a1 x2 em h0 n0)) (L0 := #[.val (.ref a1), .val (.int (1 : Int32))]) (plainFor_of_name pn_10) (fun m => by first | (simp [entryFrame, mkF, argsToLocals, Value.category]; done) | rfl) ?_
  intro p e s m below meth c T0 X0 hx hby hml hown hnm hret hlk hZ e0
  have N0 := Fr.nil n0
  refine Go.st (T' := T0) (pc' := 1) (L' := #[.val (.ref a1), .val (.int (1 : Int32))]) (S' := [(.int (1 : Int32))]) (fun t_ k_ => XS.iloadN X0.here hx rfl (hb hby d21_0) rfl  k_) ?_
  refine Go.st (T' := T0) (pc' := 9) (L' := #[.val (.ref a1), .val (.int (1 : Int32))]) (S' := []) (fun t_ k_ => XS.ifYes X0.here hx rfl (pc0 := 1) (pc' := 9) rfl (hb hby d21_1) rfl ((if0 _ _).trans (feq (by decide : ¬ ((1 : Int32) = (0 : Int32)))).2) (by decide) (by decide) k_) ?_
  refine Go.st (T' := T0) (pc' := 10) (L' := #[.val (.ref a1), .val (.int (1 : Int32))]) (S' := [(.int (1 : Int32))]) (fun t_ k_ => XS.iloadN X0.here hx rfl (hb hby d21_9) rfl  k_) ?_
  refine Go.st (T' := T0) (pc' := 11) (L' := #[.val (.ref a1), .val (.int (1 : Int32))]) (S' := [(.int (1 : Int32)), (.int (1 : Int32))]) (fun t_ k_ => XS.iconst X0.here hx rfl (hb hby d21_10) k_) ?_
  refine Go.st (T' := T0) (pc' := 14) (L' := #[.val (.ref a1), .val (.int (1 : Int32))]) (S' := []) (fun t_ k_ => XS.icmpNo X0.here hx rfl (hb hby d21_11) rfl (teq (by decide : ((1 : Int32) = (1 : Int32)))).2 k_) ?_
  refine Go.st (T' := T0) (pc' := 15) (L' := #[.val (.ref a1), .val (.int (1 : Int32))]) (S' := [(.ref a1)]) (fun t_ k_ => XS.aloadN X0.here hx rfl (hb hby d21_14) rfl rfl  k_) ?_
  obtain ⟨T1, X1, e1, st1⟩ := getF X0 hx hZ hown (host := "") (Or.inl (hw _ (List.mem_of_getElem? (i := 153) rfl))) Via.refl e0 F_e1 (g := (mkF m 15 #[.val (.ref a1), .val (.int (1 : Int32))] [(.ref a1)])) rfl rfl (hb hby d21_15)
  refine Go.st (T' := T1) (pc' := 18) (L' := #[.val (.ref a1), .val (.int (1 : Int32))]) (S' := [(.ref x2)]) st1 ?_
  obtain ⟨T2, X2, e2, st2⟩ := getS2 X1 hx hZ hown (Or.inr (hw _ (List.mem_of_getElem? (i := 164) rfl))) Via.refl e1 (SE.ext O0.2) (g := (mkF m 18 #[.val (.ref a1), .val (.int (1 : Int32))] [(.ref x2)])) rfl (hb hby d21_18)
  refine Go.st (T' := T2) (pc' := 21) (L' := #[.val (.ref a1), .val (.int (1 : Int32))]) (S' := [(.ref em), (.ref x2)]) st2 ?_
  refine Go.st (T' := T2) (pc' := 24) (L' := #[.val (.ref a1), .val (.int (1 : Int32))]) (S' := []) (fun t_ k_ => Jvm.RoadKit.acmp (g := (mkF m 21 #[.val (.ref a1), .val (.int (1 : Int32))] [(.ref em), (.ref x2)])) X2 hx rfl rfl rfl (pc0 := 21) (pc' := 24) (same := false) rfl (hb hby d21_21) rfl (decide_eq_false (fun q => nem (Value.ref.inj q))) (by decide) (by decide) k_) ?_
  refine Go.st (T' := T2) (pc' := 25) (L' := #[.val (.ref a1), .val (.int (1 : Int32))]) (S' := [(.ref a1)]) (fun t_ k_ => XS.aloadN X2.here hx rfl (hb hby d21_24) rfl rfl  k_) ?_
  obtain ⟨T3, X3, e3, st3⟩ := getF X2 hx hZ hown (host := "") (Or.inl (hw _ (List.mem_of_getElem? (i := 153) rfl))) Via.refl e2 F_e1 (g := (mkF m 25 #[.val (.ref a1), .val (.int (1 : Int32))] [(.ref a1)])) rfl rfl (hb hby d21_25)
  refine Go.st (T' := T3) (pc' := 28) (L' := #[.val (.ref a1), .val (.int (1 : Int32))]) (S' := [(.ref x2)]) st3 ?_
  exact Go.retO X3 hx hlk hret rfl (by simp [FieldType.isReference, Value.isRef]) (hb hby d21_28) (by decide) (by decide) (by rw [e3]; exact ⟨rfl, N0, rfl⟩)
theorem d21_4 : decode jdk_44_method_5_code 4 = .ok (.aload_n 0, 1) := by decide +kernel
theorem d21_5 : decode jdk_44_method_5_code 5 = .ok (.getfield 13, 3) := by decide +kernel
theorem d21_8 : decode jdk_44_method_5_code 8 = .ok (.areturn, 1) := by decide +kernel
def Qget0 (Z : State) (a1 : Addr) (x1 : Addr) (h0 : Heap) (n0 : Nat) (v : Option Value) (h : Heap) (L : List Loc) : Prop := v = some (.ref x1) ∧ Fr n0 L ∧ h = h0
def roomget0 : Room := { frames := 0, cells := 0, slots := 0, locals := 0 }
set_option maxRecDepth 65536 in
set_option maxHeartbeats 40000000 in
theorem rmget0 (l : Launch) (Z : State) (a0 : Array Value) (hw : ∀ d ∈ tables_1, d.before a0 Z = true) (ws : List Jvm.Cond) (a1 : Addr) (x1 : Addr) (h0 : Heap) (n0 : Nat) (Z0 : n0 ≤ h0.size) (F_e0 : Fld Z h0 a1 "java/util/ImmutableCollections$List12" "e0" "Ljava/lang/Object;" (.ref x1)) :
    MetFree l (⟨"java/util/ImmutableCollections$List12", "get", "(I)Ljava/lang/Object;"⟩ : MethodName) (head1 (Jvm.Cond.code (⟨"java/util/ImmutableCollections$List12", "get", "(I)Ljava/lang/Object;"⟩ : MethodName) jdk_44_method_5_code 2 (some (.object "java/lang/Object")) :: ws) roomget0) (fun aa_ U_ => aa_ = #[(.ref a1), (.int (0 : Int32))] ∧ Z.Warmed39 U_.vm ∧ U_.heap = h0) (fun _ _ _ _ _ => True) (fun _ U_ o_ W_ => ∃ v_ L_, o_ = .returned v_ ∧ (Qget0 Z a1 x1 h0 n0) v_ W_.heap L_ ∧ FrameEnd U_ o_ W_ L_ roomget0.cells roomget0.slots) := by
  refine own_met (Q := (Qget0 Z a1 x1 h0 n0)) (L0 := #[.val (.ref a1), .val (.int (0 : Int32))]) (plainFor_of_name pn_10) (fun m => by first | (simp [entryFrame, mkF, argsToLocals, Value.category]; done) | rfl) ?_
  intro p e s m below meth c T0 X0 hx hby hml hown hnm hret hlk hZ e0
  have N0 := Fr.nil n0
  refine Go.st (T' := T0) (pc' := 1) (L' := #[.val (.ref a1), .val (.int (0 : Int32))]) (S' := [(.int (0 : Int32))]) (fun t_ k_ => XS.iloadN X0.here hx rfl (hb hby d21_0) rfl  k_) ?_
  refine Go.st (T' := T0) (pc' := 4) (L' := #[.val (.ref a1), .val (.int (0 : Int32))]) (S' := []) (fun t_ k_ => XS.ifNo X0.here hx rfl (hb hby d21_1) rfl ((if0 _ _).trans (teq (by decide : ((0 : Int32) = (0 : Int32)))).2) k_) ?_
  refine Go.st (T' := T0) (pc' := 5) (L' := #[.val (.ref a1), .val (.int (0 : Int32))]) (S' := [(.ref a1)]) (fun t_ k_ => XS.aloadN X0.here hx rfl (hb hby d21_4) rfl rfl  k_) ?_
  obtain ⟨T1, X1, e1, st1⟩ := getF X0 hx hZ hown (host := "") (Or.inl (hw _ (List.mem_of_getElem? (i := 151) rfl))) Via.refl e0 F_e0 (g := (mkF m 5 #[.val (.ref a1), .val (.int (0 : Int32))] [(.ref a1)])) rfl rfl (hb hby d21_5)
  refine Go.st (T' := T1) (pc' := 8) (L' := #[.val (.ref a1), .val (.int (0 : Int32))]) (S' := [(.ref x1)]) st1 ?_
  exact Go.retO X1 hx hlk hret rfl (by simp [FieldType.isReference, Value.isRef]) (hb hby d21_8) (by decide) (by decide) (by rw [e1]; exact ⟨rfl, N0, rfl⟩)
theorem d22_0 : decode jdk_42_method_66_code 0 = .ok (.aload_n 0, 1) := by decide +kernel
theorem d22_1 : decode jdk_42_method_66_code 1 = .ok (.aload_n 1, 1) := by decide +kernel
theorem d22_2 : decode jdk_42_method_66_code 2 = .ok (.if_acmp .ne 5, 3) := by decide +kernel
theorem d22_5 : decode jdk_42_method_66_code 5 = .ok (.iconst 1, 1) := by decide +kernel
theorem d22_6 : decode jdk_42_method_66_code 6 = .ok (.ireturn, 1) := by decide +kernel
def Q22 (Z : State) (a1 : Addr) (h0 : Heap) (n0 : Nat) (v : Option Value) (h : Heap) (L : List Loc) : Prop := v = some (.int 1) ∧ Fr n0 L ∧ h = h0
def room22 : Room := { frames := 0, cells := 0, slots := 0, locals := 0 }
set_option maxRecDepth 65536 in
set_option maxHeartbeats 40000000 in
theorem rm22 (l : Launch) (Z : State) (a0 : Array Value) (hw : ∀ d ∈ tables_1, d.before a0 Z = true) (ws : List Jvm.Cond) (a1 : Addr) (h0 : Heap) (n0 : Nat) (Z0 : n0 ≤ h0.size)  :
    MetFree l (⟨"java/lang/String", "equals", "(Ljava/lang/Object;)Z"⟩ : MethodName) (head1 (Jvm.Cond.code (⟨"java/lang/String", "equals", "(Ljava/lang/Object;)Z"⟩ : MethodName) jdk_42_method_66_code 3 (some .boolean) :: ws) room22) (fun aa_ U_ => aa_ = #[(.ref a1), (.ref a1)] ∧ Z.Warmed39 U_.vm ∧ U_.heap = h0) (fun _ _ _ _ _ => True) (fun _ U_ o_ W_ => ∃ v_ L_, o_ = .returned v_ ∧ (Q22 Z a1 h0 n0) v_ W_.heap L_ ∧ FrameEnd U_ o_ W_ L_ room22.cells room22.slots) := by
  refine own_met (Q := (Q22 Z a1 h0 n0)) (L0 := #[.val (.ref a1), .val (.ref a1), .unset]) (plainFor_of_name pn_0) (fun m => by first | (simp [entryFrame, mkF, argsToLocals, Value.category]; done) | rfl) ?_
  intro p e s m below meth c T0 X0 hx hby hml hown hnm hret hlk hZ e0
  have N0 := Fr.nil n0
  refine Go.st (T' := T0) (pc' := 1) (L' := #[.val (.ref a1), .val (.ref a1), .unset]) (S' := [(.ref a1)]) (fun t_ k_ => XS.aloadN X0.here hx rfl (hb hby d22_0) rfl rfl  k_) ?_
  refine Go.st (T' := T0) (pc' := 2) (L' := #[.val (.ref a1), .val (.ref a1), .unset]) (S' := [(.ref a1), (.ref a1)]) (fun t_ k_ => XS.aloadN X0.here hx rfl (hb hby d22_1) rfl rfl  k_) ?_
  refine Go.st (T' := T0) (pc' := 5) (L' := #[.val (.ref a1), .val (.ref a1), .unset]) (S' := []) (fun t_ k_ => Jvm.RoadKit.acmp (g := (mkF m 2 #[.val (.ref a1), .val (.ref a1), .unset] [(.ref a1), (.ref a1)])) X0 hx rfl rfl rfl (pc0 := 2) (pc' := 5) (same := true) rfl (hb hby d22_2) rfl (decide_eq_true rfl) (by decide) (by decide) k_) ?_
  refine Go.st (T' := T0) (pc' := 6) (L' := #[.val (.ref a1), .val (.ref a1), .unset]) (S' := [(.int (1 : Int32))]) (fun t_ k_ => XS.iconst X0.here hx rfl (hb hby d22_5) k_) ?_
  exact Go.retN X0 hx hlk hret (by simp) (hb hby d22_6) (by decide) (by decide) (by rw [e0]; exact ⟨rfl, N0, rfl⟩)
theorem d1_0 : decode method_2_code 0 = .ok (.iload_n 0, 1) := by decide +kernel
theorem d1_1 : decode method_2_code 1 = .ok (.sipush 255, 3) := by decide +kernel
theorem d1_4 : decode method_2_code 4 = .ok (.iand, 1) := by decide +kernel
theorem d1_5 : decode method_2_code 5 = .ok (.i2c, 1) := by decide +kernel
theorem d1_6 : decode method_2_code 6 = .ok (.istore_n 2, 1) := by decide +kernel
theorem d1_7 : decode method_2_code 7 = .ok (.iload_n 0, 1) := by decide +kernel
theorem d1_8 : decode method_2_code 8 = .ok (.bipush 8, 2) := by decide +kernel
theorem d1_10 : decode method_2_code 10 = .ok (.iushr, 1) := by decide +kernel
theorem d1_11 : decode method_2_code 11 = .ok (.sipush 255, 3) := by decide +kernel
theorem d1_14 : decode method_2_code 14 = .ok (.iand, 1) := by decide +kernel
theorem d1_15 : decode method_2_code 15 = .ok (.i2c, 1) := by decide +kernel
theorem d1_16 : decode method_2_code 16 = .ok (.istore_n 3, 1) := by decide +kernel
theorem d1_17 : decode method_2_code 17 = .ok (.iload_n 0, 1) := by decide +kernel
theorem d1_18 : decode method_2_code 18 = .ok (.bipush 16, 2) := by decide +kernel
theorem d1_20 : decode method_2_code 20 = .ok (.iushr, 1) := by decide +kernel
theorem d1_21 : decode method_2_code 21 = .ok (.sipush 255, 3) := by decide +kernel
theorem d1_24 : decode method_2_code 24 = .ok (.iand, 1) := by decide +kernel
theorem d1_25 : decode method_2_code 25 = .ok (.i2c, 1) := by decide +kernel
theorem d1_26 : decode method_2_code 26 = .ok (.istore 4, 2) := by decide +kernel
theorem d1_28 : decode method_2_code 28 = .ok (.iload_n 1, 1) := by decide +kernel
theorem d1_29 : decode method_2_code 29 = .ok (.ifCond .ne 14, 3) := by decide +kernel
theorem d1_32 : decode method_2_code 32 = .ok (.new 7, 3) := by decide +kernel
theorem d1_35 : decode method_2_code 35 = .ok (.dup, 1) := by decide +kernel
theorem d1_36 : decode method_2_code 36 = .ok (.iconst 0, 1) := by decide +kernel
theorem d1_37 : decode method_2_code 37 = .ok (.newarray .char, 2) := by decide +kernel
theorem d1_39 : decode method_2_code 39 = .ok (.invokespecial 9, 3) := by decide +kernel
theorem d1_42 : decode method_2_code 42 = .ok (.areturn, 1) := by decide +kernel
theorem d1_43 : decode method_2_code 43 = .ok (.iload_n 1, 1) := by decide +kernel
theorem d1_44 : decode method_2_code 44 = .ok (.iconst 1, 1) := by decide +kernel
theorem d1_45 : decode method_2_code 45 = .ok (.if_icmp .ne 8, 3) := by decide +kernel
theorem d1_48 : decode method_2_code 48 = .ok (.iload_n 2, 1) := by decide +kernel
theorem d1_49 : decode method_2_code 49 = .ok (.invokestatic 12, 3) := by decide +kernel
theorem d1_52 : decode method_2_code 52 = .ok (.areturn, 1) := by decide +kernel
theorem d1_53 : decode method_2_code 53 = .ok (.iload_n 1, 1) := by decide +kernel
theorem d1_54 : decode method_2_code 54 = .ok (.iconst 2, 1) := by decide +kernel
theorem d1_55 : decode method_2_code 55 = .ok (.if_icmp .ne 22, 3) := by decide +kernel
theorem d1_58 : decode method_2_code 58 = .ok (.new 7, 3) := by decide +kernel
theorem d1_61 : decode method_2_code 61 = .ok (.dup, 1) := by decide +kernel
theorem d1_62 : decode method_2_code 62 = .ok (.iconst 2, 1) := by decide +kernel
theorem d1_63 : decode method_2_code 63 = .ok (.newarray .char, 2) := by decide +kernel
theorem d1_65 : decode method_2_code 65 = .ok (.dup, 1) := by decide +kernel
theorem d1_66 : decode method_2_code 66 = .ok (.iconst 0, 1) := by decide +kernel
theorem d1_67 : decode method_2_code 67 = .ok (.iload_n 2, 1) := by decide +kernel
theorem d1_68 : decode method_2_code 68 = .ok (.castore, 1) := by decide +kernel
theorem d1_69 : decode method_2_code 69 = .ok (.dup, 1) := by decide +kernel
theorem d1_70 : decode method_2_code 70 = .ok (.iconst 1, 1) := by decide +kernel
theorem d1_71 : decode method_2_code 71 = .ok (.iload_n 3, 1) := by decide +kernel
theorem d1_72 : decode method_2_code 72 = .ok (.castore, 1) := by decide +kernel
theorem d1_73 : decode method_2_code 73 = .ok (.invokespecial 9, 3) := by decide +kernel
theorem d1_76 : decode method_2_code 76 = .ok (.areturn, 1) := by decide +kernel
theorem d1_77 : decode method_2_code 77 = .ok (.new 7, 3) := by decide +kernel
theorem d1_80 : decode method_2_code 80 = .ok (.dup, 1) := by decide +kernel
theorem d1_81 : decode method_2_code 81 = .ok (.iconst 3, 1) := by decide +kernel
theorem d1_82 : decode method_2_code 82 = .ok (.newarray .char, 2) := by decide +kernel
theorem d1_84 : decode method_2_code 84 = .ok (.dup, 1) := by decide +kernel
theorem d1_85 : decode method_2_code 85 = .ok (.iconst 0, 1) := by decide +kernel
theorem d1_86 : decode method_2_code 86 = .ok (.iload_n 2, 1) := by decide +kernel
theorem d1_87 : decode method_2_code 87 = .ok (.castore, 1) := by decide +kernel
theorem d1_88 : decode method_2_code 88 = .ok (.dup, 1) := by decide +kernel
theorem d1_89 : decode method_2_code 89 = .ok (.iconst 1, 1) := by decide +kernel
theorem d1_90 : decode method_2_code 90 = .ok (.iload_n 3, 1) := by decide +kernel
theorem d1_91 : decode method_2_code 91 = .ok (.castore, 1) := by decide +kernel
theorem d1_92 : decode method_2_code 92 = .ok (.dup, 1) := by decide +kernel
theorem d1_93 : decode method_2_code 93 = .ok (.iconst 2, 1) := by decide +kernel
theorem d1_94 : decode method_2_code 94 = .ok (.iload 4, 2) := by decide +kernel
theorem d1_96 : decode method_2_code 96 = .ok (.castore, 1) := by decide +kernel
theorem d1_97 : decode method_2_code 97 = .ok (.invokespecial 9, 3) := by decide +kernel
theorem d1_100 : decode method_2_code 100 = .ok (.areturn, 1) := by decide +kernel
theorem pd_9 : parseMethodDescriptor "([C)V" = some ⟨[(.array .char)], none⟩ := by decide +kernel
theorem pd_10 : parseMethodDescriptor "(C)Ljava/lang/String;" = some ⟨[.char], some (.object "java/lang/String")⟩ := by decide +kernel
theorem pn_12 : plainName "org/concordat/report/AtomicityViolationIdentityPinLaw" = true := by first | (simp [plainName, overriddenIn]; done) | decide +kernel
def Q1 (Z : State)  (h0 : Heap) (n0 : Nat) (v : Option Value) (h : Heap) (L : List Loc) : Prop := ∃ b : Addr, v = some (.ref b) ∧ Fr n0 L ∧ Keep h0 h [] ∧ n0 ≤ b ∧ h0.size ≤ b ∧ Exa Z h b "java/lang/String"
def room1 : Room := { frames := 4, cells := 6, slots := 12, locals := 66 }
set_option maxRecDepth 65536 in
set_option maxHeartbeats 40000000 in
theorem rm1 (l : Launch) (Z : State) (a0 : Array Value) (hw : ∀ d ∈ tables_1, d.before a0 Z = true) (ws : List Jvm.Cond) (p1 : Int32) (p2 : Int32) (gC : Int32) (h0 : Heap) (n0 : Nat) (Z0 : n0 ≤ h0.size) (SC : Sta Z Z.heap "java/lang/String" "COMPACT_STRINGS" "Z" (.int gC)) (PC : ¬ (gC = (0 : Int32))) (O0 : Old Z n0 h0) :
    MetFree l (⟨"org/concordat/report/AtomicityViolationIdentityPinLaw", "str", "(II)Ljava/lang/String;"⟩ : MethodName) (head1 (Jvm.Cond.code (⟨"org/concordat/report/AtomicityViolationIdentityPinLaw", "str", "(II)Ljava/lang/String;"⟩ : MethodName) method_2_code 5 (some (.object "java/lang/String")) :: ws) room1) (fun aa_ U_ => aa_ = #[(.int p1), (.int p2)] ∧ Z.Warmed39 U_.vm ∧ U_.heap = h0 ∧ CHv Z EL U_.vm h0) (fun _ _ _ _ _ => True) (fun _ U_ o_ W_ => ∃ v_ L_, o_ = .returned v_ ∧ (Q1 Z  h0 n0) v_ W_.heap L_ ∧ CHr Z EL U_.vm U_.heap W_.vm W_.heap ∧ ReturnedEndW U_ o_ W_ L_ room1.cells room1.slots) := by
  refine own_metH (Q := (Q1 Z  h0 n0)) (L0 := #[.val (.int p1), .val (.int p2), .unset, .unset, .unset]) (plainFor_of_name pn_12) (fun m => by first | (simp [entryFrame, mkF, argsToLocals, Value.category]; done) | rfl) ?_
  intro p e s m below meth c T0 X0 hx hby hml hown hnm hret hlk hZ e0 hs0 CR hS hk
  have N0 := Fr.nil n0
  have K0 := Keep.refl h0 []
  refine GoH.st (T' := T0) (pc' := 1) (L' := #[.val (.int p1), .val (.int p2), .unset, .unset, .unset]) (S' := [(.int p1)]) (fun t_ k_ => XS.iloadN X0.here hx rfl (hb hby d1_0) rfl  k_) ?_
  refine GoH.st (T' := T0) (pc' := 4) (L' := #[.val (.int p1), .val (.int p2), .unset, .unset, .unset]) (S' := [(.int (255 : Int32)), (.int p1)]) (fun t_ k_ => XS.sipush X0.here hx rfl (hb hby d1_1) k_) ?_
  refine GoH.st (T' := T0) (pc' := 5) (L' := #[.val (.int p1), .val (.int p2), .unset, .unset, .unset]) (S' := [(.int (p1 &&& (255 : Int32)))]) (fun t_ k_ => XS.iand X0.here hx rfl (hb hby d1_4) rfl k_) ?_
  refine GoH.st (T' := T0) (pc' := 6) (L' := #[.val (.int p1), .val (.int p2), .unset, .unset, .unset]) (S' := [(.int ((p1 &&& (255 : Int32)).toUInt32.toUInt16.toUInt32.toInt32))]) (fun t_ k_ => XS.i2c X0.here hx rfl (hb hby d1_5) rfl k_) ?_
  refine GoH.st (T' := T0) (pc' := 7) (L' := #[.val (.int p1), .val (.int p2), .val (.int ((p1 &&& (255 : Int32)).toUInt32.toUInt16.toUInt32.toInt32)), .unset, .unset]) (S' := []) (fun t_ k_ => XS.istoreN X0.here hx rfl (hb hby d1_6) rfl (l' := #[.val (.int p1), .val (.int p2), .val (.int ((p1 &&& (255 : Int32)).toUInt32.toUInt16.toUInt32.toInt32)), .unset, .unset]) rfl k_) ?_
  refine GoH.st (T' := T0) (pc' := 8) (L' := #[.val (.int p1), .val (.int p2), .val (.int ((p1 &&& (255 : Int32)).toUInt32.toUInt16.toUInt32.toInt32)), .unset, .unset]) (S' := [(.int p1)]) (fun t_ k_ => XS.iloadN X0.here hx rfl (hb hby d1_7) rfl  k_) ?_
  refine GoH.st (T' := T0) (pc' := 10) (L' := #[.val (.int p1), .val (.int p2), .val (.int ((p1 &&& (255 : Int32)).toUInt32.toUInt16.toUInt32.toInt32)), .unset, .unset]) (S' := [(.int (8 : Int32)), (.int p1)]) (fun t_ k_ => XS.bipush X0.here hx rfl (hb hby d1_8) k_) ?_
  refine GoH.st (T' := T0) (pc' := 11) (L' := #[.val (.int p1), .val (.int p2), .val (.int ((p1 &&& (255 : Int32)).toUInt32.toUInt16.toUInt32.toInt32)), .unset, .unset]) (S' := [(.int ((p1.toUInt32 >>> ((8 : Int32) &&& 31).toUInt32).toInt32))]) (fun t_ k_ => XS.iushr X0.here hx rfl (hb hby d1_10) rfl k_) ?_
  refine GoH.st (T' := T0) (pc' := 14) (L' := #[.val (.int p1), .val (.int p2), .val (.int ((p1 &&& (255 : Int32)).toUInt32.toUInt16.toUInt32.toInt32)), .unset, .unset]) (S' := [(.int (255 : Int32)), (.int ((p1.toUInt32 >>> ((8 : Int32) &&& 31).toUInt32).toInt32))]) (fun t_ k_ => XS.sipush X0.here hx rfl (hb hby d1_11) k_) ?_
  refine GoH.st (T' := T0) (pc' := 15) (L' := #[.val (.int p1), .val (.int p2), .val (.int ((p1 &&& (255 : Int32)).toUInt32.toUInt16.toUInt32.toInt32)), .unset, .unset]) (S' := [(.int (((p1.toUInt32 >>> ((8 : Int32) &&& 31).toUInt32).toInt32) &&& (255 : Int32)))]) (fun t_ k_ => XS.iand X0.here hx rfl (hb hby d1_14) rfl k_) ?_
  refine GoH.st (T' := T0) (pc' := 16) (L' := #[.val (.int p1), .val (.int p2), .val (.int ((p1 &&& (255 : Int32)).toUInt32.toUInt16.toUInt32.toInt32)), .unset, .unset]) (S' := [(.int ((((p1.toUInt32 >>> ((8 : Int32) &&& 31).toUInt32).toInt32) &&& (255 : Int32)).toUInt32.toUInt16.toUInt32.toInt32))]) (fun t_ k_ => XS.i2c X0.here hx rfl (hb hby d1_15) rfl k_) ?_
  refine GoH.st (T' := T0) (pc' := 17) (L' := #[.val (.int p1), .val (.int p2), .val (.int ((p1 &&& (255 : Int32)).toUInt32.toUInt16.toUInt32.toInt32)), .val (.int ((((p1.toUInt32 >>> ((8 : Int32) &&& 31).toUInt32).toInt32) &&& (255 : Int32)).toUInt32.toUInt16.toUInt32.toInt32)), .unset]) (S' := []) (fun t_ k_ => XS.istoreN X0.here hx rfl (hb hby d1_16) rfl (l' := #[.val (.int p1), .val (.int p2), .val (.int ((p1 &&& (255 : Int32)).toUInt32.toUInt16.toUInt32.toInt32)), .val (.int ((((p1.toUInt32 >>> ((8 : Int32) &&& 31).toUInt32).toInt32) &&& (255 : Int32)).toUInt32.toUInt16.toUInt32.toInt32)), .unset]) rfl k_) ?_
  refine GoH.st (T' := T0) (pc' := 18) (L' := #[.val (.int p1), .val (.int p2), .val (.int ((p1 &&& (255 : Int32)).toUInt32.toUInt16.toUInt32.toInt32)), .val (.int ((((p1.toUInt32 >>> ((8 : Int32) &&& 31).toUInt32).toInt32) &&& (255 : Int32)).toUInt32.toUInt16.toUInt32.toInt32)), .unset]) (S' := [(.int p1)]) (fun t_ k_ => XS.iloadN X0.here hx rfl (hb hby d1_17) rfl  k_) ?_
  refine GoH.st (T' := T0) (pc' := 20) (L' := #[.val (.int p1), .val (.int p2), .val (.int ((p1 &&& (255 : Int32)).toUInt32.toUInt16.toUInt32.toInt32)), .val (.int ((((p1.toUInt32 >>> ((8 : Int32) &&& 31).toUInt32).toInt32) &&& (255 : Int32)).toUInt32.toUInt16.toUInt32.toInt32)), .unset]) (S' := [(.int (16 : Int32)), (.int p1)]) (fun t_ k_ => XS.bipush X0.here hx rfl (hb hby d1_18) k_) ?_
  refine GoH.st (T' := T0) (pc' := 21) (L' := #[.val (.int p1), .val (.int p2), .val (.int ((p1 &&& (255 : Int32)).toUInt32.toUInt16.toUInt32.toInt32)), .val (.int ((((p1.toUInt32 >>> ((8 : Int32) &&& 31).toUInt32).toInt32) &&& (255 : Int32)).toUInt32.toUInt16.toUInt32.toInt32)), .unset]) (S' := [(.int ((p1.toUInt32 >>> ((16 : Int32) &&& 31).toUInt32).toInt32))]) (fun t_ k_ => XS.iushr X0.here hx rfl (hb hby d1_20) rfl k_) ?_
  refine GoH.st (T' := T0) (pc' := 24) (L' := #[.val (.int p1), .val (.int p2), .val (.int ((p1 &&& (255 : Int32)).toUInt32.toUInt16.toUInt32.toInt32)), .val (.int ((((p1.toUInt32 >>> ((8 : Int32) &&& 31).toUInt32).toInt32) &&& (255 : Int32)).toUInt32.toUInt16.toUInt32.toInt32)), .unset]) (S' := [(.int (255 : Int32)), (.int ((p1.toUInt32 >>> ((16 : Int32) &&& 31).toUInt32).toInt32))]) (fun t_ k_ => XS.sipush X0.here hx rfl (hb hby d1_21) k_) ?_
  refine GoH.st (T' := T0) (pc' := 25) (L' := #[.val (.int p1), .val (.int p2), .val (.int ((p1 &&& (255 : Int32)).toUInt32.toUInt16.toUInt32.toInt32)), .val (.int ((((p1.toUInt32 >>> ((8 : Int32) &&& 31).toUInt32).toInt32) &&& (255 : Int32)).toUInt32.toUInt16.toUInt32.toInt32)), .unset]) (S' := [(.int (((p1.toUInt32 >>> ((16 : Int32) &&& 31).toUInt32).toInt32) &&& (255 : Int32)))]) (fun t_ k_ => XS.iand X0.here hx rfl (hb hby d1_24) rfl k_) ?_
  refine GoH.st (T' := T0) (pc' := 26) (L' := #[.val (.int p1), .val (.int p2), .val (.int ((p1 &&& (255 : Int32)).toUInt32.toUInt16.toUInt32.toInt32)), .val (.int ((((p1.toUInt32 >>> ((8 : Int32) &&& 31).toUInt32).toInt32) &&& (255 : Int32)).toUInt32.toUInt16.toUInt32.toInt32)), .unset]) (S' := [(.int ((((p1.toUInt32 >>> ((16 : Int32) &&& 31).toUInt32).toInt32) &&& (255 : Int32)).toUInt32.toUInt16.toUInt32.toInt32))]) (fun t_ k_ => XS.i2c X0.here hx rfl (hb hby d1_25) rfl k_) ?_
  refine GoH.st (T' := T0) (pc' := 28) (L' := #[.val (.int p1), .val (.int p2), .val (.int ((p1 &&& (255 : Int32)).toUInt32.toUInt16.toUInt32.toInt32)), .val (.int ((((p1.toUInt32 >>> ((8 : Int32) &&& 31).toUInt32).toInt32) &&& (255 : Int32)).toUInt32.toUInt16.toUInt32.toInt32)), .val (.int ((((p1.toUInt32 >>> ((16 : Int32) &&& 31).toUInt32).toInt32) &&& (255 : Int32)).toUInt32.toUInt16.toUInt32.toInt32))]) (S' := []) (fun t_ k_ => XS.istore X0.here hx rfl (hb hby d1_26) rfl (l' := #[.val (.int p1), .val (.int p2), .val (.int ((p1 &&& (255 : Int32)).toUInt32.toUInt16.toUInt32.toInt32)), .val (.int ((((p1.toUInt32 >>> ((8 : Int32) &&& 31).toUInt32).toInt32) &&& (255 : Int32)).toUInt32.toUInt16.toUInt32.toInt32)), .val (.int ((((p1.toUInt32 >>> ((16 : Int32) &&& 31).toUInt32).toInt32) &&& (255 : Int32)).toUInt32.toUInt16.toUInt32.toInt32))]) rfl k_) ?_
  refine GoH.st (T' := T0) (pc' := 29) (L' := #[.val (.int p1), .val (.int p2), .val (.int ((p1 &&& (255 : Int32)).toUInt32.toUInt16.toUInt32.toInt32)), .val (.int ((((p1.toUInt32 >>> ((8 : Int32) &&& 31).toUInt32).toInt32) &&& (255 : Int32)).toUInt32.toUInt16.toUInt32.toInt32)), .val (.int ((((p1.toUInt32 >>> ((16 : Int32) &&& 31).toUInt32).toInt32) &&& (255 : Int32)).toUInt32.toUInt16.toUInt32.toInt32))]) (S' := [(.int p2)]) (fun t_ k_ => XS.iloadN X0.here hx rfl (hb hby d1_28) rfl  k_) ?_
  by_cases hc29_1 : p2 = (0 : Int32)
  · refine GoH.st (T' := T0) (pc' := 32) (L' := #[.val (.int p1), .val (.int p2), .val (.int ((p1 &&& (255 : Int32)).toUInt32.toUInt16.toUInt32.toInt32)), .val (.int ((((p1.toUInt32 >>> ((8 : Int32) &&& 31).toUInt32).toInt32) &&& (255 : Int32)).toUInt32.toUInt16.toUInt32.toInt32)), .val (.int ((((p1.toUInt32 >>> ((16 : Int32) &&& 31).toUInt32).toInt32) &&& (255 : Int32)).toUInt32.toUInt16.toUInt32.toInt32))]) (S' := []) (fun t_ k_ => XS.ifNo X0.here hx rfl (hb hby d1_29) rfl ((if0 _ _).trans (teq hc29_1).2) k_) ?_
    obtain ⟨T2, h2, X2, e2, E2, A2, D2, U2, st2⟩ := newO X0 hx hZ hown (hw _ (List.mem_of_getElem? (i := 4) rfl)) (hw _ (List.mem_of_getElem? (i := 5) rfl)) (hw _ (List.mem_of_getElem? (i := 6) rfl)) e0 (g := (mkF m 32 #[.val (.int p1), .val (.int p2), .val (.int ((p1 &&& (255 : Int32)).toUInt32.toUInt16.toUInt32.toInt32)), .val (.int ((((p1.toUInt32 >>> ((8 : Int32) &&& 31).toUInt32).toInt32) &&& (255 : Int32)).toUInt32.toUInt16.toUInt32.toInt32)), .val (.int ((((p1.toUInt32 >>> ((16 : Int32) &&& 31).toUInt32).toInt32) &&& (255 : Int32)).toUInt32.toUInt16.toUInt32.toInt32))] [])) rfl (hb hby d1_32) (by decide) (by decide)
    obtain ⟨b2, g2⟩ : ∃ z, z = h0.size := ⟨_, rfl⟩
    rw [← g2] at A2 D2 U2 st2
    have g_b2 : n0 ≤ b2 := Nat.le_trans Z0 (Nat.le_of_eq g2.symm)
    have sz_b2 : h0.size ≤ b2 := Nat.le_trans K0.1 (Nat.le_of_eq g2.symm)
    have S_b2 : Safe Z EL s.vm h2 b2 := Safe.ext E2 CR.1 (Safe.new (Nat.le_of_eq g2.symm))
    replace CR := CR.trans (CHr.ext E2 CR.1)
    replace hk := Nat.le_trans hk E2.1
    replace Z0 := Nat.le_trans Z0 E2.1
    replace K0 := K0.ext E2
    replace O0 := O0.ext E2
    have E_b2 := A2
    have F_b2_coder : Fld Z h2 b2 "java/lang/String" "coder" "B" (.int (0 : Int32)) := D2 (Or.inr (hw _ (List.mem_of_getElem? (i := 31) rfl))) (ty := .byte) (by decide)
    have F_b2_value : Fld Z h2 b2 "java/lang/String" "value" "[B" .null := D2 (Or.inr (hw _ (List.mem_of_getElem? (i := 33) rfl))) (ty := (.array .byte)) (by decide)
    refine GoH.st (T' := T2) (pc' := 35) (L' := #[.val (.int p1), .val (.int p2), .val (.int ((p1 &&& (255 : Int32)).toUInt32.toUInt16.toUInt32.toInt32)), .val (.int ((((p1.toUInt32 >>> ((8 : Int32) &&& 31).toUInt32).toInt32) &&& (255 : Int32)).toUInt32.toUInt16.toUInt32.toInt32)), .val (.int ((((p1.toUInt32 >>> ((16 : Int32) &&& 31).toUInt32).toInt32) &&& (255 : Int32)).toUInt32.toUInt16.toUInt32.toInt32))]) (S' := [(.ref b2)]) st2 ?_
    refine GoH.st (T' := T2) (pc' := 36) (L' := #[.val (.int p1), .val (.int p2), .val (.int ((p1 &&& (255 : Int32)).toUInt32.toUInt16.toUInt32.toInt32)), .val (.int ((((p1.toUInt32 >>> ((8 : Int32) &&& 31).toUInt32).toInt32) &&& (255 : Int32)).toUInt32.toUInt16.toUInt32.toInt32)), .val (.int ((((p1.toUInt32 >>> ((16 : Int32) &&& 31).toUInt32).toInt32) &&& (255 : Int32)).toUInt32.toUInt16.toUInt32.toInt32))]) (S' := [(.ref b2), (.ref b2)]) (fun t_ k_ => XS.dup X2.here hx rfl (hb hby d1_35) rfl rfl k_) ?_
    refine GoH.st (T' := T2) (pc' := 37) (L' := #[.val (.int p1), .val (.int p2), .val (.int ((p1 &&& (255 : Int32)).toUInt32.toUInt16.toUInt32.toInt32)), .val (.int ((((p1.toUInt32 >>> ((8 : Int32) &&& 31).toUInt32).toInt32) &&& (255 : Int32)).toUInt32.toUInt16.toUInt32.toInt32)), .val (.int ((((p1.toUInt32 >>> ((16 : Int32) &&& 31).toUInt32).toInt32) &&& (255 : Int32)).toUInt32.toUInt16.toUInt32.toInt32))]) (S' := [(.int (0 : Int32)), (.ref b2), (.ref b2)]) (fun t_ k_ => XS.iconst X2.here hx rfl (hb hby d1_36) k_) ?_
    obtain ⟨T3, h3, k3, X3, e3, E3, A3, st3⟩ := newP X2 hx hZ (hw _ (List.mem_of_getElem? (i := 7) rfl)) e2 (g := (mkF m 37 #[.val (.int p1), .val (.int p2), .val (.int ((p1 &&& (255 : Int32)).toUInt32.toUInt16.toUInt32.toInt32)), .val (.int ((((p1.toUInt32 >>> ((8 : Int32) &&& 31).toUInt32).toInt32) &&& (255 : Int32)).toUInt32.toUInt16.toUInt32.toInt32)), .val (.int ((((p1.toUInt32 >>> ((16 : Int32) &&& 31).toUInt32).toInt32) &&& (255 : Int32)).toUInt32.toUInt16.toUInt32.toInt32))] [(.int (0 : Int32)), (.ref b2), (.ref b2)])) rfl (hb hby d1_37) rfl (by decide) (cap := 0) (by decide) (by decide) (by decide) (by decide)
    obtain ⟨b3, g3⟩ : ∃ z, z = h2.size := ⟨_, rfl⟩
    rw [← g3] at A3 st3
    have ne_b2_b3 : b2 ≠ b3 := Nat.ne_of_lt (Nat.lt_of_lt_of_le E_b2.lt (Nat.le_of_eq g3.symm))
    have g_b3 : n0 ≤ b3 := Nat.le_trans Z0 (Nat.le_of_eq g3.symm)
    have sz_b3 : h0.size ≤ b3 := Nat.le_trans K0.1 (Nat.le_of_eq g3.symm)
    replace S_b2 := Safe.ext E3 CR.1 S_b2
    replace CR := CR.trans (CHr.ext E3 CR.1)
    replace hk := Nat.le_trans hk E3.1
    replace Z0 := Nat.le_trans Z0 E3.1
    replace K0 := K0.ext E3
    replace O0 := O0.ext E3
    replace E_b2 := E_b2.ext E3
    replace F_b2_coder := F_b2_coder.ext E3
    replace F_b2_value := F_b2_value.ext E3
    have V_b3 : Arv Z h3 b3 k3 .char (0 : Int32) [] (.int (0 : Int32)) := (Arv.new A3 (by decide)).pad (pad_rep [] (.int (0 : Int32)) 0)
    refine GoH.st (T' := T3) (pc' := 39) (L' := #[.val (.int p1), .val (.int p2), .val (.int ((p1 &&& (255 : Int32)).toUInt32.toUInt16.toUInt32.toInt32)), .val (.int ((((p1.toUInt32 >>> ((8 : Int32) &&& 31).toUInt32).toInt32) &&& (255 : Int32)).toUInt32.toUInt16.toUInt32.toInt32)), .val (.int ((((p1.toUInt32 >>> ((16 : Int32) &&& 31).toUInt32).toInt32) &&& (255 : Int32)).toUInt32.toUInt16.toUInt32.toInt32))]) (S' := [(.ref b3), (.ref b2), (.ref b2)]) st3 ?_
    obtain ⟨_, _, ⟨T4, L4, k4, n4⟩, -, X4, hS4, hg4, ⟨Lc4, hQ4, l4, y4, z4, CR4⟩, st4⟩ := X3.specialBackS hx (y := (⟨"java/lang/String", "<init>", "([C)V"⟩ : MethodName)) rfl hown (mvT hZ (hw _ (List.mem_of_getElem? (i := 8) rfl))) (mvT hZ (hw _ (List.mem_of_getElem? (i := 9) rfl))) (mvT hZ (hw _ (List.mem_of_getElem? (i := 10) rfl))) (by decide) (backOfSH (W := 1) (rmE3 l Z a0 hw [] b2 b3 _ h3 n0 Z0 E_b2 g_b2 F_b2_value F_b2_coder V_b3 ne_b2_b3) hZ (hw _ (List.mem_of_getElem? (i := 10) rfl)) (hw _ (List.mem_of_getElem? (i := 6) rfl)) (by decide) (by decide) (own_EW hw) CR.1) (g := (mkF m 39 #[.val (.int p1), .val (.int p2), .val (.int ((p1 &&& (255 : Int32)).toUInt32.toUInt16.toUInt32.toInt32)), .val (.int ((((p1.toUInt32 >>> ((8 : Int32) &&& 31).toUInt32).toInt32) &&& (255 : Int32)).toUInt32.toUInt16.toUInt32.toInt32)), .val (.int ((((p1.toUInt32 >>> ((16 : Int32) &&& 31).toUInt32).toInt32) &&& (255 : Int32)).toUInt32.toUInt16.toUInt32.toInt32))] [(.ref b3), (.ref b2), (.ref b2)])) rfl (by rw [hml]; rfl) (Steps.refl _) (a := b2) (argsL := [(.ref b3)]) (rest := [(.ref b2)]) (lenOf pd_9 rfl) rfl (by show 2 * 0 + _ ≤ _; exact Nat.le_of_eq rfl) (hb hby d1_39) (fun _ _ => ⟨rfl, e3, (by decide : 2 + 4 ≤ _), (by decide : 4 + 8 ≤ _)⟩)
    dsimp only [Pt.U, Pt.locs, Pt.cells, Pt.slots] at X4 l4 y4 z4 st4 hQ4 hS4 hg4 CR4
    subst l4 y4 z4
    replace X4 : Stand p l e _ (s.setVm T4.vm) m _ below meth c T4 _ _ _ := X4
    replace hS := foldS hS (T := T3) (Nat.le_trans hk (Nat.le_of_eq (congrArg Array.size e3.symm))) hS4 hg4
    replace hk := Nat.le_refl T4.heap.size
    replace hZ : Z.Warmed39 (s.setVm T4.vm).vm := State.Warmed39.trans (t := s.setVm s.vm) hZ hS4.1
    replace hown : (s.setVm T4.vm).vm.findClass "org/concordat/report/AtomicityViolationIdentityPinLaw" = some m.cls := by rw [show (s.setVm T4.vm).vm = T4.vm from rfl, hS4.1.alike.findClass]; exact hown
    obtain ⟨t4, kb4, rfl, N4q, K4, Co4, nt4, Va4, Ay4⟩ := hQ4
    have N4 := Fr.app N0 N4q
    obtain ⟨h4, e4⟩ : ∃ z, T4.heap = z := ⟨_, rfl⟩
    rw [e4] at K4 Co4 Va4 Ay4 CR4
    replace S_b2 := CR4.safe E_b2.lt S_b2
    replace CR := CR.trans CR4
    replace Z0 := Nat.le_trans Z0 K4.1
    replace K0 := K0.trans K4 (allS (Or.inr sz_b2) all0)
    replace O0 := O0.keep K4 (allS g_b2 all0)
    replace E_b2 := E_b2.keep K4
    replace V_b3 := V_b3.keep K4 (ninS (Ne.symm ne_b2_b3) nin0)
    replace hk : T4.heap.size ≤ h4.size := Nat.le_of_eq (congrArg Array.size e4)
    refine GoH.tr (T' := T4) (pc' := 42) (L' := #[.val (.int p1), .val (.int p2), .val (.int ((p1 &&& (255 : Int32)).toUInt32.toUInt16.toUInt32.toInt32)), .val (.int ((((p1.toUInt32 >>> ((8 : Int32) &&& 31).toUInt32).toInt32) &&& (255 : Int32)).toUInt32.toUInt16.toUInt32.toInt32)), .val (.int ((((p1.toUInt32 >>> ((16 : Int32) &&& 31).toUInt32).toInt32) &&& (255 : Int32)).toUInt32.toUInt16.toUInt32.toInt32))]) (S' := [(.ref b2)]) st4 ?_
    exact GoH.retO X4 hx hlk hret rfl (by simp [FieldType.isReference, Value.isRef]) (hb hby d1_42) (by decide) (by decide) hS hk e4 hs0 hZ (own_EW hw) CR (by rw [e4]; exact ⟨b2, rfl, N4, K0, g_b2, sz_b2, E_b2⟩)
  · refine GoH.st (T' := T0) (pc' := 43) (L' := #[.val (.int p1), .val (.int p2), .val (.int ((p1 &&& (255 : Int32)).toUInt32.toUInt16.toUInt32.toInt32)), .val (.int ((((p1.toUInt32 >>> ((8 : Int32) &&& 31).toUInt32).toInt32) &&& (255 : Int32)).toUInt32.toUInt16.toUInt32.toInt32)), .val (.int ((((p1.toUInt32 >>> ((16 : Int32) &&& 31).toUInt32).toInt32) &&& (255 : Int32)).toUInt32.toUInt16.toUInt32.toInt32))]) (S' := []) (fun t_ k_ => XS.ifYes X0.here hx rfl (pc0 := 29) (pc' := 43) rfl (hb hby d1_29) rfl ((if0 _ _).trans (feq hc29_1).2) (by decide) (by decide) k_) ?_
    refine GoH.st (T' := T0) (pc' := 44) (L' := #[.val (.int p1), .val (.int p2), .val (.int ((p1 &&& (255 : Int32)).toUInt32.toUInt16.toUInt32.toInt32)), .val (.int ((((p1.toUInt32 >>> ((8 : Int32) &&& 31).toUInt32).toInt32) &&& (255 : Int32)).toUInt32.toUInt16.toUInt32.toInt32)), .val (.int ((((p1.toUInt32 >>> ((16 : Int32) &&& 31).toUInt32).toInt32) &&& (255 : Int32)).toUInt32.toUInt16.toUInt32.toInt32))]) (S' := [(.int p2)]) (fun t_ k_ => XS.iloadN X0.here hx rfl (hb hby d1_43) rfl  k_) ?_
    refine GoH.st (T' := T0) (pc' := 45) (L' := #[.val (.int p1), .val (.int p2), .val (.int ((p1 &&& (255 : Int32)).toUInt32.toUInt16.toUInt32.toInt32)), .val (.int ((((p1.toUInt32 >>> ((8 : Int32) &&& 31).toUInt32).toInt32) &&& (255 : Int32)).toUInt32.toUInt16.toUInt32.toInt32)), .val (.int ((((p1.toUInt32 >>> ((16 : Int32) &&& 31).toUInt32).toInt32) &&& (255 : Int32)).toUInt32.toUInt16.toUInt32.toInt32))]) (S' := [(.int (1 : Int32)), (.int p2)]) (fun t_ k_ => XS.iconst X0.here hx rfl (hb hby d1_44) k_) ?_
    by_cases hc45_6 : p2 = (1 : Int32)
    · refine GoH.st (T' := T0) (pc' := 48) (L' := #[.val (.int p1), .val (.int p2), .val (.int ((p1 &&& (255 : Int32)).toUInt32.toUInt16.toUInt32.toInt32)), .val (.int ((((p1.toUInt32 >>> ((8 : Int32) &&& 31).toUInt32).toInt32) &&& (255 : Int32)).toUInt32.toUInt16.toUInt32.toInt32)), .val (.int ((((p1.toUInt32 >>> ((16 : Int32) &&& 31).toUInt32).toInt32) &&& (255 : Int32)).toUInt32.toUInt16.toUInt32.toInt32))]) (S' := []) (fun t_ k_ => XS.icmpNo X0.here hx rfl (hb hby d1_45) rfl (teq hc45_6).2 k_) ?_
      refine GoH.st (T' := T0) (pc' := 49) (L' := #[.val (.int p1), .val (.int p2), .val (.int ((p1 &&& (255 : Int32)).toUInt32.toUInt16.toUInt32.toInt32)), .val (.int ((((p1.toUInt32 >>> ((8 : Int32) &&& 31).toUInt32).toInt32) &&& (255 : Int32)).toUInt32.toUInt16.toUInt32.toInt32)), .val (.int ((((p1.toUInt32 >>> ((16 : Int32) &&& 31).toUInt32).toInt32) &&& (255 : Int32)).toUInt32.toUInt16.toUInt32.toInt32))]) (S' := [(.int ((p1 &&& (255 : Int32)).toUInt32.toUInt16.toUInt32.toInt32))]) (fun t_ k_ => XS.iloadN X0.here hx rfl (hb hby d1_48) rfl  k_) ?_
      obtain ⟨_, _, ⟨T7, L7, k7, n7⟩, -, X7, ⟨Lc7, hQ7, l7, y7, z7⟩, st7⟩ := Jvm.LawKit.callS X0 hx (y := (⟨"java/lang/String", "valueOf", "(C)Ljava/lang/String;"⟩ : MethodName)) hown (mvT hZ (hw _ (List.mem_of_getElem? (i := 179) rfl))) (mvT hZ (hw _ (List.mem_of_getElem? (i := 180) rfl))) (mvT hZ (hw _ (List.mem_of_getElem? (i := 6) rfl))) (mvT hZ (hw _ (List.mem_of_getElem? (i := 181) rfl))) (by decide) (backOf (W := 0) (rm23 l Z a0 hw [] ((p1 &&& (255 : Int32)).toUInt32.toUInt16.toUInt32.toInt32) gC h0 n0 Z0 SC PC O0 (own_c255 _)) hZ (hw _ (List.mem_of_getElem? (i := 181) rfl)) (hw _ (List.mem_of_getElem? (i := 6) rfl)) (by decide) (by decide)) (g := (mkF m 49 #[.val (.int p1), .val (.int p2), .val (.int ((p1 &&& (255 : Int32)).toUInt32.toUInt16.toUInt32.toInt32)), .val (.int ((((p1.toUInt32 >>> ((8 : Int32) &&& 31).toUInt32).toInt32) &&& (255 : Int32)).toUInt32.toUInt16.toUInt32.toInt32)), .val (.int ((((p1.toUInt32 >>> ((16 : Int32) &&& 31).toUInt32).toInt32) &&& (255 : Int32)).toUInt32.toUInt16.toUInt32.toInt32))] [(.int ((p1 &&& (255 : Int32)).toUInt32.toUInt16.toUInt32.toInt32))])) rfl (by rw [hml]; rfl) (argsL := [(.int ((p1 &&& (255 : Int32)).toUInt32.toUInt16.toUInt32.toInt32))]) (rest := []) (lenOf pd_10 rfl) rfl (by show 2 * 0 + _ ≤ _; exact Nat.le_of_eq rfl) (hb hby d1_49) (fun _ _ => ⟨rfl, e0, (by decide : 0 + 2 ≤ _), (by decide : 0 + 5 ≤ _)⟩)
      dsimp only [Pt.U, Pt.locs, Pt.cells, Pt.slots] at X7 l7 y7 z7 st7 hQ7
      subst l7 y7 z7
      obtain ⟨b7, t7, kb7, rfl, N7q, K7, g_b7, lt7, E_b7, Co7, Va7, V_t7⟩ := hQ7
      have N7 := Fr.app N0 N7q
      have sz_b7 : h0.size ≤ b7 := Nat.le_trans K0.1 lt7
      obtain ⟨h7, e7⟩ : ∃ z, T7.heap = z := ⟨_, rfl⟩
      rw [e7] at K7 E_b7 Co7 Va7 V_t7
      have Sk8 : ∀ x ∈ [], Safe Z EL s.vm h0 x := all0
      replace CR := CR.trans (CHr.keep K7 Sk8 CR.1)
      replace hk := Nat.le_trans hk K7.1
      replace Z0 := Nat.le_trans Z0 K7.1
      replace K0 := K0.trans K7 all0
      replace O0 := O0.keep K7 all0
      refine GoH.st (T' := T7) (pc' := 52) (L' := #[.val (.int p1), .val (.int p2), .val (.int ((p1 &&& (255 : Int32)).toUInt32.toUInt16.toUInt32.toInt32)), .val (.int ((((p1.toUInt32 >>> ((8 : Int32) &&& 31).toUInt32).toInt32) &&& (255 : Int32)).toUInt32.toUInt16.toUInt32.toInt32)), .val (.int ((((p1.toUInt32 >>> ((16 : Int32) &&& 31).toUInt32).toInt32) &&& (255 : Int32)).toUInt32.toUInt16.toUInt32.toInt32))]) (S' := [(.ref b7)]) st7 ?_
      exact GoH.retO X7 hx hlk hret rfl (by simp [FieldType.isReference, Value.isRef]) (hb hby d1_52) (by decide) (by decide) hS hk e7 hs0 hZ (own_EW hw) CR (by rw [e7]; exact ⟨b7, rfl, N7, K0, g_b7, sz_b7, E_b7⟩)
    · refine GoH.st (T' := T0) (pc' := 53) (L' := #[.val (.int p1), .val (.int p2), .val (.int ((p1 &&& (255 : Int32)).toUInt32.toUInt16.toUInt32.toInt32)), .val (.int ((((p1.toUInt32 >>> ((8 : Int32) &&& 31).toUInt32).toInt32) &&& (255 : Int32)).toUInt32.toUInt16.toUInt32.toInt32)), .val (.int ((((p1.toUInt32 >>> ((16 : Int32) &&& 31).toUInt32).toInt32) &&& (255 : Int32)).toUInt32.toUInt16.toUInt32.toInt32))]) (S' := []) (fun t_ k_ => XS.icmpYes X0.here hx rfl (pc0 := 45) (pc' := 53) rfl (hb hby d1_45) rfl (feq hc45_6).2 (by decide) (by decide) k_) ?_
      refine GoH.st (T' := T0) (pc' := 54) (L' := #[.val (.int p1), .val (.int p2), .val (.int ((p1 &&& (255 : Int32)).toUInt32.toUInt16.toUInt32.toInt32)), .val (.int ((((p1.toUInt32 >>> ((8 : Int32) &&& 31).toUInt32).toInt32) &&& (255 : Int32)).toUInt32.toUInt16.toUInt32.toInt32)), .val (.int ((((p1.toUInt32 >>> ((16 : Int32) &&& 31).toUInt32).toInt32) &&& (255 : Int32)).toUInt32.toUInt16.toUInt32.toInt32))]) (S' := [(.int p2)]) (fun t_ k_ => XS.iloadN X0.here hx rfl (hb hby d1_53) rfl  k_) ?_
      refine GoH.st (T' := T0) (pc' := 55) (L' := #[.val (.int p1), .val (.int p2), .val (.int ((p1 &&& (255 : Int32)).toUInt32.toUInt16.toUInt32.toInt32)), .val (.int ((((p1.toUInt32 >>> ((8 : Int32) &&& 31).toUInt32).toInt32) &&& (255 : Int32)).toUInt32.toUInt16.toUInt32.toInt32)), .val (.int ((((p1.toUInt32 >>> ((16 : Int32) &&& 31).toUInt32).toInt32) &&& (255 : Int32)).toUInt32.toUInt16.toUInt32.toInt32))]) (S' := [(.int (2 : Int32)), (.int p2)]) (fun t_ k_ => XS.iconst X0.here hx rfl (hb hby d1_54) k_) ?_
      by_cases hc55_9 : p2 = (2 : Int32)
      · refine GoH.st (T' := T0) (pc' := 58) (L' := #[.val (.int p1), .val (.int p2), .val (.int ((p1 &&& (255 : Int32)).toUInt32.toUInt16.toUInt32.toInt32)), .val (.int ((((p1.toUInt32 >>> ((8 : Int32) &&& 31).toUInt32).toInt32) &&& (255 : Int32)).toUInt32.toUInt16.toUInt32.toInt32)), .val (.int ((((p1.toUInt32 >>> ((16 : Int32) &&& 31).toUInt32).toInt32) &&& (255 : Int32)).toUInt32.toUInt16.toUInt32.toInt32))]) (S' := []) (fun t_ k_ => XS.icmpNo X0.here hx rfl (hb hby d1_55) rfl (teq hc55_9).2 k_) ?_
        obtain ⟨T10, h10, X10, e10, E10, A10, D10, U10, st10⟩ := newO X0 hx hZ hown (hw _ (List.mem_of_getElem? (i := 4) rfl)) (hw _ (List.mem_of_getElem? (i := 5) rfl)) (hw _ (List.mem_of_getElem? (i := 6) rfl)) e0 (g := (mkF m 58 #[.val (.int p1), .val (.int p2), .val (.int ((p1 &&& (255 : Int32)).toUInt32.toUInt16.toUInt32.toInt32)), .val (.int ((((p1.toUInt32 >>> ((8 : Int32) &&& 31).toUInt32).toInt32) &&& (255 : Int32)).toUInt32.toUInt16.toUInt32.toInt32)), .val (.int ((((p1.toUInt32 >>> ((16 : Int32) &&& 31).toUInt32).toInt32) &&& (255 : Int32)).toUInt32.toUInt16.toUInt32.toInt32))] [])) rfl (hb hby d1_58) (by decide) (by decide)
        obtain ⟨b10, g10⟩ : ∃ z, z = h0.size := ⟨_, rfl⟩
        rw [← g10] at A10 D10 U10 st10
        have g_b10 : n0 ≤ b10 := Nat.le_trans Z0 (Nat.le_of_eq g10.symm)
        have sz_b10 : h0.size ≤ b10 := Nat.le_trans K0.1 (Nat.le_of_eq g10.symm)
        have S_b10 : Safe Z EL s.vm h10 b10 := Safe.ext E10 CR.1 (Safe.new (Nat.le_of_eq g10.symm))
        replace CR := CR.trans (CHr.ext E10 CR.1)
        replace hk := Nat.le_trans hk E10.1
        replace Z0 := Nat.le_trans Z0 E10.1
        replace K0 := K0.ext E10
        replace O0 := O0.ext E10
        have E_b10 := A10
        have F_b10_coder : Fld Z h10 b10 "java/lang/String" "coder" "B" (.int (0 : Int32)) := D10 (Or.inr (hw _ (List.mem_of_getElem? (i := 31) rfl))) (ty := .byte) (by decide)
        have F_b10_value : Fld Z h10 b10 "java/lang/String" "value" "[B" .null := D10 (Or.inr (hw _ (List.mem_of_getElem? (i := 33) rfl))) (ty := (.array .byte)) (by decide)
        refine GoH.st (T' := T10) (pc' := 61) (L' := #[.val (.int p1), .val (.int p2), .val (.int ((p1 &&& (255 : Int32)).toUInt32.toUInt16.toUInt32.toInt32)), .val (.int ((((p1.toUInt32 >>> ((8 : Int32) &&& 31).toUInt32).toInt32) &&& (255 : Int32)).toUInt32.toUInt16.toUInt32.toInt32)), .val (.int ((((p1.toUInt32 >>> ((16 : Int32) &&& 31).toUInt32).toInt32) &&& (255 : Int32)).toUInt32.toUInt16.toUInt32.toInt32))]) (S' := [(.ref b10)]) st10 ?_
        refine GoH.st (T' := T10) (pc' := 62) (L' := #[.val (.int p1), .val (.int p2), .val (.int ((p1 &&& (255 : Int32)).toUInt32.toUInt16.toUInt32.toInt32)), .val (.int ((((p1.toUInt32 >>> ((8 : Int32) &&& 31).toUInt32).toInt32) &&& (255 : Int32)).toUInt32.toUInt16.toUInt32.toInt32)), .val (.int ((((p1.toUInt32 >>> ((16 : Int32) &&& 31).toUInt32).toInt32) &&& (255 : Int32)).toUInt32.toUInt16.toUInt32.toInt32))]) (S' := [(.ref b10), (.ref b10)]) (fun t_ k_ => XS.dup X10.here hx rfl (hb hby d1_61) rfl rfl k_) ?_
        refine GoH.st (T' := T10) (pc' := 63) (L' := #[.val (.int p1), .val (.int p2), .val (.int ((p1 &&& (255 : Int32)).toUInt32.toUInt16.toUInt32.toInt32)), .val (.int ((((p1.toUInt32 >>> ((8 : Int32) &&& 31).toUInt32).toInt32) &&& (255 : Int32)).toUInt32.toUInt16.toUInt32.toInt32)), .val (.int ((((p1.toUInt32 >>> ((16 : Int32) &&& 31).toUInt32).toInt32) &&& (255 : Int32)).toUInt32.toUInt16.toUInt32.toInt32))]) (S' := [(.int (2 : Int32)), (.ref b10), (.ref b10)]) (fun t_ k_ => XS.iconst X10.here hx rfl (hb hby d1_62) k_) ?_
        obtain ⟨T11, h11, k11, X11, e11, E11, A11, st11⟩ := newP X10 hx hZ (hw _ (List.mem_of_getElem? (i := 7) rfl)) e10 (g := (mkF m 63 #[.val (.int p1), .val (.int p2), .val (.int ((p1 &&& (255 : Int32)).toUInt32.toUInt16.toUInt32.toInt32)), .val (.int ((((p1.toUInt32 >>> ((8 : Int32) &&& 31).toUInt32).toInt32) &&& (255 : Int32)).toUInt32.toUInt16.toUInt32.toInt32)), .val (.int ((((p1.toUInt32 >>> ((16 : Int32) &&& 31).toUInt32).toInt32) &&& (255 : Int32)).toUInt32.toUInt16.toUInt32.toInt32))] [(.int (2 : Int32)), (.ref b10), (.ref b10)])) rfl (hb hby d1_63) rfl (by decide) (cap := 2) (by decide) (by decide) (by decide) (by decide)
        obtain ⟨b11, g11⟩ : ∃ z, z = h10.size := ⟨_, rfl⟩
        rw [← g11] at A11 st11
        have ne_b10_b11 : b10 ≠ b11 := Nat.ne_of_lt (Nat.lt_of_lt_of_le E_b10.lt (Nat.le_of_eq g11.symm))
        have g_b11 : n0 ≤ b11 := Nat.le_trans Z0 (Nat.le_of_eq g11.symm)
        have sz_b11 : h0.size ≤ b11 := Nat.le_trans K0.1 (Nat.le_of_eq g11.symm)
        replace S_b10 := Safe.ext E11 CR.1 S_b10
        replace CR := CR.trans (CHr.ext E11 CR.1)
        replace hk := Nat.le_trans hk E11.1
        replace Z0 := Nat.le_trans Z0 E11.1
        replace K0 := K0.ext E11
        replace O0 := O0.ext E11
        replace E_b10 := E_b10.ext E11
        replace F_b10_coder := F_b10_coder.ext E11
        replace F_b10_value := F_b10_value.ext E11
        have V_b11 : Arv Z h11 b11 k11 .char (2 : Int32) [(.int (0 : Int32)), (.int (0 : Int32))] (.int (0 : Int32)) := (Arv.new A11 (by decide)).pad (pad_rep [] (.int (0 : Int32)) 2)
        refine GoH.st (T' := T11) (pc' := 65) (L' := #[.val (.int p1), .val (.int p2), .val (.int ((p1 &&& (255 : Int32)).toUInt32.toUInt16.toUInt32.toInt32)), .val (.int ((((p1.toUInt32 >>> ((8 : Int32) &&& 31).toUInt32).toInt32) &&& (255 : Int32)).toUInt32.toUInt16.toUInt32.toInt32)), .val (.int ((((p1.toUInt32 >>> ((16 : Int32) &&& 31).toUInt32).toInt32) &&& (255 : Int32)).toUInt32.toUInt16.toUInt32.toInt32))]) (S' := [(.ref b11), (.ref b10), (.ref b10)]) st11 ?_
        refine GoH.st (T' := T11) (pc' := 66) (L' := #[.val (.int p1), .val (.int p2), .val (.int ((p1 &&& (255 : Int32)).toUInt32.toUInt16.toUInt32.toInt32)), .val (.int ((((p1.toUInt32 >>> ((8 : Int32) &&& 31).toUInt32).toInt32) &&& (255 : Int32)).toUInt32.toUInt16.toUInt32.toInt32)), .val (.int ((((p1.toUInt32 >>> ((16 : Int32) &&& 31).toUInt32).toInt32) &&& (255 : Int32)).toUInt32.toUInt16.toUInt32.toInt32))]) (S' := [(.ref b11), (.ref b11), (.ref b10), (.ref b10)]) (fun t_ k_ => XS.dup X11.here hx rfl (hb hby d1_65) rfl rfl k_) ?_
        refine GoH.st (T' := T11) (pc' := 67) (L' := #[.val (.int p1), .val (.int p2), .val (.int ((p1 &&& (255 : Int32)).toUInt32.toUInt16.toUInt32.toInt32)), .val (.int ((((p1.toUInt32 >>> ((8 : Int32) &&& 31).toUInt32).toInt32) &&& (255 : Int32)).toUInt32.toUInt16.toUInt32.toInt32)), .val (.int ((((p1.toUInt32 >>> ((16 : Int32) &&& 31).toUInt32).toInt32) &&& (255 : Int32)).toUInt32.toUInt16.toUInt32.toInt32))]) (S' := [(.int (0 : Int32)), (.ref b11), (.ref b11), (.ref b10), (.ref b10)]) (fun t_ k_ => XS.iconst X11.here hx rfl (hb hby d1_66) k_) ?_
        refine GoH.st (T' := T11) (pc' := 68) (L' := #[.val (.int p1), .val (.int p2), .val (.int ((p1 &&& (255 : Int32)).toUInt32.toUInt16.toUInt32.toInt32)), .val (.int ((((p1.toUInt32 >>> ((8 : Int32) &&& 31).toUInt32).toInt32) &&& (255 : Int32)).toUInt32.toUInt16.toUInt32.toInt32)), .val (.int ((((p1.toUInt32 >>> ((16 : Int32) &&& 31).toUInt32).toInt32) &&& (255 : Int32)).toUInt32.toUInt16.toUInt32.toInt32))]) (S' := [(.int ((p1 &&& (255 : Int32)).toUInt32.toUInt16.toUInt32.toInt32)), (.int (0 : Int32)), (.ref b11), (.ref b11), (.ref b10), (.ref b10)]) (fun t_ k_ => XS.iloadN X11.here hx rfl (hb hby d1_67) rfl  k_) ?_
        have Sq12 : Safe Z EL s.vm h11 b11 := (own_safeV hZ.alike V_b11 (by decide))
        obtain ⟨cl12, Ar12, q121, q122, q123, q124, q125⟩ := V_b11
        obtain ⟨T12, h12, X12, e12, W12, st12⟩ := stC X11 hx hZ e11 Ar12 (j := (0 : Int32)) (inb_of q122 ⟨by decide, by decide⟩) (g := (mkF m 68 #[.val (.int p1), .val (.int p2), .val (.int ((p1 &&& (255 : Int32)).toUInt32.toUInt16.toUInt32.toInt32)), .val (.int ((((p1.toUInt32 >>> ((8 : Int32) &&& 31).toUInt32).toInt32) &&& (255 : Int32)).toUInt32.toUInt16.toUInt32.toInt32)), .val (.int ((((p1.toUInt32 >>> ((16 : Int32) &&& 31).toUInt32).toInt32) &&& (255 : Int32)).toUInt32.toUInt16.toUInt32.toInt32))] [(.int ((p1 &&& (255 : Int32)).toUInt32.toUInt16.toUInt32.toInt32)), (.int (0 : Int32)), (.ref b11), (.ref b11), (.ref b10), (.ref b10)])) rfl rfl (hb hby d1_68)
        replace V_b11 := Arv.set Ar12 q121 q122 q123 q124 q125 (fits_nar_char _) W12 0 rfl (Nat.le_of_ble_eq_true rfl)
        have V_b11 : Arv Z h12 b11 k11 .char (2 : Int32) [(.int (nar .char ((p1 &&& (255 : Int32)).toUInt32.toUInt16.toUInt32.toInt32))), (.int (0 : Int32))] (.int (0 : Int32)) := V_b11
        replace S_b10 := Safe.wr W12 Sq12 CR.1 S_b10
        replace CR := CR.trans (CHr.wr W12 Sq12 CR.1)
        replace hk := Nat.le_trans hk (Keep.of_wr W12).1
        replace Z0 := Nat.le_trans Z0 (Keep.of_wr W12).1
        replace K0 := K0.wr W12 (Or.inr sz_b11)
        replace O0 := O0.wr W12 g_b11
        replace E_b10 := E_b10.wr W12
        replace F_b10_coder := F_b10_coder.other W12 (Or.inl ne_b10_b11)
        replace F_b10_value := F_b10_value.other W12 (Or.inl ne_b10_b11)
        have N12 := Fr.snoc X12 N0 g_b11
        refine GoH.st (T' := T12) (pc' := 69) (L' := #[.val (.int p1), .val (.int p2), .val (.int ((p1 &&& (255 : Int32)).toUInt32.toUInt16.toUInt32.toInt32)), .val (.int ((((p1.toUInt32 >>> ((8 : Int32) &&& 31).toUInt32).toInt32) &&& (255 : Int32)).toUInt32.toUInt16.toUInt32.toInt32)), .val (.int ((((p1.toUInt32 >>> ((16 : Int32) &&& 31).toUInt32).toInt32) &&& (255 : Int32)).toUInt32.toUInt16.toUInt32.toInt32))]) (S' := [(.ref b11), (.ref b10), (.ref b10)]) st12 ?_
        refine GoH.st (T' := T12) (pc' := 70) (L' := #[.val (.int p1), .val (.int p2), .val (.int ((p1 &&& (255 : Int32)).toUInt32.toUInt16.toUInt32.toInt32)), .val (.int ((((p1.toUInt32 >>> ((8 : Int32) &&& 31).toUInt32).toInt32) &&& (255 : Int32)).toUInt32.toUInt16.toUInt32.toInt32)), .val (.int ((((p1.toUInt32 >>> ((16 : Int32) &&& 31).toUInt32).toInt32) &&& (255 : Int32)).toUInt32.toUInt16.toUInt32.toInt32))]) (S' := [(.ref b11), (.ref b11), (.ref b10), (.ref b10)]) (fun t_ k_ => XS.dup X12.here hx rfl (hb hby d1_69) rfl rfl k_) ?_
        refine GoH.st (T' := T12) (pc' := 71) (L' := #[.val (.int p1), .val (.int p2), .val (.int ((p1 &&& (255 : Int32)).toUInt32.toUInt16.toUInt32.toInt32)), .val (.int ((((p1.toUInt32 >>> ((8 : Int32) &&& 31).toUInt32).toInt32) &&& (255 : Int32)).toUInt32.toUInt16.toUInt32.toInt32)), .val (.int ((((p1.toUInt32 >>> ((16 : Int32) &&& 31).toUInt32).toInt32) &&& (255 : Int32)).toUInt32.toUInt16.toUInt32.toInt32))]) (S' := [(.int (1 : Int32)), (.ref b11), (.ref b11), (.ref b10), (.ref b10)]) (fun t_ k_ => XS.iconst X12.here hx rfl (hb hby d1_70) k_) ?_
        refine GoH.st (T' := T12) (pc' := 72) (L' := #[.val (.int p1), .val (.int p2), .val (.int ((p1 &&& (255 : Int32)).toUInt32.toUInt16.toUInt32.toInt32)), .val (.int ((((p1.toUInt32 >>> ((8 : Int32) &&& 31).toUInt32).toInt32) &&& (255 : Int32)).toUInt32.toUInt16.toUInt32.toInt32)), .val (.int ((((p1.toUInt32 >>> ((16 : Int32) &&& 31).toUInt32).toInt32) &&& (255 : Int32)).toUInt32.toUInt16.toUInt32.toInt32))]) (S' := [(.int ((((p1.toUInt32 >>> ((8 : Int32) &&& 31).toUInt32).toInt32) &&& (255 : Int32)).toUInt32.toUInt16.toUInt32.toInt32)), (.int (1 : Int32)), (.ref b11), (.ref b11), (.ref b10), (.ref b10)]) (fun t_ k_ => XS.iloadN X12.here hx rfl (hb hby d1_71) rfl  k_) ?_
        have Sq14 : Safe Z EL s.vm h12 b11 := (own_safeV hZ.alike V_b11 (by decide))
        obtain ⟨cl14, Ar14, q141, q142, q143, q144, q145⟩ := V_b11
        obtain ⟨T14, h14, X14, e14, W14, st14⟩ := stC X12 hx hZ e12 Ar14 (j := (1 : Int32)) (inb_of q142 ⟨by decide, by decide⟩) (g := (mkF m 72 #[.val (.int p1), .val (.int p2), .val (.int ((p1 &&& (255 : Int32)).toUInt32.toUInt16.toUInt32.toInt32)), .val (.int ((((p1.toUInt32 >>> ((8 : Int32) &&& 31).toUInt32).toInt32) &&& (255 : Int32)).toUInt32.toUInt16.toUInt32.toInt32)), .val (.int ((((p1.toUInt32 >>> ((16 : Int32) &&& 31).toUInt32).toInt32) &&& (255 : Int32)).toUInt32.toUInt16.toUInt32.toInt32))] [(.int ((((p1.toUInt32 >>> ((8 : Int32) &&& 31).toUInt32).toInt32) &&& (255 : Int32)).toUInt32.toUInt16.toUInt32.toInt32)), (.int (1 : Int32)), (.ref b11), (.ref b11), (.ref b10), (.ref b10)])) rfl rfl (hb hby d1_72)
        replace V_b11 := Arv.set Ar14 q141 q142 q143 q144 q145 (fits_nar_char _) W14 1 rfl (Nat.le_of_ble_eq_true rfl)
        have V_b11 : Arv Z h14 b11 k11 .char (2 : Int32) [(.int (nar .char ((p1 &&& (255 : Int32)).toUInt32.toUInt16.toUInt32.toInt32))), (.int (nar .char ((((p1.toUInt32 >>> ((8 : Int32) &&& 31).toUInt32).toInt32) &&& (255 : Int32)).toUInt32.toUInt16.toUInt32.toInt32)))] (.int (0 : Int32)) := V_b11
        replace S_b10 := Safe.wr W14 Sq14 CR.1 S_b10
        replace CR := CR.trans (CHr.wr W14 Sq14 CR.1)
        replace hk := Nat.le_trans hk (Keep.of_wr W14).1
        replace Z0 := Nat.le_trans Z0 (Keep.of_wr W14).1
        replace K0 := K0.wr W14 (Or.inr sz_b11)
        replace O0 := O0.wr W14 g_b11
        replace E_b10 := E_b10.wr W14
        replace F_b10_coder := F_b10_coder.other W14 (Or.inl ne_b10_b11)
        replace F_b10_value := F_b10_value.other W14 (Or.inl ne_b10_b11)
        have N14 := Fr.snoc X14 N12 g_b11
        refine GoH.st (T' := T14) (pc' := 73) (L' := #[.val (.int p1), .val (.int p2), .val (.int ((p1 &&& (255 : Int32)).toUInt32.toUInt16.toUInt32.toInt32)), .val (.int ((((p1.toUInt32 >>> ((8 : Int32) &&& 31).toUInt32).toInt32) &&& (255 : Int32)).toUInt32.toUInt16.toUInt32.toInt32)), .val (.int ((((p1.toUInt32 >>> ((16 : Int32) &&& 31).toUInt32).toInt32) &&& (255 : Int32)).toUInt32.toUInt16.toUInt32.toInt32))]) (S' := [(.ref b11), (.ref b10), (.ref b10)]) st14 ?_
        have hws16 : ∀ d ∈ StrChars.Road.words, d.before a0 Z = true := fun d hd => hw d ((by decide +kernel : ∀ d ∈ StrChars.Road.words, d ∈ tables_1) d hd)
        have hlat16 : ∀ c ∈ [(nar .char ((p1 &&& (255 : Int32)).toUInt32.toUInt16.toUInt32.toInt32)), (nar .char ((((p1.toUInt32 >>> ((8 : Int32) &&& 31).toUInt32).toInt32) &&& (255 : Int32)).toUInt32.toUInt16.toUInt32.toInt32))], ¬ c < 0 ∧ ¬ (255 : Int32) < c := by
          intro c hc
          simp only [List.mem_cons, List.not_mem_nil, or_false] at hc
          rcases hc with rfl | rfl
          · exact own_and255 _
          · exact own_and255 _
        obtain ⟨_, _, ⟨T16, L16, k16, n16⟩, -, X16, ⟨Lc16, hQ16, l16, y16, z16⟩, st16⟩ := X14.specialBack hx (y := (⟨"java/lang/String", "<init>", "([C)V"⟩ : MethodName)) rfl hown (mvT hZ (hw _ (List.mem_of_getElem? (i := 8) rfl))) (mvT hZ (hw _ (List.mem_of_getElem? (i := 9) rfl))) (mvT hZ (hw _ (List.mem_of_getElem? (i := 10) rfl))) (by decide) (StrChars.Road.backV (W := 1) hZ hws16 (kI := 4) (hw _ (List.mem_of_getElem? (i := 5) rfl)) (cs := [(nar .char ((p1 &&& (255 : Int32)).toUInt32.toUInt16.toUInt32.toInt32)), (nar .char ((((p1.toUInt32 >>> ((8 : Int32) &&& 31).toUInt32).toInt32) &&& (255 : Int32)).toUInt32.toUInt16.toUInt32.toInt32))]) (bs := [((nar .char ((p1 &&& (255 : Int32)).toUInt32.toUInt16.toUInt32.toInt32))).toInt8.toInt32, ((nar .char ((((p1.toUInt32 >>> ((8 : Int32) &&& 31).toUInt32).toInt32) &&& (255 : Int32)).toUInt32.toUInt16.toUInt32.toInt32))).toInt8.toInt32]) (n := 2) g_b10 Z0 E_b10 F_b10_value F_b10_coder V_b11 (SC.ext O0.2) PC rfl rfl (by decide) (by decide) hlat16 rfl (by decide) (by decide)) (g := (mkF m 73 #[.val (.int p1), .val (.int p2), .val (.int ((p1 &&& (255 : Int32)).toUInt32.toUInt16.toUInt32.toInt32)), .val (.int ((((p1.toUInt32 >>> ((8 : Int32) &&& 31).toUInt32).toInt32) &&& (255 : Int32)).toUInt32.toUInt16.toUInt32.toInt32)), .val (.int ((((p1.toUInt32 >>> ((16 : Int32) &&& 31).toUInt32).toInt32) &&& (255 : Int32)).toUInt32.toUInt16.toUInt32.toInt32))] [(.ref b11), (.ref b10), (.ref b10)])) rfl (by rw [hml]; rfl) (Steps.refl _) (a := b10) (argsL := [(.ref b11)]) (rest := [(.ref b10)]) (lenOf pd_9 rfl) rfl (by show 2 * 0 + _ ≤ _; exact Nat.le_of_eq rfl) (hb hby d1_73) (fun _ _ => ⟨rfl, e14, (by decide : 2 + 1 ≤ _), (by decide : 6 + 2 ≤ _)⟩)
        dsimp only [Pt.U, Pt.locs, Pt.cells, Pt.slots] at X16 l16 y16 z16 st16 hQ16
        subst l16 y16 z16
        obtain ⟨rfl, N16q, K16, Ex16, Co16, t16, kb16, ta16, tb16, tc16, Va16, Ay16⟩ := hQ16
        have N16 := Fr.app N14 N16q
        obtain ⟨h16, e16⟩ : ∃ z, T16.heap = z := ⟨_, rfl⟩
        rw [e16] at K16 Ex16 Co16 Va16 Ay16
        have Sk17 : ∀ x ∈ [b10], Safe Z EL s.vm h14 x := (allS S_b10 all0)
        replace S_b10 := Safe.keep K16 Sk17 CR.1 S_b10
        replace CR := CR.trans (CHr.keep K16 Sk17 CR.1)
        replace hk := Nat.le_trans hk K16.1
        replace Z0 := Nat.le_trans Z0 K16.1
        replace K0 := K0.trans K16 (allS (Or.inr sz_b10) all0)
        replace O0 := O0.keep K16 (allS g_b10 all0)
        replace E_b10 := E_b10.keep K16
        replace V_b11 := V_b11.keep K16 (ninS (Ne.symm ne_b10_b11) nin0)
        refine GoH.tr (T' := T16) (pc' := 76) (L' := #[.val (.int p1), .val (.int p2), .val (.int ((p1 &&& (255 : Int32)).toUInt32.toUInt16.toUInt32.toInt32)), .val (.int ((((p1.toUInt32 >>> ((8 : Int32) &&& 31).toUInt32).toInt32) &&& (255 : Int32)).toUInt32.toUInt16.toUInt32.toInt32)), .val (.int ((((p1.toUInt32 >>> ((16 : Int32) &&& 31).toUInt32).toInt32) &&& (255 : Int32)).toUInt32.toUInt16.toUInt32.toInt32))]) (S' := [(.ref b10)]) st16 ?_
        exact GoH.retO X16 hx hlk hret rfl (by simp [FieldType.isReference, Value.isRef]) (hb hby d1_76) (by decide) (by decide) hS hk e16 hs0 hZ (own_EW hw) CR (by rw [e16]; exact ⟨b10, rfl, N16, K0, g_b10, sz_b10, E_b10⟩)
      · refine GoH.st (T' := T0) (pc' := 77) (L' := #[.val (.int p1), .val (.int p2), .val (.int ((p1 &&& (255 : Int32)).toUInt32.toUInt16.toUInt32.toInt32)), .val (.int ((((p1.toUInt32 >>> ((8 : Int32) &&& 31).toUInt32).toInt32) &&& (255 : Int32)).toUInt32.toUInt16.toUInt32.toInt32)), .val (.int ((((p1.toUInt32 >>> ((16 : Int32) &&& 31).toUInt32).toInt32) &&& (255 : Int32)).toUInt32.toUInt16.toUInt32.toInt32))]) (S' := []) (fun t_ k_ => XS.icmpYes X0.here hx rfl (pc0 := 55) (pc' := 77) rfl (hb hby d1_55) rfl (feq hc55_9).2 (by decide) (by decide) k_) ?_
        obtain ⟨T18, h18, X18, e18, E18, A18, D18, U18, st18⟩ := newO X0 hx hZ hown (hw _ (List.mem_of_getElem? (i := 4) rfl)) (hw _ (List.mem_of_getElem? (i := 5) rfl)) (hw _ (List.mem_of_getElem? (i := 6) rfl)) e0 (g := (mkF m 77 #[.val (.int p1), .val (.int p2), .val (.int ((p1 &&& (255 : Int32)).toUInt32.toUInt16.toUInt32.toInt32)), .val (.int ((((p1.toUInt32 >>> ((8 : Int32) &&& 31).toUInt32).toInt32) &&& (255 : Int32)).toUInt32.toUInt16.toUInt32.toInt32)), .val (.int ((((p1.toUInt32 >>> ((16 : Int32) &&& 31).toUInt32).toInt32) &&& (255 : Int32)).toUInt32.toUInt16.toUInt32.toInt32))] [])) rfl (hb hby d1_77) (by decide) (by decide)
        obtain ⟨b18, g18⟩ : ∃ z, z = h0.size := ⟨_, rfl⟩
        rw [← g18] at A18 D18 U18 st18
        have g_b18 : n0 ≤ b18 := Nat.le_trans Z0 (Nat.le_of_eq g18.symm)
        have sz_b18 : h0.size ≤ b18 := Nat.le_trans K0.1 (Nat.le_of_eq g18.symm)
        have S_b18 : Safe Z EL s.vm h18 b18 := Safe.ext E18 CR.1 (Safe.new (Nat.le_of_eq g18.symm))
        replace CR := CR.trans (CHr.ext E18 CR.1)
        replace hk := Nat.le_trans hk E18.1
        replace Z0 := Nat.le_trans Z0 E18.1
        replace K0 := K0.ext E18
        replace O0 := O0.ext E18
        have E_b18 := A18
        have F_b18_coder : Fld Z h18 b18 "java/lang/String" "coder" "B" (.int (0 : Int32)) := D18 (Or.inr (hw _ (List.mem_of_getElem? (i := 31) rfl))) (ty := .byte) (by decide)
        have F_b18_value : Fld Z h18 b18 "java/lang/String" "value" "[B" .null := D18 (Or.inr (hw _ (List.mem_of_getElem? (i := 33) rfl))) (ty := (.array .byte)) (by decide)
        refine GoH.st (T' := T18) (pc' := 80) (L' := #[.val (.int p1), .val (.int p2), .val (.int ((p1 &&& (255 : Int32)).toUInt32.toUInt16.toUInt32.toInt32)), .val (.int ((((p1.toUInt32 >>> ((8 : Int32) &&& 31).toUInt32).toInt32) &&& (255 : Int32)).toUInt32.toUInt16.toUInt32.toInt32)), .val (.int ((((p1.toUInt32 >>> ((16 : Int32) &&& 31).toUInt32).toInt32) &&& (255 : Int32)).toUInt32.toUInt16.toUInt32.toInt32))]) (S' := [(.ref b18)]) st18 ?_
        refine GoH.st (T' := T18) (pc' := 81) (L' := #[.val (.int p1), .val (.int p2), .val (.int ((p1 &&& (255 : Int32)).toUInt32.toUInt16.toUInt32.toInt32)), .val (.int ((((p1.toUInt32 >>> ((8 : Int32) &&& 31).toUInt32).toInt32) &&& (255 : Int32)).toUInt32.toUInt16.toUInt32.toInt32)), .val (.int ((((p1.toUInt32 >>> ((16 : Int32) &&& 31).toUInt32).toInt32) &&& (255 : Int32)).toUInt32.toUInt16.toUInt32.toInt32))]) (S' := [(.ref b18), (.ref b18)]) (fun t_ k_ => XS.dup X18.here hx rfl (hb hby d1_80) rfl rfl k_) ?_
        refine GoH.st (T' := T18) (pc' := 82) (L' := #[.val (.int p1), .val (.int p2), .val (.int ((p1 &&& (255 : Int32)).toUInt32.toUInt16.toUInt32.toInt32)), .val (.int ((((p1.toUInt32 >>> ((8 : Int32) &&& 31).toUInt32).toInt32) &&& (255 : Int32)).toUInt32.toUInt16.toUInt32.toInt32)), .val (.int ((((p1.toUInt32 >>> ((16 : Int32) &&& 31).toUInt32).toInt32) &&& (255 : Int32)).toUInt32.toUInt16.toUInt32.toInt32))]) (S' := [(.int (3 : Int32)), (.ref b18), (.ref b18)]) (fun t_ k_ => XS.iconst X18.here hx rfl (hb hby d1_81) k_) ?_
        obtain ⟨T19, h19, k19, X19, e19, E19, A19, st19⟩ := newP X18 hx hZ (hw _ (List.mem_of_getElem? (i := 7) rfl)) e18 (g := (mkF m 82 #[.val (.int p1), .val (.int p2), .val (.int ((p1 &&& (255 : Int32)).toUInt32.toUInt16.toUInt32.toInt32)), .val (.int ((((p1.toUInt32 >>> ((8 : Int32) &&& 31).toUInt32).toInt32) &&& (255 : Int32)).toUInt32.toUInt16.toUInt32.toInt32)), .val (.int ((((p1.toUInt32 >>> ((16 : Int32) &&& 31).toUInt32).toInt32) &&& (255 : Int32)).toUInt32.toUInt16.toUInt32.toInt32))] [(.int (3 : Int32)), (.ref b18), (.ref b18)])) rfl (hb hby d1_82) rfl (by decide) (cap := 3) (by decide) (by decide) (by decide) (by decide)
        obtain ⟨b19, g19⟩ : ∃ z, z = h18.size := ⟨_, rfl⟩
        rw [← g19] at A19 st19
        have ne_b18_b19 : b18 ≠ b19 := Nat.ne_of_lt (Nat.lt_of_lt_of_le E_b18.lt (Nat.le_of_eq g19.symm))
        have g_b19 : n0 ≤ b19 := Nat.le_trans Z0 (Nat.le_of_eq g19.symm)
        have sz_b19 : h0.size ≤ b19 := Nat.le_trans K0.1 (Nat.le_of_eq g19.symm)
        replace S_b18 := Safe.ext E19 CR.1 S_b18
        replace CR := CR.trans (CHr.ext E19 CR.1)
        replace hk := Nat.le_trans hk E19.1
        replace Z0 := Nat.le_trans Z0 E19.1
        replace K0 := K0.ext E19
        replace O0 := O0.ext E19
        replace E_b18 := E_b18.ext E19
        replace F_b18_coder := F_b18_coder.ext E19
        replace F_b18_value := F_b18_value.ext E19
        have V_b19 : Arv Z h19 b19 k19 .char (3 : Int32) [(.int (0 : Int32)), (.int (0 : Int32)), (.int (0 : Int32))] (.int (0 : Int32)) := (Arv.new A19 (by decide)).pad (pad_rep [] (.int (0 : Int32)) 3)
        refine GoH.st (T' := T19) (pc' := 84) (L' := #[.val (.int p1), .val (.int p2), .val (.int ((p1 &&& (255 : Int32)).toUInt32.toUInt16.toUInt32.toInt32)), .val (.int ((((p1.toUInt32 >>> ((8 : Int32) &&& 31).toUInt32).toInt32) &&& (255 : Int32)).toUInt32.toUInt16.toUInt32.toInt32)), .val (.int ((((p1.toUInt32 >>> ((16 : Int32) &&& 31).toUInt32).toInt32) &&& (255 : Int32)).toUInt32.toUInt16.toUInt32.toInt32))]) (S' := [(.ref b19), (.ref b18), (.ref b18)]) st19 ?_
        refine GoH.st (T' := T19) (pc' := 85) (L' := #[.val (.int p1), .val (.int p2), .val (.int ((p1 &&& (255 : Int32)).toUInt32.toUInt16.toUInt32.toInt32)), .val (.int ((((p1.toUInt32 >>> ((8 : Int32) &&& 31).toUInt32).toInt32) &&& (255 : Int32)).toUInt32.toUInt16.toUInt32.toInt32)), .val (.int ((((p1.toUInt32 >>> ((16 : Int32) &&& 31).toUInt32).toInt32) &&& (255 : Int32)).toUInt32.toUInt16.toUInt32.toInt32))]) (S' := [(.ref b19), (.ref b19), (.ref b18), (.ref b18)]) (fun t_ k_ => XS.dup X19.here hx rfl (hb hby d1_84) rfl rfl k_) ?_
        refine GoH.st (T' := T19) (pc' := 86) (L' := #[.val (.int p1), .val (.int p2), .val (.int ((p1 &&& (255 : Int32)).toUInt32.toUInt16.toUInt32.toInt32)), .val (.int ((((p1.toUInt32 >>> ((8 : Int32) &&& 31).toUInt32).toInt32) &&& (255 : Int32)).toUInt32.toUInt16.toUInt32.toInt32)), .val (.int ((((p1.toUInt32 >>> ((16 : Int32) &&& 31).toUInt32).toInt32) &&& (255 : Int32)).toUInt32.toUInt16.toUInt32.toInt32))]) (S' := [(.int (0 : Int32)), (.ref b19), (.ref b19), (.ref b18), (.ref b18)]) (fun t_ k_ => XS.iconst X19.here hx rfl (hb hby d1_85) k_) ?_
        refine GoH.st (T' := T19) (pc' := 87) (L' := #[.val (.int p1), .val (.int p2), .val (.int ((p1 &&& (255 : Int32)).toUInt32.toUInt16.toUInt32.toInt32)), .val (.int ((((p1.toUInt32 >>> ((8 : Int32) &&& 31).toUInt32).toInt32) &&& (255 : Int32)).toUInt32.toUInt16.toUInt32.toInt32)), .val (.int ((((p1.toUInt32 >>> ((16 : Int32) &&& 31).toUInt32).toInt32) &&& (255 : Int32)).toUInt32.toUInt16.toUInt32.toInt32))]) (S' := [(.int ((p1 &&& (255 : Int32)).toUInt32.toUInt16.toUInt32.toInt32)), (.int (0 : Int32)), (.ref b19), (.ref b19), (.ref b18), (.ref b18)]) (fun t_ k_ => XS.iloadN X19.here hx rfl (hb hby d1_86) rfl  k_) ?_
        have Sq20 : Safe Z EL s.vm h19 b19 := (own_safeV hZ.alike V_b19 (by decide))
        obtain ⟨cl20, Ar20, q201, q202, q203, q204, q205⟩ := V_b19
        obtain ⟨T20, h20, X20, e20, W20, st20⟩ := stC X19 hx hZ e19 Ar20 (j := (0 : Int32)) (inb_of q202 ⟨by decide, by decide⟩) (g := (mkF m 87 #[.val (.int p1), .val (.int p2), .val (.int ((p1 &&& (255 : Int32)).toUInt32.toUInt16.toUInt32.toInt32)), .val (.int ((((p1.toUInt32 >>> ((8 : Int32) &&& 31).toUInt32).toInt32) &&& (255 : Int32)).toUInt32.toUInt16.toUInt32.toInt32)), .val (.int ((((p1.toUInt32 >>> ((16 : Int32) &&& 31).toUInt32).toInt32) &&& (255 : Int32)).toUInt32.toUInt16.toUInt32.toInt32))] [(.int ((p1 &&& (255 : Int32)).toUInt32.toUInt16.toUInt32.toInt32)), (.int (0 : Int32)), (.ref b19), (.ref b19), (.ref b18), (.ref b18)])) rfl rfl (hb hby d1_87)
        replace V_b19 := Arv.set Ar20 q201 q202 q203 q204 q205 (fits_nar_char _) W20 0 rfl (Nat.le_of_ble_eq_true rfl)
        have V_b19 : Arv Z h20 b19 k19 .char (3 : Int32) [(.int (nar .char ((p1 &&& (255 : Int32)).toUInt32.toUInt16.toUInt32.toInt32))), (.int (0 : Int32)), (.int (0 : Int32))] (.int (0 : Int32)) := V_b19
        replace S_b18 := Safe.wr W20 Sq20 CR.1 S_b18
        replace CR := CR.trans (CHr.wr W20 Sq20 CR.1)
        replace hk := Nat.le_trans hk (Keep.of_wr W20).1
        replace Z0 := Nat.le_trans Z0 (Keep.of_wr W20).1
        replace K0 := K0.wr W20 (Or.inr sz_b19)
        replace O0 := O0.wr W20 g_b19
        replace E_b18 := E_b18.wr W20
        replace F_b18_coder := F_b18_coder.other W20 (Or.inl ne_b18_b19)
        replace F_b18_value := F_b18_value.other W20 (Or.inl ne_b18_b19)
        have N20 := Fr.snoc X20 N0 g_b19
        refine GoH.st (T' := T20) (pc' := 88) (L' := #[.val (.int p1), .val (.int p2), .val (.int ((p1 &&& (255 : Int32)).toUInt32.toUInt16.toUInt32.toInt32)), .val (.int ((((p1.toUInt32 >>> ((8 : Int32) &&& 31).toUInt32).toInt32) &&& (255 : Int32)).toUInt32.toUInt16.toUInt32.toInt32)), .val (.int ((((p1.toUInt32 >>> ((16 : Int32) &&& 31).toUInt32).toInt32) &&& (255 : Int32)).toUInt32.toUInt16.toUInt32.toInt32))]) (S' := [(.ref b19), (.ref b18), (.ref b18)]) st20 ?_
        refine GoH.st (T' := T20) (pc' := 89) (L' := #[.val (.int p1), .val (.int p2), .val (.int ((p1 &&& (255 : Int32)).toUInt32.toUInt16.toUInt32.toInt32)), .val (.int ((((p1.toUInt32 >>> ((8 : Int32) &&& 31).toUInt32).toInt32) &&& (255 : Int32)).toUInt32.toUInt16.toUInt32.toInt32)), .val (.int ((((p1.toUInt32 >>> ((16 : Int32) &&& 31).toUInt32).toInt32) &&& (255 : Int32)).toUInt32.toUInt16.toUInt32.toInt32))]) (S' := [(.ref b19), (.ref b19), (.ref b18), (.ref b18)]) (fun t_ k_ => XS.dup X20.here hx rfl (hb hby d1_88) rfl rfl k_) ?_
        refine GoH.st (T' := T20) (pc' := 90) (L' := #[.val (.int p1), .val (.int p2), .val (.int ((p1 &&& (255 : Int32)).toUInt32.toUInt16.toUInt32.toInt32)), .val (.int ((((p1.toUInt32 >>> ((8 : Int32) &&& 31).toUInt32).toInt32) &&& (255 : Int32)).toUInt32.toUInt16.toUInt32.toInt32)), .val (.int ((((p1.toUInt32 >>> ((16 : Int32) &&& 31).toUInt32).toInt32) &&& (255 : Int32)).toUInt32.toUInt16.toUInt32.toInt32))]) (S' := [(.int (1 : Int32)), (.ref b19), (.ref b19), (.ref b18), (.ref b18)]) (fun t_ k_ => XS.iconst X20.here hx rfl (hb hby d1_89) k_) ?_
        refine GoH.st (T' := T20) (pc' := 91) (L' := #[.val (.int p1), .val (.int p2), .val (.int ((p1 &&& (255 : Int32)).toUInt32.toUInt16.toUInt32.toInt32)), .val (.int ((((p1.toUInt32 >>> ((8 : Int32) &&& 31).toUInt32).toInt32) &&& (255 : Int32)).toUInt32.toUInt16.toUInt32.toInt32)), .val (.int ((((p1.toUInt32 >>> ((16 : Int32) &&& 31).toUInt32).toInt32) &&& (255 : Int32)).toUInt32.toUInt16.toUInt32.toInt32))]) (S' := [(.int ((((p1.toUInt32 >>> ((8 : Int32) &&& 31).toUInt32).toInt32) &&& (255 : Int32)).toUInt32.toUInt16.toUInt32.toInt32)), (.int (1 : Int32)), (.ref b19), (.ref b19), (.ref b18), (.ref b18)]) (fun t_ k_ => XS.iloadN X20.here hx rfl (hb hby d1_90) rfl  k_) ?_
        have Sq22 : Safe Z EL s.vm h20 b19 := (own_safeV hZ.alike V_b19 (by decide))
        obtain ⟨cl22, Ar22, q221, q222, q223, q224, q225⟩ := V_b19
        obtain ⟨T22, h22, X22, e22, W22, st22⟩ := stC X20 hx hZ e20 Ar22 (j := (1 : Int32)) (inb_of q222 ⟨by decide, by decide⟩) (g := (mkF m 91 #[.val (.int p1), .val (.int p2), .val (.int ((p1 &&& (255 : Int32)).toUInt32.toUInt16.toUInt32.toInt32)), .val (.int ((((p1.toUInt32 >>> ((8 : Int32) &&& 31).toUInt32).toInt32) &&& (255 : Int32)).toUInt32.toUInt16.toUInt32.toInt32)), .val (.int ((((p1.toUInt32 >>> ((16 : Int32) &&& 31).toUInt32).toInt32) &&& (255 : Int32)).toUInt32.toUInt16.toUInt32.toInt32))] [(.int ((((p1.toUInt32 >>> ((8 : Int32) &&& 31).toUInt32).toInt32) &&& (255 : Int32)).toUInt32.toUInt16.toUInt32.toInt32)), (.int (1 : Int32)), (.ref b19), (.ref b19), (.ref b18), (.ref b18)])) rfl rfl (hb hby d1_91)
        replace V_b19 := Arv.set Ar22 q221 q222 q223 q224 q225 (fits_nar_char _) W22 1 rfl (Nat.le_of_ble_eq_true rfl)
        have V_b19 : Arv Z h22 b19 k19 .char (3 : Int32) [(.int (nar .char ((p1 &&& (255 : Int32)).toUInt32.toUInt16.toUInt32.toInt32))), (.int (nar .char ((((p1.toUInt32 >>> ((8 : Int32) &&& 31).toUInt32).toInt32) &&& (255 : Int32)).toUInt32.toUInt16.toUInt32.toInt32))), (.int (0 : Int32))] (.int (0 : Int32)) := V_b19
        replace S_b18 := Safe.wr W22 Sq22 CR.1 S_b18
        replace CR := CR.trans (CHr.wr W22 Sq22 CR.1)
        replace hk := Nat.le_trans hk (Keep.of_wr W22).1
        replace Z0 := Nat.le_trans Z0 (Keep.of_wr W22).1
        replace K0 := K0.wr W22 (Or.inr sz_b19)
        replace O0 := O0.wr W22 g_b19
        replace E_b18 := E_b18.wr W22
        replace F_b18_coder := F_b18_coder.other W22 (Or.inl ne_b18_b19)
        replace F_b18_value := F_b18_value.other W22 (Or.inl ne_b18_b19)
        have N22 := Fr.snoc X22 N20 g_b19
        refine GoH.st (T' := T22) (pc' := 92) (L' := #[.val (.int p1), .val (.int p2), .val (.int ((p1 &&& (255 : Int32)).toUInt32.toUInt16.toUInt32.toInt32)), .val (.int ((((p1.toUInt32 >>> ((8 : Int32) &&& 31).toUInt32).toInt32) &&& (255 : Int32)).toUInt32.toUInt16.toUInt32.toInt32)), .val (.int ((((p1.toUInt32 >>> ((16 : Int32) &&& 31).toUInt32).toInt32) &&& (255 : Int32)).toUInt32.toUInt16.toUInt32.toInt32))]) (S' := [(.ref b19), (.ref b18), (.ref b18)]) st22 ?_
        refine GoH.st (T' := T22) (pc' := 93) (L' := #[.val (.int p1), .val (.int p2), .val (.int ((p1 &&& (255 : Int32)).toUInt32.toUInt16.toUInt32.toInt32)), .val (.int ((((p1.toUInt32 >>> ((8 : Int32) &&& 31).toUInt32).toInt32) &&& (255 : Int32)).toUInt32.toUInt16.toUInt32.toInt32)), .val (.int ((((p1.toUInt32 >>> ((16 : Int32) &&& 31).toUInt32).toInt32) &&& (255 : Int32)).toUInt32.toUInt16.toUInt32.toInt32))]) (S' := [(.ref b19), (.ref b19), (.ref b18), (.ref b18)]) (fun t_ k_ => XS.dup X22.here hx rfl (hb hby d1_92) rfl rfl k_) ?_
        refine GoH.st (T' := T22) (pc' := 94) (L' := #[.val (.int p1), .val (.int p2), .val (.int ((p1 &&& (255 : Int32)).toUInt32.toUInt16.toUInt32.toInt32)), .val (.int ((((p1.toUInt32 >>> ((8 : Int32) &&& 31).toUInt32).toInt32) &&& (255 : Int32)).toUInt32.toUInt16.toUInt32.toInt32)), .val (.int ((((p1.toUInt32 >>> ((16 : Int32) &&& 31).toUInt32).toInt32) &&& (255 : Int32)).toUInt32.toUInt16.toUInt32.toInt32))]) (S' := [(.int (2 : Int32)), (.ref b19), (.ref b19), (.ref b18), (.ref b18)]) (fun t_ k_ => XS.iconst X22.here hx rfl (hb hby d1_93) k_) ?_
        refine GoH.st (T' := T22) (pc' := 96) (L' := #[.val (.int p1), .val (.int p2), .val (.int ((p1 &&& (255 : Int32)).toUInt32.toUInt16.toUInt32.toInt32)), .val (.int ((((p1.toUInt32 >>> ((8 : Int32) &&& 31).toUInt32).toInt32) &&& (255 : Int32)).toUInt32.toUInt16.toUInt32.toInt32)), .val (.int ((((p1.toUInt32 >>> ((16 : Int32) &&& 31).toUInt32).toInt32) &&& (255 : Int32)).toUInt32.toUInt16.toUInt32.toInt32))]) (S' := [(.int ((((p1.toUInt32 >>> ((16 : Int32) &&& 31).toUInt32).toInt32) &&& (255 : Int32)).toUInt32.toUInt16.toUInt32.toInt32)), (.int (2 : Int32)), (.ref b19), (.ref b19), (.ref b18), (.ref b18)]) (fun t_ k_ => XS.iload X22.here hx rfl (hb hby d1_94) rfl  k_) ?_
        have Sq24 : Safe Z EL s.vm h22 b19 := (own_safeV hZ.alike V_b19 (by decide))
        obtain ⟨cl24, Ar24, q241, q242, q243, q244, q245⟩ := V_b19
        obtain ⟨T24, h24, X24, e24, W24, st24⟩ := stC X22 hx hZ e22 Ar24 (j := (2 : Int32)) (inb_of q242 ⟨by decide, by decide⟩) (g := (mkF m 96 #[.val (.int p1), .val (.int p2), .val (.int ((p1 &&& (255 : Int32)).toUInt32.toUInt16.toUInt32.toInt32)), .val (.int ((((p1.toUInt32 >>> ((8 : Int32) &&& 31).toUInt32).toInt32) &&& (255 : Int32)).toUInt32.toUInt16.toUInt32.toInt32)), .val (.int ((((p1.toUInt32 >>> ((16 : Int32) &&& 31).toUInt32).toInt32) &&& (255 : Int32)).toUInt32.toUInt16.toUInt32.toInt32))] [(.int ((((p1.toUInt32 >>> ((16 : Int32) &&& 31).toUInt32).toInt32) &&& (255 : Int32)).toUInt32.toUInt16.toUInt32.toInt32)), (.int (2 : Int32)), (.ref b19), (.ref b19), (.ref b18), (.ref b18)])) rfl rfl (hb hby d1_96)
        replace V_b19 := Arv.set Ar24 q241 q242 q243 q244 q245 (fits_nar_char _) W24 2 rfl (Nat.le_of_ble_eq_true rfl)
        have V_b19 : Arv Z h24 b19 k19 .char (3 : Int32) [(.int (nar .char ((p1 &&& (255 : Int32)).toUInt32.toUInt16.toUInt32.toInt32))), (.int (nar .char ((((p1.toUInt32 >>> ((8 : Int32) &&& 31).toUInt32).toInt32) &&& (255 : Int32)).toUInt32.toUInt16.toUInt32.toInt32))), (.int (nar .char ((((p1.toUInt32 >>> ((16 : Int32) &&& 31).toUInt32).toInt32) &&& (255 : Int32)).toUInt32.toUInt16.toUInt32.toInt32)))] (.int (0 : Int32)) := V_b19
        replace S_b18 := Safe.wr W24 Sq24 CR.1 S_b18
        replace CR := CR.trans (CHr.wr W24 Sq24 CR.1)
        replace hk := Nat.le_trans hk (Keep.of_wr W24).1
        replace Z0 := Nat.le_trans Z0 (Keep.of_wr W24).1
        replace K0 := K0.wr W24 (Or.inr sz_b19)
        replace O0 := O0.wr W24 g_b19
        replace E_b18 := E_b18.wr W24
        replace F_b18_coder := F_b18_coder.other W24 (Or.inl ne_b18_b19)
        replace F_b18_value := F_b18_value.other W24 (Or.inl ne_b18_b19)
        have N24 := Fr.snoc X24 N22 g_b19
        refine GoH.st (T' := T24) (pc' := 97) (L' := #[.val (.int p1), .val (.int p2), .val (.int ((p1 &&& (255 : Int32)).toUInt32.toUInt16.toUInt32.toInt32)), .val (.int ((((p1.toUInt32 >>> ((8 : Int32) &&& 31).toUInt32).toInt32) &&& (255 : Int32)).toUInt32.toUInt16.toUInt32.toInt32)), .val (.int ((((p1.toUInt32 >>> ((16 : Int32) &&& 31).toUInt32).toInt32) &&& (255 : Int32)).toUInt32.toUInt16.toUInt32.toInt32))]) (S' := [(.ref b19), (.ref b18), (.ref b18)]) st24 ?_
        have hws26 : ∀ d ∈ StrChars.Road.words, d.before a0 Z = true := fun d hd => hw d ((by decide +kernel : ∀ d ∈ StrChars.Road.words, d ∈ tables_1) d hd)
        have hlat26 : ∀ c ∈ [(nar .char ((p1 &&& (255 : Int32)).toUInt32.toUInt16.toUInt32.toInt32)), (nar .char ((((p1.toUInt32 >>> ((8 : Int32) &&& 31).toUInt32).toInt32) &&& (255 : Int32)).toUInt32.toUInt16.toUInt32.toInt32)), (nar .char ((((p1.toUInt32 >>> ((16 : Int32) &&& 31).toUInt32).toInt32) &&& (255 : Int32)).toUInt32.toUInt16.toUInt32.toInt32))], ¬ c < 0 ∧ ¬ (255 : Int32) < c := by
          intro c hc
          simp only [List.mem_cons, List.not_mem_nil, or_false] at hc
          rcases hc with rfl | rfl | rfl
          · exact own_and255 _
          · exact own_and255 _
          · exact own_and255 _
        obtain ⟨_, _, ⟨T26, L26, k26, n26⟩, -, X26, ⟨Lc26, hQ26, l26, y26, z26⟩, st26⟩ := X24.specialBack hx (y := (⟨"java/lang/String", "<init>", "([C)V"⟩ : MethodName)) rfl hown (mvT hZ (hw _ (List.mem_of_getElem? (i := 8) rfl))) (mvT hZ (hw _ (List.mem_of_getElem? (i := 9) rfl))) (mvT hZ (hw _ (List.mem_of_getElem? (i := 10) rfl))) (by decide) (StrChars.Road.backV (W := 1) hZ hws26 (kI := 4) (hw _ (List.mem_of_getElem? (i := 5) rfl)) (cs := [(nar .char ((p1 &&& (255 : Int32)).toUInt32.toUInt16.toUInt32.toInt32)), (nar .char ((((p1.toUInt32 >>> ((8 : Int32) &&& 31).toUInt32).toInt32) &&& (255 : Int32)).toUInt32.toUInt16.toUInt32.toInt32)), (nar .char ((((p1.toUInt32 >>> ((16 : Int32) &&& 31).toUInt32).toInt32) &&& (255 : Int32)).toUInt32.toUInt16.toUInt32.toInt32))]) (bs := [((nar .char ((p1 &&& (255 : Int32)).toUInt32.toUInt16.toUInt32.toInt32))).toInt8.toInt32, ((nar .char ((((p1.toUInt32 >>> ((8 : Int32) &&& 31).toUInt32).toInt32) &&& (255 : Int32)).toUInt32.toUInt16.toUInt32.toInt32))).toInt8.toInt32, ((nar .char ((((p1.toUInt32 >>> ((16 : Int32) &&& 31).toUInt32).toInt32) &&& (255 : Int32)).toUInt32.toUInt16.toUInt32.toInt32))).toInt8.toInt32]) (n := 3) g_b18 Z0 E_b18 F_b18_value F_b18_coder V_b19 (SC.ext O0.2) PC rfl rfl (by decide) (by decide) hlat26 rfl (by decide) (by decide)) (g := (mkF m 97 #[.val (.int p1), .val (.int p2), .val (.int ((p1 &&& (255 : Int32)).toUInt32.toUInt16.toUInt32.toInt32)), .val (.int ((((p1.toUInt32 >>> ((8 : Int32) &&& 31).toUInt32).toInt32) &&& (255 : Int32)).toUInt32.toUInt16.toUInt32.toInt32)), .val (.int ((((p1.toUInt32 >>> ((16 : Int32) &&& 31).toUInt32).toInt32) &&& (255 : Int32)).toUInt32.toUInt16.toUInt32.toInt32))] [(.ref b19), (.ref b18), (.ref b18)])) rfl (by rw [hml]; rfl) (Steps.refl _) (a := b18) (argsL := [(.ref b19)]) (rest := [(.ref b18)]) (lenOf pd_9 rfl) rfl (by show 2 * 0 + _ ≤ _; exact Nat.le_of_eq rfl) (hb hby d1_97) (fun _ _ => ⟨rfl, e24, (by decide : 2 + 1 ≤ _), (by decide : 7 + 3 ≤ _)⟩)
        dsimp only [Pt.U, Pt.locs, Pt.cells, Pt.slots] at X26 l26 y26 z26 st26 hQ26
        subst l26 y26 z26
        obtain ⟨rfl, N26q, K26, Ex26, Co26, t26, kb26, ta26, tb26, tc26, Va26, Ay26⟩ := hQ26
        have N26 := Fr.app N24 N26q
        obtain ⟨h26, e26⟩ : ∃ z, T26.heap = z := ⟨_, rfl⟩
        rw [e26] at K26 Ex26 Co26 Va26 Ay26
        have Sk27 : ∀ x ∈ [b18], Safe Z EL s.vm h24 x := (allS S_b18 all0)
        replace S_b18 := Safe.keep K26 Sk27 CR.1 S_b18
        replace CR := CR.trans (CHr.keep K26 Sk27 CR.1)
        replace hk := Nat.le_trans hk K26.1
        replace Z0 := Nat.le_trans Z0 K26.1
        replace K0 := K0.trans K26 (allS (Or.inr sz_b18) all0)
        replace O0 := O0.keep K26 (allS g_b18 all0)
        replace E_b18 := E_b18.keep K26
        replace V_b19 := V_b19.keep K26 (ninS (Ne.symm ne_b18_b19) nin0)
        refine GoH.tr (T' := T26) (pc' := 100) (L' := #[.val (.int p1), .val (.int p2), .val (.int ((p1 &&& (255 : Int32)).toUInt32.toUInt16.toUInt32.toInt32)), .val (.int ((((p1.toUInt32 >>> ((8 : Int32) &&& 31).toUInt32).toInt32) &&& (255 : Int32)).toUInt32.toUInt16.toUInt32.toInt32)), .val (.int ((((p1.toUInt32 >>> ((16 : Int32) &&& 31).toUInt32).toInt32) &&& (255 : Int32)).toUInt32.toUInt16.toUInt32.toInt32))]) (S' := [(.ref b18)]) st26 ?_
        exact GoH.retO X26 hx hlk hret rfl (by simp [FieldType.isReference, Value.isRef]) (hb hby d1_100) (by decide) (by decide) hS hk e26 hs0 hZ (own_EW hw) CR (by rw [e26]; exact ⟨b18, rfl, N26, K0, g_b18, sz_b18, E_b18⟩)
theorem pd_11 : parseMethodDescriptor "(II)Ljava/lang/String;" = some ⟨[.int, .int], some (.object "java/lang/String")⟩ := by decide +kernel
theorem pd_12 : parseMethodDescriptor "(Ljava/lang/String;Ljava/lang/String;Ljava/lang/String;)V" = some ⟨[(.object "java/lang/String"), (.object "java/lang/String"), (.object "java/lang/String")], none⟩ := by decide +kernel
theorem pd_13 : parseMethodDescriptor "(Ljava/lang/String;Ljava/lang/String;Ljava/lang/String;I)V" = some ⟨[(.object "java/lang/String"), (.object "java/lang/String"), (.object "java/lang/String"), .int], none⟩ := by decide +kernel
theorem pd_14 : parseMethodDescriptor "(Lorg/concordat/report/Rule;Ljava/lang/String;Ljava/lang/String;Ljava/lang/String;Lorg/concordat/report/Place;Lorg/concordat/report/Place;)V" = some ⟨[(.object "org/concordat/report/Rule"), (.object "java/lang/String"), (.object "java/lang/String"), (.object "java/lang/String"), (.object "org/concordat/report/Place"), (.object "org/concordat/report/Place")], none⟩ := by decide +kernel
theorem pd_15 : parseMethodDescriptor "()Ljava/util/List;" = some ⟨[], some (.object "java/util/List")⟩ := by decide +kernel
theorem pd_16 : parseMethodDescriptor "()I" = some ⟨[], some .int⟩ := by decide +kernel
theorem pd_17 : parseMethodDescriptor "(I)Ljava/lang/Object;" = some ⟨[.int], some (.object "java/lang/Object")⟩ := by decide +kernel
theorem pd_18 : parseMethodDescriptor "(Ljava/lang/Object;)Z" = some ⟨[(.object "java/lang/Object")], some .boolean⟩ := by decide +kernel
def Q0 (Z : State)  (h0 : Heap) (n0 : Nat) (v : Option Value) (h : Heap) (L : List Loc) : Prop := v = some (.int 1) ∧ Fr n0 L
set_option maxRecDepth 65536 in
set_option maxHeartbeats 40000000 in
theorem rm0 (l : Launch) (Z : State) (a0 : Array Value) (hw : ∀ d ∈ tables_1, d.before a0 Z = true) (ws : List Jvm.Cond) (p1 : Int32) (p2 : Int32) (p3 : Int32) (p4 : Int32) (p5 : Int32) (gC : Int32) (em : Addr) (h0 : Heap) (n0 : Nat) (Z0 : n0 ≤ h0.size) (SC : Sta Z Z.heap "java/lang/String" "COMPACT_STRINGS" "Z" (.int gC)) (PC : ¬ (gC = (0 : Int32))) (SE : Sta Z Z.heap "java/util/ImmutableCollections" "EMPTY" "Ljava/lang/Object;" (.ref em)) (O0 : Old Z n0 h0) (hem : em < n0) :
    MetFree l x (head1 (Jvm.Cond.code x code maxLocals ret :: ws) room_1) (fun aa_ U_ => aa_ = #[(.int p1), (.int p2), (.int p3), (.int p4), (.int p5)] ∧ Z.Warmed39 U_.vm ∧ U_.heap = h0 ∧ CHv Z EL U_.vm h0) (fun _ _ _ _ _ => True) (fun _ U_ o_ W_ => ∃ v_ L_, o_ = .returned v_ ∧ (Q0 Z  h0 n0) v_ W_.heap L_ ∧ CHr Z EL U_.vm U_.heap W_.vm W_.heap ∧ ReturnedEndW U_ o_ W_ L_ room_1.cells room_1.slots) := by
  refine own_metH (Q := (Q0 Z  h0 n0)) (L0 := #[.val (.int p1), .val (.int p2), .val (.int p3), .val (.int p4), .val (.int p5), .unset, .unset, .unset, .unset, .unset, .unset, .unset, .unset, .unset, .unset]) (plainFor_of_name pn_12) (fun m => by first | (simp [entryFrame, mkF, argsToLocals, Value.category, maxLocals]; done) | rfl) ?_
  intro p e s m below meth c T0 X0 hx hby hml hown hnm hret hlk hZ e0 hs0 CR hS hk
  have N0 := Fr.nil n0
  refine GoH.st (T' := T0) (pc' := 1) (L' := #[.val (.int p1), .val (.int p2), .val (.int p3), .val (.int p4), .val (.int p5), .unset, .unset, .unset, .unset, .unset, .unset, .unset, .unset, .unset, .unset]) (S' := [(.int p1)]) (fun t_ k_ => XS.iloadN X0.here hx rfl (hb hby at_0) rfl  k_) ?_
  refine GoH.st (T' := T0) (pc' := 2) (L' := #[.val (.int p1), .val (.int p2), .val (.int p3), .val (.int p4), .val (.int p5), .unset, .unset, .unset, .unset, .unset, .unset, .unset, .unset, .unset, .unset]) (S' := [(.int p3), (.int p1)]) (fun t_ k_ => XS.iloadN X0.here hx rfl (hb hby at_1) rfl  k_) ?_
  refine GoH.st (T' := T0) (pc' := 3) (L' := #[.val (.int p1), .val (.int p2), .val (.int p3), .val (.int p4), .val (.int p5), .unset, .unset, .unset, .unset, .unset, .unset, .unset, .unset, .unset, .unset]) (S' := [(.int (3 : Int32)), (.int p3), (.int p1)]) (fun t_ k_ => XS.iconst X0.here hx rfl (hb hby at_2) k_) ?_
  refine GoH.st (T' := T0) (pc' := 4) (L' := #[.val (.int p1), .val (.int p2), .val (.int p3), .val (.int p4), .val (.int p5), .unset, .unset, .unset, .unset, .unset, .unset, .unset, .unset, .unset, .unset]) (S' := [(.int (p3 &&& (3 : Int32))), (.int p1)]) (fun t_ k_ => XS.iand X0.here hx rfl (hb hby at_3) rfl k_) ?_
  obtain ⟨_, _, ⟨T1, L1, k1, n1⟩, -, X1, hS1, hg1, ⟨Lc1, hQ1, l1, y1, z1, CR1⟩, st1⟩ := callSS X0 hx (y := (⟨"org/concordat/report/AtomicityViolationIdentityPinLaw", "str", "(II)Ljava/lang/String;"⟩ : MethodName)) hown (mvT hZ (hw _ (List.mem_of_getElem? (i := 0) rfl))) (mvT hZ (hw _ (List.mem_of_getElem? (i := 1) rfl))) (mvT hZ (hw _ (List.mem_of_getElem? (i := 2) rfl))) (mvT hZ (hw _ (List.mem_of_getElem? (i := 3) rfl))) (by decide) (backOfSH (W := 0) (rm1 l Z a0 hw [] p1 (p3 &&& (3 : Int32)) gC h0 n0 Z0 SC PC O0) hZ (hw _ (List.mem_of_getElem? (i := 3) rfl)) (hw _ (List.mem_of_getElem? (i := 2) rfl)) (by decide) (by decide) (own_EW hw) CR.1) (g := (mkF m 4 #[.val (.int p1), .val (.int p2), .val (.int p3), .val (.int p4), .val (.int p5), .unset, .unset, .unset, .unset, .unset, .unset, .unset, .unset, .unset, .unset] [(.int (p3 &&& (3 : Int32))), (.int p1)])) rfl (by rw [hml]; rfl) (argsL := [(.int p1), (.int (p3 &&& (3 : Int32)))]) (rest := []) (lenOf pd_11 rfl) rfl (by show 2 * 0 + _ ≤ _; exact Nat.le_of_eq rfl) (hb hby at_4) (fun _ _ => ⟨rfl, e0, (by decide : 0 + 6 ≤ _), (by decide : 0 + 12 ≤ _)⟩)
  dsimp only [Pt.U, Pt.locs, Pt.cells, Pt.slots] at X1 l1 y1 z1 st1 hQ1 hS1 hg1 CR1
  subst l1 y1 z1
  replace X1 : Stand p l e _ (s.setVm T1.vm) m _ below meth c T1 _ _ _ := X1
  replace hS := foldS hS (T := T0) (Nat.le_trans hk (Nat.le_of_eq (congrArg Array.size e0.symm))) hS1 hg1
  replace hk := Nat.le_refl T1.heap.size
  replace hZ : Z.Warmed39 (s.setVm T1.vm).vm := State.Warmed39.trans (t := s.setVm s.vm) hZ hS1.1
  replace hown : (s.setVm T1.vm).vm.findClass "org/concordat/report/AtomicityViolationIdentityPinLaw" = some m.cls := by rw [show (s.setVm T1.vm).vm = T1.vm from rfl, hS1.1.alike.findClass]; exact hown
  obtain ⟨b1, rfl, N1q, K1, g_b1, lt1, E1⟩ := hQ1
  have N1 := Fr.app N0 N1q
  obtain ⟨h1, e1⟩ : ∃ z, T1.heap = z := ⟨_, rfl⟩
  rw [e1] at K1 E1 CR1
  replace CR := CR.trans CR1
  replace Z0 := Nat.le_trans Z0 K1.1
  replace O0 := O0.keep K1 all0
  replace hk : T1.heap.size ≤ h1.size := Nat.le_of_eq (congrArg Array.size e1)
  refine GoH.tr (T' := T1) (pc' := 7) (L' := #[.val (.int p1), .val (.int p2), .val (.int p3), .val (.int p4), .val (.int p5), .unset, .unset, .unset, .unset, .unset, .unset, .unset, .unset, .unset, .unset]) (S' := [(.ref b1)]) st1 ?_
  refine GoH.st (T' := T1) (pc' := 9) (L' := #[.val (.int p1), .val (.int p2), .val (.int p3), .val (.int p4), .val (.int p5), .val (.ref b1), .unset, .unset, .unset, .unset, .unset, .unset, .unset, .unset, .unset]) (S' := []) (fun t_ k_ => XS.astore X1.here hx rfl (hb hby at_7) rfl rfl (l' := #[.val (.int p1), .val (.int p2), .val (.int p3), .val (.int p4), .val (.int p5), .val (.ref b1), .unset, .unset, .unset, .unset, .unset, .unset, .unset, .unset, .unset]) rfl k_) ?_
  refine GoH.st (T' := T1) (pc' := 10) (L' := #[.val (.int p1), .val (.int p2), .val (.int p3), .val (.int p4), .val (.int p5), .val (.ref b1), .unset, .unset, .unset, .unset, .unset, .unset, .unset, .unset, .unset]) (S' := [(.int p2)]) (fun t_ k_ => XS.iloadN X1.here hx rfl (hb hby at_9) rfl  k_) ?_
  refine GoH.st (T' := T1) (pc' := 11) (L' := #[.val (.int p1), .val (.int p2), .val (.int p3), .val (.int p4), .val (.int p5), .val (.ref b1), .unset, .unset, .unset, .unset, .unset, .unset, .unset, .unset, .unset]) (S' := [(.int p3), (.int p2)]) (fun t_ k_ => XS.iloadN X1.here hx rfl (hb hby at_10) rfl  k_) ?_
  refine GoH.st (T' := T1) (pc' := 12) (L' := #[.val (.int p1), .val (.int p2), .val (.int p3), .val (.int p4), .val (.int p5), .val (.ref b1), .unset, .unset, .unset, .unset, .unset, .unset, .unset, .unset, .unset]) (S' := [(.int (2 : Int32)), (.int p3), (.int p2)]) (fun t_ k_ => XS.iconst X1.here hx rfl (hb hby at_11) k_) ?_
  refine GoH.st (T' := T1) (pc' := 13) (L' := #[.val (.int p1), .val (.int p2), .val (.int p3), .val (.int p4), .val (.int p5), .val (.ref b1), .unset, .unset, .unset, .unset, .unset, .unset, .unset, .unset, .unset]) (S' := [(.int ((p3.toUInt32 >>> ((2 : Int32) &&& 31).toUInt32).toInt32)), (.int p2)]) (fun t_ k_ => XS.iushr X1.here hx rfl (hb hby at_12) rfl k_) ?_
  refine GoH.st (T' := T1) (pc' := 14) (L' := #[.val (.int p1), .val (.int p2), .val (.int p3), .val (.int p4), .val (.int p5), .val (.ref b1), .unset, .unset, .unset, .unset, .unset, .unset, .unset, .unset, .unset]) (S' := [(.int (3 : Int32)), (.int ((p3.toUInt32 >>> ((2 : Int32) &&& 31).toUInt32).toInt32)), (.int p2)]) (fun t_ k_ => XS.iconst X1.here hx rfl (hb hby at_13) k_) ?_
  refine GoH.st (T' := T1) (pc' := 15) (L' := #[.val (.int p1), .val (.int p2), .val (.int p3), .val (.int p4), .val (.int p5), .val (.ref b1), .unset, .unset, .unset, .unset, .unset, .unset, .unset, .unset, .unset]) (S' := [(.int (((p3.toUInt32 >>> ((2 : Int32) &&& 31).toUInt32).toInt32) &&& (3 : Int32))), (.int p2)]) (fun t_ k_ => XS.iand X1.here hx rfl (hb hby at_14) rfl k_) ?_
  obtain ⟨_, _, ⟨T3, L3, k3, n3⟩, -, X3, hS3, hg3, ⟨Lc3, hQ3, l3, y3, z3, CR3⟩, st3⟩ := callSS X1 hx (y := (⟨"org/concordat/report/AtomicityViolationIdentityPinLaw", "str", "(II)Ljava/lang/String;"⟩ : MethodName)) hown (mvT hZ (hw _ (List.mem_of_getElem? (i := 0) rfl))) (mvT hZ (hw _ (List.mem_of_getElem? (i := 1) rfl))) (mvT hZ (hw _ (List.mem_of_getElem? (i := 2) rfl))) (mvT hZ (hw _ (List.mem_of_getElem? (i := 3) rfl))) (by decide) (backOfSH (W := 0) (rm1 l Z a0 hw [] p2 (((p3.toUInt32 >>> ((2 : Int32) &&& 31).toUInt32).toInt32) &&& (3 : Int32)) gC h1 n0 Z0 SC PC O0) hZ (hw _ (List.mem_of_getElem? (i := 3) rfl)) (hw _ (List.mem_of_getElem? (i := 2) rfl)) (by decide) (by decide) (own_EW hw) CR.1) (g := (mkF m 15 #[.val (.int p1), .val (.int p2), .val (.int p3), .val (.int p4), .val (.int p5), .val (.ref b1), .unset, .unset, .unset, .unset, .unset, .unset, .unset, .unset, .unset] [(.int (((p3.toUInt32 >>> ((2 : Int32) &&& 31).toUInt32).toInt32) &&& (3 : Int32))), (.int p2)])) rfl (by rw [hml]; rfl) (argsL := [(.int p2), (.int (((p3.toUInt32 >>> ((2 : Int32) &&& 31).toUInt32).toInt32) &&& (3 : Int32)))]) (rest := []) (lenOf pd_11 rfl) rfl (by show 2 * 0 + _ ≤ _; exact Nat.le_of_eq rfl) (hb hby at_15) (fun _ _ => ⟨rfl, e1, (by decide : 6 + 6 ≤ _), (by decide : 12 + 12 ≤ _)⟩)
  dsimp only [Pt.U, Pt.locs, Pt.cells, Pt.slots] at X3 l3 y3 z3 st3 hQ3 hS3 hg3 CR3
  subst l3 y3 z3
  replace X3 : Stand p l e _ (s.setVm T3.vm) m _ below meth c T3 _ _ _ := X3
  replace hS := foldS hS (T := T1) (Nat.le_trans hk (Nat.le_of_eq (congrArg Array.size e1.symm))) hS3 hg3
  replace hk := Nat.le_refl T3.heap.size
  replace hZ : Z.Warmed39 (s.setVm T3.vm).vm := State.Warmed39.trans (t := s.setVm T1.vm) hZ hS3.1
  replace hown : (s.setVm T3.vm).vm.findClass "org/concordat/report/AtomicityViolationIdentityPinLaw" = some m.cls := by rw [show (s.setVm T3.vm).vm = T3.vm from rfl, hS3.1.alike.findClass]; exact hown
  obtain ⟨b3, rfl, N3q, K3, g_b3, lt3, E3⟩ := hQ3
  have N3 := Fr.app N1 N3q
  have ne_b1_b3 : b1 ≠ b3 := Nat.ne_of_lt (Nat.lt_of_lt_of_le E1.lt lt3)
  obtain ⟨h3, e3⟩ : ∃ z, T3.heap = z := ⟨_, rfl⟩
  rw [e3] at K3 E3 CR3
  replace CR := CR.trans CR3
  replace Z0 := Nat.le_trans Z0 K3.1
  replace O0 := O0.keep K3 all0
  replace E1 := E1.keep K3
  replace hk : T3.heap.size ≤ h3.size := Nat.le_of_eq (congrArg Array.size e3)
  refine GoH.tr (T' := T3) (pc' := 18) (L' := #[.val (.int p1), .val (.int p2), .val (.int p3), .val (.int p4), .val (.int p5), .val (.ref b1), .unset, .unset, .unset, .unset, .unset, .unset, .unset, .unset, .unset]) (S' := [(.ref b3)]) st3 ?_
  refine GoH.st (T' := T3) (pc' := 20) (L' := #[.val (.int p1), .val (.int p2), .val (.int p3), .val (.int p4), .val (.int p5), .val (.ref b1), .val (.ref b3), .unset, .unset, .unset, .unset, .unset, .unset, .unset, .unset]) (S' := []) (fun t_ k_ => XS.astore X3.here hx rfl (hb hby at_18) rfl rfl (l' := #[.val (.int p1), .val (.int p2), .val (.int p3), .val (.int p4), .val (.int p5), .val (.ref b1), .val (.ref b3), .unset, .unset, .unset, .unset, .unset, .unset, .unset, .unset]) rfl k_) ?_
  refine GoH.st (T' := T3) (pc' := 21) (L' := #[.val (.int p1), .val (.int p2), .val (.int p3), .val (.int p4), .val (.int p5), .val (.ref b1), .val (.ref b3), .unset, .unset, .unset, .unset, .unset, .unset, .unset, .unset]) (S' := [(.int p3)]) (fun t_ k_ => XS.iloadN X3.here hx rfl (hb hby at_20) rfl  k_) ?_
  refine GoH.st (T' := T3) (pc' := 23) (L' := #[.val (.int p1), .val (.int p2), .val (.int p3), .val (.int p4), .val (.int p5), .val (.ref b1), .val (.ref b3), .unset, .unset, .unset, .unset, .unset, .unset, .unset, .unset]) (S' := [(.int (8 : Int32)), (.int p3)]) (fun t_ k_ => XS.bipush X3.here hx rfl (hb hby at_21) k_) ?_
  refine GoH.st (T' := T3) (pc' := 24) (L' := #[.val (.int p1), .val (.int p2), .val (.int p3), .val (.int p4), .val (.int p5), .val (.ref b1), .val (.ref b3), .unset, .unset, .unset, .unset, .unset, .unset, .unset, .unset]) (S' := [(.int ((p3.toUInt32 >>> ((8 : Int32) &&& 31).toUInt32).toInt32))]) (fun t_ k_ => XS.iushr X3.here hx rfl (hb hby at_23) rfl k_) ?_
  refine GoH.st (T' := T3) (pc' := 25) (L' := #[.val (.int p1), .val (.int p2), .val (.int p3), .val (.int p4), .val (.int p5), .val (.ref b1), .val (.ref b3), .unset, .unset, .unset, .unset, .unset, .unset, .unset, .unset]) (S' := [(.int p3), (.int ((p3.toUInt32 >>> ((8 : Int32) &&& 31).toUInt32).toInt32))]) (fun t_ k_ => XS.iloadN X3.here hx rfl (hb hby at_24) rfl  k_) ?_
  refine GoH.st (T' := T3) (pc' := 26) (L' := #[.val (.int p1), .val (.int p2), .val (.int p3), .val (.int p4), .val (.int p5), .val (.ref b1), .val (.ref b3), .unset, .unset, .unset, .unset, .unset, .unset, .unset, .unset]) (S' := [(.int (4 : Int32)), (.int p3), (.int ((p3.toUInt32 >>> ((8 : Int32) &&& 31).toUInt32).toInt32))]) (fun t_ k_ => XS.iconst X3.here hx rfl (hb hby at_25) k_) ?_
  refine GoH.st (T' := T3) (pc' := 27) (L' := #[.val (.int p1), .val (.int p2), .val (.int p3), .val (.int p4), .val (.int p5), .val (.ref b1), .val (.ref b3), .unset, .unset, .unset, .unset, .unset, .unset, .unset, .unset]) (S' := [(.int ((p3.toUInt32 >>> ((4 : Int32) &&& 31).toUInt32).toInt32)), (.int ((p3.toUInt32 >>> ((8 : Int32) &&& 31).toUInt32).toInt32))]) (fun t_ k_ => XS.iushr X3.here hx rfl (hb hby at_26) rfl k_) ?_
  refine GoH.st (T' := T3) (pc' := 28) (L' := #[.val (.int p1), .val (.int p2), .val (.int p3), .val (.int p4), .val (.int p5), .val (.ref b1), .val (.ref b3), .unset, .unset, .unset, .unset, .unset, .unset, .unset, .unset]) (S' := [(.int (3 : Int32)), (.int ((p3.toUInt32 >>> ((4 : Int32) &&& 31).toUInt32).toInt32)), (.int ((p3.toUInt32 >>> ((8 : Int32) &&& 31).toUInt32).toInt32))]) (fun t_ k_ => XS.iconst X3.here hx rfl (hb hby at_27) k_) ?_
  refine GoH.st (T' := T3) (pc' := 29) (L' := #[.val (.int p1), .val (.int p2), .val (.int p3), .val (.int p4), .val (.int p5), .val (.ref b1), .val (.ref b3), .unset, .unset, .unset, .unset, .unset, .unset, .unset, .unset]) (S' := [(.int (((p3.toUInt32 >>> ((4 : Int32) &&& 31).toUInt32).toInt32) &&& (3 : Int32))), (.int ((p3.toUInt32 >>> ((8 : Int32) &&& 31).toUInt32).toInt32))]) (fun t_ k_ => XS.iand X3.here hx rfl (hb hby at_28) rfl k_) ?_
  obtain ⟨_, _, ⟨T5, L5, k5, n5⟩, -, X5, hS5, hg5, ⟨Lc5, hQ5, l5, y5, z5, CR5⟩, st5⟩ := callSS X3 hx (y := (⟨"org/concordat/report/AtomicityViolationIdentityPinLaw", "str", "(II)Ljava/lang/String;"⟩ : MethodName)) hown (mvT hZ (hw _ (List.mem_of_getElem? (i := 0) rfl))) (mvT hZ (hw _ (List.mem_of_getElem? (i := 1) rfl))) (mvT hZ (hw _ (List.mem_of_getElem? (i := 2) rfl))) (mvT hZ (hw _ (List.mem_of_getElem? (i := 3) rfl))) (by decide) (backOfSH (W := 0) (rm1 l Z a0 hw [] ((p3.toUInt32 >>> ((8 : Int32) &&& 31).toUInt32).toInt32) (((p3.toUInt32 >>> ((4 : Int32) &&& 31).toUInt32).toInt32) &&& (3 : Int32)) gC h3 n0 Z0 SC PC O0) hZ (hw _ (List.mem_of_getElem? (i := 3) rfl)) (hw _ (List.mem_of_getElem? (i := 2) rfl)) (by decide) (by decide) (own_EW hw) CR.1) (g := (mkF m 29 #[.val (.int p1), .val (.int p2), .val (.int p3), .val (.int p4), .val (.int p5), .val (.ref b1), .val (.ref b3), .unset, .unset, .unset, .unset, .unset, .unset, .unset, .unset] [(.int (((p3.toUInt32 >>> ((4 : Int32) &&& 31).toUInt32).toInt32) &&& (3 : Int32))), (.int ((p3.toUInt32 >>> ((8 : Int32) &&& 31).toUInt32).toInt32))])) rfl (by rw [hml]; rfl) (argsL := [(.int ((p3.toUInt32 >>> ((8 : Int32) &&& 31).toUInt32).toInt32)), (.int (((p3.toUInt32 >>> ((4 : Int32) &&& 31).toUInt32).toInt32) &&& (3 : Int32)))]) (rest := []) (lenOf pd_11 rfl) rfl (by show 2 * 0 + _ ≤ _; exact Nat.le_of_eq rfl) (hb hby at_29) (fun _ _ => ⟨rfl, e3, (by decide : 12 + 6 ≤ _), (by decide : 24 + 12 ≤ _)⟩)
  dsimp only [Pt.U, Pt.locs, Pt.cells, Pt.slots] at X5 l5 y5 z5 st5 hQ5 hS5 hg5 CR5
  subst l5 y5 z5
  replace X5 : Stand p l e _ (s.setVm T5.vm) m _ below meth c T5 _ _ _ := X5
  replace hS := foldS hS (T := T3) (Nat.le_trans hk (Nat.le_of_eq (congrArg Array.size e3.symm))) hS5 hg5
  replace hk := Nat.le_refl T5.heap.size
  replace hZ : Z.Warmed39 (s.setVm T5.vm).vm := State.Warmed39.trans (t := s.setVm T3.vm) hZ hS5.1
  replace hown : (s.setVm T5.vm).vm.findClass "org/concordat/report/AtomicityViolationIdentityPinLaw" = some m.cls := by rw [show (s.setVm T5.vm).vm = T5.vm from rfl, hS5.1.alike.findClass]; exact hown
  obtain ⟨b5, rfl, N5q, K5, g_b5, lt5, E5⟩ := hQ5
  have N5 := Fr.app N3 N5q
  have ne_b1_b5 : b1 ≠ b5 := Nat.ne_of_lt (Nat.lt_of_lt_of_le E1.lt lt5)
  have ne_b3_b5 : b3 ≠ b5 := Nat.ne_of_lt (Nat.lt_of_lt_of_le E3.lt lt5)
  obtain ⟨h5, e5⟩ : ∃ z, T5.heap = z := ⟨_, rfl⟩
  rw [e5] at K5 E5 CR5
  replace CR := CR.trans CR5
  replace Z0 := Nat.le_trans Z0 K5.1
  replace O0 := O0.keep K5 all0
  replace E1 := E1.keep K5
  replace E3 := E3.keep K5
  replace hk : T5.heap.size ≤ h5.size := Nat.le_of_eq (congrArg Array.size e5)
  refine GoH.tr (T' := T5) (pc' := 32) (L' := #[.val (.int p1), .val (.int p2), .val (.int p3), .val (.int p4), .val (.int p5), .val (.ref b1), .val (.ref b3), .unset, .unset, .unset, .unset, .unset, .unset, .unset, .unset]) (S' := [(.ref b5)]) st5 ?_
  refine GoH.st (T' := T5) (pc' := 34) (L' := #[.val (.int p1), .val (.int p2), .val (.int p3), .val (.int p4), .val (.int p5), .val (.ref b1), .val (.ref b3), .val (.ref b5), .unset, .unset, .unset, .unset, .unset, .unset, .unset]) (S' := []) (fun t_ k_ => XS.astore X5.here hx rfl (hb hby at_32) rfl rfl (l' := #[.val (.int p1), .val (.int p2), .val (.int p3), .val (.int p4), .val (.int p5), .val (.ref b1), .val (.ref b3), .val (.ref b5), .unset, .unset, .unset, .unset, .unset, .unset, .unset]) rfl k_) ?_
  obtain ⟨T7, h7, X7, e7, E7, A7, D7, U7, st7⟩ := newO X5 hx hZ hown (hw _ (List.mem_of_getElem? (i := 37) rfl)) (hw _ (List.mem_of_getElem? (i := 38) rfl)) (hw _ (List.mem_of_getElem? (i := 39) rfl)) e5 (g := (mkF m 34 #[.val (.int p1), .val (.int p2), .val (.int p3), .val (.int p4), .val (.int p5), .val (.ref b1), .val (.ref b3), .val (.ref b5), .unset, .unset, .unset, .unset, .unset, .unset, .unset] [])) rfl (hb hby at_34) (by decide) (by decide)
  obtain ⟨b7, g7⟩ : ∃ z, z = h5.size := ⟨_, rfl⟩
  rw [← g7] at A7 D7 U7 st7
  have ne_b1_b7 : b1 ≠ b7 := Nat.ne_of_lt (Nat.lt_of_lt_of_le E1.lt (Nat.le_of_eq g7.symm))
  have ne_b3_b7 : b3 ≠ b7 := Nat.ne_of_lt (Nat.lt_of_lt_of_le E3.lt (Nat.le_of_eq g7.symm))
  have ne_b5_b7 : b5 ≠ b7 := Nat.ne_of_lt (Nat.lt_of_lt_of_le E5.lt (Nat.le_of_eq g7.symm))
  have g_b7 : n0 ≤ b7 := Nat.le_trans Z0 (Nat.le_of_eq g7.symm)
  replace CR := CR.trans (CHr.ext E7 CR.1)
  replace hk := Nat.le_trans hk E7.1
  replace Z0 := Nat.le_trans Z0 E7.1
  replace O0 := O0.ext E7
  replace E1 := E1.ext E7
  replace E3 := E3.ext E7
  replace E5 := E5.ext E7
  have E_b7 := A7
  have F_b7_id : Fld Z h7 b7 "org/concordat/report/Rule" "id" "Ljava/lang/String;" .null := D7 (Or.inr (hw _ (List.mem_of_getElem? (i := 60) rfl))) (ty := (.object "java/lang/String")) (by decide)
  have F_b7_summary : Fld Z h7 b7 "org/concordat/report/Rule" "summary" "Ljava/lang/String;" .null := D7 (Or.inr (hw _ (List.mem_of_getElem? (i := 62) rfl))) (ty := (.object "java/lang/String")) (by decide)
  have F_b7_description : Fld Z h7 b7 "org/concordat/report/Rule" "description" "Ljava/lang/String;" .null := D7 (Or.inr (hw _ (List.mem_of_getElem? (i := 64) rfl))) (ty := (.object "java/lang/String")) (by decide)
  refine GoH.st (T' := T7) (pc' := 37) (L' := #[.val (.int p1), .val (.int p2), .val (.int p3), .val (.int p4), .val (.int p5), .val (.ref b1), .val (.ref b3), .val (.ref b5), .unset, .unset, .unset, .unset, .unset, .unset, .unset]) (S' := [(.ref b7)]) st7 ?_
  refine GoH.st (T' := T7) (pc' := 38) (L' := #[.val (.int p1), .val (.int p2), .val (.int p3), .val (.int p4), .val (.int p5), .val (.ref b1), .val (.ref b3), .val (.ref b5), .unset, .unset, .unset, .unset, .unset, .unset, .unset]) (S' := [(.ref b7), (.ref b7)]) (fun t_ k_ => XS.dup X7.here hx rfl (hb hby at_37) rfl rfl k_) ?_
  obtain ⟨a8_, T8, h8, k8, X8, e8, E8, hS8, hk8, hZ8, ho8, CR8, -, st8⟩ := ldcOH X7 hx hZ hown (hw _ (List.mem_of_getElem? (i := 40) rfl)) (own_wS hw) e7 hS hk (own_EW hw) CR.1 (g := (mkF m 38 #[.val (.int p1), .val (.int p2), .val (.int p3), .val (.int p4), .val (.int p5), .val (.ref b1), .val (.ref b3), .val (.ref b5), .unset, .unset, .unset, .unset, .unset, .unset, .unset] [(.ref b7), (.ref b7)])) rfl (hb hby at_38) (n := 76) (by decide) (by decide) (by decide) (by decide)
  replace CR := CR.trans CR8
  replace Z0 := Nat.le_trans Z0 E8.1
  replace O0 := O0.ext E8
  replace E1 := E1.ext E8
  replace E3 := E3.ext E8
  replace E5 := E5.ext E8
  replace E_b7 := E_b7.ext E8
  replace F_b7_id := F_b7_id.ext E8
  replace F_b7_summary := F_b7_summary.ext E8
  replace F_b7_description := F_b7_description.ext E8
  replace hZ := hZ8
  replace hown := ho8
  replace hS := hS8
  replace hk := hk8
  refine GoH.st (T' := T8) (pc' := 40) (L' := #[.val (.int p1), .val (.int p2), .val (.int p3), .val (.int p4), .val (.int p5), .val (.ref b1), .val (.ref b3), .val (.ref b5), .unset, .unset, .unset, .unset, .unset, .unset, .unset]) (S' := [(.ref a8_), (.ref b7), (.ref b7)]) st8 ?_
  obtain ⟨a9_, T9, h9, k9, X9, e9, E9, hS9, hk9, hZ9, ho9, CR9, -, st9⟩ := ldcOH X8 hx hZ hown (hw _ (List.mem_of_getElem? (i := 41) rfl)) (own_wS hw) e8 hS hk (own_EW hw) CR.1 (g := (mkF m 40 #[.val (.int p1), .val (.int p2), .val (.int p3), .val (.int p4), .val (.int p5), .val (.ref b1), .val (.ref b3), .val (.ref b5), .unset, .unset, .unset, .unset, .unset, .unset, .unset] [(.ref a8_), (.ref b7), (.ref b7)])) rfl (hb hby at_40) (n := 4) (by decide) (by decide) (by decide) (by decide)
  replace CR := CR.trans CR9
  replace Z0 := Nat.le_trans Z0 E9.1
  replace O0 := O0.ext E9
  replace E1 := E1.ext E9
  replace E3 := E3.ext E9
  replace E5 := E5.ext E9
  replace E_b7 := E_b7.ext E9
  replace F_b7_id := F_b7_id.ext E9
  replace F_b7_summary := F_b7_summary.ext E9
  replace F_b7_description := F_b7_description.ext E9
  replace hZ := hZ9
  replace hown := ho9
  replace hS := hS9
  replace hk := hk9
  refine GoH.st (T' := T9) (pc' := 42) (L' := #[.val (.int p1), .val (.int p2), .val (.int p3), .val (.int p4), .val (.int p5), .val (.ref b1), .val (.ref b3), .val (.ref b5), .unset, .unset, .unset, .unset, .unset, .unset, .unset]) (S' := [(.ref a9_), (.ref a8_), (.ref b7), (.ref b7)]) st9 ?_
  obtain ⟨a10_, T10, h10, k10, X10, e10, E10, hS10, hk10, hZ10, ho10, CR10, -, st10⟩ := ldcOH X9 hx hZ hown (hw _ (List.mem_of_getElem? (i := 42) rfl)) (own_wS hw) e9 hS hk (own_EW hw) CR.1 (g := (mkF m 42 #[.val (.int p1), .val (.int p2), .val (.int p3), .val (.int p4), .val (.int p5), .val (.ref b1), .val (.ref b3), .val (.ref b5), .unset, .unset, .unset, .unset, .unset, .unset, .unset] [(.ref a9_), (.ref a8_), (.ref b7), (.ref b7)])) rfl (hb hby at_42) (n := 4) (by decide) (by decide) (by decide) (by decide)
  replace CR := CR.trans CR10
  replace Z0 := Nat.le_trans Z0 E10.1
  replace O0 := O0.ext E10
  replace E1 := E1.ext E10
  replace E3 := E3.ext E10
  replace E5 := E5.ext E10
  replace E_b7 := E_b7.ext E10
  replace F_b7_id := F_b7_id.ext E10
  replace F_b7_summary := F_b7_summary.ext E10
  replace F_b7_description := F_b7_description.ext E10
  replace hZ := hZ10
  replace hown := ho10
  replace hS := hS10
  replace hk := hk10
  refine GoH.st (T' := T10) (pc' := 44) (L' := #[.val (.int p1), .val (.int p2), .val (.int p3), .val (.int p4), .val (.int p5), .val (.ref b1), .val (.ref b3), .val (.ref b5), .unset, .unset, .unset, .unset, .unset, .unset, .unset]) (S' := [(.ref a10_), (.ref a9_), (.ref a8_), (.ref b7), (.ref b7)]) st10 ?_
  obtain ⟨_, _, ⟨T11, L11, k11, n11⟩, -, X11, hS11, hg11, ⟨Lc11, hQ11, l11, y11, z11, CR11⟩, st11⟩ := X10.specialBackS hx (y := (⟨"org/concordat/report/Rule", "<init>", "(Ljava/lang/String;Ljava/lang/String;Ljava/lang/String;)V"⟩ : MethodName)) rfl hown (mvT hZ (hw _ (List.mem_of_getElem? (i := 43) rfl))) (mvT hZ (hw _ (List.mem_of_getElem? (i := 44) rfl))) (mvT hZ (hw _ (List.mem_of_getElem? (i := 45) rfl))) (by decide) (backOfSH (W := 1) (rm8 l Z a0 hw [] b7 a8_ a9_ a10_ h10 n0 Z0 E_b7 g_b7 F_b7_id F_b7_summary F_b7_description) hZ (hw _ (List.mem_of_getElem? (i := 45) rfl)) (hw _ (List.mem_of_getElem? (i := 39) rfl)) (by decide) (by decide) (own_EW hw) CR.1) (g := (mkF m 44 #[.val (.int p1), .val (.int p2), .val (.int p3), .val (.int p4), .val (.int p5), .val (.ref b1), .val (.ref b3), .val (.ref b5), .unset, .unset, .unset, .unset, .unset, .unset, .unset] [(.ref a10_), (.ref a9_), (.ref a8_), (.ref b7), (.ref b7)])) rfl (by rw [hml]; rfl) (Steps.refl _) (a := b7) (argsL := [(.ref a8_), (.ref a9_), (.ref a10_)]) (rest := [(.ref b7)]) (lenOf pd_12 rfl) rfl (by show 2 * 0 + _ ≤ _; exact Nat.le_of_eq rfl) (hb hby at_44) (fun _ _ => ⟨rfl, e10, (by decide : 25 + 6 ≤ _), (by decide : 135 + 92 ≤ _)⟩)
  dsimp only [Pt.U, Pt.locs, Pt.cells, Pt.slots] at X11 l11 y11 z11 st11 hQ11 hS11 hg11 CR11
  subst l11 y11 z11
  replace X11 : Stand p l e _ (s.setVm T11.vm) m _ below meth c T11 _ _ _ := X11
  replace hS := foldS hS (T := T10) (Nat.le_trans hk (Nat.le_of_eq (congrArg Array.size e10.symm))) hS11 hg11
  replace hk := Nat.le_refl T11.heap.size
  replace hZ : Z.Warmed39 (s.setVm T11.vm).vm := State.Warmed39.trans (t := s.setVm T10.vm) hZ hS11.1
  replace hown : (s.setVm T11.vm).vm.findClass "org/concordat/report/AtomicityViolationIdentityPinLaw" = some m.cls := by rw [show (s.setVm T11.vm).vm = T11.vm from rfl, hS11.1.alike.findClass]; exact hown
  obtain ⟨rfl, N11q, K11, G11_id, G11_summary, G11_description⟩ := hQ11
  have N11 := Fr.app N5 N11q
  obtain ⟨h11, e11⟩ : ∃ z, T11.heap = z := ⟨_, rfl⟩
  rw [e11] at K11 G11_id G11_summary G11_description CR11
  replace CR := CR.trans CR11
  replace Z0 := Nat.le_trans Z0 K11.1
  replace O0 := O0.keep K11 (allS g_b7 all0)
  replace E1 := E1.keep K11
  replace E3 := E3.keep K11
  replace E5 := E5.keep K11
  replace E_b7 := E_b7.keep K11
  replace hk : T11.heap.size ≤ h11.size := Nat.le_of_eq (congrArg Array.size e11)
  refine GoH.tr (T' := T11) (pc' := 47) (L' := #[.val (.int p1), .val (.int p2), .val (.int p3), .val (.int p4), .val (.int p5), .val (.ref b1), .val (.ref b3), .val (.ref b5), .unset, .unset, .unset, .unset, .unset, .unset, .unset]) (S' := [(.ref b7)]) st11 ?_
  refine GoH.st (T' := T11) (pc' := 49) (L' := #[.val (.int p1), .val (.int p2), .val (.int p3), .val (.int p4), .val (.int p5), .val (.ref b1), .val (.ref b3), .val (.ref b5), .val (.ref b7), .unset, .unset, .unset, .unset, .unset, .unset]) (S' := []) (fun t_ k_ => XS.astore X11.here hx rfl (hb hby at_47) rfl rfl (l' := #[.val (.int p1), .val (.int p2), .val (.int p3), .val (.int p4), .val (.int p5), .val (.ref b1), .val (.ref b3), .val (.ref b5), .val (.ref b7), .unset, .unset, .unset, .unset, .unset, .unset]) rfl k_) ?_
  obtain ⟨T13, h13, X13, e13, E13, A13, D13, U13, st13⟩ := newO X11 hx hZ hown (hw _ (List.mem_of_getElem? (i := 65) rfl)) (hw _ (List.mem_of_getElem? (i := 66) rfl)) (hw _ (List.mem_of_getElem? (i := 67) rfl)) e11 (g := (mkF m 49 #[.val (.int p1), .val (.int p2), .val (.int p3), .val (.int p4), .val (.int p5), .val (.ref b1), .val (.ref b3), .val (.ref b5), .val (.ref b7), .unset, .unset, .unset, .unset, .unset, .unset] [])) rfl (hb hby at_49) (by decide) (by decide)
  obtain ⟨b13, g13⟩ : ∃ z, z = h11.size := ⟨_, rfl⟩
  rw [← g13] at A13 D13 U13 st13
  have ne_b1_b13 : b1 ≠ b13 := Nat.ne_of_lt (Nat.lt_of_lt_of_le E1.lt (Nat.le_of_eq g13.symm))
  have ne_b3_b13 : b3 ≠ b13 := Nat.ne_of_lt (Nat.lt_of_lt_of_le E3.lt (Nat.le_of_eq g13.symm))
  have ne_b5_b13 : b5 ≠ b13 := Nat.ne_of_lt (Nat.lt_of_lt_of_le E5.lt (Nat.le_of_eq g13.symm))
  have ne_b7_b13 : b7 ≠ b13 := Nat.ne_of_lt (Nat.lt_of_lt_of_le E_b7.lt (Nat.le_of_eq g13.symm))
  have g_b13 : n0 ≤ b13 := Nat.le_trans Z0 (Nat.le_of_eq g13.symm)
  replace CR := CR.trans (CHr.ext E13 CR.1)
  replace hk := Nat.le_trans hk E13.1
  replace Z0 := Nat.le_trans Z0 E13.1
  replace O0 := O0.ext E13
  replace E1 := E1.ext E13
  replace E3 := E3.ext E13
  replace E5 := E5.ext E13
  replace E_b7 := E_b7.ext E13
  replace G11_id := G11_id.ext E13
  replace G11_summary := G11_summary.ext E13
  replace G11_description := G11_description.ext E13
  have E_b13 := A13
  have F_b13_className : Fld Z h13 b13 "org/concordat/report/Place" "className" "Ljava/lang/String;" .null := D13 (Or.inr (hw _ (List.mem_of_getElem? (i := 80) rfl))) (ty := (.object "java/lang/String")) (by decide)
  have F_b13_methodName : Fld Z h13 b13 "org/concordat/report/Place" "methodName" "Ljava/lang/String;" .null := D13 (Or.inr (hw _ (List.mem_of_getElem? (i := 82) rfl))) (ty := (.object "java/lang/String")) (by decide)
  have F_b13_file : Fld Z h13 b13 "org/concordat/report/Place" "file" "Ljava/lang/String;" .null := D13 (Or.inr (hw _ (List.mem_of_getElem? (i := 84) rfl))) (ty := (.object "java/lang/String")) (by decide)
  have F_b13_line : Fld Z h13 b13 "org/concordat/report/Place" "line" "I" (.int (0 : Int32)) := D13 (Or.inr (hw _ (List.mem_of_getElem? (i := 86) rfl))) (ty := .int) (by decide)
  refine GoH.st (T' := T13) (pc' := 52) (L' := #[.val (.int p1), .val (.int p2), .val (.int p3), .val (.int p4), .val (.int p5), .val (.ref b1), .val (.ref b3), .val (.ref b5), .val (.ref b7), .unset, .unset, .unset, .unset, .unset, .unset]) (S' := [(.ref b13)]) st13 ?_
  refine GoH.st (T' := T13) (pc' := 53) (L' := #[.val (.int p1), .val (.int p2), .val (.int p3), .val (.int p4), .val (.int p5), .val (.ref b1), .val (.ref b3), .val (.ref b5), .val (.ref b7), .unset, .unset, .unset, .unset, .unset, .unset]) (S' := [(.ref b13), (.ref b13)]) (fun t_ k_ => XS.dup X13.here hx rfl (hb hby at_52) rfl rfl k_) ?_
  obtain ⟨a14_, T14, h14, k14, X14, e14, E14, hS14, hk14, hZ14, ho14, CR14, -, st14⟩ := ldcOH X13 hx hZ hown (hw _ (List.mem_of_getElem? (i := 68) rfl)) (own_wS hw) e13 hS hk (own_EW hw) CR.1 (g := (mkF m 53 #[.val (.int p1), .val (.int p2), .val (.int p3), .val (.int p4), .val (.int p5), .val (.ref b1), .val (.ref b3), .val (.ref b5), .val (.ref b7), .unset, .unset, .unset, .unset, .unset, .unset] [(.ref b13), (.ref b13)])) rfl (hb hby at_53) (n := 12) (by decide) (by decide) (by decide) (by decide)
  replace CR := CR.trans CR14
  replace Z0 := Nat.le_trans Z0 E14.1
  replace O0 := O0.ext E14
  replace E1 := E1.ext E14
  replace E3 := E3.ext E14
  replace E5 := E5.ext E14
  replace E_b7 := E_b7.ext E14
  replace G11_id := G11_id.ext E14
  replace G11_summary := G11_summary.ext E14
  replace G11_description := G11_description.ext E14
  replace E_b13 := E_b13.ext E14
  replace F_b13_className := F_b13_className.ext E14
  replace F_b13_methodName := F_b13_methodName.ext E14
  replace F_b13_file := F_b13_file.ext E14
  replace F_b13_line := F_b13_line.ext E14
  replace hZ := hZ14
  replace hown := ho14
  replace hS := hS14
  replace hk := hk14
  refine GoH.st (T' := T14) (pc' := 55) (L' := #[.val (.int p1), .val (.int p2), .val (.int p3), .val (.int p4), .val (.int p5), .val (.ref b1), .val (.ref b3), .val (.ref b5), .val (.ref b7), .unset, .unset, .unset, .unset, .unset, .unset]) (S' := [(.ref a14_), (.ref b13), (.ref b13)]) st14 ?_
  obtain ⟨a15_, T15, h15, k15, X15, e15, E15, hS15, hk15, hZ15, ho15, CR15, -, st15⟩ := ldcOH X14 hx hZ hown (hw _ (List.mem_of_getElem? (i := 69) rfl)) (own_wS hw) e14 hS hk (own_EW hw) CR.1 (g := (mkF m 55 #[.val (.int p1), .val (.int p2), .val (.int p3), .val (.int p4), .val (.int p5), .val (.ref b1), .val (.ref b3), .val (.ref b5), .val (.ref b7), .unset, .unset, .unset, .unset, .unset, .unset] [(.ref a14_), (.ref b13), (.ref b13)])) rfl (hb hby at_55) (n := 4) (by decide) (by decide) (by decide) (by decide)
  replace CR := CR.trans CR15
  replace Z0 := Nat.le_trans Z0 E15.1
  replace O0 := O0.ext E15
  replace E1 := E1.ext E15
  replace E3 := E3.ext E15
  replace E5 := E5.ext E15
  replace E_b7 := E_b7.ext E15
  replace G11_id := G11_id.ext E15
  replace G11_summary := G11_summary.ext E15
  replace G11_description := G11_description.ext E15
  replace E_b13 := E_b13.ext E15
  replace F_b13_className := F_b13_className.ext E15
  replace F_b13_methodName := F_b13_methodName.ext E15
  replace F_b13_file := F_b13_file.ext E15
  replace F_b13_line := F_b13_line.ext E15
  replace hZ := hZ15
  replace hown := ho15
  replace hS := hS15
  replace hk := hk15
  refine GoH.st (T' := T15) (pc' := 57) (L' := #[.val (.int p1), .val (.int p2), .val (.int p3), .val (.int p4), .val (.int p5), .val (.ref b1), .val (.ref b3), .val (.ref b5), .val (.ref b7), .unset, .unset, .unset, .unset, .unset, .unset]) (S' := [(.ref a15_), (.ref a14_), (.ref b13), (.ref b13)]) st15 ?_
  obtain ⟨a16_, T16, h16, k16, X16, e16, E16, hS16, hk16, hZ16, ho16, CR16, -, st16⟩ := ldcOH X15 hx hZ hown (hw _ (List.mem_of_getElem? (i := 70) rfl)) (own_wS hw) e15 hS hk (own_EW hw) CR.1 (g := (mkF m 57 #[.val (.int p1), .val (.int p2), .val (.int p3), .val (.int p4), .val (.int p5), .val (.ref b1), .val (.ref b3), .val (.ref b5), .val (.ref b7), .unset, .unset, .unset, .unset, .unset, .unset] [(.ref a15_), (.ref a14_), (.ref b13), (.ref b13)])) rfl (hb hby at_57) (n := 24) (by decide) (by decide) (by decide) (by decide)
  replace CR := CR.trans CR16
  replace Z0 := Nat.le_trans Z0 E16.1
  replace O0 := O0.ext E16
  replace E1 := E1.ext E16
  replace E3 := E3.ext E16
  replace E5 := E5.ext E16
  replace E_b7 := E_b7.ext E16
  replace G11_id := G11_id.ext E16
  replace G11_summary := G11_summary.ext E16
  replace G11_description := G11_description.ext E16
  replace E_b13 := E_b13.ext E16
  replace F_b13_className := F_b13_className.ext E16
  replace F_b13_methodName := F_b13_methodName.ext E16
  replace F_b13_file := F_b13_file.ext E16
  replace F_b13_line := F_b13_line.ext E16
  replace hZ := hZ16
  replace hown := ho16
  replace hS := hS16
  replace hk := hk16
  refine GoH.st (T' := T16) (pc' := 59) (L' := #[.val (.int p1), .val (.int p2), .val (.int p3), .val (.int p4), .val (.int p5), .val (.ref b1), .val (.ref b3), .val (.ref b5), .val (.ref b7), .unset, .unset, .unset, .unset, .unset, .unset]) (S' := [(.ref a16_), (.ref a15_), (.ref a14_), (.ref b13), (.ref b13)]) st16 ?_
  refine GoH.st (T' := T16) (pc' := 60) (L' := #[.val (.int p1), .val (.int p2), .val (.int p3), .val (.int p4), .val (.int p5), .val (.ref b1), .val (.ref b3), .val (.ref b5), .val (.ref b7), .unset, .unset, .unset, .unset, .unset, .unset]) (S' := [(.int p4), (.ref a16_), (.ref a15_), (.ref a14_), (.ref b13), (.ref b13)]) (fun t_ k_ => XS.iloadN X16.here hx rfl (hb hby at_59) rfl  k_) ?_
  obtain ⟨_, _, ⟨T17, L17, k17, n17⟩, -, X17, hS17, hg17, ⟨Lc17, hQ17, l17, y17, z17, CR17⟩, st17⟩ := X16.specialBackS hx (y := (⟨"org/concordat/report/Place", "<init>", "(Ljava/lang/String;Ljava/lang/String;Ljava/lang/String;I)V"⟩ : MethodName)) rfl hown (mvT hZ (hw _ (List.mem_of_getElem? (i := 71) rfl))) (mvT hZ (hw _ (List.mem_of_getElem? (i := 72) rfl))) (mvT hZ (hw _ (List.mem_of_getElem? (i := 73) rfl))) (by decide) (backOfSH (W := 1) (rm11 l Z a0 hw [] b13 a14_ a15_ a16_ p4 h16 n0 Z0 E_b13 g_b13 F_b13_className F_b13_methodName F_b13_file F_b13_line) hZ (hw _ (List.mem_of_getElem? (i := 73) rfl)) (hw _ (List.mem_of_getElem? (i := 67) rfl)) (by decide) (by decide) (own_EW hw) CR.1) (g := (mkF m 60 #[.val (.int p1), .val (.int p2), .val (.int p3), .val (.int p4), .val (.int p5), .val (.ref b1), .val (.ref b3), .val (.ref b5), .val (.ref b7), .unset, .unset, .unset, .unset, .unset, .unset] [(.int p4), (.ref a16_), (.ref a15_), (.ref a14_), (.ref b13), (.ref b13)])) rfl (by rw [hml]; rfl) (Steps.refl _) (a := b13) (argsL := [(.ref a14_), (.ref a15_), (.ref a16_), (.int p4)]) (rest := [(.ref b13)]) (lenOf pd_13 rfl) rfl (by show 2 * 0 + _ ≤ _; exact Nat.le_of_eq rfl) (hb hby at_60) (fun _ _ => ⟨rfl, e16, (by decide : 38 + 6 ≤ _), (by decide : 283 + 104 ≤ _)⟩)
  dsimp only [Pt.U, Pt.locs, Pt.cells, Pt.slots] at X17 l17 y17 z17 st17 hQ17 hS17 hg17 CR17
  subst l17 y17 z17
  replace X17 : Stand p l e _ (s.setVm T17.vm) m _ below meth c T17 _ _ _ := X17
  replace hS := foldS hS (T := T16) (Nat.le_trans hk (Nat.le_of_eq (congrArg Array.size e16.symm))) hS17 hg17
  replace hk := Nat.le_refl T17.heap.size
  replace hZ : Z.Warmed39 (s.setVm T17.vm).vm := State.Warmed39.trans (t := s.setVm T16.vm) hZ hS17.1
  replace hown : (s.setVm T17.vm).vm.findClass "org/concordat/report/AtomicityViolationIdentityPinLaw" = some m.cls := by rw [show (s.setVm T17.vm).vm = T17.vm from rfl, hS17.1.alike.findClass]; exact hown
  obtain ⟨rfl, N17q, K17, G17_className, G17_methodName, G17_file, G17_line⟩ := hQ17
  have N17 := Fr.app N11 N17q
  obtain ⟨h17, e17⟩ : ∃ z, T17.heap = z := ⟨_, rfl⟩
  rw [e17] at K17 G17_className G17_methodName G17_file G17_line CR17
  replace CR := CR.trans CR17
  replace Z0 := Nat.le_trans Z0 K17.1
  replace O0 := O0.keep K17 (allS g_b13 all0)
  replace E1 := E1.keep K17
  replace E3 := E3.keep K17
  replace E5 := E5.keep K17
  replace E_b7 := E_b7.keep K17
  replace G11_id := G11_id.keep K17 (ninS ne_b7_b13 nin0)
  replace G11_summary := G11_summary.keep K17 (ninS ne_b7_b13 nin0)
  replace G11_description := G11_description.keep K17 (ninS ne_b7_b13 nin0)
  replace E_b13 := E_b13.keep K17
  replace hk : T17.heap.size ≤ h17.size := Nat.le_of_eq (congrArg Array.size e17)
  refine GoH.tr (T' := T17) (pc' := 63) (L' := #[.val (.int p1), .val (.int p2), .val (.int p3), .val (.int p4), .val (.int p5), .val (.ref b1), .val (.ref b3), .val (.ref b5), .val (.ref b7), .unset, .unset, .unset, .unset, .unset, .unset]) (S' := [(.ref b13)]) st17 ?_
  refine GoH.st (T' := T17) (pc' := 65) (L' := #[.val (.int p1), .val (.int p2), .val (.int p3), .val (.int p4), .val (.int p5), .val (.ref b1), .val (.ref b3), .val (.ref b5), .val (.ref b7), .val (.ref b13), .unset, .unset, .unset, .unset, .unset]) (S' := []) (fun t_ k_ => XS.astore X17.here hx rfl (hb hby at_63) rfl rfl (l' := #[.val (.int p1), .val (.int p2), .val (.int p3), .val (.int p4), .val (.int p5), .val (.ref b1), .val (.ref b3), .val (.ref b5), .val (.ref b7), .val (.ref b13), .unset, .unset, .unset, .unset, .unset]) rfl k_) ?_
  obtain ⟨T19, h19, X19, e19, E19, A19, D19, U19, st19⟩ := newO X17 hx hZ hown (hw _ (List.mem_of_getElem? (i := 65) rfl)) (hw _ (List.mem_of_getElem? (i := 66) rfl)) (hw _ (List.mem_of_getElem? (i := 67) rfl)) e17 (g := (mkF m 65 #[.val (.int p1), .val (.int p2), .val (.int p3), .val (.int p4), .val (.int p5), .val (.ref b1), .val (.ref b3), .val (.ref b5), .val (.ref b7), .val (.ref b13), .unset, .unset, .unset, .unset, .unset] [])) rfl (hb hby at_65) (by decide) (by decide)
  obtain ⟨b19, g19⟩ : ∃ z, z = h17.size := ⟨_, rfl⟩
  rw [← g19] at A19 D19 U19 st19
  have ne_b1_b19 : b1 ≠ b19 := Nat.ne_of_lt (Nat.lt_of_lt_of_le E1.lt (Nat.le_of_eq g19.symm))
  have ne_b3_b19 : b3 ≠ b19 := Nat.ne_of_lt (Nat.lt_of_lt_of_le E3.lt (Nat.le_of_eq g19.symm))
  have ne_b5_b19 : b5 ≠ b19 := Nat.ne_of_lt (Nat.lt_of_lt_of_le E5.lt (Nat.le_of_eq g19.symm))
  have ne_b7_b19 : b7 ≠ b19 := Nat.ne_of_lt (Nat.lt_of_lt_of_le E_b7.lt (Nat.le_of_eq g19.symm))
  have ne_b13_b19 : b13 ≠ b19 := Nat.ne_of_lt (Nat.lt_of_lt_of_le E_b13.lt (Nat.le_of_eq g19.symm))
  have g_b19 : n0 ≤ b19 := Nat.le_trans Z0 (Nat.le_of_eq g19.symm)
  replace CR := CR.trans (CHr.ext E19 CR.1)
  replace hk := Nat.le_trans hk E19.1
  replace Z0 := Nat.le_trans Z0 E19.1
  replace O0 := O0.ext E19
  replace E1 := E1.ext E19
  replace E3 := E3.ext E19
  replace E5 := E5.ext E19
  replace E_b7 := E_b7.ext E19
  replace G11_id := G11_id.ext E19
  replace G11_summary := G11_summary.ext E19
  replace G11_description := G11_description.ext E19
  replace E_b13 := E_b13.ext E19
  replace G17_className := G17_className.ext E19
  replace G17_methodName := G17_methodName.ext E19
  replace G17_file := G17_file.ext E19
  replace G17_line := G17_line.ext E19
  have E_b19 := A19
  have F_b19_className : Fld Z h19 b19 "org/concordat/report/Place" "className" "Ljava/lang/String;" .null := D19 (Or.inr (hw _ (List.mem_of_getElem? (i := 80) rfl))) (ty := (.object "java/lang/String")) (by decide)
  have F_b19_methodName : Fld Z h19 b19 "org/concordat/report/Place" "methodName" "Ljava/lang/String;" .null := D19 (Or.inr (hw _ (List.mem_of_getElem? (i := 82) rfl))) (ty := (.object "java/lang/String")) (by decide)
  have F_b19_file : Fld Z h19 b19 "org/concordat/report/Place" "file" "Ljava/lang/String;" .null := D19 (Or.inr (hw _ (List.mem_of_getElem? (i := 84) rfl))) (ty := (.object "java/lang/String")) (by decide)
  have F_b19_line : Fld Z h19 b19 "org/concordat/report/Place" "line" "I" (.int (0 : Int32)) := D19 (Or.inr (hw _ (List.mem_of_getElem? (i := 86) rfl))) (ty := .int) (by decide)
  refine GoH.st (T' := T19) (pc' := 68) (L' := #[.val (.int p1), .val (.int p2), .val (.int p3), .val (.int p4), .val (.int p5), .val (.ref b1), .val (.ref b3), .val (.ref b5), .val (.ref b7), .val (.ref b13), .unset, .unset, .unset, .unset, .unset]) (S' := [(.ref b19)]) st19 ?_
  refine GoH.st (T' := T19) (pc' := 69) (L' := #[.val (.int p1), .val (.int p2), .val (.int p3), .val (.int p4), .val (.int p5), .val (.ref b1), .val (.ref b3), .val (.ref b5), .val (.ref b7), .val (.ref b13), .unset, .unset, .unset, .unset, .unset]) (S' := [(.ref b19), (.ref b19)]) (fun t_ k_ => XS.dup X19.here hx rfl (hb hby at_68) rfl rfl k_) ?_
  obtain ⟨a20_, T20, h20, k20, X20, e20, E20, hS20, hk20, hZ20, ho20, CR20, -, st20⟩ := ldcOH X19 hx hZ hown (hw _ (List.mem_of_getElem? (i := 68) rfl)) (own_wS hw) e19 hS hk (own_EW hw) CR.1 (g := (mkF m 69 #[.val (.int p1), .val (.int p2), .val (.int p3), .val (.int p4), .val (.int p5), .val (.ref b1), .val (.ref b3), .val (.ref b5), .val (.ref b7), .val (.ref b13), .unset, .unset, .unset, .unset, .unset] [(.ref b19), (.ref b19)])) rfl (hb hby at_69) (n := 12) (by decide) (by decide) (by decide) (by decide)
  replace CR := CR.trans CR20
  replace Z0 := Nat.le_trans Z0 E20.1
  replace O0 := O0.ext E20
  replace E1 := E1.ext E20
  replace E3 := E3.ext E20
  replace E5 := E5.ext E20
  replace E_b7 := E_b7.ext E20
  replace G11_id := G11_id.ext E20
  replace G11_summary := G11_summary.ext E20
  replace G11_description := G11_description.ext E20
  replace E_b13 := E_b13.ext E20
  replace G17_className := G17_className.ext E20
  replace G17_methodName := G17_methodName.ext E20
  replace G17_file := G17_file.ext E20
  replace G17_line := G17_line.ext E20
  replace E_b19 := E_b19.ext E20
  replace F_b19_className := F_b19_className.ext E20
  replace F_b19_methodName := F_b19_methodName.ext E20
  replace F_b19_file := F_b19_file.ext E20
  replace F_b19_line := F_b19_line.ext E20
  replace hZ := hZ20
  replace hown := ho20
  replace hS := hS20
  replace hk := hk20
  refine GoH.st (T' := T20) (pc' := 71) (L' := #[.val (.int p1), .val (.int p2), .val (.int p3), .val (.int p4), .val (.int p5), .val (.ref b1), .val (.ref b3), .val (.ref b5), .val (.ref b7), .val (.ref b13), .unset, .unset, .unset, .unset, .unset]) (S' := [(.ref a20_), (.ref b19), (.ref b19)]) st20 ?_
  obtain ⟨a21_, T21, h21, k21, X21, e21, E21, hS21, hk21, hZ21, ho21, CR21, -, st21⟩ := ldcOH X20 hx hZ hown (hw _ (List.mem_of_getElem? (i := 69) rfl)) (own_wS hw) e20 hS hk (own_EW hw) CR.1 (g := (mkF m 71 #[.val (.int p1), .val (.int p2), .val (.int p3), .val (.int p4), .val (.int p5), .val (.ref b1), .val (.ref b3), .val (.ref b5), .val (.ref b7), .val (.ref b13), .unset, .unset, .unset, .unset, .unset] [(.ref a20_), (.ref b19), (.ref b19)])) rfl (hb hby at_71) (n := 4) (by decide) (by decide) (by decide) (by decide)
  replace CR := CR.trans CR21
  replace Z0 := Nat.le_trans Z0 E21.1
  replace O0 := O0.ext E21
  replace E1 := E1.ext E21
  replace E3 := E3.ext E21
  replace E5 := E5.ext E21
  replace E_b7 := E_b7.ext E21
  replace G11_id := G11_id.ext E21
  replace G11_summary := G11_summary.ext E21
  replace G11_description := G11_description.ext E21
  replace E_b13 := E_b13.ext E21
  replace G17_className := G17_className.ext E21
  replace G17_methodName := G17_methodName.ext E21
  replace G17_file := G17_file.ext E21
  replace G17_line := G17_line.ext E21
  replace E_b19 := E_b19.ext E21
  replace F_b19_className := F_b19_className.ext E21
  replace F_b19_methodName := F_b19_methodName.ext E21
  replace F_b19_file := F_b19_file.ext E21
  replace F_b19_line := F_b19_line.ext E21
  replace hZ := hZ21
  replace hown := ho21
  replace hS := hS21
  replace hk := hk21
  refine GoH.st (T' := T21) (pc' := 73) (L' := #[.val (.int p1), .val (.int p2), .val (.int p3), .val (.int p4), .val (.int p5), .val (.ref b1), .val (.ref b3), .val (.ref b5), .val (.ref b7), .val (.ref b13), .unset, .unset, .unset, .unset, .unset]) (S' := [(.ref a21_), (.ref a20_), (.ref b19), (.ref b19)]) st21 ?_
  obtain ⟨a22_, T22, h22, k22, X22, e22, E22, hS22, hk22, hZ22, ho22, CR22, -, st22⟩ := ldcOH X21 hx hZ hown (hw _ (List.mem_of_getElem? (i := 70) rfl)) (own_wS hw) e21 hS hk (own_EW hw) CR.1 (g := (mkF m 73 #[.val (.int p1), .val (.int p2), .val (.int p3), .val (.int p4), .val (.int p5), .val (.ref b1), .val (.ref b3), .val (.ref b5), .val (.ref b7), .val (.ref b13), .unset, .unset, .unset, .unset, .unset] [(.ref a21_), (.ref a20_), (.ref b19), (.ref b19)])) rfl (hb hby at_73) (n := 24) (by decide) (by decide) (by decide) (by decide)
  replace CR := CR.trans CR22
  replace Z0 := Nat.le_trans Z0 E22.1
  replace O0 := O0.ext E22
  replace E1 := E1.ext E22
  replace E3 := E3.ext E22
  replace E5 := E5.ext E22
  replace E_b7 := E_b7.ext E22
  replace G11_id := G11_id.ext E22
  replace G11_summary := G11_summary.ext E22
  replace G11_description := G11_description.ext E22
  replace E_b13 := E_b13.ext E22
  replace G17_className := G17_className.ext E22
  replace G17_methodName := G17_methodName.ext E22
  replace G17_file := G17_file.ext E22
  replace G17_line := G17_line.ext E22
  replace E_b19 := E_b19.ext E22
  replace F_b19_className := F_b19_className.ext E22
  replace F_b19_methodName := F_b19_methodName.ext E22
  replace F_b19_file := F_b19_file.ext E22
  replace F_b19_line := F_b19_line.ext E22
  replace hZ := hZ22
  replace hown := ho22
  replace hS := hS22
  replace hk := hk22
  refine GoH.st (T' := T22) (pc' := 75) (L' := #[.val (.int p1), .val (.int p2), .val (.int p3), .val (.int p4), .val (.int p5), .val (.ref b1), .val (.ref b3), .val (.ref b5), .val (.ref b7), .val (.ref b13), .unset, .unset, .unset, .unset, .unset]) (S' := [(.ref a22_), (.ref a21_), (.ref a20_), (.ref b19), (.ref b19)]) st22 ?_
  refine GoH.st (T' := T22) (pc' := 77) (L' := #[.val (.int p1), .val (.int p2), .val (.int p3), .val (.int p4), .val (.int p5), .val (.ref b1), .val (.ref b3), .val (.ref b5), .val (.ref b7), .val (.ref b13), .unset, .unset, .unset, .unset, .unset]) (S' := [(.int p5), (.ref a22_), (.ref a21_), (.ref a20_), (.ref b19), (.ref b19)]) (fun t_ k_ => XS.iload X22.here hx rfl (hb hby at_75) rfl  k_) ?_
  obtain ⟨_, _, ⟨T23, L23, k23, n23⟩, -, X23, hS23, hg23, ⟨Lc23, hQ23, l23, y23, z23, CR23⟩, st23⟩ := X22.specialBackS hx (y := (⟨"org/concordat/report/Place", "<init>", "(Ljava/lang/String;Ljava/lang/String;Ljava/lang/String;I)V"⟩ : MethodName)) rfl hown (mvT hZ (hw _ (List.mem_of_getElem? (i := 71) rfl))) (mvT hZ (hw _ (List.mem_of_getElem? (i := 72) rfl))) (mvT hZ (hw _ (List.mem_of_getElem? (i := 73) rfl))) (by decide) (backOfSH (W := 1) (rm11 l Z a0 hw [] b19 a20_ a21_ a22_ p5 h22 n0 Z0 E_b19 g_b19 F_b19_className F_b19_methodName F_b19_file F_b19_line) hZ (hw _ (List.mem_of_getElem? (i := 73) rfl)) (hw _ (List.mem_of_getElem? (i := 67) rfl)) (by decide) (by decide) (own_EW hw) CR.1) (g := (mkF m 77 #[.val (.int p1), .val (.int p2), .val (.int p3), .val (.int p4), .val (.int p5), .val (.ref b1), .val (.ref b3), .val (.ref b5), .val (.ref b7), .val (.ref b13), .unset, .unset, .unset, .unset, .unset] [(.int p5), (.ref a22_), (.ref a21_), (.ref a20_), (.ref b19), (.ref b19)])) rfl (by rw [hml]; rfl) (Steps.refl _) (a := b19) (argsL := [(.ref a20_), (.ref a21_), (.ref a22_), (.int p5)]) (rest := [(.ref b19)]) (lenOf pd_13 rfl) rfl (by show 2 * 0 + _ ≤ _; exact Nat.le_of_eq rfl) (hb hby at_77) (fun _ _ => ⟨rfl, e22, (by decide : 51 + 6 ≤ _), (by decide : 443 + 104 ≤ _)⟩)
  dsimp only [Pt.U, Pt.locs, Pt.cells, Pt.slots] at X23 l23 y23 z23 st23 hQ23 hS23 hg23 CR23
  subst l23 y23 z23
  replace X23 : Stand p l e _ (s.setVm T23.vm) m _ below meth c T23 _ _ _ := X23
  replace hS := foldS hS (T := T22) (Nat.le_trans hk (Nat.le_of_eq (congrArg Array.size e22.symm))) hS23 hg23
  replace hk := Nat.le_refl T23.heap.size
  replace hZ : Z.Warmed39 (s.setVm T23.vm).vm := State.Warmed39.trans (t := s.setVm T22.vm) hZ hS23.1
  replace hown : (s.setVm T23.vm).vm.findClass "org/concordat/report/AtomicityViolationIdentityPinLaw" = some m.cls := by rw [show (s.setVm T23.vm).vm = T23.vm from rfl, hS23.1.alike.findClass]; exact hown
  obtain ⟨rfl, N23q, K23, G23_className, G23_methodName, G23_file, G23_line⟩ := hQ23
  have N23 := Fr.app N17 N23q
  obtain ⟨h23, e23⟩ : ∃ z, T23.heap = z := ⟨_, rfl⟩
  rw [e23] at K23 G23_className G23_methodName G23_file G23_line CR23
  replace CR := CR.trans CR23
  replace Z0 := Nat.le_trans Z0 K23.1
  replace O0 := O0.keep K23 (allS g_b19 all0)
  replace E1 := E1.keep K23
  replace E3 := E3.keep K23
  replace E5 := E5.keep K23
  replace E_b7 := E_b7.keep K23
  replace G11_id := G11_id.keep K23 (ninS ne_b7_b19 nin0)
  replace G11_summary := G11_summary.keep K23 (ninS ne_b7_b19 nin0)
  replace G11_description := G11_description.keep K23 (ninS ne_b7_b19 nin0)
  replace E_b13 := E_b13.keep K23
  replace G17_className := G17_className.keep K23 (ninS ne_b13_b19 nin0)
  replace G17_methodName := G17_methodName.keep K23 (ninS ne_b13_b19 nin0)
  replace G17_file := G17_file.keep K23 (ninS ne_b13_b19 nin0)
  replace G17_line := G17_line.keep K23 (ninS ne_b13_b19 nin0)
  replace E_b19 := E_b19.keep K23
  replace hk : T23.heap.size ≤ h23.size := Nat.le_of_eq (congrArg Array.size e23)
  refine GoH.tr (T' := T23) (pc' := 80) (L' := #[.val (.int p1), .val (.int p2), .val (.int p3), .val (.int p4), .val (.int p5), .val (.ref b1), .val (.ref b3), .val (.ref b5), .val (.ref b7), .val (.ref b13), .unset, .unset, .unset, .unset, .unset]) (S' := [(.ref b19)]) st23 ?_
  refine GoH.st (T' := T23) (pc' := 82) (L' := #[.val (.int p1), .val (.int p2), .val (.int p3), .val (.int p4), .val (.int p5), .val (.ref b1), .val (.ref b3), .val (.ref b5), .val (.ref b7), .val (.ref b13), .val (.ref b19), .unset, .unset, .unset, .unset]) (S' := []) (fun t_ k_ => XS.astore X23.here hx rfl (hb hby at_80) rfl rfl (l' := #[.val (.int p1), .val (.int p2), .val (.int p3), .val (.int p4), .val (.int p5), .val (.ref b1), .val (.ref b3), .val (.ref b5), .val (.ref b7), .val (.ref b13), .val (.ref b19), .unset, .unset, .unset, .unset]) rfl k_) ?_
  obtain ⟨T25, h25, X25, e25, E25, A25, D25, U25, st25⟩ := newO X23 hx hZ hown (hw _ (List.mem_of_getElem? (i := 87) rfl)) (hw _ (List.mem_of_getElem? (i := 88) rfl)) (hw _ (List.mem_of_getElem? (i := 89) rfl)) e23 (g := (mkF m 82 #[.val (.int p1), .val (.int p2), .val (.int p3), .val (.int p4), .val (.int p5), .val (.ref b1), .val (.ref b3), .val (.ref b5), .val (.ref b7), .val (.ref b13), .val (.ref b19), .unset, .unset, .unset, .unset] [])) rfl (hb hby at_82) (by decide) (by decide)
  obtain ⟨b25, g25⟩ : ∃ z, z = h23.size := ⟨_, rfl⟩
  rw [← g25] at A25 D25 U25 st25
  have ne_b1_b25 : b1 ≠ b25 := Nat.ne_of_lt (Nat.lt_of_lt_of_le E1.lt (Nat.le_of_eq g25.symm))
  have ne_b3_b25 : b3 ≠ b25 := Nat.ne_of_lt (Nat.lt_of_lt_of_le E3.lt (Nat.le_of_eq g25.symm))
  have ne_b5_b25 : b5 ≠ b25 := Nat.ne_of_lt (Nat.lt_of_lt_of_le E5.lt (Nat.le_of_eq g25.symm))
  have ne_b7_b25 : b7 ≠ b25 := Nat.ne_of_lt (Nat.lt_of_lt_of_le E_b7.lt (Nat.le_of_eq g25.symm))
  have ne_b13_b25 : b13 ≠ b25 := Nat.ne_of_lt (Nat.lt_of_lt_of_le E_b13.lt (Nat.le_of_eq g25.symm))
  have ne_b19_b25 : b19 ≠ b25 := Nat.ne_of_lt (Nat.lt_of_lt_of_le E_b19.lt (Nat.le_of_eq g25.symm))
  have g_b25 : n0 ≤ b25 := Nat.le_trans Z0 (Nat.le_of_eq g25.symm)
  replace CR := CR.trans (CHr.ext E25 CR.1)
  replace hk := Nat.le_trans hk E25.1
  replace Z0 := Nat.le_trans Z0 E25.1
  replace O0 := O0.ext E25
  replace E1 := E1.ext E25
  replace E3 := E3.ext E25
  replace E5 := E5.ext E25
  replace E_b7 := E_b7.ext E25
  replace G11_id := G11_id.ext E25
  replace G11_summary := G11_summary.ext E25
  replace G11_description := G11_description.ext E25
  replace E_b13 := E_b13.ext E25
  replace G17_className := G17_className.ext E25
  replace G17_methodName := G17_methodName.ext E25
  replace G17_file := G17_file.ext E25
  replace G17_line := G17_line.ext E25
  replace E_b19 := E_b19.ext E25
  replace G23_className := G23_className.ext E25
  replace G23_methodName := G23_methodName.ext E25
  replace G23_file := G23_file.ext E25
  replace G23_line := G23_line.ext E25
  have E_b25 := A25
  have F_b25_rule : Fld Z h25 b25 "org/concordat/report/AtomicityViolation" "rule" "Lorg/concordat/report/Rule;" .null := D25 (Or.inr (hw _ (List.mem_of_getElem? (i := 102) rfl))) (ty := (.object "org/concordat/report/Rule")) (by decide)
  have F_b25_subject : Fld Z h25 b25 "org/concordat/report/AtomicityViolation" "subject" "Ljava/lang/String;" .null := D25 (Or.inr (hw _ (List.mem_of_getElem? (i := 104) rfl))) (ty := (.object "java/lang/String")) (by decide)
  have F_b25_context : Fld Z h25 b25 "org/concordat/report/AtomicityViolation" "context" "Ljava/lang/String;" .null := D25 (Or.inr (hw _ (List.mem_of_getElem? (i := 106) rfl))) (ty := (.object "java/lang/String")) (by decide)
  have F_b25_witness : Fld Z h25 b25 "org/concordat/report/AtomicityViolation" "witness" "Ljava/lang/String;" .null := D25 (Or.inr (hw _ (List.mem_of_getElem? (i := 108) rfl))) (ty := (.object "java/lang/String")) (by decide)
  have F_b25_first : Fld Z h25 b25 "org/concordat/report/AtomicityViolation" "first" "Lorg/concordat/report/Place;" .null := D25 (Or.inr (hw _ (List.mem_of_getElem? (i := 110) rfl))) (ty := (.object "org/concordat/report/Place")) (by decide)
  have F_b25_second : Fld Z h25 b25 "org/concordat/report/AtomicityViolation" "second" "Lorg/concordat/report/Place;" .null := D25 (Or.inr (hw _ (List.mem_of_getElem? (i := 112) rfl))) (ty := (.object "org/concordat/report/Place")) (by decide)
  refine GoH.st (T' := T25) (pc' := 85) (L' := #[.val (.int p1), .val (.int p2), .val (.int p3), .val (.int p4), .val (.int p5), .val (.ref b1), .val (.ref b3), .val (.ref b5), .val (.ref b7), .val (.ref b13), .val (.ref b19), .unset, .unset, .unset, .unset]) (S' := [(.ref b25)]) st25 ?_
  refine GoH.st (T' := T25) (pc' := 86) (L' := #[.val (.int p1), .val (.int p2), .val (.int p3), .val (.int p4), .val (.int p5), .val (.ref b1), .val (.ref b3), .val (.ref b5), .val (.ref b7), .val (.ref b13), .val (.ref b19), .unset, .unset, .unset, .unset]) (S' := [(.ref b25), (.ref b25)]) (fun t_ k_ => XS.dup X25.here hx rfl (hb hby at_85) rfl rfl k_) ?_
  refine GoH.st (T' := T25) (pc' := 88) (L' := #[.val (.int p1), .val (.int p2), .val (.int p3), .val (.int p4), .val (.int p5), .val (.ref b1), .val (.ref b3), .val (.ref b5), .val (.ref b7), .val (.ref b13), .val (.ref b19), .unset, .unset, .unset, .unset]) (S' := [(.ref b7), (.ref b25), (.ref b25)]) (fun t_ k_ => XS.aload X25.here hx rfl (hb hby at_86) rfl rfl  k_) ?_
  refine GoH.st (T' := T25) (pc' := 90) (L' := #[.val (.int p1), .val (.int p2), .val (.int p3), .val (.int p4), .val (.int p5), .val (.ref b1), .val (.ref b3), .val (.ref b5), .val (.ref b7), .val (.ref b13), .val (.ref b19), .unset, .unset, .unset, .unset]) (S' := [(.ref b5), (.ref b7), (.ref b25), (.ref b25)]) (fun t_ k_ => XS.aload X25.here hx rfl (hb hby at_88) rfl rfl  k_) ?_
  refine GoH.st (T' := T25) (pc' := 92) (L' := #[.val (.int p1), .val (.int p2), .val (.int p3), .val (.int p4), .val (.int p5), .val (.ref b1), .val (.ref b3), .val (.ref b5), .val (.ref b7), .val (.ref b13), .val (.ref b19), .unset, .unset, .unset, .unset]) (S' := [(.ref b1), (.ref b5), (.ref b7), (.ref b25), (.ref b25)]) (fun t_ k_ => XS.aload X25.here hx rfl (hb hby at_90) rfl rfl  k_) ?_
  refine GoH.st (T' := T25) (pc' := 94) (L' := #[.val (.int p1), .val (.int p2), .val (.int p3), .val (.int p4), .val (.int p5), .val (.ref b1), .val (.ref b3), .val (.ref b5), .val (.ref b7), .val (.ref b13), .val (.ref b19), .unset, .unset, .unset, .unset]) (S' := [(.ref b3), (.ref b1), (.ref b5), (.ref b7), (.ref b25), (.ref b25)]) (fun t_ k_ => XS.aload X25.here hx rfl (hb hby at_92) rfl rfl  k_) ?_
  refine GoH.st (T' := T25) (pc' := 96) (L' := #[.val (.int p1), .val (.int p2), .val (.int p3), .val (.int p4), .val (.int p5), .val (.ref b1), .val (.ref b3), .val (.ref b5), .val (.ref b7), .val (.ref b13), .val (.ref b19), .unset, .unset, .unset, .unset]) (S' := [(.ref b13), (.ref b3), (.ref b1), (.ref b5), (.ref b7), (.ref b25), (.ref b25)]) (fun t_ k_ => XS.aload X25.here hx rfl (hb hby at_94) rfl rfl  k_) ?_
  refine GoH.st (T' := T25) (pc' := 98) (L' := #[.val (.int p1), .val (.int p2), .val (.int p3), .val (.int p4), .val (.int p5), .val (.ref b1), .val (.ref b3), .val (.ref b5), .val (.ref b7), .val (.ref b13), .val (.ref b19), .unset, .unset, .unset, .unset]) (S' := [(.ref b19), (.ref b13), (.ref b3), (.ref b1), (.ref b5), (.ref b7), (.ref b25), (.ref b25)]) (fun t_ k_ => XS.aload X25.here hx rfl (hb hby at_96) rfl rfl  k_) ?_
  obtain ⟨_, _, ⟨T26, L26, k26, n26⟩, -, X26, hS26, hg26, ⟨Lc26, hQ26, l26, y26, z26, CR26⟩, st26⟩ := X25.specialBackS hx (y := (⟨"org/concordat/report/AtomicityViolation", "<init>", "(Lorg/concordat/report/Rule;Ljava/lang/String;Ljava/lang/String;Ljava/lang/String;Lorg/concordat/report/Place;Lorg/concordat/report/Place;)V"⟩ : MethodName)) rfl hown (mvT hZ (hw _ (List.mem_of_getElem? (i := 90) rfl))) (mvT hZ (hw _ (List.mem_of_getElem? (i := 91) rfl))) (mvT hZ (hw _ (List.mem_of_getElem? (i := 92) rfl))) (by decide) (backOfSH (W := 1) (rm12 l Z a0 hw [] b25 b7 b5 b1 b3 b13 b19 h25 n0 Z0 E_b25 g_b25 F_b25_rule F_b25_subject F_b25_context F_b25_witness F_b25_first F_b25_second) hZ (hw _ (List.mem_of_getElem? (i := 92) rfl)) (hw _ (List.mem_of_getElem? (i := 89) rfl)) (by decide) (by decide) (own_EW hw) CR.1) (g := (mkF m 98 #[.val (.int p1), .val (.int p2), .val (.int p3), .val (.int p4), .val (.int p5), .val (.ref b1), .val (.ref b3), .val (.ref b5), .val (.ref b7), .val (.ref b13), .val (.ref b19), .unset, .unset, .unset, .unset] [(.ref b19), (.ref b13), (.ref b3), (.ref b1), (.ref b5), (.ref b7), (.ref b25), (.ref b25)])) rfl (by rw [hml]; rfl) (Steps.refl _) (a := b25) (argsL := [(.ref b7), (.ref b5), (.ref b1), (.ref b3), (.ref b13), (.ref b19)]) (rest := [(.ref b25)]) (lenOf pd_14 rfl) rfl (by show 2 * 0 + _ ≤ _; exact Nat.le_of_eq rfl) (hb hby at_98) (fun _ _ => ⟨rfl, e25, (by decide : 58 + 12 ≤ _), (by decide : 553 + 168 ≤ _)⟩)
  dsimp only [Pt.U, Pt.locs, Pt.cells, Pt.slots] at X26 l26 y26 z26 st26 hQ26 hS26 hg26 CR26
  subst l26 y26 z26
  replace X26 : Stand p l e _ (s.setVm T26.vm) m _ below meth c T26 _ _ _ := X26
  replace hS := foldS hS (T := T25) (Nat.le_trans hk (Nat.le_of_eq (congrArg Array.size e25.symm))) hS26 hg26
  replace hk := Nat.le_refl T26.heap.size
  replace hZ : Z.Warmed39 (s.setVm T26.vm).vm := State.Warmed39.trans (t := s.setVm T23.vm) hZ hS26.1
  replace hown : (s.setVm T26.vm).vm.findClass "org/concordat/report/AtomicityViolationIdentityPinLaw" = some m.cls := by rw [show (s.setVm T26.vm).vm = T26.vm from rfl, hS26.1.alike.findClass]; exact hown
  obtain ⟨rfl, N26q, K26, G26_rule, G26_subject, G26_context, G26_witness, G26_first, G26_second⟩ := hQ26
  have N26 := Fr.app N23 N26q
  obtain ⟨h26, e26⟩ : ∃ z, T26.heap = z := ⟨_, rfl⟩
  rw [e26] at K26 G26_rule G26_subject G26_context G26_witness G26_first G26_second CR26
  replace CR := CR.trans CR26
  replace Z0 := Nat.le_trans Z0 K26.1
  replace O0 := O0.keep K26 (allS g_b25 all0)
  replace E1 := E1.keep K26
  replace E3 := E3.keep K26
  replace E5 := E5.keep K26
  replace E_b7 := E_b7.keep K26
  replace G11_id := G11_id.keep K26 (ninS ne_b7_b25 nin0)
  replace G11_summary := G11_summary.keep K26 (ninS ne_b7_b25 nin0)
  replace G11_description := G11_description.keep K26 (ninS ne_b7_b25 nin0)
  replace E_b13 := E_b13.keep K26
  replace G17_className := G17_className.keep K26 (ninS ne_b13_b25 nin0)
  replace G17_methodName := G17_methodName.keep K26 (ninS ne_b13_b25 nin0)
  replace G17_file := G17_file.keep K26 (ninS ne_b13_b25 nin0)
  replace G17_line := G17_line.keep K26 (ninS ne_b13_b25 nin0)
  replace E_b19 := E_b19.keep K26
  replace G23_className := G23_className.keep K26 (ninS ne_b19_b25 nin0)
  replace G23_methodName := G23_methodName.keep K26 (ninS ne_b19_b25 nin0)
  replace G23_file := G23_file.keep K26 (ninS ne_b19_b25 nin0)
  replace G23_line := G23_line.keep K26 (ninS ne_b19_b25 nin0)
  replace E_b25 := E_b25.keep K26
  replace hk : T26.heap.size ≤ h26.size := Nat.le_of_eq (congrArg Array.size e26)
  refine GoH.tr (T' := T26) (pc' := 101) (L' := #[.val (.int p1), .val (.int p2), .val (.int p3), .val (.int p4), .val (.int p5), .val (.ref b1), .val (.ref b3), .val (.ref b5), .val (.ref b7), .val (.ref b13), .val (.ref b19), .unset, .unset, .unset, .unset]) (S' := [(.ref b25)]) st26 ?_
  refine GoH.st (T' := T26) (pc' := 103) (L' := #[.val (.int p1), .val (.int p2), .val (.int p3), .val (.int p4), .val (.int p5), .val (.ref b1), .val (.ref b3), .val (.ref b5), .val (.ref b7), .val (.ref b13), .val (.ref b19), .val (.ref b25), .unset, .unset, .unset]) (S' := []) (fun t_ k_ => XS.astore X26.here hx rfl (hb hby at_101) rfl rfl (l' := #[.val (.int p1), .val (.int p2), .val (.int p3), .val (.int p4), .val (.int p5), .val (.ref b1), .val (.ref b3), .val (.ref b5), .val (.ref b7), .val (.ref b13), .val (.ref b19), .val (.ref b25), .unset, .unset, .unset]) rfl k_) ?_
  refine GoH.st (T' := T26) (pc' := 105) (L' := #[.val (.int p1), .val (.int p2), .val (.int p3), .val (.int p4), .val (.int p5), .val (.ref b1), .val (.ref b3), .val (.ref b5), .val (.ref b7), .val (.ref b13), .val (.ref b19), .val (.ref b25), .unset, .unset, .unset]) (S' := [(.ref b25)]) (fun t_ k_ => XS.aload X26.here hx rfl (hb hby at_103) rfl rfl  k_) ?_
  obtain ⟨cq28, kq28, q28a, q28b, q28c⟩ := isOf hZ e26 E_b25
  obtain ⟨_, _, ⟨T28, L28, k28, n28⟩, -, X28, ⟨Lc28, hQ28, l28, y28, z28⟩, st28⟩ := X26.virtualBack hx (y := (⟨"org/concordat/report/AtomicityViolation", "identity", "()Ljava/util/List;"⟩ : MethodName)) (z := (⟨"org/concordat/report/AtomicityViolation", "identity", "()Ljava/util/List;"⟩ : MethodName)) hown (mvT hZ (hw _ (List.mem_of_getElem? (i := 113) rfl))) (mvT hZ (hw _ (List.mem_of_getElem? (i := 114) rfl))) (notFace_of_selects (args := #[]) (mvT hZ (hw _ (List.mem_of_getElem? (i := 116) rfl)))) (mvT hZ (hw _ (List.mem_of_getElem? (i := 116) rfl))) (mvT hZ (hw _ (List.mem_of_getElem? (i := 115) rfl))) (by decide) (backOf (W := 0) (rm13 l Z a0 hw [] b25 b1 b3 h26 n0 Z0 G26_context G26_witness) hZ (hw _ (List.mem_of_getElem? (i := 117) rfl)) (hw _ (List.mem_of_getElem? (i := 89) rfl)) (by decide) (by decide)) q28a q28c (g := (mkF m 105 #[.val (.int p1), .val (.int p2), .val (.int p3), .val (.int p4), .val (.int p5), .val (.ref b1), .val (.ref b3), .val (.ref b5), .val (.ref b7), .val (.ref b13), .val (.ref b19), .val (.ref b25), .unset, .unset, .unset] [(.ref b25)])) rfl (by rw [hml]; rfl) (Steps.refl _) (argsL := []) (rest := []) (lenOf pd_15 rfl) rfl (by show 2 * 0 + _ ≤ _; exact Nat.le_of_eq rfl) (hb hby at_105) (fun _ _ => ⟨rfl, e26, (by decide : 70 + 1 ≤ _), (by decide : 721 + 2 ≤ _)⟩)
  dsimp only [Pt.U, Pt.locs, Pt.cells, Pt.slots] at X28 l28 y28 z28 st28 hQ28
  subst l28 y28 z28
  obtain ⟨b28, rfl, N28q, K28, g_b28, lt28, E_b28, Fa28, Fb28⟩ := hQ28
  have N28 := Fr.app N26 N28q
  have ne_b1_b28 : b1 ≠ b28 := Nat.ne_of_lt (Nat.lt_of_lt_of_le E1.lt lt28)
  have ne_b3_b28 : b3 ≠ b28 := Nat.ne_of_lt (Nat.lt_of_lt_of_le E3.lt lt28)
  have ne_b5_b28 : b5 ≠ b28 := Nat.ne_of_lt (Nat.lt_of_lt_of_le E5.lt lt28)
  have ne_b7_b28 : b7 ≠ b28 := Nat.ne_of_lt (Nat.lt_of_lt_of_le E_b7.lt lt28)
  have ne_b13_b28 : b13 ≠ b28 := Nat.ne_of_lt (Nat.lt_of_lt_of_le E_b13.lt lt28)
  have ne_b19_b28 : b19 ≠ b28 := Nat.ne_of_lt (Nat.lt_of_lt_of_le E_b19.lt lt28)
  have ne_b25_b28 : b25 ≠ b28 := Nat.ne_of_lt (Nat.lt_of_lt_of_le E_b25.lt lt28)
  obtain ⟨h28, e28⟩ : ∃ z, T28.heap = z := ⟨_, rfl⟩
  rw [e28] at K28 E_b28 Fa28 Fb28
  have Sk29 : ∀ x ∈ [], Safe Z EL T26.vm h26 x := all0
  replace CR := CR.trans (CHr.keep K28 Sk29 CR.1)
  replace hk := Nat.le_trans hk K28.1
  replace Z0 := Nat.le_trans Z0 K28.1
  replace O0 := O0.keep K28 all0
  replace E1 := E1.keep K28
  replace E3 := E3.keep K28
  replace E5 := E5.keep K28
  replace E_b7 := E_b7.keep K28
  replace G11_id := G11_id.keep K28 nin0
  replace G11_summary := G11_summary.keep K28 nin0
  replace G11_description := G11_description.keep K28 nin0
  replace E_b13 := E_b13.keep K28
  replace G17_className := G17_className.keep K28 nin0
  replace G17_methodName := G17_methodName.keep K28 nin0
  replace G17_file := G17_file.keep K28 nin0
  replace G17_line := G17_line.keep K28 nin0
  replace E_b19 := E_b19.keep K28
  replace G23_className := G23_className.keep K28 nin0
  replace G23_methodName := G23_methodName.keep K28 nin0
  replace G23_file := G23_file.keep K28 nin0
  replace G23_line := G23_line.keep K28 nin0
  replace E_b25 := E_b25.keep K28
  replace G26_rule := G26_rule.keep K28 nin0
  replace G26_subject := G26_subject.keep K28 nin0
  replace G26_context := G26_context.keep K28 nin0
  replace G26_witness := G26_witness.keep K28 nin0
  replace G26_first := G26_first.keep K28 nin0
  replace G26_second := G26_second.keep K28 nin0
  refine GoH.tr (T' := T28) (pc' := 108) (L' := #[.val (.int p1), .val (.int p2), .val (.int p3), .val (.int p4), .val (.int p5), .val (.ref b1), .val (.ref b3), .val (.ref b5), .val (.ref b7), .val (.ref b13), .val (.ref b19), .val (.ref b25), .unset, .unset, .unset]) (S' := [(.ref b28)]) st28 ?_
  refine GoH.st (T' := T28) (pc' := 110) (L' := #[.val (.int p1), .val (.int p2), .val (.int p3), .val (.int p4), .val (.int p5), .val (.ref b1), .val (.ref b3), .val (.ref b5), .val (.ref b7), .val (.ref b13), .val (.ref b19), .val (.ref b25), .val (.ref b28), .unset, .unset]) (S' := []) (fun t_ k_ => XS.astore X28.here hx rfl (hb hby at_108) rfl rfl (l' := #[.val (.int p1), .val (.int p2), .val (.int p3), .val (.int p4), .val (.int p5), .val (.ref b1), .val (.ref b3), .val (.ref b5), .val (.ref b7), .val (.ref b13), .val (.ref b19), .val (.ref b25), .val (.ref b28), .unset, .unset]) rfl k_) ?_
  refine GoH.st (T' := T28) (pc' := 112) (L' := #[.val (.int p1), .val (.int p2), .val (.int p3), .val (.int p4), .val (.int p5), .val (.ref b1), .val (.ref b3), .val (.ref b5), .val (.ref b7), .val (.ref b13), .val (.ref b19), .val (.ref b25), .val (.ref b28), .unset, .unset]) (S' := [(.ref b28)]) (fun t_ k_ => XS.aload X28.here hx rfl (hb hby at_110) rfl rfl  k_) ?_
  refine GoH.st (T' := T28) (pc' := 117) (L' := #[.val (.int p1), .val (.int p2), .val (.int p3), .val (.int p4), .val (.int p5), .val (.ref b1), .val (.ref b3), .val (.ref b5), .val (.ref b7), .val (.ref b13), .val (.ref b19), .val (.ref b25), .val (.ref b28), .unset, .unset]) (S' := []) (fun t_ k_ => XS.ifnonnullYes X28.here hx rfl (pc0 := 112) (pc' := 117) rfl (hb hby at_112) rfl (by decide) (by decide) k_) ?_
  refine GoH.st (T' := T28) (pc' := 119) (L' := #[.val (.int p1), .val (.int p2), .val (.int p3), .val (.int p4), .val (.int p5), .val (.ref b1), .val (.ref b3), .val (.ref b5), .val (.ref b7), .val (.ref b13), .val (.ref b19), .val (.ref b25), .val (.ref b28), .unset, .unset]) (S' := [(.ref b28)]) (fun t_ k_ => XS.aload X28.here hx rfl (hb hby at_117) rfl rfl  k_) ?_
  obtain ⟨cq30, kq30, q30a, q30b, q30c⟩ := isOf hZ e28 E_b28
  obtain ⟨_, _, ⟨T30, L30, k30, n30⟩, -, X30, ⟨Lc30, hQ30, l30, y30, z30⟩, st30⟩ := X28.interfaceBack hx (xi := (⟨"java/util/List", "size", "()I"⟩ : MethodName)) (y := (⟨"java/util/ImmutableCollections$List12", "size", "()I"⟩ : MethodName)) hown (mvT hZ (hw _ (List.mem_of_getElem? (i := 155) rfl))) (mvT hZ (hw _ (List.mem_of_getElem? (i := 156) rfl))) (mvT hZ (hw _ (List.mem_of_getElem? (i := 157) rfl))) (mvT hZ (hw _ (List.mem_of_getElem? (i := 158) rfl))) (mvT hZ (hw _ (List.mem_of_getElem? (i := 159) rfl))) (mvT hZ (hw _ (List.mem_of_getElem? (i := 160) rfl))) (mvT hZ (hw _ (List.mem_of_getElem? (i := 161) rfl))) (mvT hZ (hw _ (List.mem_of_getElem? (i := 162) rfl))) (by decide) (backOf (W := 0) (rm20 l Z a0 hw [] b28 b3 em h28 n0 Z0 SE O0 (Nat.ne_of_gt (Nat.lt_of_lt_of_le hem g_b3)) Fb28) hZ (hw _ (List.mem_of_getElem? (i := 163) rfl)) (hw _ (List.mem_of_getElem? (i := 124) rfl)) (by decide) (by decide)) q30a q30b q30c (g := (mkF m 119 #[.val (.int p1), .val (.int p2), .val (.int p3), .val (.int p4), .val (.int p5), .val (.ref b1), .val (.ref b3), .val (.ref b5), .val (.ref b7), .val (.ref b13), .val (.ref b19), .val (.ref b25), .val (.ref b28), .unset, .unset] [(.ref b28)])) rfl (by rw [hml]; rfl) (Steps.refl _) (argsL := []) (rest := []) (lenOf pd_16 rfl) rfl (by show 2 * 0 + _ ≤ _; exact Nat.le_of_eq rfl) (hb hby at_119) (fun _ _ => ⟨rfl, e28, (by decide : 71 + 0 ≤ _), (by decide : 723 + 0 ≤ _)⟩)
  dsimp only [Pt.U, Pt.locs, Pt.cells, Pt.slots] at X30 l30 y30 z30 st30 hQ30
  subst l30 y30 z30
  obtain ⟨rfl, N30q, e30⟩ := hQ30
  have N30 := Fr.app N28 N30q
  refine GoH.tr (T' := T30) (pc' := 124) (L' := #[.val (.int p1), .val (.int p2), .val (.int p3), .val (.int p4), .val (.int p5), .val (.ref b1), .val (.ref b3), .val (.ref b5), .val (.ref b7), .val (.ref b13), .val (.ref b19), .val (.ref b25), .val (.ref b28), .unset, .unset]) (S' := [(.int (2 : Int32))]) st30 ?_
  refine GoH.st (T' := T30) (pc' := 125) (L' := #[.val (.int p1), .val (.int p2), .val (.int p3), .val (.int p4), .val (.int p5), .val (.ref b1), .val (.ref b3), .val (.ref b5), .val (.ref b7), .val (.ref b13), .val (.ref b19), .val (.ref b25), .val (.ref b28), .unset, .unset]) (S' := [(.int (2 : Int32)), (.int (2 : Int32))]) (fun t_ k_ => XS.iconst X30.here hx rfl (hb hby at_124) k_) ?_
  refine GoH.st (T' := T30) (pc' := 130) (L' := #[.val (.int p1), .val (.int p2), .val (.int p3), .val (.int p4), .val (.int p5), .val (.ref b1), .val (.ref b3), .val (.ref b5), .val (.ref b7), .val (.ref b13), .val (.ref b19), .val (.ref b25), .val (.ref b28), .unset, .unset]) (S' := []) (fun t_ k_ => XS.icmpYes X30.here hx rfl (pc0 := 125) (pc' := 130) rfl (hb hby at_125) rfl (teq (by decide : ((2 : Int32) = (2 : Int32)))).1 (by decide) (by decide) k_) ?_
  refine GoH.st (T' := T30) (pc' := 132) (L' := #[.val (.int p1), .val (.int p2), .val (.int p3), .val (.int p4), .val (.int p5), .val (.ref b1), .val (.ref b3), .val (.ref b5), .val (.ref b7), .val (.ref b13), .val (.ref b19), .val (.ref b25), .val (.ref b28), .unset, .unset]) (S' := [(.ref b28)]) (fun t_ k_ => XS.aload X30.here hx rfl (hb hby at_130) rfl rfl  k_) ?_
  refine GoH.st (T' := T30) (pc' := 133) (L' := #[.val (.int p1), .val (.int p2), .val (.int p3), .val (.int p4), .val (.int p5), .val (.ref b1), .val (.ref b3), .val (.ref b5), .val (.ref b7), .val (.ref b13), .val (.ref b19), .val (.ref b25), .val (.ref b28), .unset, .unset]) (S' := [(.int (0 : Int32)), (.ref b28)]) (fun t_ k_ => XS.iconst X30.here hx rfl (hb hby at_132) k_) ?_
  obtain ⟨cq31, kq31, q31a, q31b, q31c⟩ := isOf hZ e30 E_b28
  obtain ⟨_, _, ⟨T31, L31, k31, n31⟩, -, X31, ⟨Lc31, hQ31, l31, y31, z31⟩, st31⟩ := X30.interfaceBack hx (xi := (⟨"java/util/List", "get", "(I)Ljava/lang/Object;"⟩ : MethodName)) (y := (⟨"java/util/ImmutableCollections$List12", "get", "(I)Ljava/lang/Object;"⟩ : MethodName)) hown (mvT hZ (hw _ (List.mem_of_getElem? (i := 166) rfl))) (mvT hZ (hw _ (List.mem_of_getElem? (i := 167) rfl))) (mvT hZ (hw _ (List.mem_of_getElem? (i := 168) rfl))) (mvT hZ (hw _ (List.mem_of_getElem? (i := 169) rfl))) (mvT hZ (hw _ (List.mem_of_getElem? (i := 170) rfl))) (mvT hZ (hw _ (List.mem_of_getElem? (i := 171) rfl))) (mvT hZ (hw _ (List.mem_of_getElem? (i := 172) rfl))) (mvT hZ (hw _ (List.mem_of_getElem? (i := 162) rfl))) (by decide) (backOf (W := 0) (rmget0 l Z a0 hw [] b28 b1 h28 n0 Z0 Fa28) hZ (hw _ (List.mem_of_getElem? (i := 173) rfl)) (hw _ (List.mem_of_getElem? (i := 124) rfl)) (by decide) (by decide)) q31a q31b q31c (g := (mkF m 133 #[.val (.int p1), .val (.int p2), .val (.int p3), .val (.int p4), .val (.int p5), .val (.ref b1), .val (.ref b3), .val (.ref b5), .val (.ref b7), .val (.ref b13), .val (.ref b19), .val (.ref b25), .val (.ref b28), .unset, .unset] [(.int (0 : Int32)), (.ref b28)])) rfl (by rw [hml]; rfl) (Steps.refl _) (argsL := [(.int (0 : Int32))]) (rest := []) (lenOf pd_17 rfl) rfl (by show 2 * 0 + _ ≤ _; exact Nat.le_of_eq rfl) (hb hby at_133) (fun _ _ => ⟨rfl, e30, (by decide : 71 + 0 ≤ _), (by decide : 723 + 0 ≤ _)⟩)
  dsimp only [Pt.U, Pt.locs, Pt.cells, Pt.slots] at X31 l31 y31 z31 st31 hQ31
  subst l31 y31 z31
  obtain ⟨rfl, N31q, e31⟩ := hQ31
  have N31 := Fr.app N30 N31q
  refine GoH.tr (T' := T31) (pc' := 138) (L' := #[.val (.int p1), .val (.int p2), .val (.int p3), .val (.int p4), .val (.int p5), .val (.ref b1), .val (.ref b3), .val (.ref b5), .val (.ref b7), .val (.ref b13), .val (.ref b19), .val (.ref b25), .val (.ref b28), .unset, .unset]) (S' := [(.ref b1)]) st31 ?_
  obtain ⟨T32, X32, e32, st32⟩ := castY X31 hx hZ hown (hw _ (List.mem_of_getElem? (i := 4) rfl)) e31 (Ins.self E1) (g := (mkF m 138 #[.val (.int p1), .val (.int p2), .val (.int p3), .val (.int p4), .val (.int p5), .val (.ref b1), .val (.ref b3), .val (.ref b5), .val (.ref b7), .val (.ref b13), .val (.ref b19), .val (.ref b25), .val (.ref b28), .unset, .unset] [(.ref b1)])) rfl rfl (hb hby at_138)
  refine GoH.st (T' := T32) (pc' := 141) (L' := #[.val (.int p1), .val (.int p2), .val (.int p3), .val (.int p4), .val (.int p5), .val (.ref b1), .val (.ref b3), .val (.ref b5), .val (.ref b7), .val (.ref b13), .val (.ref b19), .val (.ref b25), .val (.ref b28), .unset, .unset]) (S' := [(.ref b1)]) st32 ?_
  refine GoH.st (T' := T32) (pc' := 143) (L' := #[.val (.int p1), .val (.int p2), .val (.int p3), .val (.int p4), .val (.int p5), .val (.ref b1), .val (.ref b3), .val (.ref b5), .val (.ref b7), .val (.ref b13), .val (.ref b19), .val (.ref b25), .val (.ref b28), .val (.ref b1), .unset]) (S' := []) (fun t_ k_ => XS.astore X32.here hx rfl (hb hby at_141) rfl rfl (l' := #[.val (.int p1), .val (.int p2), .val (.int p3), .val (.int p4), .val (.int p5), .val (.ref b1), .val (.ref b3), .val (.ref b5), .val (.ref b7), .val (.ref b13), .val (.ref b19), .val (.ref b25), .val (.ref b28), .val (.ref b1), .unset]) rfl k_) ?_
  refine GoH.st (T' := T32) (pc' := 145) (L' := #[.val (.int p1), .val (.int p2), .val (.int p3), .val (.int p4), .val (.int p5), .val (.ref b1), .val (.ref b3), .val (.ref b5), .val (.ref b7), .val (.ref b13), .val (.ref b19), .val (.ref b25), .val (.ref b28), .val (.ref b1), .unset]) (S' := [(.ref b28)]) (fun t_ k_ => XS.aload X32.here hx rfl (hb hby at_143) rfl rfl  k_) ?_
  refine GoH.st (T' := T32) (pc' := 146) (L' := #[.val (.int p1), .val (.int p2), .val (.int p3), .val (.int p4), .val (.int p5), .val (.ref b1), .val (.ref b3), .val (.ref b5), .val (.ref b7), .val (.ref b13), .val (.ref b19), .val (.ref b25), .val (.ref b28), .val (.ref b1), .unset]) (S' := [(.int (1 : Int32)), (.ref b28)]) (fun t_ k_ => XS.iconst X32.here hx rfl (hb hby at_145) k_) ?_
  obtain ⟨cq33, kq33, q33a, q33b, q33c⟩ := isOf hZ e32 E_b28
  obtain ⟨_, _, ⟨T33, L33, k33, n33⟩, -, X33, ⟨Lc33, hQ33, l33, y33, z33⟩, st33⟩ := X32.interfaceBack hx (xi := (⟨"java/util/List", "get", "(I)Ljava/lang/Object;"⟩ : MethodName)) (y := (⟨"java/util/ImmutableCollections$List12", "get", "(I)Ljava/lang/Object;"⟩ : MethodName)) hown (mvT hZ (hw _ (List.mem_of_getElem? (i := 166) rfl))) (mvT hZ (hw _ (List.mem_of_getElem? (i := 167) rfl))) (mvT hZ (hw _ (List.mem_of_getElem? (i := 168) rfl))) (mvT hZ (hw _ (List.mem_of_getElem? (i := 169) rfl))) (mvT hZ (hw _ (List.mem_of_getElem? (i := 170) rfl))) (mvT hZ (hw _ (List.mem_of_getElem? (i := 171) rfl))) (mvT hZ (hw _ (List.mem_of_getElem? (i := 172) rfl))) (mvT hZ (hw _ (List.mem_of_getElem? (i := 162) rfl))) (by decide) (backOf (W := 0) (rmget1 l Z a0 hw [] b28 b3 em h28 n0 Z0 SE O0 (Nat.ne_of_gt (Nat.lt_of_lt_of_le hem g_b3)) Fb28) hZ (hw _ (List.mem_of_getElem? (i := 173) rfl)) (hw _ (List.mem_of_getElem? (i := 124) rfl)) (by decide) (by decide)) q33a q33b q33c (g := (mkF m 146 #[.val (.int p1), .val (.int p2), .val (.int p3), .val (.int p4), .val (.int p5), .val (.ref b1), .val (.ref b3), .val (.ref b5), .val (.ref b7), .val (.ref b13), .val (.ref b19), .val (.ref b25), .val (.ref b28), .val (.ref b1), .unset] [(.int (1 : Int32)), (.ref b28)])) rfl (by rw [hml]; rfl) (Steps.refl _) (argsL := [(.int (1 : Int32))]) (rest := []) (lenOf pd_17 rfl) rfl (by show 2 * 0 + _ ≤ _; exact Nat.le_of_eq rfl) (hb hby at_146) (fun _ _ => ⟨rfl, e32, (by decide : 71 + 0 ≤ _), (by decide : 723 + 0 ≤ _)⟩)
  dsimp only [Pt.U, Pt.locs, Pt.cells, Pt.slots] at X33 l33 y33 z33 st33 hQ33
  subst l33 y33 z33
  obtain ⟨rfl, N33q, e33⟩ := hQ33
  have N33 := Fr.app N31 N33q
  refine GoH.tr (T' := T33) (pc' := 151) (L' := #[.val (.int p1), .val (.int p2), .val (.int p3), .val (.int p4), .val (.int p5), .val (.ref b1), .val (.ref b3), .val (.ref b5), .val (.ref b7), .val (.ref b13), .val (.ref b19), .val (.ref b25), .val (.ref b28), .val (.ref b1), .unset]) (S' := [(.ref b3)]) st33 ?_
  obtain ⟨T34, X34, e34, st34⟩ := castY X33 hx hZ hown (hw _ (List.mem_of_getElem? (i := 4) rfl)) e33 (Ins.self E3) (g := (mkF m 151 #[.val (.int p1), .val (.int p2), .val (.int p3), .val (.int p4), .val (.int p5), .val (.ref b1), .val (.ref b3), .val (.ref b5), .val (.ref b7), .val (.ref b13), .val (.ref b19), .val (.ref b25), .val (.ref b28), .val (.ref b1), .unset] [(.ref b3)])) rfl rfl (hb hby at_151)
  refine GoH.st (T' := T34) (pc' := 154) (L' := #[.val (.int p1), .val (.int p2), .val (.int p3), .val (.int p4), .val (.int p5), .val (.ref b1), .val (.ref b3), .val (.ref b5), .val (.ref b7), .val (.ref b13), .val (.ref b19), .val (.ref b25), .val (.ref b28), .val (.ref b1), .unset]) (S' := [(.ref b3)]) st34 ?_
  refine GoH.st (T' := T34) (pc' := 156) (L' := #[.val (.int p1), .val (.int p2), .val (.int p3), .val (.int p4), .val (.int p5), .val (.ref b1), .val (.ref b3), .val (.ref b5), .val (.ref b7), .val (.ref b13), .val (.ref b19), .val (.ref b25), .val (.ref b28), .val (.ref b1), .val (.ref b3)]) (S' := []) (fun t_ k_ => XS.astore X34.here hx rfl (hb hby at_154) rfl rfl (l' := #[.val (.int p1), .val (.int p2), .val (.int p3), .val (.int p4), .val (.int p5), .val (.ref b1), .val (.ref b3), .val (.ref b5), .val (.ref b7), .val (.ref b13), .val (.ref b19), .val (.ref b25), .val (.ref b28), .val (.ref b1), .val (.ref b3)]) rfl k_) ?_
  refine GoH.st (T' := T34) (pc' := 158) (L' := #[.val (.int p1), .val (.int p2), .val (.int p3), .val (.int p4), .val (.int p5), .val (.ref b1), .val (.ref b3), .val (.ref b5), .val (.ref b7), .val (.ref b13), .val (.ref b19), .val (.ref b25), .val (.ref b28), .val (.ref b1), .val (.ref b3)]) (S' := [(.ref b1)]) (fun t_ k_ => XS.aload X34.here hx rfl (hb hby at_156) rfl rfl  k_) ?_
  refine GoH.st (T' := T34) (pc' := 161) (L' := #[.val (.int p1), .val (.int p2), .val (.int p3), .val (.int p4), .val (.int p5), .val (.ref b1), .val (.ref b3), .val (.ref b5), .val (.ref b7), .val (.ref b13), .val (.ref b19), .val (.ref b25), .val (.ref b28), .val (.ref b1), .val (.ref b3)]) (S' := []) (fun t_ k_ => XS.ifnullNo X34.here hx rfl (hb hby at_158) rfl k_) ?_
  refine GoH.st (T' := T34) (pc' := 163) (L' := #[.val (.int p1), .val (.int p2), .val (.int p3), .val (.int p4), .val (.int p5), .val (.ref b1), .val (.ref b3), .val (.ref b5), .val (.ref b7), .val (.ref b13), .val (.ref b19), .val (.ref b25), .val (.ref b28), .val (.ref b1), .val (.ref b3)]) (S' := [(.ref b3)]) (fun t_ k_ => XS.aload X34.here hx rfl (hb hby at_161) rfl rfl  k_) ?_
  refine GoH.st (T' := T34) (pc' := 168) (L' := #[.val (.int p1), .val (.int p2), .val (.int p3), .val (.int p4), .val (.int p5), .val (.ref b1), .val (.ref b3), .val (.ref b5), .val (.ref b7), .val (.ref b13), .val (.ref b19), .val (.ref b25), .val (.ref b28), .val (.ref b1), .val (.ref b3)]) (S' := []) (fun t_ k_ => XS.ifnonnullYes X34.here hx rfl (pc0 := 163) (pc' := 168) rfl (hb hby at_163) rfl (by decide) (by decide) k_) ?_
  refine GoH.st (T' := T34) (pc' := 170) (L' := #[.val (.int p1), .val (.int p2), .val (.int p3), .val (.int p4), .val (.int p5), .val (.ref b1), .val (.ref b3), .val (.ref b5), .val (.ref b7), .val (.ref b13), .val (.ref b19), .val (.ref b25), .val (.ref b28), .val (.ref b1), .val (.ref b3)]) (S' := [(.ref b1)]) (fun t_ k_ => XS.aload X34.here hx rfl (hb hby at_168) rfl rfl  k_) ?_
  refine GoH.st (T' := T34) (pc' := 172) (L' := #[.val (.int p1), .val (.int p2), .val (.int p3), .val (.int p4), .val (.int p5), .val (.ref b1), .val (.ref b3), .val (.ref b5), .val (.ref b7), .val (.ref b13), .val (.ref b19), .val (.ref b25), .val (.ref b28), .val (.ref b1), .val (.ref b3)]) (S' := [(.ref b1), (.ref b1)]) (fun t_ k_ => XS.aload X34.here hx rfl (hb hby at_170) rfl rfl  k_) ?_
  obtain ⟨cq35, kq35, q35a, q35b, q35c⟩ := isOf hZ e34 E1
  obtain ⟨_, _, ⟨T35, L35, k35, n35⟩, -, X35, ⟨Lc35, hQ35, l35, y35, z35⟩, st35⟩ := X34.virtualBack hx (y := (⟨"java/lang/String", "equals", "(Ljava/lang/Object;)Z"⟩ : MethodName)) (z := (⟨"java/lang/String", "equals", "(Ljava/lang/Object;)Z"⟩ : MethodName)) hown (mvT hZ (hw _ (List.mem_of_getElem? (i := 174) rfl))) (mvT hZ (hw _ (List.mem_of_getElem? (i := 175) rfl))) (notFace_of_selects (args := #[]) (mvT hZ (hw _ (List.mem_of_getElem? (i := 177) rfl)))) (mvT hZ (hw _ (List.mem_of_getElem? (i := 177) rfl))) (mvT hZ (hw _ (List.mem_of_getElem? (i := 176) rfl))) (by decide) (backOf (W := 0) (rm22 l Z a0 hw [] b1 h28 n0 Z0) hZ (hw _ (List.mem_of_getElem? (i := 178) rfl)) (hw _ (List.mem_of_getElem? (i := 6) rfl)) (by decide) (by decide)) q35a q35c (g := (mkF m 172 #[.val (.int p1), .val (.int p2), .val (.int p3), .val (.int p4), .val (.int p5), .val (.ref b1), .val (.ref b3), .val (.ref b5), .val (.ref b7), .val (.ref b13), .val (.ref b19), .val (.ref b25), .val (.ref b28), .val (.ref b1), .val (.ref b3)] [(.ref b1), (.ref b1)])) rfl (by rw [hml]; rfl) (Steps.refl _) (argsL := [(.ref b1)]) (rest := []) (lenOf pd_18 rfl) rfl (by show 2 * 0 + _ ≤ _; exact Nat.le_of_eq rfl) (hb hby at_172) (fun _ _ => ⟨rfl, e34, (by decide : 71 + 0 ≤ _), (by decide : 723 + 0 ≤ _)⟩)
  dsimp only [Pt.U, Pt.locs, Pt.cells, Pt.slots] at X35 l35 y35 z35 st35 hQ35
  subst l35 y35 z35
  obtain ⟨rfl, N35q, e35⟩ := hQ35
  have N35 := Fr.app N33 N35q
  refine GoH.tr (T' := T35) (pc' := 175) (L' := #[.val (.int p1), .val (.int p2), .val (.int p3), .val (.int p4), .val (.int p5), .val (.ref b1), .val (.ref b3), .val (.ref b5), .val (.ref b7), .val (.ref b13), .val (.ref b19), .val (.ref b25), .val (.ref b28), .val (.ref b1), .val (.ref b3)]) (S' := [(.int (1 : Int32))]) st35 ?_
  refine GoH.st (T' := T35) (pc' := 178) (L' := #[.val (.int p1), .val (.int p2), .val (.int p3), .val (.int p4), .val (.int p5), .val (.ref b1), .val (.ref b3), .val (.ref b5), .val (.ref b7), .val (.ref b13), .val (.ref b19), .val (.ref b25), .val (.ref b28), .val (.ref b1), .val (.ref b3)]) (S' := []) (fun t_ k_ => XS.ifNo X35.here hx rfl (hb hby at_175) rfl ((if0 _ _).trans (feq (by decide : ¬ ((1 : Int32) = (0 : Int32)))).1) k_) ?_
  refine GoH.st (T' := T35) (pc' := 180) (L' := #[.val (.int p1), .val (.int p2), .val (.int p3), .val (.int p4), .val (.int p5), .val (.ref b1), .val (.ref b3), .val (.ref b5), .val (.ref b7), .val (.ref b13), .val (.ref b19), .val (.ref b25), .val (.ref b28), .val (.ref b1), .val (.ref b3)]) (S' := [(.ref b3)]) (fun t_ k_ => XS.aload X35.here hx rfl (hb hby at_178) rfl rfl  k_) ?_
  refine GoH.st (T' := T35) (pc' := 182) (L' := #[.val (.int p1), .val (.int p2), .val (.int p3), .val (.int p4), .val (.int p5), .val (.ref b1), .val (.ref b3), .val (.ref b5), .val (.ref b7), .val (.ref b13), .val (.ref b19), .val (.ref b25), .val (.ref b28), .val (.ref b1), .val (.ref b3)]) (S' := [(.ref b3), (.ref b3)]) (fun t_ k_ => XS.aload X35.here hx rfl (hb hby at_180) rfl rfl  k_) ?_
  obtain ⟨cq36, kq36, q36a, q36b, q36c⟩ := isOf hZ e35 E3
  obtain ⟨_, _, ⟨T36, L36, k36, n36⟩, -, X36, ⟨Lc36, hQ36, l36, y36, z36⟩, st36⟩ := X35.virtualBack hx (y := (⟨"java/lang/String", "equals", "(Ljava/lang/Object;)Z"⟩ : MethodName)) (z := (⟨"java/lang/String", "equals", "(Ljava/lang/Object;)Z"⟩ : MethodName)) hown (mvT hZ (hw _ (List.mem_of_getElem? (i := 174) rfl))) (mvT hZ (hw _ (List.mem_of_getElem? (i := 175) rfl))) (notFace_of_selects (args := #[]) (mvT hZ (hw _ (List.mem_of_getElem? (i := 177) rfl)))) (mvT hZ (hw _ (List.mem_of_getElem? (i := 177) rfl))) (mvT hZ (hw _ (List.mem_of_getElem? (i := 176) rfl))) (by decide) (backOf (W := 0) (rm22 l Z a0 hw [] b3 h28 n0 Z0) hZ (hw _ (List.mem_of_getElem? (i := 178) rfl)) (hw _ (List.mem_of_getElem? (i := 6) rfl)) (by decide) (by decide)) q36a q36c (g := (mkF m 182 #[.val (.int p1), .val (.int p2), .val (.int p3), .val (.int p4), .val (.int p5), .val (.ref b1), .val (.ref b3), .val (.ref b5), .val (.ref b7), .val (.ref b13), .val (.ref b19), .val (.ref b25), .val (.ref b28), .val (.ref b1), .val (.ref b3)] [(.ref b3), (.ref b3)])) rfl (by rw [hml]; rfl) (Steps.refl _) (argsL := [(.ref b3)]) (rest := []) (lenOf pd_18 rfl) rfl (by show 2 * 0 + _ ≤ _; exact Nat.le_of_eq rfl) (hb hby at_182) (fun _ _ => ⟨rfl, e35, (by decide : 71 + 0 ≤ _), (by decide : 723 + 0 ≤ _)⟩)
  dsimp only [Pt.U, Pt.locs, Pt.cells, Pt.slots] at X36 l36 y36 z36 st36 hQ36
  subst l36 y36 z36
  obtain ⟨rfl, N36q, e36⟩ := hQ36
  have N36 := Fr.app N35 N36q
  refine GoH.tr (T' := T36) (pc' := 185) (L' := #[.val (.int p1), .val (.int p2), .val (.int p3), .val (.int p4), .val (.int p5), .val (.ref b1), .val (.ref b3), .val (.ref b5), .val (.ref b7), .val (.ref b13), .val (.ref b19), .val (.ref b25), .val (.ref b28), .val (.ref b1), .val (.ref b3)]) (S' := [(.int (1 : Int32))]) st36 ?_
  refine GoH.st (T' := T36) (pc' := 188) (L' := #[.val (.int p1), .val (.int p2), .val (.int p3), .val (.int p4), .val (.int p5), .val (.ref b1), .val (.ref b3), .val (.ref b5), .val (.ref b7), .val (.ref b13), .val (.ref b19), .val (.ref b25), .val (.ref b28), .val (.ref b1), .val (.ref b3)]) (S' := []) (fun t_ k_ => XS.ifNo X36.here hx rfl (hb hby at_185) rfl ((if0 _ _).trans (feq (by decide : ¬ ((1 : Int32) = (0 : Int32)))).1) k_) ?_
  refine GoH.st (T' := T36) (pc' := 189) (L' := #[.val (.int p1), .val (.int p2), .val (.int p3), .val (.int p4), .val (.int p5), .val (.ref b1), .val (.ref b3), .val (.ref b5), .val (.ref b7), .val (.ref b13), .val (.ref b19), .val (.ref b25), .val (.ref b28), .val (.ref b1), .val (.ref b3)]) (S' := [(.int (1 : Int32))]) (fun t_ k_ => XS.iconst X36.here hx rfl (hb hby at_188) k_) ?_
  refine GoH.st (T' := T36) (pc' := 193) (L' := #[.val (.int p1), .val (.int p2), .val (.int p3), .val (.int p4), .val (.int p5), .val (.ref b1), .val (.ref b3), .val (.ref b5), .val (.ref b7), .val (.ref b13), .val (.ref b19), .val (.ref b25), .val (.ref b28), .val (.ref b1), .val (.ref b3)]) (S' := [(.int (1 : Int32))]) (fun t_ k_ => XS.goto X36.here hx rfl (pc0 := 189) (pc' := 193) rfl (hb hby at_189) (by decide) (by decide) k_) ?_
  exact GoH.retN X36 hx hlk hret (by simp) (hb hby at_193) (by decide) (by decide) hS hk e36 hs0 hZ (own_EW hw) CR (by rw [e36]; exact ⟨rfl, N36⟩)
theorem own_sub : ∀ q ∈ EL, q ∈ consts_1 := by decide
set_option maxRecDepth 65536 in
set_option maxHeartbeats 40000000 in
theorem comes_1 {Post : Tables → Env → Array Value → State → Outcome → State → Prop} (hpost : ∀ tb e args s v u, (limb_1_1.after args s (.returned v) u = true ∧ limb_1_2.after args s (.returned v) u = true ∧ True) → Jvm.D.FramedW s (.returned v) u (Jvm.fieldLocs frame_1_writes args s ++ Jvm.arrayLocs frame_1_arrays args s ++ Jvm.staticLocs frame_1_statics s) 80 19712 → Post tb e args s (.returned v) u) :
    ArmFor flags0 classFile x code maxLocals ret World_1 tables_1 room_1 Calls_1 rest_1 Pre_1 Post := by
  intro l hfl _ _ p e ha hc hk s m args below hf hA hF happ hP
  obtain ⟨hcalls, hrest, hpre⟩ := hP
  obtain ⟨-, -, -, hnamed, -, -, -, hat⟩ := (Spec.applies_iff hf).mp happ
  obtain ⟨hg, hn⟩ := and_e (Cond.before_iff.mp (show (Jvm.Cond.and given_1 narrow_1).before args s = true from hpre))
  obtain ⟨gc, gr0⟩ := and_e hg
  obtain ⟨ga0, gr1⟩ := and_e gr0
  obtain ⟨ga1, gr2⟩ := and_e gr1
  obtain ⟨ga2, gr3⟩ := and_e gr2
  obtain ⟨ga3, gr4⟩ := and_e gr3
  have ga4 := gr4
  obtain ⟨w0, w1, w2, w3, w4, rfl⟩ : ∃ w0 w1 w2 w3 w4 : Value, args = #[w0, w1, w2, w3, w4] := by
    have hs : args.size = 5 := by simpa [Cond.value, given_1] using gc
    obtain ⟨L⟩ := args
    match L, hs with
    | [w0, w1, w2, w3, w4], _ => exact ⟨w0, w1, w2, w3, w4, rfl⟩
  have hw := fun d (hd : d ∈ tables_1) => atoms_spec (ws := Jvm.Cond.code x code maxLocals ret :: tables_1) hat d (List.mem_cons_of_mem _ hd)
  have hfit : Fit s := fun {y c} hc i hi => by
    obtain ⟨ha, rfl⟩ := Array.getElem?_eq_some_iff.mp hc
    have q := List.all_eq_true.mp ((Array.all_eq_true_iff_forall_mem.mp hF) _ (Array.getElem_mem ha)) i (List.mem_range.mpr hi)
    simpa [Array.getElem?_eq_getElem hi] using q
  obtain ⟨hsets, hown0⟩ := atoms_of _ (rest_1_c_eq ▸ (show rest_1_c.before _ s = true from hrest))
  obtain ⟨i0, ei0⟩ := is_v ga0
  obtain rfl : w0 = (.int i0) := Option.some.inj ei0
  obtain ⟨i1, ei1⟩ := is_v ga1
  obtain rfl : w1 = (.int i1) := Option.some.inj ei1
  obtain ⟨i2, ei2⟩ := is_v ga2
  obtain rfl : w2 = (.int i2) := Option.some.inj ei2
  obtain ⟨i3, ei3⟩ := is_v ga3
  obtain rfl : w3 = (.int i3) := Option.some.inj ei3
  obtain ⟨i4, ei4⟩ := is_v ga4
  obtain rfl : w4 = (.int i4) := Option.some.inj ei4
  have nc0 := not_v (Cond.before_iff.mp (hsets _ (List.mem_of_getElem? (i := 2) rfl)))
  obtain ⟨gC, eC⟩ := is_v (Cond.before_iff.mp (hsets _ (List.mem_of_getElem? (i := 1) rfl)))
  have SC : Sta s s.heap "java/lang/String" "COMPACT_STRINGS" "Z" (.int gC) := Sta.start eC (Or.inl (hsets _ (List.mem_of_getElem? (i := 0) rfl)))
  have PC : ¬ (gC = (0 : Int32)) := gotF (Cond.eq_ints eC (Term.int_eval (0))) nc0
  have wX := Cond.before_iff.mp (hsets _ (List.mem_of_getElem? (i := 11) rfl))
  obtain ⟨em, eE⟩ := exa_v wX
  have SE : Sta s s.heap "java/util/ImmutableCollections" "EMPTY" "Ljava/lang/Object;" (.ref em) := Sta.start eE (Or.inl (hsets _ (List.mem_of_getElem? (i := 10) rfl)))
  have XE := Exa.start eE wX
  have hH0 : CHv s EL s.vm s.heap := CHv.start (own_EW hw) (fun q hq => hcalls.1 q (own_sub q hq)) (hsets _ (List.mem_of_getElem? (i := 2) rfl)) (own_wS hw _ (by simp [Bundle.stringAtoms])) (own_wS hw _ (by simp [Bundle.stringAtoms, Bundle.sN]))
  obtain ⟨n, o, h1, h2, h3, _, L, rfl, ⟨rfl, N⟩, -, hq⟩ := rm0 l s _ hw tables_1 i0 i1 i2 i3 i4 gC em s.heap s.heap.size (Nat.le_refl _) SC PC SE (Old.start s) XE.lt p e ha hc hk s m _ below hf ((Spec.applies_iff_loose hf).mp happ).1 ⟨rfl, State.Warmed39.refl s, rfl, hH0⟩ trivial
  refine ⟨n, _, h1, h2, h3, hpost _ _ _ _ _ _ ⟨Cond.after_iff.mpr rfl, Cond.after_iff.mpr (eq_i res_at (Term.int_eval (1)) rfl), trivial⟩ ⟨hq.1, hq.2.1, hq.2.2.1, (hq.2.2.2.sift fun y hy => Or.inr (N y hy)).mono (by decide) (by decide)⟩⟩
theorem main_1_1 : Claimed_1_1 := comes_1 fun _ _ _ _ _ _ h hF => ⟨h.1, hF⟩
theorem main_1_2 : Claimed_1_2 := comes_1 fun _ _ _ _ _ _ h hF => ⟨h.2.1, hF⟩
end Jvm.Pilot.@@N@@
namespace Jvm.Pilot.@@N@@
open Jvm Jvm.ClassFile Sem Op Lib Jvm.Free Jvm.Stand Jvm.Pilot.@@N@@.Jvm.D
/-! MADE BY PROGRAM (witnessworld.py) out of the Statement's table words and the real class files: 36 classes; the members and pool entries that the words name. The judged class is class 1, her method 2. -/
namespace start1
open Jvm.ClassFile
def u (s : String) : CpInfo := .utf8 (stringToUtf16 s)
/-- a pool by its gaps: so many unusable entries, then the entry; so many at the end -/
def gap : Nat → List CpInfo → List CpInfo
  | 0, r => r
  | n + 1, r => .unusable :: gap n r
def poolList (es : List (Nat × CpInfo)) (last : Nat) : List CpInfo := es.foldr (fun e r => gap e.1 (e.2 :: r)) (gap last [])
def pool (es : List (Nat × CpInfo)) (last : Nat) : Array CpInfo := ⟨poolList es last⟩
def fileOf (pool : Array CpInfo) (this : Nat) (attrs : Array Attribute := #[]) (ms : Array MethodInfo := #[]) (fl : Nat := 33) (sup : Nat := 0) (ifs : Array Nat := #[]) (fds : Array FieldInfo := #[]) : ClassFile where
  minorVersion := 0
  majorVersion := 65
  constantPool := pool
  accessFlags := fl
  thisClass := this
  superClass := sup
  interfaces := ifs
  fields := fds
  methods := ms
  attributes := attrs
def plain (name : String) (sup : Option ClassId) : Class where
  name := name
  kind := .ordinary
  loader := none
  accessFlags := 33
  super := sup
  interfaces := #[]
  cf := none
  fields := #[]
  methods := #[]
  instanceTypes := #[]
  staticTypes := #[]
  resolved := #[]
  callSites := []
  init := .initialized
  statics := none
  mirror := none

def pool0 : Array CpInfo := pool [(5, u "<init>"), (0, u "()V"), (1, .class_ 10), (1, u "java/lang/Object")] 113

def k0c0 : Code := { maxStack := 0, maxLocals := 1, code := object_method_1_code, exceptionTable := #[], attributes := #[] }
def k0m0 : Method := { name := "<init>", desc := "()V", sig := { parameters := [], returnType := none }, accessFlags := 1, code := some k0c0 }
/-- java/lang/Object -/
def k0 : Class := { plain "java/lang/Object" none with
  accessFlags := 33
  interfaces := #[]
  cf := some (fileOf pool0 8 #[] #[{ accessFlags := 1, nameIndex := 5, descriptorIndex := 6, attributes := #[] }] 33 0 #[] #[])
  fields := #[]
  methods := #[k0m0]
  instanceTypes := #[]
  staticTypes := #[]
  resolved := Array.replicate 124 none
  statics := none }

def pool1 : Array CpInfo := pool [(2, .class_ 4), (1, u "java/lang/Object"), (0, u "<init>"), (0, u "()V"), (0, .class_ 8), (0, u "java/lang/String"), (0, .methodref 7 10), (0, .nameAndType 5 11), (0, u "([C)V"), (0, .methodref 7 13), (0, .nameAndType 14 15), (0, u "valueOf"), (0, u "(C)Ljava/lang/String;"), (0, .methodref 17 18), (0, .class_ 19), (0, .nameAndType 20 21), (0, u "org/concordat/report/AtomicityViolationIdentityPinLaw"), (0, u "str"), (0, u "(II)Ljava/lang/String;"), (0, .class_ 23), (0, u "org/concordat/report/Rule"), (0, .string 25), (0, u "atomicity-violation"), (0, .string 27), (0, u "s"), (0, .string 29), (0, u "d"), (0, .methodref 22 31), (0, .nameAndType 5 32), (0, u "(Ljava/lang/String;Ljava/lang/String;Ljava/lang/String;)V"), (0, .class_ 34), (0, u "org/concordat/report/Place"), (0, .string 36), (0, u "a.B"), (0, .string 38), (0, u "m"), (0, .string 40), (0, u "B.java"), (0, .methodref 33 42), (0, .nameAndType 5 43), (0, u "(Ljava/lang/String;Ljava/lang/String;Ljava/lang/String;I)V"), (0, .class_ 45), (0, u "org/concordat/report/AtomicityViolation"), (0, .methodref 44 47), (0, .nameAndType 5 48), (0, u "(Lorg/concordat/report/Rule;Ljava/lang/String;Ljava/lang/String;Ljava/lang/String;Lorg/concordat/report/Place;Lorg/concordat/report/Place;)V"), (0, .methodref 44 50), (0, .nameAndType 51 52), (0, u "identity"), (0, u "()Ljava/util/List;"), (0, .interfaceMethodref 54 55), (0, .class_ 56), (0, .nameAndType 57 58), (0, u "java/util/List"), (0, u "size"), (0, u "()I"), (0, .interfaceMethodref 54 60), (0, .nameAndType 61 62), (0, u "get"), (0, u "(I)Ljava/lang/Object;"), (0, .methodref 7 64), (0, .nameAndType 65 66), (0, u "equals"), (0, u "(Ljava/lang/Object;)Z"), (3, u "law"), (0, u "(IIIII)Z")] 2

def k1m0 : Method := { name := "<init>", desc := "()V", sig := { parameters := [], returnType := none }, accessFlags := 1, code := none }
def k1c1 : Code := { maxStack := 6, maxLocals := 5, code := method_2_code, exceptionTable := #[], attributes := #[] }
def k1m1 : Method := { name := "str", desc := "(II)Ljava/lang/String;", sig := { parameters := [.int, .int], returnType := some (.object "java/lang/String") }, accessFlags := 10, code := some k1c1 }
def k1c2 : Code := { maxStack := 8, maxLocals := 15, code := code, exceptionTable := #[], attributes := #[] }
def k1m2 : Method := { name := "law", desc := "(IIIII)Z", sig := { parameters := [.int, .int, .int, .int, .int], returnType := some .boolean }, accessFlags := 9, code := some k1c2 }
/-- org/concordat/report/AtomicityViolationIdentityPinLaw -/
def k1 : Class := { plain "org/concordat/report/AtomicityViolationIdentityPinLaw" (some 0) with
  accessFlags := 49
  interfaces := #[]
  cf := some (fileOf pool1 17 #[] #[{ accessFlags := 1, nameIndex := 5, descriptorIndex := 6, attributes := #[] }, { accessFlags := 10, nameIndex := 20, descriptorIndex := 21, attributes := #[] }, { accessFlags := 9, nameIndex := 70, descriptorIndex := 71, attributes := #[] }] 49 2 #[] #[])
  fields := #[]
  methods := #[k1m0, k1m1, k1m2]
  instanceTypes := #[]
  staticTypes := #[]
  resolved := Array.replicate 74 none
  statics := none }

def pool2 : Array CpInfo := pool [(1, .class_ 2), (0, u "java/io/Serializable"), (0, .class_ 4), (0, u "java/lang/Object")] 2

/-- java/io/Serializable -/
def k2 : Class := { plain "java/io/Serializable" (some 0) with
  accessFlags := 1537
  interfaces := #[]
  cf := some (fileOf pool2 1 #[] #[] 1537 3 #[] #[])
  fields := #[]
  methods := #[]
  instanceTypes := #[]
  staticTypes := #[]
  resolved := Array.replicate 7 none
  statics := none }

def pool3 : Array CpInfo := pool [(1, .class_ 2), (0, u "java/lang/Comparable"), (0, .class_ 4), (0, u "java/lang/Object")] 7

/-- java/lang/Comparable -/
def k3 : Class := { plain "java/lang/Comparable" (some 0) with
  accessFlags := 1537
  interfaces := #[]
  cf := some (fileOf pool3 1 #[] #[] 1537 3 #[] #[])
  fields := #[]
  methods := #[]
  instanceTypes := #[]
  staticTypes := #[]
  resolved := Array.replicate 12 none
  statics := none }

def pool4 : Array CpInfo := pool [(2, .class_ 4), (1, u "java/lang/CharSequence"), (42, .class_ 48), (0, u "java/lang/CharSequence$1CodePointIterator"), (10, .class_ 60), (0, u "java/lang/CharSequence$1CharIterator"), (5, .class_ 67), (0, u "java/lang/Object")] 63

/-- java/lang/CharSequence -/
def k4 : Class := { plain "java/lang/CharSequence" (some 0) with
  accessFlags := 1537
  interfaces := #[]
  cf := some (fileOf pool4 2 #[.nestMembers #[47, 59]] #[] 1537 66 #[] #[])
  fields := #[]
  methods := #[]
  instanceTypes := #[]
  staticTypes := #[]
  resolved := Array.replicate 131 none
  statics := none }

def pool5 : Array CpInfo := pool [(1, .class_ 2), (0, u "java/lang/constant/Constable"), (0, .class_ 4), (0, u "java/lang/Object")] 6

/-- java/lang/constant/Constable -/
def k5 : Class := { plain "java/lang/constant/Constable" (some 0) with
  accessFlags := 1537
  interfaces := #[]
  cf := some (fileOf pool5 1 #[] #[] 1537 3 #[] #[])
  fields := #[]
  methods := #[]
  instanceTypes := #[]
  staticTypes := #[]
  resolved := Array.replicate 11 none
  statics := none }

def pool6 : Array CpInfo := pool [(1, .class_ 2), (0, u "java/lang/constant/ConstantDesc"), (0, .class_ 4), (0, u "java/lang/Object")] 32

/-- java/lang/constant/ConstantDesc -/
def k6 : Class := { plain "java/lang/constant/ConstantDesc" (some 0) with
  accessFlags := 1537
  interfaces := #[]
  cf := some (fileOf pool6 1 #[] #[] 1537 3 #[] #[])
  fields := #[]
  methods := #[]
  instanceTypes := #[]
  staticTypes := #[]
  resolved := Array.replicate 37 none
  statics := none }

def pool7 : Array CpInfo := pool [(1, .methodref 2 3), (0, .class_ 4), (0, .nameAndType 5 6), (0, u "java/lang/Object"), (0, u "<init>"), (0, u "()V"), (0, .string 8), (0, u ""), (0, .fieldref 10 11), (0, .class_ 12), (0, .nameAndType 13 14), (0, u "java/lang/String"), (0, u "value"), (0, u "[B"), (0, .fieldref 10 16), (0, .nameAndType 17 18), (0, u "coder"), (0, u "B"), (2, u "hash"), (0, u "I"), (2, u "hashIsZero"), (0, u "Z"), (0, .methodref 10 28), (0, .nameAndType 5 29), (0, u "([CIILjava/lang/Void;)V"), (8, .fieldref 10 39), (0, .nameAndType 40 26), (0, u "COMPACT_STRINGS"), (1, .class_ 44), (1, u "java/lang/StringUTF16"), (0, u "compress"), (1, .methodref 42 48), (0, .nameAndType 49 50), (0, u "coderFromArrayLen"), (0, u "([BI)B"), (2, u "toBytes"), (53, .class_ 109), (1, u "java/lang/StringLatin1"), (67, .methodref 42 178), (0, .nameAndType 45 179), (0, u "([CII)[B"), (29, .methodref 10 210), (0, .nameAndType 5 211), (0, u "([BB)V"), (157, u "(C)Z"), (173, u "equals"), (29, u "(Ljava/lang/Object;)Z"), (1, .class_ 576), (0, u "java/lang/CharSequence"), (22, u "CASE_INSENSITIVE_ORDER"), (0, u "Ljava/util/Comparator;"), (181, u "valueOf"), (0, u "(C)Ljava/lang/String;"), (226, u "([C)V"), (4, .methodref 107 1016), (0, .nameAndType 1017 369), (0, u "canEncode"), (0, .methodref 107 1019), (0, .nameAndType 53 1020), (0, u "(C)[B"), (80, u "serialPersistentFields"), (0, u "[Ljava/io/ObjectStreamField;"), (0, .class_ 1104), (0, u "java/lang/String$CaseInsensitiveComparator"), (1, .class_ 1107), (0, u "java/io/Serializable"), (0, .class_ 1109), (0, u "java/lang/Comparable"), (0, .class_ 1111), (0, u "java/lang/constant/Constable"), (0, .class_ 1113), (0, u "java/lang/constant/ConstantDesc"), (2, u "serialVersionUID"), (0, u "J"), (3, u "REPL"), (0, u "C"), (2, u "LATIN1"), (1, u "UTF16")] 323

def k7m0 : Method := { name := "<init>", desc := "()V", sig := { parameters := [], returnType := none }, accessFlags := 1, code := none }
def k7c1 : Code := { maxStack := 5, maxLocals := 2, code := jdk_42_method_3_code, exceptionTable := #[], attributes := #[] }
def k7m1 : Method := { name := "<init>", desc := "([C)V", sig := { parameters := [(.array .char)], returnType := none }, accessFlags := 1, code := some k7c1 }
def k7c2 : Code := { maxStack := 2, maxLocals := 3, code := jdk_42_method_66_code, exceptionTable := #[], attributes := #[] }
def k7m2 : Method := { name := "equals", desc := "(Ljava/lang/Object;)Z", sig := { parameters := [(.object "java/lang/Object")], returnType := some .boolean }, accessFlags := 1, code := some k7c2 }
def k7c3 : Code := { maxStack := 4, maxLocals := 1, code := jdk_42_method_139_code, exceptionTable := #[], attributes := #[] }
def k7m3 : Method := { name := "valueOf", desc := "(C)Ljava/lang/String;", sig := { parameters := [.char], returnType := some (.object "java/lang/String") }, accessFlags := 9, code := some k7c3 }
def k7c4 : Code := { maxStack := 4, maxLocals := 6, code := jdk_42_method_149_code, exceptionTable := #[], attributes := #[] }
def k7m4 : Method := { name := "<init>", desc := "([CIILjava/lang/Void;)V", sig := { parameters := [(.array .char), .int, .int, (.object "java/lang/Void")], returnType := none }, accessFlags := 2, code := some k7c4 }
def k7c5 : Code := { maxStack := 2, maxLocals := 3, code := jdk_42_method_151_code, exceptionTable := #[], attributes := #[] }
def k7m5 : Method := { name := "<init>", desc := "([BB)V", sig := { parameters := [(.array .byte), .byte], returnType := none }, accessFlags := 0, code := some k7c5 }
/-- java/lang/String -/
def k7 : Class := { plain "java/lang/String" (some 0) with
  accessFlags := 49
  interfaces := #[2, 3, 4, 5, 6]
  cf := some (fileOf pool7 10 #[.nestMembers #[1103]] #[{ accessFlags := 1, nameIndex := 5, descriptorIndex := 6, attributes := #[] }, { accessFlags := 1, nameIndex := 5, descriptorIndex := 1010, attributes := #[] }, { accessFlags := 1, nameIndex := 543, descriptorIndex := 573, attributes := #[] }, { accessFlags := 9, nameIndex := 782, descriptorIndex := 783, attributes := #[] }, { accessFlags := 2, nameIndex := 5, descriptorIndex := 29, attributes := #[] }, { accessFlags := 0, nameIndex := 5, descriptorIndex := 211, attributes := #[] }] 49 2 #[1106, 1108, 575, 1110, 1112] #[{ accessFlags := 18, nameIndex := 13, descriptorIndex := 14, attributes := #[] }, { accessFlags := 18, nameIndex := 17, descriptorIndex := 18, attributes := #[] }, { accessFlags := 2, nameIndex := 21, descriptorIndex := 22, attributes := #[] }, { accessFlags := 2, nameIndex := 25, descriptorIndex := 26, attributes := #[] }, { accessFlags := 26, nameIndex := 1116, descriptorIndex := 1117, attributes := #[] }, { accessFlags := 24, nameIndex := 40, descriptorIndex := 26, attributes := #[] }, { accessFlags := 26, nameIndex := 1101, descriptorIndex := 1102, attributes := #[] }, { accessFlags := 26, nameIndex := 1121, descriptorIndex := 1122, attributes := #[] }, { accessFlags := 25, nameIndex := 599, descriptorIndex := 600, attributes := #[] }, { accessFlags := 24, nameIndex := 1125, descriptorIndex := 18, attributes := #[] }, { accessFlags := 24, nameIndex := 1127, descriptorIndex := 18, attributes := #[] }])
  fields := #[{ name := "value", type := (.array .byte), accessFlags := 18, slot := 0, constantValue := 0 }, { name := "coder", type := .byte, accessFlags := 18, slot := 1, constantValue := 0 }, { name := "hash", type := .int, accessFlags := 2, slot := 2, constantValue := 0 }, { name := "hashIsZero", type := .boolean, accessFlags := 2, slot := 3, constantValue := 0 }, { name := "serialVersionUID", type := .long, accessFlags := 26, slot := 0, constantValue := 0 }, { name := "COMPACT_STRINGS", type := .boolean, accessFlags := 24, slot := 1, constantValue := 0 }, { name := "serialPersistentFields", type := (.array (.object "java/io/ObjectStreamField")), accessFlags := 26, slot := 2, constantValue := 0 }, { name := "REPL", type := .char, accessFlags := 26, slot := 3, constantValue := 0 }, { name := "CASE_INSENSITIVE_ORDER", type := (.object "java/util/Comparator"), accessFlags := 25, slot := 4, constantValue := 0 }, { name := "LATIN1", type := .byte, accessFlags := 24, slot := 5, constantValue := 0 }, { name := "UTF16", type := .byte, accessFlags := 24, slot := 6, constantValue := 0 }]
  methods := #[k7m0, k7m1, k7m2, k7m3, k7m4, k7m5]
  instanceTypes := #[(.array .byte), .byte, .int, .boolean]
  staticTypes := #[.long, .boolean, (.array (.object "java/io/ObjectStreamField")), .char, (.object "java/util/Comparator"), .byte, .byte]
  resolved := Array.replicate 1451 none
  statics := some 0 }

def pool8 : Array CpInfo := pool [(6, .class_ 8), (1, u "java/lang/Object"), (0, u "<init>"), (0, u "()V"), (1, .class_ 14), (1, u "java/lang/StringUTF16"), (31, u "$assertionsDisabled"), (0, u "Z"), (13, u "HI_BYTE_SHIFT"), (0, u "I"), (2, u "LO_BYTE_SHIFT"), (49, .methodref 12 116), (0, .nameAndType 117 118), (0, u "compress"), (0, u "([CI[BII)I"), (3, u "([CII)[B"), (138, u "coderFromArrayLen"), (0, u "([BI)B"), (106, .class_ 371), (1, u "java/lang/StringUTF16$LinesSpliterator"), (58, u "MAX_LENGTH"), (196, .class_ 628), (0, u "java/lang/StringUTF16$CodePointsSpliterator"), (0, .class_ 630), (0, u "java/lang/StringUTF16$CharsSpliterator")] 4

def k8m0 : Method := { name := "<init>", desc := "()V", sig := { parameters := [], returnType := none }, accessFlags := 0, code := none }
def k8c1 : Code := { maxStack := 2, maxLocals := 2, code := jdk_52_method_15_code, exceptionTable := #[], attributes := #[] }
def k8m1 : Method := { name := "coderFromArrayLen", desc := "([BI)B", sig := { parameters := [(.array .byte), .int], returnType := some .byte }, accessFlags := 8, code := some k8c1 }
def k8c2 : Code := { maxStack := 5, maxLocals := 6, code := jdk_52_method_16_code, exceptionTable := #[], attributes := #[] }
def k8m2 : Method := { name := "compress", desc := "([CII)[B", sig := { parameters := [(.array .char), .int, .int], returnType := some (.array .byte) }, accessFlags := 9, code := some k8c2 }
def k8c3 : Code := { maxStack := 3, maxLocals := 7, code := jdk_52_method_21_code, exceptionTable := #[], attributes := #[] }
def k8m3 : Method := { name := "compress", desc := "([CI[BII)I", sig := { parameters := [(.array .char), .int, (.array .byte), .int, .int], returnType := some .int }, accessFlags := 9, code := some k8c3 }
/-- java/lang/StringUTF16 -/
def k8 : Class := { plain "java/lang/StringUTF16" (some 0) with
  accessFlags := 48
  interfaces := #[]
  cf := some (fileOf pool8 12 #[.nestMembers #[627, 629, 369]] #[{ accessFlags := 0, nameIndex := 9, descriptorIndex := 10, attributes := #[] }, { accessFlags := 8, nameIndex := 261, descriptorIndex := 262, attributes := #[] }, { accessFlags := 9, nameIndex := 117, descriptorIndex := 122, attributes := #[] }, { accessFlags := 9, nameIndex := 117, descriptorIndex := 118, attributes := #[] }] 48 6 #[] #[{ accessFlags := 26, nameIndex := 61, descriptorIndex := 62, attributes := #[] }, { accessFlags := 26, nameIndex := 65, descriptorIndex := 62, attributes := #[] }, { accessFlags := 24, nameIndex := 430, descriptorIndex := 62, attributes := #[] }, { accessFlags := 4120, nameIndex := 46, descriptorIndex := 47, attributes := #[] }])
  fields := #[{ name := "HI_BYTE_SHIFT", type := .int, accessFlags := 26, slot := 0, constantValue := 0 }, { name := "LO_BYTE_SHIFT", type := .int, accessFlags := 26, slot := 1, constantValue := 0 }, { name := "MAX_LENGTH", type := .int, accessFlags := 24, slot := 2, constantValue := 0 }, { name := "$assertionsDisabled", type := .boolean, accessFlags := 4120, slot := 3, constantValue := 0 }]
  methods := #[k8m0, k8m1, k8m2, k8m3]
  instanceTypes := #[]
  staticTypes := #[.int, .int, .int, .boolean]
  resolved := Array.replicate 635 none
  statics := none }

def pool9 : Array CpInfo := pool [(1, .methodref 2 3), (0, .class_ 4), (0, .nameAndType 5 6), (0, u "java/lang/Object"), (0, u "<init>"), (0, u "()V"), (0, .class_ 8), (0, u "java/lang/Record")] 13

def k9c0 : Code := { maxStack := 1, maxLocals := 1, code := jdk_30_method_1_code, exceptionTable := #[], attributes := #[] }
def k9m0 : Method := { name := "<init>", desc := "()V", sig := { parameters := [], returnType := none }, accessFlags := 4, code := some k9c0 }
/-- java/lang/Record -/
def k9 : Class := { plain "java/lang/Record" (some 0) with
  accessFlags := 1057
  interfaces := #[]
  cf := some (fileOf pool9 7 #[] #[{ accessFlags := 4, nameIndex := 5, descriptorIndex := 6, attributes := #[] }] 1057 2 #[] #[])
  fields := #[]
  methods := #[k9m0]
  instanceTypes := #[]
  staticTypes := #[]
  resolved := Array.replicate 22 none
  statics := none }

def pool10 : Array CpInfo := pool [(1, .methodref 2 3), (0, .class_ 4), (0, .nameAndType 5 6), (0, u "java/lang/Record"), (0, u "<init>"), (0, u "()V"), (0, .string 8), (0, u "id"), (0, .methodref 10 11), (0, .class_ 12), (0, .nameAndType 13 14), (0, u "java/util/Objects"), (0, u "requireNonNull"), (0, u "(Ljava/lang/Object;Ljava/lang/String;)Ljava/lang/Object;"), (0, .string 16), (0, u "summary"), (0, .string 18), (0, u "description"), (0, .fieldref 20 21), (0, .class_ 22), (0, .nameAndType 8 23), (0, u "org/concordat/report/Rule"), (0, u "Ljava/lang/String;"), (0, .fieldref 20 25), (0, .nameAndType 16 23), (0, .fieldref 20 27), (0, .nameAndType 18 23), (12, u "(Ljava/lang/String;Ljava/lang/String;Ljava/lang/String;)V")] 28

def k10c0 : Code := { maxStack := 2, maxLocals := 4, code := prog_53_method_1_code, exceptionTable := #[], attributes := #[] }
def k10m0 : Method := { name := "<init>", desc := "(Ljava/lang/String;Ljava/lang/String;Ljava/lang/String;)V", sig := { parameters := [(.object "java/lang/String"), (.object "java/lang/String"), (.object "java/lang/String")], returnType := none }, accessFlags := 1, code := some k10c0 }
/-- org/concordat/report/Rule -/
def k10 : Class := { plain "org/concordat/report/Rule" (some 9) with
  accessFlags := 49
  interfaces := #[]
  cf := some (fileOf pool10 20 #[] #[{ accessFlags := 1, nameIndex := 5, descriptorIndex := 40, attributes := #[] }] 49 2 #[] #[{ accessFlags := 18, nameIndex := 8, descriptorIndex := 23, attributes := #[] }, { accessFlags := 18, nameIndex := 16, descriptorIndex := 23, attributes := #[] }, { accessFlags := 18, nameIndex := 18, descriptorIndex := 23, attributes := #[] }])
  fields := #[{ name := "id", type := (.object "java/lang/String"), accessFlags := 18, slot := 0, constantValue := 0 }, { name := "summary", type := (.object "java/lang/String"), accessFlags := 18, slot := 1, constantValue := 0 }, { name := "description", type := (.object "java/lang/String"), accessFlags := 18, slot := 2, constantValue := 0 }]
  methods := #[k10m0]
  instanceTypes := #[(.object "java/lang/String"), (.object "java/lang/String"), (.object "java/lang/String")]
  staticTypes := #[]
  resolved := Array.replicate 69 none
  statics := none }

def pool11 : Array CpInfo := pool [(2, .class_ 4), (1, u "java/lang/Object"), (0, u "<init>"), (0, u "()V"), (35, .class_ 44), (1, u "java/util/Objects"), (0, u "requireNonNull"), (0, u "(Ljava/lang/Object;)Ljava/lang/Object;"), (47, u "(Ljava/lang/Object;Ljava/lang/String;)Ljava/lang/Object;")] 89

def k11m0 : Method := { name := "<init>", desc := "()V", sig := { parameters := [], returnType := none }, accessFlags := 2, code := none }
def k11c1 : Code := { maxStack := 2, maxLocals := 1, code := jdk_31_method_10_code, exceptionTable := #[], attributes := #[] }
def k11m1 : Method := { name := "requireNonNull", desc := "(Ljava/lang/Object;)Ljava/lang/Object;", sig := { parameters := [(.object "java/lang/Object")], returnType := some (.object "java/lang/Object") }, accessFlags := 9, code := some k11c1 }
def k11c2 : Code := { maxStack := 3, maxLocals := 2, code := jdk_31_method_11_code, exceptionTable := #[], attributes := #[] }
def k11m2 : Method := { name := "requireNonNull", desc := "(Ljava/lang/Object;Ljava/lang/String;)Ljava/lang/Object;", sig := { parameters := [(.object "java/lang/Object"), (.object "java/lang/String")], returnType := some (.object "java/lang/Object") }, accessFlags := 9, code := some k11c2 }
/-- java/util/Objects -/
def k11 : Class := { plain "java/util/Objects" (some 0) with
  accessFlags := 49
  interfaces := #[]
  cf := some (fileOf pool11 42 #[] #[{ accessFlags := 2, nameIndex := 5, descriptorIndex := 6, attributes := #[] }, { accessFlags := 9, nameIndex := 45, descriptorIndex := 46, attributes := #[] }, { accessFlags := 9, nameIndex := 45, descriptorIndex := 94, attributes := #[] }] 49 2 #[] #[])
  fields := #[]
  methods := #[k11m0, k11m1, k11m2]
  instanceTypes := #[]
  staticTypes := #[]
  resolved := Array.replicate 184 none
  statics := none }

def pool12 : Array CpInfo := pool [(1, .methodref 2 3), (0, .class_ 4), (0, .nameAndType 5 6), (0, u "java/lang/Record"), (0, u "<init>"), (0, u "()V"), (0, .string 8), (0, u "className"), (0, .methodref 10 11), (0, .class_ 12), (0, .nameAndType 13 14), (0, u "java/util/Objects"), (0, u "requireNonNull"), (0, u "(Ljava/lang/Object;Ljava/lang/String;)Ljava/lang/Object;"), (0, .string 16), (0, u "methodName"), (0, .string 18), (0, u "file"), (0, .fieldref 20 21), (0, .class_ 22), (0, .nameAndType 8 23), (0, u "org/concordat/report/Place"), (0, u "Ljava/lang/String;"), (0, .fieldref 20 25), (0, .nameAndType 16 23), (0, .fieldref 20 27), (0, .nameAndType 18 23), (0, .fieldref 20 29), (0, .nameAndType 30 31), (0, u "line"), (0, u "I"), (39, u "(Ljava/lang/String;Ljava/lang/String;Ljava/lang/String;I)V")] 43

def k12c0 : Code := { maxStack := 2, maxLocals := 5, code := prog_51_method_1_code, exceptionTable := #[], attributes := #[] }
def k12m0 : Method := { name := "<init>", desc := "(Ljava/lang/String;Ljava/lang/String;Ljava/lang/String;I)V", sig := { parameters := [(.object "java/lang/String"), (.object "java/lang/String"), (.object "java/lang/String"), .int], returnType := none }, accessFlags := 1, code := some k12c0 }
/-- org/concordat/report/Place -/
def k12 : Class := { plain "org/concordat/report/Place" (some 9) with
  accessFlags := 49
  interfaces := #[]
  cf := some (fileOf pool12 20 #[] #[{ accessFlags := 1, nameIndex := 5, descriptorIndex := 71, attributes := #[] }] 49 2 #[] #[{ accessFlags := 18, nameIndex := 8, descriptorIndex := 23, attributes := #[] }, { accessFlags := 18, nameIndex := 16, descriptorIndex := 23, attributes := #[] }, { accessFlags := 18, nameIndex := 18, descriptorIndex := 23, attributes := #[] }, { accessFlags := 18, nameIndex := 30, descriptorIndex := 31, attributes := #[] }])
  fields := #[{ name := "className", type := (.object "java/lang/String"), accessFlags := 18, slot := 0, constantValue := 0 }, { name := "methodName", type := (.object "java/lang/String"), accessFlags := 18, slot := 1, constantValue := 0 }, { name := "file", type := (.object "java/lang/String"), accessFlags := 18, slot := 2, constantValue := 0 }, { name := "line", type := .int, accessFlags := 18, slot := 3, constantValue := 0 }]
  methods := #[k12m0]
  instanceTypes := #[(.object "java/lang/String"), (.object "java/lang/String"), (.object "java/lang/String"), .int]
  staticTypes := #[]
  resolved := Array.replicate 115 none
  statics := none }

def pool13 : Array CpInfo := pool [(2, .class_ 4), (1, u "org/concordat/report/Finding"), (15, .class_ 21), (0, u "java/lang/Object"), (19, .class_ 42), (0, u "org/concordat/report/Finding$Step"), (0, .class_ 44), (0, u "org/concordat/report/Finding$ThreadFlow")] 22

/-- org/concordat/report/Finding -/
def k13 : Class := { plain "org/concordat/report/Finding" (some 0) with
  accessFlags := 1537
  interfaces := #[]
  cf := some (fileOf pool13 2 #[.nestMembers #[41, 43]] #[] 1537 20 #[] #[])
  fields := #[]
  methods := #[]
  instanceTypes := #[]
  staticTypes := #[]
  resolved := Array.replicate 67 none
  statics := none }

def pool14 : Array CpInfo := pool [(1, .methodref 2 3), (0, .class_ 4), (0, .nameAndType 5 6), (0, u "java/lang/Record"), (0, u "<init>"), (0, u "()V"), (0, .string 8), (0, u "rule"), (0, .methodref 10 11), (0, .class_ 12), (0, .nameAndType 13 14), (0, u "java/util/Objects"), (0, u "requireNonNull"), (0, u "(Ljava/lang/Object;Ljava/lang/String;)Ljava/lang/Object;"), (0, .string 16), (0, u "subject"), (0, .string 18), (0, u "context"), (0, .string 20), (0, u "witness"), (0, .string 22), (0, u "first"), (0, .string 24), (0, u "second"), (0, .fieldref 26 27), (0, .class_ 28), (0, .nameAndType 8 29), (0, u "org/concordat/report/AtomicityViolation"), (0, u "Lorg/concordat/report/Rule;"), (0, .fieldref 26 31), (0, .nameAndType 16 32), (0, u "Ljava/lang/String;"), (0, .fieldref 26 34), (0, .nameAndType 18 32), (0, .fieldref 26 36), (0, .nameAndType 20 32), (0, .fieldref 26 38), (0, .nameAndType 22 39), (0, u "Lorg/concordat/report/Place;"), (0, .fieldref 26 41), (0, .nameAndType 24 39), (8, .class_ 52), (1, u "java/util/List"), (2, .interfaceMethodref 50 56), (0, .nameAndType 57 58), (0, u "of"), (0, u "(Ljava/lang/Object;Ljava/lang/Object;)Ljava/util/List;"), (36, u "()Ljava/util/List;"), (79, .class_ 176), (0, u "org/concordat/report/Finding"), (0, u "(Lorg/concordat/report/Rule;Ljava/lang/String;Ljava/lang/String;Ljava/lang/String;Lorg/concordat/report/Place;Lorg/concordat/report/Place;)V"), (15, u "identity")] 59

def k14c0 : Code := { maxStack := 2, maxLocals := 7, code := prog_38_method_1_code, exceptionTable := #[], attributes := #[] }
def k14m0 : Method := { name := "<init>", desc := "(Lorg/concordat/report/Rule;Ljava/lang/String;Ljava/lang/String;Ljava/lang/String;Lorg/concordat/report/Place;Lorg/concordat/report/Place;)V", sig := { parameters := [(.object "org/concordat/report/Rule"), (.object "java/lang/String"), (.object "java/lang/String"), (.object "java/lang/String"), (.object "org/concordat/report/Place"), (.object "org/concordat/report/Place")], returnType := none }, accessFlags := 1, code := some k14c0 }
def k14c1 : Code := { maxStack := 2, maxLocals := 1, code := prog_38_method_7_code, exceptionTable := #[], attributes := #[] }
def k14m1 : Method := { name := "identity", desc := "()Ljava/util/List;", sig := { parameters := [], returnType := some (.object "java/util/List") }, accessFlags := 1, code := some k14c1 }
/-- org/concordat/report/AtomicityViolation -/
def k14 : Class := { plain "org/concordat/report/AtomicityViolation" (some 9) with
  accessFlags := 49
  interfaces := #[13]
  cf := some (fileOf pool14 26 #[] #[{ accessFlags := 1, nameIndex := 5, descriptorIndex := 177, attributes := #[] }, { accessFlags := 1, nameIndex := 193, descriptorIndex := 95, attributes := #[] }] 49 2 #[175] #[{ accessFlags := 18, nameIndex := 8, descriptorIndex := 29, attributes := #[] }, { accessFlags := 18, nameIndex := 16, descriptorIndex := 32, attributes := #[] }, { accessFlags := 18, nameIndex := 18, descriptorIndex := 32, attributes := #[] }, { accessFlags := 18, nameIndex := 20, descriptorIndex := 32, attributes := #[] }, { accessFlags := 18, nameIndex := 22, descriptorIndex := 39, attributes := #[] }, { accessFlags := 18, nameIndex := 24, descriptorIndex := 39, attributes := #[] }])
  fields := #[{ name := "rule", type := (.object "org/concordat/report/Rule"), accessFlags := 18, slot := 0, constantValue := 0 }, { name := "subject", type := (.object "java/lang/String"), accessFlags := 18, slot := 1, constantValue := 0 }, { name := "context", type := (.object "java/lang/String"), accessFlags := 18, slot := 2, constantValue := 0 }, { name := "witness", type := (.object "java/lang/String"), accessFlags := 18, slot := 3, constantValue := 0 }, { name := "first", type := (.object "org/concordat/report/Place"), accessFlags := 18, slot := 4, constantValue := 0 }, { name := "second", type := (.object "org/concordat/report/Place"), accessFlags := 18, slot := 5, constantValue := 0 }]
  methods := #[k14m0, k14m1]
  instanceTypes := #[(.object "org/concordat/report/Rule"), (.object "java/lang/String"), (.object "java/lang/String"), (.object "java/lang/String"), (.object "org/concordat/report/Place"), (.object "org/concordat/report/Place")]
  staticTypes := #[]
  resolved := Array.replicate 253 none
  statics := none }

def pool15 : Array CpInfo := pool [(8, .class_ 10), (1, u "java/lang/Iterable"), (24, .class_ 36), (0, u "java/lang/Object")] 25

/-- java/lang/Iterable -/
def k15 : Class := { plain "java/lang/Iterable" (some 0) with
  accessFlags := 1537
  interfaces := #[]
  cf := some (fileOf pool15 8 #[] #[] 1537 35 #[] #[])
  fields := #[]
  methods := #[]
  instanceTypes := #[]
  staticTypes := #[]
  resolved := Array.replicate 62 none
  statics := none }

def pool16 : Array CpInfo := pool [(10, .class_ 12), (1, u "java/util/Collection"), (47, .class_ 61), (0, u "java/lang/Object"), (0, .class_ 63), (0, u "java/lang/Iterable")] 51

/-- java/util/Collection -/
def k16 : Class := { plain "java/util/Collection" (some 0) with
  accessFlags := 1537
  interfaces := #[15]
  cf := some (fileOf pool16 10 #[] #[] 1537 60 #[62] #[])
  fields := #[]
  methods := #[]
  instanceTypes := #[]
  staticTypes := #[]
  resolved := Array.replicate 115 none
  statics := none }

def pool17 : Array CpInfo := pool [(8, .class_ 10), (1, u "java/util/SequencedCollection"), (15, .class_ 27), (0, u "java/lang/Object"), (0, .class_ 29), (0, u "java/util/Collection")] 27

/-- java/util/SequencedCollection -/
def k17 : Class := { plain "java/util/SequencedCollection" (some 0) with
  accessFlags := 1537
  interfaces := #[16]
  cf := some (fileOf pool17 8 #[] #[] 1537 26 #[28] #[])
  fields := #[]
  methods := #[]
  instanceTypes := #[]
  staticTypes := #[]
  resolved := Array.replicate 57 none
  statics := none }

def pool18 : Array CpInfo := pool [(8, .class_ 10), (1, u "java/util/List"), (37, u "<init>"), (26, u "get"), (0, u "(I)Ljava/lang/Object;"), (2, u "size"), (0, u "()I"), (7, u "of"), (7, .class_ 97), (0, u "java/util/ImmutableCollections$List12"), (2, .methodref 96 101), (0, .nameAndType 48 102), (0, u "(Ljava/lang/Object;Ljava/lang/Object;)V"), (0, .class_ 104), (0, u "java/lang/Object"), (15, .class_ 121), (0, u "java/util/SequencedCollection"), (79, u "(Ljava/lang/Object;Ljava/lang/Object;)Ljava/util/List;")] 49

def k18m0 : Method := { name := "size", desc := "()I", sig := { parameters := [], returnType := some .int }, accessFlags := 1025, code := none }
def k18m1 : Method := { name := "get", desc := "(I)Ljava/lang/Object;", sig := { parameters := [.int], returnType := some (.object "java/lang/Object") }, accessFlags := 1025, code := none }
def k18c2 : Code := { maxStack := 4, maxLocals := 2, code := jdk_40_method_38_code, exceptionTable := #[], attributes := #[] }
def k18m2 : Method := { name := "of", desc := "(Ljava/lang/Object;Ljava/lang/Object;)Ljava/util/List;", sig := { parameters := [(.object "java/lang/Object"), (.object "java/lang/Object")], returnType := some (.object "java/util/List") }, accessFlags := 9, code := some k18c2 }
/-- java/util/List -/
def k18 : Class := { plain "java/util/List" (some 0) with
  accessFlags := 1537
  interfaces := #[17]
  cf := some (fileOf pool18 8 #[] #[{ accessFlags := 1025, nameIndex := 79, descriptorIndex := 80, attributes := #[] }, { accessFlags := 1025, nameIndex := 75, descriptorIndex := 76, attributes := #[] }, { accessFlags := 9, nameIndex := 88, descriptorIndex := 201, attributes := #[] }] 1537 103 #[120] #[])
  fields := #[]
  methods := #[k18m0, k18m1, k18m2]
  instanceTypes := #[]
  staticTypes := #[]
  resolved := Array.replicate 251 none
  statics := none }

def pool19 : Array CpInfo := pool [(1, .methodref 2 3), (0, .class_ 4), (0, .nameAndType 5 6), (0, u "java/lang/Object"), (0, u "<init>"), (0, u "()V"), (1, .class_ 10), (1, u "java/util/AbstractCollection"), (66, .class_ 78), (0, u "java/util/Collection")] 81

def k19c0 : Code := { maxStack := 1, maxLocals := 1, code := jdk_22_method_1_code, exceptionTable := #[], attributes := #[] }
def k19m0 : Method := { name := "<init>", desc := "()V", sig := { parameters := [], returnType := none }, accessFlags := 4, code := some k19c0 }
/-- java/util/AbstractCollection -/
def k19 : Class := { plain "java/util/AbstractCollection" (some 0) with
  accessFlags := 1057
  interfaces := #[16]
  cf := some (fileOf pool19 8 #[] #[{ accessFlags := 4, nameIndex := 5, descriptorIndex := 6, attributes := #[] }] 1057 2 #[77] #[])
  fields := #[]
  methods := #[k19m0]
  instanceTypes := #[]
  staticTypes := #[]
  resolved := Array.replicate 160 none
  statics := none }

def pool20 : Array CpInfo := pool [(1, .methodref 2 3), (0, .class_ 4), (0, .nameAndType 5 6), (0, u "java/util/AbstractCollection"), (0, u "<init>"), (0, u "()V"), (1, .class_ 10), (1, u "java/util/ImmutableCollections"), (2, .class_ 14), (0, u "java/util/ImmutableCollections$AbstractImmutableCollection")] 41

def k20c0 : Code := { maxStack := 1, maxLocals := 1, code := jdk_47_method_1_code, exceptionTable := #[], attributes := #[] }
def k20m0 : Method := { name := "<init>", desc := "()V", sig := { parameters := [], returnType := none }, accessFlags := 0, code := some k20c0 }
/-- java/util/ImmutableCollections$AbstractImmutableCollection -/
def k20 : Class := { plain "java/util/ImmutableCollections$AbstractImmutableCollection" (some 19) with
  accessFlags := 1056
  interfaces := #[]
  cf := some (fileOf pool20 13 #[.nestHost 8] #[{ accessFlags := 0, nameIndex := 5, descriptorIndex := 6, attributes := #[] }] 1056 2 #[] #[])
  fields := #[]
  methods := #[k20m0]
  instanceTypes := #[]
  staticTypes := #[]
  resolved := Array.replicate 56 none
  statics := none }

def pool21 : Array CpInfo := pool [(1, .class_ 2), (0, u "java/util/RandomAccess"), (0, .class_ 4), (0, u "java/lang/Object")] 2

/-- java/util/RandomAccess -/
def k21 : Class := { plain "java/util/RandomAccess" (some 0) with
  accessFlags := 1537
  interfaces := #[]
  cf := some (fileOf pool21 1 #[] #[] 1537 3 #[] #[])
  fields := #[]
  methods := #[]
  instanceTypes := #[]
  staticTypes := #[]
  resolved := Array.replicate 7 none
  statics := none }

def pool22 : Array CpInfo := pool [(1, .methodref 2 3), (0, .class_ 4), (0, .nameAndType 5 6), (0, u "java/util/ImmutableCollections$AbstractImmutableCollection"), (0, u "<init>"), (0, u "()V"), (1, .class_ 10), (1, u "java/util/ImmutableCollections"), (3, .class_ 16), (1, u "java/util/ImmutableCollections$AbstractImmutableList"), (60, .class_ 78), (0, u "java/util/List"), (45, .class_ 125), (0, u "java/util/RandomAccess")] 70

def k22c0 : Code := { maxStack := 1, maxLocals := 1, code := jdk_46_method_1_code, exceptionTable := #[], attributes := #[] }
def k22m0 : Method := { name := "<init>", desc := "()V", sig := { parameters := [], returnType := none }, accessFlags := 0, code := some k22c0 }
/-- java/util/ImmutableCollections$AbstractImmutableList -/
def k22 : Class := { plain "java/util/ImmutableCollections$AbstractImmutableList" (some 20) with
  accessFlags := 1056
  interfaces := #[18, 21]
  cf := some (fileOf pool22 14 #[.nestHost 8] #[{ accessFlags := 0, nameIndex := 5, descriptorIndex := 6, attributes := #[] }] 1056 2 #[77, 124] #[])
  fields := #[]
  methods := #[k22m0]
  instanceTypes := #[]
  staticTypes := #[]
  resolved := Array.replicate 196 none
  statics := none }

def pool23 : Array CpInfo := pool [(1, .methodref 2 3), (0, .class_ 4), (0, .nameAndType 5 6), (0, u "java/util/ImmutableCollections$AbstractImmutableList"), (0, u "<init>"), (0, u "()V"), (0, .methodref 8 9), (0, .class_ 10), (0, .nameAndType 11 12), (0, u "java/util/Objects"), (0, u "requireNonNull"), (0, u "(Ljava/lang/Object;)Ljava/lang/Object;"), (0, .fieldref 14 15), (0, .class_ 16), (0, .nameAndType 17 18), (0, u "java/util/ImmutableCollections$List12"), (0, u "e0"), (0, u "Ljava/lang/Object;"), (0, .fieldref 20 21), (0, .class_ 22), (0, .nameAndType 23 18), (0, u "java/util/ImmutableCollections"), (0, u "EMPTY"), (0, .fieldref 14 25), (0, .nameAndType 26 18), (0, u "e1"), (24, u "size"), (0, u "()I"), (17, .class_ 71), (0, u "java/io/Serializable"), (13, u "(Ljava/lang/Object;Ljava/lang/Object;)V"), (4, u "get"), (0, u "(I)Ljava/lang/Object;")] 33

def k23c0 : Code := { maxStack := 2, maxLocals := 3, code := jdk_44_method_2_code, exceptionTable := #[], attributes := #[] }
def k23m0 : Method := { name := "<init>", desc := "(Ljava/lang/Object;Ljava/lang/Object;)V", sig := { parameters := [(.object "java/lang/Object"), (.object "java/lang/Object")], returnType := none }, accessFlags := 0, code := some k23c0 }
def k23c1 : Code := { maxStack := 2, maxLocals := 1, code := jdk_44_method_3_code, exceptionTable := #[], attributes := #[] }
def k23m1 : Method := { name := "size", desc := "()I", sig := { parameters := [], returnType := some .int }, accessFlags := 1, code := some k23c1 }
def k23c2 : Code := { maxStack := 2, maxLocals := 2, code := jdk_44_method_5_code, exceptionTable := #[], attributes := #[] }
def k23m2 : Method := { name := "get", desc := "(I)Ljava/lang/Object;", sig := { parameters := [.int], returnType := some (.object "java/lang/Object") }, accessFlags := 1, code := some k23c2 }
/-- java/util/ImmutableCollections$List12 -/
def k23 : Class := { plain "java/util/ImmutableCollections$List12" (some 22) with
  accessFlags := 48
  interfaces := #[2]
  cf := some (fileOf pool23 14 #[.nestHost 20] #[{ accessFlags := 0, nameIndex := 5, descriptorIndex := 85, attributes := #[] }, { accessFlags := 1, nameIndex := 51, descriptorIndex := 52, attributes := #[] }, { accessFlags := 1, nameIndex := 90, descriptorIndex := 91, attributes := #[] }] 48 2 #[70] #[{ accessFlags := 18, nameIndex := 17, descriptorIndex := 18, attributes := #[] }, { accessFlags := 18, nameIndex := 26, descriptorIndex := 18, attributes := #[] }])
  fields := #[{ name := "e0", type := (.object "java/lang/Object"), accessFlags := 18, slot := 0, constantValue := 0 }, { name := "e1", type := (.object "java/lang/Object"), accessFlags := 18, slot := 1, constantValue := 0 }]
  methods := #[k23m0, k23m1, k23m2]
  instanceTypes := #[(.object "java/lang/Object"), (.object "java/lang/Object")]
  staticTypes := #[]
  resolved := Array.replicate 125 none
  statics := none }

def pool24 : Array CpInfo := pool [(2, .class_ 4), (1, u "java/lang/Object"), (0, u "<init>"), (0, u "()V"), (3, .class_ 11), (0, u "java/util/ImmutableCollections$List12"), (0, .class_ 13), (0, u "java/util/ImmutableCollections$ListN"), (3, u "Z"), (29, .class_ 49), (1, u "java/util/ImmutableCollections"), (0, u "$assertionsDisabled"), (5, u "[Ljava/lang/Object;"), (5, u "EMPTY_LIST"), (0, u "Ljava/util/ImmutableCollections$ListN;"), (8, u "EMPTY_LIST_NULLS"), (22, u "SALT32L"), (0, u "J"), (2, u "REVERSE"), (6, u "archivedObjects"), (2, u "EMPTY"), (0, u "Ljava/lang/Object;"), (0, .class_ 112), (0, u "java/util/ImmutableCollections$SetN"), (5, u "EMPTY_SET"), (0, u "Ljava/util/ImmutableCollections$SetN;"), (0, .class_ 121), (0, u "java/util/ImmutableCollections$MapN"), (3, u "EMPTY_MAP"), (0, u "Ljava/util/ImmutableCollections$MapN;"), (4, u "EXPAND_FACTOR"), (0, u "I"), (36, .class_ 170), (0, u "java/util/ImmutableCollections$MapN$MapNIterator"), (0, .class_ 172), (0, u "java/util/ImmutableCollections$MapN$1"), (0, .class_ 174), (0, u "java/util/ImmutableCollections$Map1"), (0, .class_ 176), (0, u "java/util/ImmutableCollections$AbstractImmutableMap"), (0, .class_ 178), (0, u "java/util/ImmutableCollections$SetN$SetNIterator"), (0, .class_ 180), (0, u "java/util/ImmutableCollections$Set12"), (0, .class_ 182), (0, u "java/util/ImmutableCollections$Set12$1"), (0, .class_ 184), (0, u "java/util/ImmutableCollections$AbstractImmutableSet"), (0, .class_ 186), (0, u "java/util/ImmutableCollections$SubList"), (0, .class_ 188), (0, u "java/util/ImmutableCollections$ListItr"), (0, .class_ 190), (0, u "java/util/ImmutableCollections$AbstractImmutableList"), (0, .class_ 192), (0, u "java/util/ImmutableCollections$AbstractImmutableCollection"), (0, .class_ 194), (0, u "java/util/ImmutableCollections$Access"), (0, .class_ 196), (0, u "java/util/ImmutableCollections$Access$1")] 16

def k24m0 : Method := { name := "<init>", desc := "()V", sig := { parameters := [], returnType := none }, accessFlags := 2, code := none }
/-- java/util/ImmutableCollections -/
def k24 : Class := { plain "java/util/ImmutableCollections" (some 0) with
  accessFlags := 32
  interfaces := #[]
  cf := some (fileOf pool24 47 #[.nestMembers #[120, 169, 171, 173, 175, 111, 177, 179, 181, 183, 12, 10, 185, 187, 189, 191, 193, 195]] #[{ accessFlags := 2, nameIndex := 5, descriptorIndex := 6, attributes := #[] }] 32 2 #[] #[{ accessFlags := 26, nameIndex := 95, descriptorIndex := 96, attributes := #[] }, { accessFlags := 26, nameIndex := 99, descriptorIndex := 17, attributes := #[] }, { accessFlags := 10, nameIndex := 106, descriptorIndex := 56, attributes := #[] }, { accessFlags := 26, nameIndex := 109, descriptorIndex := 110, attributes := #[] }, { accessFlags := 24, nameIndex := 62, descriptorIndex := 63, attributes := #[] }, { accessFlags := 24, nameIndex := 72, descriptorIndex := 63, attributes := #[] }, { accessFlags := 24, nameIndex := 118, descriptorIndex := 119, attributes := #[] }, { accessFlags := 24, nameIndex := 125, descriptorIndex := 126, attributes := #[] }, { accessFlags := 24, nameIndex := 131, descriptorIndex := 132, attributes := #[] }, { accessFlags := 4120, nameIndex := 50, descriptorIndex := 17, attributes := #[] }])
  fields := #[{ name := "SALT32L", type := .long, accessFlags := 26, slot := 0, constantValue := 0 }, { name := "REVERSE", type := .boolean, accessFlags := 26, slot := 1, constantValue := 0 }, { name := "archivedObjects", type := (.array (.object "java/lang/Object")), accessFlags := 10, slot := 2, constantValue := 0 }, { name := "EMPTY", type := (.object "java/lang/Object"), accessFlags := 26, slot := 3, constantValue := 0 }, { name := "EMPTY_LIST", type := (.object "java/util/ImmutableCollections$ListN"), accessFlags := 24, slot := 4, constantValue := 0 }, { name := "EMPTY_LIST_NULLS", type := (.object "java/util/ImmutableCollections$ListN"), accessFlags := 24, slot := 5, constantValue := 0 }, { name := "EMPTY_SET", type := (.object "java/util/ImmutableCollections$SetN"), accessFlags := 24, slot := 6, constantValue := 0 }, { name := "EMPTY_MAP", type := (.object "java/util/ImmutableCollections$MapN"), accessFlags := 24, slot := 7, constantValue := 0 }, { name := "EXPAND_FACTOR", type := .int, accessFlags := 24, slot := 8, constantValue := 0 }, { name := "$assertionsDisabled", type := .boolean, accessFlags := 4120, slot := 9, constantValue := 0 }]
  methods := #[k24m0]
  instanceTypes := #[]
  staticTypes := #[.long, .boolean, (.array (.object "java/lang/Object")), (.object "java/lang/Object"), (.object "java/util/ImmutableCollections$ListN"), (.object "java/util/ImmutableCollections$ListN"), (.object "java/util/ImmutableCollections$SetN"), (.object "java/util/ImmutableCollections$MapN"), .int, .boolean]
  resolved := Array.replicate 213 none
  statics := some 1 }

def pool25 : Array CpInfo := pool [(4, .class_ 6), (1, u "java/lang/Object"), (0, u "<init>"), (0, u "()V"), (5, .class_ 16), (1, u "java/lang/StringLatin1"), (73, u "canEncode"), (14, u "(C)Z"), (15, u "$assertionsDisabled"), (0, u "Z"), (98, .class_ 223), (1, u "java/lang/StringLatin1$LinesSpliterator"), (156, u "toBytes"), (1, u "(C)[B"), (7, .class_ 391), (0, u "java/lang/StringLatin1$CharsSpliterator")] 3

def k25m0 : Method := { name := "<init>", desc := "()V", sig := { parameters := [], returnType := none }, accessFlags := 0, code := none }
def k25c1 : Code := { maxStack := 2, maxLocals := 1, code := jdk_43_method_3_code, exceptionTable := #[], attributes := #[] }
def k25m1 : Method := { name := "canEncode", desc := "(C)Z", sig := { parameters := [.char], returnType := some .boolean }, accessFlags := 9, code := some k25c1 }
def k25c2 : Code := { maxStack := 4, maxLocals := 1, code := jdk_43_method_46_code, exceptionTable := #[], attributes := #[] }
def k25m2 : Method := { name := "toBytes", desc := "(C)[B", sig := { parameters := [.char], returnType := some (.array .byte) }, accessFlags := 9, code := some k25c2 }
/-- java/lang/StringLatin1 -/
def k25 : Class := { plain "java/lang/StringLatin1" (some 0) with
  accessFlags := 48
  interfaces := #[]
  cf := some (fileOf pool25 14 #[.nestMembers #[390, 221]] #[{ accessFlags := 0, nameIndex := 7, descriptorIndex := 8, attributes := #[] }, { accessFlags := 9, nameIndex := 90, descriptorIndex := 105, attributes := #[] }, { accessFlags := 9, nameIndex := 380, descriptorIndex := 382, attributes := #[] }] 48 4 #[] #[{ accessFlags := 4120, nameIndex := 121, descriptorIndex := 122, attributes := #[] }])
  fields := #[{ name := "$assertionsDisabled", type := .boolean, accessFlags := 4120, slot := 0, constantValue := 0 }]
  methods := #[k25m0, k25m1, k25m2]
  instanceTypes := #[]
  staticTypes := #[.boolean]
  resolved := Array.replicate 395 none
  statics := none }

def pool26 : Array CpInfo := pool [(2, .class_ 4), (1, u "java/lang/Object"), (0, u "<init>"), (0, u "()V"), (17, .class_ 26), (1, u "jdk/internal/util/Preconditions"), (28, .class_ 56), (0, u "jdk/internal/util/Preconditions$4"), (57, .class_ 115), (0, u "jdk/internal/util/Preconditions$1"), (7, u "SIOOBE_FORMATTER"), (0, u "Ljava/util/function/BiFunction;"), (0, .class_ 126), (0, u "jdk/internal/util/Preconditions$2"), (3, u "AIOOBE_FORMATTER"), (0, .class_ 132), (0, u "jdk/internal/util/Preconditions$3"), (3, u "IOOBE_FORMATTER")] 57

def k26m0 : Method := { name := "<init>", desc := "()V", sig := { parameters := [], returnType := none }, accessFlags := 1, code := none }
/-- jdk/internal/util/Preconditions -/
def k26 : Class := { plain "jdk/internal/util/Preconditions" (some 0) with
  accessFlags := 33
  interfaces := #[]
  cf := some (fileOf pool26 24 #[.nestMembers #[55, 131, 125, 114]] #[{ accessFlags := 1, nameIndex := 5, descriptorIndex := 6, attributes := #[] }] 33 2 #[] #[{ accessFlags := 25, nameIndex := 123, descriptorIndex := 124, attributes := #[] }, { accessFlags := 25, nameIndex := 130, descriptorIndex := 124, attributes := #[] }, { accessFlags := 25, nameIndex := 136, descriptorIndex := 124, attributes := #[] }])
  fields := #[{ name := "SIOOBE_FORMATTER", type := (.object "java/util/function/BiFunction"), accessFlags := 25, slot := 0, constantValue := 0 }, { name := "AIOOBE_FORMATTER", type := (.object "java/util/function/BiFunction"), accessFlags := 25, slot := 1, constantValue := 0 }, { name := "IOOBE_FORMATTER", type := (.object "java/util/function/BiFunction"), accessFlags := 25, slot := 2, constantValue := 0 }]
  methods := #[k26m0]
  instanceTypes := #[]
  staticTypes := #[(.object "java/util/function/BiFunction"), (.object "java/util/function/BiFunction"), (.object "java/util/function/BiFunction")]
  resolved := Array.replicate 194 none
  statics := some 2 }

def pool27 : Array CpInfo := pool [(9, u "<init>"), (6, .class_ 18), (1, u "java/lang/Object"), (0, u "()V"), (1, .class_ 23), (1, u "jdk/internal/util/ArraysSupport"), (0, u "LOG2_ARRAY_LONG_INDEX_SCALE"), (0, u "I"), (2, u "U"), (0, u "Ljdk/internal/misc/Unsafe;"), (8, u "BIG_ENDIAN"), (0, u "Z"), (8, u "LOG2_BYTE_BIT_SIZE"), (4, u "LOG2_ARRAY_INT_INDEX_SCALE"), (54, u "JLA"), (0, u "Ljdk/internal/access/JavaLangAccess;"), (11, u "LOG2_ARRAY_BOOLEAN_INDEX_SCALE"), (9, u "LOG2_ARRAY_BYTE_INDEX_SCALE"), (5, u "LOG2_ARRAY_CHAR_INDEX_SCALE"), (5, u "LOG2_ARRAY_SHORT_INDEX_SCALE"), (18, u "LOG2_ARRAY_FLOAT_INDEX_SCALE"), (24, u "LOG2_ARRAY_DOUBLE_INDEX_SCALE"), (89, u "T_BOOLEAN"), (2, u "T_CHAR"), (1, u "T_FLOAT"), (1, u "T_DOUBLE"), (1, u "T_BYTE"), (1, u "T_SHORT"), (1, u "T_INT"), (1, u "T_LONG"), (1, u "SOFT_MAX_ARRAY_LENGTH")] 83

def k27m0 : Method := { name := "<init>", desc := "()V", sig := { parameters := [], returnType := none }, accessFlags := 2, code := none }
/-- jdk/internal/util/ArraysSupport -/
def k27 : Class := { plain "jdk/internal/util/ArraysSupport" (some 0) with
  accessFlags := 33
  interfaces := #[]
  cf := some (fileOf pool27 21 #[] #[{ accessFlags := 2, nameIndex := 9, descriptorIndex := 19, attributes := #[] }] 33 16 #[] #[{ accessFlags := 24, nameIndex := 28, descriptorIndex := 29, attributes := #[] }, { accessFlags := 26, nameIndex := 38, descriptorIndex := 39, attributes := #[] }, { accessFlags := 25, nameIndex := 121, descriptorIndex := 25, attributes := #[] }, { accessFlags := 25, nameIndex := 131, descriptorIndex := 25, attributes := #[] }, { accessFlags := 25, nameIndex := 137, descriptorIndex := 25, attributes := #[] }, { accessFlags := 25, nameIndex := 143, descriptorIndex := 25, attributes := #[] }, { accessFlags := 25, nameIndex := 53, descriptorIndex := 25, attributes := #[] }, { accessFlags := 25, nameIndex := 24, descriptorIndex := 25, attributes := #[] }, { accessFlags := 25, nameIndex := 162, descriptorIndex := 25, attributes := #[] }, { accessFlags := 25, nameIndex := 187, descriptorIndex := 25, attributes := #[] }, { accessFlags := 26, nameIndex := 48, descriptorIndex := 25, attributes := #[] }, { accessFlags := 25, nameIndex := 277, descriptorIndex := 25, attributes := #[] }, { accessFlags := 25, nameIndex := 280, descriptorIndex := 25, attributes := #[] }, { accessFlags := 25, nameIndex := 282, descriptorIndex := 25, attributes := #[] }, { accessFlags := 25, nameIndex := 284, descriptorIndex := 25, attributes := #[] }, { accessFlags := 25, nameIndex := 286, descriptorIndex := 25, attributes := #[] }, { accessFlags := 25, nameIndex := 288, descriptorIndex := 25, attributes := #[] }, { accessFlags := 25, nameIndex := 290, descriptorIndex := 25, attributes := #[] }, { accessFlags := 25, nameIndex := 292, descriptorIndex := 25, attributes := #[] }, { accessFlags := 26, nameIndex := 108, descriptorIndex := 109, attributes := #[] }, { accessFlags := 25, nameIndex := 294, descriptorIndex := 25, attributes := #[] }])
  fields := #[{ name := "U", type := (.object "jdk/internal/misc/Unsafe"), accessFlags := 24, slot := 0, constantValue := 0 }, { name := "BIG_ENDIAN", type := .boolean, accessFlags := 26, slot := 1, constantValue := 0 }, { name := "LOG2_ARRAY_BOOLEAN_INDEX_SCALE", type := .int, accessFlags := 25, slot := 2, constantValue := 0 }, { name := "LOG2_ARRAY_BYTE_INDEX_SCALE", type := .int, accessFlags := 25, slot := 3, constantValue := 0 }, { name := "LOG2_ARRAY_CHAR_INDEX_SCALE", type := .int, accessFlags := 25, slot := 4, constantValue := 0 }, { name := "LOG2_ARRAY_SHORT_INDEX_SCALE", type := .int, accessFlags := 25, slot := 5, constantValue := 0 }, { name := "LOG2_ARRAY_INT_INDEX_SCALE", type := .int, accessFlags := 25, slot := 6, constantValue := 0 }, { name := "LOG2_ARRAY_LONG_INDEX_SCALE", type := .int, accessFlags := 25, slot := 7, constantValue := 0 }, { name := "LOG2_ARRAY_FLOAT_INDEX_SCALE", type := .int, accessFlags := 25, slot := 8, constantValue := 0 }, { name := "LOG2_ARRAY_DOUBLE_INDEX_SCALE", type := .int, accessFlags := 25, slot := 9, constantValue := 0 }, { name := "LOG2_BYTE_BIT_SIZE", type := .int, accessFlags := 26, slot := 10, constantValue := 0 }, { name := "T_BOOLEAN", type := .int, accessFlags := 25, slot := 11, constantValue := 0 }, { name := "T_CHAR", type := .int, accessFlags := 25, slot := 12, constantValue := 0 }, { name := "T_FLOAT", type := .int, accessFlags := 25, slot := 13, constantValue := 0 }, { name := "T_DOUBLE", type := .int, accessFlags := 25, slot := 14, constantValue := 0 }, { name := "T_BYTE", type := .int, accessFlags := 25, slot := 15, constantValue := 0 }, { name := "T_SHORT", type := .int, accessFlags := 25, slot := 16, constantValue := 0 }, { name := "T_INT", type := .int, accessFlags := 25, slot := 17, constantValue := 0 }, { name := "T_LONG", type := .int, accessFlags := 25, slot := 18, constantValue := 0 }, { name := "JLA", type := (.object "jdk/internal/access/JavaLangAccess"), accessFlags := 26, slot := 19, constantValue := 0 }, { name := "SOFT_MAX_ARRAY_LENGTH", type := .int, accessFlags := 25, slot := 20, constantValue := 0 }]
  methods := #[k27m0]
  instanceTypes := #[]
  staticTypes := #[(.object "jdk/internal/misc/Unsafe"), .boolean, .int, .int, .int, .int, .int, .int, .int, .int, .int, .int, .int, .int, .int, .int, .int, .int, .int, (.object "jdk/internal/access/JavaLangAccess"), .int]
  resolved := Array.replicate 378 none
  statics := none }

def pool28 : Array CpInfo := pool [(2, .class_ 4), (1, u "java/util/ImmutableCollections$AbstractImmutableList"), (3, .class_ 10), (1, u "java/util/ImmutableCollections$ListN"), (0, u "elements"), (0, u "[Ljava/lang/Object;"), (2, u "allowNulls"), (0, u "Z"), (42, .class_ 60), (0, u "java/io/Serializable"), (53, .class_ 115), (0, u "java/util/ImmutableCollections")] 3

/-- java/util/ImmutableCollections$ListN -/
def k28 : Class := { plain "java/util/ImmutableCollections$ListN" (some 22) with
  accessFlags := 48
  interfaces := #[2]
  cf := some (fileOf pool28 8 #[.nestHost 114] #[] 48 2 #[59] #[{ accessFlags := 18, nameIndex := 11, descriptorIndex := 12, attributes := #[] }, { accessFlags := 18, nameIndex := 15, descriptorIndex := 16, attributes := #[] }])
  fields := #[{ name := "elements", type := (.array (.object "java/lang/Object")), accessFlags := 18, slot := 0, constantValue := 0 }, { name := "allowNulls", type := .boolean, accessFlags := 18, slot := 1, constantValue := 0 }]
  methods := #[]
  instanceTypes := #[(.array (.object "java/lang/Object")), .boolean]
  staticTypes := #[]
  resolved := Array.replicate 119 none
  statics := none }

def pool29 : Array CpInfo := pool [(1, u "java/lang/Cloneable"), (0, .class_ 1), (0, u "java/lang/Object"), (0, .class_ 3)] 3

/-- java/lang/Cloneable -/
def k29 : Class := { plain "java/lang/Cloneable" (some 0) with
  accessFlags := 1537
  interfaces := #[]
  cf := some (fileOf pool29 2 #[] #[] 1537 4 #[] #[])
  fields := #[]
  methods := #[]
  instanceTypes := #[]
  staticTypes := #[]
  resolved := Array.replicate 8 none
  statics := none }

/-- the primitive byte -/
def k30 : Class := { plain "byte" none with kind := .primitive 'B', accessFlags := 0x411 }
/-- [B -/
def k31 : Class := { plain "[B" (some 0) with kind := .array 30 .byte, interfaces := #[29, 2], accessFlags := 1041 }

/-- the primitive char -/
def k32 : Class := { plain "char" none with kind := .primitive 'C', accessFlags := 0x411 }
/-- [C -/
def k33 : Class := { plain "[C" (some 0) with kind := .array 32 .char, interfaces := #[29, 2], accessFlags := 1041 }

/-- the primitive int -/
def k34 : Class := { plain "int" none with kind := .primitive 'I', accessFlags := 0x411 }
/-- [I -/
def k35 : Class := { plain "[I" (some 0) with kind := .array 34 .int, interfaces := #[29, 2], accessFlags := 1041 }

def heap : Heap := #[{ cls := 7, slots := #[.long 0, .int 1, .null, .int 0, .null, .int 0, .int 0], vm := .statics 7 },
  { cls := 24, slots := #[.long 0, .int 0, .null, .ref 3, .ref 4, .null, .null, .null, .int 0, .int 1], vm := .statics 24 },
  { cls := 26, slots := #[.null, .null, .null], vm := .statics 26 },
  { cls := 0, slots := #[], vm := .none },
  { cls := 28, slots := #[.null, .int 0], vm := .none }]
def classes : Array Class := #[k0, k1, k2, k3, k4, k5, k6, k7, k8, k9, k10, k11, k12, k13, k14, k15, k16, k17, k18, k19, k20, k21, k22, k23, k24, k25, k26, k27, k28, k29, k30, k31, k32, k33, k34, k35]
def interned : List (Array UInt16 × Addr) := []
def slotsUsed : Nat := 22
def theMethod : MethodId := ⟨1, 2⟩
def args0 : Array Value := #[.int 65, .int 66, .int 67, .int 2, .int 40]
def aboutOver (below : List Frame) : State where
  vm := { classes := classes, interned := interned.toArray }
  heap := heap
  slotsUsed := slotsUsed
  threads := #[{ frames := .invoking theMethod args0 :: below }]
def below0 : List Frame := [.native { method := ⟨0, 0⟩, args := #[] }]
def about1 : State := aboutOver below0
def p0 : Program := .bare "" "" ""
def e0 : Env := launch0.env 0 0 0
theorem w_frames : about1.frames = Frame.invoking theMethod args0 :: below0 := rfl
set_option maxRecDepth 65536 in
theorem w_args : argsFit about1.vm theMethod args0 = true := by decide +kernel
set_option maxRecDepth 65536 in
theorem w_heap : heapFits about1 = true := by decide +kernel
set_option maxRecDepth 65536 in
theorem w_runnable : about1.curStatus? = some .runnable := by decide +kernel
set_option maxRecDepth 65536 in
theorem w_alone : about1.alone = true := by decide +kernel
set_option maxRecDepth 65536 in
theorem w_named : about1.methodNamed? x = some theMethod := by decide +kernel
set_option maxRecDepth 65536 in
theorem w_hears : about1.hears theMethod below0 = true := by decide +kernel
set_option maxRecDepth 65536 in
theorem w_ripe : about1.ripe theMethod args0 below0 = true := by decide +kernel
theorem w_running : about1.status = .running := rfl
set_option maxRecDepth 65536 in
theorem w_room : about1.hasRoom e0.platform room_1 = true :=
  launch0.hasRoom_least _ room_1 (by decide +kernel) (by decide +kernel) (by decide +kernel) (by decide +kernel) (by decide +kernel) (by decide +kernel)
theorem allAtoms_all (ts : List Jvm.Cond) (a : Array Jvm.Value) (st : Jvm.State) : (allAtoms ts).before a st = ts.all (fun c => c.before a st) := by
  induction ts with
  | nil => rfl
  | cons c t ih =>
    show (Jvm.Cond.and c (allAtoms t)).before a st = _
    rw [Jvm.Cond.before_and, ih, List.all_cons]
def words1 : List Jvm.Cond := Jvm.Cond.code x code maxLocals ret :: tables_1
/-- a 'code' word, met by the world's own term for the bytes: nothing is compared byte by byte -/
theorem code_word {y : MethodName} {bytes : ByteArray} {mx : Nat} {rt : Option FieldType} {a : Array Value} {s : State} {m : MethodId} {meth : Method} {c : Code} (h1 : s.methodNamed? y = some m) (h2 : s.vm.method? m = some meth) (h3 : meth.code = some c) (h4 : c.code = bytes)
    (h5 : (c.maxLocals == mx && c.exceptionTable.isEmpty && decide (c.maxStack ≤ mostOperands) && decide (meth.sig.returnType = rt) && !meth.locks && decide (parseMethodDescriptor y.desc = some meth.sig)) = true) : (Jvm.Cond.code y bytes mx rt).before a s = true := by
  simp only [Bool.and_eq_true, beq_iff_eq, Bool.not_eq_true', decide_eq_true_eq] at h5
  obtain ⟨⟨⟨⟨⟨g1, g2⟩, g3⟩, g4⟩, g5⟩, g6⟩ := h5
  simp [Cond.before, Cond.holds, Cond.value, h1, h2, h3, h4, g1, g2, g3, g4, g5, g6]
def isCode : Jvm.Cond → Bool
  | .code _ _ _ _ => true
  | _ => false
theorem all_split {L : List Jvm.Cond} {P : Jvm.Cond → Bool} (h1 : L.all (fun c => isCode c || P c) = true) (h2 : ∀ c ∈ L.filter isCode, P c = true) : L.all P = true := by
  refine List.all_eq_true.mpr fun c hc => ?_
  have h := List.all_eq_true.mp h1 c hc
  rcases Bool.eq_false_or_eq_true (isCode c) with hi | hi
  · exact h2 c (List.mem_filter.mpr ⟨hc, hi⟩)
  · simpa [hi] using h
set_option maxRecDepth 65536 in
theorem w_c0 : (Jvm.Cond.code x code maxLocals ret).before args0 about1 = true := code_word (m := ⟨1, 2⟩) (meth := k1m2) (c := k1c2) (by decide +kernel) rfl rfl rfl (by decide +kernel)
set_option maxRecDepth 65536 in
theorem w_c1 : (Jvm.Cond.code ({ cls := "org/concordat/report/AtomicityViolationIdentityPinLaw", name := "str", desc := "(II)Ljava/lang/String;" } : Jvm.MethodName) method_2_code (5 : Nat) (Option.some (Jvm.ClassFile.FieldType.object "java/lang/String"))).before args0 about1 = true := code_word (m := ⟨1, 1⟩) (meth := k1m1) (c := k1c1) (by decide +kernel) rfl rfl rfl (by decide +kernel)
set_option maxRecDepth 65536 in
theorem w_c2 : (Jvm.Cond.code ({ cls := "java/lang/String", name := "<init>", desc := "([C)V" } : Jvm.MethodName) jdk_42_method_3_code (2 : Nat) (Option.none : Option Jvm.ClassFile.FieldType)).before args0 about1 = true := code_word (m := ⟨7, 1⟩) (meth := k7m1) (c := k7c1) (by decide +kernel) rfl rfl rfl (by decide +kernel)
set_option maxRecDepth 65536 in
theorem w_c3 : (Jvm.Cond.code ({ cls := "java/lang/String", name := "<init>", desc := "([CIILjava/lang/Void;)V" } : Jvm.MethodName) jdk_42_method_149_code (6 : Nat) (Option.none : Option Jvm.ClassFile.FieldType)).before args0 about1 = true := code_word (m := ⟨7, 4⟩) (meth := k7m4) (c := k7c4) (by decide +kernel) rfl rfl rfl (by decide +kernel)
set_option maxRecDepth 65536 in
theorem w_c4 : (Jvm.Cond.code ({ cls := "java/lang/Object", name := "<init>", desc := "()V" } : Jvm.MethodName) object_method_1_code (1 : Nat) (Option.none : Option Jvm.ClassFile.FieldType)).before args0 about1 = true := code_word (m := ⟨0, 0⟩) (meth := k0m0) (c := k0c0) (by decide +kernel) rfl rfl rfl (by decide +kernel)
set_option maxRecDepth 65536 in
theorem w_c5 : (Jvm.Cond.code ({ cls := "java/lang/StringUTF16", name := "compress", desc := "([CII)[B" } : Jvm.MethodName) jdk_52_method_16_code (6 : Nat) (Option.some (Jvm.ClassFile.FieldType.array Jvm.ClassFile.FieldType.byte))).before args0 about1 = true := code_word (m := ⟨8, 2⟩) (meth := k8m2) (c := k8c2) (by decide +kernel) rfl rfl rfl (by decide +kernel)
set_option maxRecDepth 65536 in
theorem w_c6 : (Jvm.Cond.code ({ cls := "java/lang/StringUTF16", name := "compress", desc := "([CI[BII)I" } : Jvm.MethodName) jdk_52_method_21_code (7 : Nat) (Option.some Jvm.ClassFile.FieldType.int)).before args0 about1 = true := code_word (m := ⟨8, 3⟩) (meth := k8m3) (c := k8c3) (by decide +kernel) rfl rfl rfl (by decide +kernel)
set_option maxRecDepth 65536 in
theorem w_c7 : (Jvm.Cond.code ({ cls := "java/lang/StringUTF16", name := "coderFromArrayLen", desc := "([BI)B" } : Jvm.MethodName) jdk_52_method_15_code (2 : Nat) (Option.some Jvm.ClassFile.FieldType.byte)).before args0 about1 = true := code_word (m := ⟨8, 1⟩) (meth := k8m1) (c := k8c1) (by decide +kernel) rfl rfl rfl (by decide +kernel)
set_option maxRecDepth 65536 in
theorem w_c8 : (Jvm.Cond.code ({ cls := "org/concordat/report/Rule", name := "<init>", desc := "(Ljava/lang/String;Ljava/lang/String;Ljava/lang/String;)V" } : Jvm.MethodName) prog_53_method_1_code (4 : Nat) (Option.none : Option Jvm.ClassFile.FieldType)).before args0 about1 = true := code_word (m := ⟨10, 0⟩) (meth := k10m0) (c := k10c0) (by decide +kernel) rfl rfl rfl (by decide +kernel)
set_option maxRecDepth 65536 in
theorem w_c9 : (Jvm.Cond.code ({ cls := "java/lang/Record", name := "<init>", desc := "()V" } : Jvm.MethodName) jdk_30_method_1_code (1 : Nat) (Option.none : Option Jvm.ClassFile.FieldType)).before args0 about1 = true := code_word (m := ⟨9, 0⟩) (meth := k9m0) (c := k9c0) (by decide +kernel) rfl rfl rfl (by decide +kernel)
set_option maxRecDepth 65536 in
theorem w_c10 : (Jvm.Cond.code ({ cls := "java/util/Objects", name := "requireNonNull", desc := "(Ljava/lang/Object;Ljava/lang/String;)Ljava/lang/Object;" } : Jvm.MethodName) jdk_31_method_11_code (2 : Nat) (Option.some (Jvm.ClassFile.FieldType.object "java/lang/Object"))).before args0 about1 = true := code_word (m := ⟨11, 2⟩) (meth := k11m2) (c := k11c2) (by decide +kernel) rfl rfl rfl (by decide +kernel)
set_option maxRecDepth 65536 in
theorem w_c11 : (Jvm.Cond.code ({ cls := "org/concordat/report/Place", name := "<init>", desc := "(Ljava/lang/String;Ljava/lang/String;Ljava/lang/String;I)V" } : Jvm.MethodName) prog_51_method_1_code (5 : Nat) (Option.none : Option Jvm.ClassFile.FieldType)).before args0 about1 = true := code_word (m := ⟨12, 0⟩) (meth := k12m0) (c := k12c0) (by decide +kernel) rfl rfl rfl (by decide +kernel)
set_option maxRecDepth 65536 in
theorem w_c12 : (Jvm.Cond.code ({ cls := "org/concordat/report/AtomicityViolation", name := "<init>", desc := "(Lorg/concordat/report/Rule;Ljava/lang/String;Ljava/lang/String;Ljava/lang/String;Lorg/concordat/report/Place;Lorg/concordat/report/Place;)V" } : Jvm.MethodName) prog_38_method_1_code (7 : Nat) (Option.none : Option Jvm.ClassFile.FieldType)).before args0 about1 = true := code_word (m := ⟨14, 0⟩) (meth := k14m0) (c := k14c0) (by decide +kernel) rfl rfl rfl (by decide +kernel)
set_option maxRecDepth 65536 in
theorem w_c13 : (Jvm.Cond.code ({ cls := "org/concordat/report/AtomicityViolation", name := "identity", desc := "()Ljava/util/List;" } : Jvm.MethodName) prog_38_method_7_code (1 : Nat) (Option.some (Jvm.ClassFile.FieldType.object "java/util/List"))).before args0 about1 = true := code_word (m := ⟨14, 1⟩) (meth := k14m1) (c := k14c1) (by decide +kernel) rfl rfl rfl (by decide +kernel)
set_option maxRecDepth 65536 in
theorem w_c14 : (Jvm.Cond.code ({ cls := "java/util/List", name := "of", desc := "(Ljava/lang/Object;Ljava/lang/Object;)Ljava/util/List;" } : Jvm.MethodName) jdk_40_method_38_code (2 : Nat) (Option.some (Jvm.ClassFile.FieldType.object "java/util/List"))).before args0 about1 = true := code_word (m := ⟨18, 2⟩) (meth := k18m2) (c := k18c2) (by decide +kernel) rfl rfl rfl (by decide +kernel)
set_option maxRecDepth 65536 in
theorem w_c15 : (Jvm.Cond.code ({ cls := "java/util/ImmutableCollections$List12", name := "<init>", desc := "(Ljava/lang/Object;Ljava/lang/Object;)V" } : Jvm.MethodName) jdk_44_method_2_code (3 : Nat) (Option.none : Option Jvm.ClassFile.FieldType)).before args0 about1 = true := code_word (m := ⟨23, 0⟩) (meth := k23m0) (c := k23c0) (by decide +kernel) rfl rfl rfl (by decide +kernel)
set_option maxRecDepth 65536 in
theorem w_c16 : (Jvm.Cond.code ({ cls := "java/util/ImmutableCollections$AbstractImmutableList", name := "<init>", desc := "()V" } : Jvm.MethodName) jdk_46_method_1_code (1 : Nat) (Option.none : Option Jvm.ClassFile.FieldType)).before args0 about1 = true := code_word (m := ⟨22, 0⟩) (meth := k22m0) (c := k22c0) (by decide +kernel) rfl rfl rfl (by decide +kernel)
set_option maxRecDepth 65536 in
theorem w_c17 : (Jvm.Cond.code ({ cls := "java/util/ImmutableCollections$AbstractImmutableCollection", name := "<init>", desc := "()V" } : Jvm.MethodName) jdk_47_method_1_code (1 : Nat) (Option.none : Option Jvm.ClassFile.FieldType)).before args0 about1 = true := code_word (m := ⟨20, 0⟩) (meth := k20m0) (c := k20c0) (by decide +kernel) rfl rfl rfl (by decide +kernel)
set_option maxRecDepth 65536 in
theorem w_c18 : (Jvm.Cond.code ({ cls := "java/util/AbstractCollection", name := "<init>", desc := "()V" } : Jvm.MethodName) jdk_22_method_1_code (1 : Nat) (Option.none : Option Jvm.ClassFile.FieldType)).before args0 about1 = true := code_word (m := ⟨19, 0⟩) (meth := k19m0) (c := k19c0) (by decide +kernel) rfl rfl rfl (by decide +kernel)
set_option maxRecDepth 65536 in
theorem w_c19 : (Jvm.Cond.code ({ cls := "java/util/Objects", name := "requireNonNull", desc := "(Ljava/lang/Object;)Ljava/lang/Object;" } : Jvm.MethodName) jdk_31_method_10_code (1 : Nat) (Option.some (Jvm.ClassFile.FieldType.object "java/lang/Object"))).before args0 about1 = true := code_word (m := ⟨11, 1⟩) (meth := k11m1) (c := k11c1) (by decide +kernel) rfl rfl rfl (by decide +kernel)
set_option maxRecDepth 65536 in
theorem w_c20 : (Jvm.Cond.code ({ cls := "java/util/ImmutableCollections$List12", name := "size", desc := "()I" } : Jvm.MethodName) jdk_44_method_3_code (1 : Nat) (Option.some Jvm.ClassFile.FieldType.int)).before args0 about1 = true := code_word (m := ⟨23, 1⟩) (meth := k23m1) (c := k23c1) (by decide +kernel) rfl rfl rfl (by decide +kernel)
set_option maxRecDepth 65536 in
theorem w_c21 : (Jvm.Cond.code ({ cls := "java/util/ImmutableCollections$List12", name := "get", desc := "(I)Ljava/lang/Object;" } : Jvm.MethodName) jdk_44_method_5_code (2 : Nat) (Option.some (Jvm.ClassFile.FieldType.object "java/lang/Object"))).before args0 about1 = true := code_word (m := ⟨23, 2⟩) (meth := k23m2) (c := k23c2) (by decide +kernel) rfl rfl rfl (by decide +kernel)
set_option maxRecDepth 65536 in
theorem w_c22 : (Jvm.Cond.code ({ cls := "java/lang/String", name := "equals", desc := "(Ljava/lang/Object;)Z" } : Jvm.MethodName) jdk_42_method_66_code (3 : Nat) (Option.some Jvm.ClassFile.FieldType.boolean)).before args0 about1 = true := code_word (m := ⟨7, 2⟩) (meth := k7m2) (c := k7c2) (by decide +kernel) rfl rfl rfl (by decide +kernel)
set_option maxRecDepth 65536 in
theorem w_c23 : (Jvm.Cond.code ({ cls := "java/lang/String", name := "valueOf", desc := "(C)Ljava/lang/String;" } : Jvm.MethodName) jdk_42_method_139_code (1 : Nat) (Option.some (Jvm.ClassFile.FieldType.object "java/lang/String"))).before args0 about1 = true := code_word (m := ⟨7, 3⟩) (meth := k7m3) (c := k7c3) (by decide +kernel) rfl rfl rfl (by decide +kernel)
set_option maxRecDepth 65536 in
theorem w_c24 : (Jvm.Cond.code ({ cls := "java/lang/StringLatin1", name := "canEncode", desc := "(C)Z" } : Jvm.MethodName) jdk_43_method_3_code (1 : Nat) (Option.some Jvm.ClassFile.FieldType.boolean)).before args0 about1 = true := code_word (m := ⟨25, 1⟩) (meth := k25m1) (c := k25c1) (by decide +kernel) rfl rfl rfl (by decide +kernel)
set_option maxRecDepth 65536 in
theorem w_c25 : (Jvm.Cond.code ({ cls := "java/lang/StringLatin1", name := "toBytes", desc := "(C)[B" } : Jvm.MethodName) jdk_43_method_46_code (1 : Nat) (Option.some (Jvm.ClassFile.FieldType.array Jvm.ClassFile.FieldType.byte))).before args0 about1 = true := code_word (m := ⟨25, 2⟩) (meth := k25m2) (c := k25c2) (by decide +kernel) rfl rfl rfl (by decide +kernel)
set_option maxRecDepth 65536 in
theorem w_c26 : (Jvm.Cond.code ({ cls := "java/lang/String", name := "<init>", desc := "([BB)V" } : Jvm.MethodName) jdk_42_method_151_code (3 : Nat) (Option.none : Option Jvm.ClassFile.FieldType)).before args0 about1 = true := code_word (m := ⟨7, 5⟩) (meth := k7m5) (c := k7c5) (by decide +kernel) rfl rfl rfl (by decide +kernel)
def codes1 : List Jvm.Cond := [Jvm.Cond.code x code maxLocals ret, Jvm.Cond.code ({ cls := "org/concordat/report/AtomicityViolationIdentityPinLaw", name := "str", desc := "(II)Ljava/lang/String;" } : Jvm.MethodName) method_2_code (5 : Nat) (Option.some (Jvm.ClassFile.FieldType.object "java/lang/String")), Jvm.Cond.code ({ cls := "java/lang/String", name := "<init>", desc := "([C)V" } : Jvm.MethodName) jdk_42_method_3_code (2 : Nat) (Option.none : Option Jvm.ClassFile.FieldType), Jvm.Cond.code ({ cls := "java/lang/String", name := "<init>", desc := "([CIILjava/lang/Void;)V" } : Jvm.MethodName) jdk_42_method_149_code (6 : Nat) (Option.none : Option Jvm.ClassFile.FieldType), Jvm.Cond.code ({ cls := "java/lang/Object", name := "<init>", desc := "()V" } : Jvm.MethodName) object_method_1_code (1 : Nat) (Option.none : Option Jvm.ClassFile.FieldType), Jvm.Cond.code ({ cls := "java/lang/StringUTF16", name := "compress", desc := "([CII)[B" } : Jvm.MethodName) jdk_52_method_16_code (6 : Nat) (Option.some (Jvm.ClassFile.FieldType.array Jvm.ClassFile.FieldType.byte)), Jvm.Cond.code ({ cls := "java/lang/StringUTF16", name := "compress", desc := "([CI[BII)I" } : Jvm.MethodName) jdk_52_method_21_code (7 : Nat) (Option.some Jvm.ClassFile.FieldType.int), Jvm.Cond.code ({ cls := "java/lang/StringUTF16", name := "coderFromArrayLen", desc := "([BI)B" } : Jvm.MethodName) jdk_52_method_15_code (2 : Nat) (Option.some Jvm.ClassFile.FieldType.byte), Jvm.Cond.code ({ cls := "org/concordat/report/Rule", name := "<init>", desc := "(Ljava/lang/String;Ljava/lang/String;Ljava/lang/String;)V" } : Jvm.MethodName) prog_53_method_1_code (4 : Nat) (Option.none : Option Jvm.ClassFile.FieldType), Jvm.Cond.code ({ cls := "java/lang/Record", name := "<init>", desc := "()V" } : Jvm.MethodName) jdk_30_method_1_code (1 : Nat) (Option.none : Option Jvm.ClassFile.FieldType), Jvm.Cond.code ({ cls := "java/util/Objects", name := "requireNonNull", desc := "(Ljava/lang/Object;Ljava/lang/String;)Ljava/lang/Object;" } : Jvm.MethodName) jdk_31_method_11_code (2 : Nat) (Option.some (Jvm.ClassFile.FieldType.object "java/lang/Object")), Jvm.Cond.code ({ cls := "org/concordat/report/Place", name := "<init>", desc := "(Ljava/lang/String;Ljava/lang/String;Ljava/lang/String;I)V" } : Jvm.MethodName) prog_51_method_1_code (5 : Nat) (Option.none : Option Jvm.ClassFile.FieldType), Jvm.Cond.code ({ cls := "org/concordat/report/AtomicityViolation", name := "<init>", desc := "(Lorg/concordat/report/Rule;Ljava/lang/String;Ljava/lang/String;Ljava/lang/String;Lorg/concordat/report/Place;Lorg/concordat/report/Place;)V" } : Jvm.MethodName) prog_38_method_1_code (7 : Nat) (Option.none : Option Jvm.ClassFile.FieldType), Jvm.Cond.code ({ cls := "org/concordat/report/AtomicityViolation", name := "identity", desc := "()Ljava/util/List;" } : Jvm.MethodName) prog_38_method_7_code (1 : Nat) (Option.some (Jvm.ClassFile.FieldType.object "java/util/List")), Jvm.Cond.code ({ cls := "java/util/List", name := "of", desc := "(Ljava/lang/Object;Ljava/lang/Object;)Ljava/util/List;" } : Jvm.MethodName) jdk_40_method_38_code (2 : Nat) (Option.some (Jvm.ClassFile.FieldType.object "java/util/List")), Jvm.Cond.code ({ cls := "java/util/ImmutableCollections$List12", name := "<init>", desc := "(Ljava/lang/Object;Ljava/lang/Object;)V" } : Jvm.MethodName) jdk_44_method_2_code (3 : Nat) (Option.none : Option Jvm.ClassFile.FieldType), Jvm.Cond.code ({ cls := "java/util/ImmutableCollections$AbstractImmutableList", name := "<init>", desc := "()V" } : Jvm.MethodName) jdk_46_method_1_code (1 : Nat) (Option.none : Option Jvm.ClassFile.FieldType), Jvm.Cond.code ({ cls := "java/util/ImmutableCollections$AbstractImmutableCollection", name := "<init>", desc := "()V" } : Jvm.MethodName) jdk_47_method_1_code (1 : Nat) (Option.none : Option Jvm.ClassFile.FieldType), Jvm.Cond.code ({ cls := "java/util/AbstractCollection", name := "<init>", desc := "()V" } : Jvm.MethodName) jdk_22_method_1_code (1 : Nat) (Option.none : Option Jvm.ClassFile.FieldType), Jvm.Cond.code ({ cls := "java/util/Objects", name := "requireNonNull", desc := "(Ljava/lang/Object;)Ljava/lang/Object;" } : Jvm.MethodName) jdk_31_method_10_code (1 : Nat) (Option.some (Jvm.ClassFile.FieldType.object "java/lang/Object")), Jvm.Cond.code ({ cls := "java/util/ImmutableCollections$List12", name := "size", desc := "()I" } : Jvm.MethodName) jdk_44_method_3_code (1 : Nat) (Option.some Jvm.ClassFile.FieldType.int), Jvm.Cond.code ({ cls := "java/util/ImmutableCollections$List12", name := "get", desc := "(I)Ljava/lang/Object;" } : Jvm.MethodName) jdk_44_method_5_code (2 : Nat) (Option.some (Jvm.ClassFile.FieldType.object "java/lang/Object")), Jvm.Cond.code ({ cls := "java/lang/String", name := "equals", desc := "(Ljava/lang/Object;)Z" } : Jvm.MethodName) jdk_42_method_66_code (3 : Nat) (Option.some Jvm.ClassFile.FieldType.boolean), Jvm.Cond.code ({ cls := "java/lang/String", name := "valueOf", desc := "(C)Ljava/lang/String;" } : Jvm.MethodName) jdk_42_method_139_code (1 : Nat) (Option.some (Jvm.ClassFile.FieldType.object "java/lang/String")), Jvm.Cond.code ({ cls := "java/lang/StringLatin1", name := "canEncode", desc := "(C)Z" } : Jvm.MethodName) jdk_43_method_3_code (1 : Nat) (Option.some Jvm.ClassFile.FieldType.boolean), Jvm.Cond.code ({ cls := "java/lang/StringLatin1", name := "toBytes", desc := "(C)[B" } : Jvm.MethodName) jdk_43_method_46_code (1 : Nat) (Option.some (Jvm.ClassFile.FieldType.array Jvm.ClassFile.FieldType.byte)), Jvm.Cond.code ({ cls := "java/lang/String", name := "<init>", desc := "([BB)V" } : Jvm.MethodName) jdk_42_method_151_code (3 : Nat) (Option.none : Option Jvm.ClassFile.FieldType)]
set_option maxRecDepth 65536 in
theorem codes_eq : words1.filter isCode = codes1 := rfl
theorem w_codes : ∀ c ∈ words1.filter isCode, c.before args0 about1 = true := by
  rw [codes_eq]
  intro c hc
  simp only [codes1, List.mem_cons, List.not_mem_nil, or_false] at hc
  rcases hc with rfl | rfl | rfl | rfl | rfl | rfl | rfl | rfl | rfl | rfl | rfl | rfl | rfl | rfl | rfl | rfl | rfl | rfl | rfl | rfl | rfl | rfl | rfl | rfl | rfl | rfl | rfl
  · exact w_c0
  · exact w_c1
  · exact w_c2
  · exact w_c3
  · exact w_c4
  · exact w_c5
  · exact w_c6
  · exact w_c7
  · exact w_c8
  · exact w_c9
  · exact w_c10
  · exact w_c11
  · exact w_c12
  · exact w_c13
  · exact w_c14
  · exact w_c15
  · exact w_c16
  · exact w_c17
  · exact w_c18
  · exact w_c19
  · exact w_c20
  · exact w_c21
  · exact w_c22
  · exact w_c23
  · exact w_c24
  · exact w_c25
  · exact w_c26
set_option maxRecDepth 65536 in
theorem w_t1 : (words1.take 24).all (fun c => isCode c || c.before args0 about1) = true := by decide +kernel
set_option maxRecDepth 65536 in
theorem w_t2 : ((words1.drop 24).take 24).all (fun c => isCode c || c.before args0 about1) = true := by decide +kernel
set_option maxRecDepth 65536 in
theorem w_t3 : (((words1.drop 24).drop 24).take 24).all (fun c => isCode c || c.before args0 about1) = true := by decide +kernel
set_option maxRecDepth 65536 in
theorem w_t4 : ((((words1.drop 24).drop 24).drop 24).take 24).all (fun c => isCode c || c.before args0 about1) = true := by decide +kernel
set_option maxRecDepth 65536 in
theorem w_t5 : (((((words1.drop 24).drop 24).drop 24).drop 24).take 24).all (fun c => isCode c || c.before args0 about1) = true := by decide +kernel
set_option maxRecDepth 65536 in
theorem w_t6 : ((((((words1.drop 24).drop 24).drop 24).drop 24).drop 24).take 24).all (fun c => isCode c || c.before args0 about1) = true := by decide +kernel
set_option maxRecDepth 65536 in
theorem w_t7 : (((((((words1.drop 24).drop 24).drop 24).drop 24).drop 24).drop 24).take 24).all (fun c => isCode c || c.before args0 about1) = true := by decide +kernel
set_option maxRecDepth 65536 in
theorem w_t8 : ((((((((words1.drop 24).drop 24).drop 24).drop 24).drop 24).drop 24).drop 24).take 24).all (fun c => isCode c || c.before args0 about1) = true := by decide +kernel
set_option maxRecDepth 65536 in
theorem w_t9 : ((((((((words1.drop 24).drop 24).drop 24).drop 24).drop 24).drop 24).drop 24).drop 24).all (fun c => isCode c || c.before args0 about1) = true := by decide +kernel
theorem w_tables : (allAtoms (Jvm.Cond.code x code maxLocals ret :: tables_1)).before args0 about1 = true := by
  rw [allAtoms_all]
  show words1.all (fun c => c.before args0 about1) = true
  refine all_split ?_ w_codes
  rw [← List.take_append_drop 24 words1, List.all_append, w_t1, ← List.take_append_drop 24 (words1.drop 24), List.all_append, w_t2, ← List.take_append_drop 24 ((words1.drop 24).drop 24), List.all_append, w_t3, ← List.take_append_drop 24 (((words1.drop 24).drop 24).drop 24), List.all_append, w_t4, ← List.take_append_drop 24 ((((words1.drop 24).drop 24).drop 24).drop 24), List.all_append, w_t5, ← List.take_append_drop 24 (((((words1.drop 24).drop 24).drop 24).drop 24).drop 24), List.all_append, w_t6, ← List.take_append_drop 24 ((((((words1.drop 24).drop 24).drop 24).drop 24).drop 24).drop 24), List.all_append, w_t7, ← List.take_append_drop 24 (((((((words1.drop 24).drop 24).drop 24).drop 24).drop 24).drop 24).drop 24), List.all_append, w_t8, w_t9]
  rfl
set_option maxRecDepth 65536 in
theorem w_rest : rest_1_c.before args0 about1 = true := by decide +kernel
set_option maxRecDepth 65536 in
theorem w_case : (Jvm.Cond.and given_1 narrow_1).before args0 about1 = true := by decide +kernel
set_option maxRecDepth 65536 in
theorem w_consts : constsHeld consts_1 about1 := Jvm.Lit.constsHeldB_iff.mp (by decide +kernel)
theorem w_applies : (headSpec (Jvm.Cond.code x code maxLocals ret :: tables_1) room_1).applies x e0.platform about1 = true :=
  (Spec.applies_iff w_frames).mpr ⟨w_running, w_runnable, w_alone, w_named, w_hears, w_ripe, w_room, w_tables⟩
theorem atStart : AtStart classFile x code maxLocals ret World_1 tables_1 room_1 Calls_1 rest_1 Pre_1 launch0 p0 e0 about1 theMethod args0 below0 :=
  ⟨lists_1, trivial, launch0.admits_env _ _ _, launch0.least_env, fairChoices_fair.cas, fairChoices_fair.clock, w_frames, w_args, w_heap, w_applies, ⟨w_consts, trivial⟩, w_rest, w_case⟩
end start1
theorem witness_1 : WitnessClaimed_1 := ⟨start1.p0, start1.e0, start1.about1, start1.theMethod, start1.args0, start1.below0, start1.atStart⟩
end Jvm.Pilot.@@N@@
