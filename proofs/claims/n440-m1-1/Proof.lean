import JvmDerived
import JvmDerived.Pilot.@@N@@Statement
import JvmDerived.Pilot.@@N@@Code
set_option linter.unusedVariables false
set_option linter.unusedSimpArgs false
/- laws to paste: Road.backV (cut by pick.py; bodies as the Statement names them) -/
namespace Jvm.Pilot.@@N@@
namespace StrChars
open Jvm Sem ClassFile Op Lib Jvm.Stand Jvm.Free.XT Jvm.Free.ALB Jvm.Free.JM Jvm.Free
open Jvm.Lib.Cold (StaticIs)
/-- a char array whose places are chars -/
def Ch (a : Addr) (A : Cell) (U : State) : Prop := Arr .char a A U ∧ Typed .char A
theorem Ch.mv {a : Addr} {A : Cell} {U U' : State} (h : Ch a A U) (hal : U.vm.Alike U'.vm) (hh : U'.heap = U.heap) : Ch a A U' := ⟨h.1.mv hal hh, h.2⟩
theorem Ch.keep {a : Addr} {A : Cell} {U U' : State} (h : Ch a A U) (hal : U.vm.Alike U'.vm) (hk : U'.heap[a]? = some A) : Ch a A U' := ⟨h.1.keep hal hk, h.2⟩
/-- what place i of a char[]'s cell holds -/
def cv (A : Cell) (i : Nat) : Int32 := match A.slots[i]? with | some (.int x) => x | _ => 0
theorem Ch.get {a : Addr} {A : Cell} {U : State} (h : Ch a A U) {i : Nat} (hi : i < A.slots.size) : A.slots[i]? = some (.int (cv A i)) := by
  have e := Array.getElem?_eq_getElem hi
  have f := h.2 i _ e
  unfold cv; rw [e]
  generalize A.slots[i] = v at f
  cases v <;> simp [fits] at f ⊢
/-- the byte that i2b leaves of a char -/
def lo8 (x : Int32) : Int32 := x.toInt8.toInt32
theorem fits_lo8 (y : Int32) : fits .byte (.int (lo8 y)) = true := by
  have h1 := y.toInt8.le_toInt
  have h2 := y.toInt8.toInt_lt
  simp only [lo8, fits, Bool.and_eq_true, decide_eq_true_eq, Int32.le_iff_toInt_le, Int8.toInt_toInt32, show (-128 : Int32).toInt = -128 from by decide, show (127 : Int32).toInt = 127 from by decide]
  omega
/-- A' is A but that each place j of lo .. hi - 1 holds f j -/
def Laid (A A' : Cell) (lo hi : Nat) (f : Nat → Value) : Prop := A'.cls = A.cls ∧ A'.vm = A.vm ∧ A'.slots.size = A.slots.size ∧ ∀ i, A'.slots[i]? = if lo ≤ i ∧ i < hi then some (f i) else A.slots[i]?
theorem Laid.zero (A : Cell) (lo : Nat) (f : Nat → Value) : Laid A A lo (lo + 0) f := ⟨rfl, rfl, rfl, fun i => by rw [if_neg (by omega)]⟩
theorem Laid.step {A Ak : Cell} {lo k : Nat} {f : Nat → Value} {v : Value} (h : Laid A Ak lo k f) (hlo : lo ≤ k) (hk : k < Ak.slots.size) (hv : v = f k) : Laid A (Ak.setSlot k v) lo (k + 1) f := by
  refine ⟨h.1, h.2.1, by simpa [Cell.setSlot] using h.2.2.1, fun i => ?_⟩
  by_cases e : k = i
  · subst e; rw [Cell.slots_setSlot_self v hk, if_pos (by omega), hv]
  · rw [Cell.slots_setSlot_ne v e, h.2.2.2 i]
    by_cases q : lo ≤ i ∧ i < k
    · rw [if_pos q, if_pos (by omega)]
    · rw [if_neg q, if_neg (by omega)]
def U16 : String := "java/lang/StringUTF16"
namespace Cmp5
def yN : MethodName := ⟨"java/lang/StringUTF16", "compress", "([CI[BII)I"⟩
abbrev yB : ByteArray := jdk_52_method_21_code
theorem d0 : decode yB 0 = .ok (.iconst 0, 1) := by decide +kernel
theorem d1 : decode yB 1 = .ok (.istore 5, 2) := by decide +kernel
theorem d3 : decode yB 3 = .ok (.iload 5, 2) := by decide +kernel
theorem d5 : decode yB 5 = .ok (.iload 4, 2) := by decide +kernel
theorem d7 : decode yB 7 = .ok (.if_icmp (.ge) 37, 3) := by decide +kernel
theorem d10 : decode yB 10 = .ok (.aload_n 0, 1) := by decide +kernel
theorem d11 : decode yB 11 = .ok (.iload_n 1, 1) := by decide +kernel
theorem d12 : decode yB 12 = .ok (.caload, 1) := by decide +kernel
theorem d13 : decode yB 13 = .ok (.istore 6, 2) := by decide +kernel
theorem d15 : decode yB 15 = .ok (.iload 6, 2) := by decide +kernel
theorem d17 : decode yB 17 = .ok (.sipush 255, 3) := by decide +kernel
theorem d20 : decode yB 20 = .ok (.if_icmp (.le) 6, 3) := by decide +kernel
theorem d26 : decode yB 26 = .ok (.aload_n 2, 1) := by decide +kernel
theorem d27 : decode yB 27 = .ok (.iload_n 3, 1) := by decide +kernel
theorem d28 : decode yB 28 = .ok (.iload 6, 2) := by decide +kernel
theorem d30 : decode yB 30 = .ok (.i2b, 1) := by decide +kernel
theorem d31 : decode yB 31 = .ok (.bastore, 1) := by decide +kernel
theorem d32 : decode yB 32 = .ok (.iinc 1 1, 3) := by decide +kernel
theorem d35 : decode yB 35 = .ok (.iinc 3 1, 3) := by decide +kernel
theorem d38 : decode yB 38 = .ok (.iinc 5 1, 3) := by decide +kernel
theorem d41 : decode yB 41 = .ok (.goto (-38), 3) := by decide +kernel
theorem d44 : decode yB 44 = .ok (.iload 4, 2) := by decide +kernel
theorem d46 : decode yB 46 = .ok (.ireturn, 1) := by decide +kernel
def site : List Cond := []
def tab : Cond := tabOf yN yB 7 (some .int) site
def P (b : Addr) (A : Cell) (d : Addr) (B : Cell) (o q len : Nat) (args : Array Value) (s : State) : Prop := args = #[.ref b, .int (Int32.ofNat o), .ref d, .int (Int32.ofNat q), .int (Int32.ofNat len)] ∧ Ch b A s ∧ Arr .byte d B s ∧ b ≠ d ∧ o + len ≤ A.slots.size ∧ q + len ≤ B.slots.size ∧ ∀ i, i < len → ¬ 255 < cv A (o + i)
def E (b : Addr) (A : Cell) (d : Addr) (B : Cell) (o q len : Nat) (r : Option Value) (s u : State) : Prop := r = some (.int (Int32.ofNat len)) ∧ ∃ B', Put d B' s u ∧ Laid B B' q (q + len) (fun j => Value.int (lo8 (cv A (o + (j - q)))))
/-- no char of the range above 255: len; the places written hold each char's low byte -/
theorem law (l : Launch) (b : Addr) (A : Cell) (d : Addr) (B : Cell) (o q len : Nat) : Law l yN 5 5 0 0 yB 7 (some .int) site (P b A d B o q len) (E b A d B o q len) (copyLocs d q len) 0 0 := by
  refine Law.of_walk (plainFor_of_name (by decide +kernel)) (by decide +kernel) (by decide +kernel) (by decide) (fun _ _ h => by rw [h.1]; rfl) (fun _ U U' hal hh h => ⟨h.1, h.2.1.mv hal hh, h.2.2.1.mv hal hh, h.2.2.2⟩) (fun r U U' V V' h1 hal h2 h => ⟨h.1, h.2.elim fun B' q => ⟨B', q.1.mv h1 h2, q.2⟩⟩) ?_
  intro p e s m args below meth c s₁ X0 hexec hbytes hml hret hlk hnm hown hh0 W hP
  obtain ⟨rfl, hA, hB, hne, l1, l2, hp⟩ := hP
  have c1 : Steps p.tables e below (s₁.setTop (entryFrame m #[.ref b, .int (Int32.ofNat o), .ref d, .int (Int32.ofNat q), .int (Int32.ofNat len)] 7)) (s₁.setTop (mkF m 0 #[.val (.ref b), .val (.int (Int32.ofNat o)), .val (.ref d), .val (.int (Int32.ofNat q)), .val (.int (Int32.ofNat len)), .unset, .unset] [])) := entry rfl
  have hA0 := hA.1.mv X0.warmed.alike hh0
  have hB0 := hB.mv X0.warmed.alike hh0
  have a31 := hA.1.2.2.2
  have c2 : Steps p.tables e below (s₁.setTop (entryFrame m #[.ref b, .int (Int32.ofNat o), .ref d, .int (Int32.ofNat q), .int (Int32.ofNat len)] 7)) (s₁.setTop (mkF m 3 #[.val (.ref b), .val (.int (Int32.ofNat o)), .val (.ref d), .val (.int (Int32.ofNat q)), .val (.int (Int32.ofNat len)), .val (.int 0), .unset] [])) := c1.trans (by
    refine iconstV X0.here hexec rfl 0 (hb hbytes d0) (by decide) ?_
    refine XS.istore X0.here hexec rfl (hb hbytes d1) rfl rfl ?_
    exact Steps.refl _)
  have loop : ∀ (r i : Nat), i + r = len → ∀ (z : Slot), (z = .unset ∨ ∃ w, z = .val w ∧ w.category = 1) → ∀ (Tl : State) (Bk : Cell), Stand p l e { frames := 0, locals := 0, cells := 0, slots := 0 } s m #[.ref b, .int (Int32.ofNat o), .ref d, .int (Int32.ofNat q), .int (Int32.ofNat len)] below meth c Tl ([] ++ copyLocs d q i) 0 0 → Put d Bk s₁ Tl → Laid B Bk q (q + i) (fun j => Value.int (lo8 (cv A (o + (j - q))))) →
      Steps p.tables e below (s₁.setTop (entryFrame m #[.ref b, .int (Int32.ofNat o), .ref d, .int (Int32.ofNat q), .int (Int32.ofNat len)] 7)) (Tl.setTop (mkF m 3 #[.val (.ref b), .val (.int (Int32.ofNat (o + i))), .val (.ref d), .val (.int (Int32.ofNat (q + i))), .val (.int (Int32.ofNat len)), .val (.int (Int32.ofNat i)), z] [])) → ∃ (T' : State) (B' : Cell) (z' : Slot), Stand p l e { frames := 0, locals := 0, cells := 0, slots := 0 } s m #[.ref b, .int (Int32.ofNat o), .ref d, .int (Int32.ofNat q), .int (Int32.ofNat len)] below meth c T' ([] ++ copyLocs d q len) 0 0 ∧ Put d B' s₁ T' ∧ Laid B B' q (q + len) (fun j => Value.int (lo8 (cv A (o + (j - q))))) ∧
      Steps p.tables e below (s₁.setTop (entryFrame m #[.ref b, .int (Int32.ofNat o), .ref d, .int (Int32.ofNat q), .int (Int32.ofNat len)] 7)) (T'.setTop (mkF m 3 #[.val (.ref b), .val (.int (Int32.ofNat (o + len))), .val (.ref d), .val (.int (Int32.ofNat (q + len))), .val (.int (Int32.ofNat len)), .val (.int (Int32.ofNat len)), z'] [])) := by
    intro r
    induction r with
    | zero =>
      intro i hi z hz Tl Bk Xl pl fl cl
      have hil : i = len := by omega
      rw [hil] at Xl fl cl
      exact ⟨Tl, Bk, z, Xl, pl, fl, cl⟩
    | succ r ih =>
      intro i hi z hz Tl Bk Xl pl fl cl
      have all := X0.warmed.alike.symm.trans Xl.warmed.alike
      have hAl := hA0.keep all (pl.other hne hA0.1)
      have hBk := hB0.like all pl.1 fl.1 fl.2.1 fl.2.2.1
      have hlt : q + i < Bk.slots.size := by rw [fl.2.2.1]; omega
      have c3 : Steps p.tables e below (s₁.setTop (entryFrame m #[.ref b, .int (Int32.ofNat o), .ref d, .int (Int32.ofNat q), .int (Int32.ofNat len)] 7)) (Tl.setTop (mkF m 12 #[.val (.ref b), .val (.int (Int32.ofNat (o + i))), .val (.ref d), .val (.int (Int32.ofNat (q + i))), .val (.int (Int32.ofNat len)), .val (.int (Int32.ofNat i)), z] [.int (Int32.ofNat (o + i)), .ref b])) := cl.trans (by
        refine XS.iload Xl.here hexec rfl (hb hbytes d3) rfl ?_
        refine XS.iload Xl.here hexec rfl (hb hbytes d5) rfl ?_
        refine XS.icmpNo Xl.here hexec rfl (hb hbytes d7) rfl (ii_ge_f (lt32 (by omega) (by omega))) ?_
        refine XS.aloadN Xl.here hexec rfl (hb hbytes d10) rfl rfl ?_
        refine XS.iloadN Xl.here hexec rfl (hb hbytes d11) rfl ?_
        exact Steps.refl _)
      have c4 : Steps p.tables e below (s₁.setTop (entryFrame m #[.ref b, .int (Int32.ofNat o), .ref d, .int (Int32.ofNat q), .int (Int32.ofNat len)] 7)) (Tl.setTop (mkF m 13 #[.val (.ref b), .val (.int (Int32.ofNat (o + i))), .val (.ref d), .val (.int (Int32.ofNat (q + i))), .val (.int (Int32.ofNat len)), .val (.int (Int32.ofNat i)), z] [.int (cv A (o + i))])) := c3.trans (by
        refine Xl.aget hexec hAl rfl (hA.get (i := o + i) (by omega)) rfl rfl (hb hbytes d12) ?_
        exact Steps.refl _)
      have c5 : Steps p.tables e below (s₁.setTop (entryFrame m #[.ref b, .int (Int32.ofNat o), .ref d, .int (Int32.ofNat q), .int (Int32.ofNat len)] 7)) (Tl.setTop (mkF m 15 #[.val (.ref b), .val (.int (Int32.ofNat (o + i))), .val (.ref d), .val (.int (Int32.ofNat (q + i))), .val (.int (Int32.ofNat len)), .val (.int (Int32.ofNat i)), .val (.int (cv A (o + i)))] [])) := c4.trans (by
        refine XS.istoreS Xl.here hexec rfl (hb hbytes d13) rfl rfl hz ?_
        exact Steps.refl _)
      have c6 : Steps p.tables e below (s₁.setTop (entryFrame m #[.ref b, .int (Int32.ofNat o), .ref d, .int (Int32.ofNat q), .int (Int32.ofNat len)] 7)) (Tl.setTop (mkF m 31 #[.val (.ref b), .val (.int (Int32.ofNat (o + i))), .val (.ref d), .val (.int (Int32.ofNat (q + i))), .val (.int (Int32.ofNat len)), .val (.int (Int32.ofNat i)), .val (.int (cv A (o + i)))] [.int (lo8 (cv A (o + i))), .int (Int32.ofNat (q + i)), .ref d])) := c5.trans (by
        refine XS.iload Xl.here hexec rfl (hb hbytes d15) rfl ?_
        refine sipushV Xl.here hexec rfl 255 (hb hbytes d17) (by decide) ?_
        refine XS.icmpYes Xl.here hexec rfl (pc0 := 20) rfl (hb hbytes d20) rfl (ii_le_t (hp i (by omega))) (by decide) rfl ?_
        refine XS.aloadN Xl.here hexec rfl (hb hbytes d26) rfl rfl ?_
        refine XS.iloadN Xl.here hexec rfl (hb hbytes d27) rfl ?_
        refine XS.iload Xl.here hexec rfl (hb hbytes d28) rfl ?_
        refine i2b Xl.here hexec rfl (hb hbytes d30) rfl ?_
        exact Steps.refl _)
      obtain ⟨T7, X7, p7, st7⟩ := Xl.aput hexec hBk rfl hlt rfl (fits_lo8 (cv A (o + i))) (g := (mkF m 31 #[.val (.ref b), .val (.int (Int32.ofNat (o + i))), .val (.ref d), .val (.int (Int32.ofNat (q + i))), .val (.int (Int32.ofNat len)), .val (.int (Int32.ofNat i)), .val (.int (cv A (o + i)))] [.int (lo8 (cv A (o + i))), .int (Int32.ofNat (q + i)), .ref d])) rfl (rest := []) rfl (hb hbytes d31)
      have c8 : Steps p.tables e below (s₁.setTop (entryFrame m #[.ref b, .int (Int32.ofNat o), .ref d, .int (Int32.ofNat q), .int (Int32.ofNat len)] 7)) (T7.setTop (mkF m 32 #[.val (.ref b), .val (.int (Int32.ofNat (o + i))), .val (.ref d), .val (.int (Int32.ofNat (q + i))), .val (.int (Int32.ofNat len)), .val (.int (Int32.ofNat i)), .val (.int (cv A (o + i)))] [])) := c6.trans (st7 _ (Steps.refl _))
      have c9 : Steps p.tables e below (s₁.setTop (entryFrame m #[.ref b, .int (Int32.ofNat o), .ref d, .int (Int32.ofNat q), .int (Int32.ofNat len)] 7)) (T7.setTop (mkF m 3 #[.val (.ref b), .val (.int (Int32.ofNat (o + i) + 1)), .val (.ref d), .val (.int (Int32.ofNat (q + i) + 1)), .val (.int (Int32.ofNat len)), .val (.int (Int32.ofNat i + 1)), .val (.int (cv A (o + i)))] [])) := c8.trans (by
        refine iincV X7.here hexec rfl 1 (hb hbytes d32) (by decide) rfl rfl ?_
        refine iincV X7.here hexec rfl 1 (hb hbytes d35) (by decide) rfl rfl ?_
        refine iincV X7.here hexec rfl 1 (hb hbytes d38) (by decide) rfl rfl ?_
        refine XS.goto X7.here hexec rfl (pc0 := 41) rfl (hb hbytes d41) (by decide) rfl ?_
        exact Steps.refl _)
      have c10 : Steps p.tables e below (s₁.setTop (entryFrame m #[.ref b, .int (Int32.ofNat o), .ref d, .int (Int32.ofNat q), .int (Int32.ofNat len)] 7)) (T7.setTop (mkF m 3 #[.val (.ref b), .val (.int (Int32.ofNat (o + (i + 1)))), .val (.ref d), .val (.int (Int32.ofNat (q + (i + 1)))), .val (.int (Int32.ofNat len)), .val (.int (Int32.ofNat (i + 1))), .val (.int (cv A (o + i)))] [])) := by
        have := c9
        rw [succ32, succ32, succ32] at this
        exact this
      exact ih (i + 1) (by omega) _ (Or.inr ⟨_, rfl, rfl⟩) T7 _ (by rw [copyLocs_step, ← List.append_assoc]; exact X7) (pl.trans p7) (fl.step (by omega) hlt (by simp)) c10
  obtain ⟨T9, B9, z9, X9, p9, f9, g9⟩ := loop len 0 (by omega) .unset (Or.inl rfl) s₁ B (by simpa [copyLocs] using X0) ⟨hB0.1, fun _ _ => rfl, rfl⟩ (Laid.zero _ _ _) c2
  have c11 : Steps p.tables e below (s₁.setTop (entryFrame m #[.ref b, .int (Int32.ofNat o), .ref d, .int (Int32.ofNat q), .int (Int32.ofNat len)] 7)) (T9.setTop (mkF m 46 #[.val (.ref b), .val (.int (Int32.ofNat (o + len))), .val (.ref d), .val (.int (Int32.ofNat (q + len))), .val (.int (Int32.ofNat len)), .val (.int (Int32.ofNat len)), z9] [.int (Int32.ofNat len)])) := g9.trans (by
    refine XS.iload X9.here hexec rfl (hb hbytes d3) rfl ?_
    refine XS.iload X9.here hexec rfl (hb hbytes d5) rfl ?_
    refine XS.icmpYes X9.here hexec rfl (pc0 := 7) rfl (hb hbytes d7) rfl (ii_ge_t (nlt32 (by omega) (Nat.le_refl _))) (by decide) rfl ?_
    refine XS.iload X9.here hexec rfl (hb hbytes d44) rfl ?_
    exact Steps.refl _)
  exact ⟨T9, some (.int (Int32.ofNat len)), _, _, _, X9, by simp, rfl, rfl, (fun h => by cases h), ⟨rfl, B9, p9.from hh0, f9⟩, fun fs hl => c11.trans (X9.ireturnOut hexec hret rfl (Or.inl rfl) (hb hbytes d46) hl)⟩
end Cmp5
namespace Cmp3
def yN : MethodName := ⟨"java/lang/StringUTF16", "compress", "([CII)[B"⟩
abbrev yB : ByteArray := jdk_52_method_16_code
theorem d0 : decode yB 0 = .ok (.iload_n 2, 1) := by decide +kernel
theorem d1 : decode yB 1 = .ok (.newarray .byte, 2) := by decide +kernel
theorem d3 : decode yB 3 = .ok (.astore_n 3, 1) := by decide +kernel
theorem d4 : decode yB 4 = .ok (.aload_n 0, 1) := by decide +kernel
theorem d5 : decode yB 5 = .ok (.iload_n 1, 1) := by decide +kernel
theorem d6 : decode yB 6 = .ok (.aload_n 3, 1) := by decide +kernel
theorem d7 : decode yB 7 = .ok (.iconst 0, 1) := by decide +kernel
theorem d8 : decode yB 8 = .ok (.iload_n 2, 1) := by decide +kernel
theorem d9 : decode yB 9 = .ok (.invokestatic 115, 3) := by decide +kernel
theorem d12 : decode yB 12 = .ok (.istore 4, 2) := by decide +kernel
theorem d14 : decode yB 14 = .ok (.iload 4, 2) := by decide +kernel
theorem d16 : decode yB 16 = .ok (.iload_n 2, 1) := by decide +kernel
theorem d17 : decode yB 17 = .ok (.if_icmp (.eq) 40, 3) := by decide +kernel
theorem d57 : decode yB 57 = .ok (.aload_n 3, 1) := by decide +kernel
theorem d58 : decode yB 58 = .ok (.areturn, 1) := by decide +kernel
def site : List Cond := [.arrayClass .byte, Cmp5.tab] ++ staticW U16 115 Cmp5.yN
def tab : Cond := tabOf yN yB 6 (some (.array .byte)) site
def P (b : Addr) (A : Cell) (o len : Nat) (args : Array Value) (s : State) : Prop := args = #[.ref b, .int (Int32.ofNat o), .int (Int32.ofNat len)] ∧ Ch b A s ∧ o + len ≤ A.slots.size ∧ len ≤ 536870912 ∧ ∀ i, i < len → ¬ 255 < cv A (o + i)
def E (b : Addr) (A : Cell) (o len : Nat) (r : Option Value) (s u : State) : Prop := NewArr .byte "[B" len (fun j => .int (lo8 (cv A (o + j)))) r s u ∧ u.heap.size = s.heap.size + 1
/-- no char of the range above 255: a new byte[] of their low bytes -/
theorem law (l : Launch) (b : Addr) (A : Cell) (o len : Nat) : Law l yN 3 3 1 18 yB 6 (some (.array .byte)) site (P b A o len) (E b A o len) [] 1 len := by
  refine Law.of_walk (plainFor_of_name (by decide +kernel)) (by decide +kernel) (by decide +kernel) (by decide) (fun _ _ h => by rw [h.1]; rfl) (fun _ U U' hal hh h => ⟨h.1, h.2.1.mv hal hh, h.2.2⟩) (fun r U U' V V' h1 hal h2 h => ⟨NewArr.mv r U U' V V' h1 hal h2 h.1, by rw [h1, h2]; exact h.2⟩) ?_
  intro p e s m args below meth c s₁ X0 hexec hbytes hml hret hlk hnm hown hh0 W hP
  obtain ⟨rfl, hA, l1, l2, hp⟩ := hP
  have a31 := hA.1.2.2.2
  have c1 : Steps p.tables e below (s₁.setTop (entryFrame m #[.ref b, .int (Int32.ofNat o), .int (Int32.ofNat len)] 6)) (s₁.setTop (mkF m 0 #[.val (.ref b), .val (.int (Int32.ofNat o)), .val (.int (Int32.ofNat len)), .unset, .unset, .unset] [])) := entry rfl
  have c2 : Steps p.tables e below (s₁.setTop (entryFrame m #[.ref b, .int (Int32.ofNat o), .int (Int32.ofNat len)] 6)) (s₁.setTop (mkF m 1 #[.val (.ref b), .val (.int (Int32.ofNat o)), .val (.int (Int32.ofNat len)), .unset, .unset, .unset] [.int (Int32.ofNat len)])) := c1.trans (by
    refine XS.iloadN X0.here hexec rfl (hb hbytes d0) rfl ?_
    exact Steps.refl _)
  obtain ⟨T3, B3, X3, ba3, bs3, bv3, bh3, bf3, st3⟩ := X0.anew hexec (atype := .byte) (wk W (.arrayClass .byte)) rfl (by show len * 1 ≤ _; omega) (by omega) (g := (mkF m 1 #[.val (.ref b), .val (.int (Int32.ofNat o)), .val (.int (Int32.ofNat len)), .unset, .unset, .unset] [.int (Int32.ofNat len)])) rfl (hb hbytes d1) (rest := []) rfl (Nat.le_refl _) (by show 0 + len ≤ len; omega)
  rw [hh0] at ba3 st3
  have kp3 : XT.Kept s T3 := (XT.Kept.of_eq hh0).push bh3
  have hA3 := hA.keep X3.warmed.alike (kp3 _ _ hA.1.1)
  have hne : b ≠ s.heap.size := hA.1.ne
  have c4 : Steps p.tables e below (s₁.setTop (entryFrame m #[.ref b, .int (Int32.ofNat o), .int (Int32.ofNat len)] 6)) (T3.setTop (mkF m 3 #[.val (.ref b), .val (.int (Int32.ofNat o)), .val (.int (Int32.ofNat len)), .unset, .unset, .unset] [.ref s.heap.size])) := c2.trans (st3 _ (Steps.refl _))
  have c5 : Steps p.tables e below (s₁.setTop (entryFrame m #[.ref b, .int (Int32.ofNat o), .int (Int32.ofNat len)] 6)) (T3.setTop (mkF m 9 #[.val (.ref b), .val (.int (Int32.ofNat o)), .val (.int (Int32.ofNat len)), .val (.ref s.heap.size), .unset, .unset] [.int (Int32.ofNat len), .int 0, .ref s.heap.size, .int (Int32.ofNat o), .ref b])) := c4.trans (by
    refine XS.astoreN X3.here hexec rfl (hb hbytes d3) rfl rfl rfl ?_
    refine XS.aloadN X3.here hexec rfl (hb hbytes d4) rfl rfl ?_
    refine XS.iloadN X3.here hexec rfl (hb hbytes d5) rfl ?_
    refine XS.aloadN X3.here hexec rfl (hb hbytes d6) rfl rfl ?_
    refine iconstV X3.here hexec rfl 0 (hb hbytes d7) (by decide) ?_
    refine XS.iloadN X3.here hexec rfl (hb hbytes d8) rfl ?_
    exact Steps.refl _)
  obtain ⟨v6, T6, X6, E6, g6⟩ := X3.callS hexec (Cmp5.law l b A s.heap.size B3 o 0 len) hown (wks W (staticW U16 115 Cmp5.yN)) (wk W Cmp5.tab) (W := 0) (Nat.le_of_ble_eq_true rfl) (Nat.le_of_ble_eq_true rfl) (Nat.le_refl _) (by show 0 + len + 0 ≤ len; omega) (g := (mkF m 9 #[.val (.ref b), .val (.int (Int32.ofNat o)), .val (.int (Int32.ofNat len)), .val (.ref s.heap.size), .unset, .unset] [.int (Int32.ofNat len), .int (Int32.ofNat 0), .ref s.heap.size, .int (Int32.ofNat o), .ref b])) rfl (by rw [hml]; rfl) c5 (argsL := [.ref b, .int (Int32.ofNat o), .ref s.heap.size, .int (Int32.ofNat 0), .int (Int32.ofNat len)]) (rest := []) rfl rfl (by show 2 * 0 + 0 ≤ _; decide) (hb hbytes d9) (⟨rfl, hA3, ba3, hne, l1, by rw [bs3]; simp, hp⟩)
  obtain ⟨rfl, B6, p6, f6⟩ := E6
  have c7 : Steps p.tables e below (s₁.setTop (entryFrame m #[.ref b, .int (Int32.ofNat o), .int (Int32.ofNat len)] 6)) (T6.setTop (mkF m 12 #[.val (.ref b), .val (.int (Int32.ofNat o)), .val (.int (Int32.ofNat len)), .val (.ref s.heap.size), .unset, .unset] [.int (Int32.ofNat len)])) := g6
  have c8 : Steps p.tables e below (s₁.setTop (entryFrame m #[.ref b, .int (Int32.ofNat o), .int (Int32.ofNat len)] 6)) (T6.setTop (mkF m 58 #[.val (.ref b), .val (.int (Int32.ofNat o)), .val (.int (Int32.ofNat len)), .val (.ref s.heap.size), .val (.int (Int32.ofNat len)), .unset] [.ref s.heap.size])) := c7.trans (by
    refine XS.istore X6.here hexec rfl (hb hbytes d12) rfl rfl ?_
    refine XS.iload X6.here hexec rfl (hb hbytes d14) rfl ?_
    refine XS.iloadN X6.here hexec rfl (hb hbytes d16) rfl ?_
    refine XS.icmpYes X6.here hexec rfl (pc0 := 17) rfl (hb hbytes d17) rfl (ii_eq_t rfl) (by decide) rfl ?_
    refine XS.aloadN X6.here hexec rfl (hb hbytes d57) rfl rfl ?_
    exact Steps.refl _)
  have X8 := X6.wide (L' := []) (cells' := 1) (slots' := len) (fun x hx hlt => by
    simp only [List.nil_append, copyLocs, List.mem_map, List.mem_range] at hx
    obtain ⟨i, -, rfl⟩ := hx
    exact absurd hlt (Nat.lt_irrefl _)) (Nat.le_refl _) (by omega)
  exact ⟨T6, some (.ref s.heap.size), _, _, _, X8, rfl, rfl, rfl, (fun h => by cases h), ⟨⟨rfl, B6, ba3.like (X3.warmed.alike.symm.trans X6.warmed.alike) p6.1 f6.1 f6.2.1 f6.2.2.1, f6.2.1.trans bv3, by rw [X6.warmed.alike.findClass, f6.1]; exact bf3, by rw [f6.2.2.1, bs3]; simp, fun j hj => by rw [f6.2.2.2 j, if_pos (by omega)]; rfl, kp3.put p6 (Nat.le_refl _)⟩, by rw [p6.2.2, bh3, hh0]; simp⟩, fun fs hl => c8.trans (X8.areturnOut hexec rfl hret rfl (hb hbytes d58) hl)⟩
end Cmp3
namespace CodL
def yN : MethodName := ⟨"java/lang/StringUTF16", "coderFromArrayLen", "([BI)B"⟩
abbrev yB : ByteArray := jdk_52_method_15_code
theorem d0 : decode yB 0 = .ok (.iload_n 1, 1) := by decide +kernel
theorem d1 : decode yB 1 = .ok (.aload_n 0, 1) := by decide +kernel
theorem d2 : decode yB 2 = .ok (.arraylength, 1) := by decide +kernel
theorem d3 : decode yB 3 = .ok (.isub, 1) := by decide +kernel
theorem d4 : decode yB 4 = .ok (.bipush 31, 2) := by decide +kernel
theorem d6 : decode yB 6 = .ok (.iushr, 1) := by decide +kernel
theorem d7 : decode yB 7 = .ok (.i2b, 1) := by decide +kernel
theorem d8 : decode yB 8 = .ok (.ireturn, 1) := by decide +kernel
def site : List Cond := []
def tab : Cond := tabOf yN yB 2 (some .byte) site
def P (d : Addr) (B : Cell) (args : Array Value) (s : State) : Prop := args = #[.ref d, .int (Int32.ofNat B.slots.size)] ∧ Arr .byte d B s
def E (r : Option Value) (s u : State) : Prop := XT.PureE (some (.int 0)) r s u
/-- an array as long as the number of chars: LATIN1 -/
theorem law (l : Launch) (d : Addr) (B : Cell) : Law l yN 2 2 0 0 yB 2 (some .byte) site (P d B) E [] 0 0 := by
  refine Law.of_walk (plainFor_of_name (by decide +kernel)) (by decide +kernel) (by decide +kernel) (by decide) (fun _ _ h => by rw [h.1]; rfl) (fun _ U U' hal hh h => ⟨h.1, h.2.mv hal hh⟩) (fun r U U' V V' h1 hal h2 h => XT.PureE.mv r U U' V V' h1 hal h2 h) ?_
  intro p e s m args below meth c s₁ X0 hexec hbytes hml hret hlk hnm hown hh0 W hP
  obtain ⟨rfl, hB⟩ := hP
  have hB0 := hB.mv X0.warmed.alike hh0
  have c1 : Steps p.tables e below (s₁.setTop (entryFrame m #[.ref d, .int (Int32.ofNat B.slots.size)] 2)) (s₁.setTop (mkF m 0 #[.val (.ref d), .val (.int (Int32.ofNat B.slots.size))] [])) := entry rfl
  have c2 : Steps p.tables e below (s₁.setTop (entryFrame m #[.ref d, .int (Int32.ofNat B.slots.size)] 2)) (s₁.setTop (mkF m 2 #[.val (.ref d), .val (.int (Int32.ofNat B.slots.size))] [.ref d, .int (Int32.ofNat B.slots.size)])) := c1.trans (by
    refine XS.iloadN X0.here hexec rfl (hb hbytes d0) rfl ?_
    refine XS.aloadN X0.here hexec rfl (hb hbytes d1) rfl rfl ?_
    exact Steps.refl _)
  have c3 : Steps p.tables e below (s₁.setTop (entryFrame m #[.ref d, .int (Int32.ofNat B.slots.size)] 2)) (s₁.setTop (mkF m 8 #[.val (.ref d), .val (.int (Int32.ofNat B.slots.size))] [.int (lo8 (ushr (Int32.ofNat B.slots.size - Int32.ofNat B.slots.size) 31))])) := c2.trans (by
    refine X0.alen hexec hB0 rfl rfl (hb hbytes d2) ?_
    refine XS.isub X0.here hexec rfl (hb hbytes d3) rfl ?_
    refine bipushV X0.here hexec rfl 31 (hb hbytes d4) (by decide) ?_
    refine iushr X0.here hexec rfl (hb hbytes d6) rfl ?_
    refine i2b X0.here hexec rfl (hb hbytes d7) rfl ?_
    exact Steps.refl _)
  have e0 : lo8 (ushr (Int32.ofNat B.slots.size - Int32.ofNat B.slots.size) 31) = 0 := by rw [Int32.sub_self]; decide
  rw [e0] at c3
  exact ⟨s₁, some (.int 0), _, _, _, X0, rfl, rfl, rfl, (fun h => by cases h), ⟨rfl, hh0⟩, fun fs hl => c3.trans (X0.ireturnOut hexec hret rfl (Or.inr (Or.inr (Or.inl rfl))) (hb hbytes d8) hl)⟩
end CodL
/-- the String at a is Latin-1 over a new byte[] (the heap's one new cell): the low bytes of the len chars of A from o on; every cell but a is kept -/
def Got (a : Addr) (D : Cell) (fV fC : Field) (A : Cell) (o len : Nat) (r : Option Value) (s u : State) : Prop := r = none ∧ ∃ D' V : Cell, Blank "java/lang/String" a D' u ∧ Same D D' [fV.slot, fC.slot] ∧ D'.slots[fV.slot]? = some (.ref s.heap.size) ∧ D'.slots[fC.slot]? = some (.int 0) ∧ Arr .byte s.heap.size V u ∧ V.vm = .none ∧ u.vm.findClass "[B" = some V.cls ∧ V.slots.size = len ∧ (∀ j, j < len → V.slots[j]? = some (.int (lo8 (cv A (o + j))))) ∧ (∀ (y : Addr) (c : Cell), y ≠ a → s.heap[y]? = some c → u.heap[y]? = some c) ∧ u.heap.size = s.heap.size + 1
theorem Got.mv {a : Addr} {D A : Cell} {fV fC : Field} {o len : Nat} : ∀ r (U U' V V' : State), U'.heap = U.heap → V.vm.Alike V'.vm → V'.heap = V.heap → Got a D fV fC A o len r U V → Got a D fV fC A o len r U' V' :=
  fun r U U' V V' h1 hal h2 ⟨e0, D', X, a1, a2, a3, a4, a5, a6, a7, a8, a9, a10, a11⟩ => ⟨e0, D', X, a1.mv hal h2, a2, by rw [h1]; exact a3, a4, by rw [h1]; exact a5.mv hal h2, a6, by rw [hal.findClass]; exact a7, a8, a9, by rw [h1, h2]; exact a10, by rw [h1, h2]; exact a11⟩
namespace New4
def yN : MethodName := ⟨"java/lang/String", "<init>", "([CIILjava/lang/Void;)V"⟩
abbrev yB : ByteArray := jdk_42_method_149_code
theorem d0 : decode yB 0 = .ok (.aload_n 0, 1) := by decide +kernel
theorem d1 : decode yB 1 = .ok (.invokespecial 1, 3) := by decide +kernel
theorem d4 : decode yB 4 = .ok (.iload_n 3, 1) := by decide +kernel
theorem d5 : decode yB 5 = .ok (.ifCond (.ne) 22, 3) := by decide +kernel
theorem d27 : decode yB 27 = .ok (.getstatic 38, 3) := by decide +kernel
theorem d30 : decode yB 30 = .ok (.ifCond (.eq) 28, 3) := by decide +kernel
theorem d33 : decode yB 33 = .ok (.aload_n 1, 1) := by decide +kernel
theorem d34 : decode yB 34 = .ok (.iload_n 2, 1) := by decide +kernel
theorem d35 : decode yB 35 = .ok (.iload_n 3, 1) := by decide +kernel
theorem d36 : decode yB 36 = .ok (.invokestatic 177, 3) := by decide +kernel
theorem d39 : decode yB 39 = .ok (.astore 5, 2) := by decide +kernel
theorem d41 : decode yB 41 = .ok (.aload_n 0, 1) := by decide +kernel
theorem d42 : decode yB 42 = .ok (.aload 5, 2) := by decide +kernel
theorem d44 : decode yB 44 = .ok (.iload_n 3, 1) := by decide +kernel
theorem d45 : decode yB 45 = .ok (.invokestatic 47, 3) := by decide +kernel
theorem d48 : decode yB 48 = .ok (.putfield 15, 3) := by decide +kernel
theorem d51 : decode yB 51 = .ok (.aload_n 0, 1) := by decide +kernel
theorem d52 : decode yB 52 = .ok (.aload 5, 2) := by decide +kernel
theorem d54 : decode yB 54 = .ok (.putfield 9, 3) := by decide +kernel
theorem d57 : decode yB 57 = .ok (.return_, 1) := by decide +kernel
def site : List Cond := [.fieldLink "java/lang/String" 38 "java/lang/String" "COMPACT_STRINGS" "Z", Cmp3.tab, CodL.tab, .laysFinal "java/lang/String" "java/lang/String" "value" "[B", .fieldLink "java/lang/String" 9 "java/lang/String" "value" "[B", .laysFinal "java/lang/String" "java/lang/String" "coder" "B", .fieldLink "java/lang/String" 15 "java/lang/String" "coder" "B"] ++ objW "java/lang/String" 1 ++ staticW "java/lang/String" 177 Cmp3.yN ++ staticW "java/lang/String" 47 CodL.yN
def tab : Cond := tabOf yN yB 6 none site
def P (a : Addr) (D : Cell) (fV fC : Field) (b : Addr) (A : Cell) (z : Int32) (o len : Nat) (args : Array Value) (s : State) : Prop := args = #[.ref a, .ref b, .int (Int32.ofNat o), .int (Int32.ofNat len), .null] ∧ Blank "java/lang/String" a D s ∧ Found "java/lang/String" "value" "[B" fV s ∧ Found "java/lang/String" "coder" "B" fC s ∧ Ch b A s ∧ StaticIs s "java/lang/String" "COMPACT_STRINGS" "Z" (.int z) ∧ ¬ z = 0 ∧ 0 < len ∧ o + len ≤ A.slots.size ∧ len ≤ 536870912 ∧ ∀ i, i < len → ¬ 255 < cv A (o + i)
def E (a : Addr) (D : Cell) (fV fC : Field) (A : Cell) (o len : Nat) (r : Option Value) (s u : State) : Prop := Got a D fV fC A o len r s u
/-- len > 0, no char of the range above 255: a Latin-1 String of their low bytes -/
theorem law (l : Launch) (a : Addr) (D : Cell) (fV fC : Field) (b : Addr) (A : Cell) (z : Int32) (o len : Nat) : Law l yN 5 4 2 35 yB 6 none site (P a D fV fC b A z o len) (E a D fV fC A o len) [⟨a, fC.slot⟩, ⟨a, fV.slot⟩] 1 len := by
  refine Law.of_walk (plainFor_of_name (by decide +kernel)) (by decide +kernel) (by decide +kernel) (by decide) (fun _ _ h => by rw [h.1]; rfl) (fun _ U U' hal hh h => ⟨h.1, h.2.1.mv hal hh, h.2.2.1.al hal, h.2.2.2.1.al hal, h.2.2.2.2.1.mv hal hh, h.2.2.2.2.2.1.there hal hh, h.2.2.2.2.2.2⟩) (fun r U U' V V' h1 hal h2 h => Got.mv r U U' V V' h1 hal h2 h) ?_
  intro p e s m args below meth c s₁ X0 hexec hbytes hml hret hlk hnm hown hh0 W hP
  obtain ⟨rfl, hB, f1, f2, hA, s1, hz, l0, l1, l2, hp⟩ := hP
  have a31 := hA.1.2.2.2
  have c1 : Steps p.tables e below (s₁.setTop (entryFrame m #[.ref a, .ref b, .int (Int32.ofNat o), .int (Int32.ofNat len), .null] 6)) (s₁.setTop (mkF m 0 #[.val (.ref a), .val (.ref b), .val (.int (Int32.ofNat o)), .val (.int (Int32.ofNat len)), .val .null, .unset] [])) := entry rfl
  have c2 : Steps p.tables e below (s₁.setTop (entryFrame m #[.ref a, .ref b, .int (Int32.ofNat o), .int (Int32.ofNat len), .null] 6)) (s₁.setTop (mkF m 1 #[.val (.ref a), .val (.ref b), .val (.int (Int32.ofNat o)), .val (.int (Int32.ofNat len)), .val .null, .unset] [.ref a])) := c1.trans (by
    refine XS.aloadN X0.here hexec rfl (hb hbytes d0) rfl rfl ?_
    exact Steps.refl _)
  obtain ⟨T3, X3, q3, st3⟩ := X0.oinit hexec hown (wks W (objW "java/lang/String" 1)) (g := (mkF m 1 #[.val (.ref a), .val (.ref b), .val (.int (Int32.ofNat o)), .val (.int (Int32.ofNat len)), .val .null, .unset] [.ref a])) rfl (by rw [hml]; rfl) (rest := []) rfl (hb hbytes d1) (W := 0) (by show 2 * 0 + 0 ≤ _; decide) (Nat.le_of_ble_eq_true rfl) (Nat.le_of_ble_eq_true rfl)
  have hh3 := q3.trans hh0
  have c4 : Steps p.tables e below (s₁.setTop (entryFrame m #[.ref a, .ref b, .int (Int32.ofNat o), .int (Int32.ofNat len), .null] 6)) (T3.setTop (mkF m 27 #[.val (.ref a), .val (.ref b), .val (.int (Int32.ofNat o)), .val (.int (Int32.ofNat len)), .val .null, .unset] [])) := (c2.trans (st3 _ (Steps.refl _))).trans (by
    refine XS.iloadN X3.here hexec rfl (hb hbytes d4) rfl ?_
    refine XS.ifYes X3.here hexec rfl (pc0 := 5) rfl (hb hbytes d5) rfl (i0_ne_t (nz32 (by omega) l0)) (by decide) rfl ?_
    exact Steps.refl _)
  obtain ⟨T5, X5, q5, st5⟩ := X3.sget hexec hown (wk W (.fieldLink "java/lang/String" 38 "java/lang/String" "COMPACT_STRINGS" "Z")) s1 (fun _ _ h => by rw [hh3]; exact h) (g := (mkF m 27 #[.val (.ref a), .val (.ref b), .val (.int (Int32.ofNat o)), .val (.int (Int32.ofNat len)), .val .null, .unset] [])) rfl (hb hbytes d27)
  have hh5 := q5.trans hh3
  have c6 : Steps p.tables e below (s₁.setTop (entryFrame m #[.ref a, .ref b, .int (Int32.ofNat o), .int (Int32.ofNat len), .null] 6)) (T5.setTop (mkF m 30 #[.val (.ref a), .val (.ref b), .val (.int (Int32.ofNat o)), .val (.int (Int32.ofNat len)), .val .null, .unset] [.int z])) := c4.trans (st5 _ (Steps.refl _))
  have c7 : Steps p.tables e below (s₁.setTop (entryFrame m #[.ref a, .ref b, .int (Int32.ofNat o), .int (Int32.ofNat len), .null] 6)) (T5.setTop (mkF m 36 #[.val (.ref a), .val (.ref b), .val (.int (Int32.ofNat o)), .val (.int (Int32.ofNat len)), .val .null, .unset] [.int (Int32.ofNat len), .int (Int32.ofNat o), .ref b])) := c6.trans (by
    refine XS.ifNo X5.here hexec rfl (hb hbytes d30) rfl (i0_eq_f hz) ?_
    refine XS.aloadN X5.here hexec rfl (hb hbytes d33) rfl rfl ?_
    refine XS.iloadN X5.here hexec rfl (hb hbytes d34) rfl ?_
    refine XS.iloadN X5.here hexec rfl (hb hbytes d35) rfl ?_
    exact Steps.refl _)
  obtain ⟨v8, T8, X8, E8, g8⟩ := X5.callS hexec (Cmp3.law l b A o len) hown (wks W (staticW "java/lang/String" 177 Cmp3.yN)) (wk W Cmp3.tab) (W := 0) (Nat.le_of_ble_eq_true rfl) (Nat.le_of_ble_eq_true rfl) (Nat.le_refl _) (by show 0 + len ≤ len; omega) (g := (mkF m 36 #[.val (.ref a), .val (.ref b), .val (.int (Int32.ofNat o)), .val (.int (Int32.ofNat len)), .val .null, .unset] [.int (Int32.ofNat len), .int (Int32.ofNat o), .ref b])) rfl (by rw [hml]; rfl) c7 (argsL := [.ref b, .int (Int32.ofNat o), .int (Int32.ofNat len)]) (rest := []) rfl rfl (by show 2 * 0 + 0 ≤ _; decide) (hb hbytes d36) (⟨rfl, hA.mv X5.warmed.alike hh5, l1, l2, hp⟩)
  obtain ⟨e8, z8⟩ := E8
  obtain ⟨rfl, N, n1, n2, n3, n4, n5, n6⟩ := NewArr.mv _ T5 s _ _ hh5.symm (Vm.Alike.refl _) rfl e8
  rw [hh5] at z8
  have hB1 := hB.keep X8.warmed.alike (n6 _ _ hB.1)
  have hne : s.heap.size ≠ a := (Nat.ne_of_lt (Array.getElem?_eq_some_iff.mp hB.1).1).symm
  have c9 : Steps p.tables e below (s₁.setTop (entryFrame m #[.ref a, .ref b, .int (Int32.ofNat o), .int (Int32.ofNat len), .null] 6)) (T8.setTop (mkF m 39 #[.val (.ref a), .val (.ref b), .val (.int (Int32.ofNat o)), .val (.int (Int32.ofNat len)), .val .null, .unset] [.ref s.heap.size])) := g8
  have c10 : Steps p.tables e below (s₁.setTop (entryFrame m #[.ref a, .ref b, .int (Int32.ofNat o), .int (Int32.ofNat len), .null] 6)) (T8.setTop (mkF m 45 #[.val (.ref a), .val (.ref b), .val (.int (Int32.ofNat o)), .val (.int (Int32.ofNat len)), .val .null, .val (.ref s.heap.size)] [.int (Int32.ofNat N.slots.size), .ref s.heap.size, .ref a])) := by
    have hc : Steps p.tables e below (s₁.setTop (entryFrame m #[.ref a, .ref b, .int (Int32.ofNat o), .int (Int32.ofNat len), .null] 6)) (T8.setTop (mkF m 45 #[.val (.ref a), .val (.ref b), .val (.int (Int32.ofNat o)), .val (.int (Int32.ofNat len)), .val .null, .val (.ref s.heap.size)] [.int (Int32.ofNat len), .ref s.heap.size, .ref a])) := c9.trans (by
      refine XS.astore X8.here hexec rfl (hb hbytes d39) rfl rfl rfl ?_
      refine XS.aloadN X8.here hexec rfl (hb hbytes d41) rfl rfl ?_
      refine XS.aload X8.here hexec rfl (hb hbytes d42) rfl rfl ?_
      refine XS.iloadN X8.here hexec rfl (hb hbytes d44) rfl ?_
      exact Steps.refl _)
    rw [n4]; exact hc
  obtain ⟨v11, T11, X11, E11, g11⟩ := X8.callS hexec (CodL.law l s.heap.size N) hown (wks W (staticW "java/lang/String" 47 CodL.yN)) (wk W CodL.tab) (W := 1) (Nat.le_of_ble_eq_true rfl) (Nat.le_of_ble_eq_true rfl) (Nat.le_refl _) (by show 0 + len + 0 ≤ len; omega) (g := (mkF m 45 #[.val (.ref a), .val (.ref b), .val (.int (Int32.ofNat o)), .val (.int (Int32.ofNat len)), .val .null, .val (.ref s.heap.size)] [.int (Int32.ofNat N.slots.size), .ref s.heap.size, .ref a])) rfl (by rw [hml]; rfl) c10 (argsL := [.ref s.heap.size, .int (Int32.ofNat N.slots.size)]) (rest := [.ref a]) rfl rfl (by show 2 * 0 + (1 + 0) ≤ _; decide) (hb hbytes d45) (⟨rfl, n1⟩)
  obtain ⟨rfl, q11⟩ := E11
  have hB11 := hB1.mv (X8.warmed.alike.symm.trans X11.warmed.alike) q11
  have c12 : Steps p.tables e below (s₁.setTop (entryFrame m #[.ref a, .ref b, .int (Int32.ofNat o), .int (Int32.ofNat len), .null] 6)) (T11.setTop (mkF m 48 #[.val (.ref a), .val (.ref b), .val (.int (Int32.ofNat o)), .val (.int (Int32.ofNat len)), .val .null, .val (.ref s.heap.size)] [.int 0, .ref a])) := g11
  obtain ⟨T13, X13, p13, bl13, sl13, st13⟩ := X11.finit hexec hown (wk W (.fieldLink "java/lang/String" 15 "java/lang/String" "coder" "B")) (Or.inr ⟨_, (wk W (.laysFinal "java/lang/String" "java/lang/String" "coder" "B"))⟩) (Or.inl ⟨rfl, hnm⟩) f2 (Or.inl rfl) hB11 (t := .byte) (by decide +kernel) rfl (g := (mkF m 48 #[.val (.ref a), .val (.ref b), .val (.int (Int32.ofNat o)), .val (.int (Int32.ofNat len)), .val .null, .val (.ref s.heap.size)] [.int 0, .ref a])) rfl (rest := []) rfl (hb hbytes d48)
  have c14 : Steps p.tables e below (s₁.setTop (entryFrame m #[.ref a, .ref b, .int (Int32.ofNat o), .int (Int32.ofNat len), .null] 6)) (T13.setTop (mkF m 54 #[.val (.ref a), .val (.ref b), .val (.int (Int32.ofNat o)), .val (.int (Int32.ofNat len)), .val .null, .val (.ref s.heap.size)] [.ref s.heap.size, .ref a])) := (c12.trans (st13 _ (Steps.refl _))).trans (by
    refine XS.aloadN X13.here hexec rfl (hb hbytes d51) rfl rfl ?_
    refine XS.aload X13.here hexec rfl (hb hbytes d52) rfl rfl ?_
    exact Steps.refl _)
  obtain ⟨T15, X15, p15, bl15, sl15, st15⟩ := X13.finit hexec hown (wk W (.fieldLink "java/lang/String" 9 "java/lang/String" "value" "[B")) (Or.inr ⟨_, (wk W (.laysFinal "java/lang/String" "java/lang/String" "value" "[B"))⟩) (Or.inl ⟨rfl, hnm⟩) f1 (Or.inl rfl) bl13 (t := (.array .byte)) (by decide +kernel) rfl (g := (mkF m 54 #[.val (.ref a), .val (.ref b), .val (.int (Int32.ofNat o)), .val (.int (Int32.ofNat len)), .val .null, .val (.ref s.heap.size)] [.ref s.heap.size, .ref a])) rfl (rest := []) rfl (hb hbytes d54)
  have c16 : Steps p.tables e below (s₁.setTop (entryFrame m #[.ref a, .ref b, .int (Int32.ofNat o), .int (Int32.ofNat len), .null] 6)) (T15.setTop (mkF m 57 #[.val (.ref a), .val (.ref b), .val (.int (Int32.ofNat o)), .val (.int (Int32.ofNat len)), .val .null, .val (.ref s.heap.size)] [])) := c14.trans (st15 _ (Steps.refl _))
  have ap := apart (Or.inr ⟨_, (wk W (.laysFinal "java/lang/String" "java/lang/String" "value" "[B"))⟩) (Or.inr ⟨_, (wk W (.laysFinal "java/lang/String" "java/lang/String" "coder" "B"))⟩) f1 f2 (t₁ := .array .byte) (t₂ := .byte) (by decide +kernel) (by decide +kernel) (by decide)
  have al := X8.warmed.alike.symm.trans X15.warmed.alike
  have n7 : T11.heap[s.heap.size]? = some N := by rw [q11]; exact n1.1
  exact ⟨T15, none, _, _, _, X15, by simp, rfl, by omega, (fun _ => rfl), ⟨rfl, _, N, bl15, ((Same.refl D _).set _ (by simp)).set _ (by simp), sl15, (Cell.slots_setSlot_ne _ ap).trans sl13, n1.keep al (p15.other hne (p13.other hne n7)), n2, by rw [al.findClass]; exact n3, n4, n5, fun y c h1 h2 => p15.other h1 (p13.other h1 (by rw [q11]; exact n6 y c h2)), by rw [p15.2.2, p13.2.2, q11]; exact z8⟩, fun fs hl => c16.trans (X15.returnOut hexec hret (hb hbytes d57) hl)⟩
end New4
namespace New1
def yN : MethodName := ⟨"java/lang/String", "<init>", "([C)V"⟩
abbrev yB : ByteArray := jdk_42_method_3_code
theorem d0 : decode yB 0 = .ok (.aload_n 0, 1) := by decide +kernel
theorem d1 : decode yB 1 = .ok (.aload_n 1, 1) := by decide +kernel
theorem d2 : decode yB 2 = .ok (.iconst 0, 1) := by decide +kernel
theorem d3 : decode yB 3 = .ok (.aload_n 1, 1) := by decide +kernel
theorem d4 : decode yB 4 = .ok (.arraylength, 1) := by decide +kernel
theorem d5 : decode yB 5 = .ok (.aconst_null, 1) := by decide +kernel
theorem d6 : decode yB 6 = .ok (.invokespecial 27, 3) := by decide +kernel
theorem d9 : decode yB 9 = .ok (.return_, 1) := by decide +kernel
def site : List Cond := [New4.tab] ++ initW "java/lang/String" 27 New4.yN
def tab : Cond := tabOf yN yB 2 none site
def P (a : Addr) (D : Cell) (fV fC : Field) (b : Addr) (A : Cell) (z : Int32) (args : Array Value) (s : State) : Prop := args = #[.ref a, .ref b] ∧ Blank "java/lang/String" a D s ∧ Found "java/lang/String" "value" "[B" fV s ∧ Found "java/lang/String" "coder" "B" fC s ∧ Ch b A s ∧ StaticIs s "java/lang/String" "COMPACT_STRINGS" "Z" (.int z) ∧ ¬ z = 0 ∧ 0 < A.slots.size ∧ A.slots.size ≤ 536870912 ∧ ∀ i, i < A.slots.size → ¬ 255 < cv A i
def E (a : Addr) (D : Cell) (fV fC : Field) (A : Cell) (r : Option Value) (s u : State) : Prop := Got a D fV fC A 0 A.slots.size r s u
/-- new String(chars), not empty, no char above 255: a Latin-1 String of their low bytes -/
theorem law (l : Launch) (a : Addr) (D : Cell) (fV fC : Field) (b : Addr) (A : Cell) (z : Int32) : Law l yN 2 1 3 52 yB 2 none site (P a D fV fC b A z) (E a D fV fC A) [⟨a, fC.slot⟩, ⟨a, fV.slot⟩] 1 A.slots.size := by
  refine Law.of_walk (plainFor_of_name (by decide +kernel)) (by decide +kernel) (by decide +kernel) (by decide) (fun _ _ h => by rw [h.1]; rfl) (fun _ U U' hal hh h => ⟨h.1, h.2.1.mv hal hh, h.2.2.1.al hal, h.2.2.2.1.al hal, h.2.2.2.2.1.mv hal hh, h.2.2.2.2.2.1.there hal hh, h.2.2.2.2.2.2⟩) (fun r U U' V V' h1 hal h2 h => Got.mv r U U' V V' h1 hal h2 h) ?_
  intro p e s m args below meth c s₁ X0 hexec hbytes hml hret hlk hnm hown hh0 W hP
  obtain ⟨rfl, hB, f1, f2, hA, s1, hz, l0, l2, hp⟩ := hP
  have c1 : Steps p.tables e below (s₁.setTop (entryFrame m #[.ref a, .ref b] 2)) (s₁.setTop (mkF m 0 #[.val (.ref a), .val (.ref b)] [])) := entry rfl
  have c2 : Steps p.tables e below (s₁.setTop (entryFrame m #[.ref a, .ref b] 2)) (s₁.setTop (mkF m 6 #[.val (.ref a), .val (.ref b)] [.null, .int (Int32.ofNat A.slots.size), .int 0, .ref b, .ref a])) := c1.trans (by
    refine XS.aloadN X0.here hexec rfl (hb hbytes d0) rfl rfl ?_
    refine XS.aloadN X0.here hexec rfl (hb hbytes d1) rfl rfl ?_
    refine iconstV X0.here hexec rfl 0 (hb hbytes d2) (by decide) ?_
    refine XS.aloadN X0.here hexec rfl (hb hbytes d3) rfl rfl ?_
    refine X0.alen hexec (hA.1.mv X0.warmed.alike hh0) rfl rfl (hb hbytes d4) ?_
    refine XS.aconstNull X0.here hexec rfl (hb hbytes d5) ?_
    exact Steps.refl _)
  obtain ⟨v3, T3, X3, E3, g3⟩ := X0.callN hexec (New4.law l a D fV fC b A z 0 A.slots.size) rfl hown (wks W (initW "java/lang/String" 27 New4.yN)) (W New4.tab (by simp only [site, List.mem_cons, List.mem_append, true_or, or_true])) (W := 0) (Nat.le_of_ble_eq_true rfl) (Nat.le_of_ble_eq_true rfl) (Nat.le_refl _) (by show 0 + A.slots.size ≤ A.slots.size; omega) (g := (mkF m 6 #[.val (.ref a), .val (.ref b)] [.null, .int (Int32.ofNat A.slots.size), .int (Int32.ofNat 0), .ref b, .ref a])) rfl (by rw [hml]; rfl) c2 (argsL := [.ref b, .int (Int32.ofNat 0), .int (Int32.ofNat A.slots.size), .null]) (rest := []) rfl rfl (by show 2 * 0 + 0 ≤ _; decide) (hb hbytes d6) (⟨rfl, hB.mv X0.warmed.alike hh0, f1.al X0.warmed.alike, f2.al X0.warmed.alike, hA.mv X0.warmed.alike hh0, s1.there X0.warmed.alike hh0, hz, l0, by omega, l2, fun i hi => by rw [Nat.zero_add]; exact hp i hi⟩)
  have e0 := Got.mv _ s₁ s _ _ hh0.symm (Vm.Alike.refl _) rfl E3
  obtain rfl := e0.1
  have c4 : Steps p.tables e below (s₁.setTop (entryFrame m #[.ref a, .ref b] 2)) (T3.setTop (mkF m 9 #[.val (.ref a), .val (.ref b)] [])) := g3
  exact ⟨T3, none, _, _, _, X3, by simp, rfl, by omega, (fun _ => rfl), e0, fun fs hl => c4.trans (X3.returnOut hexec hret (hb hbytes d9) hl)⟩
theorem pays {l : Launch} {R : Room} {p : Program} {e : Env} {below : List Frame} {s : State} {sargs : Array Value} {len W : Nat} (a : Addr) (D : Cell) (fV fC : Field) (b : Addr) (A : Cell) (z : Int32) (htab : tab.before sargs s = true) (hfr : 4 ≤ R.frames) (hlo : W + 65 ≤ R.locals) :
    Back l R p e below s sargs yN len W (fun A₁ a₁ => A₁.cells + 1 ≤ R.cells ∧ A₁.slots + A.slots.size ≤ R.slots ∧ P a D fV fC b A z a₁ A₁.U) (fun A₁ _ v₁ B₁ => E a D fV fC A v₁ A₁.U B₁.U ∧ B₁.locs = A₁.locs ++ [⟨a, fC.slot⟩, ⟨a, fV.slot⟩] ∧ B₁.cells = A₁.cells + 1 ∧ B₁.slots = A₁.slots + A.slots.size) :=
  (law l a D fV fC b A z).pays htab hfr (by omega)
end New1
end StrChars
namespace StrChars.Road
open Jvm Sem ClassFile Op Lib Jvm.Stand Jvm.Free Jvm.Free.XT
open Jvm.Lib.Cold (StaticIs)
abbrev ST : String := "java/lang/String"
/-- every table word that New1's law asks, flat -/
abbrev words : List Jvm.Cond := [.code New1.yN New1.yB 2 none, .initialized ST, .methodLink ST 27 New4.yN, .instanceMethod New4.yN,
  .code New4.yN New4.yB 6 none, .fieldLink ST 38 ST "COMPACT_STRINGS" "Z", .laysFinal ST ST "value" "[B", .fieldLink ST 9 ST "value" "[B", .laysFinal ST ST "coder" "B", .fieldLink ST 15 ST "coder" "B",
  .methodLink ST 1 Lib.objectInit, .instanceMethod Lib.objectInit, .code Lib.objectInit ⟨#[0xb1]⟩ 1 none, .methodLink ST 177 Cmp3.yN, .static Cmp3.yN, .methodLink ST 47 CodL.yN, .static CodL.yN,
  .code Cmp3.yN Cmp3.yB 6 (some (.array .byte)), .initialized U16, .arrayClass .byte, .methodLink U16 115 Cmp5.yN, .static Cmp5.yN, .code Cmp5.yN Cmp5.yB 7 (some .int), .code CodL.yN CodL.yB 2 (some .byte)]
theorem tab_of {a : Array Value} {s : State} (h : ∀ w ∈ words, w.before a s = true) : New1.tab.before a s = true := by
  have h5 : Cmp5.tab.before a s = true := unparts (wk h (.code Cmp5.yN Cmp5.yB 7 (some .int))) (wks h (.initialized Cmp5.yN.cls :: Cmp5.site))
  have hc : CodL.tab.before a s = true := unparts (wk h (.code CodL.yN CodL.yB 2 (some .byte))) (wks h (.initialized CodL.yN.cls :: CodL.site))
  have q5 : ∀ w ∈ Cmp5.tab :: words, w.before a s = true := fun w hw => (List.mem_cons.mp hw).elim (fun e => e ▸ h5) (h w)
  have h3 : Cmp3.tab.before a s = true := unparts (wk q5 (.code Cmp3.yN Cmp3.yB 6 (some (.array .byte)))) (wks q5 (.initialized Cmp3.yN.cls :: Cmp3.site))
  have q3 : ∀ w ∈ Cmp3.tab :: CodL.tab :: words, w.before a s = true := fun w hw => (List.mem_cons.mp hw).elim (fun e => e ▸ h3) fun hw => (List.mem_cons.mp hw).elim (fun e => e ▸ hc) (h w)
  have h4 : New4.tab.before a s = true := unparts (wk q3 (.code New4.yN New4.yB 6 none)) (wks q3 (.initialized New4.yN.cls :: New4.site))
  have q4 : ∀ w ∈ New4.tab :: words, w.before a s = true := fun w hw => (List.mem_cons.mp hw).elim (fun e => e ▸ h4) (h w)
  exact unparts (wk q4 (.code New1.yN New1.yB 2 none)) (wks q4 (.initialized New1.yN.cls :: New1.site))
/-- the words ride from the start Z to the walk's own state -/
theorem moved {Z s : State} {a0 args : Array Value} (hZ : Z.Warmed39 s.vm) (hw : ∀ d ∈ words, d.before a0 Z = true) : ∀ d ∈ words, d.before args s = true := fun d hd => by
  have q := hw d hd
  have t : ∀ d ∈ words, d = .arrayClass .byte ∨ (d.onTables && d.keepsFace) = true := by decide +kernel
  rcases t d hd with rfl | t
  · exact RoadKit.mvA hZ q
  · exact RoadKit.mv hZ q t
/-- WHAT COMES BACK, over the tables of the start Z: h the heap at the call, h' behind it -/
def Q (Z : State) (x : Addr) (A : Cell) (h : Heap) (v : Option Value) (h' : Heap) (L : List Loc) : Prop := v = none ∧ (∀ y ∈ L, y.base = x) ∧ RoadKit.Keep h h' [x] ∧ h'.size = h.size + 1 ∧ RoadKit.Exa Z h' x ST ∧ RoadKit.Fld Z h' x ST "value" "[B" (.ref h.size) ∧ RoadKit.Fld Z h' x ST "coder" "B" (.int 0) ∧
  (∃ V : Cell, RoadKit.Arr Z h' h.size V .byte ∧ V.vm = .none ∧ Z.vm.findClass "[B" = some V.cls ∧ V.slots.size = A.slots.size ∧ ∀ j, j < A.slots.size → V.slots[j]? = some (.int (lo8 (cv A j)))) ∧
  ∀ (O n d : String) (w : Value), RoadKit.Fld Z h x O n d w → RoadKit.slotOf Z O n d ≠ RoadKit.slotOf Z ST "value" "[B" → RoadKit.slotOf Z O n d ≠ RoadKit.slotOf Z ST "coder" "B" → RoadKit.Fld Z h' x O n d w
/-- **new String(chars) AT A CALL, IN THE ROAD'S FORM**: for specialBack behind newO: x the fresh String, b the char[] with the cell A -/
theorem back {p : Program} {l : Launch} {e : Env} {R : Room} {s : State} {args : Array Value} {below : List Frame} {len W : Nat} {Z : State} {a0 : Array Value} {h : Heap} (hZ : Z.Warmed39 s.vm) (hw : ∀ d ∈ words, d.before a0 Z = true) {kI : Nat} (wi : (Jvm.Cond.instantiable ST kI).before a0 Z = true)
    {x b : Addr} {A : Cell} {z : Int32} {v0 c0 : Value} (E : RoadKit.Exa Z h x ST) (V : RoadKit.Fld Z h x ST "value" "[B" v0) (C : RoadKit.Fld Z h x ST "coder" "B" c0) (K : RoadKit.Arr Z h b A .char) (hty : Typed .char A) (S : RoadKit.Sta Z h ST "COMPACT_STRINGS" "Z" (.int z)) (hz : ¬ z = 0)
    (l0 : 0 < A.slots.size) (l2 : A.slots.size ≤ 536870912) (hp : ∀ i, i < A.slots.size → ¬ 255 < cv A i) (hfr : 4 ≤ R.frames) (hlo : W + 65 ≤ R.locals) :
    Back l R p e below s args New1.yN len W (fun P a => a = #[.ref x, .ref b] ∧ P.U.heap = h ∧ P.cells + 1 ≤ R.cells ∧ P.slots + A.slots.size ≤ R.slots)
      (fun P _ v B => ∃ L, Q Z x A h v B.U.heap L ∧ B.locs = P.locs ++ L ∧ B.cells = P.cells + 1 ∧ B.slots = P.slots + A.slots.size) := by
  intro m meth c P g ig mk a X hg hsize hdg hW hn hp'
  obtain ⟨rfl, rfl, r1, r2⟩ := hp'
  have al : Z.vm.Alike P.U.vm := hZ.alike.trans X.warmed.alike
  obtain ⟨D, cfV, kV, iV, fV, hD, gV, stV, knV, obV, asV, slV⟩ := id V
  obtain ⟨D', cfC, kC, iC, fC, hD', gC, stC, -, -, asC, slC⟩ := id C
  cases hD.symm.trans hD'
  obtain ⟨D2, kD, e1, e2, e3, e4, e5⟩ := id E
  cases hD.symm.trans e1
  obtain ⟨c2, k2, i1, i2, i3, -⟩ := Cond.instantiable_spec wi
  cases e2.symm.trans i1
  cases e3.symm.trans i2
  obtain ⟨kU, u1, u2⟩ := al.2.2 _ _ e3
  have hB : Blank ST x D P.U := ⟨hD, ⟨knV, fun q hq => by rw [hq] at obV; cases obV⟩, by rw [al.findClass]; exact e2, kU, u1, by rw [u2]; exact i3, by rw [u2]; exact e5 i3⟩
  have F1 : Found ST "value" "[B" fV P.U := ⟨SBG.found_only al ⟨cfV, kV, iV, gV⟩, stV⟩
  have F2 : Found ST "coder" "B" fC P.U := ⟨SBG.found_only al ⟨cfC, kC, iC, gC⟩, stC⟩
  have hA : Ch b A P.U := ⟨⟨K.1, State.isArrayOf_alike al K.2.1, K.2.2, by omega⟩, hty⟩
  have hS : StaticIs P.U ST "COMPACT_STRINGS" "Z" (.int z) := by
    obtain ⟨cfS, iS, kS, fS, st, cS, t1, t2, t3, t4, t5, t6, t7⟩ := S
    exact StaticIs.there (s := { Z with heap := P.U.heap }) ⟨cfS, iS, kS, fS, st, cS, t1, t2, t3, t4, t5, (fun q => by rw [q] at t6; cases t6), t7⟩ al rfl
  obtain ⟨v, B, X', ⟨⟨hv, E', V', q1, q2, q3, q4, q5, q6, q7, q8, q9, q10, q11⟩, hl, hc, hs⟩, st⟩ := New1.pays x D fV fC b A z (tab_of (moved hZ hw)) hfr hlo m meth c P g ig mk _ X hg hsize hdg hW hn ⟨r1, r2, rfl, hB, F1, F2, hA, hS, hz, l0, l2, hp⟩
  have al' : Z.vm.Alike B.U.vm := hZ.alike.trans X'.warmed.alike
  have hsz : E'.slots.size = D.slots.size := by
    obtain ⟨-, -, -, kB, w1, w2, w3⟩ := q1
    obtain ⟨kB', y1, y2⟩ := al'.2.2 _ _ e3
    rw [q2.2.1] at w1
    cases w1.symm.trans y1
    rw [w3, e5 i3, y2]
  refine ⟨v, B, X', ⟨_, ⟨hv, ?_, ⟨by omega, fun y cy hy hn' => q10 y cy (by simpa using hn') hy, fun y cy hy => ?_⟩, q11, ⟨E', _, q1.1, by rw [q2.2.1]; exact e2, by rw [q2.2.1]; exact e3, by rw [q2.1]; exact obV, fun _ => by rw [hsz]; exact e5 i3⟩,
    ⟨E', cfV, kV, iV, fV, q1.1, gV, stV, by rw [q2.1]; exact knV, by rw [q2.1]; exact obV, by rw [q2.2.1]; exact asV, q3⟩, ⟨E', cfC, kC, iC, fC, q1.1, gC, stC, by rw [q2.1]; exact knV, by rw [q2.1]; exact obV, by rw [q2.2.1]; exact asC, q4⟩,
    ⟨V', ⟨q5.1, State.isArrayOf_alike al'.symm q5.2.1, q5.2.2.1⟩, q6, by rw [← al'.findClass]; exact q7, q8, fun j hj => by have := q9 j hj; rwa [Nat.zero_add] at this⟩, fun O n d w F n1 n2 => ?_⟩, hl, hc, hs⟩, st⟩
  · intro y hy
    simp only [List.mem_cons, List.not_mem_nil, or_false] at hy
    rcases hy with rfl | rfl <;> rfl
  · by_cases q : y = x
    · subst q
      cases hD.symm.trans hy
      exact ⟨E', q1.1, q2.2.1, q2.1, hsz⟩
    · exact ⟨cy, q10 y cy q hy, rfl, rfl, rfl⟩
  · obtain ⟨D3, cf, k, i, f, g1, g2, g3, g4, g5, g6, g7⟩ := F
    cases hD.symm.trans g1
    simp only [RoadKit.slotOf, g2, gV, gC, Option.map_some, Option.getD_some] at n1 n2
    exact ⟨E', cf, k, i, f, q1.1, g2, g3, by rw [q2.1]; exact g4, by rw [q2.1]; exact g5, by rw [q2.2.1]; exact g6, by rw [q2.2.2 f.slot (by simp [n1, n2])]; exact g7⟩
end StrChars.Road
namespace StrChars.Road
open Jvm Sem ClassFile Op Lib Jvm.Stand Jvm.Free Jvm.Free.XT
/-- WHAT COMES BACK, the byte[] as a list of values -/
def QA (Z : State) (x : Addr) (zn : Int32) (cs : List Int32) (h : Heap) (v : Option Value) (h' : Heap) (L : List Loc) : Prop := v = none ∧ (∀ y ∈ L, y.base = x) ∧ RoadKit.Keep h h' [x] ∧ h'.size = h.size + 1 ∧ RoadKit.Exa Z h' x ST ∧ RoadKit.Fld Z h' x ST "value" "[B" (.ref h.size) ∧ RoadKit.Fld Z h' x ST "coder" "B" (.int 0) ∧
  (∃ kb, Z.vm.findClass "[B" = some kb ∧ RoadKit.Arv Z h' h.size kb .byte zn (cs.map fun c => .int (lo8 c)) (.int 0)) ∧
  ∀ (O n d : String) (w : Value), RoadKit.Fld Z h x O n d w → RoadKit.slotOf Z O n d ≠ RoadKit.slotOf Z ST "value" "[B" → RoadKit.slotOf Z O n d ≠ RoadKit.slotOf Z ST "coder" "B" → RoadKit.Fld Z h' x O n d w
/-- **new String(chars) AT A CALL, THE ARRAYS AS LISTS**: the char[] at b holds cs, not empty, no char above 255 -/
theorem backArv {p : Program} {l : Launch} {e : Env} {R : Room} {s : State} {args : Array Value} {below : List Frame} {len W : Nat} {Z : State} {a0 : Array Value} {h : Heap} (hZ : Z.Warmed39 s.vm) (hw : ∀ d ∈ words, d.before a0 Z = true) {kI : Nat} (wi : (Jvm.Cond.instantiable ST kI).before a0 Z = true)
    {x b : Addr} {k : ClassId} {zn z : Int32} {cs : List Int32} {dv v0 c0 : Value} (E : RoadKit.Exa Z h x ST) (V : RoadKit.Fld Z h x ST "value" "[B" v0) (C : RoadKit.Fld Z h x ST "coder" "B" c0) (K : RoadKit.Arv Z h b k .char zn (cs.map Value.int) dv) (S : RoadKit.Sta Z h ST "COMPACT_STRINGS" "Z" (.int z)) (hz : ¬ z = 0)
    (hlen : zn.toNatClampNeg = cs.length) (h0 : 0 < cs.length) (hbig : cs.length ≤ 536870912) (hall : ∀ c ∈ cs, ¬ 255 < c) (hfr : 4 ≤ R.frames) (hlo : W + 65 ≤ R.locals) :
    Back l R p e below s args New1.yN len W (fun P a => a = #[.ref x, .ref b] ∧ P.U.heap = h ∧ P.cells + 1 ≤ R.cells ∧ P.slots + cs.length ≤ R.slots)
      (fun P _ v B => ∃ L, QA Z x zn cs h v B.U.heap L ∧ B.locs = P.locs ++ L ∧ B.cells = P.cells + 1 ∧ B.slots = P.slots + cs.length) := by
  obtain ⟨A, K1, K2, K3, K4, K5, K6⟩ := K
  have e : A.slots.size = cs.length := K3.trans hlen
  have hat : ∀ (i : Nat) (hi : i < cs.length), A.slots[i]? = some (.int cs[i]) := fun i hi => by rw [K5 i (by omega)]; simp [List.getD_eq_getElem?_getD, hi]
  have hcv : ∀ (i : Nat) (hi : i < cs.length), cv A i = cs[i] := fun i hi => by unfold cv; rw [hat i hi]
  have hty : Typed .char A := fun i v hv => by
    have hi : i < A.slots.size := (Array.getElem?_eq_some_iff.mp hv).1
    have q := K5 i hi
    rw [hv] at q
    rw [Option.some.inj q]
    exact K6 i hi
  refine Back.mono (back hZ hw wi E V C K1 hty S hz (by omega) (by omega) (fun i hi => by rw [hcv i (by omega)]; exact hall _ (List.getElem_mem _)) hfr hlo) (fun P a hp => ⟨hp.1, hp.2.1, hp.2.2.1, by rw [e]; exact hp.2.2.2⟩) (fun P a v B hp hq => ?_)
  obtain ⟨L, ⟨q1, q2, q3, q4, q5, q6, q7, ⟨V', v1, v2, v3, v4, v5⟩, q9⟩, hl, hc, hs⟩ := hq
  refine ⟨L, ⟨q1, q2, q3, q4, q5, q6, q7, ⟨V'.cls, v3, V', v1, rfl, by rw [v4, e, hlen], K4, fun i hi => ?_, fun i hi => ?_⟩, q9⟩, hl, hc, by rw [hs, e]⟩
  · have hi' : i < cs.length := by omega
    rw [v5 i (by omega), hcv i hi']; simp [List.getD_eq_getElem?_getD, hi']
  · have hi' : i < cs.length := by omega
    simp only [List.getD_eq_getElem?_getD, List.getElem?_map, List.getElem?_eq_getElem hi', Option.map_some, Option.getD_some]
    exact fits_lo8 _
end StrChars.Road
namespace StrChars.Road
open Jvm Sem ClassFile Op Lib Jvm.Stand Jvm.Free Jvm.Free.XT
/-- WHAT COMES BACK, in the writer's own shape -/
def QV (Z : State) (x : Addr) (N : Int32) (bs : List Int32) (h : Heap) (n0 : Nat) (v : Option Value) (h' : Heap) (L : List Loc) : Prop := v = none ∧ RoadKit.Fr n0 L ∧ RoadKit.Keep h h' [x] ∧ RoadKit.Exa Z h' x ST ∧ RoadKit.Fld Z h' x ST "coder" "B" (.int 0) ∧
  ∃ (t : Addr) (kb : ClassId), n0 ≤ t ∧ h.size ≤ t ∧ ¬ t = x ∧ RoadKit.Fld Z h' x ST "value" "[B" (.ref t) ∧ RoadKit.Arv Z h' t kb .byte N (bs.map Value.int) (.int 0)
/-- **new String(chars) AT A CALL, FOR THE WRITER**: a char[] of n known ints, each 0 to 255 -/
theorem backV {p : Program} {l : Launch} {e : Env} {R : Room} {s : State} {args : Array Value} {below : List Frame} {len W : Nat} {Z : State} {a0 : Array Value} {h : Heap} (hZ : Z.Warmed39 s.vm) (hw : ∀ d ∈ words, d.before a0 Z = true) {kI : Nat} (wi : (Jvm.Cond.instantiable ST kI).before a0 Z = true)
    {x b : Addr} {kC : ClassId} {cs bs : List Int32} {d v0 c0 : Value} {z N : Int32} {n n0 : Nat} (hx0 : n0 ≤ x) (hh0 : n0 ≤ h.size) (E : RoadKit.Exa Z h x ST) (V : RoadKit.Fld Z h x ST "value" "[B" v0) (C : RoadKit.Fld Z h x ST "coder" "B" c0) (K : RoadKit.Arv Z h b kC .char N (cs.map Value.int) d) (S : RoadKit.Sta Z h ST "COMPACT_STRINGS" "Z" (.int z)) (hz : ¬ z = 0)
    (hn : cs.length = n) (hN : N = Int32.ofNat n) (l0 : 0 < n) (l2 : n ≤ 4000) (hp : ∀ c ∈ cs, ¬ c < 0 ∧ ¬ (255 : Int32) < c) (hb : bs = cs.map (fun c => c.toInt8.toInt32)) (hfr : 4 ≤ R.frames) (hlo : W + 65 ≤ R.locals) :
    Back l R p e below s args (⟨"java/lang/String", "<init>", "([C)V"⟩ : MethodName) len W (fun P a => a = #[.ref x, .ref b] ∧ P.U.heap = h ∧ P.cells + 1 ≤ R.cells ∧ P.slots + n ≤ R.slots)
      (fun P _ v B => ∃ L, QV Z x N bs h n0 v B.U.heap L ∧ B.locs = P.locs ++ L ∧ B.cells = P.cells + 1 ∧ B.slots = P.slots + n) := by
  subst hn hN hb
  refine Back.mono (backArv hZ hw wi E V C K S hz (n32 (by omega)) l0 (by omega) (fun c hc => (hp c hc).2) hfr hlo) (fun P a hp => hp) (fun P a v B hp hq => ?_)
  obtain ⟨L, ⟨q1, q2, q3, q4, q5, q6, q7, ⟨kb, v1, v2⟩, q9⟩, hl, hc, hs⟩ := hq
  exact ⟨L, ⟨q1, fun y hy => by rw [q2 y hy]; exact hx0, q3, q5, q7, h.size, kb, hh0, Nat.le_refl _, Nat.ne_of_gt E.lt, q6, by rw [List.map_map]; exact v2⟩, hl, hc, hs⟩
end StrChars.Road
end Jvm.Pilot.@@N@@
namespace Jvm.Pilot.@@N@@
open Jvm Jvm.ClassFile Sem Op Lib Jvm.Free Jvm.Stand Jvm.LawKit Jvm.RoadKit Bundle Jvm.Pilot.@@N@@.Jvm.D
section OwnGo
/-- from this frame the run ends, and leaves what Q says -/
def Go (p : Program) (e : Env) (below : List Frame) (s : State) (k n : Nat) (Q : Option Value → Heap → List Loc → Prop) (m : MethodId) (T : State) (pc : Nat) (L : Array Slot) (S : List Value) : Prop :=
  ∃ s₂ o, Steps p.tables e below (T.setTop (mkF m pc L S)) s₂ ∧ s₂.status = .running ∧ Ended s₂ below o ∧ ∃ v Ls, o = .returned v ∧ Q v s₂.heap Ls ∧ FrameEnd s o s₂ Ls k n
variable {p : Program} {l : Launch} {e : Env} {R : Room} {s : State} {m : MethodId} {args : Array Value} {below : List Frame} {meth : Method} {c : Code} {T T' : State} {locs : List Loc} {cells slots k n : Nat} {Z : State} {h : Heap} {Q : Option Value → Heap → List Loc → Prop} {pc pc' : Nat} {L L' : Array Slot} {S S' : List Value}
theorem Go.st (h : ∀ t, Steps p.tables e below (T'.setTop (mkF m pc' L' S')) t → Steps p.tables e below (T.setTop (mkF m pc L S)) t) (g : Go p e below s k n Q m T' pc' L' S') : Go p e below s k n Q m T pc L S := by
  obtain ⟨a, b, c, d⟩ := g; exact ⟨a, b, h _ c, d⟩
theorem Go.tr (h : Steps p.tables e below (T.setTop (mkF m pc L S)) (T'.setTop (mkF m pc' L' S'))) (g : Go p e below s k n Q m T' pc' L' S') : Go p e below s k n Q m T pc L S := Go.st (fun _ q => h.trans q) g
theorem Go.retV (X : Stand p l e R s m args below meth c T locs cells slots) (hx : p.tables.exec = Jvm.exec) (hlk : meth.locks = false) (hret : meth.sig.returnType = none) (hd : decode c.code pc = .ok (.return_, 1)) (hk : cells ≤ k) (hn : slots ≤ n) (hq : Q none T.heap locs) : Go p e below s k n Q m T pc L [] := by
  obtain ⟨fs, hr, hrun, hended, hW, hsame⟩ := X.leave (v := none) (fun _ => rfl) hlk
  exact ⟨_, _, X.returnOut hx hret hd hr, hrun, hended, _, _, rfl, hq, ⟨_, rfl⟩, hW, hsame.mono hk hn⟩
theorem Go.retN (X : Stand p l e R s m args below meth c T locs cells slots) (hx : p.tables.exec = Jvm.exec) (hlk : meth.locks = false) {t : FieldType} {z : Int32} {rest : List Value} (hret : meth.sig.returnType = some t) (ht : t = .boolean ∨ t = .byte ∨ t = .char ∨ t = .short) (hd : decode c.code pc = .ok (.ireturn, 1)) (hk : cells ≤ k) (hn : slots ≤ n) (hq : Q (some (.int (nar t z))) T.heap locs) : Go p e below s k n Q m T pc L (.int z :: rest) := by
  obtain ⟨fs, hr, hrun, hended, hW, hsame⟩ := X.leave (v := some (.int (nar t z))) (fun h => by rw [hret] at h; cases h) hlk
  exact ⟨_, _, Jvm.RoadKit.retN X hx hret ht hd hr, hrun, hended, _, _, rfl, hq, ⟨_, rfl⟩, hW, hsame.mono hk hn⟩
theorem Go.retO (X : Stand p l e R s m args below meth c T locs cells slots) (hx : p.tables.exec = Jvm.exec) (hlk : meth.locks = false) {t : FieldType} {w : Value} {i : Instr} {rest : List Value} (hret : meth.sig.returnType = some t) (hw : narrow t w = w) (hi : (i = .ireturn ∧ (t = .int ∨ t = .boolean ∨ t = .byte ∨ t = .char ∨ t = .short) ∧ ∃ z, w = .int z) ∨ (i = .lreturn ∧ t = .long ∧ ∃ z, w = .long z) ∨ (i = .dreturn ∧ t = .double ∧ ∃ z, w = .double z) ∨ (i = .freturn ∧ t = .float ∧ ∃ z, w = .float z) ∨ (i = .areturn ∧ t.isReference = true ∧ w.isRef = true)) (hd : decode c.code pc = .ok (i, 1)) (hk : cells ≤ k) (hn : slots ≤ n) (hq : Q (some w) T.heap locs) : Go p e below s k n Q m T pc L (w :: rest) := by
  obtain ⟨fs, hr, hrun, hended, hW, hsame⟩ := X.leave (v := some w) (fun h => by rw [hret] at h; cases h) hlk
  exact ⟨_, _, retOut X hx hret hw hi hd hr, hrun, hended, _, _, rfl, hq, ⟨_, rfl⟩, hW, hsame.mono hk hn⟩
theorem Stand.up (X : Stand p l e R s m args below meth c T locs cells slots) (hk : cells ≤ k) (hn : slots ≤ n) : Stand p l e R s m args below meth c T locs k n :=
  ⟨X.admits, X.cas, X.clock, X.frames, X.room, X.hears, X.method, X.code, X.here, X.tail, X.warmed, X.limits, X.bytes, X.same.mono hk hn⟩
theorem own_len (X : Stand p l e R s m args below meth c T locs cells slots) (hx : p.tables.exec = Jvm.exec) (hZ : Z.Warmed39 s.vm) (eT : T.heap = h) {a : Addr} {cl : Cell} {ty : FieldType} {z : Int32} (A : Arr Z h a cl ty) (S : cl.slots.size = z.toNatClampNeg) (q : ¬ z < 0) {g : JFrame} (hg : g.method = m) {rest : List Value} (hs : g.stack = .ref a :: rest) (hd : decode c.code g.pc = .ok (.arraylength, 1)) (t : State)
    (k : Steps p.tables e below (T.setTop { g with pc := g.pc + 1, stack := .int z :: rest }) t) : Steps p.tables e below (T.setTop g) t := by
  refine X.arraylength hx (by rw [eT]; exact A.1) (State.isArrayOf_alike hZ.alike A.2.1) (g := g) hg hs hd _ ?_
  rw [len_of S q]; exact k
theorem own_met {l : Launch} {y : MethodName} {bytes : ByteArray} {maxL : Nat} {ret : Option FieldType} {ws : List Jvm.Cond} {rm : Room} {A : Array Value} {Z : State} {h0 : Heap} {Q : Option Value → Heap → List Loc → Prop} {L0 : Array Slot} {K N : Nat} (hpl : plainFor y = true) (hef : ∀ m, entryFrame m A maxL = mkF m 0 L0 [])
    (body : ∀ (p : Program) (e : Env) (s : State) (m : MethodId) (below : List Frame) (meth : Method) (c : Code) (s₁ : State), Stand p l e rm s m A below meth c s₁ [] 0 0 → p.tables.exec = Jvm.exec → c.code = bytes → c.maxLocals = maxL → s.vm.findClass y.cls = some m.cls → meth.name = y.name → meth.sig.returnType = ret → meth.locks = false → Z.Warmed39 s.vm → s₁.heap = h0 → Go p e below s K N Q m s₁ 0 L0 []) :
    MetFree l y (head1 (Jvm.Cond.code y bytes maxL ret :: ws) rm) (fun a U => a = A ∧ Z.Warmed39 U.vm ∧ U.heap = h0) (fun _ _ _ _ _ => True) (fun _ U o U' => ∃ v L, o = .returned v ∧ Q v U'.heap L ∧ FrameEnd U o U' L K N) := by
  refine MetFree.of_bodySF hpl hisR ?_
  intro p e s m args below meth c s₁ Bd hml0 hP hK
  obtain ⟨rfl, hZ, hh⟩ := hP
  obtain ⟨s₂, o, h1, h2⟩ := body p e s m below meth c s₁ (Stand.of_body Bd) Bd.exec Bd.bytes hml0 (findClass_of_methodNamed Bd.named) (name_of_methodNamed Bd.named Bd.method).1 Bd.returns Bd.notSynchronized hZ (by rw [← hh, Bd.state]; rfl)
  exact ⟨s₂, o, castTop (hef m) h1, h2⟩
end OwnGo
section OwnArr
theorem own_tn {i : Nat} (h : i < 2147483648) : i.toInt32.toNatClampNeg = i := by
  simp only [Int32.toNatClampNeg, len_toInt (n := i) h]; rfl
theorem own_inb {c : Cell} {z : Int32} {i N : Nat} (S : c.slots.size = z.toNatClampNeg) (hz : z.toNatClampNeg = N) (hi : i < N) (hN : N < 2147483648) : ¬ (i.toInt32 < 0 ∨ c.slots.size ≤ i.toInt32.toNatClampNeg) := by
  rw [S, hz]; exact idx_in hi hN
theorem own_getI (M : List Int32) (i : Nat) : (M.map Value.int).getD i (.int 0) = .int (M.getD i 0) := by
  simp only [List.getD_eq_getElem?_getD, List.getElem?_map]; cases M[i]? <;> rfl
theorem own_getD (M : List UInt64) (i : Nat) : (M.map Value.double).getD i (.double 0) = .double (M.getD i 0) := by
  simp only [List.getD_eq_getElem?_getD, List.getElem?_map]; cases M[i]? <;> rfl
theorem own_atI (M : List Int32) {i : Nat} (h : i < 2147483648) : (M.map Value.int).getD i.toInt32.toNatClampNeg (.int 0) = .int (M.getD i 0) := by rw [own_tn h, own_getI]
theorem own_atD (M : List UInt64) {i : Nat} (h : i < 2147483648) : (M.map Value.double).getD i.toInt32.toNatClampNeg (.double 0) = .double (M.getD i 0) := by rw [own_tn h, own_getD]
theorem own_setI (M : List Int32) (i : Nat) (v : Int32) : (M.map Value.int).set i (.int v) = (M.set i v).map Value.int := by rw [List.map_set]
theorem own_setD (M : List UInt64) (i : Nat) (v : UInt64) : (M.map Value.double).set i (.double v) = (M.set i v).map Value.double := by rw [List.map_set]
theorem own_next {n : Nat} (h : n < 2147483647) : n.toInt32 + 1 = (n + 1).toInt32 := by
  apply Int32.toInt_inj.mp
  have h1 := c_iadd n.toInt32 1
  rw [len_toInt (n := n) (by omega)] at h1
  rw [len_toInt (n := n + 1) (by omega)]
  have h2 := rng32 (n.toInt32 + 1)
  have e1 : (1 : Int32).toInt = 1 := rfl
  omega
theorem own_inj {m n : Nat} (hm : m < 2147483648) (hn : n < 2147483648) : m.toInt32 = n.toInt32 ↔ m = n := by
  rw [← Int32.toInt_inj, len_toInt (n := m) hm, len_toInt (n := n) hn]; omega
theorem own_ltI {m n : Nat} (hm : m < 2147483648) (hn : n < 2147483648) : m.toInt32 < n.toInt32 ↔ m < n := by
  rw [Int32.lt_iff_toInt_lt, len_toInt (n := m) hm, len_toInt (n := n) hn]; omega
end OwnArr

theorem own_and255 (x : Int32) : ¬ nar .char ((x &&& (255 : Int32)).toUInt32.toUInt16.toUInt32.toInt32) < 0 ∧ ¬ (255 : Int32) < nar .char ((x &&& (255 : Int32)).toUInt32.toUInt16.toUInt32.toInt32) := by
  have e1 : nar .char ((x &&& (255 : Int32)).toUInt32.toUInt16.toUInt32.toInt32) = x &&& 255 := by simp only [nar, i2c_mask]
  rw [e1]
  have h := c_mask x 255 8 (by decide) (by decide)
  have e0 : (0 : Int32).toInt = 0 := rfl
  have e2 : (255 : Int32).toInt = 255 := rfl
  simp only [Int32.lt_iff_toInt_lt, h, e0, e2]
  omega
theorem own_c255 (x : Int32) : ¬ (x &&& (255 : Int32)).toUInt32.toUInt16.toUInt32.toInt32 < 0 ∧ ¬ (255 : Int32) < (x &&& (255 : Int32)).toUInt32.toUInt16.toUInt32.toInt32 := by
  rw [i2c_mask]
  have h := c_mask x 255 8 (by decide) (by decide)
  have e0 : (0 : Int32).toInt = 0 := rfl
  have e2 : (255 : Int32).toInt = 255 := rfl
  simp only [Int32.lt_iff_toInt_lt, h, e0, e2]
  omega
theorem d8_0 : decode jdk_43_method_3_code 0 = .ok (.iload_n 0, 1) := by decide +kernel
theorem d8_1 : decode jdk_43_method_3_code 1 = .ok (.sipush 255, 3) := by decide +kernel
theorem d8_4 : decode jdk_43_method_3_code 4 = .ok (.if_icmp .gt 7, 3) := by decide +kernel
theorem d8_7 : decode jdk_43_method_3_code 7 = .ok (.iconst 1, 1) := by decide +kernel
theorem d8_8 : decode jdk_43_method_3_code 8 = .ok (.goto 4, 3) := by decide +kernel
theorem d8_12 : decode jdk_43_method_3_code 12 = .ok (.ireturn, 1) := by decide +kernel
theorem pn_0 : plainName "java/lang/StringLatin1" = true := by first | (simp [plainName, overriddenIn]; done) | decide +kernel
def Q8 (Z : State) (c1 : Int32) (h0 : Heap) (n0 : Nat) (v : Option Value) (h : Heap) (L : List Loc) : Prop := v = some (.int 1) ∧ Fr n0 L ∧ h = h0
def room8 : Room := { frames := 0, cells := 0, slots := 0, locals := 0 }
set_option maxRecDepth 65536 in
set_option maxHeartbeats 40000000 in
theorem rm8 (l : Launch) (Z : State) (a0 : Array Value) (hw : ∀ d ∈ tables_1, d.before a0 Z = true) (ws : List Jvm.Cond) (c1 : Int32) (h0 : Heap) (n0 : Nat) (Z0 : n0 ≤ h0.size) (hc : ¬ c1 < 0 ∧ ¬ (255 : Int32) < c1) :
    MetFree l (⟨"java/lang/StringLatin1", "canEncode", "(C)Z"⟩ : MethodName) (head1 (Jvm.Cond.code (⟨"java/lang/StringLatin1", "canEncode", "(C)Z"⟩ : MethodName) jdk_43_method_3_code 1 (some .boolean) :: ws) room8) (fun aa_ U_ => aa_ = #[(.int c1)] ∧ Z.Warmed39 U_.vm ∧ U_.heap = h0) (fun _ _ _ _ _ => True) (fun _ U_ o_ W_ => ∃ v_ L_, o_ = .returned v_ ∧ (Q8 Z c1 h0 n0) v_ W_.heap L_ ∧ FrameEnd U_ o_ W_ L_ room8.cells room8.slots) := by
  refine own_met (Q := (Q8 Z c1 h0 n0)) (L0 := #[.val (.int c1)]) (plainFor_of_name pn_0) (fun m => by first | (simp [entryFrame, mkF, argsToLocals, Value.category]; done) | rfl) ?_
  intro p e s m below meth c T0 X0 hx hby hml hown hnm hret hlk hZ e0
  have N0 := Fr.nil n0
  refine Go.st (T' := T0) (pc' := 1) (L' := #[.val (.int c1)]) (S' := [(.int c1)]) (fun t k => XS.iloadN X0.here hx rfl (hb hby d8_0) rfl  k) ?_
  refine Go.st (T' := T0) (pc' := 4) (L' := #[.val (.int c1)]) (S' := [(.int (255 : Int32)), (.int c1)]) (fun t k => XS.sipush X0.here hx rfl (hb hby d8_1) k) ?_
  refine Go.st (T' := T0) (pc' := 7) (L' := #[.val (.int c1)]) (S' := []) (fun t k => XS.icmpNo X0.here hx rfl (hb hby d8_4) rfl (flt (hc.2 : ¬ ((255 : Int32) < c1))).2.2.1 k) ?_
  refine Go.st (T' := T0) (pc' := 8) (L' := #[.val (.int c1)]) (S' := [(.int (1 : Int32))]) (fun t k => XS.iconst X0.here hx rfl (hb hby d8_7) k) ?_
  refine Go.st (T' := T0) (pc' := 12) (L' := #[.val (.int c1)]) (S' := [(.int (1 : Int32))]) (fun t k => XS.goto X0.here hx rfl (pc0 := 8) (pc' := 12) rfl (hb hby d8_8) (by decide) (by decide) k) ?_
  exact Go.retN X0 hx hlk hret (by simp) (hb hby d8_12) (by decide) (by decide) (by rw [e0]; exact ⟨rfl, N0, rfl⟩)
theorem d9_0 : decode jdk_43_method_46_code 0 = .ok (.iconst 1, 1) := by decide +kernel
theorem d9_1 : decode jdk_43_method_46_code 1 = .ok (.newarray .byte, 2) := by decide +kernel
theorem d9_3 : decode jdk_43_method_46_code 3 = .ok (.dup, 1) := by decide +kernel
theorem d9_4 : decode jdk_43_method_46_code 4 = .ok (.iconst 0, 1) := by decide +kernel
theorem d9_5 : decode jdk_43_method_46_code 5 = .ok (.iload_n 0, 1) := by decide +kernel
theorem d9_6 : decode jdk_43_method_46_code 6 = .ok (.i2b, 1) := by decide +kernel
theorem d9_7 : decode jdk_43_method_46_code 7 = .ok (.bastore, 1) := by decide +kernel
theorem d9_8 : decode jdk_43_method_46_code 8 = .ok (.areturn, 1) := by decide +kernel
def Q9 (Z : State)  (h0 : Heap) (n0 : Nat) (v : Option Value) (h : Heap) (L : List Loc) : Prop := ∃ b : Addr, v = some (.ref b) ∧ Fr n0 L ∧ Keep h0 h [] ∧ n0 ≤ b ∧ h0.size ≤ b
def room9 : Room := { frames := 0, cells := 1, slots := 1, locals := 0 }
set_option maxRecDepth 65536 in
set_option maxHeartbeats 40000000 in
theorem rm9 (l : Launch) (Z : State) (a0 : Array Value) (hw : ∀ d ∈ tables_1, d.before a0 Z = true) (ws : List Jvm.Cond) (c1 : Int32) (h0 : Heap) (n0 : Nat) (Z0 : n0 ≤ h0.size)  :
    MetFree l (⟨"java/lang/StringLatin1", "toBytes", "(C)[B"⟩ : MethodName) (head1 (Jvm.Cond.code (⟨"java/lang/StringLatin1", "toBytes", "(C)[B"⟩ : MethodName) jdk_43_method_46_code 1 (some (.array .byte)) :: ws) room9) (fun aa_ U_ => aa_ = #[(.int c1)] ∧ Z.Warmed39 U_.vm ∧ U_.heap = h0) (fun _ _ _ _ _ => True) (fun _ U_ o_ W_ => ∃ v_ L_, o_ = .returned v_ ∧ (Q9 Z  h0 n0) v_ W_.heap L_ ∧ FrameEnd U_ o_ W_ L_ room9.cells room9.slots) := by
  refine own_met (Q := (Q9 Z  h0 n0)) (L0 := #[.val (.int c1)]) (plainFor_of_name pn_0) (fun m => by first | (simp [entryFrame, mkF, argsToLocals, Value.category]; done) | rfl) ?_
  intro p e s m below meth c T0 X0 hx hby hml hown hnm hret hlk hZ e0
  have N0 := Fr.nil n0
  have K0 := Keep.refl h0 []
  refine Go.st (T' := T0) (pc' := 1) (L' := #[.val (.int c1)]) (S' := [(.int (1 : Int32))]) (fun t k => XS.iconst X0.here hx rfl (hb hby d9_0) k) ?_
  obtain ⟨T1, h1, k1, X1, e1, E1, A1, st1⟩ := newP X0 hx hZ (hw _ (List.mem_of_getElem? (i := 19) rfl)) e0 (g := (mkF m 1 #[.val (.int c1)] [(.int (1 : Int32))])) rfl (hb hby d9_1) rfl (by decide) (cap := 1) (by decide) (by decide) (by decide) (by decide)
  obtain ⟨b1, g1⟩ : ∃ z, z = h0.size := ⟨_, rfl⟩
  rw [← g1] at A1 st1
  have g_b1 : n0 ≤ b1 := Nat.le_trans Z0 (Nat.le_of_eq g1.symm)
  have sz_b1 : h0.size ≤ b1 := Nat.le_trans K0.1 (Nat.le_of_eq g1.symm)
  replace Z0 := Nat.le_trans Z0 E1.1
  replace K0 := K0.ext E1
  have V_b1 : Arv Z h1 b1 k1 .byte (1 : Int32) [(.int (0 : Int32))] (.int (0 : Int32)) := (Arv.new A1 (by decide)).pad (pad_rep [] (.int (0 : Int32)) 1)
  refine Go.st (T' := T1) (pc' := 3) (L' := #[.val (.int c1)]) (S' := [(.ref b1)]) st1 ?_
  refine Go.st (T' := T1) (pc' := 4) (L' := #[.val (.int c1)]) (S' := [(.ref b1), (.ref b1)]) (fun t k => XS.dup X1.here hx rfl (hb hby d9_3) rfl rfl k) ?_
  refine Go.st (T' := T1) (pc' := 5) (L' := #[.val (.int c1)]) (S' := [(.int (0 : Int32)), (.ref b1), (.ref b1)]) (fun t k => XS.iconst X1.here hx rfl (hb hby d9_4) k) ?_
  refine Go.st (T' := T1) (pc' := 6) (L' := #[.val (.int c1)]) (S' := [(.int c1), (.int (0 : Int32)), (.ref b1), (.ref b1)]) (fun t k => XS.iloadN X1.here hx rfl (hb hby d9_5) rfl  k) ?_
  refine Go.st (T' := T1) (pc' := 7) (L' := #[.val (.int c1)]) (S' := [(.int (c1.toInt8.toInt32)), (.int (0 : Int32)), (.ref b1), (.ref b1)]) (fun t k => XS.i2b X1.here hx rfl (hb hby d9_6) rfl k) ?_
  obtain ⟨cl2, Ar2, q21, q22, q23, q24, q25⟩ := V_b1
  obtain ⟨T2, h2, X2, e2, W2, st2⟩ := stB X1 hx hZ e1 Ar2 (j := (0 : Int32)) (inb_of q22 ⟨by decide, by decide⟩) (g := (mkF m 7 #[.val (.int c1)] [(.int (c1.toInt8.toInt32)), (.int (0 : Int32)), (.ref b1), (.ref b1)])) rfl rfl (hb hby d9_7)
  replace V_b1 := Arv.set Ar2 q21 q22 q23 q24 q25 (fits_nar_byte _) W2 0 rfl (Nat.le_of_ble_eq_true rfl)
  have V_b1 : Arv Z h2 b1 k1 .byte (1 : Int32) [(.int (c1.toInt8.toInt32).toInt8.toInt32)] (.int (0 : Int32)) := V_b1
  replace Z0 := Nat.le_trans Z0 (Keep.of_wr W2).1
  replace K0 := K0.wr W2 (Or.inr sz_b1)
  have N2 := Fr.snoc X2 N0 g_b1
  refine Go.st (T' := T2) (pc' := 8) (L' := #[.val (.int c1)]) (S' := [(.ref b1)]) st2 ?_
  exact Go.retO X2 hx hlk hret rfl (by simp [FieldType.isReference, Value.isRef]) (hb hby d9_8) (by decide) (by decide) (by rw [e2]; exact ⟨b1, rfl, N2, K0, g_b1, sz_b1⟩)
theorem d10_0 : decode jdk_42_method_151_code 0 = .ok (.aload_n 0, 1) := by decide +kernel
theorem d10_1 : decode jdk_42_method_151_code 1 = .ok (.invokespecial 1, 3) := by decide +kernel
theorem d10_4 : decode jdk_42_method_151_code 4 = .ok (.aload_n 0, 1) := by decide +kernel
theorem d10_5 : decode jdk_42_method_151_code 5 = .ok (.aload_n 1, 1) := by decide +kernel
theorem d10_6 : decode jdk_42_method_151_code 6 = .ok (.putfield 9, 3) := by decide +kernel
theorem d10_9 : decode jdk_42_method_151_code 9 = .ok (.aload_n 0, 1) := by decide +kernel
theorem d10_10 : decode jdk_42_method_151_code 10 = .ok (.iload_n 2, 1) := by decide +kernel
theorem d10_11 : decode jdk_42_method_151_code 11 = .ok (.putfield 15, 3) := by decide +kernel
theorem d10_14 : decode jdk_42_method_151_code 14 = .ok (.return_, 1) := by decide +kernel
theorem pn_1 : plainName "java/lang/String" = true := by first | (simp [plainName, overriddenIn]; done) | decide +kernel
def Q10 (Z : State) (a1 : Addr) (a2 : Addr) (h0 : Heap) (n0 : Nat) (v : Option Value) (h : Heap) (L : List Loc) : Prop := v = none ∧ Fr n0 L ∧ Keep h0 h [a1] ∧ Fld Z h a1 "java/lang/String" "value" "[B" (.ref a2) ∧ Fld Z h a1 "java/lang/String" "coder" "B" (.int (0 : Int32))
def room10 : Room := { frames := 1, cells := 0, slots := 0, locals := 12 }
set_option maxRecDepth 65536 in
set_option maxHeartbeats 40000000 in
theorem rm10 (l : Launch) (Z : State) (a0 : Array Value) (hw : ∀ d ∈ tables_1, d.before a0 Z = true) (ws : List Jvm.Cond) (a1 : Addr) (a2 : Addr) (h0 : Heap) (n0 : Nat) (Z0 : n0 ≤ h0.size) (E_a1 : Exa Z h0 a1 "java/lang/String") (g_a1 : n0 ≤ a1) (F_value : Fld Z h0 a1 "java/lang/String" "value" "[B" .null) (F_coder : Fld Z h0 a1 "java/lang/String" "coder" "B" (.int (0 : Int32))) :
    MetFree l (⟨"java/lang/String", "<init>", "([BB)V"⟩ : MethodName) (head1 (Jvm.Cond.code (⟨"java/lang/String", "<init>", "([BB)V"⟩ : MethodName) jdk_42_method_151_code 3 none :: ws) room10) (fun aa_ U_ => aa_ = #[(.ref a1), (.ref a2), (.int (0 : Int32))] ∧ Z.Warmed39 U_.vm ∧ U_.heap = h0) (fun _ _ _ _ _ => True) (fun _ U_ o_ W_ => ∃ v_ L_, o_ = .returned v_ ∧ (Q10 Z a1 a2 h0 n0) v_ W_.heap L_ ∧ FrameEnd U_ o_ W_ L_ room10.cells room10.slots) := by
  refine own_met (Q := (Q10 Z a1 a2 h0 n0)) (L0 := #[.val (.ref a1), .val (.ref a2), .val (.int (0 : Int32))]) (plainFor_of_name pn_1) (fun m => by first | (simp [entryFrame, mkF, argsToLocals, Value.category]; done) | rfl) ?_
  intro p e s m below meth c T0 X0 hx hby hml hown hnm hret hlk hZ e0
  have N0 := Fr.nil n0
  have K0 := Keep.refl h0 [a1]
  refine Go.st (T' := T0) (pc' := 1) (L' := #[.val (.ref a1), .val (.ref a2), .val (.int (0 : Int32))]) (S' := [(.ref a1)]) (fun t k => XS.aloadN X0.here hx rfl (hb hby d10_0) rfl rfl  k) ?_
  obtain ⟨T1, X1, e1, st1⟩ := initO X0 hx hZ hown (hw _ (List.mem_of_getElem? (i := 11) rfl)) (hw _ (List.mem_of_getElem? (i := 12) rfl)) (hw _ (List.mem_of_getElem? (i := 13) rfl)) e0 (g := (mkF m 1 #[.val (.ref a1), .val (.ref a2), .val (.int (0 : Int32))] [(.ref a1)])) rfl (by rw [hml]; rfl) rfl (hb hby d10_1) (by decide) (W := 0) (by show 2 * 0 + _ ≤ _; exact Nat.le_of_eq rfl) (by decide)
  refine Go.st (T' := T1) (pc' := 4) (L' := #[.val (.ref a1), .val (.ref a2), .val (.int (0 : Int32))]) (S' := []) st1 ?_
  refine Go.st (T' := T1) (pc' := 5) (L' := #[.val (.ref a1), .val (.ref a2), .val (.int (0 : Int32))]) (S' := [(.ref a1)]) (fun t k => XS.aloadN X1.here hx rfl (hb hby d10_4) rfl rfl  k) ?_
  refine Go.st (T' := T1) (pc' := 6) (L' := #[.val (.ref a1), .val (.ref a2), .val (.int (0 : Int32))]) (S' := [(.ref a2), (.ref a1)]) (fun t k => XS.aloadN X1.here hx rfl (hb hby d10_5) rfl rfl  k) ?_
  obtain ⟨T2, h2, X2, e2, W2, st2⟩ := putF X1 hx hZ hown (host := "") (Or.inl (hw _ (List.mem_of_getElem? (i := 28) rfl))) Via.refl e1 F_value E_a1 (Or.inr ⟨(hw _ (List.mem_of_getElem? (i := 29) rfl)), rfl, hnm⟩) (hw _ (List.mem_of_getElem? (i := 1) rfl)) (ty := (.array .byte)) (by decide) rfl rfl (g := (mkF m 6 #[.val (.ref a1), .val (.ref a2), .val (.int (0 : Int32))] [(.ref a2), (.ref a1)])) rfl rfl (hb hby d10_6)
  replace Z0 := Nat.le_trans Z0 (Keep.of_wr W2).1
  replace K0 := K0.wr W2 (Or.inl (List.mem_of_getElem? (i := 0) rfl))
  replace E_a1 := E_a1.wr W2
  replace F_coder := F_coder.other W2 (Or.inr (slot_ne (Or.inr (hw _ (List.mem_of_getElem? (i := 27) rfl))) (Or.inr (hw _ (List.mem_of_getElem? (i := 29) rfl))) (by decide) (t := .byte) (t' := (.array .byte)) (by decide) (by decide)))
  replace F_value := F_value.same W2
  have N2 := Fr.snoc X2 N0 g_a1
  refine Go.st (T' := T2) (pc' := 9) (L' := #[.val (.ref a1), .val (.ref a2), .val (.int (0 : Int32))]) (S' := []) st2 ?_
  refine Go.st (T' := T2) (pc' := 10) (L' := #[.val (.ref a1), .val (.ref a2), .val (.int (0 : Int32))]) (S' := [(.ref a1)]) (fun t k => XS.aloadN X2.here hx rfl (hb hby d10_9) rfl rfl  k) ?_
  refine Go.st (T' := T2) (pc' := 11) (L' := #[.val (.ref a1), .val (.ref a2), .val (.int (0 : Int32))]) (S' := [(.int (0 : Int32)), (.ref a1)]) (fun t k => XS.iloadN X2.here hx rfl (hb hby d10_10) rfl  k) ?_
  obtain ⟨T3, h3, X3, e3, W3, st3⟩ := putFN X2 hx hZ hown (hw _ (List.mem_of_getElem? (i := 26) rfl)) Via.refl e2 F_coder E_a1 (Or.inr ⟨(hw _ (List.mem_of_getElem? (i := 27) rfl)), rfl, hnm⟩) (hw _ (List.mem_of_getElem? (i := 1) rfl)) (ty := .byte) (v' := (.int (0 : Int32))) (by decide) rfl rfl (g := (mkF m 11 #[.val (.ref a1), .val (.ref a2), .val (.int (0 : Int32))] [(.int (0 : Int32)), (.ref a1)])) rfl rfl (hb hby d10_11)
  replace Z0 := Nat.le_trans Z0 (Keep.of_wr W3).1
  replace K0 := K0.wr W3 (Or.inl (List.mem_of_getElem? (i := 0) rfl))
  replace E_a1 := E_a1.wr W3
  replace F_value := F_value.other W3 (Or.inr (slot_ne (Or.inr (hw _ (List.mem_of_getElem? (i := 29) rfl))) (Or.inr (hw _ (List.mem_of_getElem? (i := 27) rfl))) (by decide) (t := (.array .byte)) (t' := .byte) (by decide) (by decide)))
  replace F_coder := F_coder.same W3
  have N3 := Fr.snoc X3 N2 g_a1
  refine Go.st (T' := T3) (pc' := 14) (L' := #[.val (.ref a1), .val (.ref a2), .val (.int (0 : Int32))]) (S' := []) st3 ?_
  exact Go.retV X3 hx hlk hret (hb hby d10_14) (by decide) (by decide) (by rw [e3]; exact ⟨rfl, N3, K0, F_value, F_coder⟩)
theorem d7_0 : decode jdk_42_method_139_code 0 = .ok (.getstatic 38, 3) := by decide +kernel
theorem d7_3 : decode jdk_42_method_139_code 3 = .ok (.ifCond .eq 23, 3) := by decide +kernel
theorem d7_6 : decode jdk_42_method_139_code 6 = .ok (.iload_n 0, 1) := by decide +kernel
theorem d7_7 : decode jdk_42_method_139_code 7 = .ok (.invokestatic 1015, 3) := by decide +kernel
theorem d7_10 : decode jdk_42_method_139_code 10 = .ok (.ifCond .eq 16, 3) := by decide +kernel
theorem d7_13 : decode jdk_42_method_139_code 13 = .ok (.new 10, 3) := by decide +kernel
theorem d7_16 : decode jdk_42_method_139_code 16 = .ok (.dup, 1) := by decide +kernel
theorem d7_17 : decode jdk_42_method_139_code 17 = .ok (.iload_n 0, 1) := by decide +kernel
theorem d7_18 : decode jdk_42_method_139_code 18 = .ok (.invokestatic 1018, 3) := by decide +kernel
theorem d7_21 : decode jdk_42_method_139_code 21 = .ok (.iconst 0, 1) := by decide +kernel
theorem d7_22 : decode jdk_42_method_139_code 22 = .ok (.invokespecial 209, 3) := by decide +kernel
theorem d7_25 : decode jdk_42_method_139_code 25 = .ok (.areturn, 1) := by decide +kernel
theorem pd_0 : parseMethodDescriptor "(C)Z" = some ⟨[.char], some .boolean⟩ := by decide +kernel
theorem pd_1 : parseMethodDescriptor "(C)[B" = some ⟨[.char], some (.array .byte)⟩ := by decide +kernel
theorem pd_2 : parseMethodDescriptor "([BB)V" = some ⟨[(.array .byte), .byte], none⟩ := by decide +kernel
def Q7 (Z : State)  (h0 : Heap) (n0 : Nat) (v : Option Value) (h : Heap) (L : List Loc) : Prop := ∃ b : Addr, v = some (.ref b) ∧ Fr n0 L ∧ Keep h0 h [] ∧ n0 ≤ b ∧ h0.size ≤ b ∧ Exa Z h b "java/lang/String"
def room7 : Room := { frames := 2, cells := 2, slots := 5, locals := 27 }
set_option maxRecDepth 65536 in
set_option maxHeartbeats 40000000 in
theorem rm7 (l : Launch) (Z : State) (a0 : Array Value) (hw : ∀ d ∈ tables_1, d.before a0 Z = true) (ws : List Jvm.Cond) (c1 : Int32) (gC : Int32) (h0 : Heap) (n0 : Nat) (Z0 : n0 ≤ h0.size) (SC : Sta Z Z.heap "java/lang/String" "COMPACT_STRINGS" "Z" (.int gC)) (PC : ¬ (gC = (0 : Int32))) (O0 : Old Z n0 h0) (hc : ¬ c1 < 0 ∧ ¬ (255 : Int32) < c1) :
    MetFree l (⟨"java/lang/String", "valueOf", "(C)Ljava/lang/String;"⟩ : MethodName) (head1 (Jvm.Cond.code (⟨"java/lang/String", "valueOf", "(C)Ljava/lang/String;"⟩ : MethodName) jdk_42_method_139_code 1 (some (.object "java/lang/String")) :: ws) room7) (fun aa_ U_ => aa_ = #[(.int c1)] ∧ Z.Warmed39 U_.vm ∧ U_.heap = h0) (fun _ _ _ _ _ => True) (fun _ U_ o_ W_ => ∃ v_ L_, o_ = .returned v_ ∧ (Q7 Z  h0 n0) v_ W_.heap L_ ∧ FrameEnd U_ o_ W_ L_ room7.cells room7.slots) := by
  refine own_met (Q := (Q7 Z  h0 n0)) (L0 := #[.val (.int c1)]) (plainFor_of_name pn_1) (fun m => by first | (simp [entryFrame, mkF, argsToLocals, Value.category]; done) | rfl) ?_
  intro p e s m below meth c T0 X0 hx hby hml hown hnm hret hlk hZ e0
  have N0 := Fr.nil n0
  have K0 := Keep.refl h0 []
  obtain ⟨T1, X1, e1, st1⟩ := getS2 X0 hx hZ hown (host := "") (Or.inl (hw _ (List.mem_of_getElem? (i := 14) rfl))) Via.refl e0 (SC.ext O0.2) (g := (mkF m 0 #[.val (.int c1)] [])) rfl (hb hby d7_0)
  refine Go.st (T' := T1) (pc' := 3) (L' := #[.val (.int c1)]) (S' := [(.int gC)]) st1 ?_
  refine Go.st (T' := T1) (pc' := 6) (L' := #[.val (.int c1)]) (S' := []) (fun t k => XS.ifNo X1.here hx rfl (hb hby d7_3) rfl ((if0 _ _).trans (feq (PC : ¬ (gC = (0 : Int32)))).1) k) ?_
  refine Go.st (T' := T1) (pc' := 7) (L' := #[.val (.int c1)]) (S' := [(.int c1)]) (fun t k => XS.iloadN X1.here hx rfl (hb hby d7_6) rfl  k) ?_
  obtain ⟨_, _, ⟨T2, L2, k2, n2⟩, -, X2, ⟨Lc2, hQ2, l2, y2, z2⟩, st2⟩ := Jvm.LawKit.callS X1 hx (y := (⟨"java/lang/StringLatin1", "canEncode", "(C)Z"⟩ : MethodName)) hown (mvT hZ (hw _ (List.mem_of_getElem? (i := 33) rfl))) (mvT hZ (hw _ (List.mem_of_getElem? (i := 34) rfl))) (mvT hZ (hw _ (List.mem_of_getElem? (i := 35) rfl))) (mvT hZ (hw _ (List.mem_of_getElem? (i := 36) rfl))) (by decide) (backOf (W := 0) (rm8 l Z a0 hw [] c1 h0 n0 Z0 hc) hZ (hw _ (List.mem_of_getElem? (i := 36) rfl)) (hw _ (List.mem_of_getElem? (i := 35) rfl)) (by decide) (by decide)) (g := (mkF m 7 #[.val (.int c1)] [(.int c1)])) rfl (by rw [hml]; rfl) (argsL := [(.int c1)]) (rest := []) (lenOf pd_0 rfl) rfl (by show 2 * 0 + _ ≤ _; exact Nat.le_of_eq rfl) (hb hby d7_7) (fun _ _ => ⟨rfl, e1, (by decide : 0 + 0 ≤ _), (by decide : 0 + 0 ≤ _)⟩)
  dsimp only [Pt.U, Pt.locs, Pt.cells, Pt.slots] at X2 l2 y2 z2 st2 hQ2
  subst l2 y2 z2
  obtain ⟨rfl, N2q, e2⟩ := hQ2
  have N2 := Fr.app N0 N2q
  refine Go.st (T' := T2) (pc' := 10) (L' := #[.val (.int c1)]) (S' := [(.int (1 : Int32))]) st2 ?_
  refine Go.st (T' := T2) (pc' := 13) (L' := #[.val (.int c1)]) (S' := []) (fun t k => XS.ifNo X2.here hx rfl (hb hby d7_10) rfl ((if0 _ _).trans (feq (by decide : ¬ ((1 : Int32) = (0 : Int32)))).1) k) ?_
  obtain ⟨T3, h3, X3, e3, E3, A3, D3, U3, st3⟩ := newO X2 hx hZ hown (hw _ (List.mem_of_getElem? (i := 37) rfl)) (hw _ (List.mem_of_getElem? (i := 1) rfl)) (hw _ (List.mem_of_getElem? (i := 2) rfl)) e2 (g := (mkF m 13 #[.val (.int c1)] [])) rfl (hb hby d7_13) (by decide) (by decide)
  obtain ⟨b3, g3⟩ : ∃ z, z = h0.size := ⟨_, rfl⟩
  rw [← g3] at A3 D3 U3 st3
  have g_b3 : n0 ≤ b3 := Nat.le_trans Z0 (Nat.le_of_eq g3.symm)
  have sz_b3 : h0.size ≤ b3 := Nat.le_trans K0.1 (Nat.le_of_eq g3.symm)
  replace Z0 := Nat.le_trans Z0 E3.1
  replace K0 := K0.ext E3
  replace O0 := O0.ext E3
  have E_b3 := A3
  have F_b3_coder : Fld Z h3 b3 "java/lang/String" "coder" "B" (.int (0 : Int32)) := D3 (Or.inr (hw _ (List.mem_of_getElem? (i := 27) rfl))) (ty := .byte) (by decide)
  have F_b3_value : Fld Z h3 b3 "java/lang/String" "value" "[B" .null := D3 (Or.inr (hw _ (List.mem_of_getElem? (i := 29) rfl))) (ty := (.array .byte)) (by decide)
  refine Go.st (T' := T3) (pc' := 16) (L' := #[.val (.int c1)]) (S' := [(.ref b3)]) st3 ?_
  refine Go.st (T' := T3) (pc' := 17) (L' := #[.val (.int c1)]) (S' := [(.ref b3), (.ref b3)]) (fun t k => XS.dup X3.here hx rfl (hb hby d7_16) rfl rfl k) ?_
  refine Go.st (T' := T3) (pc' := 18) (L' := #[.val (.int c1)]) (S' := [(.int c1), (.ref b3), (.ref b3)]) (fun t k => XS.iloadN X3.here hx rfl (hb hby d7_17) rfl  k) ?_
  obtain ⟨_, _, ⟨T4, L4, k4, n4⟩, -, X4, ⟨Lc4, hQ4, l4, y4, z4⟩, st4⟩ := Jvm.LawKit.callS X3 hx (y := (⟨"java/lang/StringLatin1", "toBytes", "(C)[B"⟩ : MethodName)) hown (mvT hZ (hw _ (List.mem_of_getElem? (i := 38) rfl))) (mvT hZ (hw _ (List.mem_of_getElem? (i := 39) rfl))) (mvT hZ (hw _ (List.mem_of_getElem? (i := 35) rfl))) (mvT hZ (hw _ (List.mem_of_getElem? (i := 40) rfl))) (by decide) (backOf (W := 2) (rm9 l Z a0 hw [] c1 h3 n0 Z0) hZ (hw _ (List.mem_of_getElem? (i := 40) rfl)) (hw _ (List.mem_of_getElem? (i := 35) rfl)) (by decide) (by decide)) (g := (mkF m 18 #[.val (.int c1)] [(.int c1), (.ref b3), (.ref b3)])) rfl (by rw [hml]; rfl) (argsL := [(.int c1)]) (rest := [(.ref b3), (.ref b3)]) (lenOf pd_1 rfl) rfl (by show 2 * 0 + _ ≤ _; exact Nat.le_of_eq rfl) (hb hby d7_18) (fun _ _ => ⟨rfl, e3, (by decide : 1 + 1 ≤ _), (by decide : 4 + 1 ≤ _)⟩)
  dsimp only [Pt.U, Pt.locs, Pt.cells, Pt.slots] at X4 l4 y4 z4 st4 hQ4
  subst l4 y4 z4
  obtain ⟨b4, rfl, N4q, K4, g_b4, lt4⟩ := hQ4
  have N4 := Fr.app N2 N4q
  have ne_b3_b4 : b3 ≠ b4 := Nat.ne_of_lt (Nat.lt_of_lt_of_le E_b3.lt lt4)
  have sz_b4 : h0.size ≤ b4 := Nat.le_trans K0.1 lt4
  obtain ⟨h4, e4⟩ : ∃ z, T4.heap = z := ⟨_, rfl⟩
  rw [e4] at K4
  replace Z0 := Nat.le_trans Z0 K4.1
  replace K0 := K0.trans K4 all0
  replace O0 := O0.keep K4 all0
  replace E_b3 := E_b3.keep K4
  replace F_b3_coder := F_b3_coder.keep K4 nin0
  replace F_b3_value := F_b3_value.keep K4 nin0
  refine Go.st (T' := T4) (pc' := 21) (L' := #[.val (.int c1)]) (S' := [(.ref b4), (.ref b3), (.ref b3)]) st4 ?_
  refine Go.st (T' := T4) (pc' := 22) (L' := #[.val (.int c1)]) (S' := [(.int (0 : Int32)), (.ref b4), (.ref b3), (.ref b3)]) (fun t k => XS.iconst X4.here hx rfl (hb hby d7_21) k) ?_
  obtain ⟨_, _, ⟨T5, L5, k5, n5⟩, -, X5, ⟨Lc5, hQ5, l5, y5, z5⟩, st5⟩ := X4.specialBack hx (y := (⟨"java/lang/String", "<init>", "([BB)V"⟩ : MethodName)) rfl hown (mvT hZ (hw _ (List.mem_of_getElem? (i := 41) rfl))) (mvT hZ (hw _ (List.mem_of_getElem? (i := 42) rfl))) (mvT hZ (hw _ (List.mem_of_getElem? (i := 43) rfl))) (by decide) (backOf (W := 1) (rm10 l Z a0 hw [] b3 b4 h4 n0 Z0 E_b3 g_b3 F_b3_value F_b3_coder) hZ (hw _ (List.mem_of_getElem? (i := 43) rfl)) (hw _ (List.mem_of_getElem? (i := 2) rfl)) (by decide) (by decide)) (g := (mkF m 22 #[.val (.int c1)] [(.int (0 : Int32)), (.ref b4), (.ref b3), (.ref b3)])) rfl (by rw [hml]; rfl) (Steps.refl _) (a := b3) (argsL := [(.ref b4), (.int (0 : Int32))]) (rest := [(.ref b3)]) (lenOf pd_2 rfl) rfl (by show 2 * 0 + _ ≤ _; exact Nat.le_of_eq rfl) (hb hby d7_22) (fun _ _ => ⟨rfl, e4, (by decide : 2 + 0 ≤ _), (by decide : 5 + 0 ≤ _)⟩)
  dsimp only [Pt.U, Pt.locs, Pt.cells, Pt.slots] at X5 l5 y5 z5 st5 hQ5
  subst l5 y5 z5
  obtain ⟨rfl, N5q, K5, G5_value, G5_coder⟩ := hQ5
  have N5 := Fr.app N4 N5q
  obtain ⟨h5, e5⟩ : ∃ z, T5.heap = z := ⟨_, rfl⟩
  rw [e5] at K5 G5_value G5_coder
  replace Z0 := Nat.le_trans Z0 K5.1
  replace K0 := K0.trans K5 (allS (Or.inr sz_b3) all0)
  replace O0 := O0.keep K5 (allS g_b3 all0)
  replace E_b3 := E_b3.keep K5
  refine Go.tr (T' := T5) (pc' := 25) (L' := #[.val (.int c1)]) (S' := [(.ref b3)]) st5 ?_
  exact Go.retO X5 hx hlk hret rfl (by simp [FieldType.isReference, Value.isRef]) (hb hby d7_25) (by decide) (by decide) (by rw [e5]; exact ⟨b3, rfl, N5, K0, g_b3, sz_b3, E_b3⟩)
theorem d13_0 : decode jdk_22_method_1_code 0 = .ok (.aload_n 0, 1) := by decide +kernel
theorem d13_1 : decode jdk_22_method_1_code 1 = .ok (.invokespecial 1, 3) := by decide +kernel
theorem d13_4 : decode jdk_22_method_1_code 4 = .ok (.return_, 1) := by decide +kernel
theorem pn_2 : plainName "java/util/AbstractCollection" = true := by first | (simp [plainName, overriddenIn]; done) | decide +kernel
def Q13 (Z : State) (a1 : Addr) (h0 : Heap) (n0 : Nat) (v : Option Value) (h : Heap) (L : List Loc) : Prop := v = none ∧ Fr n0 L ∧ h = h0
def room13 : Room := { frames := 1, cells := 0, slots := 0, locals := 12 }
set_option maxRecDepth 65536 in
set_option maxHeartbeats 40000000 in
theorem rm13 (l : Launch) (Z : State) (a0 : Array Value) (hw : ∀ d ∈ tables_1, d.before a0 Z = true) (ws : List Jvm.Cond) (a1 : Addr) (h0 : Heap) (n0 : Nat) (Z0 : n0 ≤ h0.size)  :
    MetFree l (⟨"java/util/AbstractCollection", "<init>", "()V"⟩ : MethodName) (head1 (Jvm.Cond.code (⟨"java/util/AbstractCollection", "<init>", "()V"⟩ : MethodName) jdk_22_method_1_code 1 none :: ws) room13) (fun aa_ U_ => aa_ = #[(.ref a1)] ∧ Z.Warmed39 U_.vm ∧ U_.heap = h0) (fun _ _ _ _ _ => True) (fun _ U_ o_ W_ => ∃ v_ L_, o_ = .returned v_ ∧ (Q13 Z a1 h0 n0) v_ W_.heap L_ ∧ FrameEnd U_ o_ W_ L_ room13.cells room13.slots) := by
  refine own_met (Q := (Q13 Z a1 h0 n0)) (L0 := #[.val (.ref a1)]) (plainFor_of_name pn_2) (fun m => by first | (simp [entryFrame, mkF, argsToLocals, Value.category]; done) | rfl) ?_
  intro p e s m below meth c T0 X0 hx hby hml hown hnm hret hlk hZ e0
  have N0 := Fr.nil n0
  refine Go.st (T' := T0) (pc' := 1) (L' := #[.val (.ref a1)]) (S' := [(.ref a1)]) (fun t k => XS.aloadN X0.here hx rfl (hb hby d13_0) rfl rfl  k) ?_
  obtain ⟨T1, X1, e1, st1⟩ := initO X0 hx hZ hown (hw _ (List.mem_of_getElem? (i := 63) rfl)) (hw _ (List.mem_of_getElem? (i := 12) rfl)) (hw _ (List.mem_of_getElem? (i := 13) rfl)) e0 (g := (mkF m 1 #[.val (.ref a1)] [(.ref a1)])) rfl (by rw [hml]; rfl) rfl (hb hby d13_1) (by decide) (W := 0) (by show 2 * 0 + _ ≤ _; exact Nat.le_of_eq rfl) (by decide)
  refine Go.st (T' := T1) (pc' := 4) (L' := #[.val (.ref a1)]) (S' := []) st1 ?_
  exact Go.retV X1 hx hlk hret (hb hby d13_4) (by decide) (by decide) (by rw [e1]; exact ⟨rfl, N0, rfl⟩)
theorem d12_0 : decode jdk_39_method_1_code 0 = .ok (.aload_n 0, 1) := by decide +kernel
theorem d12_1 : decode jdk_39_method_1_code 1 = .ok (.invokespecial 1, 3) := by decide +kernel
theorem d12_4 : decode jdk_39_method_1_code 4 = .ok (.aload_n 0, 1) := by decide +kernel
theorem d12_5 : decode jdk_39_method_1_code 5 = .ok (.iconst 0, 1) := by decide +kernel
theorem d12_6 : decode jdk_39_method_1_code 6 = .ok (.putfield 7, 3) := by decide +kernel
theorem d12_9 : decode jdk_39_method_1_code 9 = .ok (.return_, 1) := by decide +kernel
theorem pd_3 : parseMethodDescriptor "()V" = some ⟨[], none⟩ := by decide +kernel
theorem pn_3 : plainName "java/util/AbstractList" = true := by first | (simp [plainName, overriddenIn]; done) | decide +kernel
def Q12 (Z : State) (a1 : Addr) (h0 : Heap) (n0 : Nat) (v : Option Value) (h : Heap) (L : List Loc) : Prop := v = none ∧ Fr n0 L ∧ Keep h0 h [a1] ∧ Fld Z h a1 "java/util/AbstractList" "modCount" "I" (.int (0 : Int32)) ∧ Fld Z h a1 "java/util/ArrayList" "elementData" "[Ljava/lang/Object;" .null ∧ Fld Z h a1 "java/util/ArrayList" "size" "I" (.int (0 : Int32))
def room12 : Room := { frames := 2, cells := 0, slots := 0, locals := 24 }
set_option maxRecDepth 65536 in
set_option maxHeartbeats 40000000 in
theorem rm12 (l : Launch) (Z : State) (a0 : Array Value) (hw : ∀ d ∈ tables_1, d.before a0 Z = true) (ws : List Jvm.Cond) (a1 : Addr) (h0 : Heap) (n0 : Nat) (Z0 : n0 ≤ h0.size) (E_a1 : Exa Z h0 a1 "java/util/ArrayList") (g_a1 : n0 ≤ a1) (F_modCount : Fld Z h0 a1 "java/util/AbstractList" "modCount" "I" (.int (0 : Int32))) (F_elementData : Fld Z h0 a1 "java/util/ArrayList" "elementData" "[Ljava/lang/Object;" .null) (F_size : Fld Z h0 a1 "java/util/ArrayList" "size" "I" (.int (0 : Int32))) :
    MetFree l (⟨"java/util/AbstractList", "<init>", "()V"⟩ : MethodName) (head1 (Jvm.Cond.code (⟨"java/util/AbstractList", "<init>", "()V"⟩ : MethodName) jdk_39_method_1_code 1 none :: ws) room12) (fun aa_ U_ => aa_ = #[(.ref a1)] ∧ Z.Warmed39 U_.vm ∧ U_.heap = h0) (fun _ _ _ _ _ => True) (fun _ U_ o_ W_ => ∃ v_ L_, o_ = .returned v_ ∧ (Q12 Z a1 h0 n0) v_ W_.heap L_ ∧ FrameEnd U_ o_ W_ L_ room12.cells room12.slots) := by
  refine own_met (Q := (Q12 Z a1 h0 n0)) (L0 := #[.val (.ref a1)]) (plainFor_of_name pn_3) (fun m => by first | (simp [entryFrame, mkF, argsToLocals, Value.category]; done) | rfl) ?_
  intro p e s m below meth c T0 X0 hx hby hml hown hnm hret hlk hZ e0
  have N0 := Fr.nil n0
  have K0 := Keep.refl h0 [a1]
  refine Go.st (T' := T0) (pc' := 1) (L' := #[.val (.ref a1)]) (S' := [(.ref a1)]) (fun t k => XS.aloadN X0.here hx rfl (hb hby d12_0) rfl rfl  k) ?_
  obtain ⟨_, _, ⟨T1, L1, k1, n1⟩, -, X1, ⟨Lc1, hQ1, l1, y1, z1⟩, st1⟩ := X0.specialBack hx (y := (⟨"java/util/AbstractCollection", "<init>", "()V"⟩ : MethodName)) rfl hown (mvT hZ (hw _ (List.mem_of_getElem? (i := 57) rfl))) (mvT hZ (hw _ (List.mem_of_getElem? (i := 58) rfl))) (mvT hZ (hw _ (List.mem_of_getElem? (i := 62) rfl))) (by decide) (backOf (W := 0) (rm13 l Z a0 hw [] a1 h0 n0 Z0) hZ (hw _ (List.mem_of_getElem? (i := 62) rfl)) (hw _ (List.mem_of_getElem? (i := 61) rfl)) (by decide) (by decide)) (g := (mkF m 1 #[.val (.ref a1)] [(.ref a1)])) rfl (by rw [hml]; rfl) (Steps.refl _) (a := a1) (argsL := []) (rest := []) (lenOf pd_3 rfl) rfl (by show 2 * 0 + _ ≤ _; exact Nat.le_of_eq rfl) (hb hby d12_1) (fun _ _ => ⟨rfl, e0, (by decide : 0 + 0 ≤ _), (by decide : 0 + 0 ≤ _)⟩)
  dsimp only [Pt.U, Pt.locs, Pt.cells, Pt.slots] at X1 l1 y1 z1 st1 hQ1
  subst l1 y1 z1
  obtain ⟨rfl, N1q, e1⟩ := hQ1
  have N1 := Fr.app N0 N1q
  refine Go.tr (T' := T1) (pc' := 4) (L' := #[.val (.ref a1)]) (S' := []) st1 ?_
  refine Go.st (T' := T1) (pc' := 5) (L' := #[.val (.ref a1)]) (S' := [(.ref a1)]) (fun t k => XS.aloadN X1.here hx rfl (hb hby d12_4) rfl rfl  k) ?_
  refine Go.st (T' := T1) (pc' := 6) (L' := #[.val (.ref a1)]) (S' := [(.int (0 : Int32)), (.ref a1)]) (fun t k => XS.iconst X1.here hx rfl (hb hby d12_5) k) ?_
  obtain ⟨T2, h2, X2, e2, W2, st2⟩ := putF X1 hx hZ hown (host := "") (Or.inl (hw _ (List.mem_of_getElem? (i := 64) rfl))) Via.refl e1 F_modCount E_a1 (Or.inl (hw _ (List.mem_of_getElem? (i := 65) rfl))) (hw _ (List.mem_of_getElem? (i := 46) rfl)) (ty := .int) (by decide) rfl rfl (g := (mkF m 6 #[.val (.ref a1)] [(.int (0 : Int32)), (.ref a1)])) rfl rfl (hb hby d12_6)
  replace Z0 := Nat.le_trans Z0 (Keep.of_wr W2).1
  replace K0 := K0.wr W2 (Or.inl (List.mem_of_getElem? (i := 0) rfl))
  replace E_a1 := E_a1.wr W2
  replace F_elementData := F_elementData.other W2 (Or.inr (slot_ne (Or.inl (hw _ (List.mem_of_getElem? (i := 68) rfl))) (Or.inl (hw _ (List.mem_of_getElem? (i := 65) rfl))) (by decide) (t := (.array (.object "java/lang/Object"))) (t' := .int) (by decide) (by decide)))
  replace F_size := F_size.other W2 (Or.inr (slot_ne (Or.inl (hw _ (List.mem_of_getElem? (i := 77) rfl))) (Or.inl (hw _ (List.mem_of_getElem? (i := 65) rfl))) (by decide) (t := .int) (t' := .int) (by decide) (by decide)))
  replace F_modCount := F_modCount.same W2
  have N2 := Fr.snoc X2 N1 g_a1
  refine Go.st (T' := T2) (pc' := 9) (L' := #[.val (.ref a1)]) (S' := []) st2 ?_
  exact Go.retV X2 hx hlk hret (hb hby d12_9) (by decide) (by decide) (by rw [e2]; exact ⟨rfl, N2, K0, F_modCount, F_elementData, F_size⟩)
theorem d11_0 : decode jdk_38_method_2_code 0 = .ok (.aload_n 0, 1) := by decide +kernel
theorem d11_1 : decode jdk_38_method_2_code 1 = .ok (.invokespecial 1, 3) := by decide +kernel
theorem d11_4 : decode jdk_38_method_2_code 4 = .ok (.aload_n 0, 1) := by decide +kernel
theorem d11_5 : decode jdk_38_method_2_code 5 = .ok (.getstatic 39, 3) := by decide +kernel
theorem d11_8 : decode jdk_38_method_2_code 8 = .ok (.putfield 9, 3) := by decide +kernel
theorem d11_11 : decode jdk_38_method_2_code 11 = .ok (.return_, 1) := by decide +kernel
theorem pn_4 : plainName "java/util/ArrayList" = true := by first | (simp [plainName, overriddenIn]; done) | decide +kernel
def Q11 (Z : State) (a1 : Addr) (d0 : Addr) (h0 : Heap) (n0 : Nat) (v : Option Value) (h : Heap) (L : List Loc) : Prop := v = none ∧ Fr n0 L ∧ Keep h0 h [a1] ∧ Fld Z h a1 "java/util/AbstractList" "modCount" "I" (.int (0 : Int32)) ∧ Fld Z h a1 "java/util/ArrayList" "elementData" "[Ljava/lang/Object;" (.ref d0) ∧ Fld Z h a1 "java/util/ArrayList" "size" "I" (.int (0 : Int32))
def room11 : Room := { frames := 3, cells := 0, slots := 0, locals := 36 }
set_option maxRecDepth 65536 in
set_option maxHeartbeats 40000000 in
theorem rm11 (l : Launch) (Z : State) (a0 : Array Value) (hw : ∀ d ∈ tables_1, d.before a0 Z = true) (ws : List Jvm.Cond) (a1 : Addr) (d0 : Addr) (h0 : Heap) (n0 : Nat) (Z0 : n0 ≤ h0.size) (SD : Sta Z Z.heap "java/util/ArrayList" "DEFAULTCAPACITY_EMPTY_ELEMENTDATA" "[Ljava/lang/Object;" (.ref d0)) (O0 : Old Z n0 h0) (E_a1 : Exa Z h0 a1 "java/util/ArrayList") (g_a1 : n0 ≤ a1) (F_modCount : Fld Z h0 a1 "java/util/AbstractList" "modCount" "I" (.int (0 : Int32))) (F_elementData : Fld Z h0 a1 "java/util/ArrayList" "elementData" "[Ljava/lang/Object;" .null) (F_size : Fld Z h0 a1 "java/util/ArrayList" "size" "I" (.int (0 : Int32))) :
    MetFree l (⟨"java/util/ArrayList", "<init>", "()V"⟩ : MethodName) (head1 (Jvm.Cond.code (⟨"java/util/ArrayList", "<init>", "()V"⟩ : MethodName) jdk_38_method_2_code 1 none :: ws) room11) (fun aa_ U_ => aa_ = #[(.ref a1)] ∧ Z.Warmed39 U_.vm ∧ U_.heap = h0) (fun _ _ _ _ _ => True) (fun _ U_ o_ W_ => ∃ v_ L_, o_ = .returned v_ ∧ (Q11 Z a1 d0 h0 n0) v_ W_.heap L_ ∧ FrameEnd U_ o_ W_ L_ room11.cells room11.slots) := by
  refine own_met (Q := (Q11 Z a1 d0 h0 n0)) (L0 := #[.val (.ref a1)]) (plainFor_of_name pn_4) (fun m => by first | (simp [entryFrame, mkF, argsToLocals, Value.category]; done) | rfl) ?_
  intro p e s m below meth c T0 X0 hx hby hml hown hnm hret hlk hZ e0
  have N0 := Fr.nil n0
  have K0 := Keep.refl h0 [a1]
  refine Go.st (T' := T0) (pc' := 1) (L' := #[.val (.ref a1)]) (S' := [(.ref a1)]) (fun t k => XS.aloadN X0.here hx rfl (hb hby d11_0) rfl rfl  k) ?_
  obtain ⟨_, _, ⟨T1, L1, k1, n1⟩, -, X1, ⟨Lc1, hQ1, l1, y1, z1⟩, st1⟩ := X0.specialBack hx (y := (⟨"java/util/AbstractList", "<init>", "()V"⟩ : MethodName)) rfl hown (mvT hZ (hw _ (List.mem_of_getElem? (i := 51) rfl))) (mvT hZ (hw _ (List.mem_of_getElem? (i := 52) rfl))) (mvT hZ (hw _ (List.mem_of_getElem? (i := 56) rfl))) (by decide) (backOf (W := 0) (rm12 l Z a0 hw [] a1 h0 n0 Z0 E_a1 g_a1 F_modCount F_elementData F_size) hZ (hw _ (List.mem_of_getElem? (i := 56) rfl)) (hw _ (List.mem_of_getElem? (i := 55) rfl)) (by decide) (by decide)) (g := (mkF m 1 #[.val (.ref a1)] [(.ref a1)])) rfl (by rw [hml]; rfl) (Steps.refl _) (a := a1) (argsL := []) (rest := []) (lenOf pd_3 rfl) rfl (by show 2 * 0 + _ ≤ _; exact Nat.le_of_eq rfl) (hb hby d11_1) (fun _ _ => ⟨rfl, e0, (by decide : 0 + 0 ≤ _), (by decide : 0 + 0 ≤ _)⟩)
  dsimp only [Pt.U, Pt.locs, Pt.cells, Pt.slots] at X1 l1 y1 z1 st1 hQ1
  subst l1 y1 z1
  obtain ⟨rfl, N1q, K1, G1_modCount, G1_elementData, G1_size⟩ := hQ1
  have N1 := Fr.app N0 N1q
  obtain ⟨h1, e1⟩ : ∃ z, T1.heap = z := ⟨_, rfl⟩
  rw [e1] at K1 G1_modCount G1_elementData G1_size
  replace Z0 := Nat.le_trans Z0 K1.1
  replace K0 := K0.trans K1 (allS (Or.inl (List.mem_of_getElem? (i := 0) rfl)) all0)
  replace O0 := O0.keep K1 (allS g_a1 all0)
  replace E_a1 := E_a1.keep K1
  refine Go.tr (T' := T1) (pc' := 4) (L' := #[.val (.ref a1)]) (S' := []) st1 ?_
  refine Go.st (T' := T1) (pc' := 5) (L' := #[.val (.ref a1)]) (S' := [(.ref a1)]) (fun t k => XS.aloadN X1.here hx rfl (hb hby d11_4) rfl rfl  k) ?_
  obtain ⟨T2, X2, e2, st2⟩ := getS2 X1 hx hZ hown (host := "") (Or.inl (hw _ (List.mem_of_getElem? (i := 66) rfl))) Via.refl e1 (SD.ext O0.2) (g := (mkF m 5 #[.val (.ref a1)] [(.ref a1)])) rfl (hb hby d11_5)
  refine Go.st (T' := T2) (pc' := 8) (L' := #[.val (.ref a1)]) (S' := [(.ref d0), (.ref a1)]) st2 ?_
  obtain ⟨T3, h3, X3, e3, W3, st3⟩ := putF X2 hx hZ hown (host := "") (Or.inl (hw _ (List.mem_of_getElem? (i := 67) rfl))) Via.refl e2 G1_elementData E_a1 (Or.inl (hw _ (List.mem_of_getElem? (i := 68) rfl))) (hw _ (List.mem_of_getElem? (i := 46) rfl)) (ty := (.array (.object "java/lang/Object"))) (by decide) rfl rfl (g := (mkF m 8 #[.val (.ref a1)] [(.ref d0), (.ref a1)])) rfl rfl (hb hby d11_8)
  replace Z0 := Nat.le_trans Z0 (Keep.of_wr W3).1
  replace K0 := K0.wr W3 (Or.inl (List.mem_of_getElem? (i := 0) rfl))
  replace O0 := O0.wr W3 g_a1
  replace E_a1 := E_a1.wr W3
  replace G1_modCount := G1_modCount.other W3 (Or.inr (slot_ne (Or.inl (hw _ (List.mem_of_getElem? (i := 65) rfl))) (Or.inl (hw _ (List.mem_of_getElem? (i := 68) rfl))) (by decide) (t := .int) (t' := (.array (.object "java/lang/Object"))) (by decide) (by decide)))
  replace G1_size := G1_size.other W3 (Or.inr (slot_ne (Or.inl (hw _ (List.mem_of_getElem? (i := 77) rfl))) (Or.inl (hw _ (List.mem_of_getElem? (i := 68) rfl))) (by decide) (t := .int) (t' := (.array (.object "java/lang/Object"))) (by decide) (by decide)))
  replace G1_elementData := G1_elementData.same W3
  have N3 := Fr.snoc X3 N1 g_a1
  refine Go.st (T' := T3) (pc' := 11) (L' := #[.val (.ref a1)]) (S' := []) st3 ?_
  exact Go.retV X3 hx hlk hret (hb hby d11_11) (by decide) (by decide) (by rw [e3]; exact ⟨rfl, N3, K0, G1_modCount, G1_elementData, G1_size⟩)
theorem d18_0 : decode jdk_29_method_65_code 0 = .ok (.iload_n 0, 1) := by decide +kernel
theorem d18_1 : decode jdk_29_method_65_code 1 = .ok (.iload_n 1, 1) := by decide +kernel
theorem d18_2 : decode jdk_29_method_65_code 2 = .ok (.if_icmp .lt 7, 3) := by decide +kernel
theorem d18_5 : decode jdk_29_method_65_code 5 = .ok (.iload_n 0, 1) := by decide +kernel
theorem d18_6 : decode jdk_29_method_65_code 6 = .ok (.goto 4, 3) := by decide +kernel
theorem d18_10 : decode jdk_29_method_65_code 10 = .ok (.ireturn, 1) := by decide +kernel
def Q18 (Z : State)  (h0 : Heap) (n0 : Nat) (v : Option Value) (h : Heap) (L : List Loc) : Prop := v = some (.int 10) ∧ Fr n0 L ∧ h = h0
def room18 : Room := { frames := 0, cells := 0, slots := 0, locals := 0 }
set_option maxRecDepth 65536 in
set_option maxHeartbeats 40000000 in
theorem rm18 (l : Launch) (Z : State) (a0 : Array Value) (hw : ∀ d ∈ tables_1, d.before a0 Z = true) (ws : List Jvm.Cond)  (h0 : Heap) (n0 : Nat) (Z0 : n0 ≤ h0.size)  :
    MetFree l (⟨"java/lang/Math", "max", "(II)I"⟩ : MethodName) (head1 (Jvm.Cond.code (⟨"java/lang/Math", "max", "(II)I"⟩ : MethodName) jdk_29_method_65_code 2 (some .int) :: ws) room18) (fun aa_ U_ => aa_ = #[(.int (10 : Int32)), (.int ((0 : Int32) + (1 : Int32)))] ∧ Z.Warmed39 U_.vm ∧ U_.heap = h0) (fun _ _ _ _ _ => True) (fun _ U_ o_ W_ => ∃ v_ L_, o_ = .returned v_ ∧ (Q18 Z  h0 n0) v_ W_.heap L_ ∧ FrameEnd U_ o_ W_ L_ room18.cells room18.slots) := by
  refine own_met (Q := (Q18 Z  h0 n0)) (L0 := #[.val (.int (10 : Int32)), .val (.int ((0 : Int32) + (1 : Int32)))]) (Jvm.Free.JP.mathPlain rfl (by decide +kernel)) (fun m => by first | (simp [entryFrame, mkF, argsToLocals, Value.category]; done) | rfl) ?_
  intro p e s m below meth c T0 X0 hx hby hml hown hnm hret hlk hZ e0
  have N0 := Fr.nil n0
  refine Go.st (T' := T0) (pc' := 1) (L' := #[.val (.int (10 : Int32)), .val (.int ((0 : Int32) + (1 : Int32)))]) (S' := [(.int (10 : Int32))]) (fun t k => XS.iloadN X0.here hx rfl (hb hby d18_0) rfl  k) ?_
  refine Go.st (T' := T0) (pc' := 2) (L' := #[.val (.int (10 : Int32)), .val (.int ((0 : Int32) + (1 : Int32)))]) (S' := [(.int ((0 : Int32) + (1 : Int32))), (.int (10 : Int32))]) (fun t k => XS.iloadN X0.here hx rfl (hb hby d18_1) rfl  k) ?_
  refine Go.st (T' := T0) (pc' := 5) (L' := #[.val (.int (10 : Int32)), .val (.int ((0 : Int32) + (1 : Int32)))]) (S' := []) (fun t k => XS.icmpNo X0.here hx rfl (hb hby d18_2) rfl (flt (by decide : ¬ ((10 : Int32) < ((0 : Int32) + (1 : Int32))))).1 k) ?_
  refine Go.st (T' := T0) (pc' := 6) (L' := #[.val (.int (10 : Int32)), .val (.int ((0 : Int32) + (1 : Int32)))]) (S' := [(.int (10 : Int32))]) (fun t k => XS.iloadN X0.here hx rfl (hb hby d18_5) rfl  k) ?_
  refine Go.st (T' := T0) (pc' := 10) (L' := #[.val (.int (10 : Int32)), .val (.int ((0 : Int32) + (1 : Int32)))]) (S' := [(.int (10 : Int32))]) (fun t k => XS.goto X0.here hx rfl (pc0 := 6) (pc' := 10) rfl (hb hby d18_6) (by decide) (by decide) k) ?_
  exact Go.retO X0 hx hlk hret rfl (by simp [FieldType.isReference, Value.isRef]) (hb hby d18_10) (by decide) (by decide) (by rw [e0]; exact ⟨rfl, N0, rfl⟩)
theorem d17_0 : decode jdk_38_method_6_code 0 = .ok (.aload_n 0, 1) := by decide +kernel
theorem d17_1 : decode jdk_38_method_6_code 1 = .ok (.getfield 9, 3) := by decide +kernel
theorem d17_4 : decode jdk_38_method_6_code 4 = .ok (.arraylength, 1) := by decide +kernel
theorem d17_5 : decode jdk_38_method_6_code 5 = .ok (.istore_n 2, 1) := by decide +kernel
theorem d17_6 : decode jdk_38_method_6_code 6 = .ok (.iload_n 2, 1) := by decide +kernel
theorem d17_7 : decode jdk_38_method_6_code 7 = .ok (.ifCond .gt 13, 3) := by decide +kernel
theorem d17_10 : decode jdk_38_method_6_code 10 = .ok (.aload_n 0, 1) := by decide +kernel
theorem d17_11 : decode jdk_38_method_6_code 11 = .ok (.getfield 9, 3) := by decide +kernel
theorem d17_14 : decode jdk_38_method_6_code 14 = .ok (.getstatic 39, 3) := by decide +kernel
theorem d17_17 : decode jdk_38_method_6_code 17 = .ok (.if_acmp .eq 28, 3) := by decide +kernel
theorem d17_45 : decode jdk_38_method_6_code 45 = .ok (.aload_n 0, 1) := by decide +kernel
theorem d17_46 : decode jdk_38_method_6_code 46 = .ok (.bipush 10, 2) := by decide +kernel
theorem d17_48 : decode jdk_38_method_6_code 48 = .ok (.iload_n 1, 1) := by decide +kernel
theorem d17_49 : decode jdk_38_method_6_code 49 = .ok (.invokestatic 79, 3) := by decide +kernel
theorem d17_52 : decode jdk_38_method_6_code 52 = .ok (.anewarray 7, 3) := by decide +kernel
theorem d17_55 : decode jdk_38_method_6_code 55 = .ok (.dup_x1, 1) := by decide +kernel
theorem d17_56 : decode jdk_38_method_6_code 56 = .ok (.putfield 9, 3) := by decide +kernel
theorem d17_59 : decode jdk_38_method_6_code 59 = .ok (.areturn, 1) := by decide +kernel
theorem pd_4 : parseMethodDescriptor "(II)I" = some ⟨[.int, .int], some .int⟩ := by decide +kernel
def Q17 (Z : State) (a1 : Addr) (mc : Int32) (h0 : Heap) (n0 : Nat) (v : Option Value) (h : Heap) (L : List Loc) : Prop := ∃ (el : Addr) (k : ClassId), v = some (.ref el) ∧ Fr n0 L ∧ Keep h0 h [a1] ∧ n0 ≤ el ∧ h0.size ≤ el ∧ Fld Z h a1 "java/util/AbstractList" "modCount" "I" (.int mc) ∧ Fld Z h a1 "java/util/ArrayList" "elementData" "[Ljava/lang/Object;" (.ref el) ∧ Fld Z h a1 "java/util/ArrayList" "size" "I" (.int (0 : Int32)) ∧ Ovr Z k "java/lang/Object" ∧ Arv Z h el k (.object "java/lang/Object") (10 : Int32) [.null, .null, .null] .null
def room17 : Room := { frames := 1, cells := 1, slots := 10, locals := 14 }
set_option maxRecDepth 65536 in
set_option maxHeartbeats 40000000 in
theorem rm17 (l : Launch) (Z : State) (a0 : Array Value) (hw : ∀ d ∈ tables_1, d.before a0 Z = true) (ws : List Jvm.Cond) (a1 : Addr) (d0 : Addr) (mc : Int32) (kd : ClassId) (h0 : Heap) (n0 : Nat) (Z0 : n0 ≤ h0.size) (SD : Sta Z Z.heap "java/util/ArrayList" "DEFAULTCAPACITY_EMPTY_ELEMENTDATA" "[Ljava/lang/Object;" (.ref d0)) (O0 : Old Z n0 h0) (E_a1 : Exa Z h0 a1 "java/util/ArrayList") (g_a1 : n0 ≤ a1) (ne_a1_d0 : a1 ≠ d0) (F_modCount : Fld Z h0 a1 "java/util/AbstractList" "modCount" "I" (.int mc)) (F_elementData : Fld Z h0 a1 "java/util/ArrayList" "elementData" "[Ljava/lang/Object;" (.ref d0)) (F_size : Fld Z h0 a1 "java/util/ArrayList" "size" "I" (.int (0 : Int32))) (V_d0 : Arv Z h0 d0 kd (.object "java/lang/Object") (0 : Int32) [] .null) :
    MetFree l (⟨"java/util/ArrayList", "grow", "(I)[Ljava/lang/Object;"⟩ : MethodName) (head1 (Jvm.Cond.code (⟨"java/util/ArrayList", "grow", "(I)[Ljava/lang/Object;"⟩ : MethodName) jdk_38_method_6_code 4 (some (.array (.object "java/lang/Object"))) :: ws) room17) (fun aa_ U_ => aa_ = #[(.ref a1), (.int ((0 : Int32) + (1 : Int32)))] ∧ Z.Warmed39 U_.vm ∧ U_.heap = h0) (fun _ _ _ _ _ => True) (fun _ U_ o_ W_ => ∃ v_ L_, o_ = .returned v_ ∧ (Q17 Z a1 mc h0 n0) v_ W_.heap L_ ∧ FrameEnd U_ o_ W_ L_ room17.cells room17.slots) := by
  refine own_met (Q := (Q17 Z a1 mc h0 n0)) (L0 := #[.val (.ref a1), .val (.int ((0 : Int32) + (1 : Int32))), .unset, .unset]) (plainFor_of_name pn_4) (fun m => by first | (simp [entryFrame, mkF, argsToLocals, Value.category]; done) | rfl) ?_
  intro p e s m below meth c T0 X0 hx hby hml hown hnm hret hlk hZ e0
  have N0 := Fr.nil n0
  have K0 := Keep.refl h0 [a1]
  refine Go.st (T' := T0) (pc' := 1) (L' := #[.val (.ref a1), .val (.int ((0 : Int32) + (1 : Int32))), .unset, .unset]) (S' := [(.ref a1)]) (fun t k => XS.aloadN X0.here hx rfl (hb hby d17_0) rfl rfl  k) ?_
  obtain ⟨T1, X1, e1, st1⟩ := getF X0 hx hZ hown (host := "") (Or.inl (hw _ (List.mem_of_getElem? (i := 67) rfl))) Via.refl e0 F_elementData (g := (mkF m 1 #[.val (.ref a1), .val (.int ((0 : Int32) + (1 : Int32))), .unset, .unset] [(.ref a1)])) rfl rfl (hb hby d17_1)
  refine Go.st (T' := T1) (pc' := 4) (L' := #[.val (.ref a1), .val (.int ((0 : Int32) + (1 : Int32))), .unset, .unset]) (S' := [(.ref d0)]) st1 ?_
  obtain ⟨cl2, Ar2, -, q2a, q2b, -, -⟩ := id V_d0
  refine Go.st (T' := T1) (pc' := 5) (L' := #[.val (.ref a1), .val (.int ((0 : Int32) + (1 : Int32))), .unset, .unset]) (S' := [(.int (0 : Int32))]) (fun t k => own_len X1 hx hZ e1 Ar2 q2a q2b (g := (mkF m 4 #[.val (.ref a1), .val (.int ((0 : Int32) + (1 : Int32))), .unset, .unset] [(.ref d0)])) rfl rfl (hb hby d17_4) t k) ?_
  refine Go.st (T' := T1) (pc' := 6) (L' := #[.val (.ref a1), .val (.int ((0 : Int32) + (1 : Int32))), .val (.int (0 : Int32)), .unset]) (S' := []) (fun t k => XS.istoreN X1.here hx rfl (hb hby d17_5) rfl (l' := #[.val (.ref a1), .val (.int ((0 : Int32) + (1 : Int32))), .val (.int (0 : Int32)), .unset]) rfl k) ?_
  refine Go.st (T' := T1) (pc' := 7) (L' := #[.val (.ref a1), .val (.int ((0 : Int32) + (1 : Int32))), .val (.int (0 : Int32)), .unset]) (S' := [(.int (0 : Int32))]) (fun t k => XS.iloadN X1.here hx rfl (hb hby d17_6) rfl  k) ?_
  refine Go.st (T' := T1) (pc' := 10) (L' := #[.val (.ref a1), .val (.int ((0 : Int32) + (1 : Int32))), .val (.int (0 : Int32)), .unset]) (S' := []) (fun t k => XS.ifNo X1.here hx rfl (hb hby d17_7) rfl ((if0 _ _).trans (flt (by decide : ¬ ((0 : Int32) < (0 : Int32)))).2.2.1) k) ?_
  refine Go.st (T' := T1) (pc' := 11) (L' := #[.val (.ref a1), .val (.int ((0 : Int32) + (1 : Int32))), .val (.int (0 : Int32)), .unset]) (S' := [(.ref a1)]) (fun t k => XS.aloadN X1.here hx rfl (hb hby d17_10) rfl rfl  k) ?_
  obtain ⟨T3, X3, e3, st3⟩ := getF X1 hx hZ hown (host := "") (Or.inl (hw _ (List.mem_of_getElem? (i := 67) rfl))) Via.refl e1 F_elementData (g := (mkF m 11 #[.val (.ref a1), .val (.int ((0 : Int32) + (1 : Int32))), .val (.int (0 : Int32)), .unset] [(.ref a1)])) rfl rfl (hb hby d17_11)
  refine Go.st (T' := T3) (pc' := 14) (L' := #[.val (.ref a1), .val (.int ((0 : Int32) + (1 : Int32))), .val (.int (0 : Int32)), .unset]) (S' := [(.ref d0)]) st3 ?_
  obtain ⟨T4, X4, e4, st4⟩ := getS2 X3 hx hZ hown (host := "") (Or.inl (hw _ (List.mem_of_getElem? (i := 66) rfl))) Via.refl e3 (SD.ext O0.2) (g := (mkF m 14 #[.val (.ref a1), .val (.int ((0 : Int32) + (1 : Int32))), .val (.int (0 : Int32)), .unset] [(.ref d0)])) rfl (hb hby d17_14)
  refine Go.st (T' := T4) (pc' := 17) (L' := #[.val (.ref a1), .val (.int ((0 : Int32) + (1 : Int32))), .val (.int (0 : Int32)), .unset]) (S' := [(.ref d0), (.ref d0)]) st4 ?_
  refine Go.st (T' := T4) (pc' := 45) (L' := #[.val (.ref a1), .val (.int ((0 : Int32) + (1 : Int32))), .val (.int (0 : Int32)), .unset]) (S' := []) (fun t k => Jvm.RoadKit.acmp (g := (mkF m 17 #[.val (.ref a1), .val (.int ((0 : Int32) + (1 : Int32))), .val (.int (0 : Int32)), .unset] [(.ref d0), (.ref d0)])) X4 hx rfl rfl rfl (pc0 := 17) (pc' := 45) (same := true) rfl (hb hby d17_17) rfl (decide_eq_true rfl) (by decide) (by decide) k) ?_
  refine Go.st (T' := T4) (pc' := 46) (L' := #[.val (.ref a1), .val (.int ((0 : Int32) + (1 : Int32))), .val (.int (0 : Int32)), .unset]) (S' := [(.ref a1)]) (fun t k => XS.aloadN X4.here hx rfl (hb hby d17_45) rfl rfl  k) ?_
  refine Go.st (T' := T4) (pc' := 48) (L' := #[.val (.ref a1), .val (.int ((0 : Int32) + (1 : Int32))), .val (.int (0 : Int32)), .unset]) (S' := [(.int (10 : Int32)), (.ref a1)]) (fun t k => XS.bipush X4.here hx rfl (hb hby d17_46) k) ?_
  refine Go.st (T' := T4) (pc' := 49) (L' := #[.val (.ref a1), .val (.int ((0 : Int32) + (1 : Int32))), .val (.int (0 : Int32)), .unset]) (S' := [(.int ((0 : Int32) + (1 : Int32))), (.int (10 : Int32)), (.ref a1)]) (fun t k => XS.iloadN X4.here hx rfl (hb hby d17_48) rfl  k) ?_
  obtain ⟨_, _, ⟨T5, L5, k5, n5⟩, -, X5, ⟨Lc5, hQ5, l5, y5, z5⟩, st5⟩ := Jvm.LawKit.callS X4 hx (y := (⟨"java/lang/Math", "max", "(II)I"⟩ : MethodName)) hown (mvT hZ (hw _ (List.mem_of_getElem? (i := 93) rfl))) (mvT hZ (hw _ (List.mem_of_getElem? (i := 94) rfl))) (mvT hZ (hw _ (List.mem_of_getElem? (i := 95) rfl))) (mvT hZ (hw _ (List.mem_of_getElem? (i := 96) rfl))) (by decide) (backOf (W := 1) (rm18 l Z a0 hw [] h0 n0 Z0) hZ (hw _ (List.mem_of_getElem? (i := 96) rfl)) (hw _ (List.mem_of_getElem? (i := 95) rfl)) (by decide) (by decide)) (g := (mkF m 49 #[.val (.ref a1), .val (.int ((0 : Int32) + (1 : Int32))), .val (.int (0 : Int32)), .unset] [(.int ((0 : Int32) + (1 : Int32))), (.int (10 : Int32)), (.ref a1)])) rfl (by rw [hml]; rfl) (argsL := [(.int (10 : Int32)), (.int ((0 : Int32) + (1 : Int32)))]) (rest := [(.ref a1)]) (lenOf pd_4 rfl) rfl (by show 2 * 0 + _ ≤ _; exact Nat.le_of_eq rfl) (hb hby d17_49) (fun _ _ => ⟨rfl, e4, (by decide : 0 + 0 ≤ _), (by decide : 0 + 0 ≤ _)⟩)
  dsimp only [Pt.U, Pt.locs, Pt.cells, Pt.slots] at X5 l5 y5 z5 st5 hQ5
  subst l5 y5 z5
  obtain ⟨rfl, N5q, e5⟩ := hQ5
  have N5 := Fr.app N0 N5q
  refine Go.st (T' := T5) (pc' := 52) (L' := #[.val (.ref a1), .val (.int ((0 : Int32) + (1 : Int32))), .val (.int (0 : Int32)), .unset]) (S' := [(.int (10 : Int32)), (.ref a1)]) st5 ?_
  obtain ⟨T6, h6, k6, X6, e6, E6, A6, O6, st6⟩ := newR X5 hx hZ hown (hw _ (List.mem_of_getElem? (i := 97) rfl)) (hw _ (List.mem_of_getElem? (i := 98) rfl)) e5 (g := (mkF m 52 #[.val (.ref a1), .val (.int ((0 : Int32) + (1 : Int32))), .val (.int (0 : Int32)), .unset] [(.int (10 : Int32)), (.ref a1)])) rfl (hb hby d17_52) rfl (by decide) (cap := 10) (by decide) (by decide) (by decide) (by decide)
  obtain ⟨b6, g6⟩ : ∃ z, z = h0.size := ⟨_, rfl⟩
  rw [← g6] at A6 st6
  have ne_a1_b6 : a1 ≠ b6 := Nat.ne_of_lt (Nat.lt_of_lt_of_le E_a1.lt (Nat.le_of_eq g6.symm))
  have ne_d0_b6 : d0 ≠ b6 := Nat.ne_of_lt (Nat.lt_of_lt_of_le V_d0.lt (Nat.le_of_eq g6.symm))
  have g_b6 : n0 ≤ b6 := Nat.le_trans Z0 (Nat.le_of_eq g6.symm)
  have sz_b6 : h0.size ≤ b6 := Nat.le_trans K0.1 (Nat.le_of_eq g6.symm)
  replace Z0 := Nat.le_trans Z0 E6.1
  replace K0 := K0.ext E6
  replace O0 := O0.ext E6
  replace E_a1 := E_a1.ext E6
  replace F_modCount := F_modCount.ext E6
  replace F_elementData := F_elementData.ext E6
  replace F_size := F_size.ext E6
  replace V_d0 := V_d0.ext E6
  have V_b6 : Arv Z h6 b6 k6 (.object "java/lang/Object") (10 : Int32) [.null, .null, .null] .null := (Arv.new A6 (by decide)).pad (pad_rep [] .null 3)
  refine Go.st (T' := T6) (pc' := 55) (L' := #[.val (.ref a1), .val (.int ((0 : Int32) + (1 : Int32))), .val (.int (0 : Int32)), .unset]) (S' := [(.ref b6), (.ref a1)]) st6 ?_
  refine Go.st (T' := T6) (pc' := 56) (L' := #[.val (.ref a1), .val (.int ((0 : Int32) + (1 : Int32))), .val (.int (0 : Int32)), .unset]) (S' := [(.ref b6), (.ref a1), (.ref b6)]) (fun t k => XS.dupX1 X6.here hx rfl (hb hby d17_55) rfl rfl rfl k) ?_
  obtain ⟨T7, h7, X7, e7, W7, st7⟩ := putF X6 hx hZ hown (host := "") (Or.inl (hw _ (List.mem_of_getElem? (i := 67) rfl))) Via.refl e6 F_elementData E_a1 (Or.inl (hw _ (List.mem_of_getElem? (i := 68) rfl))) (hw _ (List.mem_of_getElem? (i := 46) rfl)) (ty := (.array (.object "java/lang/Object"))) (by decide) rfl rfl (g := (mkF m 56 #[.val (.ref a1), .val (.int ((0 : Int32) + (1 : Int32))), .val (.int (0 : Int32)), .unset] [(.ref b6), (.ref a1), (.ref b6)])) rfl rfl (hb hby d17_56)
  replace Z0 := Nat.le_trans Z0 (Keep.of_wr W7).1
  replace K0 := K0.wr W7 (Or.inl (List.mem_of_getElem? (i := 0) rfl))
  replace O0 := O0.wr W7 g_a1
  replace E_a1 := E_a1.wr W7
  replace F_modCount := F_modCount.other W7 (Or.inr (slot_ne (Or.inl (hw _ (List.mem_of_getElem? (i := 65) rfl))) (Or.inl (hw _ (List.mem_of_getElem? (i := 68) rfl))) (by decide) (t := .int) (t' := (.array (.object "java/lang/Object"))) (by decide) (by decide)))
  replace F_size := F_size.other W7 (Or.inr (slot_ne (Or.inl (hw _ (List.mem_of_getElem? (i := 77) rfl))) (Or.inl (hw _ (List.mem_of_getElem? (i := 68) rfl))) (by decide) (t := .int) (t' := (.array (.object "java/lang/Object"))) (by decide) (by decide)))
  replace V_d0 := V_d0.other W7 (Ne.symm ne_a1_d0)
  replace V_b6 := V_b6.other W7 (Ne.symm ne_a1_b6)
  replace F_elementData := F_elementData.same W7
  have N7 := Fr.snoc X7 N5 g_a1
  refine Go.st (T' := T7) (pc' := 59) (L' := #[.val (.ref a1), .val (.int ((0 : Int32) + (1 : Int32))), .val (.int (0 : Int32)), .unset]) (S' := [(.ref b6)]) st7 ?_
  exact Go.retO X7 hx hlk hret rfl (by simp [FieldType.isReference, Value.isRef]) (hb hby d17_59) (by decide) (by decide) (by rw [e7]; exact ⟨b6, _, rfl, N7, K0, g_b6, sz_b6, F_modCount, F_elementData, F_size, O6, V_b6⟩)
theorem d16_0 : decode jdk_38_method_7_code 0 = .ok (.aload_n 0, 1) := by decide +kernel
theorem d16_1 : decode jdk_38_method_7_code 1 = .ok (.aload_n 0, 1) := by decide +kernel
theorem d16_2 : decode jdk_38_method_7_code 2 = .ok (.getfield 48, 3) := by decide +kernel
theorem d16_5 : decode jdk_38_method_7_code 5 = .ok (.iconst 1, 1) := by decide +kernel
theorem d16_6 : decode jdk_38_method_7_code 6 = .ok (.iadd, 1) := by decide +kernel
theorem d16_7 : decode jdk_38_method_7_code 7 = .ok (.invokevirtual 69, 3) := by decide +kernel
theorem d16_10 : decode jdk_38_method_7_code 10 = .ok (.areturn, 1) := by decide +kernel
theorem pd_5 : parseMethodDescriptor "(I)[Ljava/lang/Object;" = some ⟨[.int], some (.array (.object "java/lang/Object"))⟩ := by decide +kernel
def Q16 (Z : State) (a1 : Addr) (mc : Int32) (h0 : Heap) (n0 : Nat) (v : Option Value) (h : Heap) (L : List Loc) : Prop := ∃ (el : Addr) (k : ClassId), v = some (.ref el) ∧ Fr n0 L ∧ Keep h0 h [a1] ∧ n0 ≤ el ∧ h0.size ≤ el ∧ Fld Z h a1 "java/util/AbstractList" "modCount" "I" (.int mc) ∧ Fld Z h a1 "java/util/ArrayList" "elementData" "[Ljava/lang/Object;" (.ref el) ∧ Fld Z h a1 "java/util/ArrayList" "size" "I" (.int (0 : Int32)) ∧ Ovr Z k "java/lang/Object" ∧ Arv Z h el k (.object "java/lang/Object") (10 : Int32) [.null, .null, .null] .null
def room16 : Room := { frames := 2, cells := 1, slots := 10, locals := 29 }
set_option maxRecDepth 65536 in
set_option maxHeartbeats 40000000 in
theorem rm16 (l : Launch) (Z : State) (a0 : Array Value) (hw : ∀ d ∈ tables_1, d.before a0 Z = true) (ws : List Jvm.Cond) (a1 : Addr) (d0 : Addr) (mc : Int32) (kd : ClassId) (h0 : Heap) (n0 : Nat) (Z0 : n0 ≤ h0.size) (SD : Sta Z Z.heap "java/util/ArrayList" "DEFAULTCAPACITY_EMPTY_ELEMENTDATA" "[Ljava/lang/Object;" (.ref d0)) (O0 : Old Z n0 h0) (E_a1 : Exa Z h0 a1 "java/util/ArrayList") (g_a1 : n0 ≤ a1) (ne_a1_d0 : a1 ≠ d0) (F_modCount : Fld Z h0 a1 "java/util/AbstractList" "modCount" "I" (.int mc)) (F_elementData : Fld Z h0 a1 "java/util/ArrayList" "elementData" "[Ljava/lang/Object;" (.ref d0)) (F_size : Fld Z h0 a1 "java/util/ArrayList" "size" "I" (.int (0 : Int32))) (V_d0 : Arv Z h0 d0 kd (.object "java/lang/Object") (0 : Int32) [] .null) :
    MetFree l (⟨"java/util/ArrayList", "grow", "()[Ljava/lang/Object;"⟩ : MethodName) (head1 (Jvm.Cond.code (⟨"java/util/ArrayList", "grow", "()[Ljava/lang/Object;"⟩ : MethodName) jdk_38_method_7_code 1 (some (.array (.object "java/lang/Object"))) :: ws) room16) (fun aa_ U_ => aa_ = #[(.ref a1)] ∧ Z.Warmed39 U_.vm ∧ U_.heap = h0) (fun _ _ _ _ _ => True) (fun _ U_ o_ W_ => ∃ v_ L_, o_ = .returned v_ ∧ (Q16 Z a1 mc h0 n0) v_ W_.heap L_ ∧ FrameEnd U_ o_ W_ L_ room16.cells room16.slots) := by
  refine own_met (Q := (Q16 Z a1 mc h0 n0)) (L0 := #[.val (.ref a1)]) (plainFor_of_name pn_4) (fun m => by first | (simp [entryFrame, mkF, argsToLocals, Value.category]; done) | rfl) ?_
  intro p e s m below meth c T0 X0 hx hby hml hown hnm hret hlk hZ e0
  have N0 := Fr.nil n0
  have K0 := Keep.refl h0 [a1]
  refine Go.st (T' := T0) (pc' := 1) (L' := #[.val (.ref a1)]) (S' := [(.ref a1)]) (fun t k => XS.aloadN X0.here hx rfl (hb hby d16_0) rfl rfl  k) ?_
  refine Go.st (T' := T0) (pc' := 2) (L' := #[.val (.ref a1)]) (S' := [(.ref a1), (.ref a1)]) (fun t k => XS.aloadN X0.here hx rfl (hb hby d16_1) rfl rfl  k) ?_
  obtain ⟨T1, X1, e1, st1⟩ := getF X0 hx hZ hown (host := "") (Or.inl (hw _ (List.mem_of_getElem? (i := 76) rfl))) Via.refl e0 F_size (g := (mkF m 2 #[.val (.ref a1)] [(.ref a1), (.ref a1)])) rfl rfl (hb hby d16_2)
  refine Go.st (T' := T1) (pc' := 5) (L' := #[.val (.ref a1)]) (S' := [(.int (0 : Int32)), (.ref a1)]) st1 ?_
  refine Go.st (T' := T1) (pc' := 6) (L' := #[.val (.ref a1)]) (S' := [(.int (1 : Int32)), (.int (0 : Int32)), (.ref a1)]) (fun t k => XS.iconst X1.here hx rfl (hb hby d16_5) k) ?_
  refine Go.st (T' := T1) (pc' := 7) (L' := #[.val (.ref a1)]) (S' := [(.int ((0 : Int32) + (1 : Int32))), (.ref a1)]) (fun t k => XS.iadd X1.here hx rfl (hb hby d16_6) rfl k) ?_
  obtain ⟨cq2, q2, q2'⟩ := E_a1.cell
  obtain ⟨_, _, ⟨T2, L2, k2, n2⟩, -, X2, ⟨Lc2, hQ2, l2, y2, z2⟩, st2⟩ := X1.privateBack hx (y := (⟨"java/util/ArrayList", "grow", "(I)[Ljava/lang/Object;"⟩ : MethodName)) hown (mvT hZ (hw _ (List.mem_of_getElem? (i := 88) rfl))) (mvT hZ (hw _ (List.mem_of_getElem? (i := 89) rfl))) (mvT hZ (hw _ (List.mem_of_getElem? (i := 91) rfl))) (Cond.privateMethod_at (mvP hZ (hw _ (List.mem_of_getElem? (i := 90) rfl)) (args := #[]))) (mvT hZ (hw _ (List.mem_of_getElem? (i := 92) rfl))) (by decide) (backOf (W := 0) (rm17 l Z a0 hw [] a1 d0 mc _ h0 n0 Z0 SD O0 E_a1 g_a1 ne_a1_d0 F_modCount F_elementData F_size V_d0) hZ (hw _ (List.mem_of_getElem? (i := 92) rfl)) (hw _ (List.mem_of_getElem? (i := 47) rfl)) (by decide) (by decide)) (g := (mkF m 7 #[.val (.ref a1)] [(.int ((0 : Int32) + (1 : Int32))), (.ref a1)])) rfl (by rw [hml]; rfl) (Steps.refl _) (a := a1) (by rw [e1]; exact q2) q2' (argsL := [(.int ((0 : Int32) + (1 : Int32)))]) (rest := []) (lenOf pd_5 rfl) rfl (by show 2 * 0 + _ ≤ _; exact Nat.le_of_eq rfl) (hb hby d16_7) (fun _ _ => ⟨rfl, e1, (by decide : 0 + 1 ≤ _), (by decide : 0 + 10 ≤ _)⟩)
  dsimp only [Pt.U, Pt.locs, Pt.cells, Pt.slots] at X2 l2 y2 z2 st2 hQ2
  subst l2 y2 z2
  obtain ⟨e1_2, ka2, rfl, N2q, K2, g_e1_2, lt2, G2_modCount, G2_elementData, G2_size, Ov2, V_e1_2⟩ := hQ2
  have N2 := Fr.app N0 N2q
  have ne_a1_e1_2 : a1 ≠ e1_2 := Nat.ne_of_lt (Nat.lt_of_lt_of_le E_a1.lt lt2)
  have ne_d0_e1_2 : d0 ≠ e1_2 := Nat.ne_of_lt (Nat.lt_of_lt_of_le V_d0.lt lt2)
  have sz_e1_2 : h0.size ≤ e1_2 := Nat.le_trans K0.1 lt2
  obtain ⟨h2, e2⟩ : ∃ z, T2.heap = z := ⟨_, rfl⟩
  rw [e2] at K2 G2_modCount G2_elementData G2_size V_e1_2
  replace Z0 := Nat.le_trans Z0 K2.1
  replace K0 := K0.trans K2 (allS (Or.inl (List.mem_of_getElem? (i := 0) rfl)) all0)
  replace O0 := O0.keep K2 (allS g_a1 all0)
  replace E_a1 := E_a1.keep K2
  replace V_d0 := V_d0.keep K2 (ninS (Ne.symm ne_a1_d0) nin0)
  refine Go.tr (T' := T2) (pc' := 10) (L' := #[.val (.ref a1)]) (S' := [(.ref e1_2)]) st2 ?_
  exact Go.retO X2 hx hlk hret rfl (by simp [FieldType.isReference, Value.isRef]) (hb hby d16_10) (by decide) (by decide) (by rw [e2]; exact ⟨e1_2, _, rfl, N2, K0, g_e1_2, sz_e1_2, G2_modCount, G2_elementData, G2_size, Ov2, V_e1_2⟩)
theorem d15_0 : decode jdk_38_method_24_code 0 = .ok (.iload_n 3, 1) := by decide +kernel
theorem d15_1 : decode jdk_38_method_24_code 1 = .ok (.aload_n 2, 1) := by decide +kernel
theorem d15_2 : decode jdk_38_method_24_code 2 = .ok (.arraylength, 1) := by decide +kernel
theorem d15_3 : decode jdk_38_method_24_code 3 = .ok (.if_icmp .ne 8, 3) := by decide +kernel
theorem d15_6 : decode jdk_38_method_24_code 6 = .ok (.aload_n 0, 1) := by decide +kernel
theorem d15_7 : decode jdk_38_method_24_code 7 = .ok (.invokevirtual 129, 3) := by decide +kernel
theorem d15_10 : decode jdk_38_method_24_code 10 = .ok (.astore_n 2, 1) := by decide +kernel
theorem d15_11 : decode jdk_38_method_24_code 11 = .ok (.aload_n 2, 1) := by decide +kernel
theorem d15_12 : decode jdk_38_method_24_code 12 = .ok (.iload_n 3, 1) := by decide +kernel
theorem d15_13 : decode jdk_38_method_24_code 13 = .ok (.aload_n 1, 1) := by decide +kernel
theorem d15_14 : decode jdk_38_method_24_code 14 = .ok (.aastore, 1) := by decide +kernel
theorem d15_15 : decode jdk_38_method_24_code 15 = .ok (.aload_n 0, 1) := by decide +kernel
theorem d15_16 : decode jdk_38_method_24_code 16 = .ok (.iload_n 3, 1) := by decide +kernel
theorem d15_17 : decode jdk_38_method_24_code 17 = .ok (.iconst 1, 1) := by decide +kernel
theorem d15_18 : decode jdk_38_method_24_code 18 = .ok (.iadd, 1) := by decide +kernel
theorem d15_19 : decode jdk_38_method_24_code 19 = .ok (.putfield 48, 3) := by decide +kernel
theorem d15_22 : decode jdk_38_method_24_code 22 = .ok (.return_, 1) := by decide +kernel
theorem pd_6 : parseMethodDescriptor "()[Ljava/lang/Object;" = some ⟨[], some (.array (.object "java/lang/Object"))⟩ := by decide +kernel
def Q15a (Z : State) (a1 : Addr) (mc : Int32) (x1 : Addr) (h0 : Heap) (n0 : Nat) (v : Option Value) (h : Heap) (L : List Loc) : Prop := ∃ (el : Addr) (k : ClassId), v = none ∧ Fr n0 L ∧ Keep h0 h [a1] ∧ n0 ≤ el ∧ h0.size ≤ el ∧ Fld Z h a1 "java/util/AbstractList" "modCount" "I" (.int mc) ∧ Fld Z h a1 "java/util/ArrayList" "elementData" "[Ljava/lang/Object;" (.ref el) ∧ Fld Z h a1 "java/util/ArrayList" "size" "I" (.int (1 : Int32)) ∧ Ovr Z k "java/lang/Object" ∧ Arv Z h el k (.object "java/lang/Object") (10 : Int32) [(.ref x1), .null, .null] .null
def room15a : Room := { frames := 3, cells := 1, slots := 10, locals := 41 }
set_option maxRecDepth 65536 in
set_option maxHeartbeats 40000000 in
theorem rm15a (l : Launch) (Z : State) (a0 : Array Value) (hw : ∀ d ∈ tables_1, d.before a0 Z = true) (ws : List Jvm.Cond) (a1 : Addr) (d0 : Addr) (mc : Int32) (kd : ClassId) (x1 : Addr) (h0 : Heap) (n0 : Nat) (Z0 : n0 ≤ h0.size) (SD : Sta Z Z.heap "java/util/ArrayList" "DEFAULTCAPACITY_EMPTY_ELEMENTDATA" "[Ljava/lang/Object;" (.ref d0)) (O0 : Old Z n0 h0) (E_a1 : Exa Z h0 a1 "java/util/ArrayList") (g_a1 : n0 ≤ a1) (ne_a1_d0 : a1 ≠ d0) (F_modCount : Fld Z h0 a1 "java/util/AbstractList" "modCount" "I" (.int mc)) (F_elementData : Fld Z h0 a1 "java/util/ArrayList" "elementData" "[Ljava/lang/Object;" (.ref d0)) (F_size : Fld Z h0 a1 "java/util/ArrayList" "size" "I" (.int (0 : Int32))) (V_d0 : Arv Z h0 d0 kd (.object "java/lang/Object") (0 : Int32) [] .null) (E_x : Exa Z h0 x1 "java/lang/String") (ne_a1_x1 : a1 ≠ x1) :
    MetFree l (⟨"java/util/ArrayList", "add", "(Ljava/lang/Object;[Ljava/lang/Object;I)V"⟩ : MethodName) (head1 (Jvm.Cond.code (⟨"java/util/ArrayList", "add", "(Ljava/lang/Object;[Ljava/lang/Object;I)V"⟩ : MethodName) jdk_38_method_24_code 4 none :: ws) room15a) (fun aa_ U_ => aa_ = #[(.ref a1), (.ref x1), (.ref d0), (.int (0 : Int32))] ∧ Z.Warmed39 U_.vm ∧ U_.heap = h0) (fun _ _ _ _ _ => True) (fun _ U_ o_ W_ => ∃ v_ L_, o_ = .returned v_ ∧ (Q15a Z a1 mc x1 h0 n0) v_ W_.heap L_ ∧ FrameEnd U_ o_ W_ L_ room15a.cells room15a.slots) := by
  refine own_met (Q := (Q15a Z a1 mc x1 h0 n0)) (L0 := #[.val (.ref a1), .val (.ref x1), .val (.ref d0), .val (.int (0 : Int32))]) (plainFor_of_name pn_4) (fun m => by first | (simp [entryFrame, mkF, argsToLocals, Value.category]; done) | rfl) ?_
  intro p e s m below meth c T0 X0 hx hby hml hown hnm hret hlk hZ e0
  have N0 := Fr.nil n0
  have K0 := Keep.refl h0 [a1]
  refine Go.st (T' := T0) (pc' := 1) (L' := #[.val (.ref a1), .val (.ref x1), .val (.ref d0), .val (.int (0 : Int32))]) (S' := [(.int (0 : Int32))]) (fun t k => XS.iloadN X0.here hx rfl (hb hby d15_0) rfl  k) ?_
  refine Go.st (T' := T0) (pc' := 2) (L' := #[.val (.ref a1), .val (.ref x1), .val (.ref d0), .val (.int (0 : Int32))]) (S' := [(.ref d0), (.int (0 : Int32))]) (fun t k => XS.aloadN X0.here hx rfl (hb hby d15_1) rfl rfl  k) ?_
  obtain ⟨cl1, Ar1, -, q1a, q1b, -, -⟩ := id V_d0
  refine Go.st (T' := T0) (pc' := 3) (L' := #[.val (.ref a1), .val (.ref x1), .val (.ref d0), .val (.int (0 : Int32))]) (S' := [(.int (0 : Int32)), (.int (0 : Int32))]) (fun t k => own_len X0 hx hZ e0 Ar1 q1a q1b (g := (mkF m 2 #[.val (.ref a1), .val (.ref x1), .val (.ref d0), .val (.int (0 : Int32))] [(.ref d0), (.int (0 : Int32))])) rfl rfl (hb hby d15_2) t k) ?_
  refine Go.st (T' := T0) (pc' := 6) (L' := #[.val (.ref a1), .val (.ref x1), .val (.ref d0), .val (.int (0 : Int32))]) (S' := []) (fun t k => XS.icmpNo X0.here hx rfl (hb hby d15_3) rfl (teq (by decide : ((0 : Int32) = (0 : Int32)))).2 k) ?_
  refine Go.st (T' := T0) (pc' := 7) (L' := #[.val (.ref a1), .val (.ref x1), .val (.ref d0), .val (.int (0 : Int32))]) (S' := [(.ref a1)]) (fun t k => XS.aloadN X0.here hx rfl (hb hby d15_6) rfl rfl  k) ?_
  obtain ⟨cq2, q2, q2'⟩ := E_a1.cell
  obtain ⟨_, _, ⟨T2, L2, k2, n2⟩, -, X2, ⟨Lc2, hQ2, l2, y2, z2⟩, st2⟩ := X0.privateBack hx (y := (⟨"java/util/ArrayList", "grow", "()[Ljava/lang/Object;"⟩ : MethodName)) hown (mvT hZ (hw _ (List.mem_of_getElem? (i := 83) rfl))) (mvT hZ (hw _ (List.mem_of_getElem? (i := 84) rfl))) (mvT hZ (hw _ (List.mem_of_getElem? (i := 86) rfl))) (Cond.privateMethod_at (mvP hZ (hw _ (List.mem_of_getElem? (i := 85) rfl)) (args := #[]))) (mvT hZ (hw _ (List.mem_of_getElem? (i := 87) rfl))) (by decide) (backOf (W := 0) (rm16 l Z a0 hw [] a1 d0 mc _ h0 n0 Z0 SD O0 E_a1 g_a1 ne_a1_d0 F_modCount F_elementData F_size V_d0) hZ (hw _ (List.mem_of_getElem? (i := 87) rfl)) (hw _ (List.mem_of_getElem? (i := 47) rfl)) (by decide) (by decide)) (g := (mkF m 7 #[.val (.ref a1), .val (.ref x1), .val (.ref d0), .val (.int (0 : Int32))] [(.ref a1)])) rfl (by rw [hml]; rfl) (Steps.refl _) (a := a1) (by rw [e0]; exact q2) q2' (argsL := []) (rest := []) (lenOf pd_6 rfl) rfl (by show 2 * 0 + _ ≤ _; exact Nat.le_of_eq rfl) (hb hby d15_7) (fun _ _ => ⟨rfl, e0, (by decide : 0 + 1 ≤ _), (by decide : 0 + 10 ≤ _)⟩)
  dsimp only [Pt.U, Pt.locs, Pt.cells, Pt.slots] at X2 l2 y2 z2 st2 hQ2
  subst l2 y2 z2
  obtain ⟨e1_2, ka2, rfl, N2q, K2, g_e1_2, lt2, G2_modCount, G2_elementData, G2_size, Ov2, V_e1_2⟩ := hQ2
  have N2 := Fr.app N0 N2q
  have ne_a1_e1_2 : a1 ≠ e1_2 := Nat.ne_of_lt (Nat.lt_of_lt_of_le E_a1.lt lt2)
  have ne_d0_e1_2 : d0 ≠ e1_2 := Nat.ne_of_lt (Nat.lt_of_lt_of_le V_d0.lt lt2)
  have ne_x1_e1_2 : x1 ≠ e1_2 := Nat.ne_of_lt (Nat.lt_of_lt_of_le E_x.lt lt2)
  have sz_e1_2 : h0.size ≤ e1_2 := Nat.le_trans K0.1 lt2
  obtain ⟨h2, e2⟩ : ∃ z, T2.heap = z := ⟨_, rfl⟩
  rw [e2] at K2 G2_modCount G2_elementData G2_size V_e1_2
  replace Z0 := Nat.le_trans Z0 K2.1
  replace K0 := K0.trans K2 (allS (Or.inl (List.mem_of_getElem? (i := 0) rfl)) all0)
  replace O0 := O0.keep K2 (allS g_a1 all0)
  replace E_a1 := E_a1.keep K2
  replace V_d0 := V_d0.keep K2 (ninS (Ne.symm ne_a1_d0) nin0)
  replace E_x := E_x.keep K2
  refine Go.tr (T' := T2) (pc' := 10) (L' := #[.val (.ref a1), .val (.ref x1), .val (.ref d0), .val (.int (0 : Int32))]) (S' := [(.ref e1_2)]) st2 ?_
  refine Go.st (T' := T2) (pc' := 11) (L' := #[.val (.ref a1), .val (.ref x1), .val (.ref e1_2), .val (.int (0 : Int32))]) (S' := []) (fun t k => XS.astoreN X2.here hx rfl (hb hby d15_10) rfl rfl (l' := #[.val (.ref a1), .val (.ref x1), .val (.ref e1_2), .val (.int (0 : Int32))]) rfl k) ?_
  refine Go.st (T' := T2) (pc' := 12) (L' := #[.val (.ref a1), .val (.ref x1), .val (.ref e1_2), .val (.int (0 : Int32))]) (S' := [(.ref e1_2)]) (fun t k => XS.aloadN X2.here hx rfl (hb hby d15_11) rfl rfl  k) ?_
  refine Go.st (T' := T2) (pc' := 13) (L' := #[.val (.ref a1), .val (.ref x1), .val (.ref e1_2), .val (.int (0 : Int32))]) (S' := [(.int (0 : Int32)), (.ref e1_2)]) (fun t k => XS.iloadN X2.here hx rfl (hb hby d15_12) rfl  k) ?_
  refine Go.st (T' := T2) (pc' := 14) (L' := #[.val (.ref a1), .val (.ref x1), .val (.ref e1_2), .val (.int (0 : Int32))]) (S' := [(.ref x1), (.int (0 : Int32)), (.ref e1_2)]) (fun t k => XS.aloadN X2.here hx rfl (hb hby d15_13) rfl rfl  k) ?_
  obtain ⟨cl3, Ar3, q31, q32, q33, q34, q35⟩ := V_e1_2
  obtain ⟨T3, h3, X3, e3, W3, st3⟩ := stR X2 hx hZ e2 Ar3 (j := (0 : Int32)) (inb_of q32 ⟨by decide, by decide⟩) rfl (Sto.ofV Ar3 q31 Ov2 (Ins.of_exa E_x (hw _ (List.mem_of_getElem? (i := 99) rfl)))) (g := (mkF m 14 #[.val (.ref a1), .val (.ref x1), .val (.ref e1_2), .val (.int (0 : Int32))] [(.ref x1), (.int (0 : Int32)), (.ref e1_2)])) rfl rfl (hb hby d15_14)
  replace V_e1_2 := Arv.set Ar3 q31 q32 q33 q34 q35 rfl W3 0 rfl (Nat.le_of_ble_eq_true rfl)
  have V_e1_2 : Arv Z h3 e1_2 ka2 (.object "java/lang/Object") (10 : Int32) [(.ref x1), .null, .null] .null := V_e1_2
  replace Z0 := Nat.le_trans Z0 (Keep.of_wr W3).1
  replace K0 := K0.wr W3 (Or.inr sz_e1_2)
  replace O0 := O0.wr W3 g_e1_2
  replace E_a1 := E_a1.wr W3
  replace V_d0 := V_d0.other W3 ne_d0_e1_2
  replace E_x := E_x.wr W3
  replace G2_modCount := G2_modCount.other W3 (Or.inl ne_a1_e1_2)
  replace G2_elementData := G2_elementData.other W3 (Or.inl ne_a1_e1_2)
  replace G2_size := G2_size.other W3 (Or.inl ne_a1_e1_2)
  have N3 := Fr.snoc X3 N2 g_e1_2
  refine Go.st (T' := T3) (pc' := 15) (L' := #[.val (.ref a1), .val (.ref x1), .val (.ref e1_2), .val (.int (0 : Int32))]) (S' := []) st3 ?_
  refine Go.st (T' := T3) (pc' := 16) (L' := #[.val (.ref a1), .val (.ref x1), .val (.ref e1_2), .val (.int (0 : Int32))]) (S' := [(.ref a1)]) (fun t k => XS.aloadN X3.here hx rfl (hb hby d15_15) rfl rfl  k) ?_
  refine Go.st (T' := T3) (pc' := 17) (L' := #[.val (.ref a1), .val (.ref x1), .val (.ref e1_2), .val (.int (0 : Int32))]) (S' := [(.int (0 : Int32)), (.ref a1)]) (fun t k => XS.iloadN X3.here hx rfl (hb hby d15_16) rfl  k) ?_
  refine Go.st (T' := T3) (pc' := 18) (L' := #[.val (.ref a1), .val (.ref x1), .val (.ref e1_2), .val (.int (0 : Int32))]) (S' := [(.int (1 : Int32)), (.int (0 : Int32)), (.ref a1)]) (fun t k => XS.iconst X3.here hx rfl (hb hby d15_17) k) ?_
  refine Go.st (T' := T3) (pc' := 19) (L' := #[.val (.ref a1), .val (.ref x1), .val (.ref e1_2), .val (.int (0 : Int32))]) (S' := [(.int ((0 : Int32) + (1 : Int32))), (.ref a1)]) (fun t k => XS.iadd X3.here hx rfl (hb hby d15_18) rfl k) ?_
  rw [show (0 : Int32) + (1 : Int32) = (1 : Int32) from by decide]
  obtain ⟨T4, h4, X4, e4, W4, st4⟩ := putF X3 hx hZ hown (host := "") (Or.inl (hw _ (List.mem_of_getElem? (i := 76) rfl))) Via.refl e3 G2_size E_a1 (Or.inl (hw _ (List.mem_of_getElem? (i := 77) rfl))) (hw _ (List.mem_of_getElem? (i := 46) rfl)) (ty := .int) (by decide) rfl rfl (g := (mkF m 19 #[.val (.ref a1), .val (.ref x1), .val (.ref e1_2), .val (.int (0 : Int32))] [(.int (1 : Int32)), (.ref a1)])) rfl rfl (hb hby d15_19)
  replace Z0 := Nat.le_trans Z0 (Keep.of_wr W4).1
  replace K0 := K0.wr W4 (Or.inl (List.mem_of_getElem? (i := 0) rfl))
  replace O0 := O0.wr W4 g_a1
  replace E_a1 := E_a1.wr W4
  replace V_d0 := V_d0.other W4 (Ne.symm ne_a1_d0)
  replace E_x := E_x.wr W4
  replace G2_modCount := G2_modCount.other W4 (Or.inr (slot_ne (Or.inl (hw _ (List.mem_of_getElem? (i := 65) rfl))) (Or.inl (hw _ (List.mem_of_getElem? (i := 77) rfl))) (by decide) (t := .int) (t' := .int) (by decide) (by decide)))
  replace G2_elementData := G2_elementData.other W4 (Or.inr (slot_ne (Or.inl (hw _ (List.mem_of_getElem? (i := 68) rfl))) (Or.inl (hw _ (List.mem_of_getElem? (i := 77) rfl))) (by decide) (t := (.array (.object "java/lang/Object"))) (t' := .int) (by decide) (by decide)))
  replace V_e1_2 := V_e1_2.other W4 (Ne.symm ne_a1_e1_2)
  replace G2_size := G2_size.same W4
  have N4 := Fr.snoc X4 N3 g_a1
  refine Go.st (T' := T4) (pc' := 22) (L' := #[.val (.ref a1), .val (.ref x1), .val (.ref e1_2), .val (.int (0 : Int32))]) (S' := []) st4 ?_
  exact Go.retV X4 hx hlk hret (hb hby d15_22) (by decide) (by decide) (by rw [e4]; exact ⟨e1_2, _, rfl, N4, K0, g_e1_2, sz_e1_2, G2_modCount, G2_elementData, G2_size, Ov2, V_e1_2⟩)
theorem d14_0 : decode jdk_38_method_25_code 0 = .ok (.aload_n 0, 1) := by decide +kernel
theorem d14_1 : decode jdk_38_method_25_code 1 = .ok (.dup, 1) := by decide +kernel
theorem d14_2 : decode jdk_38_method_25_code 2 = .ok (.getfield 63, 3) := by decide +kernel
theorem d14_5 : decode jdk_38_method_25_code 5 = .ok (.iconst 1, 1) := by decide +kernel
theorem d14_6 : decode jdk_38_method_25_code 6 = .ok (.iadd, 1) := by decide +kernel
theorem d14_7 : decode jdk_38_method_25_code 7 = .ok (.putfield 63, 3) := by decide +kernel
theorem d14_10 : decode jdk_38_method_25_code 10 = .ok (.aload_n 0, 1) := by decide +kernel
theorem d14_11 : decode jdk_38_method_25_code 11 = .ok (.aload_n 1, 1) := by decide +kernel
theorem d14_12 : decode jdk_38_method_25_code 12 = .ok (.aload_n 0, 1) := by decide +kernel
theorem d14_13 : decode jdk_38_method_25_code 13 = .ok (.getfield 9, 3) := by decide +kernel
theorem d14_16 : decode jdk_38_method_25_code 16 = .ok (.aload_n 0, 1) := by decide +kernel
theorem d14_17 : decode jdk_38_method_25_code 17 = .ok (.getfield 48, 3) := by decide +kernel
theorem d14_20 : decode jdk_38_method_25_code 20 = .ok (.invokevirtual 131, 3) := by decide +kernel
theorem d14_23 : decode jdk_38_method_25_code 23 = .ok (.iconst 1, 1) := by decide +kernel
theorem d14_24 : decode jdk_38_method_25_code 24 = .ok (.ireturn, 1) := by decide +kernel
theorem pd_7 : parseMethodDescriptor "(Ljava/lang/Object;[Ljava/lang/Object;I)V" = some ⟨[(.object "java/lang/Object"), (.array (.object "java/lang/Object")), .int], none⟩ := by decide +kernel
def Q14a (Z : State) (a1 : Addr) (mc : Int32) (x1 : Addr) (h0 : Heap) (n0 : Nat) (v : Option Value) (h : Heap) (L : List Loc) : Prop := ∃ (el : Addr) (k : ClassId), v = some (.int 1) ∧ Fr n0 L ∧ Keep h0 h [a1] ∧ n0 ≤ el ∧ h0.size ≤ el ∧ Fld Z h a1 "java/util/AbstractList" "modCount" "I" (.int (mc + (1 : Int32))) ∧ Fld Z h a1 "java/util/ArrayList" "elementData" "[Ljava/lang/Object;" (.ref el) ∧ Fld Z h a1 "java/util/ArrayList" "size" "I" (.int (1 : Int32)) ∧ Ovr Z k "java/lang/Object" ∧ Arv Z h el k (.object "java/lang/Object") (10 : Int32) [(.ref x1), .null, .null] .null
def room14a : Room := { frames := 4, cells := 1, slots := 10, locals := 56 }
set_option maxRecDepth 65536 in
set_option maxHeartbeats 40000000 in
theorem rm14a (l : Launch) (Z : State) (a0 : Array Value) (hw : ∀ d ∈ tables_1, d.before a0 Z = true) (ws : List Jvm.Cond) (a1 : Addr) (d0 : Addr) (mc : Int32) (kd : ClassId) (x1 : Addr) (h0 : Heap) (n0 : Nat) (Z0 : n0 ≤ h0.size) (SD : Sta Z Z.heap "java/util/ArrayList" "DEFAULTCAPACITY_EMPTY_ELEMENTDATA" "[Ljava/lang/Object;" (.ref d0)) (O0 : Old Z n0 h0) (E_a1 : Exa Z h0 a1 "java/util/ArrayList") (g_a1 : n0 ≤ a1) (ne_a1_d0 : a1 ≠ d0) (F_modCount : Fld Z h0 a1 "java/util/AbstractList" "modCount" "I" (.int mc)) (F_elementData : Fld Z h0 a1 "java/util/ArrayList" "elementData" "[Ljava/lang/Object;" (.ref d0)) (F_size : Fld Z h0 a1 "java/util/ArrayList" "size" "I" (.int (0 : Int32))) (V_d0 : Arv Z h0 d0 kd (.object "java/lang/Object") (0 : Int32) [] .null) (E_x : Exa Z h0 x1 "java/lang/String") (ne_a1_x1 : a1 ≠ x1) :
    MetFree l (⟨"java/util/ArrayList", "add", "(Ljava/lang/Object;)Z"⟩ : MethodName) (head1 (Jvm.Cond.code (⟨"java/util/ArrayList", "add", "(Ljava/lang/Object;)Z"⟩ : MethodName) jdk_38_method_25_code 2 (some .boolean) :: ws) room14a) (fun aa_ U_ => aa_ = #[(.ref a1), (.ref x1)] ∧ Z.Warmed39 U_.vm ∧ U_.heap = h0) (fun _ _ _ _ _ => True) (fun _ U_ o_ W_ => ∃ v_ L_, o_ = .returned v_ ∧ (Q14a Z a1 mc x1 h0 n0) v_ W_.heap L_ ∧ FrameEnd U_ o_ W_ L_ room14a.cells room14a.slots) := by
  refine own_met (Q := (Q14a Z a1 mc x1 h0 n0)) (L0 := #[.val (.ref a1), .val (.ref x1)]) (plainFor_of_name pn_4) (fun m => by first | (simp [entryFrame, mkF, argsToLocals, Value.category]; done) | rfl) ?_
  intro p e s m below meth c T0 X0 hx hby hml hown hnm hret hlk hZ e0
  have N0 := Fr.nil n0
  have K0 := Keep.refl h0 [a1]
  refine Go.st (T' := T0) (pc' := 1) (L' := #[.val (.ref a1), .val (.ref x1)]) (S' := [(.ref a1)]) (fun t k => XS.aloadN X0.here hx rfl (hb hby d14_0) rfl rfl  k) ?_
  refine Go.st (T' := T0) (pc' := 2) (L' := #[.val (.ref a1), .val (.ref x1)]) (S' := [(.ref a1), (.ref a1)]) (fun t k => XS.dup X0.here hx rfl (hb hby d14_1) rfl rfl k) ?_
  obtain ⟨T1, X1, e1, st1⟩ := getF X0 hx hZ hown (host := "") (Or.inl (hw _ (List.mem_of_getElem? (i := 74) rfl))) (Via.of (hw _ (List.mem_of_getElem? (i := 75) rfl))) e0 F_modCount (g := (mkF m 2 #[.val (.ref a1), .val (.ref x1)] [(.ref a1), (.ref a1)])) rfl rfl (hb hby d14_2)
  refine Go.st (T' := T1) (pc' := 5) (L' := #[.val (.ref a1), .val (.ref x1)]) (S' := [(.int mc), (.ref a1)]) st1 ?_
  refine Go.st (T' := T1) (pc' := 6) (L' := #[.val (.ref a1), .val (.ref x1)]) (S' := [(.int (1 : Int32)), (.int mc), (.ref a1)]) (fun t k => XS.iconst X1.here hx rfl (hb hby d14_5) k) ?_
  refine Go.st (T' := T1) (pc' := 7) (L' := #[.val (.ref a1), .val (.ref x1)]) (S' := [(.int (mc + (1 : Int32))), (.ref a1)]) (fun t k => XS.iadd X1.here hx rfl (hb hby d14_6) rfl k) ?_
  obtain ⟨T2, h2, X2, e2, W2, st2⟩ := putF X1 hx hZ hown (host := "") (Or.inl (hw _ (List.mem_of_getElem? (i := 74) rfl))) (Via.of (hw _ (List.mem_of_getElem? (i := 75) rfl))) e1 F_modCount E_a1 (Or.inl (hw _ (List.mem_of_getElem? (i := 65) rfl))) (hw _ (List.mem_of_getElem? (i := 46) rfl)) (ty := .int) (by decide) rfl rfl (g := (mkF m 7 #[.val (.ref a1), .val (.ref x1)] [(.int (mc + (1 : Int32))), (.ref a1)])) rfl rfl (hb hby d14_7)
  replace Z0 := Nat.le_trans Z0 (Keep.of_wr W2).1
  replace K0 := K0.wr W2 (Or.inl (List.mem_of_getElem? (i := 0) rfl))
  replace O0 := O0.wr W2 g_a1
  replace E_a1 := E_a1.wr W2
  replace F_elementData := F_elementData.other W2 (Or.inr (slot_ne (Or.inl (hw _ (List.mem_of_getElem? (i := 68) rfl))) (Or.inl (hw _ (List.mem_of_getElem? (i := 65) rfl))) (by decide) (t := (.array (.object "java/lang/Object"))) (t' := .int) (by decide) (by decide)))
  replace F_size := F_size.other W2 (Or.inr (slot_ne (Or.inl (hw _ (List.mem_of_getElem? (i := 77) rfl))) (Or.inl (hw _ (List.mem_of_getElem? (i := 65) rfl))) (by decide) (t := .int) (t' := .int) (by decide) (by decide)))
  replace V_d0 := V_d0.other W2 (Ne.symm ne_a1_d0)
  replace E_x := E_x.wr W2
  replace F_modCount := F_modCount.same W2
  have N2 := Fr.snoc X2 N0 g_a1
  refine Go.st (T' := T2) (pc' := 10) (L' := #[.val (.ref a1), .val (.ref x1)]) (S' := []) st2 ?_
  refine Go.st (T' := T2) (pc' := 11) (L' := #[.val (.ref a1), .val (.ref x1)]) (S' := [(.ref a1)]) (fun t k => XS.aloadN X2.here hx rfl (hb hby d14_10) rfl rfl  k) ?_
  refine Go.st (T' := T2) (pc' := 12) (L' := #[.val (.ref a1), .val (.ref x1)]) (S' := [(.ref x1), (.ref a1)]) (fun t k => XS.aloadN X2.here hx rfl (hb hby d14_11) rfl rfl  k) ?_
  refine Go.st (T' := T2) (pc' := 13) (L' := #[.val (.ref a1), .val (.ref x1)]) (S' := [(.ref a1), (.ref x1), (.ref a1)]) (fun t k => XS.aloadN X2.here hx rfl (hb hby d14_12) rfl rfl  k) ?_
  obtain ⟨T3, X3, e3, st3⟩ := getF X2 hx hZ hown (host := "") (Or.inl (hw _ (List.mem_of_getElem? (i := 67) rfl))) Via.refl e2 F_elementData (g := (mkF m 13 #[.val (.ref a1), .val (.ref x1)] [(.ref a1), (.ref x1), (.ref a1)])) rfl rfl (hb hby d14_13)
  refine Go.st (T' := T3) (pc' := 16) (L' := #[.val (.ref a1), .val (.ref x1)]) (S' := [(.ref d0), (.ref x1), (.ref a1)]) st3 ?_
  refine Go.st (T' := T3) (pc' := 17) (L' := #[.val (.ref a1), .val (.ref x1)]) (S' := [(.ref a1), (.ref d0), (.ref x1), (.ref a1)]) (fun t k => XS.aloadN X3.here hx rfl (hb hby d14_16) rfl rfl  k) ?_
  obtain ⟨T4, X4, e4, st4⟩ := getF X3 hx hZ hown (host := "") (Or.inl (hw _ (List.mem_of_getElem? (i := 76) rfl))) Via.refl e3 F_size (g := (mkF m 17 #[.val (.ref a1), .val (.ref x1)] [(.ref a1), (.ref d0), (.ref x1), (.ref a1)])) rfl rfl (hb hby d14_17)
  refine Go.st (T' := T4) (pc' := 20) (L' := #[.val (.ref a1), .val (.ref x1)]) (S' := [(.int (0 : Int32)), (.ref d0), (.ref x1), (.ref a1)]) st4 ?_
  obtain ⟨cq5, q5, q5'⟩ := E_a1.cell
  obtain ⟨_, _, ⟨T5, L5, k5, n5⟩, -, X5, ⟨Lc5, hQ5, l5, y5, z5⟩, st5⟩ := X4.privateBack hx (y := (⟨"java/util/ArrayList", "add", "(Ljava/lang/Object;[Ljava/lang/Object;I)V"⟩ : MethodName)) hown (mvT hZ (hw _ (List.mem_of_getElem? (i := 78) rfl))) (mvT hZ (hw _ (List.mem_of_getElem? (i := 79) rfl))) (mvT hZ (hw _ (List.mem_of_getElem? (i := 81) rfl))) (Cond.privateMethod_at (mvP hZ (hw _ (List.mem_of_getElem? (i := 80) rfl)) (args := #[]))) (mvT hZ (hw _ (List.mem_of_getElem? (i := 82) rfl))) (by decide) (backOf (W := 0) (rm15a l Z a0 hw [] a1 d0 (mc + (1 : Int32)) _ x1 h2 n0 Z0 SD O0 E_a1 g_a1 ne_a1_d0 F_modCount F_elementData F_size V_d0 E_x ne_a1_x1) hZ (hw _ (List.mem_of_getElem? (i := 82) rfl)) (hw _ (List.mem_of_getElem? (i := 47) rfl)) (by decide) (by decide)) (g := (mkF m 20 #[.val (.ref a1), .val (.ref x1)] [(.int (0 : Int32)), (.ref d0), (.ref x1), (.ref a1)])) rfl (by rw [hml]; rfl) (Steps.refl _) (a := a1) (by rw [e4]; exact q5) q5' (argsL := [(.ref x1), (.ref d0), (.int (0 : Int32))]) (rest := []) (lenOf pd_7 rfl) rfl (by show 2 * 0 + _ ≤ _; exact Nat.le_of_eq rfl) (hb hby d14_20) (fun _ _ => ⟨rfl, e4, (by decide : 0 + 1 ≤ _), (by decide : 0 + 10 ≤ _)⟩)
  dsimp only [Pt.U, Pt.locs, Pt.cells, Pt.slots] at X5 l5 y5 z5 st5 hQ5
  subst l5 y5 z5
  obtain ⟨e1_5, ka5, rfl, N5q, K5, g_e1_5, lt5, G5_modCount, G5_elementData, G5_size, Ov5, V_e1_5⟩ := hQ5
  have N5 := Fr.app N2 N5q
  have ne_a1_e1_5 : a1 ≠ e1_5 := Nat.ne_of_lt (Nat.lt_of_lt_of_le E_a1.lt lt5)
  have ne_d0_e1_5 : d0 ≠ e1_5 := Nat.ne_of_lt (Nat.lt_of_lt_of_le V_d0.lt lt5)
  have ne_x1_e1_5 : x1 ≠ e1_5 := Nat.ne_of_lt (Nat.lt_of_lt_of_le E_x.lt lt5)
  have sz_e1_5 : h0.size ≤ e1_5 := Nat.le_trans K0.1 lt5
  obtain ⟨h5, e5⟩ : ∃ z, T5.heap = z := ⟨_, rfl⟩
  rw [e5] at K5 G5_modCount G5_elementData G5_size V_e1_5
  replace Z0 := Nat.le_trans Z0 K5.1
  replace K0 := K0.trans K5 (allS (Or.inl (List.mem_of_getElem? (i := 0) rfl)) all0)
  replace O0 := O0.keep K5 (allS g_a1 all0)
  replace E_a1 := E_a1.keep K5
  replace V_d0 := V_d0.keep K5 (ninS (Ne.symm ne_a1_d0) nin0)
  replace E_x := E_x.keep K5
  refine Go.tr (T' := T5) (pc' := 23) (L' := #[.val (.ref a1), .val (.ref x1)]) (S' := []) st5 ?_
  refine Go.st (T' := T5) (pc' := 24) (L' := #[.val (.ref a1), .val (.ref x1)]) (S' := [(.int (1 : Int32))]) (fun t k => XS.iconst X5.here hx rfl (hb hby d14_23) k) ?_
  exact Go.retN X5 hx hlk hret (by simp) (hb hby d14_24) (by decide) (by decide) (by rw [e5]; exact ⟨e1_5, _, rfl, N5, K0, g_e1_5, sz_e1_5, G5_modCount, G5_elementData, G5_size, Ov5, V_e1_5⟩)

def Q15b (Z : State) (a1 : Addr) (el : Addr) (mc : Int32) (ke : ClassId) (n : Nat) (us : List Value) (x1 : Addr) (h0 : Heap) (n0 : Nat) (v : Option Value) (h : Heap) (L : List Loc) : Prop := v = none ∧ Fr n0 L ∧ Keep h0 h [a1, el] ∧ Fld Z h a1 "java/util/AbstractList" "modCount" "I" (.int mc) ∧ Fld Z h a1 "java/util/ArrayList" "elementData" "[Ljava/lang/Object;" (.ref el) ∧ Fld Z h a1 "java/util/ArrayList" "size" "I" (.int (n + 1).toInt32) ∧ Arv Z h el ke (.object "java/lang/Object") (10 : Int32) (us.set n (.ref x1)) .null
def room15b : Room := { frames := 0, cells := 0, slots := 0, locals := 0 }
set_option maxRecDepth 65536 in
set_option maxHeartbeats 40000000 in
theorem rm15b (l : Launch) (Z : State) (a0 : Array Value) (hw : ∀ d ∈ tables_1, d.before a0 Z = true) (ws : List Jvm.Cond) (a1 : Addr) (el : Addr) (mc : Int32) (ke : ClassId) (n : Nat) (us : List Value) (x1 : Addr) (h0 : Heap) (n0 : Nat) (Z0 : n0 ≤ h0.size) (E_a1 : Exa Z h0 a1 "java/util/ArrayList") (g_a1 : n0 ≤ a1) (g_el : n0 ≤ el) (ne_a1_el : a1 ≠ el) (Ov : Ovr Z ke "java/lang/Object") (F_modCount : Fld Z h0 a1 "java/util/AbstractList" "modCount" "I" (.int mc)) (F_elementData : Fld Z h0 a1 "java/util/ArrayList" "elementData" "[Ljava/lang/Object;" (.ref el)) (F_size : Fld Z h0 a1 "java/util/ArrayList" "size" "I" (.int n.toInt32)) (V_el : Arv Z h0 el ke (.object "java/lang/Object") (10 : Int32) us .null) (lU : us.length = 3) (hn : n < 3) (E_x : Exa Z h0 x1 "java/lang/String") (ne_a1_x1 : a1 ≠ x1) :
    MetFree l (⟨"java/util/ArrayList", "add", "(Ljava/lang/Object;[Ljava/lang/Object;I)V"⟩ : MethodName) (head1 (Jvm.Cond.code (⟨"java/util/ArrayList", "add", "(Ljava/lang/Object;[Ljava/lang/Object;I)V"⟩ : MethodName) jdk_38_method_24_code 4 none :: ws) room15b) (fun aa_ U_ => aa_ = #[(.ref a1), (.ref x1), (.ref el), (.int (n.toInt32))] ∧ Z.Warmed39 U_.vm ∧ U_.heap = h0) (fun _ _ _ _ _ => True) (fun _ U_ o_ W_ => ∃ v_ L_, o_ = .returned v_ ∧ (Q15b Z a1 el mc ke n us x1 h0 n0) v_ W_.heap L_ ∧ FrameEnd U_ o_ W_ L_ room15b.cells room15b.slots) := by
  refine own_met (Q := (Q15b Z a1 el mc ke n us x1 h0 n0)) (L0 := #[.val (.ref a1), .val (.ref x1), .val (.ref el), .val (.int (n.toInt32))]) (plainFor_of_name pn_4) (fun m => by first | (simp [entryFrame, mkF, argsToLocals, Value.category]; done) | rfl) ?_
  intro p e s m below meth c T0 X0 hx hby hml hown hnm hret hlk hZ e0
  have N0 := Fr.nil n0
  have K0 := Keep.refl h0 [a1, el]
  refine Go.st (T' := T0) (pc' := 1) (L' := #[.val (.ref a1), .val (.ref x1), .val (.ref el), .val (.int (n.toInt32))]) (S' := [(.int (n.toInt32))]) (fun t k => XS.iloadN X0.here hx rfl (hb hby d15_0) rfl  k) ?_
  refine Go.st (T' := T0) (pc' := 2) (L' := #[.val (.ref a1), .val (.ref x1), .val (.ref el), .val (.int (n.toInt32))]) (S' := [(.ref el), (.int (n.toInt32))]) (fun t k => XS.aloadN X0.here hx rfl (hb hby d15_1) rfl rfl  k) ?_
  obtain ⟨cl1, Ar1, -, q1a, q1b, -, -⟩ := id V_el
  refine Go.st (T' := T0) (pc' := 3) (L' := #[.val (.ref a1), .val (.ref x1), .val (.ref el), .val (.int (n.toInt32))]) (S' := [(.int (10 : Int32)), (.int (n.toInt32))]) (fun t k => own_len X0 hx hZ e0 Ar1 q1a q1b (g := (mkF m 2 #[.val (.ref a1), .val (.ref x1), .val (.ref el), .val (.int (n.toInt32))] [(.ref el), (.int (n.toInt32))])) rfl rfl (hb hby d15_2) t k) ?_
  refine Go.st (T' := T0) (pc' := 11) (L' := #[.val (.ref a1), .val (.ref x1), .val (.ref el), .val (.int (n.toInt32))]) (S' := []) (fun t k => XS.icmpYes X0.here hx rfl (pc0 := 3) (pc' := 11) rfl (hb hby d15_3) rfl (feq (fun z => absurd ((own_inj (n := 10) (by omega) (by decide)).mp z) (by omega) : ¬ ((n.toInt32) = (10 : Int32)))).2 (by decide) (by decide) k) ?_
  refine Go.st (T' := T0) (pc' := 12) (L' := #[.val (.ref a1), .val (.ref x1), .val (.ref el), .val (.int (n.toInt32))]) (S' := [(.ref el)]) (fun t k => XS.aloadN X0.here hx rfl (hb hby d15_11) rfl rfl  k) ?_
  refine Go.st (T' := T0) (pc' := 13) (L' := #[.val (.ref a1), .val (.ref x1), .val (.ref el), .val (.int (n.toInt32))]) (S' := [(.int (n.toInt32)), (.ref el)]) (fun t k => XS.iloadN X0.here hx rfl (hb hby d15_12) rfl  k) ?_
  refine Go.st (T' := T0) (pc' := 14) (L' := #[.val (.ref a1), .val (.ref x1), .val (.ref el), .val (.int (n.toInt32))]) (S' := [(.ref x1), (.int (n.toInt32)), (.ref el)]) (fun t k => XS.aloadN X0.here hx rfl (hb hby d15_13) rfl rfl  k) ?_
  obtain ⟨cl2, Ar2, q21, q22, q23, q24, q25⟩ := V_el
  obtain ⟨T2, h2, X2, e2, W2, st2⟩ := stR X0 hx hZ e0 Ar2 (j := (n.toInt32)) (own_inb q22 (N := 10) (by decide) (by omega) (by decide)) rfl (Sto.ofV Ar2 q21 Ov (Ins.of_exa E_x (hw _ (List.mem_of_getElem? (i := 99) rfl)))) (g := (mkF m 14 #[.val (.ref a1), .val (.ref x1), .val (.ref el), .val (.int (n.toInt32))] [(.ref x1), (.int (n.toInt32)), (.ref el)])) rfl rfl (hb hby d15_14)
  replace V_el := Arv.set Ar2 q21 q22 q23 q24 q25 rfl W2 (n) (own_tn (by omega)) (by rw [lU]; omega)
  replace Z0 := Nat.le_trans Z0 (Keep.of_wr W2).1
  replace K0 := K0.wr W2 (Or.inl (List.mem_of_getElem? (i := 1) rfl))
  replace E_a1 := E_a1.wr W2
  replace F_modCount := F_modCount.other W2 (Or.inl ne_a1_el)
  replace F_elementData := F_elementData.other W2 (Or.inl ne_a1_el)
  replace F_size := F_size.other W2 (Or.inl ne_a1_el)
  replace E_x := E_x.wr W2
  have N2 := Fr.snoc X2 N0 g_el
  refine Go.st (T' := T2) (pc' := 15) (L' := #[.val (.ref a1), .val (.ref x1), .val (.ref el), .val (.int (n.toInt32))]) (S' := []) st2 ?_
  refine Go.st (T' := T2) (pc' := 16) (L' := #[.val (.ref a1), .val (.ref x1), .val (.ref el), .val (.int (n.toInt32))]) (S' := [(.ref a1)]) (fun t k => XS.aloadN X2.here hx rfl (hb hby d15_15) rfl rfl  k) ?_
  refine Go.st (T' := T2) (pc' := 17) (L' := #[.val (.ref a1), .val (.ref x1), .val (.ref el), .val (.int (n.toInt32))]) (S' := [(.int (n.toInt32)), (.ref a1)]) (fun t k => XS.iloadN X2.here hx rfl (hb hby d15_16) rfl  k) ?_
  refine Go.st (T' := T2) (pc' := 18) (L' := #[.val (.ref a1), .val (.ref x1), .val (.ref el), .val (.int (n.toInt32))]) (S' := [(.int (1 : Int32)), (.int (n.toInt32)), (.ref a1)]) (fun t k => XS.iconst X2.here hx rfl (hb hby d15_17) k) ?_
  refine Go.st (T' := T2) (pc' := 19) (L' := #[.val (.ref a1), .val (.ref x1), .val (.ref el), .val (.int (n.toInt32))]) (S' := [(.int ((n.toInt32) + (1 : Int32))), (.ref a1)]) (fun t k => XS.iadd X2.here hx rfl (hb hby d15_18) rfl k) ?_
  rw [own_next (n := n) (by omega)]
  obtain ⟨T3, h3, X3, e3, W3, st3⟩ := putF X2 hx hZ hown (host := "") (Or.inl (hw _ (List.mem_of_getElem? (i := 76) rfl))) Via.refl e2 F_size E_a1 (Or.inl (hw _ (List.mem_of_getElem? (i := 77) rfl))) (hw _ (List.mem_of_getElem? (i := 46) rfl)) (ty := .int) (by decide) rfl rfl (g := (mkF m 19 #[.val (.ref a1), .val (.ref x1), .val (.ref el), .val (.int (n.toInt32))] [(.int ((n + 1).toInt32)), (.ref a1)])) rfl rfl (hb hby d15_19)
  replace Z0 := Nat.le_trans Z0 (Keep.of_wr W3).1
  replace K0 := K0.wr W3 (Or.inl (List.mem_of_getElem? (i := 0) rfl))
  replace E_a1 := E_a1.wr W3
  replace F_modCount := F_modCount.other W3 (Or.inr (slot_ne (Or.inl (hw _ (List.mem_of_getElem? (i := 65) rfl))) (Or.inl (hw _ (List.mem_of_getElem? (i := 77) rfl))) (by decide) (t := .int) (t' := .int) (by decide) (by decide)))
  replace F_elementData := F_elementData.other W3 (Or.inr (slot_ne (Or.inl (hw _ (List.mem_of_getElem? (i := 68) rfl))) (Or.inl (hw _ (List.mem_of_getElem? (i := 77) rfl))) (by decide) (t := (.array (.object "java/lang/Object"))) (t' := .int) (by decide) (by decide)))
  replace V_el := V_el.other W3 (Ne.symm ne_a1_el)
  replace E_x := E_x.wr W3
  replace F_size := F_size.same W3
  have N3 := Fr.snoc X3 N2 g_a1
  refine Go.st (T' := T3) (pc' := 22) (L' := #[.val (.ref a1), .val (.ref x1), .val (.ref el), .val (.int (n.toInt32))]) (S' := []) st3 ?_
  exact Go.retV X3 hx hlk hret (hb hby d15_22) (by decide) (by decide) (by rw [e3]; exact ⟨rfl, N3, K0, F_modCount, F_elementData, F_size, V_el⟩)

def Q14b (Z : State) (a1 : Addr) (el : Addr) (mc : Int32) (ke : ClassId) (n : Nat) (us : List Value) (x1 : Addr) (h0 : Heap) (n0 : Nat) (v : Option Value) (h : Heap) (L : List Loc) : Prop := v = some (.int 1) ∧ Fr n0 L ∧ Keep h0 h [a1, el] ∧ Fld Z h a1 "java/util/AbstractList" "modCount" "I" (.int (mc + (1 : Int32))) ∧ Fld Z h a1 "java/util/ArrayList" "elementData" "[Ljava/lang/Object;" (.ref el) ∧ Fld Z h a1 "java/util/ArrayList" "size" "I" (.int (n + 1).toInt32) ∧ Arv Z h el ke (.object "java/lang/Object") (10 : Int32) (us.set n (.ref x1)) .null
def room14b : Room := { frames := 1, cells := 0, slots := 0, locals := 15 }
set_option maxRecDepth 65536 in
set_option maxHeartbeats 40000000 in
theorem rm14b (l : Launch) (Z : State) (a0 : Array Value) (hw : ∀ d ∈ tables_1, d.before a0 Z = true) (ws : List Jvm.Cond) (a1 : Addr) (el : Addr) (mc : Int32) (ke : ClassId) (n : Nat) (us : List Value) (x1 : Addr) (h0 : Heap) (n0 : Nat) (Z0 : n0 ≤ h0.size) (E_a1 : Exa Z h0 a1 "java/util/ArrayList") (g_a1 : n0 ≤ a1) (g_el : n0 ≤ el) (ne_a1_el : a1 ≠ el) (Ov : Ovr Z ke "java/lang/Object") (F_modCount : Fld Z h0 a1 "java/util/AbstractList" "modCount" "I" (.int mc)) (F_elementData : Fld Z h0 a1 "java/util/ArrayList" "elementData" "[Ljava/lang/Object;" (.ref el)) (F_size : Fld Z h0 a1 "java/util/ArrayList" "size" "I" (.int n.toInt32)) (V_el : Arv Z h0 el ke (.object "java/lang/Object") (10 : Int32) us .null) (lU : us.length = 3) (hn : n < 3) (E_x : Exa Z h0 x1 "java/lang/String") (ne_a1_x1 : a1 ≠ x1) :
    MetFree l (⟨"java/util/ArrayList", "add", "(Ljava/lang/Object;)Z"⟩ : MethodName) (head1 (Jvm.Cond.code (⟨"java/util/ArrayList", "add", "(Ljava/lang/Object;)Z"⟩ : MethodName) jdk_38_method_25_code 2 (some .boolean) :: ws) room14b) (fun aa_ U_ => aa_ = #[(.ref a1), (.ref x1)] ∧ Z.Warmed39 U_.vm ∧ U_.heap = h0) (fun _ _ _ _ _ => True) (fun _ U_ o_ W_ => ∃ v_ L_, o_ = .returned v_ ∧ (Q14b Z a1 el mc ke n us x1 h0 n0) v_ W_.heap L_ ∧ FrameEnd U_ o_ W_ L_ room14b.cells room14b.slots) := by
  refine own_met (Q := (Q14b Z a1 el mc ke n us x1 h0 n0)) (L0 := #[.val (.ref a1), .val (.ref x1)]) (plainFor_of_name pn_4) (fun m => by first | (simp [entryFrame, mkF, argsToLocals, Value.category]; done) | rfl) ?_
  intro p e s m below meth c T0 X0 hx hby hml hown hnm hret hlk hZ e0
  have N0 := Fr.nil n0
  have K0 := Keep.refl h0 [a1, el]
  refine Go.st (T' := T0) (pc' := 1) (L' := #[.val (.ref a1), .val (.ref x1)]) (S' := [(.ref a1)]) (fun t k => XS.aloadN X0.here hx rfl (hb hby d14_0) rfl rfl  k) ?_
  refine Go.st (T' := T0) (pc' := 2) (L' := #[.val (.ref a1), .val (.ref x1)]) (S' := [(.ref a1), (.ref a1)]) (fun t k => XS.dup X0.here hx rfl (hb hby d14_1) rfl rfl k) ?_
  obtain ⟨T1, X1, e1, st1⟩ := getF X0 hx hZ hown (host := "") (Or.inl (hw _ (List.mem_of_getElem? (i := 74) rfl))) (Via.of (hw _ (List.mem_of_getElem? (i := 75) rfl))) e0 F_modCount (g := (mkF m 2 #[.val (.ref a1), .val (.ref x1)] [(.ref a1), (.ref a1)])) rfl rfl (hb hby d14_2)
  refine Go.st (T' := T1) (pc' := 5) (L' := #[.val (.ref a1), .val (.ref x1)]) (S' := [(.int mc), (.ref a1)]) st1 ?_
  refine Go.st (T' := T1) (pc' := 6) (L' := #[.val (.ref a1), .val (.ref x1)]) (S' := [(.int (1 : Int32)), (.int mc), (.ref a1)]) (fun t k => XS.iconst X1.here hx rfl (hb hby d14_5) k) ?_
  refine Go.st (T' := T1) (pc' := 7) (L' := #[.val (.ref a1), .val (.ref x1)]) (S' := [(.int (mc + (1 : Int32))), (.ref a1)]) (fun t k => XS.iadd X1.here hx rfl (hb hby d14_6) rfl k) ?_
  obtain ⟨T2, h2, X2, e2, W2, st2⟩ := putF X1 hx hZ hown (host := "") (Or.inl (hw _ (List.mem_of_getElem? (i := 74) rfl))) (Via.of (hw _ (List.mem_of_getElem? (i := 75) rfl))) e1 F_modCount E_a1 (Or.inl (hw _ (List.mem_of_getElem? (i := 65) rfl))) (hw _ (List.mem_of_getElem? (i := 46) rfl)) (ty := .int) (by decide) rfl rfl (g := (mkF m 7 #[.val (.ref a1), .val (.ref x1)] [(.int (mc + (1 : Int32))), (.ref a1)])) rfl rfl (hb hby d14_7)
  replace Z0 := Nat.le_trans Z0 (Keep.of_wr W2).1
  replace K0 := K0.wr W2 (Or.inl (List.mem_of_getElem? (i := 0) rfl))
  replace E_a1 := E_a1.wr W2
  replace F_elementData := F_elementData.other W2 (Or.inr (slot_ne (Or.inl (hw _ (List.mem_of_getElem? (i := 68) rfl))) (Or.inl (hw _ (List.mem_of_getElem? (i := 65) rfl))) (by decide) (t := (.array (.object "java/lang/Object"))) (t' := .int) (by decide) (by decide)))
  replace F_size := F_size.other W2 (Or.inr (slot_ne (Or.inl (hw _ (List.mem_of_getElem? (i := 77) rfl))) (Or.inl (hw _ (List.mem_of_getElem? (i := 65) rfl))) (by decide) (t := .int) (t' := .int) (by decide) (by decide)))
  replace V_el := V_el.other W2 (Ne.symm ne_a1_el)
  replace E_x := E_x.wr W2
  replace F_modCount := F_modCount.same W2
  have N2 := Fr.snoc X2 N0 g_a1
  refine Go.st (T' := T2) (pc' := 10) (L' := #[.val (.ref a1), .val (.ref x1)]) (S' := []) st2 ?_
  refine Go.st (T' := T2) (pc' := 11) (L' := #[.val (.ref a1), .val (.ref x1)]) (S' := [(.ref a1)]) (fun t k => XS.aloadN X2.here hx rfl (hb hby d14_10) rfl rfl  k) ?_
  refine Go.st (T' := T2) (pc' := 12) (L' := #[.val (.ref a1), .val (.ref x1)]) (S' := [(.ref x1), (.ref a1)]) (fun t k => XS.aloadN X2.here hx rfl (hb hby d14_11) rfl rfl  k) ?_
  refine Go.st (T' := T2) (pc' := 13) (L' := #[.val (.ref a1), .val (.ref x1)]) (S' := [(.ref a1), (.ref x1), (.ref a1)]) (fun t k => XS.aloadN X2.here hx rfl (hb hby d14_12) rfl rfl  k) ?_
  obtain ⟨T3, X3, e3, st3⟩ := getF X2 hx hZ hown (host := "") (Or.inl (hw _ (List.mem_of_getElem? (i := 67) rfl))) Via.refl e2 F_elementData (g := (mkF m 13 #[.val (.ref a1), .val (.ref x1)] [(.ref a1), (.ref x1), (.ref a1)])) rfl rfl (hb hby d14_13)
  refine Go.st (T' := T3) (pc' := 16) (L' := #[.val (.ref a1), .val (.ref x1)]) (S' := [(.ref el), (.ref x1), (.ref a1)]) st3 ?_
  refine Go.st (T' := T3) (pc' := 17) (L' := #[.val (.ref a1), .val (.ref x1)]) (S' := [(.ref a1), (.ref el), (.ref x1), (.ref a1)]) (fun t k => XS.aloadN X3.here hx rfl (hb hby d14_16) rfl rfl  k) ?_
  obtain ⟨T4, X4, e4, st4⟩ := getF X3 hx hZ hown (host := "") (Or.inl (hw _ (List.mem_of_getElem? (i := 76) rfl))) Via.refl e3 F_size (g := (mkF m 17 #[.val (.ref a1), .val (.ref x1)] [(.ref a1), (.ref el), (.ref x1), (.ref a1)])) rfl rfl (hb hby d14_17)
  refine Go.st (T' := T4) (pc' := 20) (L' := #[.val (.ref a1), .val (.ref x1)]) (S' := [(.int (n.toInt32)), (.ref el), (.ref x1), (.ref a1)]) st4 ?_
  obtain ⟨cq5, q5, q5'⟩ := E_a1.cell
  obtain ⟨_, _, ⟨T5, L5, k5, n5⟩, -, X5, ⟨Lc5, hQ5, l5, y5, z5⟩, st5⟩ := X4.privateBack hx (y := (⟨"java/util/ArrayList", "add", "(Ljava/lang/Object;[Ljava/lang/Object;I)V"⟩ : MethodName)) hown (mvT hZ (hw _ (List.mem_of_getElem? (i := 78) rfl))) (mvT hZ (hw _ (List.mem_of_getElem? (i := 79) rfl))) (mvT hZ (hw _ (List.mem_of_getElem? (i := 81) rfl))) (Cond.privateMethod_at (mvP hZ (hw _ (List.mem_of_getElem? (i := 80) rfl)) (args := #[]))) (mvT hZ (hw _ (List.mem_of_getElem? (i := 82) rfl))) (by decide) (backOf (W := 0) (rm15b l Z a0 hw [] a1 el (mc + (1 : Int32)) _ n us x1 h2 n0 Z0 E_a1 g_a1 g_el ne_a1_el Ov F_modCount F_elementData F_size V_el lU hn E_x ne_a1_x1) hZ (hw _ (List.mem_of_getElem? (i := 82) rfl)) (hw _ (List.mem_of_getElem? (i := 47) rfl)) (by decide) (by decide)) (g := (mkF m 20 #[.val (.ref a1), .val (.ref x1)] [(.int (n.toInt32)), (.ref el), (.ref x1), (.ref a1)])) rfl (by rw [hml]; rfl) (Steps.refl _) (a := a1) (by rw [e4]; exact q5) q5' (argsL := [(.ref x1), (.ref el), (.int (n.toInt32))]) (rest := []) (lenOf pd_7 rfl) rfl (by show 2 * 0 + _ ≤ _; exact Nat.le_of_eq rfl) (hb hby d14_20) (fun _ _ => ⟨rfl, e4, (by decide : 0 + 0 ≤ _), (by decide : 0 + 0 ≤ _)⟩)
  dsimp only [Pt.U, Pt.locs, Pt.cells, Pt.slots] at X5 l5 y5 z5 st5 hQ5
  subst l5 y5 z5
  obtain ⟨rfl, N5q, K5, G5_modCount, G5_elementData, G5_size, Vn5⟩ := hQ5
  have N5 := Fr.app N2 N5q
  obtain ⟨h5, e5⟩ : ∃ z, T5.heap = z := ⟨_, rfl⟩
  rw [e5] at K5 G5_modCount G5_elementData G5_size Vn5
  replace Z0 := Nat.le_trans Z0 K5.1
  replace K0 := K0.trans K5 (allS (Or.inl (List.mem_of_getElem? (i := 0) rfl)) (allS (Or.inl (List.mem_of_getElem? (i := 1) rfl)) all0))
  replace E_a1 := E_a1.keep K5
  replace E_x := E_x.keep K5
  refine Go.tr (T' := T5) (pc' := 23) (L' := #[.val (.ref a1), .val (.ref x1)]) (S' := []) st5 ?_
  refine Go.st (T' := T5) (pc' := 24) (L' := #[.val (.ref a1), .val (.ref x1)]) (S' := [(.int (1 : Int32))]) (fun t k => XS.iconst X5.here hx rfl (hb hby d14_23) k) ?_
  exact Go.retN X5 hx hlk hret (by simp) (hb hby d14_24) (by decide) (by decide) (by rw [e5]; exact ⟨rfl, N5, K0, G5_modCount, G5_elementData, G5_size, Vn5⟩)
theorem d20_0 : decode jdk_30_method_1_code 0 = .ok (.aload_n 0, 1) := by decide +kernel
theorem d20_1 : decode jdk_30_method_1_code 1 = .ok (.invokespecial 1, 3) := by decide +kernel
theorem d20_4 : decode jdk_30_method_1_code 4 = .ok (.return_, 1) := by decide +kernel
theorem pn_5 : plainName "java/lang/Record" = true := by first | (simp [plainName, overriddenIn]; done) | decide +kernel
def Q20 (Z : State) (a1 : Addr) (h0 : Heap) (n0 : Nat) (v : Option Value) (h : Heap) (L : List Loc) : Prop := v = none ∧ Fr n0 L ∧ h = h0
def room20 : Room := { frames := 1, cells := 0, slots := 0, locals := 12 }
set_option maxRecDepth 65536 in
set_option maxHeartbeats 40000000 in
theorem rm20 (l : Launch) (Z : State) (a0 : Array Value) (hw : ∀ d ∈ tables_1, d.before a0 Z = true) (ws : List Jvm.Cond) (a1 : Addr) (h0 : Heap) (n0 : Nat) (Z0 : n0 ≤ h0.size)  :
    MetFree l (⟨"java/lang/Record", "<init>", "()V"⟩ : MethodName) (head1 (Jvm.Cond.code (⟨"java/lang/Record", "<init>", "()V"⟩ : MethodName) jdk_30_method_1_code 1 none :: ws) room20) (fun aa_ U_ => aa_ = #[(.ref a1)] ∧ Z.Warmed39 U_.vm ∧ U_.heap = h0) (fun _ _ _ _ _ => True) (fun _ U_ o_ W_ => ∃ v_ L_, o_ = .returned v_ ∧ (Q20 Z a1 h0 n0) v_ W_.heap L_ ∧ FrameEnd U_ o_ W_ L_ room20.cells room20.slots) := by
  refine own_met (Q := (Q20 Z a1 h0 n0)) (L0 := #[.val (.ref a1)]) (plainFor_of_name pn_5) (fun m => by first | (simp [entryFrame, mkF, argsToLocals, Value.category]; done) | rfl) ?_
  intro p e s m below meth c T0 X0 hx hby hml hown hnm hret hlk hZ e0
  have N0 := Fr.nil n0
  refine Go.st (T' := T0) (pc' := 1) (L' := #[.val (.ref a1)]) (S' := [(.ref a1)]) (fun t k => XS.aloadN X0.here hx rfl (hb hby d20_0) rfl rfl  k) ?_
  obtain ⟨T1, X1, e1, st1⟩ := initO X0 hx hZ hown (hw _ (List.mem_of_getElem? (i := 111) rfl)) (hw _ (List.mem_of_getElem? (i := 12) rfl)) (hw _ (List.mem_of_getElem? (i := 13) rfl)) e0 (g := (mkF m 1 #[.val (.ref a1)] [(.ref a1)])) rfl (by rw [hml]; rfl) rfl (hb hby d20_1) (by decide) (W := 0) (by show 2 * 0 + _ ≤ _; exact Nat.le_of_eq rfl) (by decide)
  refine Go.st (T' := T1) (pc' := 4) (L' := #[.val (.ref a1)]) (S' := []) st1 ?_
  exact Go.retV X1 hx hlk hret (hb hby d20_4) (by decide) (by decide) (by rw [e1]; exact ⟨rfl, N0, rfl⟩)
theorem d19_0 : decode prog_14_method_1_code 0 = .ok (.aload_n 0, 1) := by decide +kernel
theorem d19_1 : decode prog_14_method_1_code 1 = .ok (.invokespecial 1, 3) := by decide +kernel
theorem d19_4 : decode prog_14_method_1_code 4 = .ok (.aload_n 0, 1) := by decide +kernel
theorem d19_5 : decode prog_14_method_1_code 5 = .ok (.iload_n 1, 1) := by decide +kernel
theorem d19_6 : decode prog_14_method_1_code 6 = .ok (.putfield 7, 3) := by decide +kernel
theorem d19_9 : decode prog_14_method_1_code 9 = .ok (.aload_n 0, 1) := by decide +kernel
theorem d19_10 : decode prog_14_method_1_code 10 = .ok (.aload_n 2, 1) := by decide +kernel
theorem d19_11 : decode prog_14_method_1_code 11 = .ok (.putfield 13, 3) := by decide +kernel
theorem d19_14 : decode prog_14_method_1_code 14 = .ok (.return_, 1) := by decide +kernel
theorem pn_6 : plainName "com/example/yusenkabu/yusenkabu/CsvFile$Row" = true := by first | (simp [plainName, overriddenIn]; done) | decide +kernel
def Q19 (Z : State) (a1 : Addr) (p1 : Int32) (a2 : Addr) (h0 : Heap) (n0 : Nat) (v : Option Value) (h : Heap) (L : List Loc) : Prop := v = none ∧ Fr n0 L ∧ Keep h0 h [a1] ∧ Fld Z h a1 "com/example/yusenkabu/yusenkabu/CsvFile$Row" "line" "I" (.int p1) ∧ Fld Z h a1 "com/example/yusenkabu/yusenkabu/CsvFile$Row" "fields" "Ljava/util/List;" (.ref a2)
def room19 : Room := { frames := 2, cells := 0, slots := 0, locals := 24 }
set_option maxRecDepth 65536 in
set_option maxHeartbeats 40000000 in
theorem rm19 (l : Launch) (Z : State) (a0 : Array Value) (hw : ∀ d ∈ tables_1, d.before a0 Z = true) (ws : List Jvm.Cond) (a1 : Addr) (p1 : Int32) (a2 : Addr) (h0 : Heap) (n0 : Nat) (Z0 : n0 ≤ h0.size) (E_a1 : Exa Z h0 a1 "com/example/yusenkabu/yusenkabu/CsvFile$Row") (g_a1 : n0 ≤ a1) (F_line : Fld Z h0 a1 "com/example/yusenkabu/yusenkabu/CsvFile$Row" "line" "I" (.int (0 : Int32))) (F_fields : Fld Z h0 a1 "com/example/yusenkabu/yusenkabu/CsvFile$Row" "fields" "Ljava/util/List;" .null) :
    MetFree l (⟨"com/example/yusenkabu/yusenkabu/CsvFile$Row", "<init>", "(ILjava/util/List;)V"⟩ : MethodName) (head1 (Jvm.Cond.code (⟨"com/example/yusenkabu/yusenkabu/CsvFile$Row", "<init>", "(ILjava/util/List;)V"⟩ : MethodName) prog_14_method_1_code 3 none :: ws) room19) (fun aa_ U_ => aa_ = #[(.ref a1), (.int p1), (.ref a2)] ∧ Z.Warmed39 U_.vm ∧ U_.heap = h0) (fun _ _ _ _ _ => True) (fun _ U_ o_ W_ => ∃ v_ L_, o_ = .returned v_ ∧ (Q19 Z a1 p1 a2 h0 n0) v_ W_.heap L_ ∧ FrameEnd U_ o_ W_ L_ room19.cells room19.slots) := by
  refine own_met (Q := (Q19 Z a1 p1 a2 h0 n0)) (L0 := #[.val (.ref a1), .val (.int p1), .val (.ref a2)]) (plainFor_of_name pn_6) (fun m => by first | (simp [entryFrame, mkF, argsToLocals, Value.category]; done) | rfl) ?_
  intro p e s m below meth c T0 X0 hx hby hml hown hnm hret hlk hZ e0
  have N0 := Fr.nil n0
  have K0 := Keep.refl h0 [a1]
  refine Go.st (T' := T0) (pc' := 1) (L' := #[.val (.ref a1), .val (.int p1), .val (.ref a2)]) (S' := [(.ref a1)]) (fun t k => XS.aloadN X0.here hx rfl (hb hby d19_0) rfl rfl  k) ?_
  obtain ⟨_, _, ⟨T1, L1, k1, n1⟩, -, X1, ⟨Lc1, hQ1, l1, y1, z1⟩, st1⟩ := X0.specialBack hx (y := (⟨"java/lang/Record", "<init>", "()V"⟩ : MethodName)) rfl hown (mvT hZ (hw _ (List.mem_of_getElem? (i := 106) rfl))) (mvT hZ (hw _ (List.mem_of_getElem? (i := 107) rfl))) (mvT hZ (hw _ (List.mem_of_getElem? (i := 110) rfl))) (by decide) (backOf (W := 0) (rm20 l Z a0 hw [] a1 h0 n0 Z0) hZ (hw _ (List.mem_of_getElem? (i := 110) rfl)) (hw _ (List.mem_of_getElem? (i := 109) rfl)) (by decide) (by decide)) (g := (mkF m 1 #[.val (.ref a1), .val (.int p1), .val (.ref a2)] [(.ref a1)])) rfl (by rw [hml]; rfl) (Steps.refl _) (a := a1) (argsL := []) (rest := []) (lenOf pd_3 rfl) rfl (by show 2 * 0 + _ ≤ _; exact Nat.le_of_eq rfl) (hb hby d19_1) (fun _ _ => ⟨rfl, e0, (by decide : 0 + 0 ≤ _), (by decide : 0 + 0 ≤ _)⟩)
  dsimp only [Pt.U, Pt.locs, Pt.cells, Pt.slots] at X1 l1 y1 z1 st1 hQ1
  subst l1 y1 z1
  obtain ⟨rfl, N1q, e1⟩ := hQ1
  have N1 := Fr.app N0 N1q
  refine Go.tr (T' := T1) (pc' := 4) (L' := #[.val (.ref a1), .val (.int p1), .val (.ref a2)]) (S' := []) st1 ?_
  refine Go.st (T' := T1) (pc' := 5) (L' := #[.val (.ref a1), .val (.int p1), .val (.ref a2)]) (S' := [(.ref a1)]) (fun t k => XS.aloadN X1.here hx rfl (hb hby d19_4) rfl rfl  k) ?_
  refine Go.st (T' := T1) (pc' := 6) (L' := #[.val (.ref a1), .val (.int p1), .val (.ref a2)]) (S' := [(.int p1), (.ref a1)]) (fun t k => XS.iloadN X1.here hx rfl (hb hby d19_5) rfl  k) ?_
  obtain ⟨T2, h2, X2, e2, W2, st2⟩ := putF X1 hx hZ hown (host := "") (Or.inl (hw _ (List.mem_of_getElem? (i := 112) rfl))) Via.refl e1 F_line E_a1 (Or.inr ⟨(hw _ (List.mem_of_getElem? (i := 113) rfl)), rfl, hnm⟩) (hw _ (List.mem_of_getElem? (i := 101) rfl)) (ty := .int) (by decide) rfl rfl (g := (mkF m 6 #[.val (.ref a1), .val (.int p1), .val (.ref a2)] [(.int p1), (.ref a1)])) rfl rfl (hb hby d19_6)
  replace Z0 := Nat.le_trans Z0 (Keep.of_wr W2).1
  replace K0 := K0.wr W2 (Or.inl (List.mem_of_getElem? (i := 0) rfl))
  replace E_a1 := E_a1.wr W2
  replace F_fields := F_fields.other W2 (Or.inr (slot_ne (Or.inr (hw _ (List.mem_of_getElem? (i := 115) rfl))) (Or.inr (hw _ (List.mem_of_getElem? (i := 113) rfl))) (by decide) (t := (.object "java/util/List")) (t' := .int) (by decide) (by decide)))
  replace F_line := F_line.same W2
  have N2 := Fr.snoc X2 N1 g_a1
  refine Go.st (T' := T2) (pc' := 9) (L' := #[.val (.ref a1), .val (.int p1), .val (.ref a2)]) (S' := []) st2 ?_
  refine Go.st (T' := T2) (pc' := 10) (L' := #[.val (.ref a1), .val (.int p1), .val (.ref a2)]) (S' := [(.ref a1)]) (fun t k => XS.aloadN X2.here hx rfl (hb hby d19_9) rfl rfl  k) ?_
  refine Go.st (T' := T2) (pc' := 11) (L' := #[.val (.ref a1), .val (.int p1), .val (.ref a2)]) (S' := [(.ref a2), (.ref a1)]) (fun t k => XS.aloadN X2.here hx rfl (hb hby d19_10) rfl rfl  k) ?_
  obtain ⟨T3, h3, X3, e3, W3, st3⟩ := putF X2 hx hZ hown (host := "") (Or.inl (hw _ (List.mem_of_getElem? (i := 114) rfl))) Via.refl e2 F_fields E_a1 (Or.inr ⟨(hw _ (List.mem_of_getElem? (i := 115) rfl)), rfl, hnm⟩) (hw _ (List.mem_of_getElem? (i := 101) rfl)) (ty := (.object "java/util/List")) (by decide) rfl rfl (g := (mkF m 11 #[.val (.ref a1), .val (.int p1), .val (.ref a2)] [(.ref a2), (.ref a1)])) rfl rfl (hb hby d19_11)
  replace Z0 := Nat.le_trans Z0 (Keep.of_wr W3).1
  replace K0 := K0.wr W3 (Or.inl (List.mem_of_getElem? (i := 0) rfl))
  replace E_a1 := E_a1.wr W3
  replace F_line := F_line.other W3 (Or.inr (slot_ne (Or.inr (hw _ (List.mem_of_getElem? (i := 113) rfl))) (Or.inr (hw _ (List.mem_of_getElem? (i := 115) rfl))) (by decide) (t := .int) (t' := (.object "java/util/List")) (by decide) (by decide)))
  replace F_fields := F_fields.same W3
  have N3 := Fr.snoc X3 N2 g_a1
  refine Go.st (T' := T3) (pc' := 14) (L' := #[.val (.ref a1), .val (.int p1), .val (.ref a2)]) (S' := []) st3 ?_
  exact Go.retV X3 hx hlk hret (hb hby d19_14) (by decide) (by decide) (by rw [e3]; exact ⟨rfl, N3, K0, F_line, F_fields⟩)
theorem d24_0 : decode jdk_41_method_11_code 0 = .ok (.iload_n 0, 1) := by decide +kernel
theorem d24_1 : decode jdk_41_method_11_code 1 = .ok (.ifCond .lt 8, 3) := by decide +kernel
theorem d24_4 : decode jdk_41_method_11_code 4 = .ok (.iload_n 0, 1) := by decide +kernel
theorem d24_5 : decode jdk_41_method_11_code 5 = .ok (.iload_n 1, 1) := by decide +kernel
theorem d24_6 : decode jdk_41_method_11_code 6 = .ok (.if_icmp .lt 10, 3) := by decide +kernel
theorem d24_16 : decode jdk_41_method_11_code 16 = .ok (.iload_n 0, 1) := by decide +kernel
theorem d24_17 : decode jdk_41_method_11_code 17 = .ok (.ireturn, 1) := by decide +kernel
theorem pn_7 : plainName "jdk/internal/util/Preconditions" = true := by first | (simp [plainName, overriddenIn]; done) | decide +kernel
def Q24 (Z : State) (i : Nat) (n : Nat) (h0 : Heap) (n0 : Nat) (v : Option Value) (h : Heap) (L : List Loc) : Prop := v = some (.int i.toInt32) ∧ Fr n0 L ∧ h = h0
def room24 : Room := { frames := 0, cells := 0, slots := 0, locals := 0 }
set_option maxRecDepth 65536 in
set_option maxHeartbeats 40000000 in
theorem rm24 (l : Launch) (Z : State) (a0 : Array Value) (hw : ∀ d ∈ tables_1, d.before a0 Z = true) (ws : List Jvm.Cond) (i : Nat) (n : Nat) (h0 : Heap) (n0 : Nat) (Z0 : n0 ≤ h0.size) (hi : i < n) (hn : n < 10) :
    MetFree l (⟨"jdk/internal/util/Preconditions", "checkIndex", "(IILjava/util/function/BiFunction;)I"⟩ : MethodName) (head1 (Jvm.Cond.code (⟨"jdk/internal/util/Preconditions", "checkIndex", "(IILjava/util/function/BiFunction;)I"⟩ : MethodName) jdk_41_method_11_code 3 (some .int) :: ws) room24) (fun aa_ U_ => aa_ = #[(.int (i.toInt32)), (.int (n.toInt32)), .null] ∧ Z.Warmed39 U_.vm ∧ U_.heap = h0) (fun _ _ _ _ _ => True) (fun _ U_ o_ W_ => ∃ v_ L_, o_ = .returned v_ ∧ (Q24 Z i n h0 n0) v_ W_.heap L_ ∧ FrameEnd U_ o_ W_ L_ room24.cells room24.slots) := by
  refine own_met (Q := (Q24 Z i n h0 n0)) (L0 := #[.val (.int (i.toInt32)), .val (.int (n.toInt32)), .val .null]) (plainFor_of_name pn_7) (fun m => by first | (simp [entryFrame, mkF, argsToLocals, Value.category]; done) | rfl) ?_
  intro p e s m below meth c T0 X0 hx hby hml hown hnm hret hlk hZ e0
  have N0 := Fr.nil n0
  refine Go.st (T' := T0) (pc' := 1) (L' := #[.val (.int (i.toInt32)), .val (.int (n.toInt32)), .val .null]) (S' := [(.int (i.toInt32))]) (fun t k => XS.iloadN X0.here hx rfl (hb hby d24_0) rfl  k) ?_
  refine Go.st (T' := T0) (pc' := 4) (L' := #[.val (.int (i.toInt32)), .val (.int (n.toInt32)), .val .null]) (S' := []) (fun t k => XS.ifNo X0.here hx rfl (hb hby d24_1) rfl ((if0 _ _).trans (flt (fun z => absurd ((own_ltI (n := 0) (by omega) (by decide)).mp z) (by omega) : ¬ ((i.toInt32) < (0 : Int32)))).1) k) ?_
  refine Go.st (T' := T0) (pc' := 5) (L' := #[.val (.int (i.toInt32)), .val (.int (n.toInt32)), .val .null]) (S' := [(.int (i.toInt32))]) (fun t k => XS.iloadN X0.here hx rfl (hb hby d24_4) rfl  k) ?_
  refine Go.st (T' := T0) (pc' := 6) (L' := #[.val (.int (i.toInt32)), .val (.int (n.toInt32)), .val .null]) (S' := [(.int (n.toInt32)), (.int (i.toInt32))]) (fun t k => XS.iloadN X0.here hx rfl (hb hby d24_5) rfl  k) ?_
  refine Go.st (T' := T0) (pc' := 16) (L' := #[.val (.int (i.toInt32)), .val (.int (n.toInt32)), .val .null]) (S' := []) (fun t k => XS.icmpYes X0.here hx rfl (pc0 := 6) (pc' := 16) rfl (hb hby d24_6) rfl (tlt ((own_ltI (by omega) (by omega)).mpr hi : ((i.toInt32) < (n.toInt32)))).1 (by decide) (by decide) k) ?_
  refine Go.st (T' := T0) (pc' := 17) (L' := #[.val (.int (i.toInt32)), .val (.int (n.toInt32)), .val .null]) (S' := [(.int (i.toInt32))]) (fun t k => XS.iloadN X0.here hx rfl (hb hby d24_16) rfl  k) ?_
  exact Go.retO X0 hx hlk hret rfl (by simp [FieldType.isReference, Value.isRef]) (hb hby d24_17) (by decide) (by decide) (by rw [e0]; exact ⟨rfl, N0, rfl⟩)
theorem d23_0 : decode jdk_31_method_17_code 0 = .ok (.iload_n 0, 1) := by decide +kernel
theorem d23_1 : decode jdk_31_method_17_code 1 = .ok (.iload_n 1, 1) := by decide +kernel
theorem d23_2 : decode jdk_31_method_17_code 2 = .ok (.aconst_null, 1) := by decide +kernel
theorem d23_3 : decode jdk_31_method_17_code 3 = .ok (.invokestatic 105, 3) := by decide +kernel
theorem d23_6 : decode jdk_31_method_17_code 6 = .ok (.ireturn, 1) := by decide +kernel
theorem pd_8 : parseMethodDescriptor "(IILjava/util/function/BiFunction;)I" = some ⟨[.int, .int, (.object "java/util/function/BiFunction")], some .int⟩ := by decide +kernel
theorem pn_8 : plainName "java/util/Objects" = true := by first | (simp [plainName, overriddenIn]; done) | decide +kernel
def Q23 (Z : State) (i : Nat) (n : Nat) (h0 : Heap) (n0 : Nat) (v : Option Value) (h : Heap) (L : List Loc) : Prop := v = some (.int i.toInt32) ∧ Fr n0 L ∧ h = h0
def room23 : Room := { frames := 1, cells := 0, slots := 0, locals := 14 }
set_option maxRecDepth 65536 in
set_option maxHeartbeats 40000000 in
theorem rm23 (l : Launch) (Z : State) (a0 : Array Value) (hw : ∀ d ∈ tables_1, d.before a0 Z = true) (ws : List Jvm.Cond) (i : Nat) (n : Nat) (h0 : Heap) (n0 : Nat) (Z0 : n0 ≤ h0.size) (hi : i < n) (hn : n < 10) :
    MetFree l (⟨"java/util/Objects", "checkIndex", "(II)I"⟩ : MethodName) (head1 (Jvm.Cond.code (⟨"java/util/Objects", "checkIndex", "(II)I"⟩ : MethodName) jdk_31_method_17_code 2 (some .int) :: ws) room23) (fun aa_ U_ => aa_ = #[(.int (i.toInt32)), (.int (n.toInt32))] ∧ Z.Warmed39 U_.vm ∧ U_.heap = h0) (fun _ _ _ _ _ => True) (fun _ U_ o_ W_ => ∃ v_ L_, o_ = .returned v_ ∧ (Q23 Z i n h0 n0) v_ W_.heap L_ ∧ FrameEnd U_ o_ W_ L_ room23.cells room23.slots) := by
  refine own_met (Q := (Q23 Z i n h0 n0)) (L0 := #[.val (.int (i.toInt32)), .val (.int (n.toInt32))]) (plainFor_of_name pn_8) (fun m => by first | (simp [entryFrame, mkF, argsToLocals, Value.category]; done) | rfl) ?_
  intro p e s m below meth c T0 X0 hx hby hml hown hnm hret hlk hZ e0
  have N0 := Fr.nil n0
  refine Go.st (T' := T0) (pc' := 1) (L' := #[.val (.int (i.toInt32)), .val (.int (n.toInt32))]) (S' := [(.int (i.toInt32))]) (fun t k => XS.iloadN X0.here hx rfl (hb hby d23_0) rfl  k) ?_
  refine Go.st (T' := T0) (pc' := 2) (L' := #[.val (.int (i.toInt32)), .val (.int (n.toInt32))]) (S' := [(.int (n.toInt32)), (.int (i.toInt32))]) (fun t k => XS.iloadN X0.here hx rfl (hb hby d23_1) rfl  k) ?_
  refine Go.st (T' := T0) (pc' := 3) (L' := #[.val (.int (i.toInt32)), .val (.int (n.toInt32))]) (S' := [.null, (.int (n.toInt32)), (.int (i.toInt32))]) (fun t k => XS.aconstNull X0.here hx rfl (hb hby d23_2) k) ?_
  obtain ⟨_, _, ⟨T1, L1, k1, n1⟩, -, X1, ⟨Lc1, hQ1, l1, y1, z1⟩, st1⟩ := Jvm.LawKit.callS X0 hx (y := (⟨"jdk/internal/util/Preconditions", "checkIndex", "(IILjava/util/function/BiFunction;)I"⟩ : MethodName)) hown (mvT hZ (hw _ (List.mem_of_getElem? (i := 134) rfl))) (mvT hZ (hw _ (List.mem_of_getElem? (i := 135) rfl))) (mvT hZ (hw _ (List.mem_of_getElem? (i := 136) rfl))) (mvT hZ (hw _ (List.mem_of_getElem? (i := 137) rfl))) (by decide) (backOf (W := 0) (rm24 l Z a0 hw [] i n h0 n0 Z0 hi hn) hZ (hw _ (List.mem_of_getElem? (i := 137) rfl)) (hw _ (List.mem_of_getElem? (i := 136) rfl)) (by decide) (by decide)) (g := (mkF m 3 #[.val (.int (i.toInt32)), .val (.int (n.toInt32))] [.null, (.int (n.toInt32)), (.int (i.toInt32))])) rfl (by rw [hml]; rfl) (argsL := [(.int (i.toInt32)), (.int (n.toInt32)), .null]) (rest := []) (lenOf pd_8 rfl) rfl (by show 2 * 0 + _ ≤ _; exact Nat.le_of_eq rfl) (hb hby d23_3) (fun _ _ => ⟨rfl, e0, (by decide : 0 + 0 ≤ _), (by decide : 0 + 0 ≤ _)⟩)
  dsimp only [Pt.U, Pt.locs, Pt.cells, Pt.slots] at X1 l1 y1 z1 st1 hQ1
  subst l1 y1 z1
  obtain ⟨rfl, N1q, e1⟩ := hQ1
  have N1 := Fr.app N0 N1q
  refine Go.st (T' := T1) (pc' := 6) (L' := #[.val (.int (i.toInt32)), .val (.int (n.toInt32))]) (S' := [(.int (i.toInt32))]) st1 ?_
  exact Go.retO X1 hx hlk hret rfl (by simp [FieldType.isReference, Value.isRef]) (hb hby d23_6) (by decide) (by decide) (by rw [e1]; exact ⟨rfl, N1, rfl⟩)
theorem d25_0 : decode jdk_38_method_18_code 0 = .ok (.aload_n 0, 1) := by decide +kernel
theorem d25_1 : decode jdk_38_method_18_code 1 = .ok (.getfield 9, 3) := by decide +kernel
theorem d25_4 : decode jdk_38_method_18_code 4 = .ok (.iload_n 1, 1) := by decide +kernel
theorem d25_5 : decode jdk_38_method_18_code 5 = .ok (.aaload, 1) := by decide +kernel
theorem d25_6 : decode jdk_38_method_18_code 6 = .ok (.areturn, 1) := by decide +kernel
def Q25 (Z : State) (x1 : Addr) (h0 : Heap) (n0 : Nat) (v : Option Value) (h : Heap) (L : List Loc) : Prop := v = some (.ref x1) ∧ Fr n0 L ∧ h = h0
def room25 : Room := { frames := 0, cells := 0, slots := 0, locals := 0 }
set_option maxRecDepth 65536 in
set_option maxHeartbeats 40000000 in
theorem rm25 (l : Launch) (Z : State) (a0 : Array Value) (hw : ∀ d ∈ tables_1, d.before a0 Z = true) (ws : List Jvm.Cond) (a1 : Addr) (el : Addr) (ke : ClassId) (us : List Value) (i : Nat) (n : Nat) (x1 : Addr) (h0 : Heap) (n0 : Nat) (Z0 : n0 ≤ h0.size) (E_a1 : Exa Z h0 a1 "java/util/ArrayList") (F_elementData : Fld Z h0 a1 "java/util/ArrayList" "elementData" "[Ljava/lang/Object;" (.ref el)) (F_size : Fld Z h0 a1 "java/util/ArrayList" "size" "I" (.int n.toInt32)) (V_el : Arv Z h0 el ke (.object "java/lang/Object") (10 : Int32) us .null) (hi : i < n) (hn : n < 10) (hu : us.getD i .null = .ref x1) :
    MetFree l (⟨"java/util/ArrayList", "elementData", "(I)Ljava/lang/Object;"⟩ : MethodName) (head1 (Jvm.Cond.code (⟨"java/util/ArrayList", "elementData", "(I)Ljava/lang/Object;"⟩ : MethodName) jdk_38_method_18_code 2 (some (.object "java/lang/Object")) :: ws) room25) (fun aa_ U_ => aa_ = #[(.ref a1), (.int (i.toInt32))] ∧ Z.Warmed39 U_.vm ∧ U_.heap = h0) (fun _ _ _ _ _ => True) (fun _ U_ o_ W_ => ∃ v_ L_, o_ = .returned v_ ∧ (Q25 Z x1 h0 n0) v_ W_.heap L_ ∧ FrameEnd U_ o_ W_ L_ room25.cells room25.slots) := by
  refine own_met (Q := (Q25 Z x1 h0 n0)) (L0 := #[.val (.ref a1), .val (.int (i.toInt32))]) (plainFor_of_name pn_4) (fun m => by first | (simp [entryFrame, mkF, argsToLocals, Value.category]; done) | rfl) ?_
  intro p e s m below meth c T0 X0 hx hby hml hown hnm hret hlk hZ e0
  have N0 := Fr.nil n0
  refine Go.st (T' := T0) (pc' := 1) (L' := #[.val (.ref a1), .val (.int (i.toInt32))]) (S' := [(.ref a1)]) (fun t k => XS.aloadN X0.here hx rfl (hb hby d25_0) rfl rfl  k) ?_
  obtain ⟨T1, X1, e1, st1⟩ := getF X0 hx hZ hown (host := "") (Or.inl (hw _ (List.mem_of_getElem? (i := 67) rfl))) Via.refl e0 F_elementData (g := (mkF m 1 #[.val (.ref a1), .val (.int (i.toInt32))] [(.ref a1)])) rfl rfl (hb hby d25_1)
  refine Go.st (T' := T1) (pc' := 4) (L' := #[.val (.ref a1), .val (.int (i.toInt32))]) (S' := [(.ref el)]) st1 ?_
  refine Go.st (T' := T1) (pc' := 5) (L' := #[.val (.ref a1), .val (.int (i.toInt32))]) (S' := [(.int (i.toInt32)), (.ref el)]) (fun t k => XS.iloadN X1.here hx rfl (hb hby d25_4) rfl  k) ?_
  obtain ⟨cl2, Ar2, -, q2a, q2b, q2c, q2d⟩ := id V_el
  refine Go.st (T' := T1) (pc' := 6) (L' := #[.val (.ref a1), .val (.int (i.toInt32))]) (S' := [(.ref x1)]) (fun t k => X1.aaload hx (j := (i.toInt32)) (v := (.ref x1)) (by rw [e1]; exact Ar2.1) (State.isArrayOf_alike hZ.alike Ar2.2.1) rfl Ar2.2.2 (own_inb q2a (N := 10) (by decide) (by omega) (by decide)) (q2c.at (own_inb q2a (N := 10) (by decide) (by omega) (by decide)) (by rw [own_tn (by omega)]; exact hu)) (g := (mkF m 5 #[.val (.ref a1), .val (.int (i.toInt32))] [(.int (i.toInt32)), (.ref el)])) rfl rfl (hb hby d25_5) t k) ?_
  exact Go.retO X1 hx hlk hret rfl (by simp [FieldType.isReference, Value.isRef]) (hb hby d25_6) (by decide) (by decide) (by rw [e1]; exact ⟨rfl, N0, rfl⟩)
theorem d22_0 : decode jdk_38_method_20_code 0 = .ok (.iload_n 1, 1) := by decide +kernel
theorem d22_1 : decode jdk_38_method_20_code 1 = .ok (.aload_n 0, 1) := by decide +kernel
theorem d22_2 : decode jdk_38_method_20_code 2 = .ok (.getfield 48, 3) := by decide +kernel
theorem d22_5 : decode jdk_38_method_20_code 5 = .ok (.invokestatic 118, 3) := by decide +kernel
theorem d22_8 : decode jdk_38_method_20_code 8 = .ok (.pop, 1) := by decide +kernel
theorem d22_9 : decode jdk_38_method_20_code 9 = .ok (.aload_n 0, 1) := by decide +kernel
theorem d22_10 : decode jdk_38_method_20_code 10 = .ok (.iload_n 1, 1) := by decide +kernel
theorem d22_11 : decode jdk_38_method_20_code 11 = .ok (.invokevirtual 123, 3) := by decide +kernel
theorem d22_14 : decode jdk_38_method_20_code 14 = .ok (.areturn, 1) := by decide +kernel
theorem pd_9 : parseMethodDescriptor "(I)Ljava/lang/Object;" = some ⟨[.int], some (.object "java/lang/Object")⟩ := by decide +kernel
def Q22 (Z : State) (x1 : Addr) (h0 : Heap) (n0 : Nat) (v : Option Value) (h : Heap) (L : List Loc) : Prop := v = some (.ref x1) ∧ Fr n0 L ∧ h = h0
def room22 : Room := { frames := 2, cells := 0, slots := 0, locals := 27 }
set_option maxRecDepth 65536 in
set_option maxHeartbeats 40000000 in
theorem rm22 (l : Launch) (Z : State) (a0 : Array Value) (hw : ∀ d ∈ tables_1, d.before a0 Z = true) (ws : List Jvm.Cond) (a1 : Addr) (el : Addr) (ke : ClassId) (us : List Value) (i : Nat) (n : Nat) (x1 : Addr) (h0 : Heap) (n0 : Nat) (Z0 : n0 ≤ h0.size) (E_a1 : Exa Z h0 a1 "java/util/ArrayList") (F_elementData : Fld Z h0 a1 "java/util/ArrayList" "elementData" "[Ljava/lang/Object;" (.ref el)) (F_size : Fld Z h0 a1 "java/util/ArrayList" "size" "I" (.int n.toInt32)) (V_el : Arv Z h0 el ke (.object "java/lang/Object") (10 : Int32) us .null) (hi : i < n) (hn : n < 10) (hu : us.getD i .null = .ref x1) :
    MetFree l (⟨"java/util/ArrayList", "get", "(I)Ljava/lang/Object;"⟩ : MethodName) (head1 (Jvm.Cond.code (⟨"java/util/ArrayList", "get", "(I)Ljava/lang/Object;"⟩ : MethodName) jdk_38_method_20_code 2 (some (.object "java/lang/Object")) :: ws) room22) (fun aa_ U_ => aa_ = #[(.ref a1), (.int (i.toInt32))] ∧ Z.Warmed39 U_.vm ∧ U_.heap = h0) (fun _ _ _ _ _ => True) (fun _ U_ o_ W_ => ∃ v_ L_, o_ = .returned v_ ∧ (Q22 Z x1 h0 n0) v_ W_.heap L_ ∧ FrameEnd U_ o_ W_ L_ room22.cells room22.slots) := by
  refine own_met (Q := (Q22 Z x1 h0 n0)) (L0 := #[.val (.ref a1), .val (.int (i.toInt32))]) (plainFor_of_name pn_4) (fun m => by first | (simp [entryFrame, mkF, argsToLocals, Value.category]; done) | rfl) ?_
  intro p e s m below meth c T0 X0 hx hby hml hown hnm hret hlk hZ e0
  have N0 := Fr.nil n0
  refine Go.st (T' := T0) (pc' := 1) (L' := #[.val (.ref a1), .val (.int (i.toInt32))]) (S' := [(.int (i.toInt32))]) (fun t k => XS.iloadN X0.here hx rfl (hb hby d22_0) rfl  k) ?_
  refine Go.st (T' := T0) (pc' := 2) (L' := #[.val (.ref a1), .val (.int (i.toInt32))]) (S' := [(.ref a1), (.int (i.toInt32))]) (fun t k => XS.aloadN X0.here hx rfl (hb hby d22_1) rfl rfl  k) ?_
  obtain ⟨T1, X1, e1, st1⟩ := getF X0 hx hZ hown (host := "") (Or.inl (hw _ (List.mem_of_getElem? (i := 76) rfl))) Via.refl e0 F_size (g := (mkF m 2 #[.val (.ref a1), .val (.int (i.toInt32))] [(.ref a1), (.int (i.toInt32))])) rfl rfl (hb hby d22_2)
  refine Go.st (T' := T1) (pc' := 5) (L' := #[.val (.ref a1), .val (.int (i.toInt32))]) (S' := [(.int (n.toInt32)), (.int (i.toInt32))]) st1 ?_
  obtain ⟨_, _, ⟨T2, L2, k2, n2⟩, -, X2, ⟨Lc2, hQ2, l2, y2, z2⟩, st2⟩ := Jvm.LawKit.callS X1 hx (y := (⟨"java/util/Objects", "checkIndex", "(II)I"⟩ : MethodName)) hown (mvT hZ (hw _ (List.mem_of_getElem? (i := 130) rfl))) (mvT hZ (hw _ (List.mem_of_getElem? (i := 131) rfl))) (mvT hZ (hw _ (List.mem_of_getElem? (i := 132) rfl))) (mvT hZ (hw _ (List.mem_of_getElem? (i := 133) rfl))) (by decide) (backOf (W := 0) (rm23 l Z a0 hw [] i n h0 n0 Z0 hi hn) hZ (hw _ (List.mem_of_getElem? (i := 133) rfl)) (hw _ (List.mem_of_getElem? (i := 132) rfl)) (by decide) (by decide)) (g := (mkF m 5 #[.val (.ref a1), .val (.int (i.toInt32))] [(.int (n.toInt32)), (.int (i.toInt32))])) rfl (by rw [hml]; rfl) (argsL := [(.int (i.toInt32)), (.int (n.toInt32))]) (rest := []) (lenOf pd_4 rfl) rfl (by show 2 * 0 + _ ≤ _; exact Nat.le_of_eq rfl) (hb hby d22_5) (fun _ _ => ⟨rfl, e1, (by decide : 0 + 0 ≤ _), (by decide : 0 + 0 ≤ _)⟩)
  dsimp only [Pt.U, Pt.locs, Pt.cells, Pt.slots] at X2 l2 y2 z2 st2 hQ2
  subst l2 y2 z2
  obtain ⟨rfl, N2q, e2⟩ := hQ2
  have N2 := Fr.app N0 N2q
  refine Go.st (T' := T2) (pc' := 8) (L' := #[.val (.ref a1), .val (.int (i.toInt32))]) (S' := [(.int (i.toInt32))]) st2 ?_
  refine Go.st (T' := T2) (pc' := 9) (L' := #[.val (.ref a1), .val (.int (i.toInt32))]) (S' := []) (fun t k => XS.pop X2.here hx rfl (hb hby d22_8) rfl rfl k) ?_
  refine Go.st (T' := T2) (pc' := 10) (L' := #[.val (.ref a1), .val (.int (i.toInt32))]) (S' := [(.ref a1)]) (fun t k => XS.aloadN X2.here hx rfl (hb hby d22_9) rfl rfl  k) ?_
  refine Go.st (T' := T2) (pc' := 11) (L' := #[.val (.ref a1), .val (.int (i.toInt32))]) (S' := [(.int (i.toInt32)), (.ref a1)]) (fun t k => XS.iloadN X2.here hx rfl (hb hby d22_10) rfl  k) ?_
  obtain ⟨cq3, kq3, q3a, q3b, q3c⟩ := isOf hZ e2 E_a1
  obtain ⟨_, _, ⟨T3, L3, k3, n3⟩, -, X3, ⟨Lc3, hQ3, l3, y3, z3⟩, st3⟩ := X2.virtualBack hx (y := (⟨"java/util/ArrayList", "elementData", "(I)Ljava/lang/Object;"⟩ : MethodName)) (z := (⟨"java/util/ArrayList", "elementData", "(I)Ljava/lang/Object;"⟩ : MethodName)) hown (mvT hZ (hw _ (List.mem_of_getElem? (i := 138) rfl))) (mvT hZ (hw _ (List.mem_of_getElem? (i := 139) rfl))) (notFace_of_selects (args := #[]) (mvT hZ (hw _ (List.mem_of_getElem? (i := 141) rfl)))) (mvT hZ (hw _ (List.mem_of_getElem? (i := 141) rfl))) (mvT hZ (hw _ (List.mem_of_getElem? (i := 140) rfl))) (by decide) (backOf (W := 0) (rm25 l Z a0 hw [] a1 el ke us i n x1 h0 n0 Z0 E_a1 F_elementData F_size V_el hi hn hu) hZ (hw _ (List.mem_of_getElem? (i := 142) rfl)) (hw _ (List.mem_of_getElem? (i := 47) rfl)) (by decide) (by decide)) q3a q3c (g := (mkF m 11 #[.val (.ref a1), .val (.int (i.toInt32))] [(.int (i.toInt32)), (.ref a1)])) rfl (by rw [hml]; rfl) (Steps.refl _) (argsL := [(.int (i.toInt32))]) (rest := []) (lenOf pd_9 rfl) rfl (by show 2 * 0 + _ ≤ _; exact Nat.le_of_eq rfl) (hb hby d22_11) (fun _ _ => ⟨rfl, e2, (by decide : 0 + 0 ≤ _), (by decide : 0 + 0 ≤ _)⟩)
  dsimp only [Pt.U, Pt.locs, Pt.cells, Pt.slots] at X3 l3 y3 z3 st3 hQ3
  subst l3 y3 z3
  obtain ⟨rfl, N3q, e3⟩ := hQ3
  have N3 := Fr.app N2 N3q
  refine Go.tr (T' := T3) (pc' := 14) (L' := #[.val (.ref a1), .val (.int (i.toInt32))]) (S' := [(.ref x1)]) st3 ?_
  exact Go.retO X3 hx hlk hret rfl (by simp [FieldType.isReference, Value.isRef]) (hb hby d22_14) (by decide) (by decide) (by rw [e3]; exact ⟨rfl, N3, rfl⟩)
theorem d21_0 : decode prog_14_method_2_code 0 = .ok (.aload_n 0, 1) := by decide +kernel
theorem d21_1 : decode prog_14_method_2_code 1 = .ok (.getfield 13, 3) := by decide +kernel
theorem d21_4 : decode prog_14_method_2_code 4 = .ok (.iload_n 1, 1) := by decide +kernel
theorem d21_5 : decode prog_14_method_2_code 5 = .ok (.invokeinterface 17 2, 5) := by decide +kernel
theorem d21_10 : decode prog_14_method_2_code 10 = .ok (.checkcast 23, 3) := by decide +kernel
theorem d21_13 : decode prog_14_method_2_code 13 = .ok (.areturn, 1) := by decide +kernel
def Q21 (Z : State) (x1 : Addr) (h0 : Heap) (n0 : Nat) (v : Option Value) (h : Heap) (L : List Loc) : Prop := v = some (.ref x1) ∧ Fr n0 L ∧ h = h0
def room21 : Room := { frames := 3, cells := 0, slots := 0, locals := 40 }
set_option maxRecDepth 65536 in
set_option maxHeartbeats 40000000 in
theorem rm21 (l : Launch) (Z : State) (a0 : Array Value) (hw : ∀ d ∈ tables_1, d.before a0 Z = true) (ws : List Jvm.Cond) (r1 : Addr) (a1 : Addr) (el : Addr) (ke : ClassId) (us : List Value) (i : Nat) (n : Nat) (x1 : Addr) (h0 : Heap) (n0 : Nat) (Z0 : n0 ≤ h0.size) (F_fields : Fld Z h0 r1 "com/example/yusenkabu/yusenkabu/CsvFile$Row" "fields" "Ljava/util/List;" (.ref a1)) (E_x : Exa Z h0 x1 "java/lang/String") (E_a1 : Exa Z h0 a1 "java/util/ArrayList") (F_elementData : Fld Z h0 a1 "java/util/ArrayList" "elementData" "[Ljava/lang/Object;" (.ref el)) (F_size : Fld Z h0 a1 "java/util/ArrayList" "size" "I" (.int n.toInt32)) (V_el : Arv Z h0 el ke (.object "java/lang/Object") (10 : Int32) us .null) (hi : i < n) (hn : n < 10) (hu : us.getD i .null = .ref x1) :
    MetFree l (⟨"com/example/yusenkabu/yusenkabu/CsvFile$Row", "field", "(I)Ljava/lang/String;"⟩ : MethodName) (head1 (Jvm.Cond.code (⟨"com/example/yusenkabu/yusenkabu/CsvFile$Row", "field", "(I)Ljava/lang/String;"⟩ : MethodName) prog_14_method_2_code 2 (some (.object "java/lang/String")) :: ws) room21) (fun aa_ U_ => aa_ = #[(.ref r1), (.int (i.toInt32))] ∧ Z.Warmed39 U_.vm ∧ U_.heap = h0) (fun _ _ _ _ _ => True) (fun _ U_ o_ W_ => ∃ v_ L_, o_ = .returned v_ ∧ (Q21 Z x1 h0 n0) v_ W_.heap L_ ∧ FrameEnd U_ o_ W_ L_ room21.cells room21.slots) := by
  refine own_met (Q := (Q21 Z x1 h0 n0)) (L0 := #[.val (.ref r1), .val (.int (i.toInt32))]) (plainFor_of_name pn_6) (fun m => by first | (simp [entryFrame, mkF, argsToLocals, Value.category]; done) | rfl) ?_
  intro p e s m below meth c T0 X0 hx hby hml hown hnm hret hlk hZ e0
  have N0 := Fr.nil n0
  refine Go.st (T' := T0) (pc' := 1) (L' := #[.val (.ref r1), .val (.int (i.toInt32))]) (S' := [(.ref r1)]) (fun t k => XS.aloadN X0.here hx rfl (hb hby d21_0) rfl rfl  k) ?_
  obtain ⟨T1, X1, e1, st1⟩ := getF X0 hx hZ hown (host := "") (Or.inl (hw _ (List.mem_of_getElem? (i := 114) rfl))) Via.refl e0 F_fields (g := (mkF m 1 #[.val (.ref r1), .val (.int (i.toInt32))] [(.ref r1)])) rfl rfl (hb hby d21_1)
  refine Go.st (T' := T1) (pc' := 4) (L' := #[.val (.ref r1), .val (.int (i.toInt32))]) (S' := [(.ref a1)]) st1 ?_
  refine Go.st (T' := T1) (pc' := 5) (L' := #[.val (.ref r1), .val (.int (i.toInt32))]) (S' := [(.int (i.toInt32)), (.ref a1)]) (fun t k => XS.iloadN X1.here hx rfl (hb hby d21_4) rfl  k) ?_
  obtain ⟨cq2, kq2, q2a, q2b, q2c⟩ := isOf hZ e1 E_a1
  obtain ⟨_, _, ⟨T2, L2, k2, n2⟩, -, X2, ⟨Lc2, hQ2, l2, y2, z2⟩, st2⟩ := X1.interfaceBack hx (xi := (⟨"java/util/List", "get", "(I)Ljava/lang/Object;"⟩ : MethodName)) (y := (⟨"java/util/ArrayList", "get", "(I)Ljava/lang/Object;"⟩ : MethodName)) hown (mvT hZ (hw _ (List.mem_of_getElem? (i := 121) rfl))) (mvT hZ (hw _ (List.mem_of_getElem? (i := 122) rfl))) (mvT hZ (hw _ (List.mem_of_getElem? (i := 123) rfl))) (mvT hZ (hw _ (List.mem_of_getElem? (i := 124) rfl))) (mvT hZ (hw _ (List.mem_of_getElem? (i := 125) rfl))) (mvT hZ (hw _ (List.mem_of_getElem? (i := 126) rfl))) (mvT hZ (hw _ (List.mem_of_getElem? (i := 127) rfl))) (mvT hZ (hw _ (List.mem_of_getElem? (i := 128) rfl))) (by decide) (backOf (W := 0) (rm22 l Z a0 hw [] a1 el ke us i n x1 h0 n0 Z0 E_a1 F_elementData F_size V_el hi hn hu) hZ (hw _ (List.mem_of_getElem? (i := 129) rfl)) (hw _ (List.mem_of_getElem? (i := 47) rfl)) (by decide) (by decide)) q2a q2b q2c (g := (mkF m 5 #[.val (.ref r1), .val (.int (i.toInt32))] [(.int (i.toInt32)), (.ref a1)])) rfl (by rw [hml]; rfl) (Steps.refl _) (argsL := [(.int (i.toInt32))]) (rest := []) (lenOf pd_9 rfl) rfl (by show 2 * 0 + _ ≤ _; exact Nat.le_of_eq rfl) (hb hby d21_5) (fun _ _ => ⟨rfl, e1, (by decide : 0 + 0 ≤ _), (by decide : 0 + 0 ≤ _)⟩)
  dsimp only [Pt.U, Pt.locs, Pt.cells, Pt.slots] at X2 l2 y2 z2 st2 hQ2
  subst l2 y2 z2
  obtain ⟨rfl, N2q, e2⟩ := hQ2
  have N2 := Fr.app N0 N2q
  refine Go.tr (T' := T2) (pc' := 10) (L' := #[.val (.ref r1), .val (.int (i.toInt32))]) (S' := [(.ref x1)]) st2 ?_
  obtain ⟨T3, X3, e3, st3⟩ := castY X2 hx hZ hown (hw _ (List.mem_of_getElem? (i := 143) rfl)) e2 (Ins.self E_x) (g := (mkF m 10 #[.val (.ref r1), .val (.int (i.toInt32))] [(.ref x1)])) rfl rfl (hb hby d21_10)
  refine Go.st (T' := T3) (pc' := 13) (L' := #[.val (.ref r1), .val (.int (i.toInt32))]) (S' := [(.ref x1)]) st3 ?_
  exact Go.retO X3 hx hlk hret rfl (by simp [FieldType.isReference, Value.isRef]) (hb hby d21_13) (by decide) (by decide) (by rw [e3]; exact ⟨rfl, N2, rfl⟩)
theorem own_n3 (x : Int32) : (1 : Int32) + (x &&& (3 : Int32)) % (3 : Int32) = 1 ∨ (1 : Int32) + (x &&& (3 : Int32)) % (3 : Int32) = 2 ∨ (1 : Int32) + (x &&& (3 : Int32)) % (3 : Int32) = 3 := by
  have h := c_mask x 3 2 (by decide) (by decide)
  have h1 := (c_irem (x &&& 3) 3 3 rfl).1 (by omega)
  have h2 := c_iadd 1 ((x &&& 3) % 3)
  have h3 := rng32 (1 + (x &&& 3) % 3)
  simp only [← Int32.toInt_inj]
  have el : (1 : Int32).toInt = 1 := rfl
  have e2 : (2 : Int32).toInt = 2 := rfl
  have e3 : (3 : Int32).toInt = 3 := rfl
  omega
theorem own_pos (x : Int32) : 0 ≤ (x &&& (2147483647 : Int32)).toInt := by have h := c_mask x 2147483647 31 (by decide) (by decide); omega
theorem own_r1 (x : Int32) : (x &&& (2147483647 : Int32)) % (1 : Int32) = 0 := by
  have h1 := (c_irem (x &&& 2147483647) 1 1 rfl).1 (own_pos x); simp only [← Int32.toInt_inj]; have e0 : (0 : Int32).toInt = 0 := rfl; omega
theorem own_r2 (x : Int32) : (x &&& (2147483647 : Int32)) % (2 : Int32) = 0 ∨ (x &&& (2147483647 : Int32)) % (2 : Int32) = 1 := by
  have h1 := (c_irem (x &&& 2147483647) 2 2 rfl).1 (own_pos x); simp only [← Int32.toInt_inj]; have e0 : (0 : Int32).toInt = 0 := rfl; have el : (1 : Int32).toInt = 1 := rfl; omega
theorem own_r3 (x : Int32) : (x &&& (2147483647 : Int32)) % (3 : Int32) = 0 ∨ (x &&& (2147483647 : Int32)) % (3 : Int32) = 1 ∨ (x &&& (2147483647 : Int32)) % (3 : Int32) = 2 := by
  have h1 := (c_irem (x &&& 2147483647) 3 3 rfl).1 (own_pos x); simp only [← Int32.toInt_inj]; have e0 : (0 : Int32).toInt = 0 := rfl; have el : (1 : Int32).toInt = 1 := rfl; have e2 : (2 : Int32).toInt = 2 := rfl; omega
theorem pd_10 : parseMethodDescriptor "([C)V" = some ⟨[(.array .char)], none⟩ := by decide +kernel
theorem pd_11 : parseMethodDescriptor "(C)Ljava/lang/String;" = some ⟨[.char], some (.object "java/lang/String")⟩ := by decide +kernel
theorem pd_12 : parseMethodDescriptor "(Ljava/lang/Object;)Z" = some ⟨[(.object "java/lang/Object")], some .boolean⟩ := by decide +kernel
theorem pd_13 : parseMethodDescriptor "(ILjava/util/List;)V" = some ⟨[.int, (.object "java/util/List")], none⟩ := by decide +kernel
theorem pd_14 : parseMethodDescriptor "(I)Ljava/lang/String;" = some ⟨[.int], some (.object "java/lang/String")⟩ := by decide +kernel
theorem pn_9 : plainName "com/example/yusenkabu/yusenkabu/RowFieldPinLaw" = true := by first | (simp [plainName, overriddenIn]; done) | decide +kernel
def Q0 (Z : State)  (h0 : Heap) (n0 : Nat) (v : Option Value) (h : Heap) (L : List Loc) : Prop := v = some (.int 1) ∧ Fr n0 L
set_option maxRecDepth 65536 in
set_option maxHeartbeats 40000000 in
theorem rm0 (l : Launch) (Z : State) (a0 : Array Value) (hw : ∀ d ∈ tables_1, d.before a0 Z = true) (ws : List Jvm.Cond) (p1 : Int32) (p2 : Int32) (p3 : Int32) (p4 : Int32) (p5 : Int32) (gC : Int32) (d0 : Addr) (kd : ClassId) (h0 : Heap) (n0 : Nat) (Z0 : n0 ≤ h0.size) (SC : Sta Z Z.heap "java/lang/String" "COMPACT_STRINGS" "Z" (.int gC)) (PC : ¬ (gC = (0 : Int32))) (SD : Sta Z Z.heap "java/util/ArrayList" "DEFAULTCAPACITY_EMPTY_ELEMENTDATA" "[Ljava/lang/Object;" (.ref d0)) (O0 : Old Z n0 h0) (V_d0 : Arv Z h0 d0 kd (.object "java/lang/Object") (0 : Int32) [] .null) :
    MetFree l x (head1 (Jvm.Cond.code x code maxLocals ret :: ws) room_1) (fun aa_ U_ => aa_ = #[(.int p1), (.int p2), (.int p3), (.int p4), (.int p5)] ∧ Z.Warmed39 U_.vm ∧ U_.heap = h0) (fun _ _ _ _ _ => True) (fun _ U_ o_ W_ => ∃ v_ L_, o_ = .returned v_ ∧ (Q0 Z  h0 n0) v_ W_.heap L_ ∧ FrameEnd U_ o_ W_ L_ room_1.cells room_1.slots) := by
  refine own_met (Q := (Q0 Z  h0 n0)) (L0 := #[.val (.int p1), .val (.int p2), .val (.int p3), .val (.int p4), .val (.int p5), .unset, .unset, .unset, .unset, .unset, .unset, .unset, .unset, .unset]) (plainFor_of_name pn_9) (fun m => by first | (simp [entryFrame, mkF, argsToLocals, Value.category, maxLocals]; done) | rfl) ?_
  intro p e s m below meth c T0 X0 hx hby hml hown hnm hret hlk hZ e0
  have N0 := Fr.nil n0
  obtain ⟨T1, h1, X1, e1, E1, A1, D1, U1, st1⟩ := newO X0 hx hZ hown (hw _ (List.mem_of_getElem? (i := 0) rfl)) (hw _ (List.mem_of_getElem? (i := 1) rfl)) (hw _ (List.mem_of_getElem? (i := 2) rfl)) e0 (g := (mkF m 0 #[.val (.int p1), .val (.int p2), .val (.int p3), .val (.int p4), .val (.int p5), .unset, .unset, .unset, .unset, .unset, .unset, .unset, .unset, .unset] [])) rfl (hb hby at_0) (by decide) (by decide)
  obtain ⟨b1, g1⟩ : ∃ z, z = h0.size := ⟨_, rfl⟩
  rw [← g1] at A1 D1 U1 st1
  have ne_d0_b1 : d0 ≠ b1 := Nat.ne_of_lt (Nat.lt_of_lt_of_le V_d0.lt (Nat.le_of_eq g1.symm))
  have g_b1 : n0 ≤ b1 := Nat.le_trans Z0 (Nat.le_of_eq g1.symm)
  replace Z0 := Nat.le_trans Z0 E1.1
  replace O0 := O0.ext E1
  replace V_d0 := V_d0.ext E1
  have E_b1 := A1
  have F_b1_coder : Fld Z h1 b1 "java/lang/String" "coder" "B" (.int (0 : Int32)) := D1 (Or.inr (hw _ (List.mem_of_getElem? (i := 27) rfl))) (ty := .byte) (by decide)
  have F_b1_value : Fld Z h1 b1 "java/lang/String" "value" "[B" .null := D1 (Or.inr (hw _ (List.mem_of_getElem? (i := 29) rfl))) (ty := (.array .byte)) (by decide)
  refine Go.st (T' := T1) (pc' := 3) (L' := #[.val (.int p1), .val (.int p2), .val (.int p3), .val (.int p4), .val (.int p5), .unset, .unset, .unset, .unset, .unset, .unset, .unset, .unset, .unset]) (S' := [(.ref b1)]) st1 ?_
  refine Go.st (T' := T1) (pc' := 4) (L' := #[.val (.int p1), .val (.int p2), .val (.int p3), .val (.int p4), .val (.int p5), .unset, .unset, .unset, .unset, .unset, .unset, .unset, .unset, .unset]) (S' := [(.ref b1), (.ref b1)]) (fun t k => XS.dup X1.here hx rfl (hb hby at_3) rfl rfl k) ?_
  refine Go.st (T' := T1) (pc' := 5) (L' := #[.val (.int p1), .val (.int p2), .val (.int p3), .val (.int p4), .val (.int p5), .unset, .unset, .unset, .unset, .unset, .unset, .unset, .unset, .unset]) (S' := [(.int (1 : Int32)), (.ref b1), (.ref b1)]) (fun t k => XS.iconst X1.here hx rfl (hb hby at_4) k) ?_
  obtain ⟨T2, h2, k2, X2, e2, E2, A2, st2⟩ := newP X1 hx hZ (hw _ (List.mem_of_getElem? (i := 3) rfl)) e1 (g := (mkF m 5 #[.val (.int p1), .val (.int p2), .val (.int p3), .val (.int p4), .val (.int p5), .unset, .unset, .unset, .unset, .unset, .unset, .unset, .unset, .unset] [(.int (1 : Int32)), (.ref b1), (.ref b1)])) rfl (hb hby at_5) rfl (by decide) (cap := 1) (by decide) (by decide) (by decide) (by decide)
  obtain ⟨b2, g2⟩ : ∃ z, z = h1.size := ⟨_, rfl⟩
  rw [← g2] at A2 st2
  have ne_d0_b2 : d0 ≠ b2 := Nat.ne_of_lt (Nat.lt_of_lt_of_le V_d0.lt (Nat.le_of_eq g2.symm))
  have ne_b1_b2 : b1 ≠ b2 := Nat.ne_of_lt (Nat.lt_of_lt_of_le E_b1.lt (Nat.le_of_eq g2.symm))
  have g_b2 : n0 ≤ b2 := Nat.le_trans Z0 (Nat.le_of_eq g2.symm)
  replace Z0 := Nat.le_trans Z0 E2.1
  replace O0 := O0.ext E2
  replace V_d0 := V_d0.ext E2
  replace E_b1 := E_b1.ext E2
  replace F_b1_coder := F_b1_coder.ext E2
  replace F_b1_value := F_b1_value.ext E2
  have V_b2 : Arv Z h2 b2 k2 .char (1 : Int32) [(.int (0 : Int32))] (.int (0 : Int32)) := (Arv.new A2 (by decide)).pad (pad_rep [] (.int (0 : Int32)) 1)
  refine Go.st (T' := T2) (pc' := 7) (L' := #[.val (.int p1), .val (.int p2), .val (.int p3), .val (.int p4), .val (.int p5), .unset, .unset, .unset, .unset, .unset, .unset, .unset, .unset, .unset]) (S' := [(.ref b2), (.ref b1), (.ref b1)]) st2 ?_
  refine Go.st (T' := T2) (pc' := 8) (L' := #[.val (.int p1), .val (.int p2), .val (.int p3), .val (.int p4), .val (.int p5), .unset, .unset, .unset, .unset, .unset, .unset, .unset, .unset, .unset]) (S' := [(.ref b2), (.ref b2), (.ref b1), (.ref b1)]) (fun t k => XS.dup X2.here hx rfl (hb hby at_7) rfl rfl k) ?_
  refine Go.st (T' := T2) (pc' := 9) (L' := #[.val (.int p1), .val (.int p2), .val (.int p3), .val (.int p4), .val (.int p5), .unset, .unset, .unset, .unset, .unset, .unset, .unset, .unset, .unset]) (S' := [(.int (0 : Int32)), (.ref b2), (.ref b2), (.ref b1), (.ref b1)]) (fun t k => XS.iconst X2.here hx rfl (hb hby at_8) k) ?_
  refine Go.st (T' := T2) (pc' := 10) (L' := #[.val (.int p1), .val (.int p2), .val (.int p3), .val (.int p4), .val (.int p5), .unset, .unset, .unset, .unset, .unset, .unset, .unset, .unset, .unset]) (S' := [(.int p3), (.int (0 : Int32)), (.ref b2), (.ref b2), (.ref b1), (.ref b1)]) (fun t k => XS.iloadN X2.here hx rfl (hb hby at_9) rfl  k) ?_
  refine Go.st (T' := T2) (pc' := 13) (L' := #[.val (.int p1), .val (.int p2), .val (.int p3), .val (.int p4), .val (.int p5), .unset, .unset, .unset, .unset, .unset, .unset, .unset, .unset, .unset]) (S' := [(.int (255 : Int32)), (.int p3), (.int (0 : Int32)), (.ref b2), (.ref b2), (.ref b1), (.ref b1)]) (fun t k => XS.sipush X2.here hx rfl (hb hby at_10) k) ?_
  refine Go.st (T' := T2) (pc' := 14) (L' := #[.val (.int p1), .val (.int p2), .val (.int p3), .val (.int p4), .val (.int p5), .unset, .unset, .unset, .unset, .unset, .unset, .unset, .unset, .unset]) (S' := [(.int (p3 &&& (255 : Int32))), (.int (0 : Int32)), (.ref b2), (.ref b2), (.ref b1), (.ref b1)]) (fun t k => XS.iand X2.here hx rfl (hb hby at_13) rfl k) ?_
  refine Go.st (T' := T2) (pc' := 15) (L' := #[.val (.int p1), .val (.int p2), .val (.int p3), .val (.int p4), .val (.int p5), .unset, .unset, .unset, .unset, .unset, .unset, .unset, .unset, .unset]) (S' := [(.int ((p3 &&& (255 : Int32)).toUInt32.toUInt16.toUInt32.toInt32)), (.int (0 : Int32)), (.ref b2), (.ref b2), (.ref b1), (.ref b1)]) (fun t k => XS.i2c X2.here hx rfl (hb hby at_14) rfl k) ?_
  obtain ⟨cl3, Ar3, q31, q32, q33, q34, q35⟩ := V_b2
  obtain ⟨T3, h3, X3, e3, W3, st3⟩ := stC X2 hx hZ e2 Ar3 (j := (0 : Int32)) (inb_of q32 ⟨by decide, by decide⟩) (g := (mkF m 15 #[.val (.int p1), .val (.int p2), .val (.int p3), .val (.int p4), .val (.int p5), .unset, .unset, .unset, .unset, .unset, .unset, .unset, .unset, .unset] [(.int ((p3 &&& (255 : Int32)).toUInt32.toUInt16.toUInt32.toInt32)), (.int (0 : Int32)), (.ref b2), (.ref b2), (.ref b1), (.ref b1)])) rfl rfl (hb hby at_15)
  replace V_b2 := Arv.set Ar3 q31 q32 q33 q34 q35 (fits_nar_char _) W3 0 rfl (Nat.le_of_ble_eq_true rfl)
  have V_b2 : Arv Z h3 b2 k2 .char (1 : Int32) [(.int (nar .char ((p3 &&& (255 : Int32)).toUInt32.toUInt16.toUInt32.toInt32)))] (.int (0 : Int32)) := V_b2
  replace Z0 := Nat.le_trans Z0 (Keep.of_wr W3).1
  replace O0 := O0.wr W3 g_b2
  replace V_d0 := V_d0.other W3 ne_d0_b2
  replace E_b1 := E_b1.wr W3
  replace F_b1_coder := F_b1_coder.other W3 (Or.inl ne_b1_b2)
  replace F_b1_value := F_b1_value.other W3 (Or.inl ne_b1_b2)
  have N3 := Fr.snoc X3 N0 g_b2
  refine Go.st (T' := T3) (pc' := 16) (L' := #[.val (.int p1), .val (.int p2), .val (.int p3), .val (.int p4), .val (.int p5), .unset, .unset, .unset, .unset, .unset, .unset, .unset, .unset, .unset]) (S' := [(.ref b2), (.ref b1), (.ref b1)]) st3 ?_
  have hws4 : ∀ d ∈ StrChars.Road.words, d.before a0 Z = true := fun d hd => hw d ((by decide +kernel : ∀ d ∈ StrChars.Road.words, d ∈ tables_1) d hd)
  have hlat4 : ∀ c ∈ [(nar .char ((p3 &&& (255 : Int32)).toUInt32.toUInt16.toUInt32.toInt32))], ¬ c < 0 ∧ ¬ (255 : Int32) < c := by
    intro c hc
    simp only [List.mem_cons, List.not_mem_nil, or_false] at hc
    rcases hc with rfl
    · exact own_and255 _
  obtain ⟨_, _, ⟨T4, L4, k4, n4⟩, -, X4, ⟨Lc4, hQ4, l4, y4, z4⟩, st4⟩ := X3.specialBack hx (y := (⟨"java/lang/String", "<init>", "([C)V"⟩ : MethodName)) rfl hown (mvT hZ (hw _ (List.mem_of_getElem? (i := 4) rfl))) (mvT hZ (hw _ (List.mem_of_getElem? (i := 5) rfl))) (mvT hZ (hw _ (List.mem_of_getElem? (i := 6) rfl))) (by decide) (StrChars.Road.backV (W := 1) hZ hws4 (kI := 4) (hw _ (List.mem_of_getElem? (i := 1) rfl)) (cs := [(nar .char ((p3 &&& (255 : Int32)).toUInt32.toUInt16.toUInt32.toInt32))]) (bs := [((nar .char ((p3 &&& (255 : Int32)).toUInt32.toUInt16.toUInt32.toInt32))).toInt8.toInt32]) (n := 1) g_b1 Z0 E_b1 F_b1_value F_b1_coder V_b2 (SC.ext O0.2) PC rfl rfl (by decide) (by decide) hlat4 rfl (by decide) (by decide)) (g := (mkF m 16 #[.val (.int p1), .val (.int p2), .val (.int p3), .val (.int p4), .val (.int p5), .unset, .unset, .unset, .unset, .unset, .unset, .unset, .unset, .unset] [(.ref b2), (.ref b1), (.ref b1)])) rfl (by rw [hml]; rfl) (Steps.refl _) (a := b1) (argsL := [(.ref b2)]) (rest := [(.ref b1)]) (lenOf pd_10 rfl) rfl (by show 2 * 0 + _ ≤ _; exact Nat.le_of_eq rfl) (hb hby at_16) (fun _ _ => ⟨rfl, e3, (by decide : 2 + 1 ≤ _), (by decide : 5 + 1 ≤ _)⟩)
  dsimp only [Pt.U, Pt.locs, Pt.cells, Pt.slots] at X4 l4 y4 z4 st4 hQ4
  subst l4 y4 z4
  obtain ⟨rfl, N4q, K4, Ex4, Co4, t4, kb4, ta4, tb4, tc4, Va4, Ay4⟩ := hQ4
  have N4 := Fr.app N3 N4q
  obtain ⟨h4, e4⟩ : ∃ z, T4.heap = z := ⟨_, rfl⟩
  rw [e4] at K4 Ex4 Co4 Va4 Ay4
  replace Z0 := Nat.le_trans Z0 K4.1
  replace O0 := O0.keep K4 (allS g_b1 all0)
  replace V_d0 := V_d0.keep K4 (ninS ne_d0_b1 nin0)
  replace E_b1 := E_b1.keep K4
  replace V_b2 := V_b2.keep K4 (ninS (Ne.symm ne_b1_b2) nin0)
  refine Go.tr (T' := T4) (pc' := 19) (L' := #[.val (.int p1), .val (.int p2), .val (.int p3), .val (.int p4), .val (.int p5), .unset, .unset, .unset, .unset, .unset, .unset, .unset, .unset, .unset]) (S' := [(.ref b1)]) st4 ?_
  refine Go.st (T' := T4) (pc' := 21) (L' := #[.val (.int p1), .val (.int p2), .val (.int p3), .val (.int p4), .val (.int p5), .val (.ref b1), .unset, .unset, .unset, .unset, .unset, .unset, .unset, .unset]) (S' := []) (fun t k => XS.astore X4.here hx rfl (hb hby at_19) rfl rfl (l' := #[.val (.int p1), .val (.int p2), .val (.int p3), .val (.int p4), .val (.int p5), .val (.ref b1), .unset, .unset, .unset, .unset, .unset, .unset, .unset, .unset]) rfl k) ?_
  refine Go.st (T' := T4) (pc' := 22) (L' := #[.val (.int p1), .val (.int p2), .val (.int p3), .val (.int p4), .val (.int p5), .val (.ref b1), .unset, .unset, .unset, .unset, .unset, .unset, .unset, .unset]) (S' := [(.int p4)]) (fun t k => XS.iloadN X4.here hx rfl (hb hby at_21) rfl  k) ?_
  refine Go.st (T' := T4) (pc' := 25) (L' := #[.val (.int p1), .val (.int p2), .val (.int p3), .val (.int p4), .val (.int p5), .val (.ref b1), .unset, .unset, .unset, .unset, .unset, .unset, .unset, .unset]) (S' := [(.int (255 : Int32)), (.int p4)]) (fun t k => XS.sipush X4.here hx rfl (hb hby at_22) k) ?_
  refine Go.st (T' := T4) (pc' := 26) (L' := #[.val (.int p1), .val (.int p2), .val (.int p3), .val (.int p4), .val (.int p5), .val (.ref b1), .unset, .unset, .unset, .unset, .unset, .unset, .unset, .unset]) (S' := [(.int (p4 &&& (255 : Int32)))]) (fun t k => XS.iand X4.here hx rfl (hb hby at_25) rfl k) ?_
  refine Go.st (T' := T4) (pc' := 27) (L' := #[.val (.int p1), .val (.int p2), .val (.int p3), .val (.int p4), .val (.int p5), .val (.ref b1), .unset, .unset, .unset, .unset, .unset, .unset, .unset, .unset]) (S' := [(.int ((p4 &&& (255 : Int32)).toUInt32.toUInt16.toUInt32.toInt32))]) (fun t k => XS.i2c X4.here hx rfl (hb hby at_26) rfl k) ?_
  obtain ⟨_, _, ⟨T5, L5, k5, n5⟩, -, X5, ⟨Lc5, hQ5, l5, y5, z5⟩, st5⟩ := Jvm.LawKit.callS X4 hx (y := (⟨"java/lang/String", "valueOf", "(C)Ljava/lang/String;"⟩ : MethodName)) hown (mvT hZ (hw _ (List.mem_of_getElem? (i := 30) rfl))) (mvT hZ (hw _ (List.mem_of_getElem? (i := 31) rfl))) (mvT hZ (hw _ (List.mem_of_getElem? (i := 2) rfl))) (mvT hZ (hw _ (List.mem_of_getElem? (i := 32) rfl))) (by decide) (backOf (W := 0) (rm7 l Z a0 hw [] ((p4 &&& (255 : Int32)).toUInt32.toUInt16.toUInt32.toInt32) gC h4 n0 Z0 SC PC O0 (own_c255 _)) hZ (hw _ (List.mem_of_getElem? (i := 32) rfl)) (hw _ (List.mem_of_getElem? (i := 2) rfl)) (by decide) (by decide)) (g := (mkF m 27 #[.val (.int p1), .val (.int p2), .val (.int p3), .val (.int p4), .val (.int p5), .val (.ref b1), .unset, .unset, .unset, .unset, .unset, .unset, .unset, .unset] [(.int ((p4 &&& (255 : Int32)).toUInt32.toUInt16.toUInt32.toInt32))])) rfl (by rw [hml]; rfl) (argsL := [(.int ((p4 &&& (255 : Int32)).toUInt32.toUInt16.toUInt32.toInt32))]) (rest := []) (lenOf pd_11 rfl) rfl (by show 2 * 0 + _ ≤ _; exact Nat.le_of_eq rfl) (hb hby at_27) (fun _ _ => ⟨rfl, e4, (by decide : 3 + 2 ≤ _), (by decide : 6 + 5 ≤ _)⟩)
  dsimp only [Pt.U, Pt.locs, Pt.cells, Pt.slots] at X5 l5 y5 z5 st5 hQ5
  subst l5 y5 z5
  obtain ⟨b5, rfl, N5q, K5, g_b5, lt5, E5⟩ := hQ5
  have N5 := Fr.app N4 N5q
  have ne_d0_b5 : d0 ≠ b5 := Nat.ne_of_lt (Nat.lt_of_lt_of_le V_d0.lt lt5)
  have ne_b1_b5 : b1 ≠ b5 := Nat.ne_of_lt (Nat.lt_of_lt_of_le E_b1.lt lt5)
  obtain ⟨h5, e5⟩ : ∃ z, T5.heap = z := ⟨_, rfl⟩
  rw [e5] at K5 E5
  replace Z0 := Nat.le_trans Z0 K5.1
  replace O0 := O0.keep K5 all0
  replace V_d0 := V_d0.keep K5 nin0
  replace E_b1 := E_b1.keep K5
  refine Go.st (T' := T5) (pc' := 30) (L' := #[.val (.int p1), .val (.int p2), .val (.int p3), .val (.int p4), .val (.int p5), .val (.ref b1), .unset, .unset, .unset, .unset, .unset, .unset, .unset, .unset]) (S' := [(.ref b5)]) st5 ?_
  refine Go.st (T' := T5) (pc' := 32) (L' := #[.val (.int p1), .val (.int p2), .val (.int p3), .val (.int p4), .val (.int p5), .val (.ref b1), .val (.ref b5), .unset, .unset, .unset, .unset, .unset, .unset, .unset]) (S' := []) (fun t k => XS.astore X5.here hx rfl (hb hby at_30) rfl rfl (l' := #[.val (.int p1), .val (.int p2), .val (.int p3), .val (.int p4), .val (.int p5), .val (.ref b1), .val (.ref b5), .unset, .unset, .unset, .unset, .unset, .unset, .unset]) rfl k) ?_
  obtain ⟨T6, h6, X6, e6, E6, A6, D6, U6, st6⟩ := newO X5 hx hZ hown (hw _ (List.mem_of_getElem? (i := 0) rfl)) (hw _ (List.mem_of_getElem? (i := 1) rfl)) (hw _ (List.mem_of_getElem? (i := 2) rfl)) e5 (g := (mkF m 32 #[.val (.int p1), .val (.int p2), .val (.int p3), .val (.int p4), .val (.int p5), .val (.ref b1), .val (.ref b5), .unset, .unset, .unset, .unset, .unset, .unset, .unset] [])) rfl (hb hby at_32) (by decide) (by decide)
  obtain ⟨b6, g6⟩ : ∃ z, z = h5.size := ⟨_, rfl⟩
  rw [← g6] at A6 D6 U6 st6
  have ne_d0_b6 : d0 ≠ b6 := Nat.ne_of_lt (Nat.lt_of_lt_of_le V_d0.lt (Nat.le_of_eq g6.symm))
  have ne_b1_b6 : b1 ≠ b6 := Nat.ne_of_lt (Nat.lt_of_lt_of_le E_b1.lt (Nat.le_of_eq g6.symm))
  have ne_b5_b6 : b5 ≠ b6 := Nat.ne_of_lt (Nat.lt_of_lt_of_le E5.lt (Nat.le_of_eq g6.symm))
  have g_b6 : n0 ≤ b6 := Nat.le_trans Z0 (Nat.le_of_eq g6.symm)
  replace Z0 := Nat.le_trans Z0 E6.1
  replace O0 := O0.ext E6
  replace V_d0 := V_d0.ext E6
  replace E_b1 := E_b1.ext E6
  replace E5 := E5.ext E6
  have E_b6 := A6
  have F_b6_coder : Fld Z h6 b6 "java/lang/String" "coder" "B" (.int (0 : Int32)) := D6 (Or.inr (hw _ (List.mem_of_getElem? (i := 27) rfl))) (ty := .byte) (by decide)
  have F_b6_value : Fld Z h6 b6 "java/lang/String" "value" "[B" .null := D6 (Or.inr (hw _ (List.mem_of_getElem? (i := 29) rfl))) (ty := (.array .byte)) (by decide)
  refine Go.st (T' := T6) (pc' := 35) (L' := #[.val (.int p1), .val (.int p2), .val (.int p3), .val (.int p4), .val (.int p5), .val (.ref b1), .val (.ref b5), .unset, .unset, .unset, .unset, .unset, .unset, .unset]) (S' := [(.ref b6)]) st6 ?_
  refine Go.st (T' := T6) (pc' := 36) (L' := #[.val (.int p1), .val (.int p2), .val (.int p3), .val (.int p4), .val (.int p5), .val (.ref b1), .val (.ref b5), .unset, .unset, .unset, .unset, .unset, .unset, .unset]) (S' := [(.ref b6), (.ref b6)]) (fun t k => XS.dup X6.here hx rfl (hb hby at_35) rfl rfl k) ?_
  refine Go.st (T' := T6) (pc' := 37) (L' := #[.val (.int p1), .val (.int p2), .val (.int p3), .val (.int p4), .val (.int p5), .val (.ref b1), .val (.ref b5), .unset, .unset, .unset, .unset, .unset, .unset, .unset]) (S' := [(.int (2 : Int32)), (.ref b6), (.ref b6)]) (fun t k => XS.iconst X6.here hx rfl (hb hby at_36) k) ?_
  obtain ⟨T7, h7, k7, X7, e7, E7, A7, st7⟩ := newP X6 hx hZ (hw _ (List.mem_of_getElem? (i := 3) rfl)) e6 (g := (mkF m 37 #[.val (.int p1), .val (.int p2), .val (.int p3), .val (.int p4), .val (.int p5), .val (.ref b1), .val (.ref b5), .unset, .unset, .unset, .unset, .unset, .unset, .unset] [(.int (2 : Int32)), (.ref b6), (.ref b6)])) rfl (hb hby at_37) rfl (by decide) (cap := 2) (by decide) (by decide) (by decide) (by decide)
  obtain ⟨b7, g7⟩ : ∃ z, z = h6.size := ⟨_, rfl⟩
  rw [← g7] at A7 st7
  have ne_d0_b7 : d0 ≠ b7 := Nat.ne_of_lt (Nat.lt_of_lt_of_le V_d0.lt (Nat.le_of_eq g7.symm))
  have ne_b1_b7 : b1 ≠ b7 := Nat.ne_of_lt (Nat.lt_of_lt_of_le E_b1.lt (Nat.le_of_eq g7.symm))
  have ne_b5_b7 : b5 ≠ b7 := Nat.ne_of_lt (Nat.lt_of_lt_of_le E5.lt (Nat.le_of_eq g7.symm))
  have ne_b6_b7 : b6 ≠ b7 := Nat.ne_of_lt (Nat.lt_of_lt_of_le E_b6.lt (Nat.le_of_eq g7.symm))
  have g_b7 : n0 ≤ b7 := Nat.le_trans Z0 (Nat.le_of_eq g7.symm)
  replace Z0 := Nat.le_trans Z0 E7.1
  replace O0 := O0.ext E7
  replace V_d0 := V_d0.ext E7
  replace E_b1 := E_b1.ext E7
  replace E5 := E5.ext E7
  replace E_b6 := E_b6.ext E7
  replace F_b6_coder := F_b6_coder.ext E7
  replace F_b6_value := F_b6_value.ext E7
  have V_b7 : Arv Z h7 b7 k7 .char (2 : Int32) [(.int (0 : Int32)), (.int (0 : Int32))] (.int (0 : Int32)) := (Arv.new A7 (by decide)).pad (pad_rep [] (.int (0 : Int32)) 2)
  refine Go.st (T' := T7) (pc' := 39) (L' := #[.val (.int p1), .val (.int p2), .val (.int p3), .val (.int p4), .val (.int p5), .val (.ref b1), .val (.ref b5), .unset, .unset, .unset, .unset, .unset, .unset, .unset]) (S' := [(.ref b7), (.ref b6), (.ref b6)]) st7 ?_
  refine Go.st (T' := T7) (pc' := 40) (L' := #[.val (.int p1), .val (.int p2), .val (.int p3), .val (.int p4), .val (.int p5), .val (.ref b1), .val (.ref b5), .unset, .unset, .unset, .unset, .unset, .unset, .unset]) (S' := [(.ref b7), (.ref b7), (.ref b6), (.ref b6)]) (fun t k => XS.dup X7.here hx rfl (hb hby at_39) rfl rfl k) ?_
  refine Go.st (T' := T7) (pc' := 41) (L' := #[.val (.int p1), .val (.int p2), .val (.int p3), .val (.int p4), .val (.int p5), .val (.ref b1), .val (.ref b5), .unset, .unset, .unset, .unset, .unset, .unset, .unset]) (S' := [(.int (0 : Int32)), (.ref b7), (.ref b7), (.ref b6), (.ref b6)]) (fun t k => XS.iconst X7.here hx rfl (hb hby at_40) k) ?_
  refine Go.st (T' := T7) (pc' := 43) (L' := #[.val (.int p1), .val (.int p2), .val (.int p3), .val (.int p4), .val (.int p5), .val (.ref b1), .val (.ref b5), .unset, .unset, .unset, .unset, .unset, .unset, .unset]) (S' := [(.int p5), (.int (0 : Int32)), (.ref b7), (.ref b7), (.ref b6), (.ref b6)]) (fun t k => XS.iload X7.here hx rfl (hb hby at_41) rfl  k) ?_
  refine Go.st (T' := T7) (pc' := 46) (L' := #[.val (.int p1), .val (.int p2), .val (.int p3), .val (.int p4), .val (.int p5), .val (.ref b1), .val (.ref b5), .unset, .unset, .unset, .unset, .unset, .unset, .unset]) (S' := [(.int (255 : Int32)), (.int p5), (.int (0 : Int32)), (.ref b7), (.ref b7), (.ref b6), (.ref b6)]) (fun t k => XS.sipush X7.here hx rfl (hb hby at_43) k) ?_
  refine Go.st (T' := T7) (pc' := 47) (L' := #[.val (.int p1), .val (.int p2), .val (.int p3), .val (.int p4), .val (.int p5), .val (.ref b1), .val (.ref b5), .unset, .unset, .unset, .unset, .unset, .unset, .unset]) (S' := [(.int (p5 &&& (255 : Int32))), (.int (0 : Int32)), (.ref b7), (.ref b7), (.ref b6), (.ref b6)]) (fun t k => XS.iand X7.here hx rfl (hb hby at_46) rfl k) ?_
  refine Go.st (T' := T7) (pc' := 48) (L' := #[.val (.int p1), .val (.int p2), .val (.int p3), .val (.int p4), .val (.int p5), .val (.ref b1), .val (.ref b5), .unset, .unset, .unset, .unset, .unset, .unset, .unset]) (S' := [(.int ((p5 &&& (255 : Int32)).toUInt32.toUInt16.toUInt32.toInt32)), (.int (0 : Int32)), (.ref b7), (.ref b7), (.ref b6), (.ref b6)]) (fun t k => XS.i2c X7.here hx rfl (hb hby at_47) rfl k) ?_
  obtain ⟨cl8, Ar8, q81, q82, q83, q84, q85⟩ := V_b7
  obtain ⟨T8, h8, X8, e8, W8, st8⟩ := stC X7 hx hZ e7 Ar8 (j := (0 : Int32)) (inb_of q82 ⟨by decide, by decide⟩) (g := (mkF m 48 #[.val (.int p1), .val (.int p2), .val (.int p3), .val (.int p4), .val (.int p5), .val (.ref b1), .val (.ref b5), .unset, .unset, .unset, .unset, .unset, .unset, .unset] [(.int ((p5 &&& (255 : Int32)).toUInt32.toUInt16.toUInt32.toInt32)), (.int (0 : Int32)), (.ref b7), (.ref b7), (.ref b6), (.ref b6)])) rfl rfl (hb hby at_48)
  replace V_b7 := Arv.set Ar8 q81 q82 q83 q84 q85 (fits_nar_char _) W8 0 rfl (Nat.le_of_ble_eq_true rfl)
  have V_b7 : Arv Z h8 b7 k7 .char (2 : Int32) [(.int (nar .char ((p5 &&& (255 : Int32)).toUInt32.toUInt16.toUInt32.toInt32))), (.int (0 : Int32))] (.int (0 : Int32)) := V_b7
  replace Z0 := Nat.le_trans Z0 (Keep.of_wr W8).1
  replace O0 := O0.wr W8 g_b7
  replace V_d0 := V_d0.other W8 ne_d0_b7
  replace E_b1 := E_b1.wr W8
  replace E5 := E5.wr W8
  replace E_b6 := E_b6.wr W8
  replace F_b6_coder := F_b6_coder.other W8 (Or.inl ne_b6_b7)
  replace F_b6_value := F_b6_value.other W8 (Or.inl ne_b6_b7)
  have N8 := Fr.snoc X8 N5 g_b7
  refine Go.st (T' := T8) (pc' := 49) (L' := #[.val (.int p1), .val (.int p2), .val (.int p3), .val (.int p4), .val (.int p5), .val (.ref b1), .val (.ref b5), .unset, .unset, .unset, .unset, .unset, .unset, .unset]) (S' := [(.ref b7), (.ref b6), (.ref b6)]) st8 ?_
  refine Go.st (T' := T8) (pc' := 50) (L' := #[.val (.int p1), .val (.int p2), .val (.int p3), .val (.int p4), .val (.int p5), .val (.ref b1), .val (.ref b5), .unset, .unset, .unset, .unset, .unset, .unset, .unset]) (S' := [(.ref b7), (.ref b7), (.ref b6), (.ref b6)]) (fun t k => XS.dup X8.here hx rfl (hb hby at_49) rfl rfl k) ?_
  refine Go.st (T' := T8) (pc' := 51) (L' := #[.val (.int p1), .val (.int p2), .val (.int p3), .val (.int p4), .val (.int p5), .val (.ref b1), .val (.ref b5), .unset, .unset, .unset, .unset, .unset, .unset, .unset]) (S' := [(.int (1 : Int32)), (.ref b7), (.ref b7), (.ref b6), (.ref b6)]) (fun t k => XS.iconst X8.here hx rfl (hb hby at_50) k) ?_
  refine Go.st (T' := T8) (pc' := 53) (L' := #[.val (.int p1), .val (.int p2), .val (.int p3), .val (.int p4), .val (.int p5), .val (.ref b1), .val (.ref b5), .unset, .unset, .unset, .unset, .unset, .unset, .unset]) (S' := [(.int p5), (.int (1 : Int32)), (.ref b7), (.ref b7), (.ref b6), (.ref b6)]) (fun t k => XS.iload X8.here hx rfl (hb hby at_51) rfl  k) ?_
  refine Go.st (T' := T8) (pc' := 55) (L' := #[.val (.int p1), .val (.int p2), .val (.int p3), .val (.int p4), .val (.int p5), .val (.ref b1), .val (.ref b5), .unset, .unset, .unset, .unset, .unset, .unset, .unset]) (S' := [(.int (8 : Int32)), (.int p5), (.int (1 : Int32)), (.ref b7), (.ref b7), (.ref b6), (.ref b6)]) (fun t k => XS.bipush X8.here hx rfl (hb hby at_53) k) ?_
  refine Go.st (T' := T8) (pc' := 56) (L' := #[.val (.int p1), .val (.int p2), .val (.int p3), .val (.int p4), .val (.int p5), .val (.ref b1), .val (.ref b5), .unset, .unset, .unset, .unset, .unset, .unset, .unset]) (S' := [(.int ((p5.toUInt32 >>> ((8 : Int32) &&& 31).toUInt32).toInt32)), (.int (1 : Int32)), (.ref b7), (.ref b7), (.ref b6), (.ref b6)]) (fun t k => XS.iushr X8.here hx rfl (hb hby at_55) rfl k) ?_
  refine Go.st (T' := T8) (pc' := 59) (L' := #[.val (.int p1), .val (.int p2), .val (.int p3), .val (.int p4), .val (.int p5), .val (.ref b1), .val (.ref b5), .unset, .unset, .unset, .unset, .unset, .unset, .unset]) (S' := [(.int (255 : Int32)), (.int ((p5.toUInt32 >>> ((8 : Int32) &&& 31).toUInt32).toInt32)), (.int (1 : Int32)), (.ref b7), (.ref b7), (.ref b6), (.ref b6)]) (fun t k => XS.sipush X8.here hx rfl (hb hby at_56) k) ?_
  refine Go.st (T' := T8) (pc' := 60) (L' := #[.val (.int p1), .val (.int p2), .val (.int p3), .val (.int p4), .val (.int p5), .val (.ref b1), .val (.ref b5), .unset, .unset, .unset, .unset, .unset, .unset, .unset]) (S' := [(.int (((p5.toUInt32 >>> ((8 : Int32) &&& 31).toUInt32).toInt32) &&& (255 : Int32))), (.int (1 : Int32)), (.ref b7), (.ref b7), (.ref b6), (.ref b6)]) (fun t k => XS.iand X8.here hx rfl (hb hby at_59) rfl k) ?_
  refine Go.st (T' := T8) (pc' := 61) (L' := #[.val (.int p1), .val (.int p2), .val (.int p3), .val (.int p4), .val (.int p5), .val (.ref b1), .val (.ref b5), .unset, .unset, .unset, .unset, .unset, .unset, .unset]) (S' := [(.int ((((p5.toUInt32 >>> ((8 : Int32) &&& 31).toUInt32).toInt32) &&& (255 : Int32)).toUInt32.toUInt16.toUInt32.toInt32)), (.int (1 : Int32)), (.ref b7), (.ref b7), (.ref b6), (.ref b6)]) (fun t k => XS.i2c X8.here hx rfl (hb hby at_60) rfl k) ?_
  obtain ⟨cl9, Ar9, q91, q92, q93, q94, q95⟩ := V_b7
  obtain ⟨T9, h9, X9, e9, W9, st9⟩ := stC X8 hx hZ e8 Ar9 (j := (1 : Int32)) (inb_of q92 ⟨by decide, by decide⟩) (g := (mkF m 61 #[.val (.int p1), .val (.int p2), .val (.int p3), .val (.int p4), .val (.int p5), .val (.ref b1), .val (.ref b5), .unset, .unset, .unset, .unset, .unset, .unset, .unset] [(.int ((((p5.toUInt32 >>> ((8 : Int32) &&& 31).toUInt32).toInt32) &&& (255 : Int32)).toUInt32.toUInt16.toUInt32.toInt32)), (.int (1 : Int32)), (.ref b7), (.ref b7), (.ref b6), (.ref b6)])) rfl rfl (hb hby at_61)
  replace V_b7 := Arv.set Ar9 q91 q92 q93 q94 q95 (fits_nar_char _) W9 1 rfl (Nat.le_of_ble_eq_true rfl)
  have V_b7 : Arv Z h9 b7 k7 .char (2 : Int32) [(.int (nar .char ((p5 &&& (255 : Int32)).toUInt32.toUInt16.toUInt32.toInt32))), (.int (nar .char ((((p5.toUInt32 >>> ((8 : Int32) &&& 31).toUInt32).toInt32) &&& (255 : Int32)).toUInt32.toUInt16.toUInt32.toInt32)))] (.int (0 : Int32)) := V_b7
  replace Z0 := Nat.le_trans Z0 (Keep.of_wr W9).1
  replace O0 := O0.wr W9 g_b7
  replace V_d0 := V_d0.other W9 ne_d0_b7
  replace E_b1 := E_b1.wr W9
  replace E5 := E5.wr W9
  replace E_b6 := E_b6.wr W9
  replace F_b6_coder := F_b6_coder.other W9 (Or.inl ne_b6_b7)
  replace F_b6_value := F_b6_value.other W9 (Or.inl ne_b6_b7)
  have N9 := Fr.snoc X9 N8 g_b7
  refine Go.st (T' := T9) (pc' := 62) (L' := #[.val (.int p1), .val (.int p2), .val (.int p3), .val (.int p4), .val (.int p5), .val (.ref b1), .val (.ref b5), .unset, .unset, .unset, .unset, .unset, .unset, .unset]) (S' := [(.ref b7), (.ref b6), (.ref b6)]) st9 ?_
  have hws10 : ∀ d ∈ StrChars.Road.words, d.before a0 Z = true := fun d hd => hw d ((by decide +kernel : ∀ d ∈ StrChars.Road.words, d ∈ tables_1) d hd)
  have hlat10 : ∀ c ∈ [(nar .char ((p5 &&& (255 : Int32)).toUInt32.toUInt16.toUInt32.toInt32)), (nar .char ((((p5.toUInt32 >>> ((8 : Int32) &&& 31).toUInt32).toInt32) &&& (255 : Int32)).toUInt32.toUInt16.toUInt32.toInt32))], ¬ c < 0 ∧ ¬ (255 : Int32) < c := by
    intro c hc
    simp only [List.mem_cons, List.not_mem_nil, or_false] at hc
    rcases hc with rfl | rfl
    · exact own_and255 _
    · exact own_and255 _
  obtain ⟨_, _, ⟨T10, L10, k10, n10⟩, -, X10, ⟨Lc10, hQ10, l10, y10, z10⟩, st10⟩ := X9.specialBack hx (y := (⟨"java/lang/String", "<init>", "([C)V"⟩ : MethodName)) rfl hown (mvT hZ (hw _ (List.mem_of_getElem? (i := 4) rfl))) (mvT hZ (hw _ (List.mem_of_getElem? (i := 5) rfl))) (mvT hZ (hw _ (List.mem_of_getElem? (i := 6) rfl))) (by decide) (StrChars.Road.backV (W := 1) hZ hws10 (kI := 4) (hw _ (List.mem_of_getElem? (i := 1) rfl)) (cs := [(nar .char ((p5 &&& (255 : Int32)).toUInt32.toUInt16.toUInt32.toInt32)), (nar .char ((((p5.toUInt32 >>> ((8 : Int32) &&& 31).toUInt32).toInt32) &&& (255 : Int32)).toUInt32.toUInt16.toUInt32.toInt32))]) (bs := [((nar .char ((p5 &&& (255 : Int32)).toUInt32.toUInt16.toUInt32.toInt32))).toInt8.toInt32, ((nar .char ((((p5.toUInt32 >>> ((8 : Int32) &&& 31).toUInt32).toInt32) &&& (255 : Int32)).toUInt32.toUInt16.toUInt32.toInt32))).toInt8.toInt32]) (n := 2) g_b6 Z0 E_b6 F_b6_value F_b6_coder V_b7 (SC.ext O0.2) PC rfl rfl (by decide) (by decide) hlat10 rfl (by decide) (by decide)) (g := (mkF m 62 #[.val (.int p1), .val (.int p2), .val (.int p3), .val (.int p4), .val (.int p5), .val (.ref b1), .val (.ref b5), .unset, .unset, .unset, .unset, .unset, .unset, .unset] [(.ref b7), (.ref b6), (.ref b6)])) rfl (by rw [hml]; rfl) (Steps.refl _) (a := b6) (argsL := [(.ref b7)]) (rest := [(.ref b6)]) (lenOf pd_10 rfl) rfl (by show 2 * 0 + _ ≤ _; exact Nat.le_of_eq rfl) (hb hby at_62) (fun _ _ => ⟨rfl, e9, (by decide : 7 + 1 ≤ _), (by decide : 17 + 2 ≤ _)⟩)
  dsimp only [Pt.U, Pt.locs, Pt.cells, Pt.slots] at X10 l10 y10 z10 st10 hQ10
  subst l10 y10 z10
  obtain ⟨rfl, N10q, K10, Ex10, Co10, t10, kb10, ta10, tb10, tc10, Va10, Ay10⟩ := hQ10
  have N10 := Fr.app N9 N10q
  obtain ⟨h10, e10⟩ : ∃ z, T10.heap = z := ⟨_, rfl⟩
  rw [e10] at K10 Ex10 Co10 Va10 Ay10
  replace Z0 := Nat.le_trans Z0 K10.1
  replace O0 := O0.keep K10 (allS g_b6 all0)
  replace V_d0 := V_d0.keep K10 (ninS ne_d0_b6 nin0)
  replace E_b1 := E_b1.keep K10
  replace E5 := E5.keep K10
  replace E_b6 := E_b6.keep K10
  replace V_b7 := V_b7.keep K10 (ninS (Ne.symm ne_b6_b7) nin0)
  refine Go.tr (T' := T10) (pc' := 65) (L' := #[.val (.int p1), .val (.int p2), .val (.int p3), .val (.int p4), .val (.int p5), .val (.ref b1), .val (.ref b5), .unset, .unset, .unset, .unset, .unset, .unset, .unset]) (S' := [(.ref b6)]) st10 ?_
  refine Go.st (T' := T10) (pc' := 67) (L' := #[.val (.int p1), .val (.int p2), .val (.int p3), .val (.int p4), .val (.int p5), .val (.ref b1), .val (.ref b5), .val (.ref b6), .unset, .unset, .unset, .unset, .unset, .unset]) (S' := []) (fun t k => XS.astore X10.here hx rfl (hb hby at_65) rfl rfl (l' := #[.val (.int p1), .val (.int p2), .val (.int p3), .val (.int p4), .val (.int p5), .val (.ref b1), .val (.ref b5), .val (.ref b6), .unset, .unset, .unset, .unset, .unset, .unset]) rfl k) ?_
  refine Go.st (T' := T10) (pc' := 68) (L' := #[.val (.int p1), .val (.int p2), .val (.int p3), .val (.int p4), .val (.int p5), .val (.ref b1), .val (.ref b5), .val (.ref b6), .unset, .unset, .unset, .unset, .unset, .unset]) (S' := [(.int (1 : Int32))]) (fun t k => XS.iconst X10.here hx rfl (hb hby at_67) k) ?_
  refine Go.st (T' := T10) (pc' := 69) (L' := #[.val (.int p1), .val (.int p2), .val (.int p3), .val (.int p4), .val (.int p5), .val (.ref b1), .val (.ref b5), .val (.ref b6), .unset, .unset, .unset, .unset, .unset, .unset]) (S' := [(.int p2), (.int (1 : Int32))]) (fun t k => XS.iloadN X10.here hx rfl (hb hby at_68) rfl  k) ?_
  refine Go.st (T' := T10) (pc' := 70) (L' := #[.val (.int p1), .val (.int p2), .val (.int p3), .val (.int p4), .val (.int p5), .val (.ref b1), .val (.ref b5), .val (.ref b6), .unset, .unset, .unset, .unset, .unset, .unset]) (S' := [(.int (3 : Int32)), (.int p2), (.int (1 : Int32))]) (fun t k => XS.iconst X10.here hx rfl (hb hby at_69) k) ?_
  refine Go.st (T' := T10) (pc' := 71) (L' := #[.val (.int p1), .val (.int p2), .val (.int p3), .val (.int p4), .val (.int p5), .val (.ref b1), .val (.ref b5), .val (.ref b6), .unset, .unset, .unset, .unset, .unset, .unset]) (S' := [(.int (p2 &&& (3 : Int32))), (.int (1 : Int32))]) (fun t k => XS.iand X10.here hx rfl (hb hby at_70) rfl k) ?_
  refine Go.st (T' := T10) (pc' := 72) (L' := #[.val (.int p1), .val (.int p2), .val (.int p3), .val (.int p4), .val (.int p5), .val (.ref b1), .val (.ref b5), .val (.ref b6), .unset, .unset, .unset, .unset, .unset, .unset]) (S' := [(.int (3 : Int32)), (.int (p2 &&& (3 : Int32))), (.int (1 : Int32))]) (fun t k => XS.iconst X10.here hx rfl (hb hby at_71) k) ?_
  refine Go.st (T' := T10) (pc' := 73) (L' := #[.val (.int p1), .val (.int p2), .val (.int p3), .val (.int p4), .val (.int p5), .val (.ref b1), .val (.ref b5), .val (.ref b6), .unset, .unset, .unset, .unset, .unset, .unset]) (S' := [(.int ((p2 &&& (3 : Int32)) % (3 : Int32))), (.int (1 : Int32))]) (fun t k => iremM X10 hx rfl (hb hby at_72) rfl (by decide) k) ?_
  refine Go.st (T' := T10) (pc' := 74) (L' := #[.val (.int p1), .val (.int p2), .val (.int p3), .val (.int p4), .val (.int p5), .val (.ref b1), .val (.ref b5), .val (.ref b6), .unset, .unset, .unset, .unset, .unset, .unset]) (S' := [(.int ((1 : Int32) + ((p2 &&& (3 : Int32)) % (3 : Int32))))]) (fun t k => XS.iadd X10.here hx rfl (hb hby at_73) rfl k) ?_
  rcases own_n3 p2 with hn3 | hn3 | hn3
  · rw [hn3]
    refine Go.st (T' := T10) (pc' := 76) (L' := #[.val (.int p1), .val (.int p2), .val (.int p3), .val (.int p4), .val (.int p5), .val (.ref b1), .val (.ref b5), .val (.ref b6), .val (.int (1 : Int32)), .unset, .unset, .unset, .unset, .unset]) (S' := []) (fun t k => XS.istore X10.here hx rfl (hb hby at_74) rfl (l' := #[.val (.int p1), .val (.int p2), .val (.int p3), .val (.int p4), .val (.int p5), .val (.ref b1), .val (.ref b5), .val (.ref b6), .val (.int (1 : Int32)), .unset, .unset, .unset, .unset, .unset]) rfl k) ?_
    refine Go.st (T' := T10) (pc' := 77) (L' := #[.val (.int p1), .val (.int p2), .val (.int p3), .val (.int p4), .val (.int p5), .val (.ref b1), .val (.ref b5), .val (.ref b6), .val (.int (1 : Int32)), .unset, .unset, .unset, .unset, .unset]) (S' := [(.int p2)]) (fun t k => XS.iloadN X10.here hx rfl (hb hby at_76) rfl  k) ?_
    refine Go.st (T' := T10) (pc' := 78) (L' := #[.val (.int p1), .val (.int p2), .val (.int p3), .val (.int p4), .val (.int p5), .val (.ref b1), .val (.ref b5), .val (.ref b6), .val (.int (1 : Int32)), .unset, .unset, .unset, .unset, .unset]) (S' := [(.int (2 : Int32)), (.int p2)]) (fun t k => XS.iconst X10.here hx rfl (hb hby at_77) k) ?_
    refine Go.st (T' := T10) (pc' := 79) (L' := #[.val (.int p1), .val (.int p2), .val (.int p3), .val (.int p4), .val (.int p5), .val (.ref b1), .val (.ref b5), .val (.ref b6), .val (.int (1 : Int32)), .unset, .unset, .unset, .unset, .unset]) (S' := [(.int ((p2.toUInt32 >>> ((2 : Int32) &&& 31).toUInt32).toInt32))]) (fun t k => XS.iushr X10.here hx rfl (hb hby at_78) rfl k) ?_
    refine Go.st (T' := T10) (pc' := 81) (L' := #[.val (.int p1), .val (.int p2), .val (.int p3), .val (.int p4), .val (.int p5), .val (.ref b1), .val (.ref b5), .val (.ref b6), .val (.int (1 : Int32)), .unset, .unset, .unset, .unset, .unset]) (S' := [(.int (2147483647 : Int32)), (.int ((p2.toUInt32 >>> ((2 : Int32) &&& 31).toUInt32).toInt32))]) (fun t k => X10.ldcInt hx hown (mvT hZ (hw _ (List.mem_of_getElem? (i := 44) rfl))) (g := (mkF m 79 #[.val (.int p1), .val (.int p2), .val (.int p3), .val (.int p4), .val (.int p5), .val (.ref b1), .val (.ref b5), .val (.ref b6), .val (.int (1 : Int32)), .unset, .unset, .unset, .unset, .unset] [(.int ((p2.toUInt32 >>> ((2 : Int32) &&& 31).toUInt32).toInt32))])) rfl (hb hby at_79) t k) ?_
    refine Go.st (T' := T10) (pc' := 82) (L' := #[.val (.int p1), .val (.int p2), .val (.int p3), .val (.int p4), .val (.int p5), .val (.ref b1), .val (.ref b5), .val (.ref b6), .val (.int (1 : Int32)), .unset, .unset, .unset, .unset, .unset]) (S' := [(.int (((p2.toUInt32 >>> ((2 : Int32) &&& 31).toUInt32).toInt32) &&& (2147483647 : Int32)))]) (fun t k => XS.iand X10.here hx rfl (hb hby at_81) rfl k) ?_
    refine Go.st (T' := T10) (pc' := 84) (L' := #[.val (.int p1), .val (.int p2), .val (.int p3), .val (.int p4), .val (.int p5), .val (.ref b1), .val (.ref b5), .val (.ref b6), .val (.int (1 : Int32)), .unset, .unset, .unset, .unset, .unset]) (S' := [(.int (1 : Int32)), (.int (((p2.toUInt32 >>> ((2 : Int32) &&& 31).toUInt32).toInt32) &&& (2147483647 : Int32)))]) (fun t k => XS.iload X10.here hx rfl (hb hby at_82) rfl  k) ?_
    refine Go.st (T' := T10) (pc' := 85) (L' := #[.val (.int p1), .val (.int p2), .val (.int p3), .val (.int p4), .val (.int p5), .val (.ref b1), .val (.ref b5), .val (.ref b6), .val (.int (1 : Int32)), .unset, .unset, .unset, .unset, .unset]) (S' := [(.int ((((p2.toUInt32 >>> ((2 : Int32) &&& 31).toUInt32).toInt32) &&& (2147483647 : Int32)) % (1 : Int32)))]) (fun t k => iremM X10 hx rfl (hb hby at_84) rfl (by decide) k) ?_
    rw [own_r1]
    refine Go.st (T' := T10) (pc' := 87) (L' := #[.val (.int p1), .val (.int p2), .val (.int p3), .val (.int p4), .val (.int p5), .val (.ref b1), .val (.ref b5), .val (.ref b6), .val (.int (1 : Int32)), .val (.int (0 : Int32)), .unset, .unset, .unset, .unset]) (S' := []) (fun t k => XS.istore X10.here hx rfl (hb hby at_85) rfl (l' := #[.val (.int p1), .val (.int p2), .val (.int p3), .val (.int p4), .val (.int p5), .val (.ref b1), .val (.ref b5), .val (.ref b6), .val (.int (1 : Int32)), .val (.int (0 : Int32)), .unset, .unset, .unset, .unset]) rfl k) ?_
    obtain ⟨T11, h11, X11, e11, E11, A11, D11, U11, st11⟩ := newO X10 hx hZ hown (hw _ (List.mem_of_getElem? (i := 45) rfl)) (hw _ (List.mem_of_getElem? (i := 46) rfl)) (hw _ (List.mem_of_getElem? (i := 47) rfl)) e10 (g := (mkF m 87 #[.val (.int p1), .val (.int p2), .val (.int p3), .val (.int p4), .val (.int p5), .val (.ref b1), .val (.ref b5), .val (.ref b6), .val (.int (1 : Int32)), .val (.int (0 : Int32)), .unset, .unset, .unset, .unset] [])) rfl (hb hby at_87) (by decide) (by decide)
    obtain ⟨b11, g11⟩ : ∃ z, z = h10.size := ⟨_, rfl⟩
    rw [← g11] at A11 D11 U11 st11
    have ne_d0_b11 : d0 ≠ b11 := Nat.ne_of_lt (Nat.lt_of_lt_of_le V_d0.lt (Nat.le_of_eq g11.symm))
    have ne_b1_b11 : b1 ≠ b11 := Nat.ne_of_lt (Nat.lt_of_lt_of_le E_b1.lt (Nat.le_of_eq g11.symm))
    have ne_b5_b11 : b5 ≠ b11 := Nat.ne_of_lt (Nat.lt_of_lt_of_le E5.lt (Nat.le_of_eq g11.symm))
    have ne_b6_b11 : b6 ≠ b11 := Nat.ne_of_lt (Nat.lt_of_lt_of_le E_b6.lt (Nat.le_of_eq g11.symm))
    have g_b11 : n0 ≤ b11 := Nat.le_trans Z0 (Nat.le_of_eq g11.symm)
    replace Z0 := Nat.le_trans Z0 E11.1
    replace O0 := O0.ext E11
    replace V_d0 := V_d0.ext E11
    replace E_b1 := E_b1.ext E11
    replace E5 := E5.ext E11
    replace E_b6 := E_b6.ext E11
    have E_b11 := A11
    have F_b11_modCount : Fld Z h11 b11 "java/util/AbstractList" "modCount" "I" (.int (0 : Int32)) := D11 (Or.inl (hw _ (List.mem_of_getElem? (i := 65) rfl))) (ty := .int) (by decide)
    have F_b11_elementData : Fld Z h11 b11 "java/util/ArrayList" "elementData" "[Ljava/lang/Object;" .null := D11 (Or.inl (hw _ (List.mem_of_getElem? (i := 68) rfl))) (ty := (.array (.object "java/lang/Object"))) (by decide)
    have F_b11_size : Fld Z h11 b11 "java/util/ArrayList" "size" "I" (.int (0 : Int32)) := D11 (Or.inl (hw _ (List.mem_of_getElem? (i := 77) rfl))) (ty := .int) (by decide)
    refine Go.st (T' := T11) (pc' := 90) (L' := #[.val (.int p1), .val (.int p2), .val (.int p3), .val (.int p4), .val (.int p5), .val (.ref b1), .val (.ref b5), .val (.ref b6), .val (.int (1 : Int32)), .val (.int (0 : Int32)), .unset, .unset, .unset, .unset]) (S' := [(.ref b11)]) st11 ?_
    refine Go.st (T' := T11) (pc' := 91) (L' := #[.val (.int p1), .val (.int p2), .val (.int p3), .val (.int p4), .val (.int p5), .val (.ref b1), .val (.ref b5), .val (.ref b6), .val (.int (1 : Int32)), .val (.int (0 : Int32)), .unset, .unset, .unset, .unset]) (S' := [(.ref b11), (.ref b11)]) (fun t k => XS.dup X11.here hx rfl (hb hby at_90) rfl rfl k) ?_
    obtain ⟨_, _, ⟨T12, L12, k12, n12⟩, -, X12, ⟨Lc12, hQ12, l12, y12, z12⟩, st12⟩ := X11.specialBack hx (y := (⟨"java/util/ArrayList", "<init>", "()V"⟩ : MethodName)) rfl hown (mvT hZ (hw _ (List.mem_of_getElem? (i := 48) rfl))) (mvT hZ (hw _ (List.mem_of_getElem? (i := 49) rfl))) (mvT hZ (hw _ (List.mem_of_getElem? (i := 50) rfl))) (by decide) (backOf (W := 1) (rm11 l Z a0 hw [] b11 d0 h11 n0 Z0 SD O0 E_b11 g_b11 F_b11_modCount F_b11_elementData F_b11_size) hZ (hw _ (List.mem_of_getElem? (i := 50) rfl)) (hw _ (List.mem_of_getElem? (i := 47) rfl)) (by decide) (by decide)) (g := (mkF m 91 #[.val (.int p1), .val (.int p2), .val (.int p3), .val (.int p4), .val (.int p5), .val (.ref b1), .val (.ref b5), .val (.ref b6), .val (.int (1 : Int32)), .val (.int (0 : Int32)), .unset, .unset, .unset, .unset] [(.ref b11), (.ref b11)])) rfl (by rw [hml]; rfl) (Steps.refl _) (a := b11) (argsL := []) (rest := [(.ref b11)]) (lenOf pd_3 rfl) rfl (by show 2 * 0 + _ ≤ _; exact Nat.le_of_eq rfl) (hb hby at_91) (fun _ _ => ⟨rfl, e11, (by decide : 9 + 0 ≤ _), (by decide : 22 + 0 ≤ _)⟩)
    dsimp only [Pt.U, Pt.locs, Pt.cells, Pt.slots] at X12 l12 y12 z12 st12 hQ12
    subst l12 y12 z12
    obtain ⟨rfl, N12q, K12, G12_modCount, G12_elementData, G12_size⟩ := hQ12
    have N12 := Fr.app N10 N12q
    obtain ⟨h12, e12⟩ : ∃ z, T12.heap = z := ⟨_, rfl⟩
    rw [e12] at K12 G12_modCount G12_elementData G12_size
    replace Z0 := Nat.le_trans Z0 K12.1
    replace O0 := O0.keep K12 (allS g_b11 all0)
    replace V_d0 := V_d0.keep K12 (ninS ne_d0_b11 nin0)
    replace E_b1 := E_b1.keep K12
    replace E5 := E5.keep K12
    replace E_b6 := E_b6.keep K12
    replace E_b11 := E_b11.keep K12
    refine Go.tr (T' := T12) (pc' := 94) (L' := #[.val (.int p1), .val (.int p2), .val (.int p3), .val (.int p4), .val (.int p5), .val (.ref b1), .val (.ref b5), .val (.ref b6), .val (.int (1 : Int32)), .val (.int (0 : Int32)), .unset, .unset, .unset, .unset]) (S' := [(.ref b11)]) st12 ?_
    refine Go.st (T' := T12) (pc' := 96) (L' := #[.val (.int p1), .val (.int p2), .val (.int p3), .val (.int p4), .val (.int p5), .val (.ref b1), .val (.ref b5), .val (.ref b6), .val (.int (1 : Int32)), .val (.int (0 : Int32)), .val (.ref b11), .unset, .unset, .unset]) (S' := []) (fun t k => XS.astore X12.here hx rfl (hb hby at_94) rfl rfl (l' := #[.val (.int p1), .val (.int p2), .val (.int p3), .val (.int p4), .val (.int p5), .val (.ref b1), .val (.ref b5), .val (.ref b6), .val (.int (1 : Int32)), .val (.int (0 : Int32)), .val (.ref b11), .unset, .unset, .unset]) rfl k) ?_
    refine Go.st (T' := T12) (pc' := 98) (L' := #[.val (.int p1), .val (.int p2), .val (.int p3), .val (.int p4), .val (.int p5), .val (.ref b1), .val (.ref b5), .val (.ref b6), .val (.int (1 : Int32)), .val (.int (0 : Int32)), .val (.ref b11), .unset, .unset, .unset]) (S' := [(.ref b11)]) (fun t k => XS.aload X12.here hx rfl (hb hby at_96) rfl rfl  k) ?_
    refine Go.st (T' := T12) (pc' := 100) (L' := #[.val (.int p1), .val (.int p2), .val (.int p3), .val (.int p4), .val (.int p5), .val (.ref b1), .val (.ref b5), .val (.ref b6), .val (.int (1 : Int32)), .val (.int (0 : Int32)), .val (.ref b11), .unset, .unset, .unset]) (S' := [(.ref b1), (.ref b11)]) (fun t k => XS.aload X12.here hx rfl (hb hby at_98) rfl rfl  k) ?_
    obtain ⟨cq13, kq13, q13a, q13b, q13c⟩ := isOf hZ e12 E_b11
    obtain ⟨_, _, ⟨T13, L13, k13, n13⟩, -, X13, ⟨Lc13, hQ13, l13, y13, z13⟩, st13⟩ := X12.virtualBack hx (y := (⟨"java/util/ArrayList", "add", "(Ljava/lang/Object;)Z"⟩ : MethodName)) (z := (⟨"java/util/ArrayList", "add", "(Ljava/lang/Object;)Z"⟩ : MethodName)) hown (mvT hZ (hw _ (List.mem_of_getElem? (i := 69) rfl))) (mvT hZ (hw _ (List.mem_of_getElem? (i := 70) rfl))) (notFace_of_selects (args := #[]) (mvT hZ (hw _ (List.mem_of_getElem? (i := 72) rfl)))) (mvT hZ (hw _ (List.mem_of_getElem? (i := 72) rfl))) (mvT hZ (hw _ (List.mem_of_getElem? (i := 71) rfl))) (by decide) (backOf (W := 0) (rm14a l Z a0 hw [] b11 d0 (0 : Int32) _ b1 h12 n0 Z0 SD O0 E_b11 g_b11 (Ne.symm ne_d0_b11) G12_modCount G12_elementData G12_size V_d0 E_b1 (Ne.symm ne_b1_b11)) hZ (hw _ (List.mem_of_getElem? (i := 73) rfl)) (hw _ (List.mem_of_getElem? (i := 47) rfl)) (by decide) (by decide)) q13a q13c (g := (mkF m 100 #[.val (.int p1), .val (.int p2), .val (.int p3), .val (.int p4), .val (.int p5), .val (.ref b1), .val (.ref b5), .val (.ref b6), .val (.int (1 : Int32)), .val (.int (0 : Int32)), .val (.ref b11), .unset, .unset, .unset] [(.ref b1), (.ref b11)])) rfl (by rw [hml]; rfl) (Steps.refl _) (argsL := [(.ref b1)]) (rest := []) (lenOf pd_12 rfl) rfl (by show 2 * 0 + _ ≤ _; exact Nat.le_of_eq rfl) (hb hby at_100) (fun _ _ => ⟨rfl, e12, (by decide : 9 + 1 ≤ _), (by decide : 22 + 10 ≤ _)⟩)
    dsimp only [Pt.U, Pt.locs, Pt.cells, Pt.slots] at X13 l13 y13 z13 st13 hQ13
    subst l13 y13 z13
    obtain ⟨e1_13, ka13, rfl, N13q, K13, g_e1_13, lt13, G13_modCount, G13_elementData, G13_size, Ov13, V_e1_13⟩ := hQ13
    have N13 := Fr.app N12 N13q
    have ne_d0_e1_13 : d0 ≠ e1_13 := Nat.ne_of_lt (Nat.lt_of_lt_of_le V_d0.lt lt13)
    have ne_b1_e1_13 : b1 ≠ e1_13 := Nat.ne_of_lt (Nat.lt_of_lt_of_le E_b1.lt lt13)
    have ne_b5_e1_13 : b5 ≠ e1_13 := Nat.ne_of_lt (Nat.lt_of_lt_of_le E5.lt lt13)
    have ne_b6_e1_13 : b6 ≠ e1_13 := Nat.ne_of_lt (Nat.lt_of_lt_of_le E_b6.lt lt13)
    have ne_b11_e1_13 : b11 ≠ e1_13 := Nat.ne_of_lt (Nat.lt_of_lt_of_le E_b11.lt lt13)
    obtain ⟨h13, e13⟩ : ∃ z, T13.heap = z := ⟨_, rfl⟩
    rw [e13] at K13 G13_modCount G13_elementData G13_size V_e1_13
    replace Z0 := Nat.le_trans Z0 K13.1
    replace O0 := O0.keep K13 (allS g_b11 all0)
    replace V_d0 := V_d0.keep K13 (ninS ne_d0_b11 nin0)
    replace E_b1 := E_b1.keep K13
    replace E5 := E5.keep K13
    replace E_b6 := E_b6.keep K13
    replace E_b11 := E_b11.keep K13
    refine Go.tr (T' := T13) (pc' := 103) (L' := #[.val (.int p1), .val (.int p2), .val (.int p3), .val (.int p4), .val (.int p5), .val (.ref b1), .val (.ref b5), .val (.ref b6), .val (.int (1 : Int32)), .val (.int (0 : Int32)), .val (.ref b11), .unset, .unset, .unset]) (S' := [(.int (1 : Int32))]) st13 ?_
    refine Go.st (T' := T13) (pc' := 104) (L' := #[.val (.int p1), .val (.int p2), .val (.int p3), .val (.int p4), .val (.int p5), .val (.ref b1), .val (.ref b5), .val (.ref b6), .val (.int (1 : Int32)), .val (.int (0 : Int32)), .val (.ref b11), .unset, .unset, .unset]) (S' := []) (fun t k => XS.pop X13.here hx rfl (hb hby at_103) rfl rfl k) ?_
    refine Go.st (T' := T13) (pc' := 106) (L' := #[.val (.int p1), .val (.int p2), .val (.int p3), .val (.int p4), .val (.int p5), .val (.ref b1), .val (.ref b5), .val (.ref b6), .val (.int (1 : Int32)), .val (.int (0 : Int32)), .val (.ref b11), .unset, .unset, .unset]) (S' := [(.int (1 : Int32))]) (fun t k => XS.iload X13.here hx rfl (hb hby at_104) rfl  k) ?_
    refine Go.st (T' := T13) (pc' := 107) (L' := #[.val (.int p1), .val (.int p2), .val (.int p3), .val (.int p4), .val (.int p5), .val (.ref b1), .val (.ref b5), .val (.ref b6), .val (.int (1 : Int32)), .val (.int (0 : Int32)), .val (.ref b11), .unset, .unset, .unset]) (S' := [(.int (2 : Int32)), (.int (1 : Int32))]) (fun t k => XS.iconst X13.here hx rfl (hb hby at_106) k) ?_
    refine Go.st (T' := T13) (pc' := 118) (L' := #[.val (.int p1), .val (.int p2), .val (.int p3), .val (.int p4), .val (.int p5), .val (.ref b1), .val (.ref b5), .val (.ref b6), .val (.int (1 : Int32)), .val (.int (0 : Int32)), .val (.ref b11), .unset, .unset, .unset]) (S' := []) (fun t k => XS.icmpYes X13.here hx rfl (pc0 := 107) (pc' := 118) rfl (hb hby at_107) rfl (tlt (by decide : ((1 : Int32) < (2 : Int32)))).1 (by decide) (by decide) k) ?_
    refine Go.st (T' := T13) (pc' := 120) (L' := #[.val (.int p1), .val (.int p2), .val (.int p3), .val (.int p4), .val (.int p5), .val (.ref b1), .val (.ref b5), .val (.ref b6), .val (.int (1 : Int32)), .val (.int (0 : Int32)), .val (.ref b11), .unset, .unset, .unset]) (S' := [(.int (1 : Int32))]) (fun t k => XS.iload X13.here hx rfl (hb hby at_118) rfl  k) ?_
    refine Go.st (T' := T13) (pc' := 121) (L' := #[.val (.int p1), .val (.int p2), .val (.int p3), .val (.int p4), .val (.int p5), .val (.ref b1), .val (.ref b5), .val (.ref b6), .val (.int (1 : Int32)), .val (.int (0 : Int32)), .val (.ref b11), .unset, .unset, .unset]) (S' := [(.int (3 : Int32)), (.int (1 : Int32))]) (fun t k => XS.iconst X13.here hx rfl (hb hby at_120) k) ?_
    refine Go.st (T' := T13) (pc' := 132) (L' := #[.val (.int p1), .val (.int p2), .val (.int p3), .val (.int p4), .val (.int p5), .val (.ref b1), .val (.ref b5), .val (.ref b6), .val (.int (1 : Int32)), .val (.int (0 : Int32)), .val (.ref b11), .unset, .unset, .unset]) (S' := []) (fun t k => XS.icmpYes X13.here hx rfl (pc0 := 121) (pc' := 132) rfl (hb hby at_121) rfl (tlt (by decide : ((1 : Int32) < (3 : Int32)))).1 (by decide) (by decide) k) ?_
    obtain ⟨T14, h14, X14, e14, E14, A14, D14, U14, st14⟩ := newO X13 hx hZ hown (hw _ (List.mem_of_getElem? (i := 100) rfl)) (hw _ (List.mem_of_getElem? (i := 101) rfl)) (hw _ (List.mem_of_getElem? (i := 102) rfl)) e13 (g := (mkF m 132 #[.val (.int p1), .val (.int p2), .val (.int p3), .val (.int p4), .val (.int p5), .val (.ref b1), .val (.ref b5), .val (.ref b6), .val (.int (1 : Int32)), .val (.int (0 : Int32)), .val (.ref b11), .unset, .unset, .unset] [])) rfl (hb hby at_132) (by decide) (by decide)
    obtain ⟨b14, g14⟩ : ∃ z, z = h13.size := ⟨_, rfl⟩
    rw [← g14] at A14 D14 U14 st14
    have ne_d0_b14 : d0 ≠ b14 := Nat.ne_of_lt (Nat.lt_of_lt_of_le V_d0.lt (Nat.le_of_eq g14.symm))
    have ne_b1_b14 : b1 ≠ b14 := Nat.ne_of_lt (Nat.lt_of_lt_of_le E_b1.lt (Nat.le_of_eq g14.symm))
    have ne_b5_b14 : b5 ≠ b14 := Nat.ne_of_lt (Nat.lt_of_lt_of_le E5.lt (Nat.le_of_eq g14.symm))
    have ne_b6_b14 : b6 ≠ b14 := Nat.ne_of_lt (Nat.lt_of_lt_of_le E_b6.lt (Nat.le_of_eq g14.symm))
    have ne_b11_b14 : b11 ≠ b14 := Nat.ne_of_lt (Nat.lt_of_lt_of_le E_b11.lt (Nat.le_of_eq g14.symm))
    have ne_e1_13_b14 : e1_13 ≠ b14 := Nat.ne_of_lt (Nat.lt_of_lt_of_le V_e1_13.lt (Nat.le_of_eq g14.symm))
    have g_b14 : n0 ≤ b14 := Nat.le_trans Z0 (Nat.le_of_eq g14.symm)
    replace Z0 := Nat.le_trans Z0 E14.1
    replace O0 := O0.ext E14
    replace V_d0 := V_d0.ext E14
    replace E_b1 := E_b1.ext E14
    replace E5 := E5.ext E14
    replace E_b6 := E_b6.ext E14
    replace E_b11 := E_b11.ext E14
    replace G13_modCount := G13_modCount.ext E14
    replace G13_elementData := G13_elementData.ext E14
    replace G13_size := G13_size.ext E14
    replace V_e1_13 := V_e1_13.ext E14
    have E_b14 := A14
    have F_b14_line : Fld Z h14 b14 "com/example/yusenkabu/yusenkabu/CsvFile$Row" "line" "I" (.int (0 : Int32)) := D14 (Or.inr (hw _ (List.mem_of_getElem? (i := 113) rfl))) (ty := .int) (by decide)
    have F_b14_fields : Fld Z h14 b14 "com/example/yusenkabu/yusenkabu/CsvFile$Row" "fields" "Ljava/util/List;" .null := D14 (Or.inr (hw _ (List.mem_of_getElem? (i := 115) rfl))) (ty := (.object "java/util/List")) (by decide)
    refine Go.st (T' := T14) (pc' := 135) (L' := #[.val (.int p1), .val (.int p2), .val (.int p3), .val (.int p4), .val (.int p5), .val (.ref b1), .val (.ref b5), .val (.ref b6), .val (.int (1 : Int32)), .val (.int (0 : Int32)), .val (.ref b11), .unset, .unset, .unset]) (S' := [(.ref b14)]) st14 ?_
    refine Go.st (T' := T14) (pc' := 136) (L' := #[.val (.int p1), .val (.int p2), .val (.int p3), .val (.int p4), .val (.int p5), .val (.ref b1), .val (.ref b5), .val (.ref b6), .val (.int (1 : Int32)), .val (.int (0 : Int32)), .val (.ref b11), .unset, .unset, .unset]) (S' := [(.ref b14), (.ref b14)]) (fun t k => XS.dup X14.here hx rfl (hb hby at_135) rfl rfl k) ?_
    refine Go.st (T' := T14) (pc' := 137) (L' := #[.val (.int p1), .val (.int p2), .val (.int p3), .val (.int p4), .val (.int p5), .val (.ref b1), .val (.ref b5), .val (.ref b6), .val (.int (1 : Int32)), .val (.int (0 : Int32)), .val (.ref b11), .unset, .unset, .unset]) (S' := [(.int p1), (.ref b14), (.ref b14)]) (fun t k => XS.iloadN X14.here hx rfl (hb hby at_136) rfl  k) ?_
    refine Go.st (T' := T14) (pc' := 139) (L' := #[.val (.int p1), .val (.int p2), .val (.int p3), .val (.int p4), .val (.int p5), .val (.ref b1), .val (.ref b5), .val (.ref b6), .val (.int (1 : Int32)), .val (.int (0 : Int32)), .val (.ref b11), .unset, .unset, .unset]) (S' := [(.ref b11), (.int p1), (.ref b14), (.ref b14)]) (fun t k => XS.aload X14.here hx rfl (hb hby at_137) rfl rfl  k) ?_
    obtain ⟨_, _, ⟨T15, L15, k15, n15⟩, -, X15, ⟨Lc15, hQ15, l15, y15, z15⟩, st15⟩ := X14.specialBack hx (y := (⟨"com/example/yusenkabu/yusenkabu/CsvFile$Row", "<init>", "(ILjava/util/List;)V"⟩ : MethodName)) rfl hown (mvT hZ (hw _ (List.mem_of_getElem? (i := 103) rfl))) (mvT hZ (hw _ (List.mem_of_getElem? (i := 104) rfl))) (mvT hZ (hw _ (List.mem_of_getElem? (i := 105) rfl))) (by decide) (backOf (W := 1) (rm19 l Z a0 hw [] b14 p1 b11 h14 n0 Z0 E_b14 g_b14 F_b14_line F_b14_fields) hZ (hw _ (List.mem_of_getElem? (i := 105) rfl)) (hw _ (List.mem_of_getElem? (i := 102) rfl)) (by decide) (by decide)) (g := (mkF m 139 #[.val (.int p1), .val (.int p2), .val (.int p3), .val (.int p4), .val (.int p5), .val (.ref b1), .val (.ref b5), .val (.ref b6), .val (.int (1 : Int32)), .val (.int (0 : Int32)), .val (.ref b11), .unset, .unset, .unset] [(.ref b11), (.int p1), (.ref b14), (.ref b14)])) rfl (by rw [hml]; rfl) (Steps.refl _) (a := b14) (argsL := [(.int p1), (.ref b11)]) (rest := [(.ref b14)]) (lenOf pd_13 rfl) rfl (by show 2 * 0 + _ ≤ _; exact Nat.le_of_eq rfl) (hb hby at_139) (fun _ _ => ⟨rfl, e14, (by decide : 11 + 0 ≤ _), (by decide : 34 + 0 ≤ _)⟩)
    dsimp only [Pt.U, Pt.locs, Pt.cells, Pt.slots] at X15 l15 y15 z15 st15 hQ15
    subst l15 y15 z15
    obtain ⟨rfl, N15q, K15, G15_line, G15_fields⟩ := hQ15
    have N15 := Fr.app N13 N15q
    obtain ⟨h15, e15⟩ : ∃ z, T15.heap = z := ⟨_, rfl⟩
    rw [e15] at K15 G15_line G15_fields
    replace Z0 := Nat.le_trans Z0 K15.1
    replace O0 := O0.keep K15 (allS g_b14 all0)
    replace V_d0 := V_d0.keep K15 (ninS ne_d0_b14 nin0)
    replace E_b1 := E_b1.keep K15
    replace E5 := E5.keep K15
    replace E_b6 := E_b6.keep K15
    replace E_b11 := E_b11.keep K15
    replace G13_modCount := G13_modCount.keep K15 (ninS ne_b11_b14 nin0)
    replace G13_elementData := G13_elementData.keep K15 (ninS ne_b11_b14 nin0)
    replace G13_size := G13_size.keep K15 (ninS ne_b11_b14 nin0)
    replace V_e1_13 := V_e1_13.keep K15 (ninS ne_e1_13_b14 nin0)
    replace E_b14 := E_b14.keep K15
    refine Go.tr (T' := T15) (pc' := 142) (L' := #[.val (.int p1), .val (.int p2), .val (.int p3), .val (.int p4), .val (.int p5), .val (.ref b1), .val (.ref b5), .val (.ref b6), .val (.int (1 : Int32)), .val (.int (0 : Int32)), .val (.ref b11), .unset, .unset, .unset]) (S' := [(.ref b14)]) st15 ?_
    refine Go.st (T' := T15) (pc' := 144) (L' := #[.val (.int p1), .val (.int p2), .val (.int p3), .val (.int p4), .val (.int p5), .val (.ref b1), .val (.ref b5), .val (.ref b6), .val (.int (1 : Int32)), .val (.int (0 : Int32)), .val (.ref b11), .val (.ref b14), .unset, .unset]) (S' := []) (fun t k => XS.astore X15.here hx rfl (hb hby at_142) rfl rfl (l' := #[.val (.int p1), .val (.int p2), .val (.int p3), .val (.int p4), .val (.int p5), .val (.ref b1), .val (.ref b5), .val (.ref b6), .val (.int (1 : Int32)), .val (.int (0 : Int32)), .val (.ref b11), .val (.ref b14), .unset, .unset]) rfl k) ?_
    refine Go.st (T' := T15) (pc' := 146) (L' := #[.val (.int p1), .val (.int p2), .val (.int p3), .val (.int p4), .val (.int p5), .val (.ref b1), .val (.ref b5), .val (.ref b6), .val (.int (1 : Int32)), .val (.int (0 : Int32)), .val (.ref b11), .val (.ref b14), .unset, .unset]) (S' := [(.ref b14)]) (fun t k => XS.aload X15.here hx rfl (hb hby at_144) rfl rfl  k) ?_
    refine Go.st (T' := T15) (pc' := 148) (L' := #[.val (.int p1), .val (.int p2), .val (.int p3), .val (.int p4), .val (.int p5), .val (.ref b1), .val (.ref b5), .val (.ref b6), .val (.int (1 : Int32)), .val (.int (0 : Int32)), .val (.ref b11), .val (.ref b14), .unset, .unset]) (S' := [(.int (0 : Int32)), (.ref b14)]) (fun t k => XS.iload X15.here hx rfl (hb hby at_146) rfl  k) ?_
    obtain ⟨cq16, kq16, q16a, q16b, q16c⟩ := isOf hZ e15 E_b14
    obtain ⟨_, _, ⟨T16, L16, k16, n16⟩, -, X16, ⟨Lc16, hQ16, l16, y16, z16⟩, st16⟩ := X15.virtualBack hx (y := (⟨"com/example/yusenkabu/yusenkabu/CsvFile$Row", "field", "(I)Ljava/lang/String;"⟩ : MethodName)) (z := (⟨"com/example/yusenkabu/yusenkabu/CsvFile$Row", "field", "(I)Ljava/lang/String;"⟩ : MethodName)) hown (mvT hZ (hw _ (List.mem_of_getElem? (i := 116) rfl))) (mvT hZ (hw _ (List.mem_of_getElem? (i := 117) rfl))) (notFace_of_selects (args := #[]) (mvT hZ (hw _ (List.mem_of_getElem? (i := 119) rfl)))) (mvT hZ (hw _ (List.mem_of_getElem? (i := 119) rfl))) (mvT hZ (hw _ (List.mem_of_getElem? (i := 118) rfl))) (by decide) (backOf (W := 0) (rm21 l Z a0 hw [] b14 b11 e1_13 _ _ 0 1 b1 h15 n0 Z0 G15_fields E_b1 E_b11 G13_elementData G13_size V_e1_13 (by decide) (by decide) rfl) hZ (hw _ (List.mem_of_getElem? (i := 120) rfl)) (hw _ (List.mem_of_getElem? (i := 102) rfl)) (by decide) (by decide)) q16a q16c (g := (mkF m 148 #[.val (.int p1), .val (.int p2), .val (.int p3), .val (.int p4), .val (.int p5), .val (.ref b1), .val (.ref b5), .val (.ref b6), .val (.int (1 : Int32)), .val (.int (0 : Int32)), .val (.ref b11), .val (.ref b14), .unset, .unset] [(.int (0 : Int32)), (.ref b14)])) rfl (by rw [hml]; rfl) (Steps.refl _) (argsL := [(.int (0 : Int32))]) (rest := []) (lenOf pd_14 rfl) rfl (by show 2 * 0 + _ ≤ _; exact Nat.le_of_eq rfl) (hb hby at_148) (fun _ _ => ⟨rfl, e15, (by decide : 11 + 0 ≤ _), (by decide : 34 + 0 ≤ _)⟩)
    dsimp only [Pt.U, Pt.locs, Pt.cells, Pt.slots] at X16 l16 y16 z16 st16 hQ16
    subst l16 y16 z16
    obtain ⟨rfl, N16q, e16⟩ := hQ16
    have N16 := Fr.app N15 N16q
    refine Go.tr (T' := T16) (pc' := 151) (L' := #[.val (.int p1), .val (.int p2), .val (.int p3), .val (.int p4), .val (.int p5), .val (.ref b1), .val (.ref b5), .val (.ref b6), .val (.int (1 : Int32)), .val (.int (0 : Int32)), .val (.ref b11), .val (.ref b14), .unset, .unset]) (S' := [(.ref b1)]) st16 ?_
    refine Go.st (T' := T16) (pc' := 153) (L' := #[.val (.int p1), .val (.int p2), .val (.int p3), .val (.int p4), .val (.int p5), .val (.ref b1), .val (.ref b5), .val (.ref b6), .val (.int (1 : Int32)), .val (.int (0 : Int32)), .val (.ref b11), .val (.ref b14), .val (.ref b1), .unset]) (S' := []) (fun t k => XS.astore X16.here hx rfl (hb hby at_151) rfl rfl (l' := #[.val (.int p1), .val (.int p2), .val (.int p3), .val (.int p4), .val (.int p5), .val (.ref b1), .val (.ref b5), .val (.ref b6), .val (.int (1 : Int32)), .val (.int (0 : Int32)), .val (.ref b11), .val (.ref b14), .val (.ref b1), .unset]) rfl k) ?_
    refine Go.st (T' := T16) (pc' := 155) (L' := #[.val (.int p1), .val (.int p2), .val (.int p3), .val (.int p4), .val (.int p5), .val (.ref b1), .val (.ref b5), .val (.ref b6), .val (.int (1 : Int32)), .val (.int (0 : Int32)), .val (.ref b11), .val (.ref b14), .val (.ref b1), .unset]) (S' := [(.int (0 : Int32))]) (fun t k => XS.iload X16.here hx rfl (hb hby at_153) rfl  k) ?_
    refine Go.st (T' := T16) (pc' := 158) (L' := #[.val (.int p1), .val (.int p2), .val (.int p3), .val (.int p4), .val (.int p5), .val (.ref b1), .val (.ref b5), .val (.ref b6), .val (.int (1 : Int32)), .val (.int (0 : Int32)), .val (.ref b11), .val (.ref b14), .val (.ref b1), .unset]) (S' := []) (fun t k => XS.ifNo X16.here hx rfl (hb hby at_155) rfl ((if0 _ _).trans (teq (by decide : ((0 : Int32) = (0 : Int32)))).2) k) ?_
    refine Go.st (T' := T16) (pc' := 160) (L' := #[.val (.int p1), .val (.int p2), .val (.int p3), .val (.int p4), .val (.int p5), .val (.ref b1), .val (.ref b5), .val (.ref b6), .val (.int (1 : Int32)), .val (.int (0 : Int32)), .val (.ref b11), .val (.ref b14), .val (.ref b1), .unset]) (S' := [(.ref b1)]) (fun t k => XS.aload X16.here hx rfl (hb hby at_158) rfl rfl  k) ?_
    refine Go.st (T' := T16) (pc' := 162) (L' := #[.val (.int p1), .val (.int p2), .val (.int p3), .val (.int p4), .val (.int p5), .val (.ref b1), .val (.ref b5), .val (.ref b6), .val (.int (1 : Int32)), .val (.int (0 : Int32)), .val (.ref b11), .val (.ref b14), .val (.ref b1), .val (.ref b1)]) (S' := []) (fun t k => XS.astore X16.here hx rfl (hb hby at_160) rfl rfl (l' := #[.val (.int p1), .val (.int p2), .val (.int p3), .val (.int p4), .val (.int p5), .val (.ref b1), .val (.ref b5), .val (.ref b6), .val (.int (1 : Int32)), .val (.int (0 : Int32)), .val (.ref b11), .val (.ref b14), .val (.ref b1), .val (.ref b1)]) rfl k) ?_
    refine Go.st (T' := T16) (pc' := 182) (L' := #[.val (.int p1), .val (.int p2), .val (.int p3), .val (.int p4), .val (.int p5), .val (.ref b1), .val (.ref b5), .val (.ref b6), .val (.int (1 : Int32)), .val (.int (0 : Int32)), .val (.ref b11), .val (.ref b14), .val (.ref b1), .val (.ref b1)]) (S' := []) (fun t k => XS.goto X16.here hx rfl (pc0 := 162) (pc' := 182) rfl (hb hby at_162) (by decide) (by decide) k) ?_
    refine Go.st (T' := T16) (pc' := 184) (L' := #[.val (.int p1), .val (.int p2), .val (.int p3), .val (.int p4), .val (.int p5), .val (.ref b1), .val (.ref b5), .val (.ref b6), .val (.int (1 : Int32)), .val (.int (0 : Int32)), .val (.ref b11), .val (.ref b14), .val (.ref b1), .val (.ref b1)]) (S' := [(.ref b1)]) (fun t k => XS.aload X16.here hx rfl (hb hby at_182) rfl rfl  k) ?_
    refine Go.st (T' := T16) (pc' := 186) (L' := #[.val (.int p1), .val (.int p2), .val (.int p3), .val (.int p4), .val (.int p5), .val (.ref b1), .val (.ref b5), .val (.ref b6), .val (.int (1 : Int32)), .val (.int (0 : Int32)), .val (.ref b11), .val (.ref b14), .val (.ref b1), .val (.ref b1)]) (S' := [(.ref b1), (.ref b1)]) (fun t k => XS.aload X16.here hx rfl (hb hby at_184) rfl rfl  k) ?_
    refine Go.st (T' := T16) (pc' := 189) (L' := #[.val (.int p1), .val (.int p2), .val (.int p3), .val (.int p4), .val (.int p5), .val (.ref b1), .val (.ref b5), .val (.ref b6), .val (.int (1 : Int32)), .val (.int (0 : Int32)), .val (.ref b11), .val (.ref b14), .val (.ref b1), .val (.ref b1)]) (S' := []) (fun t k => Jvm.RoadKit.acmp (g := (mkF m 186 #[.val (.int p1), .val (.int p2), .val (.int p3), .val (.int p4), .val (.int p5), .val (.ref b1), .val (.ref b5), .val (.ref b6), .val (.int (1 : Int32)), .val (.int (0 : Int32)), .val (.ref b11), .val (.ref b14), .val (.ref b1), .val (.ref b1)] [(.ref b1), (.ref b1)])) X16 hx rfl rfl rfl (pc0 := 186) (pc' := 189) (same := true) rfl (hb hby at_186) rfl (decide_eq_true rfl) (by decide) (by decide) k) ?_
    refine Go.st (T' := T16) (pc' := 190) (L' := #[.val (.int p1), .val (.int p2), .val (.int p3), .val (.int p4), .val (.int p5), .val (.ref b1), .val (.ref b5), .val (.ref b6), .val (.int (1 : Int32)), .val (.int (0 : Int32)), .val (.ref b11), .val (.ref b14), .val (.ref b1), .val (.ref b1)]) (S' := [(.int (1 : Int32))]) (fun t k => XS.iconst X16.here hx rfl (hb hby at_189) k) ?_
    refine Go.st (T' := T16) (pc' := 194) (L' := #[.val (.int p1), .val (.int p2), .val (.int p3), .val (.int p4), .val (.int p5), .val (.ref b1), .val (.ref b5), .val (.ref b6), .val (.int (1 : Int32)), .val (.int (0 : Int32)), .val (.ref b11), .val (.ref b14), .val (.ref b1), .val (.ref b1)]) (S' := [(.int (1 : Int32))]) (fun t k => XS.goto X16.here hx rfl (pc0 := 190) (pc' := 194) rfl (hb hby at_190) (by decide) (by decide) k) ?_
    exact Go.retN X16 hx hlk hret (by simp) (hb hby at_194) (by decide) (by decide) (by rw [e16]; exact ⟨rfl, N16⟩)
  · rw [hn3]
    refine Go.st (T' := T10) (pc' := 76) (L' := #[.val (.int p1), .val (.int p2), .val (.int p3), .val (.int p4), .val (.int p5), .val (.ref b1), .val (.ref b5), .val (.ref b6), .val (.int (2 : Int32)), .unset, .unset, .unset, .unset, .unset]) (S' := []) (fun t k => XS.istore X10.here hx rfl (hb hby at_74) rfl (l' := #[.val (.int p1), .val (.int p2), .val (.int p3), .val (.int p4), .val (.int p5), .val (.ref b1), .val (.ref b5), .val (.ref b6), .val (.int (2 : Int32)), .unset, .unset, .unset, .unset, .unset]) rfl k) ?_
    refine Go.st (T' := T10) (pc' := 77) (L' := #[.val (.int p1), .val (.int p2), .val (.int p3), .val (.int p4), .val (.int p5), .val (.ref b1), .val (.ref b5), .val (.ref b6), .val (.int (2 : Int32)), .unset, .unset, .unset, .unset, .unset]) (S' := [(.int p2)]) (fun t k => XS.iloadN X10.here hx rfl (hb hby at_76) rfl  k) ?_
    refine Go.st (T' := T10) (pc' := 78) (L' := #[.val (.int p1), .val (.int p2), .val (.int p3), .val (.int p4), .val (.int p5), .val (.ref b1), .val (.ref b5), .val (.ref b6), .val (.int (2 : Int32)), .unset, .unset, .unset, .unset, .unset]) (S' := [(.int (2 : Int32)), (.int p2)]) (fun t k => XS.iconst X10.here hx rfl (hb hby at_77) k) ?_
    refine Go.st (T' := T10) (pc' := 79) (L' := #[.val (.int p1), .val (.int p2), .val (.int p3), .val (.int p4), .val (.int p5), .val (.ref b1), .val (.ref b5), .val (.ref b6), .val (.int (2 : Int32)), .unset, .unset, .unset, .unset, .unset]) (S' := [(.int ((p2.toUInt32 >>> ((2 : Int32) &&& 31).toUInt32).toInt32))]) (fun t k => XS.iushr X10.here hx rfl (hb hby at_78) rfl k) ?_
    refine Go.st (T' := T10) (pc' := 81) (L' := #[.val (.int p1), .val (.int p2), .val (.int p3), .val (.int p4), .val (.int p5), .val (.ref b1), .val (.ref b5), .val (.ref b6), .val (.int (2 : Int32)), .unset, .unset, .unset, .unset, .unset]) (S' := [(.int (2147483647 : Int32)), (.int ((p2.toUInt32 >>> ((2 : Int32) &&& 31).toUInt32).toInt32))]) (fun t k => X10.ldcInt hx hown (mvT hZ (hw _ (List.mem_of_getElem? (i := 44) rfl))) (g := (mkF m 79 #[.val (.int p1), .val (.int p2), .val (.int p3), .val (.int p4), .val (.int p5), .val (.ref b1), .val (.ref b5), .val (.ref b6), .val (.int (2 : Int32)), .unset, .unset, .unset, .unset, .unset] [(.int ((p2.toUInt32 >>> ((2 : Int32) &&& 31).toUInt32).toInt32))])) rfl (hb hby at_79) t k) ?_
    refine Go.st (T' := T10) (pc' := 82) (L' := #[.val (.int p1), .val (.int p2), .val (.int p3), .val (.int p4), .val (.int p5), .val (.ref b1), .val (.ref b5), .val (.ref b6), .val (.int (2 : Int32)), .unset, .unset, .unset, .unset, .unset]) (S' := [(.int (((p2.toUInt32 >>> ((2 : Int32) &&& 31).toUInt32).toInt32) &&& (2147483647 : Int32)))]) (fun t k => XS.iand X10.here hx rfl (hb hby at_81) rfl k) ?_
    refine Go.st (T' := T10) (pc' := 84) (L' := #[.val (.int p1), .val (.int p2), .val (.int p3), .val (.int p4), .val (.int p5), .val (.ref b1), .val (.ref b5), .val (.ref b6), .val (.int (2 : Int32)), .unset, .unset, .unset, .unset, .unset]) (S' := [(.int (2 : Int32)), (.int (((p2.toUInt32 >>> ((2 : Int32) &&& 31).toUInt32).toInt32) &&& (2147483647 : Int32)))]) (fun t k => XS.iload X10.here hx rfl (hb hby at_82) rfl  k) ?_
    refine Go.st (T' := T10) (pc' := 85) (L' := #[.val (.int p1), .val (.int p2), .val (.int p3), .val (.int p4), .val (.int p5), .val (.ref b1), .val (.ref b5), .val (.ref b6), .val (.int (2 : Int32)), .unset, .unset, .unset, .unset, .unset]) (S' := [(.int ((((p2.toUInt32 >>> ((2 : Int32) &&& 31).toUInt32).toInt32) &&& (2147483647 : Int32)) % (2 : Int32)))]) (fun t k => iremM X10 hx rfl (hb hby at_84) rfl (by decide) k) ?_
    rcases own_r2 (((p2.toUInt32 >>> ((2 : Int32) &&& 31).toUInt32).toInt32)) with hr3 | hr3
    · rw [hr3]
      refine Go.st (T' := T10) (pc' := 87) (L' := #[.val (.int p1), .val (.int p2), .val (.int p3), .val (.int p4), .val (.int p5), .val (.ref b1), .val (.ref b5), .val (.ref b6), .val (.int (2 : Int32)), .val (.int (0 : Int32)), .unset, .unset, .unset, .unset]) (S' := []) (fun t k => XS.istore X10.here hx rfl (hb hby at_85) rfl (l' := #[.val (.int p1), .val (.int p2), .val (.int p3), .val (.int p4), .val (.int p5), .val (.ref b1), .val (.ref b5), .val (.ref b6), .val (.int (2 : Int32)), .val (.int (0 : Int32)), .unset, .unset, .unset, .unset]) rfl k) ?_
      obtain ⟨T17, h17, X17, e17, E17, A17, D17, U17, st17⟩ := newO X10 hx hZ hown (hw _ (List.mem_of_getElem? (i := 45) rfl)) (hw _ (List.mem_of_getElem? (i := 46) rfl)) (hw _ (List.mem_of_getElem? (i := 47) rfl)) e10 (g := (mkF m 87 #[.val (.int p1), .val (.int p2), .val (.int p3), .val (.int p4), .val (.int p5), .val (.ref b1), .val (.ref b5), .val (.ref b6), .val (.int (2 : Int32)), .val (.int (0 : Int32)), .unset, .unset, .unset, .unset] [])) rfl (hb hby at_87) (by decide) (by decide)
      obtain ⟨b17, g17⟩ : ∃ z, z = h10.size := ⟨_, rfl⟩
      rw [← g17] at A17 D17 U17 st17
      have ne_d0_b17 : d0 ≠ b17 := Nat.ne_of_lt (Nat.lt_of_lt_of_le V_d0.lt (Nat.le_of_eq g17.symm))
      have ne_b1_b17 : b1 ≠ b17 := Nat.ne_of_lt (Nat.lt_of_lt_of_le E_b1.lt (Nat.le_of_eq g17.symm))
      have ne_b5_b17 : b5 ≠ b17 := Nat.ne_of_lt (Nat.lt_of_lt_of_le E5.lt (Nat.le_of_eq g17.symm))
      have ne_b6_b17 : b6 ≠ b17 := Nat.ne_of_lt (Nat.lt_of_lt_of_le E_b6.lt (Nat.le_of_eq g17.symm))
      have g_b17 : n0 ≤ b17 := Nat.le_trans Z0 (Nat.le_of_eq g17.symm)
      replace Z0 := Nat.le_trans Z0 E17.1
      replace O0 := O0.ext E17
      replace V_d0 := V_d0.ext E17
      replace E_b1 := E_b1.ext E17
      replace E5 := E5.ext E17
      replace E_b6 := E_b6.ext E17
      have E_b17 := A17
      have F_b17_modCount : Fld Z h17 b17 "java/util/AbstractList" "modCount" "I" (.int (0 : Int32)) := D17 (Or.inl (hw _ (List.mem_of_getElem? (i := 65) rfl))) (ty := .int) (by decide)
      have F_b17_elementData : Fld Z h17 b17 "java/util/ArrayList" "elementData" "[Ljava/lang/Object;" .null := D17 (Or.inl (hw _ (List.mem_of_getElem? (i := 68) rfl))) (ty := (.array (.object "java/lang/Object"))) (by decide)
      have F_b17_size : Fld Z h17 b17 "java/util/ArrayList" "size" "I" (.int (0 : Int32)) := D17 (Or.inl (hw _ (List.mem_of_getElem? (i := 77) rfl))) (ty := .int) (by decide)
      refine Go.st (T' := T17) (pc' := 90) (L' := #[.val (.int p1), .val (.int p2), .val (.int p3), .val (.int p4), .val (.int p5), .val (.ref b1), .val (.ref b5), .val (.ref b6), .val (.int (2 : Int32)), .val (.int (0 : Int32)), .unset, .unset, .unset, .unset]) (S' := [(.ref b17)]) st17 ?_
      refine Go.st (T' := T17) (pc' := 91) (L' := #[.val (.int p1), .val (.int p2), .val (.int p3), .val (.int p4), .val (.int p5), .val (.ref b1), .val (.ref b5), .val (.ref b6), .val (.int (2 : Int32)), .val (.int (0 : Int32)), .unset, .unset, .unset, .unset]) (S' := [(.ref b17), (.ref b17)]) (fun t k => XS.dup X17.here hx rfl (hb hby at_90) rfl rfl k) ?_
      obtain ⟨_, _, ⟨T18, L18, k18, n18⟩, -, X18, ⟨Lc18, hQ18, l18, y18, z18⟩, st18⟩ := X17.specialBack hx (y := (⟨"java/util/ArrayList", "<init>", "()V"⟩ : MethodName)) rfl hown (mvT hZ (hw _ (List.mem_of_getElem? (i := 48) rfl))) (mvT hZ (hw _ (List.mem_of_getElem? (i := 49) rfl))) (mvT hZ (hw _ (List.mem_of_getElem? (i := 50) rfl))) (by decide) (backOf (W := 1) (rm11 l Z a0 hw [] b17 d0 h17 n0 Z0 SD O0 E_b17 g_b17 F_b17_modCount F_b17_elementData F_b17_size) hZ (hw _ (List.mem_of_getElem? (i := 50) rfl)) (hw _ (List.mem_of_getElem? (i := 47) rfl)) (by decide) (by decide)) (g := (mkF m 91 #[.val (.int p1), .val (.int p2), .val (.int p3), .val (.int p4), .val (.int p5), .val (.ref b1), .val (.ref b5), .val (.ref b6), .val (.int (2 : Int32)), .val (.int (0 : Int32)), .unset, .unset, .unset, .unset] [(.ref b17), (.ref b17)])) rfl (by rw [hml]; rfl) (Steps.refl _) (a := b17) (argsL := []) (rest := [(.ref b17)]) (lenOf pd_3 rfl) rfl (by show 2 * 0 + _ ≤ _; exact Nat.le_of_eq rfl) (hb hby at_91) (fun _ _ => ⟨rfl, e17, (by decide : 9 + 0 ≤ _), (by decide : 22 + 0 ≤ _)⟩)
      dsimp only [Pt.U, Pt.locs, Pt.cells, Pt.slots] at X18 l18 y18 z18 st18 hQ18
      subst l18 y18 z18
      obtain ⟨rfl, N18q, K18, G18_modCount, G18_elementData, G18_size⟩ := hQ18
      have N18 := Fr.app N10 N18q
      obtain ⟨h18, e18⟩ : ∃ z, T18.heap = z := ⟨_, rfl⟩
      rw [e18] at K18 G18_modCount G18_elementData G18_size
      replace Z0 := Nat.le_trans Z0 K18.1
      replace O0 := O0.keep K18 (allS g_b17 all0)
      replace V_d0 := V_d0.keep K18 (ninS ne_d0_b17 nin0)
      replace E_b1 := E_b1.keep K18
      replace E5 := E5.keep K18
      replace E_b6 := E_b6.keep K18
      replace E_b17 := E_b17.keep K18
      refine Go.tr (T' := T18) (pc' := 94) (L' := #[.val (.int p1), .val (.int p2), .val (.int p3), .val (.int p4), .val (.int p5), .val (.ref b1), .val (.ref b5), .val (.ref b6), .val (.int (2 : Int32)), .val (.int (0 : Int32)), .unset, .unset, .unset, .unset]) (S' := [(.ref b17)]) st18 ?_
      refine Go.st (T' := T18) (pc' := 96) (L' := #[.val (.int p1), .val (.int p2), .val (.int p3), .val (.int p4), .val (.int p5), .val (.ref b1), .val (.ref b5), .val (.ref b6), .val (.int (2 : Int32)), .val (.int (0 : Int32)), .val (.ref b17), .unset, .unset, .unset]) (S' := []) (fun t k => XS.astore X18.here hx rfl (hb hby at_94) rfl rfl (l' := #[.val (.int p1), .val (.int p2), .val (.int p3), .val (.int p4), .val (.int p5), .val (.ref b1), .val (.ref b5), .val (.ref b6), .val (.int (2 : Int32)), .val (.int (0 : Int32)), .val (.ref b17), .unset, .unset, .unset]) rfl k) ?_
      refine Go.st (T' := T18) (pc' := 98) (L' := #[.val (.int p1), .val (.int p2), .val (.int p3), .val (.int p4), .val (.int p5), .val (.ref b1), .val (.ref b5), .val (.ref b6), .val (.int (2 : Int32)), .val (.int (0 : Int32)), .val (.ref b17), .unset, .unset, .unset]) (S' := [(.ref b17)]) (fun t k => XS.aload X18.here hx rfl (hb hby at_96) rfl rfl  k) ?_
      refine Go.st (T' := T18) (pc' := 100) (L' := #[.val (.int p1), .val (.int p2), .val (.int p3), .val (.int p4), .val (.int p5), .val (.ref b1), .val (.ref b5), .val (.ref b6), .val (.int (2 : Int32)), .val (.int (0 : Int32)), .val (.ref b17), .unset, .unset, .unset]) (S' := [(.ref b1), (.ref b17)]) (fun t k => XS.aload X18.here hx rfl (hb hby at_98) rfl rfl  k) ?_
      obtain ⟨cq19, kq19, q19a, q19b, q19c⟩ := isOf hZ e18 E_b17
      obtain ⟨_, _, ⟨T19, L19, k19, n19⟩, -, X19, ⟨Lc19, hQ19, l19, y19, z19⟩, st19⟩ := X18.virtualBack hx (y := (⟨"java/util/ArrayList", "add", "(Ljava/lang/Object;)Z"⟩ : MethodName)) (z := (⟨"java/util/ArrayList", "add", "(Ljava/lang/Object;)Z"⟩ : MethodName)) hown (mvT hZ (hw _ (List.mem_of_getElem? (i := 69) rfl))) (mvT hZ (hw _ (List.mem_of_getElem? (i := 70) rfl))) (notFace_of_selects (args := #[]) (mvT hZ (hw _ (List.mem_of_getElem? (i := 72) rfl)))) (mvT hZ (hw _ (List.mem_of_getElem? (i := 72) rfl))) (mvT hZ (hw _ (List.mem_of_getElem? (i := 71) rfl))) (by decide) (backOf (W := 0) (rm14a l Z a0 hw [] b17 d0 (0 : Int32) _ b1 h18 n0 Z0 SD O0 E_b17 g_b17 (Ne.symm ne_d0_b17) G18_modCount G18_elementData G18_size V_d0 E_b1 (Ne.symm ne_b1_b17)) hZ (hw _ (List.mem_of_getElem? (i := 73) rfl)) (hw _ (List.mem_of_getElem? (i := 47) rfl)) (by decide) (by decide)) q19a q19c (g := (mkF m 100 #[.val (.int p1), .val (.int p2), .val (.int p3), .val (.int p4), .val (.int p5), .val (.ref b1), .val (.ref b5), .val (.ref b6), .val (.int (2 : Int32)), .val (.int (0 : Int32)), .val (.ref b17), .unset, .unset, .unset] [(.ref b1), (.ref b17)])) rfl (by rw [hml]; rfl) (Steps.refl _) (argsL := [(.ref b1)]) (rest := []) (lenOf pd_12 rfl) rfl (by show 2 * 0 + _ ≤ _; exact Nat.le_of_eq rfl) (hb hby at_100) (fun _ _ => ⟨rfl, e18, (by decide : 9 + 1 ≤ _), (by decide : 22 + 10 ≤ _)⟩)
      dsimp only [Pt.U, Pt.locs, Pt.cells, Pt.slots] at X19 l19 y19 z19 st19 hQ19
      subst l19 y19 z19
      obtain ⟨e1_19, ka19, rfl, N19q, K19, g_e1_19, lt19, G19_modCount, G19_elementData, G19_size, Ov19, V_e1_19⟩ := hQ19
      have N19 := Fr.app N18 N19q
      have ne_d0_e1_19 : d0 ≠ e1_19 := Nat.ne_of_lt (Nat.lt_of_lt_of_le V_d0.lt lt19)
      have ne_b1_e1_19 : b1 ≠ e1_19 := Nat.ne_of_lt (Nat.lt_of_lt_of_le E_b1.lt lt19)
      have ne_b5_e1_19 : b5 ≠ e1_19 := Nat.ne_of_lt (Nat.lt_of_lt_of_le E5.lt lt19)
      have ne_b6_e1_19 : b6 ≠ e1_19 := Nat.ne_of_lt (Nat.lt_of_lt_of_le E_b6.lt lt19)
      have ne_b17_e1_19 : b17 ≠ e1_19 := Nat.ne_of_lt (Nat.lt_of_lt_of_le E_b17.lt lt19)
      obtain ⟨h19, e19⟩ : ∃ z, T19.heap = z := ⟨_, rfl⟩
      rw [e19] at K19 G19_modCount G19_elementData G19_size V_e1_19
      replace Z0 := Nat.le_trans Z0 K19.1
      replace O0 := O0.keep K19 (allS g_b17 all0)
      replace V_d0 := V_d0.keep K19 (ninS ne_d0_b17 nin0)
      replace E_b1 := E_b1.keep K19
      replace E5 := E5.keep K19
      replace E_b6 := E_b6.keep K19
      replace E_b17 := E_b17.keep K19
      refine Go.tr (T' := T19) (pc' := 103) (L' := #[.val (.int p1), .val (.int p2), .val (.int p3), .val (.int p4), .val (.int p5), .val (.ref b1), .val (.ref b5), .val (.ref b6), .val (.int (2 : Int32)), .val (.int (0 : Int32)), .val (.ref b17), .unset, .unset, .unset]) (S' := [(.int (1 : Int32))]) st19 ?_
      refine Go.st (T' := T19) (pc' := 104) (L' := #[.val (.int p1), .val (.int p2), .val (.int p3), .val (.int p4), .val (.int p5), .val (.ref b1), .val (.ref b5), .val (.ref b6), .val (.int (2 : Int32)), .val (.int (0 : Int32)), .val (.ref b17), .unset, .unset, .unset]) (S' := []) (fun t k => XS.pop X19.here hx rfl (hb hby at_103) rfl rfl k) ?_
      refine Go.st (T' := T19) (pc' := 106) (L' := #[.val (.int p1), .val (.int p2), .val (.int p3), .val (.int p4), .val (.int p5), .val (.ref b1), .val (.ref b5), .val (.ref b6), .val (.int (2 : Int32)), .val (.int (0 : Int32)), .val (.ref b17), .unset, .unset, .unset]) (S' := [(.int (2 : Int32))]) (fun t k => XS.iload X19.here hx rfl (hb hby at_104) rfl  k) ?_
      refine Go.st (T' := T19) (pc' := 107) (L' := #[.val (.int p1), .val (.int p2), .val (.int p3), .val (.int p4), .val (.int p5), .val (.ref b1), .val (.ref b5), .val (.ref b6), .val (.int (2 : Int32)), .val (.int (0 : Int32)), .val (.ref b17), .unset, .unset, .unset]) (S' := [(.int (2 : Int32)), (.int (2 : Int32))]) (fun t k => XS.iconst X19.here hx rfl (hb hby at_106) k) ?_
      refine Go.st (T' := T19) (pc' := 110) (L' := #[.val (.int p1), .val (.int p2), .val (.int p3), .val (.int p4), .val (.int p5), .val (.ref b1), .val (.ref b5), .val (.ref b6), .val (.int (2 : Int32)), .val (.int (0 : Int32)), .val (.ref b17), .unset, .unset, .unset]) (S' := []) (fun t k => XS.icmpNo X19.here hx rfl (hb hby at_107) rfl (flt (by decide : ¬ ((2 : Int32) < (2 : Int32)))).1 k) ?_
      refine Go.st (T' := T19) (pc' := 112) (L' := #[.val (.int p1), .val (.int p2), .val (.int p3), .val (.int p4), .val (.int p5), .val (.ref b1), .val (.ref b5), .val (.ref b6), .val (.int (2 : Int32)), .val (.int (0 : Int32)), .val (.ref b17), .unset, .unset, .unset]) (S' := [(.ref b17)]) (fun t k => XS.aload X19.here hx rfl (hb hby at_110) rfl rfl  k) ?_
      refine Go.st (T' := T19) (pc' := 114) (L' := #[.val (.int p1), .val (.int p2), .val (.int p3), .val (.int p4), .val (.int p5), .val (.ref b1), .val (.ref b5), .val (.ref b6), .val (.int (2 : Int32)), .val (.int (0 : Int32)), .val (.ref b17), .unset, .unset, .unset]) (S' := [(.ref b5), (.ref b17)]) (fun t k => XS.aload X19.here hx rfl (hb hby at_112) rfl rfl  k) ?_
      obtain ⟨cq20, kq20, q20a, q20b, q20c⟩ := isOf hZ e19 E_b17
      obtain ⟨_, _, ⟨T20, L20, k20, n20⟩, -, X20, ⟨Lc20, hQ20, l20, y20, z20⟩, st20⟩ := X19.virtualBack hx (y := (⟨"java/util/ArrayList", "add", "(Ljava/lang/Object;)Z"⟩ : MethodName)) (z := (⟨"java/util/ArrayList", "add", "(Ljava/lang/Object;)Z"⟩ : MethodName)) hown (mvT hZ (hw _ (List.mem_of_getElem? (i := 69) rfl))) (mvT hZ (hw _ (List.mem_of_getElem? (i := 70) rfl))) (notFace_of_selects (args := #[]) (mvT hZ (hw _ (List.mem_of_getElem? (i := 72) rfl)))) (mvT hZ (hw _ (List.mem_of_getElem? (i := 72) rfl))) (mvT hZ (hw _ (List.mem_of_getElem? (i := 71) rfl))) (by decide) (backOf (W := 0) (rm14b l Z a0 hw [] b17 e1_19 ((0 : Int32) + (1 : Int32)) _ 1 [(.ref b1), .null, .null] b5 h19 n0 Z0 E_b17 g_b17 g_e1_19 ne_b17_e1_19 Ov19 G19_modCount G19_elementData G19_size V_e1_19 rfl (by decide) E5 (Ne.symm ne_b5_b17)) hZ (hw _ (List.mem_of_getElem? (i := 73) rfl)) (hw _ (List.mem_of_getElem? (i := 47) rfl)) (by decide) (by decide)) q20a q20c (g := (mkF m 114 #[.val (.int p1), .val (.int p2), .val (.int p3), .val (.int p4), .val (.int p5), .val (.ref b1), .val (.ref b5), .val (.ref b6), .val (.int (2 : Int32)), .val (.int (0 : Int32)), .val (.ref b17), .unset, .unset, .unset] [(.ref b5), (.ref b17)])) rfl (by rw [hml]; rfl) (Steps.refl _) (argsL := [(.ref b5)]) (rest := []) (lenOf pd_12 rfl) rfl (by show 2 * 0 + _ ≤ _; exact Nat.le_of_eq rfl) (hb hby at_114) (fun _ _ => ⟨rfl, e19, (by decide : 10 + 0 ≤ _), (by decide : 32 + 0 ≤ _)⟩)
      dsimp only [Pt.U, Pt.locs, Pt.cells, Pt.slots] at X20 l20 y20 z20 st20 hQ20
      subst l20 y20 z20
      obtain ⟨rfl, N20q, K20, G20_modCount, G20_elementData, G20_size, Vn20⟩ := hQ20
      have N20 := Fr.app N19 N20q
      obtain ⟨h20, e20⟩ : ∃ z, T20.heap = z := ⟨_, rfl⟩
      rw [e20] at K20 G20_modCount G20_elementData G20_size Vn20
      replace Z0 := Nat.le_trans Z0 K20.1
      replace O0 := O0.keep K20 (allS g_b17 (allS g_e1_19 all0))
      replace V_d0 := V_d0.keep K20 (ninS ne_d0_b17 (ninS ne_d0_e1_19 nin0))
      replace E_b1 := E_b1.keep K20
      replace E5 := E5.keep K20
      replace E_b6 := E_b6.keep K20
      replace E_b17 := E_b17.keep K20
      have Vn20 : Arv Z h20 e1_19 ka19 (.object "java/lang/Object") (10 : Int32) [(.ref b1), (.ref b5), .null] .null := Vn20
      refine Go.tr (T' := T20) (pc' := 117) (L' := #[.val (.int p1), .val (.int p2), .val (.int p3), .val (.int p4), .val (.int p5), .val (.ref b1), .val (.ref b5), .val (.ref b6), .val (.int (2 : Int32)), .val (.int (0 : Int32)), .val (.ref b17), .unset, .unset, .unset]) (S' := [(.int (1 : Int32))]) st20 ?_
      refine Go.st (T' := T20) (pc' := 118) (L' := #[.val (.int p1), .val (.int p2), .val (.int p3), .val (.int p4), .val (.int p5), .val (.ref b1), .val (.ref b5), .val (.ref b6), .val (.int (2 : Int32)), .val (.int (0 : Int32)), .val (.ref b17), .unset, .unset, .unset]) (S' := []) (fun t k => XS.pop X20.here hx rfl (hb hby at_117) rfl rfl k) ?_
      refine Go.st (T' := T20) (pc' := 120) (L' := #[.val (.int p1), .val (.int p2), .val (.int p3), .val (.int p4), .val (.int p5), .val (.ref b1), .val (.ref b5), .val (.ref b6), .val (.int (2 : Int32)), .val (.int (0 : Int32)), .val (.ref b17), .unset, .unset, .unset]) (S' := [(.int (2 : Int32))]) (fun t k => XS.iload X20.here hx rfl (hb hby at_118) rfl  k) ?_
      refine Go.st (T' := T20) (pc' := 121) (L' := #[.val (.int p1), .val (.int p2), .val (.int p3), .val (.int p4), .val (.int p5), .val (.ref b1), .val (.ref b5), .val (.ref b6), .val (.int (2 : Int32)), .val (.int (0 : Int32)), .val (.ref b17), .unset, .unset, .unset]) (S' := [(.int (3 : Int32)), (.int (2 : Int32))]) (fun t k => XS.iconst X20.here hx rfl (hb hby at_120) k) ?_
      refine Go.st (T' := T20) (pc' := 132) (L' := #[.val (.int p1), .val (.int p2), .val (.int p3), .val (.int p4), .val (.int p5), .val (.ref b1), .val (.ref b5), .val (.ref b6), .val (.int (2 : Int32)), .val (.int (0 : Int32)), .val (.ref b17), .unset, .unset, .unset]) (S' := []) (fun t k => XS.icmpYes X20.here hx rfl (pc0 := 121) (pc' := 132) rfl (hb hby at_121) rfl (tlt (by decide : ((2 : Int32) < (3 : Int32)))).1 (by decide) (by decide) k) ?_
      obtain ⟨T21, h21, X21, e21, E21, A21, D21, U21, st21⟩ := newO X20 hx hZ hown (hw _ (List.mem_of_getElem? (i := 100) rfl)) (hw _ (List.mem_of_getElem? (i := 101) rfl)) (hw _ (List.mem_of_getElem? (i := 102) rfl)) e20 (g := (mkF m 132 #[.val (.int p1), .val (.int p2), .val (.int p3), .val (.int p4), .val (.int p5), .val (.ref b1), .val (.ref b5), .val (.ref b6), .val (.int (2 : Int32)), .val (.int (0 : Int32)), .val (.ref b17), .unset, .unset, .unset] [])) rfl (hb hby at_132) (by decide) (by decide)
      obtain ⟨b21, g21⟩ : ∃ z, z = h20.size := ⟨_, rfl⟩
      rw [← g21] at A21 D21 U21 st21
      have ne_d0_b21 : d0 ≠ b21 := Nat.ne_of_lt (Nat.lt_of_lt_of_le V_d0.lt (Nat.le_of_eq g21.symm))
      have ne_b1_b21 : b1 ≠ b21 := Nat.ne_of_lt (Nat.lt_of_lt_of_le E_b1.lt (Nat.le_of_eq g21.symm))
      have ne_b5_b21 : b5 ≠ b21 := Nat.ne_of_lt (Nat.lt_of_lt_of_le E5.lt (Nat.le_of_eq g21.symm))
      have ne_b6_b21 : b6 ≠ b21 := Nat.ne_of_lt (Nat.lt_of_lt_of_le E_b6.lt (Nat.le_of_eq g21.symm))
      have ne_b17_b21 : b17 ≠ b21 := Nat.ne_of_lt (Nat.lt_of_lt_of_le E_b17.lt (Nat.le_of_eq g21.symm))
      have ne_e1_19_b21 : e1_19 ≠ b21 := Nat.ne_of_lt (Nat.lt_of_lt_of_le Vn20.lt (Nat.le_of_eq g21.symm))
      have g_b21 : n0 ≤ b21 := Nat.le_trans Z0 (Nat.le_of_eq g21.symm)
      replace Z0 := Nat.le_trans Z0 E21.1
      replace O0 := O0.ext E21
      replace V_d0 := V_d0.ext E21
      replace E_b1 := E_b1.ext E21
      replace E5 := E5.ext E21
      replace E_b6 := E_b6.ext E21
      replace E_b17 := E_b17.ext E21
      replace Vn20 := Vn20.ext E21
      replace G20_modCount := G20_modCount.ext E21
      replace G20_elementData := G20_elementData.ext E21
      replace G20_size := G20_size.ext E21
      have E_b21 := A21
      have F_b21_line : Fld Z h21 b21 "com/example/yusenkabu/yusenkabu/CsvFile$Row" "line" "I" (.int (0 : Int32)) := D21 (Or.inr (hw _ (List.mem_of_getElem? (i := 113) rfl))) (ty := .int) (by decide)
      have F_b21_fields : Fld Z h21 b21 "com/example/yusenkabu/yusenkabu/CsvFile$Row" "fields" "Ljava/util/List;" .null := D21 (Or.inr (hw _ (List.mem_of_getElem? (i := 115) rfl))) (ty := (.object "java/util/List")) (by decide)
      refine Go.st (T' := T21) (pc' := 135) (L' := #[.val (.int p1), .val (.int p2), .val (.int p3), .val (.int p4), .val (.int p5), .val (.ref b1), .val (.ref b5), .val (.ref b6), .val (.int (2 : Int32)), .val (.int (0 : Int32)), .val (.ref b17), .unset, .unset, .unset]) (S' := [(.ref b21)]) st21 ?_
      refine Go.st (T' := T21) (pc' := 136) (L' := #[.val (.int p1), .val (.int p2), .val (.int p3), .val (.int p4), .val (.int p5), .val (.ref b1), .val (.ref b5), .val (.ref b6), .val (.int (2 : Int32)), .val (.int (0 : Int32)), .val (.ref b17), .unset, .unset, .unset]) (S' := [(.ref b21), (.ref b21)]) (fun t k => XS.dup X21.here hx rfl (hb hby at_135) rfl rfl k) ?_
      refine Go.st (T' := T21) (pc' := 137) (L' := #[.val (.int p1), .val (.int p2), .val (.int p3), .val (.int p4), .val (.int p5), .val (.ref b1), .val (.ref b5), .val (.ref b6), .val (.int (2 : Int32)), .val (.int (0 : Int32)), .val (.ref b17), .unset, .unset, .unset]) (S' := [(.int p1), (.ref b21), (.ref b21)]) (fun t k => XS.iloadN X21.here hx rfl (hb hby at_136) rfl  k) ?_
      refine Go.st (T' := T21) (pc' := 139) (L' := #[.val (.int p1), .val (.int p2), .val (.int p3), .val (.int p4), .val (.int p5), .val (.ref b1), .val (.ref b5), .val (.ref b6), .val (.int (2 : Int32)), .val (.int (0 : Int32)), .val (.ref b17), .unset, .unset, .unset]) (S' := [(.ref b17), (.int p1), (.ref b21), (.ref b21)]) (fun t k => XS.aload X21.here hx rfl (hb hby at_137) rfl rfl  k) ?_
      obtain ⟨_, _, ⟨T22, L22, k22, n22⟩, -, X22, ⟨Lc22, hQ22, l22, y22, z22⟩, st22⟩ := X21.specialBack hx (y := (⟨"com/example/yusenkabu/yusenkabu/CsvFile$Row", "<init>", "(ILjava/util/List;)V"⟩ : MethodName)) rfl hown (mvT hZ (hw _ (List.mem_of_getElem? (i := 103) rfl))) (mvT hZ (hw _ (List.mem_of_getElem? (i := 104) rfl))) (mvT hZ (hw _ (List.mem_of_getElem? (i := 105) rfl))) (by decide) (backOf (W := 1) (rm19 l Z a0 hw [] b21 p1 b17 h21 n0 Z0 E_b21 g_b21 F_b21_line F_b21_fields) hZ (hw _ (List.mem_of_getElem? (i := 105) rfl)) (hw _ (List.mem_of_getElem? (i := 102) rfl)) (by decide) (by decide)) (g := (mkF m 139 #[.val (.int p1), .val (.int p2), .val (.int p3), .val (.int p4), .val (.int p5), .val (.ref b1), .val (.ref b5), .val (.ref b6), .val (.int (2 : Int32)), .val (.int (0 : Int32)), .val (.ref b17), .unset, .unset, .unset] [(.ref b17), (.int p1), (.ref b21), (.ref b21)])) rfl (by rw [hml]; rfl) (Steps.refl _) (a := b21) (argsL := [(.int p1), (.ref b17)]) (rest := [(.ref b21)]) (lenOf pd_13 rfl) rfl (by show 2 * 0 + _ ≤ _; exact Nat.le_of_eq rfl) (hb hby at_139) (fun _ _ => ⟨rfl, e21, (by decide : 11 + 0 ≤ _), (by decide : 34 + 0 ≤ _)⟩)
      dsimp only [Pt.U, Pt.locs, Pt.cells, Pt.slots] at X22 l22 y22 z22 st22 hQ22
      subst l22 y22 z22
      obtain ⟨rfl, N22q, K22, G22_line, G22_fields⟩ := hQ22
      have N22 := Fr.app N20 N22q
      obtain ⟨h22, e22⟩ : ∃ z, T22.heap = z := ⟨_, rfl⟩
      rw [e22] at K22 G22_line G22_fields
      replace Z0 := Nat.le_trans Z0 K22.1
      replace O0 := O0.keep K22 (allS g_b21 all0)
      replace V_d0 := V_d0.keep K22 (ninS ne_d0_b21 nin0)
      replace E_b1 := E_b1.keep K22
      replace E5 := E5.keep K22
      replace E_b6 := E_b6.keep K22
      replace E_b17 := E_b17.keep K22
      replace Vn20 := Vn20.keep K22 (ninS ne_e1_19_b21 nin0)
      replace G20_modCount := G20_modCount.keep K22 (ninS ne_b17_b21 nin0)
      replace G20_elementData := G20_elementData.keep K22 (ninS ne_b17_b21 nin0)
      replace G20_size := G20_size.keep K22 (ninS ne_b17_b21 nin0)
      replace E_b21 := E_b21.keep K22
      refine Go.tr (T' := T22) (pc' := 142) (L' := #[.val (.int p1), .val (.int p2), .val (.int p3), .val (.int p4), .val (.int p5), .val (.ref b1), .val (.ref b5), .val (.ref b6), .val (.int (2 : Int32)), .val (.int (0 : Int32)), .val (.ref b17), .unset, .unset, .unset]) (S' := [(.ref b21)]) st22 ?_
      refine Go.st (T' := T22) (pc' := 144) (L' := #[.val (.int p1), .val (.int p2), .val (.int p3), .val (.int p4), .val (.int p5), .val (.ref b1), .val (.ref b5), .val (.ref b6), .val (.int (2 : Int32)), .val (.int (0 : Int32)), .val (.ref b17), .val (.ref b21), .unset, .unset]) (S' := []) (fun t k => XS.astore X22.here hx rfl (hb hby at_142) rfl rfl (l' := #[.val (.int p1), .val (.int p2), .val (.int p3), .val (.int p4), .val (.int p5), .val (.ref b1), .val (.ref b5), .val (.ref b6), .val (.int (2 : Int32)), .val (.int (0 : Int32)), .val (.ref b17), .val (.ref b21), .unset, .unset]) rfl k) ?_
      refine Go.st (T' := T22) (pc' := 146) (L' := #[.val (.int p1), .val (.int p2), .val (.int p3), .val (.int p4), .val (.int p5), .val (.ref b1), .val (.ref b5), .val (.ref b6), .val (.int (2 : Int32)), .val (.int (0 : Int32)), .val (.ref b17), .val (.ref b21), .unset, .unset]) (S' := [(.ref b21)]) (fun t k => XS.aload X22.here hx rfl (hb hby at_144) rfl rfl  k) ?_
      refine Go.st (T' := T22) (pc' := 148) (L' := #[.val (.int p1), .val (.int p2), .val (.int p3), .val (.int p4), .val (.int p5), .val (.ref b1), .val (.ref b5), .val (.ref b6), .val (.int (2 : Int32)), .val (.int (0 : Int32)), .val (.ref b17), .val (.ref b21), .unset, .unset]) (S' := [(.int (0 : Int32)), (.ref b21)]) (fun t k => XS.iload X22.here hx rfl (hb hby at_146) rfl  k) ?_
      obtain ⟨cq23, kq23, q23a, q23b, q23c⟩ := isOf hZ e22 E_b21
      obtain ⟨_, _, ⟨T23, L23, k23, n23⟩, -, X23, ⟨Lc23, hQ23, l23, y23, z23⟩, st23⟩ := X22.virtualBack hx (y := (⟨"com/example/yusenkabu/yusenkabu/CsvFile$Row", "field", "(I)Ljava/lang/String;"⟩ : MethodName)) (z := (⟨"com/example/yusenkabu/yusenkabu/CsvFile$Row", "field", "(I)Ljava/lang/String;"⟩ : MethodName)) hown (mvT hZ (hw _ (List.mem_of_getElem? (i := 116) rfl))) (mvT hZ (hw _ (List.mem_of_getElem? (i := 117) rfl))) (notFace_of_selects (args := #[]) (mvT hZ (hw _ (List.mem_of_getElem? (i := 119) rfl)))) (mvT hZ (hw _ (List.mem_of_getElem? (i := 119) rfl))) (mvT hZ (hw _ (List.mem_of_getElem? (i := 118) rfl))) (by decide) (backOf (W := 0) (rm21 l Z a0 hw [] b21 b17 e1_19 _ _ 0 2 b1 h22 n0 Z0 G22_fields E_b1 E_b17 G20_elementData G20_size Vn20 (by decide) (by decide) rfl) hZ (hw _ (List.mem_of_getElem? (i := 120) rfl)) (hw _ (List.mem_of_getElem? (i := 102) rfl)) (by decide) (by decide)) q23a q23c (g := (mkF m 148 #[.val (.int p1), .val (.int p2), .val (.int p3), .val (.int p4), .val (.int p5), .val (.ref b1), .val (.ref b5), .val (.ref b6), .val (.int (2 : Int32)), .val (.int (0 : Int32)), .val (.ref b17), .val (.ref b21), .unset, .unset] [(.int (0 : Int32)), (.ref b21)])) rfl (by rw [hml]; rfl) (Steps.refl _) (argsL := [(.int (0 : Int32))]) (rest := []) (lenOf pd_14 rfl) rfl (by show 2 * 0 + _ ≤ _; exact Nat.le_of_eq rfl) (hb hby at_148) (fun _ _ => ⟨rfl, e22, (by decide : 11 + 0 ≤ _), (by decide : 34 + 0 ≤ _)⟩)
      dsimp only [Pt.U, Pt.locs, Pt.cells, Pt.slots] at X23 l23 y23 z23 st23 hQ23
      subst l23 y23 z23
      obtain ⟨rfl, N23q, e23⟩ := hQ23
      have N23 := Fr.app N22 N23q
      refine Go.tr (T' := T23) (pc' := 151) (L' := #[.val (.int p1), .val (.int p2), .val (.int p3), .val (.int p4), .val (.int p5), .val (.ref b1), .val (.ref b5), .val (.ref b6), .val (.int (2 : Int32)), .val (.int (0 : Int32)), .val (.ref b17), .val (.ref b21), .unset, .unset]) (S' := [(.ref b1)]) st23 ?_
      refine Go.st (T' := T23) (pc' := 153) (L' := #[.val (.int p1), .val (.int p2), .val (.int p3), .val (.int p4), .val (.int p5), .val (.ref b1), .val (.ref b5), .val (.ref b6), .val (.int (2 : Int32)), .val (.int (0 : Int32)), .val (.ref b17), .val (.ref b21), .val (.ref b1), .unset]) (S' := []) (fun t k => XS.astore X23.here hx rfl (hb hby at_151) rfl rfl (l' := #[.val (.int p1), .val (.int p2), .val (.int p3), .val (.int p4), .val (.int p5), .val (.ref b1), .val (.ref b5), .val (.ref b6), .val (.int (2 : Int32)), .val (.int (0 : Int32)), .val (.ref b17), .val (.ref b21), .val (.ref b1), .unset]) rfl k) ?_
      refine Go.st (T' := T23) (pc' := 155) (L' := #[.val (.int p1), .val (.int p2), .val (.int p3), .val (.int p4), .val (.int p5), .val (.ref b1), .val (.ref b5), .val (.ref b6), .val (.int (2 : Int32)), .val (.int (0 : Int32)), .val (.ref b17), .val (.ref b21), .val (.ref b1), .unset]) (S' := [(.int (0 : Int32))]) (fun t k => XS.iload X23.here hx rfl (hb hby at_153) rfl  k) ?_
      refine Go.st (T' := T23) (pc' := 158) (L' := #[.val (.int p1), .val (.int p2), .val (.int p3), .val (.int p4), .val (.int p5), .val (.ref b1), .val (.ref b5), .val (.ref b6), .val (.int (2 : Int32)), .val (.int (0 : Int32)), .val (.ref b17), .val (.ref b21), .val (.ref b1), .unset]) (S' := []) (fun t k => XS.ifNo X23.here hx rfl (hb hby at_155) rfl ((if0 _ _).trans (teq (by decide : ((0 : Int32) = (0 : Int32)))).2) k) ?_
      refine Go.st (T' := T23) (pc' := 160) (L' := #[.val (.int p1), .val (.int p2), .val (.int p3), .val (.int p4), .val (.int p5), .val (.ref b1), .val (.ref b5), .val (.ref b6), .val (.int (2 : Int32)), .val (.int (0 : Int32)), .val (.ref b17), .val (.ref b21), .val (.ref b1), .unset]) (S' := [(.ref b1)]) (fun t k => XS.aload X23.here hx rfl (hb hby at_158) rfl rfl  k) ?_
      refine Go.st (T' := T23) (pc' := 162) (L' := #[.val (.int p1), .val (.int p2), .val (.int p3), .val (.int p4), .val (.int p5), .val (.ref b1), .val (.ref b5), .val (.ref b6), .val (.int (2 : Int32)), .val (.int (0 : Int32)), .val (.ref b17), .val (.ref b21), .val (.ref b1), .val (.ref b1)]) (S' := []) (fun t k => XS.astore X23.here hx rfl (hb hby at_160) rfl rfl (l' := #[.val (.int p1), .val (.int p2), .val (.int p3), .val (.int p4), .val (.int p5), .val (.ref b1), .val (.ref b5), .val (.ref b6), .val (.int (2 : Int32)), .val (.int (0 : Int32)), .val (.ref b17), .val (.ref b21), .val (.ref b1), .val (.ref b1)]) rfl k) ?_
      refine Go.st (T' := T23) (pc' := 182) (L' := #[.val (.int p1), .val (.int p2), .val (.int p3), .val (.int p4), .val (.int p5), .val (.ref b1), .val (.ref b5), .val (.ref b6), .val (.int (2 : Int32)), .val (.int (0 : Int32)), .val (.ref b17), .val (.ref b21), .val (.ref b1), .val (.ref b1)]) (S' := []) (fun t k => XS.goto X23.here hx rfl (pc0 := 162) (pc' := 182) rfl (hb hby at_162) (by decide) (by decide) k) ?_
      refine Go.st (T' := T23) (pc' := 184) (L' := #[.val (.int p1), .val (.int p2), .val (.int p3), .val (.int p4), .val (.int p5), .val (.ref b1), .val (.ref b5), .val (.ref b6), .val (.int (2 : Int32)), .val (.int (0 : Int32)), .val (.ref b17), .val (.ref b21), .val (.ref b1), .val (.ref b1)]) (S' := [(.ref b1)]) (fun t k => XS.aload X23.here hx rfl (hb hby at_182) rfl rfl  k) ?_
      refine Go.st (T' := T23) (pc' := 186) (L' := #[.val (.int p1), .val (.int p2), .val (.int p3), .val (.int p4), .val (.int p5), .val (.ref b1), .val (.ref b5), .val (.ref b6), .val (.int (2 : Int32)), .val (.int (0 : Int32)), .val (.ref b17), .val (.ref b21), .val (.ref b1), .val (.ref b1)]) (S' := [(.ref b1), (.ref b1)]) (fun t k => XS.aload X23.here hx rfl (hb hby at_184) rfl rfl  k) ?_
      refine Go.st (T' := T23) (pc' := 189) (L' := #[.val (.int p1), .val (.int p2), .val (.int p3), .val (.int p4), .val (.int p5), .val (.ref b1), .val (.ref b5), .val (.ref b6), .val (.int (2 : Int32)), .val (.int (0 : Int32)), .val (.ref b17), .val (.ref b21), .val (.ref b1), .val (.ref b1)]) (S' := []) (fun t k => Jvm.RoadKit.acmp (g := (mkF m 186 #[.val (.int p1), .val (.int p2), .val (.int p3), .val (.int p4), .val (.int p5), .val (.ref b1), .val (.ref b5), .val (.ref b6), .val (.int (2 : Int32)), .val (.int (0 : Int32)), .val (.ref b17), .val (.ref b21), .val (.ref b1), .val (.ref b1)] [(.ref b1), (.ref b1)])) X23 hx rfl rfl rfl (pc0 := 186) (pc' := 189) (same := true) rfl (hb hby at_186) rfl (decide_eq_true rfl) (by decide) (by decide) k) ?_
      refine Go.st (T' := T23) (pc' := 190) (L' := #[.val (.int p1), .val (.int p2), .val (.int p3), .val (.int p4), .val (.int p5), .val (.ref b1), .val (.ref b5), .val (.ref b6), .val (.int (2 : Int32)), .val (.int (0 : Int32)), .val (.ref b17), .val (.ref b21), .val (.ref b1), .val (.ref b1)]) (S' := [(.int (1 : Int32))]) (fun t k => XS.iconst X23.here hx rfl (hb hby at_189) k) ?_
      refine Go.st (T' := T23) (pc' := 194) (L' := #[.val (.int p1), .val (.int p2), .val (.int p3), .val (.int p4), .val (.int p5), .val (.ref b1), .val (.ref b5), .val (.ref b6), .val (.int (2 : Int32)), .val (.int (0 : Int32)), .val (.ref b17), .val (.ref b21), .val (.ref b1), .val (.ref b1)]) (S' := [(.int (1 : Int32))]) (fun t k => XS.goto X23.here hx rfl (pc0 := 190) (pc' := 194) rfl (hb hby at_190) (by decide) (by decide) k) ?_
      exact Go.retN X23 hx hlk hret (by simp) (hb hby at_194) (by decide) (by decide) (by rw [e23]; exact ⟨rfl, N23⟩)
    · rw [hr3]
      refine Go.st (T' := T10) (pc' := 87) (L' := #[.val (.int p1), .val (.int p2), .val (.int p3), .val (.int p4), .val (.int p5), .val (.ref b1), .val (.ref b5), .val (.ref b6), .val (.int (2 : Int32)), .val (.int (1 : Int32)), .unset, .unset, .unset, .unset]) (S' := []) (fun t k => XS.istore X10.here hx rfl (hb hby at_85) rfl (l' := #[.val (.int p1), .val (.int p2), .val (.int p3), .val (.int p4), .val (.int p5), .val (.ref b1), .val (.ref b5), .val (.ref b6), .val (.int (2 : Int32)), .val (.int (1 : Int32)), .unset, .unset, .unset, .unset]) rfl k) ?_
      obtain ⟨T24, h24, X24, e24, E24, A24, D24, U24, st24⟩ := newO X10 hx hZ hown (hw _ (List.mem_of_getElem? (i := 45) rfl)) (hw _ (List.mem_of_getElem? (i := 46) rfl)) (hw _ (List.mem_of_getElem? (i := 47) rfl)) e10 (g := (mkF m 87 #[.val (.int p1), .val (.int p2), .val (.int p3), .val (.int p4), .val (.int p5), .val (.ref b1), .val (.ref b5), .val (.ref b6), .val (.int (2 : Int32)), .val (.int (1 : Int32)), .unset, .unset, .unset, .unset] [])) rfl (hb hby at_87) (by decide) (by decide)
      obtain ⟨b24, g24⟩ : ∃ z, z = h10.size := ⟨_, rfl⟩
      rw [← g24] at A24 D24 U24 st24
      have ne_d0_b24 : d0 ≠ b24 := Nat.ne_of_lt (Nat.lt_of_lt_of_le V_d0.lt (Nat.le_of_eq g24.symm))
      have ne_b1_b24 : b1 ≠ b24 := Nat.ne_of_lt (Nat.lt_of_lt_of_le E_b1.lt (Nat.le_of_eq g24.symm))
      have ne_b5_b24 : b5 ≠ b24 := Nat.ne_of_lt (Nat.lt_of_lt_of_le E5.lt (Nat.le_of_eq g24.symm))
      have ne_b6_b24 : b6 ≠ b24 := Nat.ne_of_lt (Nat.lt_of_lt_of_le E_b6.lt (Nat.le_of_eq g24.symm))
      have g_b24 : n0 ≤ b24 := Nat.le_trans Z0 (Nat.le_of_eq g24.symm)
      replace Z0 := Nat.le_trans Z0 E24.1
      replace O0 := O0.ext E24
      replace V_d0 := V_d0.ext E24
      replace E_b1 := E_b1.ext E24
      replace E5 := E5.ext E24
      replace E_b6 := E_b6.ext E24
      have E_b24 := A24
      have F_b24_modCount : Fld Z h24 b24 "java/util/AbstractList" "modCount" "I" (.int (0 : Int32)) := D24 (Or.inl (hw _ (List.mem_of_getElem? (i := 65) rfl))) (ty := .int) (by decide)
      have F_b24_elementData : Fld Z h24 b24 "java/util/ArrayList" "elementData" "[Ljava/lang/Object;" .null := D24 (Or.inl (hw _ (List.mem_of_getElem? (i := 68) rfl))) (ty := (.array (.object "java/lang/Object"))) (by decide)
      have F_b24_size : Fld Z h24 b24 "java/util/ArrayList" "size" "I" (.int (0 : Int32)) := D24 (Or.inl (hw _ (List.mem_of_getElem? (i := 77) rfl))) (ty := .int) (by decide)
      refine Go.st (T' := T24) (pc' := 90) (L' := #[.val (.int p1), .val (.int p2), .val (.int p3), .val (.int p4), .val (.int p5), .val (.ref b1), .val (.ref b5), .val (.ref b6), .val (.int (2 : Int32)), .val (.int (1 : Int32)), .unset, .unset, .unset, .unset]) (S' := [(.ref b24)]) st24 ?_
      refine Go.st (T' := T24) (pc' := 91) (L' := #[.val (.int p1), .val (.int p2), .val (.int p3), .val (.int p4), .val (.int p5), .val (.ref b1), .val (.ref b5), .val (.ref b6), .val (.int (2 : Int32)), .val (.int (1 : Int32)), .unset, .unset, .unset, .unset]) (S' := [(.ref b24), (.ref b24)]) (fun t k => XS.dup X24.here hx rfl (hb hby at_90) rfl rfl k) ?_
      obtain ⟨_, _, ⟨T25, L25, k25, n25⟩, -, X25, ⟨Lc25, hQ25, l25, y25, z25⟩, st25⟩ := X24.specialBack hx (y := (⟨"java/util/ArrayList", "<init>", "()V"⟩ : MethodName)) rfl hown (mvT hZ (hw _ (List.mem_of_getElem? (i := 48) rfl))) (mvT hZ (hw _ (List.mem_of_getElem? (i := 49) rfl))) (mvT hZ (hw _ (List.mem_of_getElem? (i := 50) rfl))) (by decide) (backOf (W := 1) (rm11 l Z a0 hw [] b24 d0 h24 n0 Z0 SD O0 E_b24 g_b24 F_b24_modCount F_b24_elementData F_b24_size) hZ (hw _ (List.mem_of_getElem? (i := 50) rfl)) (hw _ (List.mem_of_getElem? (i := 47) rfl)) (by decide) (by decide)) (g := (mkF m 91 #[.val (.int p1), .val (.int p2), .val (.int p3), .val (.int p4), .val (.int p5), .val (.ref b1), .val (.ref b5), .val (.ref b6), .val (.int (2 : Int32)), .val (.int (1 : Int32)), .unset, .unset, .unset, .unset] [(.ref b24), (.ref b24)])) rfl (by rw [hml]; rfl) (Steps.refl _) (a := b24) (argsL := []) (rest := [(.ref b24)]) (lenOf pd_3 rfl) rfl (by show 2 * 0 + _ ≤ _; exact Nat.le_of_eq rfl) (hb hby at_91) (fun _ _ => ⟨rfl, e24, (by decide : 9 + 0 ≤ _), (by decide : 22 + 0 ≤ _)⟩)
      dsimp only [Pt.U, Pt.locs, Pt.cells, Pt.slots] at X25 l25 y25 z25 st25 hQ25
      subst l25 y25 z25
      obtain ⟨rfl, N25q, K25, G25_modCount, G25_elementData, G25_size⟩ := hQ25
      have N25 := Fr.app N10 N25q
      obtain ⟨h25, e25⟩ : ∃ z, T25.heap = z := ⟨_, rfl⟩
      rw [e25] at K25 G25_modCount G25_elementData G25_size
      replace Z0 := Nat.le_trans Z0 K25.1
      replace O0 := O0.keep K25 (allS g_b24 all0)
      replace V_d0 := V_d0.keep K25 (ninS ne_d0_b24 nin0)
      replace E_b1 := E_b1.keep K25
      replace E5 := E5.keep K25
      replace E_b6 := E_b6.keep K25
      replace E_b24 := E_b24.keep K25
      refine Go.tr (T' := T25) (pc' := 94) (L' := #[.val (.int p1), .val (.int p2), .val (.int p3), .val (.int p4), .val (.int p5), .val (.ref b1), .val (.ref b5), .val (.ref b6), .val (.int (2 : Int32)), .val (.int (1 : Int32)), .unset, .unset, .unset, .unset]) (S' := [(.ref b24)]) st25 ?_
      refine Go.st (T' := T25) (pc' := 96) (L' := #[.val (.int p1), .val (.int p2), .val (.int p3), .val (.int p4), .val (.int p5), .val (.ref b1), .val (.ref b5), .val (.ref b6), .val (.int (2 : Int32)), .val (.int (1 : Int32)), .val (.ref b24), .unset, .unset, .unset]) (S' := []) (fun t k => XS.astore X25.here hx rfl (hb hby at_94) rfl rfl (l' := #[.val (.int p1), .val (.int p2), .val (.int p3), .val (.int p4), .val (.int p5), .val (.ref b1), .val (.ref b5), .val (.ref b6), .val (.int (2 : Int32)), .val (.int (1 : Int32)), .val (.ref b24), .unset, .unset, .unset]) rfl k) ?_
      refine Go.st (T' := T25) (pc' := 98) (L' := #[.val (.int p1), .val (.int p2), .val (.int p3), .val (.int p4), .val (.int p5), .val (.ref b1), .val (.ref b5), .val (.ref b6), .val (.int (2 : Int32)), .val (.int (1 : Int32)), .val (.ref b24), .unset, .unset, .unset]) (S' := [(.ref b24)]) (fun t k => XS.aload X25.here hx rfl (hb hby at_96) rfl rfl  k) ?_
      refine Go.st (T' := T25) (pc' := 100) (L' := #[.val (.int p1), .val (.int p2), .val (.int p3), .val (.int p4), .val (.int p5), .val (.ref b1), .val (.ref b5), .val (.ref b6), .val (.int (2 : Int32)), .val (.int (1 : Int32)), .val (.ref b24), .unset, .unset, .unset]) (S' := [(.ref b1), (.ref b24)]) (fun t k => XS.aload X25.here hx rfl (hb hby at_98) rfl rfl  k) ?_
      obtain ⟨cq26, kq26, q26a, q26b, q26c⟩ := isOf hZ e25 E_b24
      obtain ⟨_, _, ⟨T26, L26, k26, n26⟩, -, X26, ⟨Lc26, hQ26, l26, y26, z26⟩, st26⟩ := X25.virtualBack hx (y := (⟨"java/util/ArrayList", "add", "(Ljava/lang/Object;)Z"⟩ : MethodName)) (z := (⟨"java/util/ArrayList", "add", "(Ljava/lang/Object;)Z"⟩ : MethodName)) hown (mvT hZ (hw _ (List.mem_of_getElem? (i := 69) rfl))) (mvT hZ (hw _ (List.mem_of_getElem? (i := 70) rfl))) (notFace_of_selects (args := #[]) (mvT hZ (hw _ (List.mem_of_getElem? (i := 72) rfl)))) (mvT hZ (hw _ (List.mem_of_getElem? (i := 72) rfl))) (mvT hZ (hw _ (List.mem_of_getElem? (i := 71) rfl))) (by decide) (backOf (W := 0) (rm14a l Z a0 hw [] b24 d0 (0 : Int32) _ b1 h25 n0 Z0 SD O0 E_b24 g_b24 (Ne.symm ne_d0_b24) G25_modCount G25_elementData G25_size V_d0 E_b1 (Ne.symm ne_b1_b24)) hZ (hw _ (List.mem_of_getElem? (i := 73) rfl)) (hw _ (List.mem_of_getElem? (i := 47) rfl)) (by decide) (by decide)) q26a q26c (g := (mkF m 100 #[.val (.int p1), .val (.int p2), .val (.int p3), .val (.int p4), .val (.int p5), .val (.ref b1), .val (.ref b5), .val (.ref b6), .val (.int (2 : Int32)), .val (.int (1 : Int32)), .val (.ref b24), .unset, .unset, .unset] [(.ref b1), (.ref b24)])) rfl (by rw [hml]; rfl) (Steps.refl _) (argsL := [(.ref b1)]) (rest := []) (lenOf pd_12 rfl) rfl (by show 2 * 0 + _ ≤ _; exact Nat.le_of_eq rfl) (hb hby at_100) (fun _ _ => ⟨rfl, e25, (by decide : 9 + 1 ≤ _), (by decide : 22 + 10 ≤ _)⟩)
      dsimp only [Pt.U, Pt.locs, Pt.cells, Pt.slots] at X26 l26 y26 z26 st26 hQ26
      subst l26 y26 z26
      obtain ⟨e1_26, ka26, rfl, N26q, K26, g_e1_26, lt26, G26_modCount, G26_elementData, G26_size, Ov26, V_e1_26⟩ := hQ26
      have N26 := Fr.app N25 N26q
      have ne_d0_e1_26 : d0 ≠ e1_26 := Nat.ne_of_lt (Nat.lt_of_lt_of_le V_d0.lt lt26)
      have ne_b1_e1_26 : b1 ≠ e1_26 := Nat.ne_of_lt (Nat.lt_of_lt_of_le E_b1.lt lt26)
      have ne_b5_e1_26 : b5 ≠ e1_26 := Nat.ne_of_lt (Nat.lt_of_lt_of_le E5.lt lt26)
      have ne_b6_e1_26 : b6 ≠ e1_26 := Nat.ne_of_lt (Nat.lt_of_lt_of_le E_b6.lt lt26)
      have ne_b24_e1_26 : b24 ≠ e1_26 := Nat.ne_of_lt (Nat.lt_of_lt_of_le E_b24.lt lt26)
      obtain ⟨h26, e26⟩ : ∃ z, T26.heap = z := ⟨_, rfl⟩
      rw [e26] at K26 G26_modCount G26_elementData G26_size V_e1_26
      replace Z0 := Nat.le_trans Z0 K26.1
      replace O0 := O0.keep K26 (allS g_b24 all0)
      replace V_d0 := V_d0.keep K26 (ninS ne_d0_b24 nin0)
      replace E_b1 := E_b1.keep K26
      replace E5 := E5.keep K26
      replace E_b6 := E_b6.keep K26
      replace E_b24 := E_b24.keep K26
      refine Go.tr (T' := T26) (pc' := 103) (L' := #[.val (.int p1), .val (.int p2), .val (.int p3), .val (.int p4), .val (.int p5), .val (.ref b1), .val (.ref b5), .val (.ref b6), .val (.int (2 : Int32)), .val (.int (1 : Int32)), .val (.ref b24), .unset, .unset, .unset]) (S' := [(.int (1 : Int32))]) st26 ?_
      refine Go.st (T' := T26) (pc' := 104) (L' := #[.val (.int p1), .val (.int p2), .val (.int p3), .val (.int p4), .val (.int p5), .val (.ref b1), .val (.ref b5), .val (.ref b6), .val (.int (2 : Int32)), .val (.int (1 : Int32)), .val (.ref b24), .unset, .unset, .unset]) (S' := []) (fun t k => XS.pop X26.here hx rfl (hb hby at_103) rfl rfl k) ?_
      refine Go.st (T' := T26) (pc' := 106) (L' := #[.val (.int p1), .val (.int p2), .val (.int p3), .val (.int p4), .val (.int p5), .val (.ref b1), .val (.ref b5), .val (.ref b6), .val (.int (2 : Int32)), .val (.int (1 : Int32)), .val (.ref b24), .unset, .unset, .unset]) (S' := [(.int (2 : Int32))]) (fun t k => XS.iload X26.here hx rfl (hb hby at_104) rfl  k) ?_
      refine Go.st (T' := T26) (pc' := 107) (L' := #[.val (.int p1), .val (.int p2), .val (.int p3), .val (.int p4), .val (.int p5), .val (.ref b1), .val (.ref b5), .val (.ref b6), .val (.int (2 : Int32)), .val (.int (1 : Int32)), .val (.ref b24), .unset, .unset, .unset]) (S' := [(.int (2 : Int32)), (.int (2 : Int32))]) (fun t k => XS.iconst X26.here hx rfl (hb hby at_106) k) ?_
      refine Go.st (T' := T26) (pc' := 110) (L' := #[.val (.int p1), .val (.int p2), .val (.int p3), .val (.int p4), .val (.int p5), .val (.ref b1), .val (.ref b5), .val (.ref b6), .val (.int (2 : Int32)), .val (.int (1 : Int32)), .val (.ref b24), .unset, .unset, .unset]) (S' := []) (fun t k => XS.icmpNo X26.here hx rfl (hb hby at_107) rfl (flt (by decide : ¬ ((2 : Int32) < (2 : Int32)))).1 k) ?_
      refine Go.st (T' := T26) (pc' := 112) (L' := #[.val (.int p1), .val (.int p2), .val (.int p3), .val (.int p4), .val (.int p5), .val (.ref b1), .val (.ref b5), .val (.ref b6), .val (.int (2 : Int32)), .val (.int (1 : Int32)), .val (.ref b24), .unset, .unset, .unset]) (S' := [(.ref b24)]) (fun t k => XS.aload X26.here hx rfl (hb hby at_110) rfl rfl  k) ?_
      refine Go.st (T' := T26) (pc' := 114) (L' := #[.val (.int p1), .val (.int p2), .val (.int p3), .val (.int p4), .val (.int p5), .val (.ref b1), .val (.ref b5), .val (.ref b6), .val (.int (2 : Int32)), .val (.int (1 : Int32)), .val (.ref b24), .unset, .unset, .unset]) (S' := [(.ref b5), (.ref b24)]) (fun t k => XS.aload X26.here hx rfl (hb hby at_112) rfl rfl  k) ?_
      obtain ⟨cq27, kq27, q27a, q27b, q27c⟩ := isOf hZ e26 E_b24
      obtain ⟨_, _, ⟨T27, L27, k27, n27⟩, -, X27, ⟨Lc27, hQ27, l27, y27, z27⟩, st27⟩ := X26.virtualBack hx (y := (⟨"java/util/ArrayList", "add", "(Ljava/lang/Object;)Z"⟩ : MethodName)) (z := (⟨"java/util/ArrayList", "add", "(Ljava/lang/Object;)Z"⟩ : MethodName)) hown (mvT hZ (hw _ (List.mem_of_getElem? (i := 69) rfl))) (mvT hZ (hw _ (List.mem_of_getElem? (i := 70) rfl))) (notFace_of_selects (args := #[]) (mvT hZ (hw _ (List.mem_of_getElem? (i := 72) rfl)))) (mvT hZ (hw _ (List.mem_of_getElem? (i := 72) rfl))) (mvT hZ (hw _ (List.mem_of_getElem? (i := 71) rfl))) (by decide) (backOf (W := 0) (rm14b l Z a0 hw [] b24 e1_26 ((0 : Int32) + (1 : Int32)) _ 1 [(.ref b1), .null, .null] b5 h26 n0 Z0 E_b24 g_b24 g_e1_26 ne_b24_e1_26 Ov26 G26_modCount G26_elementData G26_size V_e1_26 rfl (by decide) E5 (Ne.symm ne_b5_b24)) hZ (hw _ (List.mem_of_getElem? (i := 73) rfl)) (hw _ (List.mem_of_getElem? (i := 47) rfl)) (by decide) (by decide)) q27a q27c (g := (mkF m 114 #[.val (.int p1), .val (.int p2), .val (.int p3), .val (.int p4), .val (.int p5), .val (.ref b1), .val (.ref b5), .val (.ref b6), .val (.int (2 : Int32)), .val (.int (1 : Int32)), .val (.ref b24), .unset, .unset, .unset] [(.ref b5), (.ref b24)])) rfl (by rw [hml]; rfl) (Steps.refl _) (argsL := [(.ref b5)]) (rest := []) (lenOf pd_12 rfl) rfl (by show 2 * 0 + _ ≤ _; exact Nat.le_of_eq rfl) (hb hby at_114) (fun _ _ => ⟨rfl, e26, (by decide : 10 + 0 ≤ _), (by decide : 32 + 0 ≤ _)⟩)
      dsimp only [Pt.U, Pt.locs, Pt.cells, Pt.slots] at X27 l27 y27 z27 st27 hQ27
      subst l27 y27 z27
      obtain ⟨rfl, N27q, K27, G27_modCount, G27_elementData, G27_size, Vn27⟩ := hQ27
      have N27 := Fr.app N26 N27q
      obtain ⟨h27, e27⟩ : ∃ z, T27.heap = z := ⟨_, rfl⟩
      rw [e27] at K27 G27_modCount G27_elementData G27_size Vn27
      replace Z0 := Nat.le_trans Z0 K27.1
      replace O0 := O0.keep K27 (allS g_b24 (allS g_e1_26 all0))
      replace V_d0 := V_d0.keep K27 (ninS ne_d0_b24 (ninS ne_d0_e1_26 nin0))
      replace E_b1 := E_b1.keep K27
      replace E5 := E5.keep K27
      replace E_b6 := E_b6.keep K27
      replace E_b24 := E_b24.keep K27
      have Vn27 : Arv Z h27 e1_26 ka26 (.object "java/lang/Object") (10 : Int32) [(.ref b1), (.ref b5), .null] .null := Vn27
      refine Go.tr (T' := T27) (pc' := 117) (L' := #[.val (.int p1), .val (.int p2), .val (.int p3), .val (.int p4), .val (.int p5), .val (.ref b1), .val (.ref b5), .val (.ref b6), .val (.int (2 : Int32)), .val (.int (1 : Int32)), .val (.ref b24), .unset, .unset, .unset]) (S' := [(.int (1 : Int32))]) st27 ?_
      refine Go.st (T' := T27) (pc' := 118) (L' := #[.val (.int p1), .val (.int p2), .val (.int p3), .val (.int p4), .val (.int p5), .val (.ref b1), .val (.ref b5), .val (.ref b6), .val (.int (2 : Int32)), .val (.int (1 : Int32)), .val (.ref b24), .unset, .unset, .unset]) (S' := []) (fun t k => XS.pop X27.here hx rfl (hb hby at_117) rfl rfl k) ?_
      refine Go.st (T' := T27) (pc' := 120) (L' := #[.val (.int p1), .val (.int p2), .val (.int p3), .val (.int p4), .val (.int p5), .val (.ref b1), .val (.ref b5), .val (.ref b6), .val (.int (2 : Int32)), .val (.int (1 : Int32)), .val (.ref b24), .unset, .unset, .unset]) (S' := [(.int (2 : Int32))]) (fun t k => XS.iload X27.here hx rfl (hb hby at_118) rfl  k) ?_
      refine Go.st (T' := T27) (pc' := 121) (L' := #[.val (.int p1), .val (.int p2), .val (.int p3), .val (.int p4), .val (.int p5), .val (.ref b1), .val (.ref b5), .val (.ref b6), .val (.int (2 : Int32)), .val (.int (1 : Int32)), .val (.ref b24), .unset, .unset, .unset]) (S' := [(.int (3 : Int32)), (.int (2 : Int32))]) (fun t k => XS.iconst X27.here hx rfl (hb hby at_120) k) ?_
      refine Go.st (T' := T27) (pc' := 132) (L' := #[.val (.int p1), .val (.int p2), .val (.int p3), .val (.int p4), .val (.int p5), .val (.ref b1), .val (.ref b5), .val (.ref b6), .val (.int (2 : Int32)), .val (.int (1 : Int32)), .val (.ref b24), .unset, .unset, .unset]) (S' := []) (fun t k => XS.icmpYes X27.here hx rfl (pc0 := 121) (pc' := 132) rfl (hb hby at_121) rfl (tlt (by decide : ((2 : Int32) < (3 : Int32)))).1 (by decide) (by decide) k) ?_
      obtain ⟨T28, h28, X28, e28, E28, A28, D28, U28, st28⟩ := newO X27 hx hZ hown (hw _ (List.mem_of_getElem? (i := 100) rfl)) (hw _ (List.mem_of_getElem? (i := 101) rfl)) (hw _ (List.mem_of_getElem? (i := 102) rfl)) e27 (g := (mkF m 132 #[.val (.int p1), .val (.int p2), .val (.int p3), .val (.int p4), .val (.int p5), .val (.ref b1), .val (.ref b5), .val (.ref b6), .val (.int (2 : Int32)), .val (.int (1 : Int32)), .val (.ref b24), .unset, .unset, .unset] [])) rfl (hb hby at_132) (by decide) (by decide)
      obtain ⟨b28, g28⟩ : ∃ z, z = h27.size := ⟨_, rfl⟩
      rw [← g28] at A28 D28 U28 st28
      have ne_d0_b28 : d0 ≠ b28 := Nat.ne_of_lt (Nat.lt_of_lt_of_le V_d0.lt (Nat.le_of_eq g28.symm))
      have ne_b1_b28 : b1 ≠ b28 := Nat.ne_of_lt (Nat.lt_of_lt_of_le E_b1.lt (Nat.le_of_eq g28.symm))
      have ne_b5_b28 : b5 ≠ b28 := Nat.ne_of_lt (Nat.lt_of_lt_of_le E5.lt (Nat.le_of_eq g28.symm))
      have ne_b6_b28 : b6 ≠ b28 := Nat.ne_of_lt (Nat.lt_of_lt_of_le E_b6.lt (Nat.le_of_eq g28.symm))
      have ne_b24_b28 : b24 ≠ b28 := Nat.ne_of_lt (Nat.lt_of_lt_of_le E_b24.lt (Nat.le_of_eq g28.symm))
      have ne_e1_26_b28 : e1_26 ≠ b28 := Nat.ne_of_lt (Nat.lt_of_lt_of_le Vn27.lt (Nat.le_of_eq g28.symm))
      have g_b28 : n0 ≤ b28 := Nat.le_trans Z0 (Nat.le_of_eq g28.symm)
      replace Z0 := Nat.le_trans Z0 E28.1
      replace O0 := O0.ext E28
      replace V_d0 := V_d0.ext E28
      replace E_b1 := E_b1.ext E28
      replace E5 := E5.ext E28
      replace E_b6 := E_b6.ext E28
      replace E_b24 := E_b24.ext E28
      replace Vn27 := Vn27.ext E28
      replace G27_modCount := G27_modCount.ext E28
      replace G27_elementData := G27_elementData.ext E28
      replace G27_size := G27_size.ext E28
      have E_b28 := A28
      have F_b28_line : Fld Z h28 b28 "com/example/yusenkabu/yusenkabu/CsvFile$Row" "line" "I" (.int (0 : Int32)) := D28 (Or.inr (hw _ (List.mem_of_getElem? (i := 113) rfl))) (ty := .int) (by decide)
      have F_b28_fields : Fld Z h28 b28 "com/example/yusenkabu/yusenkabu/CsvFile$Row" "fields" "Ljava/util/List;" .null := D28 (Or.inr (hw _ (List.mem_of_getElem? (i := 115) rfl))) (ty := (.object "java/util/List")) (by decide)
      refine Go.st (T' := T28) (pc' := 135) (L' := #[.val (.int p1), .val (.int p2), .val (.int p3), .val (.int p4), .val (.int p5), .val (.ref b1), .val (.ref b5), .val (.ref b6), .val (.int (2 : Int32)), .val (.int (1 : Int32)), .val (.ref b24), .unset, .unset, .unset]) (S' := [(.ref b28)]) st28 ?_
      refine Go.st (T' := T28) (pc' := 136) (L' := #[.val (.int p1), .val (.int p2), .val (.int p3), .val (.int p4), .val (.int p5), .val (.ref b1), .val (.ref b5), .val (.ref b6), .val (.int (2 : Int32)), .val (.int (1 : Int32)), .val (.ref b24), .unset, .unset, .unset]) (S' := [(.ref b28), (.ref b28)]) (fun t k => XS.dup X28.here hx rfl (hb hby at_135) rfl rfl k) ?_
      refine Go.st (T' := T28) (pc' := 137) (L' := #[.val (.int p1), .val (.int p2), .val (.int p3), .val (.int p4), .val (.int p5), .val (.ref b1), .val (.ref b5), .val (.ref b6), .val (.int (2 : Int32)), .val (.int (1 : Int32)), .val (.ref b24), .unset, .unset, .unset]) (S' := [(.int p1), (.ref b28), (.ref b28)]) (fun t k => XS.iloadN X28.here hx rfl (hb hby at_136) rfl  k) ?_
      refine Go.st (T' := T28) (pc' := 139) (L' := #[.val (.int p1), .val (.int p2), .val (.int p3), .val (.int p4), .val (.int p5), .val (.ref b1), .val (.ref b5), .val (.ref b6), .val (.int (2 : Int32)), .val (.int (1 : Int32)), .val (.ref b24), .unset, .unset, .unset]) (S' := [(.ref b24), (.int p1), (.ref b28), (.ref b28)]) (fun t k => XS.aload X28.here hx rfl (hb hby at_137) rfl rfl  k) ?_
      obtain ⟨_, _, ⟨T29, L29, k29, n29⟩, -, X29, ⟨Lc29, hQ29, l29, y29, z29⟩, st29⟩ := X28.specialBack hx (y := (⟨"com/example/yusenkabu/yusenkabu/CsvFile$Row", "<init>", "(ILjava/util/List;)V"⟩ : MethodName)) rfl hown (mvT hZ (hw _ (List.mem_of_getElem? (i := 103) rfl))) (mvT hZ (hw _ (List.mem_of_getElem? (i := 104) rfl))) (mvT hZ (hw _ (List.mem_of_getElem? (i := 105) rfl))) (by decide) (backOf (W := 1) (rm19 l Z a0 hw [] b28 p1 b24 h28 n0 Z0 E_b28 g_b28 F_b28_line F_b28_fields) hZ (hw _ (List.mem_of_getElem? (i := 105) rfl)) (hw _ (List.mem_of_getElem? (i := 102) rfl)) (by decide) (by decide)) (g := (mkF m 139 #[.val (.int p1), .val (.int p2), .val (.int p3), .val (.int p4), .val (.int p5), .val (.ref b1), .val (.ref b5), .val (.ref b6), .val (.int (2 : Int32)), .val (.int (1 : Int32)), .val (.ref b24), .unset, .unset, .unset] [(.ref b24), (.int p1), (.ref b28), (.ref b28)])) rfl (by rw [hml]; rfl) (Steps.refl _) (a := b28) (argsL := [(.int p1), (.ref b24)]) (rest := [(.ref b28)]) (lenOf pd_13 rfl) rfl (by show 2 * 0 + _ ≤ _; exact Nat.le_of_eq rfl) (hb hby at_139) (fun _ _ => ⟨rfl, e28, (by decide : 11 + 0 ≤ _), (by decide : 34 + 0 ≤ _)⟩)
      dsimp only [Pt.U, Pt.locs, Pt.cells, Pt.slots] at X29 l29 y29 z29 st29 hQ29
      subst l29 y29 z29
      obtain ⟨rfl, N29q, K29, G29_line, G29_fields⟩ := hQ29
      have N29 := Fr.app N27 N29q
      obtain ⟨h29, e29⟩ : ∃ z, T29.heap = z := ⟨_, rfl⟩
      rw [e29] at K29 G29_line G29_fields
      replace Z0 := Nat.le_trans Z0 K29.1
      replace O0 := O0.keep K29 (allS g_b28 all0)
      replace V_d0 := V_d0.keep K29 (ninS ne_d0_b28 nin0)
      replace E_b1 := E_b1.keep K29
      replace E5 := E5.keep K29
      replace E_b6 := E_b6.keep K29
      replace E_b24 := E_b24.keep K29
      replace Vn27 := Vn27.keep K29 (ninS ne_e1_26_b28 nin0)
      replace G27_modCount := G27_modCount.keep K29 (ninS ne_b24_b28 nin0)
      replace G27_elementData := G27_elementData.keep K29 (ninS ne_b24_b28 nin0)
      replace G27_size := G27_size.keep K29 (ninS ne_b24_b28 nin0)
      replace E_b28 := E_b28.keep K29
      refine Go.tr (T' := T29) (pc' := 142) (L' := #[.val (.int p1), .val (.int p2), .val (.int p3), .val (.int p4), .val (.int p5), .val (.ref b1), .val (.ref b5), .val (.ref b6), .val (.int (2 : Int32)), .val (.int (1 : Int32)), .val (.ref b24), .unset, .unset, .unset]) (S' := [(.ref b28)]) st29 ?_
      refine Go.st (T' := T29) (pc' := 144) (L' := #[.val (.int p1), .val (.int p2), .val (.int p3), .val (.int p4), .val (.int p5), .val (.ref b1), .val (.ref b5), .val (.ref b6), .val (.int (2 : Int32)), .val (.int (1 : Int32)), .val (.ref b24), .val (.ref b28), .unset, .unset]) (S' := []) (fun t k => XS.astore X29.here hx rfl (hb hby at_142) rfl rfl (l' := #[.val (.int p1), .val (.int p2), .val (.int p3), .val (.int p4), .val (.int p5), .val (.ref b1), .val (.ref b5), .val (.ref b6), .val (.int (2 : Int32)), .val (.int (1 : Int32)), .val (.ref b24), .val (.ref b28), .unset, .unset]) rfl k) ?_
      refine Go.st (T' := T29) (pc' := 146) (L' := #[.val (.int p1), .val (.int p2), .val (.int p3), .val (.int p4), .val (.int p5), .val (.ref b1), .val (.ref b5), .val (.ref b6), .val (.int (2 : Int32)), .val (.int (1 : Int32)), .val (.ref b24), .val (.ref b28), .unset, .unset]) (S' := [(.ref b28)]) (fun t k => XS.aload X29.here hx rfl (hb hby at_144) rfl rfl  k) ?_
      refine Go.st (T' := T29) (pc' := 148) (L' := #[.val (.int p1), .val (.int p2), .val (.int p3), .val (.int p4), .val (.int p5), .val (.ref b1), .val (.ref b5), .val (.ref b6), .val (.int (2 : Int32)), .val (.int (1 : Int32)), .val (.ref b24), .val (.ref b28), .unset, .unset]) (S' := [(.int (1 : Int32)), (.ref b28)]) (fun t k => XS.iload X29.here hx rfl (hb hby at_146) rfl  k) ?_
      obtain ⟨cq30, kq30, q30a, q30b, q30c⟩ := isOf hZ e29 E_b28
      obtain ⟨_, _, ⟨T30, L30, k30, n30⟩, -, X30, ⟨Lc30, hQ30, l30, y30, z30⟩, st30⟩ := X29.virtualBack hx (y := (⟨"com/example/yusenkabu/yusenkabu/CsvFile$Row", "field", "(I)Ljava/lang/String;"⟩ : MethodName)) (z := (⟨"com/example/yusenkabu/yusenkabu/CsvFile$Row", "field", "(I)Ljava/lang/String;"⟩ : MethodName)) hown (mvT hZ (hw _ (List.mem_of_getElem? (i := 116) rfl))) (mvT hZ (hw _ (List.mem_of_getElem? (i := 117) rfl))) (notFace_of_selects (args := #[]) (mvT hZ (hw _ (List.mem_of_getElem? (i := 119) rfl)))) (mvT hZ (hw _ (List.mem_of_getElem? (i := 119) rfl))) (mvT hZ (hw _ (List.mem_of_getElem? (i := 118) rfl))) (by decide) (backOf (W := 0) (rm21 l Z a0 hw [] b28 b24 e1_26 _ _ 1 2 b5 h29 n0 Z0 G29_fields E5 E_b24 G27_elementData G27_size Vn27 (by decide) (by decide) rfl) hZ (hw _ (List.mem_of_getElem? (i := 120) rfl)) (hw _ (List.mem_of_getElem? (i := 102) rfl)) (by decide) (by decide)) q30a q30c (g := (mkF m 148 #[.val (.int p1), .val (.int p2), .val (.int p3), .val (.int p4), .val (.int p5), .val (.ref b1), .val (.ref b5), .val (.ref b6), .val (.int (2 : Int32)), .val (.int (1 : Int32)), .val (.ref b24), .val (.ref b28), .unset, .unset] [(.int (1 : Int32)), (.ref b28)])) rfl (by rw [hml]; rfl) (Steps.refl _) (argsL := [(.int (1 : Int32))]) (rest := []) (lenOf pd_14 rfl) rfl (by show 2 * 0 + _ ≤ _; exact Nat.le_of_eq rfl) (hb hby at_148) (fun _ _ => ⟨rfl, e29, (by decide : 11 + 0 ≤ _), (by decide : 34 + 0 ≤ _)⟩)
      dsimp only [Pt.U, Pt.locs, Pt.cells, Pt.slots] at X30 l30 y30 z30 st30 hQ30
      subst l30 y30 z30
      obtain ⟨rfl, N30q, e30⟩ := hQ30
      have N30 := Fr.app N29 N30q
      refine Go.tr (T' := T30) (pc' := 151) (L' := #[.val (.int p1), .val (.int p2), .val (.int p3), .val (.int p4), .val (.int p5), .val (.ref b1), .val (.ref b5), .val (.ref b6), .val (.int (2 : Int32)), .val (.int (1 : Int32)), .val (.ref b24), .val (.ref b28), .unset, .unset]) (S' := [(.ref b5)]) st30 ?_
      refine Go.st (T' := T30) (pc' := 153) (L' := #[.val (.int p1), .val (.int p2), .val (.int p3), .val (.int p4), .val (.int p5), .val (.ref b1), .val (.ref b5), .val (.ref b6), .val (.int (2 : Int32)), .val (.int (1 : Int32)), .val (.ref b24), .val (.ref b28), .val (.ref b5), .unset]) (S' := []) (fun t k => XS.astore X30.here hx rfl (hb hby at_151) rfl rfl (l' := #[.val (.int p1), .val (.int p2), .val (.int p3), .val (.int p4), .val (.int p5), .val (.ref b1), .val (.ref b5), .val (.ref b6), .val (.int (2 : Int32)), .val (.int (1 : Int32)), .val (.ref b24), .val (.ref b28), .val (.ref b5), .unset]) rfl k) ?_
      refine Go.st (T' := T30) (pc' := 155) (L' := #[.val (.int p1), .val (.int p2), .val (.int p3), .val (.int p4), .val (.int p5), .val (.ref b1), .val (.ref b5), .val (.ref b6), .val (.int (2 : Int32)), .val (.int (1 : Int32)), .val (.ref b24), .val (.ref b28), .val (.ref b5), .unset]) (S' := [(.int (1 : Int32))]) (fun t k => XS.iload X30.here hx rfl (hb hby at_153) rfl  k) ?_
      refine Go.st (T' := T30) (pc' := 165) (L' := #[.val (.int p1), .val (.int p2), .val (.int p3), .val (.int p4), .val (.int p5), .val (.ref b1), .val (.ref b5), .val (.ref b6), .val (.int (2 : Int32)), .val (.int (1 : Int32)), .val (.ref b24), .val (.ref b28), .val (.ref b5), .unset]) (S' := []) (fun t k => XS.ifYes X30.here hx rfl (pc0 := 155) (pc' := 165) rfl (hb hby at_155) rfl ((if0 _ _).trans (feq (by decide : ¬ ((1 : Int32) = (0 : Int32)))).2) (by decide) (by decide) k) ?_
      refine Go.st (T' := T30) (pc' := 167) (L' := #[.val (.int p1), .val (.int p2), .val (.int p3), .val (.int p4), .val (.int p5), .val (.ref b1), .val (.ref b5), .val (.ref b6), .val (.int (2 : Int32)), .val (.int (1 : Int32)), .val (.ref b24), .val (.ref b28), .val (.ref b5), .unset]) (S' := [(.int (1 : Int32))]) (fun t k => XS.iload X30.here hx rfl (hb hby at_165) rfl  k) ?_
      refine Go.st (T' := T30) (pc' := 168) (L' := #[.val (.int p1), .val (.int p2), .val (.int p3), .val (.int p4), .val (.int p5), .val (.ref b1), .val (.ref b5), .val (.ref b6), .val (.int (2 : Int32)), .val (.int (1 : Int32)), .val (.ref b24), .val (.ref b28), .val (.ref b5), .unset]) (S' := [(.int (1 : Int32)), (.int (1 : Int32))]) (fun t k => XS.iconst X30.here hx rfl (hb hby at_167) k) ?_
      refine Go.st (T' := T30) (pc' := 171) (L' := #[.val (.int p1), .val (.int p2), .val (.int p3), .val (.int p4), .val (.int p5), .val (.ref b1), .val (.ref b5), .val (.ref b6), .val (.int (2 : Int32)), .val (.int (1 : Int32)), .val (.ref b24), .val (.ref b28), .val (.ref b5), .unset]) (S' := []) (fun t k => XS.icmpNo X30.here hx rfl (hb hby at_168) rfl (teq (by decide : ((1 : Int32) = (1 : Int32)))).2 k) ?_
      refine Go.st (T' := T30) (pc' := 173) (L' := #[.val (.int p1), .val (.int p2), .val (.int p3), .val (.int p4), .val (.int p5), .val (.ref b1), .val (.ref b5), .val (.ref b6), .val (.int (2 : Int32)), .val (.int (1 : Int32)), .val (.ref b24), .val (.ref b28), .val (.ref b5), .unset]) (S' := [(.ref b5)]) (fun t k => XS.aload X30.here hx rfl (hb hby at_171) rfl rfl  k) ?_
      refine Go.st (T' := T30) (pc' := 175) (L' := #[.val (.int p1), .val (.int p2), .val (.int p3), .val (.int p4), .val (.int p5), .val (.ref b1), .val (.ref b5), .val (.ref b6), .val (.int (2 : Int32)), .val (.int (1 : Int32)), .val (.ref b24), .val (.ref b28), .val (.ref b5), .val (.ref b5)]) (S' := []) (fun t k => XS.astore X30.here hx rfl (hb hby at_173) rfl rfl (l' := #[.val (.int p1), .val (.int p2), .val (.int p3), .val (.int p4), .val (.int p5), .val (.ref b1), .val (.ref b5), .val (.ref b6), .val (.int (2 : Int32)), .val (.int (1 : Int32)), .val (.ref b24), .val (.ref b28), .val (.ref b5), .val (.ref b5)]) rfl k) ?_
      refine Go.st (T' := T30) (pc' := 182) (L' := #[.val (.int p1), .val (.int p2), .val (.int p3), .val (.int p4), .val (.int p5), .val (.ref b1), .val (.ref b5), .val (.ref b6), .val (.int (2 : Int32)), .val (.int (1 : Int32)), .val (.ref b24), .val (.ref b28), .val (.ref b5), .val (.ref b5)]) (S' := []) (fun t k => XS.goto X30.here hx rfl (pc0 := 175) (pc' := 182) rfl (hb hby at_175) (by decide) (by decide) k) ?_
      refine Go.st (T' := T30) (pc' := 184) (L' := #[.val (.int p1), .val (.int p2), .val (.int p3), .val (.int p4), .val (.int p5), .val (.ref b1), .val (.ref b5), .val (.ref b6), .val (.int (2 : Int32)), .val (.int (1 : Int32)), .val (.ref b24), .val (.ref b28), .val (.ref b5), .val (.ref b5)]) (S' := [(.ref b5)]) (fun t k => XS.aload X30.here hx rfl (hb hby at_182) rfl rfl  k) ?_
      refine Go.st (T' := T30) (pc' := 186) (L' := #[.val (.int p1), .val (.int p2), .val (.int p3), .val (.int p4), .val (.int p5), .val (.ref b1), .val (.ref b5), .val (.ref b6), .val (.int (2 : Int32)), .val (.int (1 : Int32)), .val (.ref b24), .val (.ref b28), .val (.ref b5), .val (.ref b5)]) (S' := [(.ref b5), (.ref b5)]) (fun t k => XS.aload X30.here hx rfl (hb hby at_184) rfl rfl  k) ?_
      refine Go.st (T' := T30) (pc' := 189) (L' := #[.val (.int p1), .val (.int p2), .val (.int p3), .val (.int p4), .val (.int p5), .val (.ref b1), .val (.ref b5), .val (.ref b6), .val (.int (2 : Int32)), .val (.int (1 : Int32)), .val (.ref b24), .val (.ref b28), .val (.ref b5), .val (.ref b5)]) (S' := []) (fun t k => Jvm.RoadKit.acmp (g := (mkF m 186 #[.val (.int p1), .val (.int p2), .val (.int p3), .val (.int p4), .val (.int p5), .val (.ref b1), .val (.ref b5), .val (.ref b6), .val (.int (2 : Int32)), .val (.int (1 : Int32)), .val (.ref b24), .val (.ref b28), .val (.ref b5), .val (.ref b5)] [(.ref b5), (.ref b5)])) X30 hx rfl rfl rfl (pc0 := 186) (pc' := 189) (same := true) rfl (hb hby at_186) rfl (decide_eq_true rfl) (by decide) (by decide) k) ?_
      refine Go.st (T' := T30) (pc' := 190) (L' := #[.val (.int p1), .val (.int p2), .val (.int p3), .val (.int p4), .val (.int p5), .val (.ref b1), .val (.ref b5), .val (.ref b6), .val (.int (2 : Int32)), .val (.int (1 : Int32)), .val (.ref b24), .val (.ref b28), .val (.ref b5), .val (.ref b5)]) (S' := [(.int (1 : Int32))]) (fun t k => XS.iconst X30.here hx rfl (hb hby at_189) k) ?_
      refine Go.st (T' := T30) (pc' := 194) (L' := #[.val (.int p1), .val (.int p2), .val (.int p3), .val (.int p4), .val (.int p5), .val (.ref b1), .val (.ref b5), .val (.ref b6), .val (.int (2 : Int32)), .val (.int (1 : Int32)), .val (.ref b24), .val (.ref b28), .val (.ref b5), .val (.ref b5)]) (S' := [(.int (1 : Int32))]) (fun t k => XS.goto X30.here hx rfl (pc0 := 190) (pc' := 194) rfl (hb hby at_190) (by decide) (by decide) k) ?_
      exact Go.retN X30 hx hlk hret (by simp) (hb hby at_194) (by decide) (by decide) (by rw [e30]; exact ⟨rfl, N30⟩)
  · rw [hn3]
    refine Go.st (T' := T10) (pc' := 76) (L' := #[.val (.int p1), .val (.int p2), .val (.int p3), .val (.int p4), .val (.int p5), .val (.ref b1), .val (.ref b5), .val (.ref b6), .val (.int (3 : Int32)), .unset, .unset, .unset, .unset, .unset]) (S' := []) (fun t k => XS.istore X10.here hx rfl (hb hby at_74) rfl (l' := #[.val (.int p1), .val (.int p2), .val (.int p3), .val (.int p4), .val (.int p5), .val (.ref b1), .val (.ref b5), .val (.ref b6), .val (.int (3 : Int32)), .unset, .unset, .unset, .unset, .unset]) rfl k) ?_
    refine Go.st (T' := T10) (pc' := 77) (L' := #[.val (.int p1), .val (.int p2), .val (.int p3), .val (.int p4), .val (.int p5), .val (.ref b1), .val (.ref b5), .val (.ref b6), .val (.int (3 : Int32)), .unset, .unset, .unset, .unset, .unset]) (S' := [(.int p2)]) (fun t k => XS.iloadN X10.here hx rfl (hb hby at_76) rfl  k) ?_
    refine Go.st (T' := T10) (pc' := 78) (L' := #[.val (.int p1), .val (.int p2), .val (.int p3), .val (.int p4), .val (.int p5), .val (.ref b1), .val (.ref b5), .val (.ref b6), .val (.int (3 : Int32)), .unset, .unset, .unset, .unset, .unset]) (S' := [(.int (2 : Int32)), (.int p2)]) (fun t k => XS.iconst X10.here hx rfl (hb hby at_77) k) ?_
    refine Go.st (T' := T10) (pc' := 79) (L' := #[.val (.int p1), .val (.int p2), .val (.int p3), .val (.int p4), .val (.int p5), .val (.ref b1), .val (.ref b5), .val (.ref b6), .val (.int (3 : Int32)), .unset, .unset, .unset, .unset, .unset]) (S' := [(.int ((p2.toUInt32 >>> ((2 : Int32) &&& 31).toUInt32).toInt32))]) (fun t k => XS.iushr X10.here hx rfl (hb hby at_78) rfl k) ?_
    refine Go.st (T' := T10) (pc' := 81) (L' := #[.val (.int p1), .val (.int p2), .val (.int p3), .val (.int p4), .val (.int p5), .val (.ref b1), .val (.ref b5), .val (.ref b6), .val (.int (3 : Int32)), .unset, .unset, .unset, .unset, .unset]) (S' := [(.int (2147483647 : Int32)), (.int ((p2.toUInt32 >>> ((2 : Int32) &&& 31).toUInt32).toInt32))]) (fun t k => X10.ldcInt hx hown (mvT hZ (hw _ (List.mem_of_getElem? (i := 44) rfl))) (g := (mkF m 79 #[.val (.int p1), .val (.int p2), .val (.int p3), .val (.int p4), .val (.int p5), .val (.ref b1), .val (.ref b5), .val (.ref b6), .val (.int (3 : Int32)), .unset, .unset, .unset, .unset, .unset] [(.int ((p2.toUInt32 >>> ((2 : Int32) &&& 31).toUInt32).toInt32))])) rfl (hb hby at_79) t k) ?_
    refine Go.st (T' := T10) (pc' := 82) (L' := #[.val (.int p1), .val (.int p2), .val (.int p3), .val (.int p4), .val (.int p5), .val (.ref b1), .val (.ref b5), .val (.ref b6), .val (.int (3 : Int32)), .unset, .unset, .unset, .unset, .unset]) (S' := [(.int (((p2.toUInt32 >>> ((2 : Int32) &&& 31).toUInt32).toInt32) &&& (2147483647 : Int32)))]) (fun t k => XS.iand X10.here hx rfl (hb hby at_81) rfl k) ?_
    refine Go.st (T' := T10) (pc' := 84) (L' := #[.val (.int p1), .val (.int p2), .val (.int p3), .val (.int p4), .val (.int p5), .val (.ref b1), .val (.ref b5), .val (.ref b6), .val (.int (3 : Int32)), .unset, .unset, .unset, .unset, .unset]) (S' := [(.int (3 : Int32)), (.int (((p2.toUInt32 >>> ((2 : Int32) &&& 31).toUInt32).toInt32) &&& (2147483647 : Int32)))]) (fun t k => XS.iload X10.here hx rfl (hb hby at_82) rfl  k) ?_
    refine Go.st (T' := T10) (pc' := 85) (L' := #[.val (.int p1), .val (.int p2), .val (.int p3), .val (.int p4), .val (.int p5), .val (.ref b1), .val (.ref b5), .val (.ref b6), .val (.int (3 : Int32)), .unset, .unset, .unset, .unset, .unset]) (S' := [(.int ((((p2.toUInt32 >>> ((2 : Int32) &&& 31).toUInt32).toInt32) &&& (2147483647 : Int32)) % (3 : Int32)))]) (fun t k => iremM X10 hx rfl (hb hby at_84) rfl (by decide) k) ?_
    rcases own_r3 (((p2.toUInt32 >>> ((2 : Int32) &&& 31).toUInt32).toInt32)) with hr3 | hr3 | hr3
    · rw [hr3]
      refine Go.st (T' := T10) (pc' := 87) (L' := #[.val (.int p1), .val (.int p2), .val (.int p3), .val (.int p4), .val (.int p5), .val (.ref b1), .val (.ref b5), .val (.ref b6), .val (.int (3 : Int32)), .val (.int (0 : Int32)), .unset, .unset, .unset, .unset]) (S' := []) (fun t k => XS.istore X10.here hx rfl (hb hby at_85) rfl (l' := #[.val (.int p1), .val (.int p2), .val (.int p3), .val (.int p4), .val (.int p5), .val (.ref b1), .val (.ref b5), .val (.ref b6), .val (.int (3 : Int32)), .val (.int (0 : Int32)), .unset, .unset, .unset, .unset]) rfl k) ?_
      obtain ⟨T31, h31, X31, e31, E31, A31, D31, U31, st31⟩ := newO X10 hx hZ hown (hw _ (List.mem_of_getElem? (i := 45) rfl)) (hw _ (List.mem_of_getElem? (i := 46) rfl)) (hw _ (List.mem_of_getElem? (i := 47) rfl)) e10 (g := (mkF m 87 #[.val (.int p1), .val (.int p2), .val (.int p3), .val (.int p4), .val (.int p5), .val (.ref b1), .val (.ref b5), .val (.ref b6), .val (.int (3 : Int32)), .val (.int (0 : Int32)), .unset, .unset, .unset, .unset] [])) rfl (hb hby at_87) (by decide) (by decide)
      obtain ⟨b31, g31⟩ : ∃ z, z = h10.size := ⟨_, rfl⟩
      rw [← g31] at A31 D31 U31 st31
      have ne_d0_b31 : d0 ≠ b31 := Nat.ne_of_lt (Nat.lt_of_lt_of_le V_d0.lt (Nat.le_of_eq g31.symm))
      have ne_b1_b31 : b1 ≠ b31 := Nat.ne_of_lt (Nat.lt_of_lt_of_le E_b1.lt (Nat.le_of_eq g31.symm))
      have ne_b5_b31 : b5 ≠ b31 := Nat.ne_of_lt (Nat.lt_of_lt_of_le E5.lt (Nat.le_of_eq g31.symm))
      have ne_b6_b31 : b6 ≠ b31 := Nat.ne_of_lt (Nat.lt_of_lt_of_le E_b6.lt (Nat.le_of_eq g31.symm))
      have g_b31 : n0 ≤ b31 := Nat.le_trans Z0 (Nat.le_of_eq g31.symm)
      replace Z0 := Nat.le_trans Z0 E31.1
      replace O0 := O0.ext E31
      replace V_d0 := V_d0.ext E31
      replace E_b1 := E_b1.ext E31
      replace E5 := E5.ext E31
      replace E_b6 := E_b6.ext E31
      have E_b31 := A31
      have F_b31_modCount : Fld Z h31 b31 "java/util/AbstractList" "modCount" "I" (.int (0 : Int32)) := D31 (Or.inl (hw _ (List.mem_of_getElem? (i := 65) rfl))) (ty := .int) (by decide)
      have F_b31_elementData : Fld Z h31 b31 "java/util/ArrayList" "elementData" "[Ljava/lang/Object;" .null := D31 (Or.inl (hw _ (List.mem_of_getElem? (i := 68) rfl))) (ty := (.array (.object "java/lang/Object"))) (by decide)
      have F_b31_size : Fld Z h31 b31 "java/util/ArrayList" "size" "I" (.int (0 : Int32)) := D31 (Or.inl (hw _ (List.mem_of_getElem? (i := 77) rfl))) (ty := .int) (by decide)
      refine Go.st (T' := T31) (pc' := 90) (L' := #[.val (.int p1), .val (.int p2), .val (.int p3), .val (.int p4), .val (.int p5), .val (.ref b1), .val (.ref b5), .val (.ref b6), .val (.int (3 : Int32)), .val (.int (0 : Int32)), .unset, .unset, .unset, .unset]) (S' := [(.ref b31)]) st31 ?_
      refine Go.st (T' := T31) (pc' := 91) (L' := #[.val (.int p1), .val (.int p2), .val (.int p3), .val (.int p4), .val (.int p5), .val (.ref b1), .val (.ref b5), .val (.ref b6), .val (.int (3 : Int32)), .val (.int (0 : Int32)), .unset, .unset, .unset, .unset]) (S' := [(.ref b31), (.ref b31)]) (fun t k => XS.dup X31.here hx rfl (hb hby at_90) rfl rfl k) ?_
      obtain ⟨_, _, ⟨T32, L32, k32, n32⟩, -, X32, ⟨Lc32, hQ32, l32, y32, z32⟩, st32⟩ := X31.specialBack hx (y := (⟨"java/util/ArrayList", "<init>", "()V"⟩ : MethodName)) rfl hown (mvT hZ (hw _ (List.mem_of_getElem? (i := 48) rfl))) (mvT hZ (hw _ (List.mem_of_getElem? (i := 49) rfl))) (mvT hZ (hw _ (List.mem_of_getElem? (i := 50) rfl))) (by decide) (backOf (W := 1) (rm11 l Z a0 hw [] b31 d0 h31 n0 Z0 SD O0 E_b31 g_b31 F_b31_modCount F_b31_elementData F_b31_size) hZ (hw _ (List.mem_of_getElem? (i := 50) rfl)) (hw _ (List.mem_of_getElem? (i := 47) rfl)) (by decide) (by decide)) (g := (mkF m 91 #[.val (.int p1), .val (.int p2), .val (.int p3), .val (.int p4), .val (.int p5), .val (.ref b1), .val (.ref b5), .val (.ref b6), .val (.int (3 : Int32)), .val (.int (0 : Int32)), .unset, .unset, .unset, .unset] [(.ref b31), (.ref b31)])) rfl (by rw [hml]; rfl) (Steps.refl _) (a := b31) (argsL := []) (rest := [(.ref b31)]) (lenOf pd_3 rfl) rfl (by show 2 * 0 + _ ≤ _; exact Nat.le_of_eq rfl) (hb hby at_91) (fun _ _ => ⟨rfl, e31, (by decide : 9 + 0 ≤ _), (by decide : 22 + 0 ≤ _)⟩)
      dsimp only [Pt.U, Pt.locs, Pt.cells, Pt.slots] at X32 l32 y32 z32 st32 hQ32
      subst l32 y32 z32
      obtain ⟨rfl, N32q, K32, G32_modCount, G32_elementData, G32_size⟩ := hQ32
      have N32 := Fr.app N10 N32q
      obtain ⟨h32, e32⟩ : ∃ z, T32.heap = z := ⟨_, rfl⟩
      rw [e32] at K32 G32_modCount G32_elementData G32_size
      replace Z0 := Nat.le_trans Z0 K32.1
      replace O0 := O0.keep K32 (allS g_b31 all0)
      replace V_d0 := V_d0.keep K32 (ninS ne_d0_b31 nin0)
      replace E_b1 := E_b1.keep K32
      replace E5 := E5.keep K32
      replace E_b6 := E_b6.keep K32
      replace E_b31 := E_b31.keep K32
      refine Go.tr (T' := T32) (pc' := 94) (L' := #[.val (.int p1), .val (.int p2), .val (.int p3), .val (.int p4), .val (.int p5), .val (.ref b1), .val (.ref b5), .val (.ref b6), .val (.int (3 : Int32)), .val (.int (0 : Int32)), .unset, .unset, .unset, .unset]) (S' := [(.ref b31)]) st32 ?_
      refine Go.st (T' := T32) (pc' := 96) (L' := #[.val (.int p1), .val (.int p2), .val (.int p3), .val (.int p4), .val (.int p5), .val (.ref b1), .val (.ref b5), .val (.ref b6), .val (.int (3 : Int32)), .val (.int (0 : Int32)), .val (.ref b31), .unset, .unset, .unset]) (S' := []) (fun t k => XS.astore X32.here hx rfl (hb hby at_94) rfl rfl (l' := #[.val (.int p1), .val (.int p2), .val (.int p3), .val (.int p4), .val (.int p5), .val (.ref b1), .val (.ref b5), .val (.ref b6), .val (.int (3 : Int32)), .val (.int (0 : Int32)), .val (.ref b31), .unset, .unset, .unset]) rfl k) ?_
      refine Go.st (T' := T32) (pc' := 98) (L' := #[.val (.int p1), .val (.int p2), .val (.int p3), .val (.int p4), .val (.int p5), .val (.ref b1), .val (.ref b5), .val (.ref b6), .val (.int (3 : Int32)), .val (.int (0 : Int32)), .val (.ref b31), .unset, .unset, .unset]) (S' := [(.ref b31)]) (fun t k => XS.aload X32.here hx rfl (hb hby at_96) rfl rfl  k) ?_
      refine Go.st (T' := T32) (pc' := 100) (L' := #[.val (.int p1), .val (.int p2), .val (.int p3), .val (.int p4), .val (.int p5), .val (.ref b1), .val (.ref b5), .val (.ref b6), .val (.int (3 : Int32)), .val (.int (0 : Int32)), .val (.ref b31), .unset, .unset, .unset]) (S' := [(.ref b1), (.ref b31)]) (fun t k => XS.aload X32.here hx rfl (hb hby at_98) rfl rfl  k) ?_
      obtain ⟨cq33, kq33, q33a, q33b, q33c⟩ := isOf hZ e32 E_b31
      obtain ⟨_, _, ⟨T33, L33, k33, n33⟩, -, X33, ⟨Lc33, hQ33, l33, y33, z33⟩, st33⟩ := X32.virtualBack hx (y := (⟨"java/util/ArrayList", "add", "(Ljava/lang/Object;)Z"⟩ : MethodName)) (z := (⟨"java/util/ArrayList", "add", "(Ljava/lang/Object;)Z"⟩ : MethodName)) hown (mvT hZ (hw _ (List.mem_of_getElem? (i := 69) rfl))) (mvT hZ (hw _ (List.mem_of_getElem? (i := 70) rfl))) (notFace_of_selects (args := #[]) (mvT hZ (hw _ (List.mem_of_getElem? (i := 72) rfl)))) (mvT hZ (hw _ (List.mem_of_getElem? (i := 72) rfl))) (mvT hZ (hw _ (List.mem_of_getElem? (i := 71) rfl))) (by decide) (backOf (W := 0) (rm14a l Z a0 hw [] b31 d0 (0 : Int32) _ b1 h32 n0 Z0 SD O0 E_b31 g_b31 (Ne.symm ne_d0_b31) G32_modCount G32_elementData G32_size V_d0 E_b1 (Ne.symm ne_b1_b31)) hZ (hw _ (List.mem_of_getElem? (i := 73) rfl)) (hw _ (List.mem_of_getElem? (i := 47) rfl)) (by decide) (by decide)) q33a q33c (g := (mkF m 100 #[.val (.int p1), .val (.int p2), .val (.int p3), .val (.int p4), .val (.int p5), .val (.ref b1), .val (.ref b5), .val (.ref b6), .val (.int (3 : Int32)), .val (.int (0 : Int32)), .val (.ref b31), .unset, .unset, .unset] [(.ref b1), (.ref b31)])) rfl (by rw [hml]; rfl) (Steps.refl _) (argsL := [(.ref b1)]) (rest := []) (lenOf pd_12 rfl) rfl (by show 2 * 0 + _ ≤ _; exact Nat.le_of_eq rfl) (hb hby at_100) (fun _ _ => ⟨rfl, e32, (by decide : 9 + 1 ≤ _), (by decide : 22 + 10 ≤ _)⟩)
      dsimp only [Pt.U, Pt.locs, Pt.cells, Pt.slots] at X33 l33 y33 z33 st33 hQ33
      subst l33 y33 z33
      obtain ⟨e1_33, ka33, rfl, N33q, K33, g_e1_33, lt33, G33_modCount, G33_elementData, G33_size, Ov33, V_e1_33⟩ := hQ33
      have N33 := Fr.app N32 N33q
      have ne_d0_e1_33 : d0 ≠ e1_33 := Nat.ne_of_lt (Nat.lt_of_lt_of_le V_d0.lt lt33)
      have ne_b1_e1_33 : b1 ≠ e1_33 := Nat.ne_of_lt (Nat.lt_of_lt_of_le E_b1.lt lt33)
      have ne_b5_e1_33 : b5 ≠ e1_33 := Nat.ne_of_lt (Nat.lt_of_lt_of_le E5.lt lt33)
      have ne_b6_e1_33 : b6 ≠ e1_33 := Nat.ne_of_lt (Nat.lt_of_lt_of_le E_b6.lt lt33)
      have ne_b31_e1_33 : b31 ≠ e1_33 := Nat.ne_of_lt (Nat.lt_of_lt_of_le E_b31.lt lt33)
      obtain ⟨h33, e33⟩ : ∃ z, T33.heap = z := ⟨_, rfl⟩
      rw [e33] at K33 G33_modCount G33_elementData G33_size V_e1_33
      replace Z0 := Nat.le_trans Z0 K33.1
      replace O0 := O0.keep K33 (allS g_b31 all0)
      replace V_d0 := V_d0.keep K33 (ninS ne_d0_b31 nin0)
      replace E_b1 := E_b1.keep K33
      replace E5 := E5.keep K33
      replace E_b6 := E_b6.keep K33
      replace E_b31 := E_b31.keep K33
      refine Go.tr (T' := T33) (pc' := 103) (L' := #[.val (.int p1), .val (.int p2), .val (.int p3), .val (.int p4), .val (.int p5), .val (.ref b1), .val (.ref b5), .val (.ref b6), .val (.int (3 : Int32)), .val (.int (0 : Int32)), .val (.ref b31), .unset, .unset, .unset]) (S' := [(.int (1 : Int32))]) st33 ?_
      refine Go.st (T' := T33) (pc' := 104) (L' := #[.val (.int p1), .val (.int p2), .val (.int p3), .val (.int p4), .val (.int p5), .val (.ref b1), .val (.ref b5), .val (.ref b6), .val (.int (3 : Int32)), .val (.int (0 : Int32)), .val (.ref b31), .unset, .unset, .unset]) (S' := []) (fun t k => XS.pop X33.here hx rfl (hb hby at_103) rfl rfl k) ?_
      refine Go.st (T' := T33) (pc' := 106) (L' := #[.val (.int p1), .val (.int p2), .val (.int p3), .val (.int p4), .val (.int p5), .val (.ref b1), .val (.ref b5), .val (.ref b6), .val (.int (3 : Int32)), .val (.int (0 : Int32)), .val (.ref b31), .unset, .unset, .unset]) (S' := [(.int (3 : Int32))]) (fun t k => XS.iload X33.here hx rfl (hb hby at_104) rfl  k) ?_
      refine Go.st (T' := T33) (pc' := 107) (L' := #[.val (.int p1), .val (.int p2), .val (.int p3), .val (.int p4), .val (.int p5), .val (.ref b1), .val (.ref b5), .val (.ref b6), .val (.int (3 : Int32)), .val (.int (0 : Int32)), .val (.ref b31), .unset, .unset, .unset]) (S' := [(.int (2 : Int32)), (.int (3 : Int32))]) (fun t k => XS.iconst X33.here hx rfl (hb hby at_106) k) ?_
      refine Go.st (T' := T33) (pc' := 110) (L' := #[.val (.int p1), .val (.int p2), .val (.int p3), .val (.int p4), .val (.int p5), .val (.ref b1), .val (.ref b5), .val (.ref b6), .val (.int (3 : Int32)), .val (.int (0 : Int32)), .val (.ref b31), .unset, .unset, .unset]) (S' := []) (fun t k => XS.icmpNo X33.here hx rfl (hb hby at_107) rfl (flt (by decide : ¬ ((3 : Int32) < (2 : Int32)))).1 k) ?_
      refine Go.st (T' := T33) (pc' := 112) (L' := #[.val (.int p1), .val (.int p2), .val (.int p3), .val (.int p4), .val (.int p5), .val (.ref b1), .val (.ref b5), .val (.ref b6), .val (.int (3 : Int32)), .val (.int (0 : Int32)), .val (.ref b31), .unset, .unset, .unset]) (S' := [(.ref b31)]) (fun t k => XS.aload X33.here hx rfl (hb hby at_110) rfl rfl  k) ?_
      refine Go.st (T' := T33) (pc' := 114) (L' := #[.val (.int p1), .val (.int p2), .val (.int p3), .val (.int p4), .val (.int p5), .val (.ref b1), .val (.ref b5), .val (.ref b6), .val (.int (3 : Int32)), .val (.int (0 : Int32)), .val (.ref b31), .unset, .unset, .unset]) (S' := [(.ref b5), (.ref b31)]) (fun t k => XS.aload X33.here hx rfl (hb hby at_112) rfl rfl  k) ?_
      obtain ⟨cq34, kq34, q34a, q34b, q34c⟩ := isOf hZ e33 E_b31
      obtain ⟨_, _, ⟨T34, L34, k34, n34⟩, -, X34, ⟨Lc34, hQ34, l34, y34, z34⟩, st34⟩ := X33.virtualBack hx (y := (⟨"java/util/ArrayList", "add", "(Ljava/lang/Object;)Z"⟩ : MethodName)) (z := (⟨"java/util/ArrayList", "add", "(Ljava/lang/Object;)Z"⟩ : MethodName)) hown (mvT hZ (hw _ (List.mem_of_getElem? (i := 69) rfl))) (mvT hZ (hw _ (List.mem_of_getElem? (i := 70) rfl))) (notFace_of_selects (args := #[]) (mvT hZ (hw _ (List.mem_of_getElem? (i := 72) rfl)))) (mvT hZ (hw _ (List.mem_of_getElem? (i := 72) rfl))) (mvT hZ (hw _ (List.mem_of_getElem? (i := 71) rfl))) (by decide) (backOf (W := 0) (rm14b l Z a0 hw [] b31 e1_33 ((0 : Int32) + (1 : Int32)) _ 1 [(.ref b1), .null, .null] b5 h33 n0 Z0 E_b31 g_b31 g_e1_33 ne_b31_e1_33 Ov33 G33_modCount G33_elementData G33_size V_e1_33 rfl (by decide) E5 (Ne.symm ne_b5_b31)) hZ (hw _ (List.mem_of_getElem? (i := 73) rfl)) (hw _ (List.mem_of_getElem? (i := 47) rfl)) (by decide) (by decide)) q34a q34c (g := (mkF m 114 #[.val (.int p1), .val (.int p2), .val (.int p3), .val (.int p4), .val (.int p5), .val (.ref b1), .val (.ref b5), .val (.ref b6), .val (.int (3 : Int32)), .val (.int (0 : Int32)), .val (.ref b31), .unset, .unset, .unset] [(.ref b5), (.ref b31)])) rfl (by rw [hml]; rfl) (Steps.refl _) (argsL := [(.ref b5)]) (rest := []) (lenOf pd_12 rfl) rfl (by show 2 * 0 + _ ≤ _; exact Nat.le_of_eq rfl) (hb hby at_114) (fun _ _ => ⟨rfl, e33, (by decide : 10 + 0 ≤ _), (by decide : 32 + 0 ≤ _)⟩)
      dsimp only [Pt.U, Pt.locs, Pt.cells, Pt.slots] at X34 l34 y34 z34 st34 hQ34
      subst l34 y34 z34
      obtain ⟨rfl, N34q, K34, G34_modCount, G34_elementData, G34_size, Vn34⟩ := hQ34
      have N34 := Fr.app N33 N34q
      obtain ⟨h34, e34⟩ : ∃ z, T34.heap = z := ⟨_, rfl⟩
      rw [e34] at K34 G34_modCount G34_elementData G34_size Vn34
      replace Z0 := Nat.le_trans Z0 K34.1
      replace O0 := O0.keep K34 (allS g_b31 (allS g_e1_33 all0))
      replace V_d0 := V_d0.keep K34 (ninS ne_d0_b31 (ninS ne_d0_e1_33 nin0))
      replace E_b1 := E_b1.keep K34
      replace E5 := E5.keep K34
      replace E_b6 := E_b6.keep K34
      replace E_b31 := E_b31.keep K34
      have Vn34 : Arv Z h34 e1_33 ka33 (.object "java/lang/Object") (10 : Int32) [(.ref b1), (.ref b5), .null] .null := Vn34
      refine Go.tr (T' := T34) (pc' := 117) (L' := #[.val (.int p1), .val (.int p2), .val (.int p3), .val (.int p4), .val (.int p5), .val (.ref b1), .val (.ref b5), .val (.ref b6), .val (.int (3 : Int32)), .val (.int (0 : Int32)), .val (.ref b31), .unset, .unset, .unset]) (S' := [(.int (1 : Int32))]) st34 ?_
      refine Go.st (T' := T34) (pc' := 118) (L' := #[.val (.int p1), .val (.int p2), .val (.int p3), .val (.int p4), .val (.int p5), .val (.ref b1), .val (.ref b5), .val (.ref b6), .val (.int (3 : Int32)), .val (.int (0 : Int32)), .val (.ref b31), .unset, .unset, .unset]) (S' := []) (fun t k => XS.pop X34.here hx rfl (hb hby at_117) rfl rfl k) ?_
      refine Go.st (T' := T34) (pc' := 120) (L' := #[.val (.int p1), .val (.int p2), .val (.int p3), .val (.int p4), .val (.int p5), .val (.ref b1), .val (.ref b5), .val (.ref b6), .val (.int (3 : Int32)), .val (.int (0 : Int32)), .val (.ref b31), .unset, .unset, .unset]) (S' := [(.int (3 : Int32))]) (fun t k => XS.iload X34.here hx rfl (hb hby at_118) rfl  k) ?_
      refine Go.st (T' := T34) (pc' := 121) (L' := #[.val (.int p1), .val (.int p2), .val (.int p3), .val (.int p4), .val (.int p5), .val (.ref b1), .val (.ref b5), .val (.ref b6), .val (.int (3 : Int32)), .val (.int (0 : Int32)), .val (.ref b31), .unset, .unset, .unset]) (S' := [(.int (3 : Int32)), (.int (3 : Int32))]) (fun t k => XS.iconst X34.here hx rfl (hb hby at_120) k) ?_
      refine Go.st (T' := T34) (pc' := 124) (L' := #[.val (.int p1), .val (.int p2), .val (.int p3), .val (.int p4), .val (.int p5), .val (.ref b1), .val (.ref b5), .val (.ref b6), .val (.int (3 : Int32)), .val (.int (0 : Int32)), .val (.ref b31), .unset, .unset, .unset]) (S' := []) (fun t k => XS.icmpNo X34.here hx rfl (hb hby at_121) rfl (flt (by decide : ¬ ((3 : Int32) < (3 : Int32)))).1 k) ?_
      refine Go.st (T' := T34) (pc' := 126) (L' := #[.val (.int p1), .val (.int p2), .val (.int p3), .val (.int p4), .val (.int p5), .val (.ref b1), .val (.ref b5), .val (.ref b6), .val (.int (3 : Int32)), .val (.int (0 : Int32)), .val (.ref b31), .unset, .unset, .unset]) (S' := [(.ref b31)]) (fun t k => XS.aload X34.here hx rfl (hb hby at_124) rfl rfl  k) ?_
      refine Go.st (T' := T34) (pc' := 128) (L' := #[.val (.int p1), .val (.int p2), .val (.int p3), .val (.int p4), .val (.int p5), .val (.ref b1), .val (.ref b5), .val (.ref b6), .val (.int (3 : Int32)), .val (.int (0 : Int32)), .val (.ref b31), .unset, .unset, .unset]) (S' := [(.ref b6), (.ref b31)]) (fun t k => XS.aload X34.here hx rfl (hb hby at_126) rfl rfl  k) ?_
      obtain ⟨cq35, kq35, q35a, q35b, q35c⟩ := isOf hZ e34 E_b31
      obtain ⟨_, _, ⟨T35, L35, k35, n35⟩, -, X35, ⟨Lc35, hQ35, l35, y35, z35⟩, st35⟩ := X34.virtualBack hx (y := (⟨"java/util/ArrayList", "add", "(Ljava/lang/Object;)Z"⟩ : MethodName)) (z := (⟨"java/util/ArrayList", "add", "(Ljava/lang/Object;)Z"⟩ : MethodName)) hown (mvT hZ (hw _ (List.mem_of_getElem? (i := 69) rfl))) (mvT hZ (hw _ (List.mem_of_getElem? (i := 70) rfl))) (notFace_of_selects (args := #[]) (mvT hZ (hw _ (List.mem_of_getElem? (i := 72) rfl)))) (mvT hZ (hw _ (List.mem_of_getElem? (i := 72) rfl))) (mvT hZ (hw _ (List.mem_of_getElem? (i := 71) rfl))) (by decide) (backOf (W := 0) (rm14b l Z a0 hw [] b31 e1_33 (((0 : Int32) + (1 : Int32)) + (1 : Int32)) _ 2 [(.ref b1), (.ref b5), .null] b6 h34 n0 Z0 E_b31 g_b31 g_e1_33 ne_b31_e1_33 Ov33 G34_modCount G34_elementData G34_size Vn34 rfl (by decide) E_b6 (Ne.symm ne_b6_b31)) hZ (hw _ (List.mem_of_getElem? (i := 73) rfl)) (hw _ (List.mem_of_getElem? (i := 47) rfl)) (by decide) (by decide)) q35a q35c (g := (mkF m 128 #[.val (.int p1), .val (.int p2), .val (.int p3), .val (.int p4), .val (.int p5), .val (.ref b1), .val (.ref b5), .val (.ref b6), .val (.int (3 : Int32)), .val (.int (0 : Int32)), .val (.ref b31), .unset, .unset, .unset] [(.ref b6), (.ref b31)])) rfl (by rw [hml]; rfl) (Steps.refl _) (argsL := [(.ref b6)]) (rest := []) (lenOf pd_12 rfl) rfl (by show 2 * 0 + _ ≤ _; exact Nat.le_of_eq rfl) (hb hby at_128) (fun _ _ => ⟨rfl, e34, (by decide : 10 + 0 ≤ _), (by decide : 32 + 0 ≤ _)⟩)
      dsimp only [Pt.U, Pt.locs, Pt.cells, Pt.slots] at X35 l35 y35 z35 st35 hQ35
      subst l35 y35 z35
      obtain ⟨rfl, N35q, K35, G35_modCount, G35_elementData, G35_size, Vn35⟩ := hQ35
      have N35 := Fr.app N34 N35q
      obtain ⟨h35, e35⟩ : ∃ z, T35.heap = z := ⟨_, rfl⟩
      rw [e35] at K35 G35_modCount G35_elementData G35_size Vn35
      replace Z0 := Nat.le_trans Z0 K35.1
      replace O0 := O0.keep K35 (allS g_b31 (allS g_e1_33 all0))
      replace V_d0 := V_d0.keep K35 (ninS ne_d0_b31 (ninS ne_d0_e1_33 nin0))
      replace E_b1 := E_b1.keep K35
      replace E5 := E5.keep K35
      replace E_b6 := E_b6.keep K35
      replace E_b31 := E_b31.keep K35
      have Vn35 : Arv Z h35 e1_33 ka33 (.object "java/lang/Object") (10 : Int32) [(.ref b1), (.ref b5), (.ref b6)] .null := Vn35
      refine Go.tr (T' := T35) (pc' := 131) (L' := #[.val (.int p1), .val (.int p2), .val (.int p3), .val (.int p4), .val (.int p5), .val (.ref b1), .val (.ref b5), .val (.ref b6), .val (.int (3 : Int32)), .val (.int (0 : Int32)), .val (.ref b31), .unset, .unset, .unset]) (S' := [(.int (1 : Int32))]) st35 ?_
      refine Go.st (T' := T35) (pc' := 132) (L' := #[.val (.int p1), .val (.int p2), .val (.int p3), .val (.int p4), .val (.int p5), .val (.ref b1), .val (.ref b5), .val (.ref b6), .val (.int (3 : Int32)), .val (.int (0 : Int32)), .val (.ref b31), .unset, .unset, .unset]) (S' := []) (fun t k => XS.pop X35.here hx rfl (hb hby at_131) rfl rfl k) ?_
      obtain ⟨T36, h36, X36, e36, E36, A36, D36, U36, st36⟩ := newO X35 hx hZ hown (hw _ (List.mem_of_getElem? (i := 100) rfl)) (hw _ (List.mem_of_getElem? (i := 101) rfl)) (hw _ (List.mem_of_getElem? (i := 102) rfl)) e35 (g := (mkF m 132 #[.val (.int p1), .val (.int p2), .val (.int p3), .val (.int p4), .val (.int p5), .val (.ref b1), .val (.ref b5), .val (.ref b6), .val (.int (3 : Int32)), .val (.int (0 : Int32)), .val (.ref b31), .unset, .unset, .unset] [])) rfl (hb hby at_132) (by decide) (by decide)
      obtain ⟨b36, g36⟩ : ∃ z, z = h35.size := ⟨_, rfl⟩
      rw [← g36] at A36 D36 U36 st36
      have ne_d0_b36 : d0 ≠ b36 := Nat.ne_of_lt (Nat.lt_of_lt_of_le V_d0.lt (Nat.le_of_eq g36.symm))
      have ne_b1_b36 : b1 ≠ b36 := Nat.ne_of_lt (Nat.lt_of_lt_of_le E_b1.lt (Nat.le_of_eq g36.symm))
      have ne_b5_b36 : b5 ≠ b36 := Nat.ne_of_lt (Nat.lt_of_lt_of_le E5.lt (Nat.le_of_eq g36.symm))
      have ne_b6_b36 : b6 ≠ b36 := Nat.ne_of_lt (Nat.lt_of_lt_of_le E_b6.lt (Nat.le_of_eq g36.symm))
      have ne_b31_b36 : b31 ≠ b36 := Nat.ne_of_lt (Nat.lt_of_lt_of_le E_b31.lt (Nat.le_of_eq g36.symm))
      have ne_e1_33_b36 : e1_33 ≠ b36 := Nat.ne_of_lt (Nat.lt_of_lt_of_le Vn35.lt (Nat.le_of_eq g36.symm))
      have g_b36 : n0 ≤ b36 := Nat.le_trans Z0 (Nat.le_of_eq g36.symm)
      replace Z0 := Nat.le_trans Z0 E36.1
      replace O0 := O0.ext E36
      replace V_d0 := V_d0.ext E36
      replace E_b1 := E_b1.ext E36
      replace E5 := E5.ext E36
      replace E_b6 := E_b6.ext E36
      replace E_b31 := E_b31.ext E36
      replace Vn35 := Vn35.ext E36
      replace G35_modCount := G35_modCount.ext E36
      replace G35_elementData := G35_elementData.ext E36
      replace G35_size := G35_size.ext E36
      have E_b36 := A36
      have F_b36_line : Fld Z h36 b36 "com/example/yusenkabu/yusenkabu/CsvFile$Row" "line" "I" (.int (0 : Int32)) := D36 (Or.inr (hw _ (List.mem_of_getElem? (i := 113) rfl))) (ty := .int) (by decide)
      have F_b36_fields : Fld Z h36 b36 "com/example/yusenkabu/yusenkabu/CsvFile$Row" "fields" "Ljava/util/List;" .null := D36 (Or.inr (hw _ (List.mem_of_getElem? (i := 115) rfl))) (ty := (.object "java/util/List")) (by decide)
      refine Go.st (T' := T36) (pc' := 135) (L' := #[.val (.int p1), .val (.int p2), .val (.int p3), .val (.int p4), .val (.int p5), .val (.ref b1), .val (.ref b5), .val (.ref b6), .val (.int (3 : Int32)), .val (.int (0 : Int32)), .val (.ref b31), .unset, .unset, .unset]) (S' := [(.ref b36)]) st36 ?_
      refine Go.st (T' := T36) (pc' := 136) (L' := #[.val (.int p1), .val (.int p2), .val (.int p3), .val (.int p4), .val (.int p5), .val (.ref b1), .val (.ref b5), .val (.ref b6), .val (.int (3 : Int32)), .val (.int (0 : Int32)), .val (.ref b31), .unset, .unset, .unset]) (S' := [(.ref b36), (.ref b36)]) (fun t k => XS.dup X36.here hx rfl (hb hby at_135) rfl rfl k) ?_
      refine Go.st (T' := T36) (pc' := 137) (L' := #[.val (.int p1), .val (.int p2), .val (.int p3), .val (.int p4), .val (.int p5), .val (.ref b1), .val (.ref b5), .val (.ref b6), .val (.int (3 : Int32)), .val (.int (0 : Int32)), .val (.ref b31), .unset, .unset, .unset]) (S' := [(.int p1), (.ref b36), (.ref b36)]) (fun t k => XS.iloadN X36.here hx rfl (hb hby at_136) rfl  k) ?_
      refine Go.st (T' := T36) (pc' := 139) (L' := #[.val (.int p1), .val (.int p2), .val (.int p3), .val (.int p4), .val (.int p5), .val (.ref b1), .val (.ref b5), .val (.ref b6), .val (.int (3 : Int32)), .val (.int (0 : Int32)), .val (.ref b31), .unset, .unset, .unset]) (S' := [(.ref b31), (.int p1), (.ref b36), (.ref b36)]) (fun t k => XS.aload X36.here hx rfl (hb hby at_137) rfl rfl  k) ?_
      obtain ⟨_, _, ⟨T37, L37, k37, n37⟩, -, X37, ⟨Lc37, hQ37, l37, y37, z37⟩, st37⟩ := X36.specialBack hx (y := (⟨"com/example/yusenkabu/yusenkabu/CsvFile$Row", "<init>", "(ILjava/util/List;)V"⟩ : MethodName)) rfl hown (mvT hZ (hw _ (List.mem_of_getElem? (i := 103) rfl))) (mvT hZ (hw _ (List.mem_of_getElem? (i := 104) rfl))) (mvT hZ (hw _ (List.mem_of_getElem? (i := 105) rfl))) (by decide) (backOf (W := 1) (rm19 l Z a0 hw [] b36 p1 b31 h36 n0 Z0 E_b36 g_b36 F_b36_line F_b36_fields) hZ (hw _ (List.mem_of_getElem? (i := 105) rfl)) (hw _ (List.mem_of_getElem? (i := 102) rfl)) (by decide) (by decide)) (g := (mkF m 139 #[.val (.int p1), .val (.int p2), .val (.int p3), .val (.int p4), .val (.int p5), .val (.ref b1), .val (.ref b5), .val (.ref b6), .val (.int (3 : Int32)), .val (.int (0 : Int32)), .val (.ref b31), .unset, .unset, .unset] [(.ref b31), (.int p1), (.ref b36), (.ref b36)])) rfl (by rw [hml]; rfl) (Steps.refl _) (a := b36) (argsL := [(.int p1), (.ref b31)]) (rest := [(.ref b36)]) (lenOf pd_13 rfl) rfl (by show 2 * 0 + _ ≤ _; exact Nat.le_of_eq rfl) (hb hby at_139) (fun _ _ => ⟨rfl, e36, (by decide : 11 + 0 ≤ _), (by decide : 34 + 0 ≤ _)⟩)
      dsimp only [Pt.U, Pt.locs, Pt.cells, Pt.slots] at X37 l37 y37 z37 st37 hQ37
      subst l37 y37 z37
      obtain ⟨rfl, N37q, K37, G37_line, G37_fields⟩ := hQ37
      have N37 := Fr.app N35 N37q
      obtain ⟨h37, e37⟩ : ∃ z, T37.heap = z := ⟨_, rfl⟩
      rw [e37] at K37 G37_line G37_fields
      replace Z0 := Nat.le_trans Z0 K37.1
      replace O0 := O0.keep K37 (allS g_b36 all0)
      replace V_d0 := V_d0.keep K37 (ninS ne_d0_b36 nin0)
      replace E_b1 := E_b1.keep K37
      replace E5 := E5.keep K37
      replace E_b6 := E_b6.keep K37
      replace E_b31 := E_b31.keep K37
      replace Vn35 := Vn35.keep K37 (ninS ne_e1_33_b36 nin0)
      replace G35_modCount := G35_modCount.keep K37 (ninS ne_b31_b36 nin0)
      replace G35_elementData := G35_elementData.keep K37 (ninS ne_b31_b36 nin0)
      replace G35_size := G35_size.keep K37 (ninS ne_b31_b36 nin0)
      replace E_b36 := E_b36.keep K37
      refine Go.tr (T' := T37) (pc' := 142) (L' := #[.val (.int p1), .val (.int p2), .val (.int p3), .val (.int p4), .val (.int p5), .val (.ref b1), .val (.ref b5), .val (.ref b6), .val (.int (3 : Int32)), .val (.int (0 : Int32)), .val (.ref b31), .unset, .unset, .unset]) (S' := [(.ref b36)]) st37 ?_
      refine Go.st (T' := T37) (pc' := 144) (L' := #[.val (.int p1), .val (.int p2), .val (.int p3), .val (.int p4), .val (.int p5), .val (.ref b1), .val (.ref b5), .val (.ref b6), .val (.int (3 : Int32)), .val (.int (0 : Int32)), .val (.ref b31), .val (.ref b36), .unset, .unset]) (S' := []) (fun t k => XS.astore X37.here hx rfl (hb hby at_142) rfl rfl (l' := #[.val (.int p1), .val (.int p2), .val (.int p3), .val (.int p4), .val (.int p5), .val (.ref b1), .val (.ref b5), .val (.ref b6), .val (.int (3 : Int32)), .val (.int (0 : Int32)), .val (.ref b31), .val (.ref b36), .unset, .unset]) rfl k) ?_
      refine Go.st (T' := T37) (pc' := 146) (L' := #[.val (.int p1), .val (.int p2), .val (.int p3), .val (.int p4), .val (.int p5), .val (.ref b1), .val (.ref b5), .val (.ref b6), .val (.int (3 : Int32)), .val (.int (0 : Int32)), .val (.ref b31), .val (.ref b36), .unset, .unset]) (S' := [(.ref b36)]) (fun t k => XS.aload X37.here hx rfl (hb hby at_144) rfl rfl  k) ?_
      refine Go.st (T' := T37) (pc' := 148) (L' := #[.val (.int p1), .val (.int p2), .val (.int p3), .val (.int p4), .val (.int p5), .val (.ref b1), .val (.ref b5), .val (.ref b6), .val (.int (3 : Int32)), .val (.int (0 : Int32)), .val (.ref b31), .val (.ref b36), .unset, .unset]) (S' := [(.int (0 : Int32)), (.ref b36)]) (fun t k => XS.iload X37.here hx rfl (hb hby at_146) rfl  k) ?_
      obtain ⟨cq38, kq38, q38a, q38b, q38c⟩ := isOf hZ e37 E_b36
      obtain ⟨_, _, ⟨T38, L38, k38, n38⟩, -, X38, ⟨Lc38, hQ38, l38, y38, z38⟩, st38⟩ := X37.virtualBack hx (y := (⟨"com/example/yusenkabu/yusenkabu/CsvFile$Row", "field", "(I)Ljava/lang/String;"⟩ : MethodName)) (z := (⟨"com/example/yusenkabu/yusenkabu/CsvFile$Row", "field", "(I)Ljava/lang/String;"⟩ : MethodName)) hown (mvT hZ (hw _ (List.mem_of_getElem? (i := 116) rfl))) (mvT hZ (hw _ (List.mem_of_getElem? (i := 117) rfl))) (notFace_of_selects (args := #[]) (mvT hZ (hw _ (List.mem_of_getElem? (i := 119) rfl)))) (mvT hZ (hw _ (List.mem_of_getElem? (i := 119) rfl))) (mvT hZ (hw _ (List.mem_of_getElem? (i := 118) rfl))) (by decide) (backOf (W := 0) (rm21 l Z a0 hw [] b36 b31 e1_33 _ _ 0 3 b1 h37 n0 Z0 G37_fields E_b1 E_b31 G35_elementData G35_size Vn35 (by decide) (by decide) rfl) hZ (hw _ (List.mem_of_getElem? (i := 120) rfl)) (hw _ (List.mem_of_getElem? (i := 102) rfl)) (by decide) (by decide)) q38a q38c (g := (mkF m 148 #[.val (.int p1), .val (.int p2), .val (.int p3), .val (.int p4), .val (.int p5), .val (.ref b1), .val (.ref b5), .val (.ref b6), .val (.int (3 : Int32)), .val (.int (0 : Int32)), .val (.ref b31), .val (.ref b36), .unset, .unset] [(.int (0 : Int32)), (.ref b36)])) rfl (by rw [hml]; rfl) (Steps.refl _) (argsL := [(.int (0 : Int32))]) (rest := []) (lenOf pd_14 rfl) rfl (by show 2 * 0 + _ ≤ _; exact Nat.le_of_eq rfl) (hb hby at_148) (fun _ _ => ⟨rfl, e37, (by decide : 11 + 0 ≤ _), (by decide : 34 + 0 ≤ _)⟩)
      dsimp only [Pt.U, Pt.locs, Pt.cells, Pt.slots] at X38 l38 y38 z38 st38 hQ38
      subst l38 y38 z38
      obtain ⟨rfl, N38q, e38⟩ := hQ38
      have N38 := Fr.app N37 N38q
      refine Go.tr (T' := T38) (pc' := 151) (L' := #[.val (.int p1), .val (.int p2), .val (.int p3), .val (.int p4), .val (.int p5), .val (.ref b1), .val (.ref b5), .val (.ref b6), .val (.int (3 : Int32)), .val (.int (0 : Int32)), .val (.ref b31), .val (.ref b36), .unset, .unset]) (S' := [(.ref b1)]) st38 ?_
      refine Go.st (T' := T38) (pc' := 153) (L' := #[.val (.int p1), .val (.int p2), .val (.int p3), .val (.int p4), .val (.int p5), .val (.ref b1), .val (.ref b5), .val (.ref b6), .val (.int (3 : Int32)), .val (.int (0 : Int32)), .val (.ref b31), .val (.ref b36), .val (.ref b1), .unset]) (S' := []) (fun t k => XS.astore X38.here hx rfl (hb hby at_151) rfl rfl (l' := #[.val (.int p1), .val (.int p2), .val (.int p3), .val (.int p4), .val (.int p5), .val (.ref b1), .val (.ref b5), .val (.ref b6), .val (.int (3 : Int32)), .val (.int (0 : Int32)), .val (.ref b31), .val (.ref b36), .val (.ref b1), .unset]) rfl k) ?_
      refine Go.st (T' := T38) (pc' := 155) (L' := #[.val (.int p1), .val (.int p2), .val (.int p3), .val (.int p4), .val (.int p5), .val (.ref b1), .val (.ref b5), .val (.ref b6), .val (.int (3 : Int32)), .val (.int (0 : Int32)), .val (.ref b31), .val (.ref b36), .val (.ref b1), .unset]) (S' := [(.int (0 : Int32))]) (fun t k => XS.iload X38.here hx rfl (hb hby at_153) rfl  k) ?_
      refine Go.st (T' := T38) (pc' := 158) (L' := #[.val (.int p1), .val (.int p2), .val (.int p3), .val (.int p4), .val (.int p5), .val (.ref b1), .val (.ref b5), .val (.ref b6), .val (.int (3 : Int32)), .val (.int (0 : Int32)), .val (.ref b31), .val (.ref b36), .val (.ref b1), .unset]) (S' := []) (fun t k => XS.ifNo X38.here hx rfl (hb hby at_155) rfl ((if0 _ _).trans (teq (by decide : ((0 : Int32) = (0 : Int32)))).2) k) ?_
      refine Go.st (T' := T38) (pc' := 160) (L' := #[.val (.int p1), .val (.int p2), .val (.int p3), .val (.int p4), .val (.int p5), .val (.ref b1), .val (.ref b5), .val (.ref b6), .val (.int (3 : Int32)), .val (.int (0 : Int32)), .val (.ref b31), .val (.ref b36), .val (.ref b1), .unset]) (S' := [(.ref b1)]) (fun t k => XS.aload X38.here hx rfl (hb hby at_158) rfl rfl  k) ?_
      refine Go.st (T' := T38) (pc' := 162) (L' := #[.val (.int p1), .val (.int p2), .val (.int p3), .val (.int p4), .val (.int p5), .val (.ref b1), .val (.ref b5), .val (.ref b6), .val (.int (3 : Int32)), .val (.int (0 : Int32)), .val (.ref b31), .val (.ref b36), .val (.ref b1), .val (.ref b1)]) (S' := []) (fun t k => XS.astore X38.here hx rfl (hb hby at_160) rfl rfl (l' := #[.val (.int p1), .val (.int p2), .val (.int p3), .val (.int p4), .val (.int p5), .val (.ref b1), .val (.ref b5), .val (.ref b6), .val (.int (3 : Int32)), .val (.int (0 : Int32)), .val (.ref b31), .val (.ref b36), .val (.ref b1), .val (.ref b1)]) rfl k) ?_
      refine Go.st (T' := T38) (pc' := 182) (L' := #[.val (.int p1), .val (.int p2), .val (.int p3), .val (.int p4), .val (.int p5), .val (.ref b1), .val (.ref b5), .val (.ref b6), .val (.int (3 : Int32)), .val (.int (0 : Int32)), .val (.ref b31), .val (.ref b36), .val (.ref b1), .val (.ref b1)]) (S' := []) (fun t k => XS.goto X38.here hx rfl (pc0 := 162) (pc' := 182) rfl (hb hby at_162) (by decide) (by decide) k) ?_
      refine Go.st (T' := T38) (pc' := 184) (L' := #[.val (.int p1), .val (.int p2), .val (.int p3), .val (.int p4), .val (.int p5), .val (.ref b1), .val (.ref b5), .val (.ref b6), .val (.int (3 : Int32)), .val (.int (0 : Int32)), .val (.ref b31), .val (.ref b36), .val (.ref b1), .val (.ref b1)]) (S' := [(.ref b1)]) (fun t k => XS.aload X38.here hx rfl (hb hby at_182) rfl rfl  k) ?_
      refine Go.st (T' := T38) (pc' := 186) (L' := #[.val (.int p1), .val (.int p2), .val (.int p3), .val (.int p4), .val (.int p5), .val (.ref b1), .val (.ref b5), .val (.ref b6), .val (.int (3 : Int32)), .val (.int (0 : Int32)), .val (.ref b31), .val (.ref b36), .val (.ref b1), .val (.ref b1)]) (S' := [(.ref b1), (.ref b1)]) (fun t k => XS.aload X38.here hx rfl (hb hby at_184) rfl rfl  k) ?_
      refine Go.st (T' := T38) (pc' := 189) (L' := #[.val (.int p1), .val (.int p2), .val (.int p3), .val (.int p4), .val (.int p5), .val (.ref b1), .val (.ref b5), .val (.ref b6), .val (.int (3 : Int32)), .val (.int (0 : Int32)), .val (.ref b31), .val (.ref b36), .val (.ref b1), .val (.ref b1)]) (S' := []) (fun t k => Jvm.RoadKit.acmp (g := (mkF m 186 #[.val (.int p1), .val (.int p2), .val (.int p3), .val (.int p4), .val (.int p5), .val (.ref b1), .val (.ref b5), .val (.ref b6), .val (.int (3 : Int32)), .val (.int (0 : Int32)), .val (.ref b31), .val (.ref b36), .val (.ref b1), .val (.ref b1)] [(.ref b1), (.ref b1)])) X38 hx rfl rfl rfl (pc0 := 186) (pc' := 189) (same := true) rfl (hb hby at_186) rfl (decide_eq_true rfl) (by decide) (by decide) k) ?_
      refine Go.st (T' := T38) (pc' := 190) (L' := #[.val (.int p1), .val (.int p2), .val (.int p3), .val (.int p4), .val (.int p5), .val (.ref b1), .val (.ref b5), .val (.ref b6), .val (.int (3 : Int32)), .val (.int (0 : Int32)), .val (.ref b31), .val (.ref b36), .val (.ref b1), .val (.ref b1)]) (S' := [(.int (1 : Int32))]) (fun t k => XS.iconst X38.here hx rfl (hb hby at_189) k) ?_
      refine Go.st (T' := T38) (pc' := 194) (L' := #[.val (.int p1), .val (.int p2), .val (.int p3), .val (.int p4), .val (.int p5), .val (.ref b1), .val (.ref b5), .val (.ref b6), .val (.int (3 : Int32)), .val (.int (0 : Int32)), .val (.ref b31), .val (.ref b36), .val (.ref b1), .val (.ref b1)]) (S' := [(.int (1 : Int32))]) (fun t k => XS.goto X38.here hx rfl (pc0 := 190) (pc' := 194) rfl (hb hby at_190) (by decide) (by decide) k) ?_
      exact Go.retN X38 hx hlk hret (by simp) (hb hby at_194) (by decide) (by decide) (by rw [e38]; exact ⟨rfl, N38⟩)
    · rw [hr3]
      refine Go.st (T' := T10) (pc' := 87) (L' := #[.val (.int p1), .val (.int p2), .val (.int p3), .val (.int p4), .val (.int p5), .val (.ref b1), .val (.ref b5), .val (.ref b6), .val (.int (3 : Int32)), .val (.int (1 : Int32)), .unset, .unset, .unset, .unset]) (S' := []) (fun t k => XS.istore X10.here hx rfl (hb hby at_85) rfl (l' := #[.val (.int p1), .val (.int p2), .val (.int p3), .val (.int p4), .val (.int p5), .val (.ref b1), .val (.ref b5), .val (.ref b6), .val (.int (3 : Int32)), .val (.int (1 : Int32)), .unset, .unset, .unset, .unset]) rfl k) ?_
      obtain ⟨T39, h39, X39, e39, E39, A39, D39, U39, st39⟩ := newO X10 hx hZ hown (hw _ (List.mem_of_getElem? (i := 45) rfl)) (hw _ (List.mem_of_getElem? (i := 46) rfl)) (hw _ (List.mem_of_getElem? (i := 47) rfl)) e10 (g := (mkF m 87 #[.val (.int p1), .val (.int p2), .val (.int p3), .val (.int p4), .val (.int p5), .val (.ref b1), .val (.ref b5), .val (.ref b6), .val (.int (3 : Int32)), .val (.int (1 : Int32)), .unset, .unset, .unset, .unset] [])) rfl (hb hby at_87) (by decide) (by decide)
      obtain ⟨b39, g39⟩ : ∃ z, z = h10.size := ⟨_, rfl⟩
      rw [← g39] at A39 D39 U39 st39
      have ne_d0_b39 : d0 ≠ b39 := Nat.ne_of_lt (Nat.lt_of_lt_of_le V_d0.lt (Nat.le_of_eq g39.symm))
      have ne_b1_b39 : b1 ≠ b39 := Nat.ne_of_lt (Nat.lt_of_lt_of_le E_b1.lt (Nat.le_of_eq g39.symm))
      have ne_b5_b39 : b5 ≠ b39 := Nat.ne_of_lt (Nat.lt_of_lt_of_le E5.lt (Nat.le_of_eq g39.symm))
      have ne_b6_b39 : b6 ≠ b39 := Nat.ne_of_lt (Nat.lt_of_lt_of_le E_b6.lt (Nat.le_of_eq g39.symm))
      have g_b39 : n0 ≤ b39 := Nat.le_trans Z0 (Nat.le_of_eq g39.symm)
      replace Z0 := Nat.le_trans Z0 E39.1
      replace O0 := O0.ext E39
      replace V_d0 := V_d0.ext E39
      replace E_b1 := E_b1.ext E39
      replace E5 := E5.ext E39
      replace E_b6 := E_b6.ext E39
      have E_b39 := A39
      have F_b39_modCount : Fld Z h39 b39 "java/util/AbstractList" "modCount" "I" (.int (0 : Int32)) := D39 (Or.inl (hw _ (List.mem_of_getElem? (i := 65) rfl))) (ty := .int) (by decide)
      have F_b39_elementData : Fld Z h39 b39 "java/util/ArrayList" "elementData" "[Ljava/lang/Object;" .null := D39 (Or.inl (hw _ (List.mem_of_getElem? (i := 68) rfl))) (ty := (.array (.object "java/lang/Object"))) (by decide)
      have F_b39_size : Fld Z h39 b39 "java/util/ArrayList" "size" "I" (.int (0 : Int32)) := D39 (Or.inl (hw _ (List.mem_of_getElem? (i := 77) rfl))) (ty := .int) (by decide)
      refine Go.st (T' := T39) (pc' := 90) (L' := #[.val (.int p1), .val (.int p2), .val (.int p3), .val (.int p4), .val (.int p5), .val (.ref b1), .val (.ref b5), .val (.ref b6), .val (.int (3 : Int32)), .val (.int (1 : Int32)), .unset, .unset, .unset, .unset]) (S' := [(.ref b39)]) st39 ?_
      refine Go.st (T' := T39) (pc' := 91) (L' := #[.val (.int p1), .val (.int p2), .val (.int p3), .val (.int p4), .val (.int p5), .val (.ref b1), .val (.ref b5), .val (.ref b6), .val (.int (3 : Int32)), .val (.int (1 : Int32)), .unset, .unset, .unset, .unset]) (S' := [(.ref b39), (.ref b39)]) (fun t k => XS.dup X39.here hx rfl (hb hby at_90) rfl rfl k) ?_
      obtain ⟨_, _, ⟨T40, L40, k40, n40⟩, -, X40, ⟨Lc40, hQ40, l40, y40, z40⟩, st40⟩ := X39.specialBack hx (y := (⟨"java/util/ArrayList", "<init>", "()V"⟩ : MethodName)) rfl hown (mvT hZ (hw _ (List.mem_of_getElem? (i := 48) rfl))) (mvT hZ (hw _ (List.mem_of_getElem? (i := 49) rfl))) (mvT hZ (hw _ (List.mem_of_getElem? (i := 50) rfl))) (by decide) (backOf (W := 1) (rm11 l Z a0 hw [] b39 d0 h39 n0 Z0 SD O0 E_b39 g_b39 F_b39_modCount F_b39_elementData F_b39_size) hZ (hw _ (List.mem_of_getElem? (i := 50) rfl)) (hw _ (List.mem_of_getElem? (i := 47) rfl)) (by decide) (by decide)) (g := (mkF m 91 #[.val (.int p1), .val (.int p2), .val (.int p3), .val (.int p4), .val (.int p5), .val (.ref b1), .val (.ref b5), .val (.ref b6), .val (.int (3 : Int32)), .val (.int (1 : Int32)), .unset, .unset, .unset, .unset] [(.ref b39), (.ref b39)])) rfl (by rw [hml]; rfl) (Steps.refl _) (a := b39) (argsL := []) (rest := [(.ref b39)]) (lenOf pd_3 rfl) rfl (by show 2 * 0 + _ ≤ _; exact Nat.le_of_eq rfl) (hb hby at_91) (fun _ _ => ⟨rfl, e39, (by decide : 9 + 0 ≤ _), (by decide : 22 + 0 ≤ _)⟩)
      dsimp only [Pt.U, Pt.locs, Pt.cells, Pt.slots] at X40 l40 y40 z40 st40 hQ40
      subst l40 y40 z40
      obtain ⟨rfl, N40q, K40, G40_modCount, G40_elementData, G40_size⟩ := hQ40
      have N40 := Fr.app N10 N40q
      obtain ⟨h40, e40⟩ : ∃ z, T40.heap = z := ⟨_, rfl⟩
      rw [e40] at K40 G40_modCount G40_elementData G40_size
      replace Z0 := Nat.le_trans Z0 K40.1
      replace O0 := O0.keep K40 (allS g_b39 all0)
      replace V_d0 := V_d0.keep K40 (ninS ne_d0_b39 nin0)
      replace E_b1 := E_b1.keep K40
      replace E5 := E5.keep K40
      replace E_b6 := E_b6.keep K40
      replace E_b39 := E_b39.keep K40
      refine Go.tr (T' := T40) (pc' := 94) (L' := #[.val (.int p1), .val (.int p2), .val (.int p3), .val (.int p4), .val (.int p5), .val (.ref b1), .val (.ref b5), .val (.ref b6), .val (.int (3 : Int32)), .val (.int (1 : Int32)), .unset, .unset, .unset, .unset]) (S' := [(.ref b39)]) st40 ?_
      refine Go.st (T' := T40) (pc' := 96) (L' := #[.val (.int p1), .val (.int p2), .val (.int p3), .val (.int p4), .val (.int p5), .val (.ref b1), .val (.ref b5), .val (.ref b6), .val (.int (3 : Int32)), .val (.int (1 : Int32)), .val (.ref b39), .unset, .unset, .unset]) (S' := []) (fun t k => XS.astore X40.here hx rfl (hb hby at_94) rfl rfl (l' := #[.val (.int p1), .val (.int p2), .val (.int p3), .val (.int p4), .val (.int p5), .val (.ref b1), .val (.ref b5), .val (.ref b6), .val (.int (3 : Int32)), .val (.int (1 : Int32)), .val (.ref b39), .unset, .unset, .unset]) rfl k) ?_
      refine Go.st (T' := T40) (pc' := 98) (L' := #[.val (.int p1), .val (.int p2), .val (.int p3), .val (.int p4), .val (.int p5), .val (.ref b1), .val (.ref b5), .val (.ref b6), .val (.int (3 : Int32)), .val (.int (1 : Int32)), .val (.ref b39), .unset, .unset, .unset]) (S' := [(.ref b39)]) (fun t k => XS.aload X40.here hx rfl (hb hby at_96) rfl rfl  k) ?_
      refine Go.st (T' := T40) (pc' := 100) (L' := #[.val (.int p1), .val (.int p2), .val (.int p3), .val (.int p4), .val (.int p5), .val (.ref b1), .val (.ref b5), .val (.ref b6), .val (.int (3 : Int32)), .val (.int (1 : Int32)), .val (.ref b39), .unset, .unset, .unset]) (S' := [(.ref b1), (.ref b39)]) (fun t k => XS.aload X40.here hx rfl (hb hby at_98) rfl rfl  k) ?_
      obtain ⟨cq41, kq41, q41a, q41b, q41c⟩ := isOf hZ e40 E_b39
      obtain ⟨_, _, ⟨T41, L41, k41, n41⟩, -, X41, ⟨Lc41, hQ41, l41, y41, z41⟩, st41⟩ := X40.virtualBack hx (y := (⟨"java/util/ArrayList", "add", "(Ljava/lang/Object;)Z"⟩ : MethodName)) (z := (⟨"java/util/ArrayList", "add", "(Ljava/lang/Object;)Z"⟩ : MethodName)) hown (mvT hZ (hw _ (List.mem_of_getElem? (i := 69) rfl))) (mvT hZ (hw _ (List.mem_of_getElem? (i := 70) rfl))) (notFace_of_selects (args := #[]) (mvT hZ (hw _ (List.mem_of_getElem? (i := 72) rfl)))) (mvT hZ (hw _ (List.mem_of_getElem? (i := 72) rfl))) (mvT hZ (hw _ (List.mem_of_getElem? (i := 71) rfl))) (by decide) (backOf (W := 0) (rm14a l Z a0 hw [] b39 d0 (0 : Int32) _ b1 h40 n0 Z0 SD O0 E_b39 g_b39 (Ne.symm ne_d0_b39) G40_modCount G40_elementData G40_size V_d0 E_b1 (Ne.symm ne_b1_b39)) hZ (hw _ (List.mem_of_getElem? (i := 73) rfl)) (hw _ (List.mem_of_getElem? (i := 47) rfl)) (by decide) (by decide)) q41a q41c (g := (mkF m 100 #[.val (.int p1), .val (.int p2), .val (.int p3), .val (.int p4), .val (.int p5), .val (.ref b1), .val (.ref b5), .val (.ref b6), .val (.int (3 : Int32)), .val (.int (1 : Int32)), .val (.ref b39), .unset, .unset, .unset] [(.ref b1), (.ref b39)])) rfl (by rw [hml]; rfl) (Steps.refl _) (argsL := [(.ref b1)]) (rest := []) (lenOf pd_12 rfl) rfl (by show 2 * 0 + _ ≤ _; exact Nat.le_of_eq rfl) (hb hby at_100) (fun _ _ => ⟨rfl, e40, (by decide : 9 + 1 ≤ _), (by decide : 22 + 10 ≤ _)⟩)
      dsimp only [Pt.U, Pt.locs, Pt.cells, Pt.slots] at X41 l41 y41 z41 st41 hQ41
      subst l41 y41 z41
      obtain ⟨e1_41, ka41, rfl, N41q, K41, g_e1_41, lt41, G41_modCount, G41_elementData, G41_size, Ov41, V_e1_41⟩ := hQ41
      have N41 := Fr.app N40 N41q
      have ne_d0_e1_41 : d0 ≠ e1_41 := Nat.ne_of_lt (Nat.lt_of_lt_of_le V_d0.lt lt41)
      have ne_b1_e1_41 : b1 ≠ e1_41 := Nat.ne_of_lt (Nat.lt_of_lt_of_le E_b1.lt lt41)
      have ne_b5_e1_41 : b5 ≠ e1_41 := Nat.ne_of_lt (Nat.lt_of_lt_of_le E5.lt lt41)
      have ne_b6_e1_41 : b6 ≠ e1_41 := Nat.ne_of_lt (Nat.lt_of_lt_of_le E_b6.lt lt41)
      have ne_b39_e1_41 : b39 ≠ e1_41 := Nat.ne_of_lt (Nat.lt_of_lt_of_le E_b39.lt lt41)
      obtain ⟨h41, e41⟩ : ∃ z, T41.heap = z := ⟨_, rfl⟩
      rw [e41] at K41 G41_modCount G41_elementData G41_size V_e1_41
      replace Z0 := Nat.le_trans Z0 K41.1
      replace O0 := O0.keep K41 (allS g_b39 all0)
      replace V_d0 := V_d0.keep K41 (ninS ne_d0_b39 nin0)
      replace E_b1 := E_b1.keep K41
      replace E5 := E5.keep K41
      replace E_b6 := E_b6.keep K41
      replace E_b39 := E_b39.keep K41
      refine Go.tr (T' := T41) (pc' := 103) (L' := #[.val (.int p1), .val (.int p2), .val (.int p3), .val (.int p4), .val (.int p5), .val (.ref b1), .val (.ref b5), .val (.ref b6), .val (.int (3 : Int32)), .val (.int (1 : Int32)), .val (.ref b39), .unset, .unset, .unset]) (S' := [(.int (1 : Int32))]) st41 ?_
      refine Go.st (T' := T41) (pc' := 104) (L' := #[.val (.int p1), .val (.int p2), .val (.int p3), .val (.int p4), .val (.int p5), .val (.ref b1), .val (.ref b5), .val (.ref b6), .val (.int (3 : Int32)), .val (.int (1 : Int32)), .val (.ref b39), .unset, .unset, .unset]) (S' := []) (fun t k => XS.pop X41.here hx rfl (hb hby at_103) rfl rfl k) ?_
      refine Go.st (T' := T41) (pc' := 106) (L' := #[.val (.int p1), .val (.int p2), .val (.int p3), .val (.int p4), .val (.int p5), .val (.ref b1), .val (.ref b5), .val (.ref b6), .val (.int (3 : Int32)), .val (.int (1 : Int32)), .val (.ref b39), .unset, .unset, .unset]) (S' := [(.int (3 : Int32))]) (fun t k => XS.iload X41.here hx rfl (hb hby at_104) rfl  k) ?_
      refine Go.st (T' := T41) (pc' := 107) (L' := #[.val (.int p1), .val (.int p2), .val (.int p3), .val (.int p4), .val (.int p5), .val (.ref b1), .val (.ref b5), .val (.ref b6), .val (.int (3 : Int32)), .val (.int (1 : Int32)), .val (.ref b39), .unset, .unset, .unset]) (S' := [(.int (2 : Int32)), (.int (3 : Int32))]) (fun t k => XS.iconst X41.here hx rfl (hb hby at_106) k) ?_
      refine Go.st (T' := T41) (pc' := 110) (L' := #[.val (.int p1), .val (.int p2), .val (.int p3), .val (.int p4), .val (.int p5), .val (.ref b1), .val (.ref b5), .val (.ref b6), .val (.int (3 : Int32)), .val (.int (1 : Int32)), .val (.ref b39), .unset, .unset, .unset]) (S' := []) (fun t k => XS.icmpNo X41.here hx rfl (hb hby at_107) rfl (flt (by decide : ¬ ((3 : Int32) < (2 : Int32)))).1 k) ?_
      refine Go.st (T' := T41) (pc' := 112) (L' := #[.val (.int p1), .val (.int p2), .val (.int p3), .val (.int p4), .val (.int p5), .val (.ref b1), .val (.ref b5), .val (.ref b6), .val (.int (3 : Int32)), .val (.int (1 : Int32)), .val (.ref b39), .unset, .unset, .unset]) (S' := [(.ref b39)]) (fun t k => XS.aload X41.here hx rfl (hb hby at_110) rfl rfl  k) ?_
      refine Go.st (T' := T41) (pc' := 114) (L' := #[.val (.int p1), .val (.int p2), .val (.int p3), .val (.int p4), .val (.int p5), .val (.ref b1), .val (.ref b5), .val (.ref b6), .val (.int (3 : Int32)), .val (.int (1 : Int32)), .val (.ref b39), .unset, .unset, .unset]) (S' := [(.ref b5), (.ref b39)]) (fun t k => XS.aload X41.here hx rfl (hb hby at_112) rfl rfl  k) ?_
      obtain ⟨cq42, kq42, q42a, q42b, q42c⟩ := isOf hZ e41 E_b39
      obtain ⟨_, _, ⟨T42, L42, k42, n42⟩, -, X42, ⟨Lc42, hQ42, l42, y42, z42⟩, st42⟩ := X41.virtualBack hx (y := (⟨"java/util/ArrayList", "add", "(Ljava/lang/Object;)Z"⟩ : MethodName)) (z := (⟨"java/util/ArrayList", "add", "(Ljava/lang/Object;)Z"⟩ : MethodName)) hown (mvT hZ (hw _ (List.mem_of_getElem? (i := 69) rfl))) (mvT hZ (hw _ (List.mem_of_getElem? (i := 70) rfl))) (notFace_of_selects (args := #[]) (mvT hZ (hw _ (List.mem_of_getElem? (i := 72) rfl)))) (mvT hZ (hw _ (List.mem_of_getElem? (i := 72) rfl))) (mvT hZ (hw _ (List.mem_of_getElem? (i := 71) rfl))) (by decide) (backOf (W := 0) (rm14b l Z a0 hw [] b39 e1_41 ((0 : Int32) + (1 : Int32)) _ 1 [(.ref b1), .null, .null] b5 h41 n0 Z0 E_b39 g_b39 g_e1_41 ne_b39_e1_41 Ov41 G41_modCount G41_elementData G41_size V_e1_41 rfl (by decide) E5 (Ne.symm ne_b5_b39)) hZ (hw _ (List.mem_of_getElem? (i := 73) rfl)) (hw _ (List.mem_of_getElem? (i := 47) rfl)) (by decide) (by decide)) q42a q42c (g := (mkF m 114 #[.val (.int p1), .val (.int p2), .val (.int p3), .val (.int p4), .val (.int p5), .val (.ref b1), .val (.ref b5), .val (.ref b6), .val (.int (3 : Int32)), .val (.int (1 : Int32)), .val (.ref b39), .unset, .unset, .unset] [(.ref b5), (.ref b39)])) rfl (by rw [hml]; rfl) (Steps.refl _) (argsL := [(.ref b5)]) (rest := []) (lenOf pd_12 rfl) rfl (by show 2 * 0 + _ ≤ _; exact Nat.le_of_eq rfl) (hb hby at_114) (fun _ _ => ⟨rfl, e41, (by decide : 10 + 0 ≤ _), (by decide : 32 + 0 ≤ _)⟩)
      dsimp only [Pt.U, Pt.locs, Pt.cells, Pt.slots] at X42 l42 y42 z42 st42 hQ42
      subst l42 y42 z42
      obtain ⟨rfl, N42q, K42, G42_modCount, G42_elementData, G42_size, Vn42⟩ := hQ42
      have N42 := Fr.app N41 N42q
      obtain ⟨h42, e42⟩ : ∃ z, T42.heap = z := ⟨_, rfl⟩
      rw [e42] at K42 G42_modCount G42_elementData G42_size Vn42
      replace Z0 := Nat.le_trans Z0 K42.1
      replace O0 := O0.keep K42 (allS g_b39 (allS g_e1_41 all0))
      replace V_d0 := V_d0.keep K42 (ninS ne_d0_b39 (ninS ne_d0_e1_41 nin0))
      replace E_b1 := E_b1.keep K42
      replace E5 := E5.keep K42
      replace E_b6 := E_b6.keep K42
      replace E_b39 := E_b39.keep K42
      have Vn42 : Arv Z h42 e1_41 ka41 (.object "java/lang/Object") (10 : Int32) [(.ref b1), (.ref b5), .null] .null := Vn42
      refine Go.tr (T' := T42) (pc' := 117) (L' := #[.val (.int p1), .val (.int p2), .val (.int p3), .val (.int p4), .val (.int p5), .val (.ref b1), .val (.ref b5), .val (.ref b6), .val (.int (3 : Int32)), .val (.int (1 : Int32)), .val (.ref b39), .unset, .unset, .unset]) (S' := [(.int (1 : Int32))]) st42 ?_
      refine Go.st (T' := T42) (pc' := 118) (L' := #[.val (.int p1), .val (.int p2), .val (.int p3), .val (.int p4), .val (.int p5), .val (.ref b1), .val (.ref b5), .val (.ref b6), .val (.int (3 : Int32)), .val (.int (1 : Int32)), .val (.ref b39), .unset, .unset, .unset]) (S' := []) (fun t k => XS.pop X42.here hx rfl (hb hby at_117) rfl rfl k) ?_
      refine Go.st (T' := T42) (pc' := 120) (L' := #[.val (.int p1), .val (.int p2), .val (.int p3), .val (.int p4), .val (.int p5), .val (.ref b1), .val (.ref b5), .val (.ref b6), .val (.int (3 : Int32)), .val (.int (1 : Int32)), .val (.ref b39), .unset, .unset, .unset]) (S' := [(.int (3 : Int32))]) (fun t k => XS.iload X42.here hx rfl (hb hby at_118) rfl  k) ?_
      refine Go.st (T' := T42) (pc' := 121) (L' := #[.val (.int p1), .val (.int p2), .val (.int p3), .val (.int p4), .val (.int p5), .val (.ref b1), .val (.ref b5), .val (.ref b6), .val (.int (3 : Int32)), .val (.int (1 : Int32)), .val (.ref b39), .unset, .unset, .unset]) (S' := [(.int (3 : Int32)), (.int (3 : Int32))]) (fun t k => XS.iconst X42.here hx rfl (hb hby at_120) k) ?_
      refine Go.st (T' := T42) (pc' := 124) (L' := #[.val (.int p1), .val (.int p2), .val (.int p3), .val (.int p4), .val (.int p5), .val (.ref b1), .val (.ref b5), .val (.ref b6), .val (.int (3 : Int32)), .val (.int (1 : Int32)), .val (.ref b39), .unset, .unset, .unset]) (S' := []) (fun t k => XS.icmpNo X42.here hx rfl (hb hby at_121) rfl (flt (by decide : ¬ ((3 : Int32) < (3 : Int32)))).1 k) ?_
      refine Go.st (T' := T42) (pc' := 126) (L' := #[.val (.int p1), .val (.int p2), .val (.int p3), .val (.int p4), .val (.int p5), .val (.ref b1), .val (.ref b5), .val (.ref b6), .val (.int (3 : Int32)), .val (.int (1 : Int32)), .val (.ref b39), .unset, .unset, .unset]) (S' := [(.ref b39)]) (fun t k => XS.aload X42.here hx rfl (hb hby at_124) rfl rfl  k) ?_
      refine Go.st (T' := T42) (pc' := 128) (L' := #[.val (.int p1), .val (.int p2), .val (.int p3), .val (.int p4), .val (.int p5), .val (.ref b1), .val (.ref b5), .val (.ref b6), .val (.int (3 : Int32)), .val (.int (1 : Int32)), .val (.ref b39), .unset, .unset, .unset]) (S' := [(.ref b6), (.ref b39)]) (fun t k => XS.aload X42.here hx rfl (hb hby at_126) rfl rfl  k) ?_
      obtain ⟨cq43, kq43, q43a, q43b, q43c⟩ := isOf hZ e42 E_b39
      obtain ⟨_, _, ⟨T43, L43, k43, n43⟩, -, X43, ⟨Lc43, hQ43, l43, y43, z43⟩, st43⟩ := X42.virtualBack hx (y := (⟨"java/util/ArrayList", "add", "(Ljava/lang/Object;)Z"⟩ : MethodName)) (z := (⟨"java/util/ArrayList", "add", "(Ljava/lang/Object;)Z"⟩ : MethodName)) hown (mvT hZ (hw _ (List.mem_of_getElem? (i := 69) rfl))) (mvT hZ (hw _ (List.mem_of_getElem? (i := 70) rfl))) (notFace_of_selects (args := #[]) (mvT hZ (hw _ (List.mem_of_getElem? (i := 72) rfl)))) (mvT hZ (hw _ (List.mem_of_getElem? (i := 72) rfl))) (mvT hZ (hw _ (List.mem_of_getElem? (i := 71) rfl))) (by decide) (backOf (W := 0) (rm14b l Z a0 hw [] b39 e1_41 (((0 : Int32) + (1 : Int32)) + (1 : Int32)) _ 2 [(.ref b1), (.ref b5), .null] b6 h42 n0 Z0 E_b39 g_b39 g_e1_41 ne_b39_e1_41 Ov41 G42_modCount G42_elementData G42_size Vn42 rfl (by decide) E_b6 (Ne.symm ne_b6_b39)) hZ (hw _ (List.mem_of_getElem? (i := 73) rfl)) (hw _ (List.mem_of_getElem? (i := 47) rfl)) (by decide) (by decide)) q43a q43c (g := (mkF m 128 #[.val (.int p1), .val (.int p2), .val (.int p3), .val (.int p4), .val (.int p5), .val (.ref b1), .val (.ref b5), .val (.ref b6), .val (.int (3 : Int32)), .val (.int (1 : Int32)), .val (.ref b39), .unset, .unset, .unset] [(.ref b6), (.ref b39)])) rfl (by rw [hml]; rfl) (Steps.refl _) (argsL := [(.ref b6)]) (rest := []) (lenOf pd_12 rfl) rfl (by show 2 * 0 + _ ≤ _; exact Nat.le_of_eq rfl) (hb hby at_128) (fun _ _ => ⟨rfl, e42, (by decide : 10 + 0 ≤ _), (by decide : 32 + 0 ≤ _)⟩)
      dsimp only [Pt.U, Pt.locs, Pt.cells, Pt.slots] at X43 l43 y43 z43 st43 hQ43
      subst l43 y43 z43
      obtain ⟨rfl, N43q, K43, G43_modCount, G43_elementData, G43_size, Vn43⟩ := hQ43
      have N43 := Fr.app N42 N43q
      obtain ⟨h43, e43⟩ : ∃ z, T43.heap = z := ⟨_, rfl⟩
      rw [e43] at K43 G43_modCount G43_elementData G43_size Vn43
      replace Z0 := Nat.le_trans Z0 K43.1
      replace O0 := O0.keep K43 (allS g_b39 (allS g_e1_41 all0))
      replace V_d0 := V_d0.keep K43 (ninS ne_d0_b39 (ninS ne_d0_e1_41 nin0))
      replace E_b1 := E_b1.keep K43
      replace E5 := E5.keep K43
      replace E_b6 := E_b6.keep K43
      replace E_b39 := E_b39.keep K43
      have Vn43 : Arv Z h43 e1_41 ka41 (.object "java/lang/Object") (10 : Int32) [(.ref b1), (.ref b5), (.ref b6)] .null := Vn43
      refine Go.tr (T' := T43) (pc' := 131) (L' := #[.val (.int p1), .val (.int p2), .val (.int p3), .val (.int p4), .val (.int p5), .val (.ref b1), .val (.ref b5), .val (.ref b6), .val (.int (3 : Int32)), .val (.int (1 : Int32)), .val (.ref b39), .unset, .unset, .unset]) (S' := [(.int (1 : Int32))]) st43 ?_
      refine Go.st (T' := T43) (pc' := 132) (L' := #[.val (.int p1), .val (.int p2), .val (.int p3), .val (.int p4), .val (.int p5), .val (.ref b1), .val (.ref b5), .val (.ref b6), .val (.int (3 : Int32)), .val (.int (1 : Int32)), .val (.ref b39), .unset, .unset, .unset]) (S' := []) (fun t k => XS.pop X43.here hx rfl (hb hby at_131) rfl rfl k) ?_
      obtain ⟨T44, h44, X44, e44, E44, A44, D44, U44, st44⟩ := newO X43 hx hZ hown (hw _ (List.mem_of_getElem? (i := 100) rfl)) (hw _ (List.mem_of_getElem? (i := 101) rfl)) (hw _ (List.mem_of_getElem? (i := 102) rfl)) e43 (g := (mkF m 132 #[.val (.int p1), .val (.int p2), .val (.int p3), .val (.int p4), .val (.int p5), .val (.ref b1), .val (.ref b5), .val (.ref b6), .val (.int (3 : Int32)), .val (.int (1 : Int32)), .val (.ref b39), .unset, .unset, .unset] [])) rfl (hb hby at_132) (by decide) (by decide)
      obtain ⟨b44, g44⟩ : ∃ z, z = h43.size := ⟨_, rfl⟩
      rw [← g44] at A44 D44 U44 st44
      have ne_d0_b44 : d0 ≠ b44 := Nat.ne_of_lt (Nat.lt_of_lt_of_le V_d0.lt (Nat.le_of_eq g44.symm))
      have ne_b1_b44 : b1 ≠ b44 := Nat.ne_of_lt (Nat.lt_of_lt_of_le E_b1.lt (Nat.le_of_eq g44.symm))
      have ne_b5_b44 : b5 ≠ b44 := Nat.ne_of_lt (Nat.lt_of_lt_of_le E5.lt (Nat.le_of_eq g44.symm))
      have ne_b6_b44 : b6 ≠ b44 := Nat.ne_of_lt (Nat.lt_of_lt_of_le E_b6.lt (Nat.le_of_eq g44.symm))
      have ne_b39_b44 : b39 ≠ b44 := Nat.ne_of_lt (Nat.lt_of_lt_of_le E_b39.lt (Nat.le_of_eq g44.symm))
      have ne_e1_41_b44 : e1_41 ≠ b44 := Nat.ne_of_lt (Nat.lt_of_lt_of_le Vn43.lt (Nat.le_of_eq g44.symm))
      have g_b44 : n0 ≤ b44 := Nat.le_trans Z0 (Nat.le_of_eq g44.symm)
      replace Z0 := Nat.le_trans Z0 E44.1
      replace O0 := O0.ext E44
      replace V_d0 := V_d0.ext E44
      replace E_b1 := E_b1.ext E44
      replace E5 := E5.ext E44
      replace E_b6 := E_b6.ext E44
      replace E_b39 := E_b39.ext E44
      replace Vn43 := Vn43.ext E44
      replace G43_modCount := G43_modCount.ext E44
      replace G43_elementData := G43_elementData.ext E44
      replace G43_size := G43_size.ext E44
      have E_b44 := A44
      have F_b44_line : Fld Z h44 b44 "com/example/yusenkabu/yusenkabu/CsvFile$Row" "line" "I" (.int (0 : Int32)) := D44 (Or.inr (hw _ (List.mem_of_getElem? (i := 113) rfl))) (ty := .int) (by decide)
      have F_b44_fields : Fld Z h44 b44 "com/example/yusenkabu/yusenkabu/CsvFile$Row" "fields" "Ljava/util/List;" .null := D44 (Or.inr (hw _ (List.mem_of_getElem? (i := 115) rfl))) (ty := (.object "java/util/List")) (by decide)
      refine Go.st (T' := T44) (pc' := 135) (L' := #[.val (.int p1), .val (.int p2), .val (.int p3), .val (.int p4), .val (.int p5), .val (.ref b1), .val (.ref b5), .val (.ref b6), .val (.int (3 : Int32)), .val (.int (1 : Int32)), .val (.ref b39), .unset, .unset, .unset]) (S' := [(.ref b44)]) st44 ?_
      refine Go.st (T' := T44) (pc' := 136) (L' := #[.val (.int p1), .val (.int p2), .val (.int p3), .val (.int p4), .val (.int p5), .val (.ref b1), .val (.ref b5), .val (.ref b6), .val (.int (3 : Int32)), .val (.int (1 : Int32)), .val (.ref b39), .unset, .unset, .unset]) (S' := [(.ref b44), (.ref b44)]) (fun t k => XS.dup X44.here hx rfl (hb hby at_135) rfl rfl k) ?_
      refine Go.st (T' := T44) (pc' := 137) (L' := #[.val (.int p1), .val (.int p2), .val (.int p3), .val (.int p4), .val (.int p5), .val (.ref b1), .val (.ref b5), .val (.ref b6), .val (.int (3 : Int32)), .val (.int (1 : Int32)), .val (.ref b39), .unset, .unset, .unset]) (S' := [(.int p1), (.ref b44), (.ref b44)]) (fun t k => XS.iloadN X44.here hx rfl (hb hby at_136) rfl  k) ?_
      refine Go.st (T' := T44) (pc' := 139) (L' := #[.val (.int p1), .val (.int p2), .val (.int p3), .val (.int p4), .val (.int p5), .val (.ref b1), .val (.ref b5), .val (.ref b6), .val (.int (3 : Int32)), .val (.int (1 : Int32)), .val (.ref b39), .unset, .unset, .unset]) (S' := [(.ref b39), (.int p1), (.ref b44), (.ref b44)]) (fun t k => XS.aload X44.here hx rfl (hb hby at_137) rfl rfl  k) ?_
      obtain ⟨_, _, ⟨T45, L45, k45, n45⟩, -, X45, ⟨Lc45, hQ45, l45, y45, z45⟩, st45⟩ := X44.specialBack hx (y := (⟨"com/example/yusenkabu/yusenkabu/CsvFile$Row", "<init>", "(ILjava/util/List;)V"⟩ : MethodName)) rfl hown (mvT hZ (hw _ (List.mem_of_getElem? (i := 103) rfl))) (mvT hZ (hw _ (List.mem_of_getElem? (i := 104) rfl))) (mvT hZ (hw _ (List.mem_of_getElem? (i := 105) rfl))) (by decide) (backOf (W := 1) (rm19 l Z a0 hw [] b44 p1 b39 h44 n0 Z0 E_b44 g_b44 F_b44_line F_b44_fields) hZ (hw _ (List.mem_of_getElem? (i := 105) rfl)) (hw _ (List.mem_of_getElem? (i := 102) rfl)) (by decide) (by decide)) (g := (mkF m 139 #[.val (.int p1), .val (.int p2), .val (.int p3), .val (.int p4), .val (.int p5), .val (.ref b1), .val (.ref b5), .val (.ref b6), .val (.int (3 : Int32)), .val (.int (1 : Int32)), .val (.ref b39), .unset, .unset, .unset] [(.ref b39), (.int p1), (.ref b44), (.ref b44)])) rfl (by rw [hml]; rfl) (Steps.refl _) (a := b44) (argsL := [(.int p1), (.ref b39)]) (rest := [(.ref b44)]) (lenOf pd_13 rfl) rfl (by show 2 * 0 + _ ≤ _; exact Nat.le_of_eq rfl) (hb hby at_139) (fun _ _ => ⟨rfl, e44, (by decide : 11 + 0 ≤ _), (by decide : 34 + 0 ≤ _)⟩)
      dsimp only [Pt.U, Pt.locs, Pt.cells, Pt.slots] at X45 l45 y45 z45 st45 hQ45
      subst l45 y45 z45
      obtain ⟨rfl, N45q, K45, G45_line, G45_fields⟩ := hQ45
      have N45 := Fr.app N43 N45q
      obtain ⟨h45, e45⟩ : ∃ z, T45.heap = z := ⟨_, rfl⟩
      rw [e45] at K45 G45_line G45_fields
      replace Z0 := Nat.le_trans Z0 K45.1
      replace O0 := O0.keep K45 (allS g_b44 all0)
      replace V_d0 := V_d0.keep K45 (ninS ne_d0_b44 nin0)
      replace E_b1 := E_b1.keep K45
      replace E5 := E5.keep K45
      replace E_b6 := E_b6.keep K45
      replace E_b39 := E_b39.keep K45
      replace Vn43 := Vn43.keep K45 (ninS ne_e1_41_b44 nin0)
      replace G43_modCount := G43_modCount.keep K45 (ninS ne_b39_b44 nin0)
      replace G43_elementData := G43_elementData.keep K45 (ninS ne_b39_b44 nin0)
      replace G43_size := G43_size.keep K45 (ninS ne_b39_b44 nin0)
      replace E_b44 := E_b44.keep K45
      refine Go.tr (T' := T45) (pc' := 142) (L' := #[.val (.int p1), .val (.int p2), .val (.int p3), .val (.int p4), .val (.int p5), .val (.ref b1), .val (.ref b5), .val (.ref b6), .val (.int (3 : Int32)), .val (.int (1 : Int32)), .val (.ref b39), .unset, .unset, .unset]) (S' := [(.ref b44)]) st45 ?_
      refine Go.st (T' := T45) (pc' := 144) (L' := #[.val (.int p1), .val (.int p2), .val (.int p3), .val (.int p4), .val (.int p5), .val (.ref b1), .val (.ref b5), .val (.ref b6), .val (.int (3 : Int32)), .val (.int (1 : Int32)), .val (.ref b39), .val (.ref b44), .unset, .unset]) (S' := []) (fun t k => XS.astore X45.here hx rfl (hb hby at_142) rfl rfl (l' := #[.val (.int p1), .val (.int p2), .val (.int p3), .val (.int p4), .val (.int p5), .val (.ref b1), .val (.ref b5), .val (.ref b6), .val (.int (3 : Int32)), .val (.int (1 : Int32)), .val (.ref b39), .val (.ref b44), .unset, .unset]) rfl k) ?_
      refine Go.st (T' := T45) (pc' := 146) (L' := #[.val (.int p1), .val (.int p2), .val (.int p3), .val (.int p4), .val (.int p5), .val (.ref b1), .val (.ref b5), .val (.ref b6), .val (.int (3 : Int32)), .val (.int (1 : Int32)), .val (.ref b39), .val (.ref b44), .unset, .unset]) (S' := [(.ref b44)]) (fun t k => XS.aload X45.here hx rfl (hb hby at_144) rfl rfl  k) ?_
      refine Go.st (T' := T45) (pc' := 148) (L' := #[.val (.int p1), .val (.int p2), .val (.int p3), .val (.int p4), .val (.int p5), .val (.ref b1), .val (.ref b5), .val (.ref b6), .val (.int (3 : Int32)), .val (.int (1 : Int32)), .val (.ref b39), .val (.ref b44), .unset, .unset]) (S' := [(.int (1 : Int32)), (.ref b44)]) (fun t k => XS.iload X45.here hx rfl (hb hby at_146) rfl  k) ?_
      obtain ⟨cq46, kq46, q46a, q46b, q46c⟩ := isOf hZ e45 E_b44
      obtain ⟨_, _, ⟨T46, L46, k46, n46⟩, -, X46, ⟨Lc46, hQ46, l46, y46, z46⟩, st46⟩ := X45.virtualBack hx (y := (⟨"com/example/yusenkabu/yusenkabu/CsvFile$Row", "field", "(I)Ljava/lang/String;"⟩ : MethodName)) (z := (⟨"com/example/yusenkabu/yusenkabu/CsvFile$Row", "field", "(I)Ljava/lang/String;"⟩ : MethodName)) hown (mvT hZ (hw _ (List.mem_of_getElem? (i := 116) rfl))) (mvT hZ (hw _ (List.mem_of_getElem? (i := 117) rfl))) (notFace_of_selects (args := #[]) (mvT hZ (hw _ (List.mem_of_getElem? (i := 119) rfl)))) (mvT hZ (hw _ (List.mem_of_getElem? (i := 119) rfl))) (mvT hZ (hw _ (List.mem_of_getElem? (i := 118) rfl))) (by decide) (backOf (W := 0) (rm21 l Z a0 hw [] b44 b39 e1_41 _ _ 1 3 b5 h45 n0 Z0 G45_fields E5 E_b39 G43_elementData G43_size Vn43 (by decide) (by decide) rfl) hZ (hw _ (List.mem_of_getElem? (i := 120) rfl)) (hw _ (List.mem_of_getElem? (i := 102) rfl)) (by decide) (by decide)) q46a q46c (g := (mkF m 148 #[.val (.int p1), .val (.int p2), .val (.int p3), .val (.int p4), .val (.int p5), .val (.ref b1), .val (.ref b5), .val (.ref b6), .val (.int (3 : Int32)), .val (.int (1 : Int32)), .val (.ref b39), .val (.ref b44), .unset, .unset] [(.int (1 : Int32)), (.ref b44)])) rfl (by rw [hml]; rfl) (Steps.refl _) (argsL := [(.int (1 : Int32))]) (rest := []) (lenOf pd_14 rfl) rfl (by show 2 * 0 + _ ≤ _; exact Nat.le_of_eq rfl) (hb hby at_148) (fun _ _ => ⟨rfl, e45, (by decide : 11 + 0 ≤ _), (by decide : 34 + 0 ≤ _)⟩)
      dsimp only [Pt.U, Pt.locs, Pt.cells, Pt.slots] at X46 l46 y46 z46 st46 hQ46
      subst l46 y46 z46
      obtain ⟨rfl, N46q, e46⟩ := hQ46
      have N46 := Fr.app N45 N46q
      refine Go.tr (T' := T46) (pc' := 151) (L' := #[.val (.int p1), .val (.int p2), .val (.int p3), .val (.int p4), .val (.int p5), .val (.ref b1), .val (.ref b5), .val (.ref b6), .val (.int (3 : Int32)), .val (.int (1 : Int32)), .val (.ref b39), .val (.ref b44), .unset, .unset]) (S' := [(.ref b5)]) st46 ?_
      refine Go.st (T' := T46) (pc' := 153) (L' := #[.val (.int p1), .val (.int p2), .val (.int p3), .val (.int p4), .val (.int p5), .val (.ref b1), .val (.ref b5), .val (.ref b6), .val (.int (3 : Int32)), .val (.int (1 : Int32)), .val (.ref b39), .val (.ref b44), .val (.ref b5), .unset]) (S' := []) (fun t k => XS.astore X46.here hx rfl (hb hby at_151) rfl rfl (l' := #[.val (.int p1), .val (.int p2), .val (.int p3), .val (.int p4), .val (.int p5), .val (.ref b1), .val (.ref b5), .val (.ref b6), .val (.int (3 : Int32)), .val (.int (1 : Int32)), .val (.ref b39), .val (.ref b44), .val (.ref b5), .unset]) rfl k) ?_
      refine Go.st (T' := T46) (pc' := 155) (L' := #[.val (.int p1), .val (.int p2), .val (.int p3), .val (.int p4), .val (.int p5), .val (.ref b1), .val (.ref b5), .val (.ref b6), .val (.int (3 : Int32)), .val (.int (1 : Int32)), .val (.ref b39), .val (.ref b44), .val (.ref b5), .unset]) (S' := [(.int (1 : Int32))]) (fun t k => XS.iload X46.here hx rfl (hb hby at_153) rfl  k) ?_
      refine Go.st (T' := T46) (pc' := 165) (L' := #[.val (.int p1), .val (.int p2), .val (.int p3), .val (.int p4), .val (.int p5), .val (.ref b1), .val (.ref b5), .val (.ref b6), .val (.int (3 : Int32)), .val (.int (1 : Int32)), .val (.ref b39), .val (.ref b44), .val (.ref b5), .unset]) (S' := []) (fun t k => XS.ifYes X46.here hx rfl (pc0 := 155) (pc' := 165) rfl (hb hby at_155) rfl ((if0 _ _).trans (feq (by decide : ¬ ((1 : Int32) = (0 : Int32)))).2) (by decide) (by decide) k) ?_
      refine Go.st (T' := T46) (pc' := 167) (L' := #[.val (.int p1), .val (.int p2), .val (.int p3), .val (.int p4), .val (.int p5), .val (.ref b1), .val (.ref b5), .val (.ref b6), .val (.int (3 : Int32)), .val (.int (1 : Int32)), .val (.ref b39), .val (.ref b44), .val (.ref b5), .unset]) (S' := [(.int (1 : Int32))]) (fun t k => XS.iload X46.here hx rfl (hb hby at_165) rfl  k) ?_
      refine Go.st (T' := T46) (pc' := 168) (L' := #[.val (.int p1), .val (.int p2), .val (.int p3), .val (.int p4), .val (.int p5), .val (.ref b1), .val (.ref b5), .val (.ref b6), .val (.int (3 : Int32)), .val (.int (1 : Int32)), .val (.ref b39), .val (.ref b44), .val (.ref b5), .unset]) (S' := [(.int (1 : Int32)), (.int (1 : Int32))]) (fun t k => XS.iconst X46.here hx rfl (hb hby at_167) k) ?_
      refine Go.st (T' := T46) (pc' := 171) (L' := #[.val (.int p1), .val (.int p2), .val (.int p3), .val (.int p4), .val (.int p5), .val (.ref b1), .val (.ref b5), .val (.ref b6), .val (.int (3 : Int32)), .val (.int (1 : Int32)), .val (.ref b39), .val (.ref b44), .val (.ref b5), .unset]) (S' := []) (fun t k => XS.icmpNo X46.here hx rfl (hb hby at_168) rfl (teq (by decide : ((1 : Int32) = (1 : Int32)))).2 k) ?_
      refine Go.st (T' := T46) (pc' := 173) (L' := #[.val (.int p1), .val (.int p2), .val (.int p3), .val (.int p4), .val (.int p5), .val (.ref b1), .val (.ref b5), .val (.ref b6), .val (.int (3 : Int32)), .val (.int (1 : Int32)), .val (.ref b39), .val (.ref b44), .val (.ref b5), .unset]) (S' := [(.ref b5)]) (fun t k => XS.aload X46.here hx rfl (hb hby at_171) rfl rfl  k) ?_
      refine Go.st (T' := T46) (pc' := 175) (L' := #[.val (.int p1), .val (.int p2), .val (.int p3), .val (.int p4), .val (.int p5), .val (.ref b1), .val (.ref b5), .val (.ref b6), .val (.int (3 : Int32)), .val (.int (1 : Int32)), .val (.ref b39), .val (.ref b44), .val (.ref b5), .val (.ref b5)]) (S' := []) (fun t k => XS.astore X46.here hx rfl (hb hby at_173) rfl rfl (l' := #[.val (.int p1), .val (.int p2), .val (.int p3), .val (.int p4), .val (.int p5), .val (.ref b1), .val (.ref b5), .val (.ref b6), .val (.int (3 : Int32)), .val (.int (1 : Int32)), .val (.ref b39), .val (.ref b44), .val (.ref b5), .val (.ref b5)]) rfl k) ?_
      refine Go.st (T' := T46) (pc' := 182) (L' := #[.val (.int p1), .val (.int p2), .val (.int p3), .val (.int p4), .val (.int p5), .val (.ref b1), .val (.ref b5), .val (.ref b6), .val (.int (3 : Int32)), .val (.int (1 : Int32)), .val (.ref b39), .val (.ref b44), .val (.ref b5), .val (.ref b5)]) (S' := []) (fun t k => XS.goto X46.here hx rfl (pc0 := 175) (pc' := 182) rfl (hb hby at_175) (by decide) (by decide) k) ?_
      refine Go.st (T' := T46) (pc' := 184) (L' := #[.val (.int p1), .val (.int p2), .val (.int p3), .val (.int p4), .val (.int p5), .val (.ref b1), .val (.ref b5), .val (.ref b6), .val (.int (3 : Int32)), .val (.int (1 : Int32)), .val (.ref b39), .val (.ref b44), .val (.ref b5), .val (.ref b5)]) (S' := [(.ref b5)]) (fun t k => XS.aload X46.here hx rfl (hb hby at_182) rfl rfl  k) ?_
      refine Go.st (T' := T46) (pc' := 186) (L' := #[.val (.int p1), .val (.int p2), .val (.int p3), .val (.int p4), .val (.int p5), .val (.ref b1), .val (.ref b5), .val (.ref b6), .val (.int (3 : Int32)), .val (.int (1 : Int32)), .val (.ref b39), .val (.ref b44), .val (.ref b5), .val (.ref b5)]) (S' := [(.ref b5), (.ref b5)]) (fun t k => XS.aload X46.here hx rfl (hb hby at_184) rfl rfl  k) ?_
      refine Go.st (T' := T46) (pc' := 189) (L' := #[.val (.int p1), .val (.int p2), .val (.int p3), .val (.int p4), .val (.int p5), .val (.ref b1), .val (.ref b5), .val (.ref b6), .val (.int (3 : Int32)), .val (.int (1 : Int32)), .val (.ref b39), .val (.ref b44), .val (.ref b5), .val (.ref b5)]) (S' := []) (fun t k => Jvm.RoadKit.acmp (g := (mkF m 186 #[.val (.int p1), .val (.int p2), .val (.int p3), .val (.int p4), .val (.int p5), .val (.ref b1), .val (.ref b5), .val (.ref b6), .val (.int (3 : Int32)), .val (.int (1 : Int32)), .val (.ref b39), .val (.ref b44), .val (.ref b5), .val (.ref b5)] [(.ref b5), (.ref b5)])) X46 hx rfl rfl rfl (pc0 := 186) (pc' := 189) (same := true) rfl (hb hby at_186) rfl (decide_eq_true rfl) (by decide) (by decide) k) ?_
      refine Go.st (T' := T46) (pc' := 190) (L' := #[.val (.int p1), .val (.int p2), .val (.int p3), .val (.int p4), .val (.int p5), .val (.ref b1), .val (.ref b5), .val (.ref b6), .val (.int (3 : Int32)), .val (.int (1 : Int32)), .val (.ref b39), .val (.ref b44), .val (.ref b5), .val (.ref b5)]) (S' := [(.int (1 : Int32))]) (fun t k => XS.iconst X46.here hx rfl (hb hby at_189) k) ?_
      refine Go.st (T' := T46) (pc' := 194) (L' := #[.val (.int p1), .val (.int p2), .val (.int p3), .val (.int p4), .val (.int p5), .val (.ref b1), .val (.ref b5), .val (.ref b6), .val (.int (3 : Int32)), .val (.int (1 : Int32)), .val (.ref b39), .val (.ref b44), .val (.ref b5), .val (.ref b5)]) (S' := [(.int (1 : Int32))]) (fun t k => XS.goto X46.here hx rfl (pc0 := 190) (pc' := 194) rfl (hb hby at_190) (by decide) (by decide) k) ?_
      exact Go.retN X46 hx hlk hret (by simp) (hb hby at_194) (by decide) (by decide) (by rw [e46]; exact ⟨rfl, N46⟩)
    · rw [hr3]
      refine Go.st (T' := T10) (pc' := 87) (L' := #[.val (.int p1), .val (.int p2), .val (.int p3), .val (.int p4), .val (.int p5), .val (.ref b1), .val (.ref b5), .val (.ref b6), .val (.int (3 : Int32)), .val (.int (2 : Int32)), .unset, .unset, .unset, .unset]) (S' := []) (fun t k => XS.istore X10.here hx rfl (hb hby at_85) rfl (l' := #[.val (.int p1), .val (.int p2), .val (.int p3), .val (.int p4), .val (.int p5), .val (.ref b1), .val (.ref b5), .val (.ref b6), .val (.int (3 : Int32)), .val (.int (2 : Int32)), .unset, .unset, .unset, .unset]) rfl k) ?_
      obtain ⟨T47, h47, X47, e47, E47, A47, D47, U47, st47⟩ := newO X10 hx hZ hown (hw _ (List.mem_of_getElem? (i := 45) rfl)) (hw _ (List.mem_of_getElem? (i := 46) rfl)) (hw _ (List.mem_of_getElem? (i := 47) rfl)) e10 (g := (mkF m 87 #[.val (.int p1), .val (.int p2), .val (.int p3), .val (.int p4), .val (.int p5), .val (.ref b1), .val (.ref b5), .val (.ref b6), .val (.int (3 : Int32)), .val (.int (2 : Int32)), .unset, .unset, .unset, .unset] [])) rfl (hb hby at_87) (by decide) (by decide)
      obtain ⟨b47, g47⟩ : ∃ z, z = h10.size := ⟨_, rfl⟩
      rw [← g47] at A47 D47 U47 st47
      have ne_d0_b47 : d0 ≠ b47 := Nat.ne_of_lt (Nat.lt_of_lt_of_le V_d0.lt (Nat.le_of_eq g47.symm))
      have ne_b1_b47 : b1 ≠ b47 := Nat.ne_of_lt (Nat.lt_of_lt_of_le E_b1.lt (Nat.le_of_eq g47.symm))
      have ne_b5_b47 : b5 ≠ b47 := Nat.ne_of_lt (Nat.lt_of_lt_of_le E5.lt (Nat.le_of_eq g47.symm))
      have ne_b6_b47 : b6 ≠ b47 := Nat.ne_of_lt (Nat.lt_of_lt_of_le E_b6.lt (Nat.le_of_eq g47.symm))
      have g_b47 : n0 ≤ b47 := Nat.le_trans Z0 (Nat.le_of_eq g47.symm)
      replace Z0 := Nat.le_trans Z0 E47.1
      replace O0 := O0.ext E47
      replace V_d0 := V_d0.ext E47
      replace E_b1 := E_b1.ext E47
      replace E5 := E5.ext E47
      replace E_b6 := E_b6.ext E47
      have E_b47 := A47
      have F_b47_modCount : Fld Z h47 b47 "java/util/AbstractList" "modCount" "I" (.int (0 : Int32)) := D47 (Or.inl (hw _ (List.mem_of_getElem? (i := 65) rfl))) (ty := .int) (by decide)
      have F_b47_elementData : Fld Z h47 b47 "java/util/ArrayList" "elementData" "[Ljava/lang/Object;" .null := D47 (Or.inl (hw _ (List.mem_of_getElem? (i := 68) rfl))) (ty := (.array (.object "java/lang/Object"))) (by decide)
      have F_b47_size : Fld Z h47 b47 "java/util/ArrayList" "size" "I" (.int (0 : Int32)) := D47 (Or.inl (hw _ (List.mem_of_getElem? (i := 77) rfl))) (ty := .int) (by decide)
      refine Go.st (T' := T47) (pc' := 90) (L' := #[.val (.int p1), .val (.int p2), .val (.int p3), .val (.int p4), .val (.int p5), .val (.ref b1), .val (.ref b5), .val (.ref b6), .val (.int (3 : Int32)), .val (.int (2 : Int32)), .unset, .unset, .unset, .unset]) (S' := [(.ref b47)]) st47 ?_
      refine Go.st (T' := T47) (pc' := 91) (L' := #[.val (.int p1), .val (.int p2), .val (.int p3), .val (.int p4), .val (.int p5), .val (.ref b1), .val (.ref b5), .val (.ref b6), .val (.int (3 : Int32)), .val (.int (2 : Int32)), .unset, .unset, .unset, .unset]) (S' := [(.ref b47), (.ref b47)]) (fun t k => XS.dup X47.here hx rfl (hb hby at_90) rfl rfl k) ?_
      obtain ⟨_, _, ⟨T48, L48, k48, n48⟩, -, X48, ⟨Lc48, hQ48, l48, y48, z48⟩, st48⟩ := X47.specialBack hx (y := (⟨"java/util/ArrayList", "<init>", "()V"⟩ : MethodName)) rfl hown (mvT hZ (hw _ (List.mem_of_getElem? (i := 48) rfl))) (mvT hZ (hw _ (List.mem_of_getElem? (i := 49) rfl))) (mvT hZ (hw _ (List.mem_of_getElem? (i := 50) rfl))) (by decide) (backOf (W := 1) (rm11 l Z a0 hw [] b47 d0 h47 n0 Z0 SD O0 E_b47 g_b47 F_b47_modCount F_b47_elementData F_b47_size) hZ (hw _ (List.mem_of_getElem? (i := 50) rfl)) (hw _ (List.mem_of_getElem? (i := 47) rfl)) (by decide) (by decide)) (g := (mkF m 91 #[.val (.int p1), .val (.int p2), .val (.int p3), .val (.int p4), .val (.int p5), .val (.ref b1), .val (.ref b5), .val (.ref b6), .val (.int (3 : Int32)), .val (.int (2 : Int32)), .unset, .unset, .unset, .unset] [(.ref b47), (.ref b47)])) rfl (by rw [hml]; rfl) (Steps.refl _) (a := b47) (argsL := []) (rest := [(.ref b47)]) (lenOf pd_3 rfl) rfl (by show 2 * 0 + _ ≤ _; exact Nat.le_of_eq rfl) (hb hby at_91) (fun _ _ => ⟨rfl, e47, (by decide : 9 + 0 ≤ _), (by decide : 22 + 0 ≤ _)⟩)
      dsimp only [Pt.U, Pt.locs, Pt.cells, Pt.slots] at X48 l48 y48 z48 st48 hQ48
      subst l48 y48 z48
      obtain ⟨rfl, N48q, K48, G48_modCount, G48_elementData, G48_size⟩ := hQ48
      have N48 := Fr.app N10 N48q
      obtain ⟨h48, e48⟩ : ∃ z, T48.heap = z := ⟨_, rfl⟩
      rw [e48] at K48 G48_modCount G48_elementData G48_size
      replace Z0 := Nat.le_trans Z0 K48.1
      replace O0 := O0.keep K48 (allS g_b47 all0)
      replace V_d0 := V_d0.keep K48 (ninS ne_d0_b47 nin0)
      replace E_b1 := E_b1.keep K48
      replace E5 := E5.keep K48
      replace E_b6 := E_b6.keep K48
      replace E_b47 := E_b47.keep K48
      refine Go.tr (T' := T48) (pc' := 94) (L' := #[.val (.int p1), .val (.int p2), .val (.int p3), .val (.int p4), .val (.int p5), .val (.ref b1), .val (.ref b5), .val (.ref b6), .val (.int (3 : Int32)), .val (.int (2 : Int32)), .unset, .unset, .unset, .unset]) (S' := [(.ref b47)]) st48 ?_
      refine Go.st (T' := T48) (pc' := 96) (L' := #[.val (.int p1), .val (.int p2), .val (.int p3), .val (.int p4), .val (.int p5), .val (.ref b1), .val (.ref b5), .val (.ref b6), .val (.int (3 : Int32)), .val (.int (2 : Int32)), .val (.ref b47), .unset, .unset, .unset]) (S' := []) (fun t k => XS.astore X48.here hx rfl (hb hby at_94) rfl rfl (l' := #[.val (.int p1), .val (.int p2), .val (.int p3), .val (.int p4), .val (.int p5), .val (.ref b1), .val (.ref b5), .val (.ref b6), .val (.int (3 : Int32)), .val (.int (2 : Int32)), .val (.ref b47), .unset, .unset, .unset]) rfl k) ?_
      refine Go.st (T' := T48) (pc' := 98) (L' := #[.val (.int p1), .val (.int p2), .val (.int p3), .val (.int p4), .val (.int p5), .val (.ref b1), .val (.ref b5), .val (.ref b6), .val (.int (3 : Int32)), .val (.int (2 : Int32)), .val (.ref b47), .unset, .unset, .unset]) (S' := [(.ref b47)]) (fun t k => XS.aload X48.here hx rfl (hb hby at_96) rfl rfl  k) ?_
      refine Go.st (T' := T48) (pc' := 100) (L' := #[.val (.int p1), .val (.int p2), .val (.int p3), .val (.int p4), .val (.int p5), .val (.ref b1), .val (.ref b5), .val (.ref b6), .val (.int (3 : Int32)), .val (.int (2 : Int32)), .val (.ref b47), .unset, .unset, .unset]) (S' := [(.ref b1), (.ref b47)]) (fun t k => XS.aload X48.here hx rfl (hb hby at_98) rfl rfl  k) ?_
      obtain ⟨cq49, kq49, q49a, q49b, q49c⟩ := isOf hZ e48 E_b47
      obtain ⟨_, _, ⟨T49, L49, k49, n49⟩, -, X49, ⟨Lc49, hQ49, l49, y49, z49⟩, st49⟩ := X48.virtualBack hx (y := (⟨"java/util/ArrayList", "add", "(Ljava/lang/Object;)Z"⟩ : MethodName)) (z := (⟨"java/util/ArrayList", "add", "(Ljava/lang/Object;)Z"⟩ : MethodName)) hown (mvT hZ (hw _ (List.mem_of_getElem? (i := 69) rfl))) (mvT hZ (hw _ (List.mem_of_getElem? (i := 70) rfl))) (notFace_of_selects (args := #[]) (mvT hZ (hw _ (List.mem_of_getElem? (i := 72) rfl)))) (mvT hZ (hw _ (List.mem_of_getElem? (i := 72) rfl))) (mvT hZ (hw _ (List.mem_of_getElem? (i := 71) rfl))) (by decide) (backOf (W := 0) (rm14a l Z a0 hw [] b47 d0 (0 : Int32) _ b1 h48 n0 Z0 SD O0 E_b47 g_b47 (Ne.symm ne_d0_b47) G48_modCount G48_elementData G48_size V_d0 E_b1 (Ne.symm ne_b1_b47)) hZ (hw _ (List.mem_of_getElem? (i := 73) rfl)) (hw _ (List.mem_of_getElem? (i := 47) rfl)) (by decide) (by decide)) q49a q49c (g := (mkF m 100 #[.val (.int p1), .val (.int p2), .val (.int p3), .val (.int p4), .val (.int p5), .val (.ref b1), .val (.ref b5), .val (.ref b6), .val (.int (3 : Int32)), .val (.int (2 : Int32)), .val (.ref b47), .unset, .unset, .unset] [(.ref b1), (.ref b47)])) rfl (by rw [hml]; rfl) (Steps.refl _) (argsL := [(.ref b1)]) (rest := []) (lenOf pd_12 rfl) rfl (by show 2 * 0 + _ ≤ _; exact Nat.le_of_eq rfl) (hb hby at_100) (fun _ _ => ⟨rfl, e48, (by decide : 9 + 1 ≤ _), (by decide : 22 + 10 ≤ _)⟩)
      dsimp only [Pt.U, Pt.locs, Pt.cells, Pt.slots] at X49 l49 y49 z49 st49 hQ49
      subst l49 y49 z49
      obtain ⟨e1_49, ka49, rfl, N49q, K49, g_e1_49, lt49, G49_modCount, G49_elementData, G49_size, Ov49, V_e1_49⟩ := hQ49
      have N49 := Fr.app N48 N49q
      have ne_d0_e1_49 : d0 ≠ e1_49 := Nat.ne_of_lt (Nat.lt_of_lt_of_le V_d0.lt lt49)
      have ne_b1_e1_49 : b1 ≠ e1_49 := Nat.ne_of_lt (Nat.lt_of_lt_of_le E_b1.lt lt49)
      have ne_b5_e1_49 : b5 ≠ e1_49 := Nat.ne_of_lt (Nat.lt_of_lt_of_le E5.lt lt49)
      have ne_b6_e1_49 : b6 ≠ e1_49 := Nat.ne_of_lt (Nat.lt_of_lt_of_le E_b6.lt lt49)
      have ne_b47_e1_49 : b47 ≠ e1_49 := Nat.ne_of_lt (Nat.lt_of_lt_of_le E_b47.lt lt49)
      obtain ⟨h49, e49⟩ : ∃ z, T49.heap = z := ⟨_, rfl⟩
      rw [e49] at K49 G49_modCount G49_elementData G49_size V_e1_49
      replace Z0 := Nat.le_trans Z0 K49.1
      replace O0 := O0.keep K49 (allS g_b47 all0)
      replace V_d0 := V_d0.keep K49 (ninS ne_d0_b47 nin0)
      replace E_b1 := E_b1.keep K49
      replace E5 := E5.keep K49
      replace E_b6 := E_b6.keep K49
      replace E_b47 := E_b47.keep K49
      refine Go.tr (T' := T49) (pc' := 103) (L' := #[.val (.int p1), .val (.int p2), .val (.int p3), .val (.int p4), .val (.int p5), .val (.ref b1), .val (.ref b5), .val (.ref b6), .val (.int (3 : Int32)), .val (.int (2 : Int32)), .val (.ref b47), .unset, .unset, .unset]) (S' := [(.int (1 : Int32))]) st49 ?_
      refine Go.st (T' := T49) (pc' := 104) (L' := #[.val (.int p1), .val (.int p2), .val (.int p3), .val (.int p4), .val (.int p5), .val (.ref b1), .val (.ref b5), .val (.ref b6), .val (.int (3 : Int32)), .val (.int (2 : Int32)), .val (.ref b47), .unset, .unset, .unset]) (S' := []) (fun t k => XS.pop X49.here hx rfl (hb hby at_103) rfl rfl k) ?_
      refine Go.st (T' := T49) (pc' := 106) (L' := #[.val (.int p1), .val (.int p2), .val (.int p3), .val (.int p4), .val (.int p5), .val (.ref b1), .val (.ref b5), .val (.ref b6), .val (.int (3 : Int32)), .val (.int (2 : Int32)), .val (.ref b47), .unset, .unset, .unset]) (S' := [(.int (3 : Int32))]) (fun t k => XS.iload X49.here hx rfl (hb hby at_104) rfl  k) ?_
      refine Go.st (T' := T49) (pc' := 107) (L' := #[.val (.int p1), .val (.int p2), .val (.int p3), .val (.int p4), .val (.int p5), .val (.ref b1), .val (.ref b5), .val (.ref b6), .val (.int (3 : Int32)), .val (.int (2 : Int32)), .val (.ref b47), .unset, .unset, .unset]) (S' := [(.int (2 : Int32)), (.int (3 : Int32))]) (fun t k => XS.iconst X49.here hx rfl (hb hby at_106) k) ?_
      refine Go.st (T' := T49) (pc' := 110) (L' := #[.val (.int p1), .val (.int p2), .val (.int p3), .val (.int p4), .val (.int p5), .val (.ref b1), .val (.ref b5), .val (.ref b6), .val (.int (3 : Int32)), .val (.int (2 : Int32)), .val (.ref b47), .unset, .unset, .unset]) (S' := []) (fun t k => XS.icmpNo X49.here hx rfl (hb hby at_107) rfl (flt (by decide : ¬ ((3 : Int32) < (2 : Int32)))).1 k) ?_
      refine Go.st (T' := T49) (pc' := 112) (L' := #[.val (.int p1), .val (.int p2), .val (.int p3), .val (.int p4), .val (.int p5), .val (.ref b1), .val (.ref b5), .val (.ref b6), .val (.int (3 : Int32)), .val (.int (2 : Int32)), .val (.ref b47), .unset, .unset, .unset]) (S' := [(.ref b47)]) (fun t k => XS.aload X49.here hx rfl (hb hby at_110) rfl rfl  k) ?_
      refine Go.st (T' := T49) (pc' := 114) (L' := #[.val (.int p1), .val (.int p2), .val (.int p3), .val (.int p4), .val (.int p5), .val (.ref b1), .val (.ref b5), .val (.ref b6), .val (.int (3 : Int32)), .val (.int (2 : Int32)), .val (.ref b47), .unset, .unset, .unset]) (S' := [(.ref b5), (.ref b47)]) (fun t k => XS.aload X49.here hx rfl (hb hby at_112) rfl rfl  k) ?_
      obtain ⟨cq50, kq50, q50a, q50b, q50c⟩ := isOf hZ e49 E_b47
      obtain ⟨_, _, ⟨T50, L50, k50, n50⟩, -, X50, ⟨Lc50, hQ50, l50, y50, z50⟩, st50⟩ := X49.virtualBack hx (y := (⟨"java/util/ArrayList", "add", "(Ljava/lang/Object;)Z"⟩ : MethodName)) (z := (⟨"java/util/ArrayList", "add", "(Ljava/lang/Object;)Z"⟩ : MethodName)) hown (mvT hZ (hw _ (List.mem_of_getElem? (i := 69) rfl))) (mvT hZ (hw _ (List.mem_of_getElem? (i := 70) rfl))) (notFace_of_selects (args := #[]) (mvT hZ (hw _ (List.mem_of_getElem? (i := 72) rfl)))) (mvT hZ (hw _ (List.mem_of_getElem? (i := 72) rfl))) (mvT hZ (hw _ (List.mem_of_getElem? (i := 71) rfl))) (by decide) (backOf (W := 0) (rm14b l Z a0 hw [] b47 e1_49 ((0 : Int32) + (1 : Int32)) _ 1 [(.ref b1), .null, .null] b5 h49 n0 Z0 E_b47 g_b47 g_e1_49 ne_b47_e1_49 Ov49 G49_modCount G49_elementData G49_size V_e1_49 rfl (by decide) E5 (Ne.symm ne_b5_b47)) hZ (hw _ (List.mem_of_getElem? (i := 73) rfl)) (hw _ (List.mem_of_getElem? (i := 47) rfl)) (by decide) (by decide)) q50a q50c (g := (mkF m 114 #[.val (.int p1), .val (.int p2), .val (.int p3), .val (.int p4), .val (.int p5), .val (.ref b1), .val (.ref b5), .val (.ref b6), .val (.int (3 : Int32)), .val (.int (2 : Int32)), .val (.ref b47), .unset, .unset, .unset] [(.ref b5), (.ref b47)])) rfl (by rw [hml]; rfl) (Steps.refl _) (argsL := [(.ref b5)]) (rest := []) (lenOf pd_12 rfl) rfl (by show 2 * 0 + _ ≤ _; exact Nat.le_of_eq rfl) (hb hby at_114) (fun _ _ => ⟨rfl, e49, (by decide : 10 + 0 ≤ _), (by decide : 32 + 0 ≤ _)⟩)
      dsimp only [Pt.U, Pt.locs, Pt.cells, Pt.slots] at X50 l50 y50 z50 st50 hQ50
      subst l50 y50 z50
      obtain ⟨rfl, N50q, K50, G50_modCount, G50_elementData, G50_size, Vn50⟩ := hQ50
      have N50 := Fr.app N49 N50q
      obtain ⟨h50, e50⟩ : ∃ z, T50.heap = z := ⟨_, rfl⟩
      rw [e50] at K50 G50_modCount G50_elementData G50_size Vn50
      replace Z0 := Nat.le_trans Z0 K50.1
      replace O0 := O0.keep K50 (allS g_b47 (allS g_e1_49 all0))
      replace V_d0 := V_d0.keep K50 (ninS ne_d0_b47 (ninS ne_d0_e1_49 nin0))
      replace E_b1 := E_b1.keep K50
      replace E5 := E5.keep K50
      replace E_b6 := E_b6.keep K50
      replace E_b47 := E_b47.keep K50
      have Vn50 : Arv Z h50 e1_49 ka49 (.object "java/lang/Object") (10 : Int32) [(.ref b1), (.ref b5), .null] .null := Vn50
      refine Go.tr (T' := T50) (pc' := 117) (L' := #[.val (.int p1), .val (.int p2), .val (.int p3), .val (.int p4), .val (.int p5), .val (.ref b1), .val (.ref b5), .val (.ref b6), .val (.int (3 : Int32)), .val (.int (2 : Int32)), .val (.ref b47), .unset, .unset, .unset]) (S' := [(.int (1 : Int32))]) st50 ?_
      refine Go.st (T' := T50) (pc' := 118) (L' := #[.val (.int p1), .val (.int p2), .val (.int p3), .val (.int p4), .val (.int p5), .val (.ref b1), .val (.ref b5), .val (.ref b6), .val (.int (3 : Int32)), .val (.int (2 : Int32)), .val (.ref b47), .unset, .unset, .unset]) (S' := []) (fun t k => XS.pop X50.here hx rfl (hb hby at_117) rfl rfl k) ?_
      refine Go.st (T' := T50) (pc' := 120) (L' := #[.val (.int p1), .val (.int p2), .val (.int p3), .val (.int p4), .val (.int p5), .val (.ref b1), .val (.ref b5), .val (.ref b6), .val (.int (3 : Int32)), .val (.int (2 : Int32)), .val (.ref b47), .unset, .unset, .unset]) (S' := [(.int (3 : Int32))]) (fun t k => XS.iload X50.here hx rfl (hb hby at_118) rfl  k) ?_
      refine Go.st (T' := T50) (pc' := 121) (L' := #[.val (.int p1), .val (.int p2), .val (.int p3), .val (.int p4), .val (.int p5), .val (.ref b1), .val (.ref b5), .val (.ref b6), .val (.int (3 : Int32)), .val (.int (2 : Int32)), .val (.ref b47), .unset, .unset, .unset]) (S' := [(.int (3 : Int32)), (.int (3 : Int32))]) (fun t k => XS.iconst X50.here hx rfl (hb hby at_120) k) ?_
      refine Go.st (T' := T50) (pc' := 124) (L' := #[.val (.int p1), .val (.int p2), .val (.int p3), .val (.int p4), .val (.int p5), .val (.ref b1), .val (.ref b5), .val (.ref b6), .val (.int (3 : Int32)), .val (.int (2 : Int32)), .val (.ref b47), .unset, .unset, .unset]) (S' := []) (fun t k => XS.icmpNo X50.here hx rfl (hb hby at_121) rfl (flt (by decide : ¬ ((3 : Int32) < (3 : Int32)))).1 k) ?_
      refine Go.st (T' := T50) (pc' := 126) (L' := #[.val (.int p1), .val (.int p2), .val (.int p3), .val (.int p4), .val (.int p5), .val (.ref b1), .val (.ref b5), .val (.ref b6), .val (.int (3 : Int32)), .val (.int (2 : Int32)), .val (.ref b47), .unset, .unset, .unset]) (S' := [(.ref b47)]) (fun t k => XS.aload X50.here hx rfl (hb hby at_124) rfl rfl  k) ?_
      refine Go.st (T' := T50) (pc' := 128) (L' := #[.val (.int p1), .val (.int p2), .val (.int p3), .val (.int p4), .val (.int p5), .val (.ref b1), .val (.ref b5), .val (.ref b6), .val (.int (3 : Int32)), .val (.int (2 : Int32)), .val (.ref b47), .unset, .unset, .unset]) (S' := [(.ref b6), (.ref b47)]) (fun t k => XS.aload X50.here hx rfl (hb hby at_126) rfl rfl  k) ?_
      obtain ⟨cq51, kq51, q51a, q51b, q51c⟩ := isOf hZ e50 E_b47
      obtain ⟨_, _, ⟨T51, L51, k51, n51⟩, -, X51, ⟨Lc51, hQ51, l51, y51, z51⟩, st51⟩ := X50.virtualBack hx (y := (⟨"java/util/ArrayList", "add", "(Ljava/lang/Object;)Z"⟩ : MethodName)) (z := (⟨"java/util/ArrayList", "add", "(Ljava/lang/Object;)Z"⟩ : MethodName)) hown (mvT hZ (hw _ (List.mem_of_getElem? (i := 69) rfl))) (mvT hZ (hw _ (List.mem_of_getElem? (i := 70) rfl))) (notFace_of_selects (args := #[]) (mvT hZ (hw _ (List.mem_of_getElem? (i := 72) rfl)))) (mvT hZ (hw _ (List.mem_of_getElem? (i := 72) rfl))) (mvT hZ (hw _ (List.mem_of_getElem? (i := 71) rfl))) (by decide) (backOf (W := 0) (rm14b l Z a0 hw [] b47 e1_49 (((0 : Int32) + (1 : Int32)) + (1 : Int32)) _ 2 [(.ref b1), (.ref b5), .null] b6 h50 n0 Z0 E_b47 g_b47 g_e1_49 ne_b47_e1_49 Ov49 G50_modCount G50_elementData G50_size Vn50 rfl (by decide) E_b6 (Ne.symm ne_b6_b47)) hZ (hw _ (List.mem_of_getElem? (i := 73) rfl)) (hw _ (List.mem_of_getElem? (i := 47) rfl)) (by decide) (by decide)) q51a q51c (g := (mkF m 128 #[.val (.int p1), .val (.int p2), .val (.int p3), .val (.int p4), .val (.int p5), .val (.ref b1), .val (.ref b5), .val (.ref b6), .val (.int (3 : Int32)), .val (.int (2 : Int32)), .val (.ref b47), .unset, .unset, .unset] [(.ref b6), (.ref b47)])) rfl (by rw [hml]; rfl) (Steps.refl _) (argsL := [(.ref b6)]) (rest := []) (lenOf pd_12 rfl) rfl (by show 2 * 0 + _ ≤ _; exact Nat.le_of_eq rfl) (hb hby at_128) (fun _ _ => ⟨rfl, e50, (by decide : 10 + 0 ≤ _), (by decide : 32 + 0 ≤ _)⟩)
      dsimp only [Pt.U, Pt.locs, Pt.cells, Pt.slots] at X51 l51 y51 z51 st51 hQ51
      subst l51 y51 z51
      obtain ⟨rfl, N51q, K51, G51_modCount, G51_elementData, G51_size, Vn51⟩ := hQ51
      have N51 := Fr.app N50 N51q
      obtain ⟨h51, e51⟩ : ∃ z, T51.heap = z := ⟨_, rfl⟩
      rw [e51] at K51 G51_modCount G51_elementData G51_size Vn51
      replace Z0 := Nat.le_trans Z0 K51.1
      replace O0 := O0.keep K51 (allS g_b47 (allS g_e1_49 all0))
      replace V_d0 := V_d0.keep K51 (ninS ne_d0_b47 (ninS ne_d0_e1_49 nin0))
      replace E_b1 := E_b1.keep K51
      replace E5 := E5.keep K51
      replace E_b6 := E_b6.keep K51
      replace E_b47 := E_b47.keep K51
      have Vn51 : Arv Z h51 e1_49 ka49 (.object "java/lang/Object") (10 : Int32) [(.ref b1), (.ref b5), (.ref b6)] .null := Vn51
      refine Go.tr (T' := T51) (pc' := 131) (L' := #[.val (.int p1), .val (.int p2), .val (.int p3), .val (.int p4), .val (.int p5), .val (.ref b1), .val (.ref b5), .val (.ref b6), .val (.int (3 : Int32)), .val (.int (2 : Int32)), .val (.ref b47), .unset, .unset, .unset]) (S' := [(.int (1 : Int32))]) st51 ?_
      refine Go.st (T' := T51) (pc' := 132) (L' := #[.val (.int p1), .val (.int p2), .val (.int p3), .val (.int p4), .val (.int p5), .val (.ref b1), .val (.ref b5), .val (.ref b6), .val (.int (3 : Int32)), .val (.int (2 : Int32)), .val (.ref b47), .unset, .unset, .unset]) (S' := []) (fun t k => XS.pop X51.here hx rfl (hb hby at_131) rfl rfl k) ?_
      obtain ⟨T52, h52, X52, e52, E52, A52, D52, U52, st52⟩ := newO X51 hx hZ hown (hw _ (List.mem_of_getElem? (i := 100) rfl)) (hw _ (List.mem_of_getElem? (i := 101) rfl)) (hw _ (List.mem_of_getElem? (i := 102) rfl)) e51 (g := (mkF m 132 #[.val (.int p1), .val (.int p2), .val (.int p3), .val (.int p4), .val (.int p5), .val (.ref b1), .val (.ref b5), .val (.ref b6), .val (.int (3 : Int32)), .val (.int (2 : Int32)), .val (.ref b47), .unset, .unset, .unset] [])) rfl (hb hby at_132) (by decide) (by decide)
      obtain ⟨b52, g52⟩ : ∃ z, z = h51.size := ⟨_, rfl⟩
      rw [← g52] at A52 D52 U52 st52
      have ne_d0_b52 : d0 ≠ b52 := Nat.ne_of_lt (Nat.lt_of_lt_of_le V_d0.lt (Nat.le_of_eq g52.symm))
      have ne_b1_b52 : b1 ≠ b52 := Nat.ne_of_lt (Nat.lt_of_lt_of_le E_b1.lt (Nat.le_of_eq g52.symm))
      have ne_b5_b52 : b5 ≠ b52 := Nat.ne_of_lt (Nat.lt_of_lt_of_le E5.lt (Nat.le_of_eq g52.symm))
      have ne_b6_b52 : b6 ≠ b52 := Nat.ne_of_lt (Nat.lt_of_lt_of_le E_b6.lt (Nat.le_of_eq g52.symm))
      have ne_b47_b52 : b47 ≠ b52 := Nat.ne_of_lt (Nat.lt_of_lt_of_le E_b47.lt (Nat.le_of_eq g52.symm))
      have ne_e1_49_b52 : e1_49 ≠ b52 := Nat.ne_of_lt (Nat.lt_of_lt_of_le Vn51.lt (Nat.le_of_eq g52.symm))
      have g_b52 : n0 ≤ b52 := Nat.le_trans Z0 (Nat.le_of_eq g52.symm)
      replace Z0 := Nat.le_trans Z0 E52.1
      replace O0 := O0.ext E52
      replace V_d0 := V_d0.ext E52
      replace E_b1 := E_b1.ext E52
      replace E5 := E5.ext E52
      replace E_b6 := E_b6.ext E52
      replace E_b47 := E_b47.ext E52
      replace Vn51 := Vn51.ext E52
      replace G51_modCount := G51_modCount.ext E52
      replace G51_elementData := G51_elementData.ext E52
      replace G51_size := G51_size.ext E52
      have E_b52 := A52
      have F_b52_line : Fld Z h52 b52 "com/example/yusenkabu/yusenkabu/CsvFile$Row" "line" "I" (.int (0 : Int32)) := D52 (Or.inr (hw _ (List.mem_of_getElem? (i := 113) rfl))) (ty := .int) (by decide)
      have F_b52_fields : Fld Z h52 b52 "com/example/yusenkabu/yusenkabu/CsvFile$Row" "fields" "Ljava/util/List;" .null := D52 (Or.inr (hw _ (List.mem_of_getElem? (i := 115) rfl))) (ty := (.object "java/util/List")) (by decide)
      refine Go.st (T' := T52) (pc' := 135) (L' := #[.val (.int p1), .val (.int p2), .val (.int p3), .val (.int p4), .val (.int p5), .val (.ref b1), .val (.ref b5), .val (.ref b6), .val (.int (3 : Int32)), .val (.int (2 : Int32)), .val (.ref b47), .unset, .unset, .unset]) (S' := [(.ref b52)]) st52 ?_
      refine Go.st (T' := T52) (pc' := 136) (L' := #[.val (.int p1), .val (.int p2), .val (.int p3), .val (.int p4), .val (.int p5), .val (.ref b1), .val (.ref b5), .val (.ref b6), .val (.int (3 : Int32)), .val (.int (2 : Int32)), .val (.ref b47), .unset, .unset, .unset]) (S' := [(.ref b52), (.ref b52)]) (fun t k => XS.dup X52.here hx rfl (hb hby at_135) rfl rfl k) ?_
      refine Go.st (T' := T52) (pc' := 137) (L' := #[.val (.int p1), .val (.int p2), .val (.int p3), .val (.int p4), .val (.int p5), .val (.ref b1), .val (.ref b5), .val (.ref b6), .val (.int (3 : Int32)), .val (.int (2 : Int32)), .val (.ref b47), .unset, .unset, .unset]) (S' := [(.int p1), (.ref b52), (.ref b52)]) (fun t k => XS.iloadN X52.here hx rfl (hb hby at_136) rfl  k) ?_
      refine Go.st (T' := T52) (pc' := 139) (L' := #[.val (.int p1), .val (.int p2), .val (.int p3), .val (.int p4), .val (.int p5), .val (.ref b1), .val (.ref b5), .val (.ref b6), .val (.int (3 : Int32)), .val (.int (2 : Int32)), .val (.ref b47), .unset, .unset, .unset]) (S' := [(.ref b47), (.int p1), (.ref b52), (.ref b52)]) (fun t k => XS.aload X52.here hx rfl (hb hby at_137) rfl rfl  k) ?_
      obtain ⟨_, _, ⟨T53, L53, k53, n53⟩, -, X53, ⟨Lc53, hQ53, l53, y53, z53⟩, st53⟩ := X52.specialBack hx (y := (⟨"com/example/yusenkabu/yusenkabu/CsvFile$Row", "<init>", "(ILjava/util/List;)V"⟩ : MethodName)) rfl hown (mvT hZ (hw _ (List.mem_of_getElem? (i := 103) rfl))) (mvT hZ (hw _ (List.mem_of_getElem? (i := 104) rfl))) (mvT hZ (hw _ (List.mem_of_getElem? (i := 105) rfl))) (by decide) (backOf (W := 1) (rm19 l Z a0 hw [] b52 p1 b47 h52 n0 Z0 E_b52 g_b52 F_b52_line F_b52_fields) hZ (hw _ (List.mem_of_getElem? (i := 105) rfl)) (hw _ (List.mem_of_getElem? (i := 102) rfl)) (by decide) (by decide)) (g := (mkF m 139 #[.val (.int p1), .val (.int p2), .val (.int p3), .val (.int p4), .val (.int p5), .val (.ref b1), .val (.ref b5), .val (.ref b6), .val (.int (3 : Int32)), .val (.int (2 : Int32)), .val (.ref b47), .unset, .unset, .unset] [(.ref b47), (.int p1), (.ref b52), (.ref b52)])) rfl (by rw [hml]; rfl) (Steps.refl _) (a := b52) (argsL := [(.int p1), (.ref b47)]) (rest := [(.ref b52)]) (lenOf pd_13 rfl) rfl (by show 2 * 0 + _ ≤ _; exact Nat.le_of_eq rfl) (hb hby at_139) (fun _ _ => ⟨rfl, e52, (by decide : 11 + 0 ≤ _), (by decide : 34 + 0 ≤ _)⟩)
      dsimp only [Pt.U, Pt.locs, Pt.cells, Pt.slots] at X53 l53 y53 z53 st53 hQ53
      subst l53 y53 z53
      obtain ⟨rfl, N53q, K53, G53_line, G53_fields⟩ := hQ53
      have N53 := Fr.app N51 N53q
      obtain ⟨h53, e53⟩ : ∃ z, T53.heap = z := ⟨_, rfl⟩
      rw [e53] at K53 G53_line G53_fields
      replace Z0 := Nat.le_trans Z0 K53.1
      replace O0 := O0.keep K53 (allS g_b52 all0)
      replace V_d0 := V_d0.keep K53 (ninS ne_d0_b52 nin0)
      replace E_b1 := E_b1.keep K53
      replace E5 := E5.keep K53
      replace E_b6 := E_b6.keep K53
      replace E_b47 := E_b47.keep K53
      replace Vn51 := Vn51.keep K53 (ninS ne_e1_49_b52 nin0)
      replace G51_modCount := G51_modCount.keep K53 (ninS ne_b47_b52 nin0)
      replace G51_elementData := G51_elementData.keep K53 (ninS ne_b47_b52 nin0)
      replace G51_size := G51_size.keep K53 (ninS ne_b47_b52 nin0)
      replace E_b52 := E_b52.keep K53
      refine Go.tr (T' := T53) (pc' := 142) (L' := #[.val (.int p1), .val (.int p2), .val (.int p3), .val (.int p4), .val (.int p5), .val (.ref b1), .val (.ref b5), .val (.ref b6), .val (.int (3 : Int32)), .val (.int (2 : Int32)), .val (.ref b47), .unset, .unset, .unset]) (S' := [(.ref b52)]) st53 ?_
      refine Go.st (T' := T53) (pc' := 144) (L' := #[.val (.int p1), .val (.int p2), .val (.int p3), .val (.int p4), .val (.int p5), .val (.ref b1), .val (.ref b5), .val (.ref b6), .val (.int (3 : Int32)), .val (.int (2 : Int32)), .val (.ref b47), .val (.ref b52), .unset, .unset]) (S' := []) (fun t k => XS.astore X53.here hx rfl (hb hby at_142) rfl rfl (l' := #[.val (.int p1), .val (.int p2), .val (.int p3), .val (.int p4), .val (.int p5), .val (.ref b1), .val (.ref b5), .val (.ref b6), .val (.int (3 : Int32)), .val (.int (2 : Int32)), .val (.ref b47), .val (.ref b52), .unset, .unset]) rfl k) ?_
      refine Go.st (T' := T53) (pc' := 146) (L' := #[.val (.int p1), .val (.int p2), .val (.int p3), .val (.int p4), .val (.int p5), .val (.ref b1), .val (.ref b5), .val (.ref b6), .val (.int (3 : Int32)), .val (.int (2 : Int32)), .val (.ref b47), .val (.ref b52), .unset, .unset]) (S' := [(.ref b52)]) (fun t k => XS.aload X53.here hx rfl (hb hby at_144) rfl rfl  k) ?_
      refine Go.st (T' := T53) (pc' := 148) (L' := #[.val (.int p1), .val (.int p2), .val (.int p3), .val (.int p4), .val (.int p5), .val (.ref b1), .val (.ref b5), .val (.ref b6), .val (.int (3 : Int32)), .val (.int (2 : Int32)), .val (.ref b47), .val (.ref b52), .unset, .unset]) (S' := [(.int (2 : Int32)), (.ref b52)]) (fun t k => XS.iload X53.here hx rfl (hb hby at_146) rfl  k) ?_
      obtain ⟨cq54, kq54, q54a, q54b, q54c⟩ := isOf hZ e53 E_b52
      obtain ⟨_, _, ⟨T54, L54, k54, n54⟩, -, X54, ⟨Lc54, hQ54, l54, y54, z54⟩, st54⟩ := X53.virtualBack hx (y := (⟨"com/example/yusenkabu/yusenkabu/CsvFile$Row", "field", "(I)Ljava/lang/String;"⟩ : MethodName)) (z := (⟨"com/example/yusenkabu/yusenkabu/CsvFile$Row", "field", "(I)Ljava/lang/String;"⟩ : MethodName)) hown (mvT hZ (hw _ (List.mem_of_getElem? (i := 116) rfl))) (mvT hZ (hw _ (List.mem_of_getElem? (i := 117) rfl))) (notFace_of_selects (args := #[]) (mvT hZ (hw _ (List.mem_of_getElem? (i := 119) rfl)))) (mvT hZ (hw _ (List.mem_of_getElem? (i := 119) rfl))) (mvT hZ (hw _ (List.mem_of_getElem? (i := 118) rfl))) (by decide) (backOf (W := 0) (rm21 l Z a0 hw [] b52 b47 e1_49 _ _ 2 3 b6 h53 n0 Z0 G53_fields E_b6 E_b47 G51_elementData G51_size Vn51 (by decide) (by decide) rfl) hZ (hw _ (List.mem_of_getElem? (i := 120) rfl)) (hw _ (List.mem_of_getElem? (i := 102) rfl)) (by decide) (by decide)) q54a q54c (g := (mkF m 148 #[.val (.int p1), .val (.int p2), .val (.int p3), .val (.int p4), .val (.int p5), .val (.ref b1), .val (.ref b5), .val (.ref b6), .val (.int (3 : Int32)), .val (.int (2 : Int32)), .val (.ref b47), .val (.ref b52), .unset, .unset] [(.int (2 : Int32)), (.ref b52)])) rfl (by rw [hml]; rfl) (Steps.refl _) (argsL := [(.int (2 : Int32))]) (rest := []) (lenOf pd_14 rfl) rfl (by show 2 * 0 + _ ≤ _; exact Nat.le_of_eq rfl) (hb hby at_148) (fun _ _ => ⟨rfl, e53, (by decide : 11 + 0 ≤ _), (by decide : 34 + 0 ≤ _)⟩)
      dsimp only [Pt.U, Pt.locs, Pt.cells, Pt.slots] at X54 l54 y54 z54 st54 hQ54
      subst l54 y54 z54
      obtain ⟨rfl, N54q, e54⟩ := hQ54
      have N54 := Fr.app N53 N54q
      refine Go.tr (T' := T54) (pc' := 151) (L' := #[.val (.int p1), .val (.int p2), .val (.int p3), .val (.int p4), .val (.int p5), .val (.ref b1), .val (.ref b5), .val (.ref b6), .val (.int (3 : Int32)), .val (.int (2 : Int32)), .val (.ref b47), .val (.ref b52), .unset, .unset]) (S' := [(.ref b6)]) st54 ?_
      refine Go.st (T' := T54) (pc' := 153) (L' := #[.val (.int p1), .val (.int p2), .val (.int p3), .val (.int p4), .val (.int p5), .val (.ref b1), .val (.ref b5), .val (.ref b6), .val (.int (3 : Int32)), .val (.int (2 : Int32)), .val (.ref b47), .val (.ref b52), .val (.ref b6), .unset]) (S' := []) (fun t k => XS.astore X54.here hx rfl (hb hby at_151) rfl rfl (l' := #[.val (.int p1), .val (.int p2), .val (.int p3), .val (.int p4), .val (.int p5), .val (.ref b1), .val (.ref b5), .val (.ref b6), .val (.int (3 : Int32)), .val (.int (2 : Int32)), .val (.ref b47), .val (.ref b52), .val (.ref b6), .unset]) rfl k) ?_
      refine Go.st (T' := T54) (pc' := 155) (L' := #[.val (.int p1), .val (.int p2), .val (.int p3), .val (.int p4), .val (.int p5), .val (.ref b1), .val (.ref b5), .val (.ref b6), .val (.int (3 : Int32)), .val (.int (2 : Int32)), .val (.ref b47), .val (.ref b52), .val (.ref b6), .unset]) (S' := [(.int (2 : Int32))]) (fun t k => XS.iload X54.here hx rfl (hb hby at_153) rfl  k) ?_
      refine Go.st (T' := T54) (pc' := 165) (L' := #[.val (.int p1), .val (.int p2), .val (.int p3), .val (.int p4), .val (.int p5), .val (.ref b1), .val (.ref b5), .val (.ref b6), .val (.int (3 : Int32)), .val (.int (2 : Int32)), .val (.ref b47), .val (.ref b52), .val (.ref b6), .unset]) (S' := []) (fun t k => XS.ifYes X54.here hx rfl (pc0 := 155) (pc' := 165) rfl (hb hby at_155) rfl ((if0 _ _).trans (feq (by decide : ¬ ((2 : Int32) = (0 : Int32)))).2) (by decide) (by decide) k) ?_
      refine Go.st (T' := T54) (pc' := 167) (L' := #[.val (.int p1), .val (.int p2), .val (.int p3), .val (.int p4), .val (.int p5), .val (.ref b1), .val (.ref b5), .val (.ref b6), .val (.int (3 : Int32)), .val (.int (2 : Int32)), .val (.ref b47), .val (.ref b52), .val (.ref b6), .unset]) (S' := [(.int (2 : Int32))]) (fun t k => XS.iload X54.here hx rfl (hb hby at_165) rfl  k) ?_
      refine Go.st (T' := T54) (pc' := 168) (L' := #[.val (.int p1), .val (.int p2), .val (.int p3), .val (.int p4), .val (.int p5), .val (.ref b1), .val (.ref b5), .val (.ref b6), .val (.int (3 : Int32)), .val (.int (2 : Int32)), .val (.ref b47), .val (.ref b52), .val (.ref b6), .unset]) (S' := [(.int (1 : Int32)), (.int (2 : Int32))]) (fun t k => XS.iconst X54.here hx rfl (hb hby at_167) k) ?_
      refine Go.st (T' := T54) (pc' := 178) (L' := #[.val (.int p1), .val (.int p2), .val (.int p3), .val (.int p4), .val (.int p5), .val (.ref b1), .val (.ref b5), .val (.ref b6), .val (.int (3 : Int32)), .val (.int (2 : Int32)), .val (.ref b47), .val (.ref b52), .val (.ref b6), .unset]) (S' := []) (fun t k => XS.icmpYes X54.here hx rfl (pc0 := 168) (pc' := 178) rfl (hb hby at_168) rfl (feq (by decide : ¬ ((2 : Int32) = (1 : Int32)))).2 (by decide) (by decide) k) ?_
      refine Go.st (T' := T54) (pc' := 180) (L' := #[.val (.int p1), .val (.int p2), .val (.int p3), .val (.int p4), .val (.int p5), .val (.ref b1), .val (.ref b5), .val (.ref b6), .val (.int (3 : Int32)), .val (.int (2 : Int32)), .val (.ref b47), .val (.ref b52), .val (.ref b6), .unset]) (S' := [(.ref b6)]) (fun t k => XS.aload X54.here hx rfl (hb hby at_178) rfl rfl  k) ?_
      refine Go.st (T' := T54) (pc' := 182) (L' := #[.val (.int p1), .val (.int p2), .val (.int p3), .val (.int p4), .val (.int p5), .val (.ref b1), .val (.ref b5), .val (.ref b6), .val (.int (3 : Int32)), .val (.int (2 : Int32)), .val (.ref b47), .val (.ref b52), .val (.ref b6), .val (.ref b6)]) (S' := []) (fun t k => XS.astore X54.here hx rfl (hb hby at_180) rfl rfl (l' := #[.val (.int p1), .val (.int p2), .val (.int p3), .val (.int p4), .val (.int p5), .val (.ref b1), .val (.ref b5), .val (.ref b6), .val (.int (3 : Int32)), .val (.int (2 : Int32)), .val (.ref b47), .val (.ref b52), .val (.ref b6), .val (.ref b6)]) rfl k) ?_
      refine Go.st (T' := T54) (pc' := 184) (L' := #[.val (.int p1), .val (.int p2), .val (.int p3), .val (.int p4), .val (.int p5), .val (.ref b1), .val (.ref b5), .val (.ref b6), .val (.int (3 : Int32)), .val (.int (2 : Int32)), .val (.ref b47), .val (.ref b52), .val (.ref b6), .val (.ref b6)]) (S' := [(.ref b6)]) (fun t k => XS.aload X54.here hx rfl (hb hby at_182) rfl rfl  k) ?_
      refine Go.st (T' := T54) (pc' := 186) (L' := #[.val (.int p1), .val (.int p2), .val (.int p3), .val (.int p4), .val (.int p5), .val (.ref b1), .val (.ref b5), .val (.ref b6), .val (.int (3 : Int32)), .val (.int (2 : Int32)), .val (.ref b47), .val (.ref b52), .val (.ref b6), .val (.ref b6)]) (S' := [(.ref b6), (.ref b6)]) (fun t k => XS.aload X54.here hx rfl (hb hby at_184) rfl rfl  k) ?_
      refine Go.st (T' := T54) (pc' := 189) (L' := #[.val (.int p1), .val (.int p2), .val (.int p3), .val (.int p4), .val (.int p5), .val (.ref b1), .val (.ref b5), .val (.ref b6), .val (.int (3 : Int32)), .val (.int (2 : Int32)), .val (.ref b47), .val (.ref b52), .val (.ref b6), .val (.ref b6)]) (S' := []) (fun t k => Jvm.RoadKit.acmp (g := (mkF m 186 #[.val (.int p1), .val (.int p2), .val (.int p3), .val (.int p4), .val (.int p5), .val (.ref b1), .val (.ref b5), .val (.ref b6), .val (.int (3 : Int32)), .val (.int (2 : Int32)), .val (.ref b47), .val (.ref b52), .val (.ref b6), .val (.ref b6)] [(.ref b6), (.ref b6)])) X54 hx rfl rfl rfl (pc0 := 186) (pc' := 189) (same := true) rfl (hb hby at_186) rfl (decide_eq_true rfl) (by decide) (by decide) k) ?_
      refine Go.st (T' := T54) (pc' := 190) (L' := #[.val (.int p1), .val (.int p2), .val (.int p3), .val (.int p4), .val (.int p5), .val (.ref b1), .val (.ref b5), .val (.ref b6), .val (.int (3 : Int32)), .val (.int (2 : Int32)), .val (.ref b47), .val (.ref b52), .val (.ref b6), .val (.ref b6)]) (S' := [(.int (1 : Int32))]) (fun t k => XS.iconst X54.here hx rfl (hb hby at_189) k) ?_
      refine Go.st (T' := T54) (pc' := 194) (L' := #[.val (.int p1), .val (.int p2), .val (.int p3), .val (.int p4), .val (.int p5), .val (.ref b1), .val (.ref b5), .val (.ref b6), .val (.int (3 : Int32)), .val (.int (2 : Int32)), .val (.ref b47), .val (.ref b52), .val (.ref b6), .val (.ref b6)]) (S' := [(.int (1 : Int32))]) (fun t k => XS.goto X54.here hx rfl (pc0 := 190) (pc' := 194) rfl (hb hby at_190) (by decide) (by decide) k) ?_
      exact Go.retN X54 hx hlk hret (by simp) (hb hby at_194) (by decide) (by decide) (by rw [e54]; exact ⟨rfl, N54⟩)
theorem own_empty {s : State} {args : Array Value} {t : Term} {a : Addr} {c : Cell} {ty : FieldType} (A : Arr s s.heap a c ty) (ev : t.eval args s none [] s = some (.ref a)) (hl : (Jvm.Cond.eq (Jvm.Term.length t) (Jvm.Term.int (0 : Int32))).value args s none s [] = some true) : Arv s s.heap a c.cls ty (0 : Int32) [] .null := by
  have h1 : s.arrayAt? a = some c := A.fin (Vm.Alike.refl _)
  have h2 : c.slots.size = 0 := by
    by_cases hb : c.slots.size < 2 ^ 31
    · have h5 := len_f ev h1 hb
      have h3 : c.slots.size.toInt32 = 0 := gotT (Cond.eq_ints h5 (Term.int_eval (0))) hl
      have h4 := congrArg Int32.toInt h3
      rw [len_toInt hb] at h4
      have e0 : (0 : Int32).toInt = 0 := rfl
      omega
    · have h5 : (Term.length t).eval args s none [] s = none := by simp [Term.eval, ev, h1]; omega
      simp [Cond.value, h5] at hl
  refine ⟨c, A, rfl, by rw [h2]; rfl, by decide, fun k hk => by rw [h2] at hk; exact absurd hk (Nat.not_lt_zero _), fun k hk => by rw [h2] at hk; exact absurd hk (Nat.not_lt_zero _)⟩
set_option maxRecDepth 65536 in
set_option maxHeartbeats 40000000 in
theorem comes_1 {Post : Tables → Env → Array Value → State → Outcome → State → Prop} (hpost : ∀ tb e args s v u, (limb_1_1.after args s (.returned v) u = true ∧ limb_1_2.after args s (.returned v) u = true ∧ True) → FrameEnd s (.returned v) u (Jvm.fieldLocs frame_1_writes args s ++ Jvm.arrayLocs frame_1_arrays args s ++ Jvm.staticLocs frame_1_statics s) 32 192 → Post tb e args s (.returned v) u) :
    ArmFor flags0 classFile x code maxLocals ret World_1 tables_1 room_1 Calls_1 rest_1 Pre_1 Post := by
  intro l hfl _ _ p e ha hc hk s m args below hf hA hF happ hP
  obtain ⟨hcalls, hrest, hpre⟩ := hP
  obtain ⟨-, -, -, hnamed, -, -, -, hat⟩ := (Spec.applies_iff hf).mp happ
  obtain ⟨hg, hn⟩ := and_e (Cond.before_iff.mp (show (Jvm.Cond.and given_1 narrow_1).before args s = true from hpre))
  obtain ⟨gc, gr0⟩ := and_e hg
  obtain ⟨ga0, gr1⟩ := and_e gr0
  obtain ⟨ga1, gr2⟩ := and_e gr1
  obtain ⟨ga2, gr3⟩ := and_e gr2
  obtain ⟨ga3, gr4⟩ := and_e gr3
  have ga4 := gr4
  obtain ⟨w0, w1, w2, w3, w4, rfl⟩ : ∃ w0 w1 w2 w3 w4 : Value, args = #[w0, w1, w2, w3, w4] := by
    have hs : args.size = 5 := by simpa [Cond.value, given_1] using gc
    obtain ⟨L⟩ := args
    match L, hs with
    | [w0, w1, w2, w3, w4], _ => exact ⟨w0, w1, w2, w3, w4, rfl⟩
  have hw := fun d (hd : d ∈ tables_1) => atoms_spec (ws := Jvm.Cond.code x code maxLocals ret :: tables_1) hat d (List.mem_cons_of_mem _ hd)
  have hfit : Fit s := fun {y c} hc i hi => by
    obtain ⟨ha, rfl⟩ := Array.getElem?_eq_some_iff.mp hc
    have q := List.all_eq_true.mp ((Array.all_eq_true_iff_forall_mem.mp hF) _ (Array.getElem_mem ha)) i (List.mem_range.mpr hi)
    simpa [Array.getElem?_eq_getElem hi] using q
  obtain ⟨hsets, hown0⟩ := atoms_of _ (rest_1_c_eq ▸ (show rest_1_c.before _ s = true from hrest))
  obtain ⟨i0, ei0⟩ := is_v ga0
  obtain rfl : w0 = (.int i0) := Option.some.inj ei0
  obtain ⟨i1, ei1⟩ := is_v ga1
  obtain rfl : w1 = (.int i1) := Option.some.inj ei1
  obtain ⟨i2, ei2⟩ := is_v ga2
  obtain rfl : w2 = (.int i2) := Option.some.inj ei2
  obtain ⟨i3, ei3⟩ := is_v ga3
  obtain rfl : w3 = (.int i3) := Option.some.inj ei3
  obtain ⟨i4, ei4⟩ := is_v ga4
  obtain rfl : w4 = (.int i4) := Option.some.inj ei4
  have nc0 := not_v (Cond.before_iff.mp (hsets _ (List.mem_of_getElem? (i := 2) rfl)))
  obtain ⟨gC, eC⟩ := is_v (Cond.before_iff.mp (hsets _ (List.mem_of_getElem? (i := 1) rfl)))
  have SC : Sta s s.heap "java/lang/String" "COMPACT_STRINGS" "Z" (.int gC) := Sta.start eC (Or.inl (hsets _ (List.mem_of_getElem? (i := 0) rfl)))
  have PC : ¬ (gC = (0 : Int32)) := gotF (Cond.eq_ints eC (Term.int_eval (0))) nc0
  have wA := Cond.before_iff.mp (hsets _ (List.mem_of_getElem? (i := 15) rfl))
  obtain ⟨d0, eD⟩ := arr_v wA
  have SD : Sta s s.heap "java/util/ArrayList" "DEFAULTCAPACITY_EMPTY_ELEMENTDATA" "[Ljava/lang/Object;" (.ref d0) := Sta.start eD (Or.inr ⟨hw _ (List.mem_of_getElem? (i := 47) rfl), hsets _ (List.mem_of_getElem? (i := 11) rfl)⟩)
  obtain ⟨cD, AD⟩ := Arr.start eD wA
  have wL := Cond.before_iff.mp (hsets _ (List.mem_of_getElem? (i := 17) rfl))
  have VD : Arv s s.heap d0 cD.cls (.object "java/lang/Object") (0 : Int32) [] .null := own_empty AD eD wL
  obtain ⟨n, o, h1, h2, h3, _, L, rfl, ⟨rfl, N⟩, hq⟩ := rm0 l s _ hw tables_1 i0 i1 i2 i3 i4 gC d0 cD.cls s.heap s.heap.size (Nat.le_refl _) SC PC SD (Old.start s) VD p e ha hc hk s m _ below hf ((Spec.applies_iff_loose hf).mp happ).1 ⟨rfl, State.Warmed39.refl s, rfl⟩ trivial
  refine ⟨n, _, h1, h2, h3, hpost _ _ _ _ _ _ ⟨Cond.after_iff.mpr rfl, Cond.after_iff.mpr (eq_i res_at (Term.int_eval (1)) rfl), trivial⟩ ⟨hq.1, hq.2.1, (hq.2.2.sift fun y hy => Or.inr (N y hy)).mono (by decide) (by decide)⟩⟩
theorem main_1_1 : Claimed_1_1 := comes_1 fun _ _ _ _ _ _ h hF => ⟨h.1, hF⟩
theorem main_1_2 : Claimed_1_2 := comes_1 fun _ _ _ _ _ _ h hF => ⟨h.2.1, hF⟩
end Jvm.Pilot.@@N@@
namespace Jvm.Pilot.@@N@@
open Jvm Jvm.ClassFile Sem Op Lib Jvm.Free Jvm.Stand Jvm.Pilot.@@N@@.Jvm.D
/-! MADE BY PROGRAM (witnessworld.py) out of the Statement's table words and the real class files: 32 classes; the members and pool entries that the words name. The judged class is class 1, her method 1. -/
namespace start1
open Jvm.ClassFile
def u (s : String) : CpInfo := .utf8 (stringToUtf16 s)
/-- a pool by its gaps: so many unusable entries, then the entry; so many at the end -/
def gap : Nat → List CpInfo → List CpInfo
  | 0, r => r
  | n + 1, r => .unusable :: gap n r
def poolList (es : List (Nat × CpInfo)) (last : Nat) : List CpInfo := es.foldr (fun e r => gap e.1 (e.2 :: r)) (gap last [])
def pool (es : List (Nat × CpInfo)) (last : Nat) : Array CpInfo := ⟨poolList es last⟩
def fileOf (pool : Array CpInfo) (this : Nat) (attrs : Array Attribute := #[]) (ms : Array MethodInfo := #[]) (fl : Nat := 33) (sup : Nat := 0) (ifs : Array Nat := #[]) (fds : Array FieldInfo := #[]) : ClassFile where
  minorVersion := 0
  majorVersion := 65
  constantPool := pool
  accessFlags := fl
  thisClass := this
  superClass := sup
  interfaces := ifs
  fields := fds
  methods := ms
  attributes := attrs
def plain (name : String) (sup : Option ClassId) : Class where
  name := name
  kind := .ordinary
  loader := none
  accessFlags := 33
  super := sup
  interfaces := #[]
  cf := none
  fields := #[]
  methods := #[]
  instanceTypes := #[]
  staticTypes := #[]
  resolved := #[]
  callSites := []
  init := .initialized
  statics := none
  mirror := none

def pool0 : Array CpInfo := pool [(5, u "<init>"), (0, u "()V"), (1, .class_ 10), (1, u "java/lang/Object")] 113

def k0c0 : Code := { maxStack := 0, maxLocals := 1, code := object_method_1_code, exceptionTable := #[], attributes := #[] }
def k0m0 : Method := { name := "<init>", desc := "()V", sig := { parameters := [], returnType := none }, accessFlags := 1, code := some k0c0 }
/-- java/lang/Object -/
def k0 : Class := { plain "java/lang/Object" none with
  accessFlags := 33
  interfaces := #[]
  cf := some (fileOf pool0 8 #[] #[{ accessFlags := 1, nameIndex := 5, descriptorIndex := 6, attributes := #[] }] 33 0 #[] #[])
  fields := #[]
  methods := #[k0m0]
  instanceTypes := #[]
  staticTypes := #[]
  resolved := Array.replicate 124 none
  statics := none }

def pool1 : Array CpInfo := pool [(2, .class_ 4), (0, .nameAndType 5 6), (0, u "java/lang/Object"), (0, u "<init>"), (0, u "()V"), (0, .class_ 8), (0, u "java/lang/String"), (0, .methodref 7 10), (0, .nameAndType 5 11), (0, u "([C)V"), (0, .methodref 7 13), (0, .nameAndType 14 15), (0, u "valueOf"), (0, u "(C)Ljava/lang/String;"), (0, .integer 2147483647), (0, .class_ 18), (0, u "java/util/ArrayList"), (0, .methodref 17 3), (0, .methodref 17 21), (0, .nameAndType 22 23), (0, u "add"), (0, u "(Ljava/lang/Object;)Z"), (0, .class_ 25), (0, u "com/example/yusenkabu/yusenkabu/CsvFile$Row"), (0, .methodref 24 27), (0, .nameAndType 5 28), (0, u "(ILjava/util/List;)V"), (0, .methodref 24 30), (0, .nameAndType 31 32), (0, u "field"), (0, u "(I)Ljava/lang/String;"), (0, .class_ 34), (0, u "com/example/yusenkabu/yusenkabu/RowFieldPinLaw"), (2, u "law"), (0, u "(IIIII)Z")] 7

def k1m0 : Method := { name := "<init>", desc := "()V", sig := { parameters := [], returnType := none }, accessFlags := 2, code := none }
def k1c1 : Code := { maxStack := 7, maxLocals := 14, code := code, exceptionTable := #[], attributes := #[] }
def k1m1 : Method := { name := "law", desc := "(IIIII)Z", sig := { parameters := [.int, .int, .int, .int, .int], returnType := some .boolean }, accessFlags := 9, code := some k1c1 }
/-- com/example/yusenkabu/yusenkabu/RowFieldPinLaw -/
def k1 : Class := { plain "com/example/yusenkabu/yusenkabu/RowFieldPinLaw" (some 0) with
  accessFlags := 49
  interfaces := #[]
  cf := some (fileOf pool1 33 #[] #[{ accessFlags := 2, nameIndex := 5, descriptorIndex := 6, attributes := #[] }, { accessFlags := 9, nameIndex := 37, descriptorIndex := 38, attributes := #[] }] 49 2 #[] #[])
  fields := #[]
  methods := #[k1m0, k1m1]
  instanceTypes := #[]
  staticTypes := #[]
  resolved := Array.replicate 46 none
  statics := none }

def pool2 : Array CpInfo := pool [(1, .class_ 2), (0, u "java/io/Serializable"), (0, .class_ 4), (0, u "java/lang/Object")] 2

/-- java/io/Serializable -/
def k2 : Class := { plain "java/io/Serializable" (some 0) with
  accessFlags := 1537
  interfaces := #[]
  cf := some (fileOf pool2 1 #[] #[] 1537 3 #[] #[])
  fields := #[]
  methods := #[]
  instanceTypes := #[]
  staticTypes := #[]
  resolved := Array.replicate 7 none
  statics := none }

def pool3 : Array CpInfo := pool [(1, .class_ 2), (0, u "java/lang/Comparable"), (0, .class_ 4), (0, u "java/lang/Object")] 7

/-- java/lang/Comparable -/
def k3 : Class := { plain "java/lang/Comparable" (some 0) with
  accessFlags := 1537
  interfaces := #[]
  cf := some (fileOf pool3 1 #[] #[] 1537 3 #[] #[])
  fields := #[]
  methods := #[]
  instanceTypes := #[]
  staticTypes := #[]
  resolved := Array.replicate 12 none
  statics := none }

def pool4 : Array CpInfo := pool [(2, .class_ 4), (1, u "java/lang/CharSequence"), (42, .class_ 48), (0, u "java/lang/CharSequence$1CodePointIterator"), (10, .class_ 60), (0, u "java/lang/CharSequence$1CharIterator"), (5, .class_ 67), (0, u "java/lang/Object")] 63

/-- java/lang/CharSequence -/
def k4 : Class := { plain "java/lang/CharSequence" (some 0) with
  accessFlags := 1537
  interfaces := #[]
  cf := some (fileOf pool4 2 #[.nestMembers #[47, 59]] #[] 1537 66 #[] #[])
  fields := #[]
  methods := #[]
  instanceTypes := #[]
  staticTypes := #[]
  resolved := Array.replicate 131 none
  statics := none }

def pool5 : Array CpInfo := pool [(1, .class_ 2), (0, u "java/lang/constant/Constable"), (0, .class_ 4), (0, u "java/lang/Object")] 6

/-- java/lang/constant/Constable -/
def k5 : Class := { plain "java/lang/constant/Constable" (some 0) with
  accessFlags := 1537
  interfaces := #[]
  cf := some (fileOf pool5 1 #[] #[] 1537 3 #[] #[])
  fields := #[]
  methods := #[]
  instanceTypes := #[]
  staticTypes := #[]
  resolved := Array.replicate 11 none
  statics := none }

def pool6 : Array CpInfo := pool [(1, .class_ 2), (0, u "java/lang/constant/ConstantDesc"), (0, .class_ 4), (0, u "java/lang/Object")] 32

/-- java/lang/constant/ConstantDesc -/
def k6 : Class := { plain "java/lang/constant/ConstantDesc" (some 0) with
  accessFlags := 1537
  interfaces := #[]
  cf := some (fileOf pool6 1 #[] #[] 1537 3 #[] #[])
  fields := #[]
  methods := #[]
  instanceTypes := #[]
  staticTypes := #[]
  resolved := Array.replicate 37 none
  statics := none }

def pool7 : Array CpInfo := pool [(1, .methodref 2 3), (0, .class_ 4), (0, .nameAndType 5 6), (0, u "java/lang/Object"), (0, u "<init>"), (0, u "()V"), (2, .fieldref 10 11), (0, .class_ 12), (0, .nameAndType 13 14), (0, u "java/lang/String"), (0, u "value"), (0, u "[B"), (0, .fieldref 10 16), (0, .nameAndType 17 18), (0, u "coder"), (0, u "B"), (2, u "hash"), (0, u "I"), (2, u "hashIsZero"), (0, u "Z"), (0, .methodref 10 28), (0, .nameAndType 5 29), (0, u "([CIILjava/lang/Void;)V"), (8, .fieldref 10 39), (0, .nameAndType 40 26), (0, u "COMPACT_STRINGS"), (1, .class_ 44), (1, u "java/lang/StringUTF16"), (0, u "compress"), (1, .methodref 42 48), (0, .nameAndType 49 50), (0, u "coderFromArrayLen"), (0, u "([BI)B"), (2, u "toBytes"), (53, .class_ 109), (1, u "java/lang/StringLatin1"), (67, .methodref 42 178), (0, .nameAndType 45 179), (0, u "([CII)[B"), (29, .methodref 10 210), (0, .nameAndType 5 211), (0, u "([BB)V"), (157, u "(C)Z"), (205, .class_ 576), (0, u "java/lang/CharSequence"), (22, u "CASE_INSENSITIVE_ORDER"), (0, u "Ljava/util/Comparator;"), (181, u "valueOf"), (0, u "(C)Ljava/lang/String;"), (226, u "([C)V"), (4, .methodref 107 1016), (0, .nameAndType 1017 369), (0, u "canEncode"), (0, .methodref 107 1019), (0, .nameAndType 53 1020), (0, u "(C)[B"), (80, u "serialPersistentFields"), (0, u "[Ljava/io/ObjectStreamField;"), (0, .class_ 1104), (0, u "java/lang/String$CaseInsensitiveComparator"), (1, .class_ 1107), (0, u "java/io/Serializable"), (0, .class_ 1109), (0, u "java/lang/Comparable"), (0, .class_ 1111), (0, u "java/lang/constant/Constable"), (0, .class_ 1113), (0, u "java/lang/constant/ConstantDesc"), (2, u "serialVersionUID"), (0, u "J"), (3, u "REPL"), (0, u "C"), (2, u "LATIN1"), (1, u "UTF16")] 323

def k7m0 : Method := { name := "<init>", desc := "()V", sig := { parameters := [], returnType := none }, accessFlags := 1, code := none }
def k7c1 : Code := { maxStack := 5, maxLocals := 2, code := jdk_42_method_3_code, exceptionTable := #[], attributes := #[] }
def k7m1 : Method := { name := "<init>", desc := "([C)V", sig := { parameters := [(.array .char)], returnType := none }, accessFlags := 1, code := some k7c1 }
def k7c2 : Code := { maxStack := 4, maxLocals := 1, code := jdk_42_method_139_code, exceptionTable := #[], attributes := #[] }
def k7m2 : Method := { name := "valueOf", desc := "(C)Ljava/lang/String;", sig := { parameters := [.char], returnType := some (.object "java/lang/String") }, accessFlags := 9, code := some k7c2 }
def k7c3 : Code := { maxStack := 4, maxLocals := 6, code := jdk_42_method_149_code, exceptionTable := #[], attributes := #[] }
def k7m3 : Method := { name := "<init>", desc := "([CIILjava/lang/Void;)V", sig := { parameters := [(.array .char), .int, .int, (.object "java/lang/Void")], returnType := none }, accessFlags := 2, code := some k7c3 }
def k7c4 : Code := { maxStack := 2, maxLocals := 3, code := jdk_42_method_151_code, exceptionTable := #[], attributes := #[] }
def k7m4 : Method := { name := "<init>", desc := "([BB)V", sig := { parameters := [(.array .byte), .byte], returnType := none }, accessFlags := 0, code := some k7c4 }
/-- java/lang/String -/
def k7 : Class := { plain "java/lang/String" (some 0) with
  accessFlags := 49
  interfaces := #[2, 3, 4, 5, 6]
  cf := some (fileOf pool7 10 #[.nestMembers #[1103]] #[{ accessFlags := 1, nameIndex := 5, descriptorIndex := 6, attributes := #[] }, { accessFlags := 1, nameIndex := 5, descriptorIndex := 1010, attributes := #[] }, { accessFlags := 9, nameIndex := 782, descriptorIndex := 783, attributes := #[] }, { accessFlags := 2, nameIndex := 5, descriptorIndex := 29, attributes := #[] }, { accessFlags := 0, nameIndex := 5, descriptorIndex := 211, attributes := #[] }] 49 2 #[1106, 1108, 575, 1110, 1112] #[{ accessFlags := 18, nameIndex := 13, descriptorIndex := 14, attributes := #[] }, { accessFlags := 18, nameIndex := 17, descriptorIndex := 18, attributes := #[] }, { accessFlags := 2, nameIndex := 21, descriptorIndex := 22, attributes := #[] }, { accessFlags := 2, nameIndex := 25, descriptorIndex := 26, attributes := #[] }, { accessFlags := 26, nameIndex := 1116, descriptorIndex := 1117, attributes := #[] }, { accessFlags := 24, nameIndex := 40, descriptorIndex := 26, attributes := #[] }, { accessFlags := 26, nameIndex := 1101, descriptorIndex := 1102, attributes := #[] }, { accessFlags := 26, nameIndex := 1121, descriptorIndex := 1122, attributes := #[] }, { accessFlags := 25, nameIndex := 599, descriptorIndex := 600, attributes := #[] }, { accessFlags := 24, nameIndex := 1125, descriptorIndex := 18, attributes := #[] }, { accessFlags := 24, nameIndex := 1127, descriptorIndex := 18, attributes := #[] }])
  fields := #[{ name := "value", type := (.array .byte), accessFlags := 18, slot := 0, constantValue := 0 }, { name := "coder", type := .byte, accessFlags := 18, slot := 1, constantValue := 0 }, { name := "hash", type := .int, accessFlags := 2, slot := 2, constantValue := 0 }, { name := "hashIsZero", type := .boolean, accessFlags := 2, slot := 3, constantValue := 0 }, { name := "serialVersionUID", type := .long, accessFlags := 26, slot := 0, constantValue := 0 }, { name := "COMPACT_STRINGS", type := .boolean, accessFlags := 24, slot := 1, constantValue := 0 }, { name := "serialPersistentFields", type := (.array (.object "java/io/ObjectStreamField")), accessFlags := 26, slot := 2, constantValue := 0 }, { name := "REPL", type := .char, accessFlags := 26, slot := 3, constantValue := 0 }, { name := "CASE_INSENSITIVE_ORDER", type := (.object "java/util/Comparator"), accessFlags := 25, slot := 4, constantValue := 0 }, { name := "LATIN1", type := .byte, accessFlags := 24, slot := 5, constantValue := 0 }, { name := "UTF16", type := .byte, accessFlags := 24, slot := 6, constantValue := 0 }]
  methods := #[k7m0, k7m1, k7m2, k7m3, k7m4]
  instanceTypes := #[(.array .byte), .byte, .int, .boolean]
  staticTypes := #[.long, .boolean, (.array (.object "java/io/ObjectStreamField")), .char, (.object "java/util/Comparator"), .byte, .byte]
  resolved := Array.replicate 1451 none
  statics := some 0 }

def pool8 : Array CpInfo := pool [(6, .class_ 8), (1, u "java/lang/Object"), (0, u "<init>"), (0, u "()V"), (1, .class_ 14), (1, u "java/lang/StringUTF16"), (31, u "$assertionsDisabled"), (0, u "Z"), (13, u "HI_BYTE_SHIFT"), (0, u "I"), (2, u "LO_BYTE_SHIFT"), (49, .methodref 12 116), (0, .nameAndType 117 118), (0, u "compress"), (0, u "([CI[BII)I"), (3, u "([CII)[B"), (138, u "coderFromArrayLen"), (0, u "([BI)B"), (106, .class_ 371), (1, u "java/lang/StringUTF16$LinesSpliterator"), (58, u "MAX_LENGTH"), (196, .class_ 628), (0, u "java/lang/StringUTF16$CodePointsSpliterator"), (0, .class_ 630), (0, u "java/lang/StringUTF16$CharsSpliterator")] 4

def k8m0 : Method := { name := "<init>", desc := "()V", sig := { parameters := [], returnType := none }, accessFlags := 0, code := none }
def k8c1 : Code := { maxStack := 2, maxLocals := 2, code := jdk_52_method_15_code, exceptionTable := #[], attributes := #[] }
def k8m1 : Method := { name := "coderFromArrayLen", desc := "([BI)B", sig := { parameters := [(.array .byte), .int], returnType := some .byte }, accessFlags := 8, code := some k8c1 }
def k8c2 : Code := { maxStack := 5, maxLocals := 6, code := jdk_52_method_16_code, exceptionTable := #[], attributes := #[] }
def k8m2 : Method := { name := "compress", desc := "([CII)[B", sig := { parameters := [(.array .char), .int, .int], returnType := some (.array .byte) }, accessFlags := 9, code := some k8c2 }
def k8c3 : Code := { maxStack := 3, maxLocals := 7, code := jdk_52_method_21_code, exceptionTable := #[], attributes := #[] }
def k8m3 : Method := { name := "compress", desc := "([CI[BII)I", sig := { parameters := [(.array .char), .int, (.array .byte), .int, .int], returnType := some .int }, accessFlags := 9, code := some k8c3 }
/-- java/lang/StringUTF16 -/
def k8 : Class := { plain "java/lang/StringUTF16" (some 0) with
  accessFlags := 48
  interfaces := #[]
  cf := some (fileOf pool8 12 #[.nestMembers #[627, 629, 369]] #[{ accessFlags := 0, nameIndex := 9, descriptorIndex := 10, attributes := #[] }, { accessFlags := 8, nameIndex := 261, descriptorIndex := 262, attributes := #[] }, { accessFlags := 9, nameIndex := 117, descriptorIndex := 122, attributes := #[] }, { accessFlags := 9, nameIndex := 117, descriptorIndex := 118, attributes := #[] }] 48 6 #[] #[{ accessFlags := 26, nameIndex := 61, descriptorIndex := 62, attributes := #[] }, { accessFlags := 26, nameIndex := 65, descriptorIndex := 62, attributes := #[] }, { accessFlags := 24, nameIndex := 430, descriptorIndex := 62, attributes := #[] }, { accessFlags := 4120, nameIndex := 46, descriptorIndex := 47, attributes := #[] }])
  fields := #[{ name := "HI_BYTE_SHIFT", type := .int, accessFlags := 26, slot := 0, constantValue := 0 }, { name := "LO_BYTE_SHIFT", type := .int, accessFlags := 26, slot := 1, constantValue := 0 }, { name := "MAX_LENGTH", type := .int, accessFlags := 24, slot := 2, constantValue := 0 }, { name := "$assertionsDisabled", type := .boolean, accessFlags := 4120, slot := 3, constantValue := 0 }]
  methods := #[k8m0, k8m1, k8m2, k8m3]
  instanceTypes := #[]
  staticTypes := #[.int, .int, .int, .boolean]
  resolved := Array.replicate 635 none
  statics := none }

def pool9 : Array CpInfo := pool [(4, .class_ 6), (1, u "java/lang/Object"), (0, u "<init>"), (0, u "()V"), (5, .class_ 16), (1, u "java/lang/StringLatin1"), (73, u "canEncode"), (14, u "(C)Z"), (15, u "$assertionsDisabled"), (0, u "Z"), (98, .class_ 223), (1, u "java/lang/StringLatin1$LinesSpliterator"), (156, u "toBytes"), (1, u "(C)[B"), (7, .class_ 391), (0, u "java/lang/StringLatin1$CharsSpliterator")] 3

def k9m0 : Method := { name := "<init>", desc := "()V", sig := { parameters := [], returnType := none }, accessFlags := 0, code := none }
def k9c1 : Code := { maxStack := 2, maxLocals := 1, code := jdk_43_method_3_code, exceptionTable := #[], attributes := #[] }
def k9m1 : Method := { name := "canEncode", desc := "(C)Z", sig := { parameters := [.char], returnType := some .boolean }, accessFlags := 9, code := some k9c1 }
def k9c2 : Code := { maxStack := 4, maxLocals := 1, code := jdk_43_method_46_code, exceptionTable := #[], attributes := #[] }
def k9m2 : Method := { name := "toBytes", desc := "(C)[B", sig := { parameters := [.char], returnType := some (.array .byte) }, accessFlags := 9, code := some k9c2 }
/-- java/lang/StringLatin1 -/
def k9 : Class := { plain "java/lang/StringLatin1" (some 0) with
  accessFlags := 48
  interfaces := #[]
  cf := some (fileOf pool9 14 #[.nestMembers #[390, 221]] #[{ accessFlags := 0, nameIndex := 7, descriptorIndex := 8, attributes := #[] }, { accessFlags := 9, nameIndex := 90, descriptorIndex := 105, attributes := #[] }, { accessFlags := 9, nameIndex := 380, descriptorIndex := 382, attributes := #[] }] 48 4 #[] #[{ accessFlags := 4120, nameIndex := 121, descriptorIndex := 122, attributes := #[] }])
  fields := #[{ name := "$assertionsDisabled", type := .boolean, accessFlags := 4120, slot := 0, constantValue := 0 }]
  methods := #[k9m0, k9m1, k9m2]
  instanceTypes := #[]
  staticTypes := #[.boolean]
  resolved := Array.replicate 395 none
  statics := none }

def pool10 : Array CpInfo := pool [(8, .class_ 10), (1, u "java/lang/Iterable"), (24, .class_ 36), (0, u "java/lang/Object")] 25

/-- java/lang/Iterable -/
def k10 : Class := { plain "java/lang/Iterable" (some 0) with
  accessFlags := 1537
  interfaces := #[]
  cf := some (fileOf pool10 8 #[] #[] 1537 35 #[] #[])
  fields := #[]
  methods := #[]
  instanceTypes := #[]
  staticTypes := #[]
  resolved := Array.replicate 62 none
  statics := none }

def pool11 : Array CpInfo := pool [(10, .class_ 12), (1, u "java/util/Collection"), (47, .class_ 61), (0, u "java/lang/Object"), (0, .class_ 63), (0, u "java/lang/Iterable")] 51

/-- java/util/Collection -/
def k11 : Class := { plain "java/util/Collection" (some 0) with
  accessFlags := 1537
  interfaces := #[10]
  cf := some (fileOf pool11 10 #[] #[] 1537 60 #[62] #[])
  fields := #[]
  methods := #[]
  instanceTypes := #[]
  staticTypes := #[]
  resolved := Array.replicate 115 none
  statics := none }

def pool12 : Array CpInfo := pool [(1, .methodref 2 3), (0, .class_ 4), (0, .nameAndType 5 6), (0, u "java/lang/Object"), (0, u "<init>"), (0, u "()V"), (1, .class_ 10), (1, u "java/util/AbstractCollection"), (66, .class_ 78), (0, u "java/util/Collection")] 81

def k12c0 : Code := { maxStack := 1, maxLocals := 1, code := jdk_22_method_1_code, exceptionTable := #[], attributes := #[] }
def k12m0 : Method := { name := "<init>", desc := "()V", sig := { parameters := [], returnType := none }, accessFlags := 4, code := some k12c0 }
/-- java/util/AbstractCollection -/
def k12 : Class := { plain "java/util/AbstractCollection" (some 0) with
  accessFlags := 1057
  interfaces := #[11]
  cf := some (fileOf pool12 8 #[] #[{ accessFlags := 4, nameIndex := 5, descriptorIndex := 6, attributes := #[] }] 1057 2 #[77] #[])
  fields := #[]
  methods := #[k12m0]
  instanceTypes := #[]
  staticTypes := #[]
  resolved := Array.replicate 160 none
  statics := none }

def pool13 : Array CpInfo := pool [(8, .class_ 10), (1, u "java/util/SequencedCollection"), (15, .class_ 27), (0, u "java/lang/Object"), (0, .class_ 29), (0, u "java/util/Collection")] 27

/-- java/util/SequencedCollection -/
def k13 : Class := { plain "java/util/SequencedCollection" (some 0) with
  accessFlags := 1537
  interfaces := #[11]
  cf := some (fileOf pool13 8 #[] #[] 1537 26 #[28] #[])
  fields := #[]
  methods := #[]
  instanceTypes := #[]
  staticTypes := #[]
  resolved := Array.replicate 57 none
  statics := none }

def pool14 : Array CpInfo := pool [(8, .class_ 10), (1, u "java/util/List"), (64, u "get"), (0, u "(I)Ljava/lang/Object;"), (26, .class_ 104), (0, u "java/lang/Object"), (15, .class_ 121), (0, u "java/util/SequencedCollection")] 129

def k14m0 : Method := { name := "get", desc := "(I)Ljava/lang/Object;", sig := { parameters := [.int], returnType := some (.object "java/lang/Object") }, accessFlags := 1025, code := none }
/-- java/util/List -/
def k14 : Class := { plain "java/util/List" (some 0) with
  accessFlags := 1537
  interfaces := #[13]
  cf := some (fileOf pool14 8 #[] #[{ accessFlags := 1025, nameIndex := 75, descriptorIndex := 76, attributes := #[] }] 1537 103 #[120] #[])
  fields := #[]
  methods := #[k14m0]
  instanceTypes := #[]
  staticTypes := #[]
  resolved := Array.replicate 251 none
  statics := none }

def pool15 : Array CpInfo := pool [(1, .methodref 2 3), (0, .class_ 4), (0, .nameAndType 5 6), (0, u "java/util/AbstractCollection"), (0, u "<init>"), (0, u "()V"), (0, .fieldref 8 9), (0, .class_ 10), (0, .nameAndType 11 12), (0, u "java/util/AbstractList"), (0, u "modCount"), (0, u "I"), (64, .class_ 78), (0, u "java/util/AbstractList$Itr"), (3, .class_ 83), (0, u "java/util/AbstractList$ListItr"), (9, .class_ 94), (0, u "java/util/AbstractList$RandomAccessSubList"), (3, .class_ 99), (0, u "java/util/AbstractList$SubList"), (33, .class_ 134), (0, u "java/util/List"), (73, .class_ 209), (0, u "java/util/AbstractList$SubList$1"), (0, .class_ 211), (0, u "java/util/AbstractList$RandomAccessSpliterator")] 6

def k15c0 : Code := { maxStack := 2, maxLocals := 1, code := jdk_39_method_1_code, exceptionTable := #[], attributes := #[] }
def k15m0 : Method := { name := "<init>", desc := "()V", sig := { parameters := [], returnType := none }, accessFlags := 4, code := some k15c0 }
/-- java/util/AbstractList -/
def k15 : Class := { plain "java/util/AbstractList" (some 12) with
  accessFlags := 1057
  interfaces := #[14]
  cf := some (fileOf pool15 8 #[.nestMembers #[93, 98, 208, 210, 82, 77]] #[{ accessFlags := 4, nameIndex := 5, descriptorIndex := 6, attributes := #[] }] 1057 2 #[133] #[{ accessFlags := 132, nameIndex := 11, descriptorIndex := 12, attributes := #[] }])
  fields := #[{ name := "modCount", type := .int, accessFlags := 132, slot := 0, constantValue := 0 }]
  methods := #[k15m0]
  instanceTypes := #[.int]
  staticTypes := #[]
  resolved := Array.replicate 218 none
  statics := none }

def pool16 : Array CpInfo := pool [(1, .class_ 2), (0, u "java/util/RandomAccess"), (0, .class_ 4), (0, u "java/lang/Object")] 2

/-- java/util/RandomAccess -/
def k16 : Class := { plain "java/util/RandomAccess" (some 0) with
  accessFlags := 1537
  interfaces := #[]
  cf := some (fileOf pool16 1 #[] #[] 1537 3 #[] #[])
  fields := #[]
  methods := #[]
  instanceTypes := #[]
  staticTypes := #[]
  resolved := Array.replicate 7 none
  statics := none }

def pool17 : Array CpInfo := pool [(1, .class_ 2), (0, u "java/lang/Cloneable"), (0, .class_ 4), (0, u "java/lang/Object")] 2

/-- java/lang/Cloneable -/
def k17 : Class := { plain "java/lang/Cloneable" (some 0) with
  accessFlags := 1537
  interfaces := #[]
  cf := some (fileOf pool17 1 #[] #[] 1537 3 #[] #[])
  fields := #[]
  methods := #[]
  instanceTypes := #[]
  staticTypes := #[]
  resolved := Array.replicate 7 none
  statics := none }

def pool18 : Array CpInfo := pool [(1, .methodref 2 3), (0, .class_ 4), (0, .nameAndType 5 6), (0, u "java/util/AbstractList"), (0, u "<init>"), (0, u "()V"), (0, .class_ 8), (0, u "java/lang/Object"), (0, .fieldref 10 11), (0, .class_ 12), (0, .nameAndType 13 14), (0, u "java/util/ArrayList"), (0, u "elementData"), (0, u "[Ljava/lang/Object;"), (2, u "EMPTY_ELEMENTDATA"), (21, .fieldref 10 40), (0, .nameAndType 41 14), (0, u "DEFAULTCAPACITY_EMPTY_ELEMENTDATA"), (5, u "()[Ljava/lang/Object;"), (0, .fieldref 10 49), (0, .nameAndType 50 51), (0, u "size"), (0, u "I"), (11, .fieldref 10 64), (0, .nameAndType 65 51), (0, u "modCount"), (3, .methodref 10 70), (0, .nameAndType 71 72), (0, u "grow"), (0, u "(I)[Ljava/lang/Object;"), (6, .methodref 80 81), (0, .class_ 82), (0, .nameAndType 83 84), (0, u "java/lang/Math"), (0, u "max"), (0, u "(II)I"), (11, u "(Ljava/lang/Object;)Z"), (21, .methodref 119 120), (0, .class_ 121), (0, .nameAndType 122 84), (0, u "java/util/Objects"), (0, u "checkIndex"), (0, .methodref 10 124), (0, .nameAndType 13 125), (0, u "(I)Ljava/lang/Object;"), (3, .methodref 10 130), (0, .nameAndType 71 47), (0, .methodref 10 132), (0, .nameAndType 133 134), (0, u "add"), (0, u "(Ljava/lang/Object;[Ljava/lang/Object;I)V"), (13, .class_ 149), (0, u "java/util/List"), (112, .class_ 263), (0, u "java/util/ArrayList$ListItr"), (3, .class_ 268), (0, u "java/util/ArrayList$Itr"), (7, .class_ 277), (0, u "java/util/ArrayList$SubList"), (12, .class_ 291), (0, u "java/util/ArrayList$ArrayListSpliterator"), (37, .class_ 330), (0, u "java/util/RandomAccess"), (0, .class_ 332), (0, u "java/lang/Cloneable"), (0, .class_ 334), (0, u "java/io/Serializable"), (0, u "serialVersionUID"), (0, u "J"), (3, u "DEFAULT_CAPACITY"), (40, u "get"), (118, .class_ 501), (0, u "java/util/ArrayList$SubList$2"), (0, .class_ 503), (0, u "java/util/ArrayList$SubList$1")] 5

def k18c0 : Code := { maxStack := 2, maxLocals := 1, code := jdk_38_method_2_code, exceptionTable := #[], attributes := #[] }
def k18m0 : Method := { name := "<init>", desc := "()V", sig := { parameters := [], returnType := none }, accessFlags := 1, code := some k18c0 }
def k18c1 : Code := { maxStack := 4, maxLocals := 4, code := jdk_38_method_6_code, exceptionTable := #[], attributes := #[] }
def k18m1 : Method := { name := "grow", desc := "(I)[Ljava/lang/Object;", sig := { parameters := [.int], returnType := some (.array (.object "java/lang/Object")) }, accessFlags := 2, code := some k18c1 }
def k18c2 : Code := { maxStack := 3, maxLocals := 1, code := jdk_38_method_7_code, exceptionTable := #[], attributes := #[] }
def k18m2 : Method := { name := "grow", desc := "()[Ljava/lang/Object;", sig := { parameters := [], returnType := some (.array (.object "java/lang/Object")) }, accessFlags := 2, code := some k18c2 }
def k18c3 : Code := { maxStack := 2, maxLocals := 2, code := jdk_38_method_18_code, exceptionTable := #[], attributes := #[] }
def k18m3 : Method := { name := "elementData", desc := "(I)Ljava/lang/Object;", sig := { parameters := [.int], returnType := some (.object "java/lang/Object") }, accessFlags := 0, code := some k18c3 }
def k18c4 : Code := { maxStack := 2, maxLocals := 2, code := jdk_38_method_20_code, exceptionTable := #[], attributes := #[] }
def k18m4 : Method := { name := "get", desc := "(I)Ljava/lang/Object;", sig := { parameters := [.int], returnType := some (.object "java/lang/Object") }, accessFlags := 1, code := some k18c4 }
def k18c5 : Code := { maxStack := 3, maxLocals := 4, code := jdk_38_method_24_code, exceptionTable := #[], attributes := #[] }
def k18m5 : Method := { name := "add", desc := "(Ljava/lang/Object;[Ljava/lang/Object;I)V", sig := { parameters := [(.object "java/lang/Object"), (.array (.object "java/lang/Object")), .int], returnType := none }, accessFlags := 2, code := some k18c5 }
def k18c6 : Code := { maxStack := 4, maxLocals := 2, code := jdk_38_method_25_code, exceptionTable := #[], attributes := #[] }
def k18m6 : Method := { name := "add", desc := "(Ljava/lang/Object;)Z", sig := { parameters := [(.object "java/lang/Object")], returnType := some .boolean }, accessFlags := 1, code := some k18c6 }
/-- java/util/ArrayList -/
def k18 : Class := { plain "java/util/ArrayList" (some 15) with
  accessFlags := 33
  interfaces := #[14, 16, 17, 2]
  cf := some (fileOf pool18 10 #[.nestMembers #[290, 276, 500, 502, 262, 267]] #[{ accessFlags := 1, nameIndex := 5, descriptorIndex := 6, attributes := #[] }, { accessFlags := 2, nameIndex := 71, descriptorIndex := 72, attributes := #[] }, { accessFlags := 2, nameIndex := 71, descriptorIndex := 47, attributes := #[] }, { accessFlags := 0, nameIndex := 13, descriptorIndex := 125, attributes := #[] }, { accessFlags := 1, nameIndex := 381, descriptorIndex := 125, attributes := #[] }, { accessFlags := 2, nameIndex := 133, descriptorIndex := 134, attributes := #[] }, { accessFlags := 1, nameIndex := 133, descriptorIndex := 96, attributes := #[] }] 33 2 #[148, 329, 331, 333] #[{ accessFlags := 26, nameIndex := 335, descriptorIndex := 336, attributes := #[] }, { accessFlags := 26, nameIndex := 340, descriptorIndex := 51, attributes := #[] }, { accessFlags := 26, nameIndex := 17, descriptorIndex := 14, attributes := #[] }, { accessFlags := 26, nameIndex := 41, descriptorIndex := 14, attributes := #[] }, { accessFlags := 128, nameIndex := 13, descriptorIndex := 14, attributes := #[] }, { accessFlags := 2, nameIndex := 50, descriptorIndex := 51, attributes := #[] }])
  fields := #[{ name := "serialVersionUID", type := .long, accessFlags := 26, slot := 0, constantValue := 0 }, { name := "DEFAULT_CAPACITY", type := .int, accessFlags := 26, slot := 1, constantValue := 0 }, { name := "EMPTY_ELEMENTDATA", type := (.array (.object "java/lang/Object")), accessFlags := 26, slot := 2, constantValue := 0 }, { name := "DEFAULTCAPACITY_EMPTY_ELEMENTDATA", type := (.array (.object "java/lang/Object")), accessFlags := 26, slot := 3, constantValue := 0 }, { name := "elementData", type := (.array (.object "java/lang/Object")), accessFlags := 128, slot := 1, constantValue := 0 }, { name := "size", type := .int, accessFlags := 2, slot := 2, constantValue := 0 }]
  methods := #[k18m0, k18m1, k18m2, k18m3, k18m4, k18m5, k18m6]
  instanceTypes := #[.int, (.array (.object "java/lang/Object")), .int]
  staticTypes := #[.long, .int, (.array (.object "java/lang/Object")), (.array (.object "java/lang/Object"))]
  resolved := Array.replicate 509 none
  statics := some 1 }

def pool19 : Array CpInfo := pool [(1, .class_ 2), (0, u "java/lang/Math"), (1, .class_ 6), (1, u "java/lang/Object"), (0, u "<init>"), (0, u "()V"), (89, .class_ 100), (1, u "java/lang/Math$RandomNumberGeneratorHolder"), (71, u "negativeZeroFloatBits"), (0, u "J"), (2, u "negativeZeroDoubleBits"), (21, u "max"), (46, u "$assertionsDisabled"), (0, u "Z"), (88, u "(II)I"), (2, u "twoToTheDoubleScaleDown"), (0, u "D"), (4, u "twoToTheDoubleScaleUp"), (9, u "E"), (3, u "PI"), (2, u "TAU"), (2, u "DEGREES_TO_RADIANS"), (0, u "RADIANS_TO_DEGREES")] 94

def k19m0 : Method := { name := "<init>", desc := "()V", sig := { parameters := [], returnType := none }, accessFlags := 2, code := none }
def k19c1 : Code := { maxStack := 2, maxLocals := 2, code := jdk_29_method_65_code, exceptionTable := #[], attributes := #[] }
def k19m1 : Method := { name := "max", desc := "(II)I", sig := { parameters := [.int, .int], returnType := some .int }, accessFlags := 9, code := some k19c1 }
/-- java/lang/Math -/
def k19 : Class := { plain "java/lang/Math" (some 0) with
  accessFlags := 49
  interfaces := #[]
  cf := some (fileOf pool19 1 #[.nestMembers #[98]] #[{ accessFlags := 2, nameIndex := 7, descriptorIndex := 8, attributes := #[] }, { accessFlags := 9, nameIndex := 198, descriptorIndex := 335, attributes := #[] }] 49 4 #[] #[{ accessFlags := 25, nameIndex := 354, descriptorIndex := 339, attributes := #[] }, { accessFlags := 25, nameIndex := 358, descriptorIndex := 339, attributes := #[] }, { accessFlags := 25, nameIndex := 361, descriptorIndex := 339, attributes := #[] }, { accessFlags := 26, nameIndex := 364, descriptorIndex := 339, attributes := #[] }, { accessFlags := 26, nameIndex := 365, descriptorIndex := 339, attributes := #[] }, { accessFlags := 26, nameIndex := 172, descriptorIndex := 173, attributes := #[] }, { accessFlags := 26, nameIndex := 176, descriptorIndex := 173, attributes := #[] }, { accessFlags := 8, nameIndex := 344, descriptorIndex := 339, attributes := #[] }, { accessFlags := 8, nameIndex := 338, descriptorIndex := 339, attributes := #[] }, { accessFlags := 4120, nameIndex := 245, descriptorIndex := 246, attributes := #[] }])
  fields := #[{ name := "E", type := .double, accessFlags := 25, slot := 0, constantValue := 0 }, { name := "PI", type := .double, accessFlags := 25, slot := 1, constantValue := 0 }, { name := "TAU", type := .double, accessFlags := 25, slot := 2, constantValue := 0 }, { name := "DEGREES_TO_RADIANS", type := .double, accessFlags := 26, slot := 3, constantValue := 0 }, { name := "RADIANS_TO_DEGREES", type := .double, accessFlags := 26, slot := 4, constantValue := 0 }, { name := "negativeZeroFloatBits", type := .long, accessFlags := 26, slot := 5, constantValue := 0 }, { name := "negativeZeroDoubleBits", type := .long, accessFlags := 26, slot := 6, constantValue := 0 }, { name := "twoToTheDoubleScaleUp", type := .double, accessFlags := 8, slot := 7, constantValue := 0 }, { name := "twoToTheDoubleScaleDown", type := .double, accessFlags := 8, slot := 8, constantValue := 0 }, { name := "$assertionsDisabled", type := .boolean, accessFlags := 4120, slot := 9, constantValue := 0 }]
  methods := #[k19m0, k19m1]
  instanceTypes := #[]
  staticTypes := #[.double, .double, .double, .double, .double, .long, .long, .double, .double, .boolean]
  resolved := Array.replicate 460 none
  statics := none }

def pool20 : Array CpInfo := pool [(1, .methodref 2 3), (0, .class_ 4), (0, .nameAndType 5 6), (0, u "java/lang/Object"), (0, u "<init>"), (0, u "()V"), (0, .class_ 8), (0, u "java/lang/Record")] 13

def k20c0 : Code := { maxStack := 1, maxLocals := 1, code := jdk_30_method_1_code, exceptionTable := #[], attributes := #[] }
def k20m0 : Method := { name := "<init>", desc := "()V", sig := { parameters := [], returnType := none }, accessFlags := 4, code := some k20c0 }
/-- java/lang/Record -/
def k20 : Class := { plain "java/lang/Record" (some 0) with
  accessFlags := 1057
  interfaces := #[]
  cf := some (fileOf pool20 7 #[] #[{ accessFlags := 4, nameIndex := 5, descriptorIndex := 6, attributes := #[] }] 1057 2 #[] #[])
  fields := #[]
  methods := #[k20m0]
  instanceTypes := #[]
  staticTypes := #[]
  resolved := Array.replicate 22 none
  statics := none }

def pool21 : Array CpInfo := pool [(1, .methodref 2 3), (0, .class_ 4), (0, .nameAndType 5 6), (0, u "java/lang/Record"), (0, u "<init>"), (0, u "()V"), (0, .fieldref 8 9), (0, .class_ 10), (0, .nameAndType 11 12), (0, u "com/example/yusenkabu/yusenkabu/CsvFile$Row"), (0, u "line"), (0, u "I"), (0, .fieldref 8 14), (0, .nameAndType 15 16), (0, u "fields"), (0, u "Ljava/util/List;"), (0, .interfaceMethodref 18 19), (0, .class_ 20), (0, .nameAndType 21 22), (0, u "java/util/List"), (0, u "get"), (0, u "(I)Ljava/lang/Object;"), (0, .class_ 24), (0, u "java/lang/String"), (2, u "field"), (0, u "(I)Ljava/lang/String;"), (5, .class_ 36), (1, u "com/example/yusenkabu/yusenkabu/CsvFile"), (59, u "(ILjava/util/List;)V")] 46

def k21c0 : Code := { maxStack := 2, maxLocals := 3, code := prog_14_method_1_code, exceptionTable := #[], attributes := #[] }
def k21m0 : Method := { name := "<init>", desc := "(ILjava/util/List;)V", sig := { parameters := [.int, (.object "java/util/List")], returnType := none }, accessFlags := 0, code := some k21c0 }
def k21c1 : Code := { maxStack := 2, maxLocals := 2, code := prog_14_method_2_code, exceptionTable := #[], attributes := #[] }
def k21m1 : Method := { name := "field", desc := "(I)Ljava/lang/String;", sig := { parameters := [.int], returnType := some (.object "java/lang/String") }, accessFlags := 0, code := some k21c1 }
/-- com/example/yusenkabu/yusenkabu/CsvFile$Row -/
def k21 : Class := { plain "com/example/yusenkabu/yusenkabu/CsvFile$Row" (some 20) with
  accessFlags := 48
  interfaces := #[]
  cf := some (fileOf pool21 8 #[.nestHost 34] #[{ accessFlags := 0, nameIndex := 5, descriptorIndex := 96, attributes := #[] }, { accessFlags := 0, nameIndex := 27, descriptorIndex := 28, attributes := #[] }] 48 2 #[] #[{ accessFlags := 18, nameIndex := 11, descriptorIndex := 12, attributes := #[] }, { accessFlags := 18, nameIndex := 15, descriptorIndex := 16, attributes := #[] }])
  fields := #[{ name := "line", type := .int, accessFlags := 18, slot := 0, constantValue := 0 }, { name := "fields", type := (.object "java/util/List"), accessFlags := 18, slot := 1, constantValue := 0 }]
  methods := #[k21m0, k21m1]
  instanceTypes := #[.int, (.object "java/util/List")]
  staticTypes := #[]
  resolved := Array.replicate 143 none
  statics := none }

def pool22 : Array CpInfo := pool [(2, .class_ 4), (1, u "java/lang/Object"), (0, u "<init>"), (0, u "()V"), (35, .class_ 44), (1, u "java/util/Objects"), (60, .methodref 106 107), (0, .class_ 108), (0, .nameAndType 109 110), (0, u "jdk/internal/util/Preconditions"), (0, u "checkIndex"), (0, u "(IILjava/util/function/BiFunction;)I"), (60, u "(II)I")] 12

def k22m0 : Method := { name := "<init>", desc := "()V", sig := { parameters := [], returnType := none }, accessFlags := 2, code := none }
def k22c1 : Code := { maxStack := 3, maxLocals := 2, code := jdk_31_method_17_code, exceptionTable := #[], attributes := #[] }
def k22m1 : Method := { name := "checkIndex", desc := "(II)I", sig := { parameters := [.int, .int], returnType := some .int }, accessFlags := 9, code := some k22c1 }
/-- java/util/Objects -/
def k22 : Class := { plain "java/util/Objects" (some 0) with
  accessFlags := 49
  interfaces := #[]
  cf := some (fileOf pool22 42 #[] #[{ accessFlags := 2, nameIndex := 5, descriptorIndex := 6, attributes := #[] }, { accessFlags := 9, nameIndex := 109, descriptorIndex := 171, attributes := #[] }] 49 2 #[] #[])
  fields := #[]
  methods := #[k22m0, k22m1]
  instanceTypes := #[]
  staticTypes := #[]
  resolved := Array.replicate 184 none
  statics := none }

def pool23 : Array CpInfo := pool [(2, .class_ 4), (1, u "java/lang/Object"), (0, u "<init>"), (0, u "()V"), (17, .class_ 26), (1, u "jdk/internal/util/Preconditions"), (6, u "checkIndex"), (21, .class_ 56), (0, u "jdk/internal/util/Preconditions$4"), (57, .class_ 115), (0, u "jdk/internal/util/Preconditions$1"), (7, u "SIOOBE_FORMATTER"), (0, u "Ljava/util/function/BiFunction;"), (0, .class_ 126), (0, u "jdk/internal/util/Preconditions$2"), (3, u "AIOOBE_FORMATTER"), (0, .class_ 132), (0, u "jdk/internal/util/Preconditions$3"), (3, u "IOOBE_FORMATTER"), (41, u "(IILjava/util/function/BiFunction;)I")] 15

def k23m0 : Method := { name := "<init>", desc := "()V", sig := { parameters := [], returnType := none }, accessFlags := 1, code := none }
def k23c1 : Code := { maxStack := 3, maxLocals := 3, code := jdk_41_method_11_code, exceptionTable := #[], attributes := #[] }
def k23m1 : Method := { name := "checkIndex", desc := "(IILjava/util/function/BiFunction;)I", sig := { parameters := [.int, .int, (.object "java/util/function/BiFunction")], returnType := some .int }, accessFlags := 9, code := some k23c1 }
/-- jdk/internal/util/Preconditions -/
def k23 : Class := { plain "jdk/internal/util/Preconditions" (some 0) with
  accessFlags := 33
  interfaces := #[]
  cf := some (fileOf pool23 24 #[.nestMembers #[55, 131, 125, 114]] #[{ accessFlags := 1, nameIndex := 5, descriptorIndex := 6, attributes := #[] }, { accessFlags := 9, nameIndex := 33, descriptorIndex := 178, attributes := #[] }] 33 2 #[] #[{ accessFlags := 25, nameIndex := 123, descriptorIndex := 124, attributes := #[] }, { accessFlags := 25, nameIndex := 130, descriptorIndex := 124, attributes := #[] }, { accessFlags := 25, nameIndex := 136, descriptorIndex := 124, attributes := #[] }])
  fields := #[{ name := "SIOOBE_FORMATTER", type := (.object "java/util/function/BiFunction"), accessFlags := 25, slot := 0, constantValue := 0 }, { name := "AIOOBE_FORMATTER", type := (.object "java/util/function/BiFunction"), accessFlags := 25, slot := 1, constantValue := 0 }, { name := "IOOBE_FORMATTER", type := (.object "java/util/function/BiFunction"), accessFlags := 25, slot := 2, constantValue := 0 }]
  methods := #[k23m0, k23m1]
  instanceTypes := #[]
  staticTypes := #[(.object "java/util/function/BiFunction"), (.object "java/util/function/BiFunction"), (.object "java/util/function/BiFunction")]
  resolved := Array.replicate 194 none
  statics := some 2 }

def pool24 : Array CpInfo := pool [(9, u "<init>"), (6, .class_ 18), (1, u "java/lang/Object"), (0, u "()V"), (1, .class_ 23), (1, u "jdk/internal/util/ArraysSupport"), (0, u "LOG2_ARRAY_LONG_INDEX_SCALE"), (0, u "I"), (2, u "U"), (0, u "Ljdk/internal/misc/Unsafe;"), (8, u "BIG_ENDIAN"), (0, u "Z"), (8, u "LOG2_BYTE_BIT_SIZE"), (4, u "LOG2_ARRAY_INT_INDEX_SCALE"), (54, u "JLA"), (0, u "Ljdk/internal/access/JavaLangAccess;"), (11, u "LOG2_ARRAY_BOOLEAN_INDEX_SCALE"), (9, u "LOG2_ARRAY_BYTE_INDEX_SCALE"), (5, u "LOG2_ARRAY_CHAR_INDEX_SCALE"), (5, u "LOG2_ARRAY_SHORT_INDEX_SCALE"), (18, u "LOG2_ARRAY_FLOAT_INDEX_SCALE"), (24, u "LOG2_ARRAY_DOUBLE_INDEX_SCALE"), (89, u "T_BOOLEAN"), (2, u "T_CHAR"), (1, u "T_FLOAT"), (1, u "T_DOUBLE"), (1, u "T_BYTE"), (1, u "T_SHORT"), (1, u "T_INT"), (1, u "T_LONG"), (1, u "SOFT_MAX_ARRAY_LENGTH")] 83

def k24m0 : Method := { name := "<init>", desc := "()V", sig := { parameters := [], returnType := none }, accessFlags := 2, code := none }
/-- jdk/internal/util/ArraysSupport -/
def k24 : Class := { plain "jdk/internal/util/ArraysSupport" (some 0) with
  accessFlags := 33
  interfaces := #[]
  cf := some (fileOf pool24 21 #[] #[{ accessFlags := 2, nameIndex := 9, descriptorIndex := 19, attributes := #[] }] 33 16 #[] #[{ accessFlags := 24, nameIndex := 28, descriptorIndex := 29, attributes := #[] }, { accessFlags := 26, nameIndex := 38, descriptorIndex := 39, attributes := #[] }, { accessFlags := 25, nameIndex := 121, descriptorIndex := 25, attributes := #[] }, { accessFlags := 25, nameIndex := 131, descriptorIndex := 25, attributes := #[] }, { accessFlags := 25, nameIndex := 137, descriptorIndex := 25, attributes := #[] }, { accessFlags := 25, nameIndex := 143, descriptorIndex := 25, attributes := #[] }, { accessFlags := 25, nameIndex := 53, descriptorIndex := 25, attributes := #[] }, { accessFlags := 25, nameIndex := 24, descriptorIndex := 25, attributes := #[] }, { accessFlags := 25, nameIndex := 162, descriptorIndex := 25, attributes := #[] }, { accessFlags := 25, nameIndex := 187, descriptorIndex := 25, attributes := #[] }, { accessFlags := 26, nameIndex := 48, descriptorIndex := 25, attributes := #[] }, { accessFlags := 25, nameIndex := 277, descriptorIndex := 25, attributes := #[] }, { accessFlags := 25, nameIndex := 280, descriptorIndex := 25, attributes := #[] }, { accessFlags := 25, nameIndex := 282, descriptorIndex := 25, attributes := #[] }, { accessFlags := 25, nameIndex := 284, descriptorIndex := 25, attributes := #[] }, { accessFlags := 25, nameIndex := 286, descriptorIndex := 25, attributes := #[] }, { accessFlags := 25, nameIndex := 288, descriptorIndex := 25, attributes := #[] }, { accessFlags := 25, nameIndex := 290, descriptorIndex := 25, attributes := #[] }, { accessFlags := 25, nameIndex := 292, descriptorIndex := 25, attributes := #[] }, { accessFlags := 26, nameIndex := 108, descriptorIndex := 109, attributes := #[] }, { accessFlags := 25, nameIndex := 294, descriptorIndex := 25, attributes := #[] }])
  fields := #[{ name := "U", type := (.object "jdk/internal/misc/Unsafe"), accessFlags := 24, slot := 0, constantValue := 0 }, { name := "BIG_ENDIAN", type := .boolean, accessFlags := 26, slot := 1, constantValue := 0 }, { name := "LOG2_ARRAY_BOOLEAN_INDEX_SCALE", type := .int, accessFlags := 25, slot := 2, constantValue := 0 }, { name := "LOG2_ARRAY_BYTE_INDEX_SCALE", type := .int, accessFlags := 25, slot := 3, constantValue := 0 }, { name := "LOG2_ARRAY_CHAR_INDEX_SCALE", type := .int, accessFlags := 25, slot := 4, constantValue := 0 }, { name := "LOG2_ARRAY_SHORT_INDEX_SCALE", type := .int, accessFlags := 25, slot := 5, constantValue := 0 }, { name := "LOG2_ARRAY_INT_INDEX_SCALE", type := .int, accessFlags := 25, slot := 6, constantValue := 0 }, { name := "LOG2_ARRAY_LONG_INDEX_SCALE", type := .int, accessFlags := 25, slot := 7, constantValue := 0 }, { name := "LOG2_ARRAY_FLOAT_INDEX_SCALE", type := .int, accessFlags := 25, slot := 8, constantValue := 0 }, { name := "LOG2_ARRAY_DOUBLE_INDEX_SCALE", type := .int, accessFlags := 25, slot := 9, constantValue := 0 }, { name := "LOG2_BYTE_BIT_SIZE", type := .int, accessFlags := 26, slot := 10, constantValue := 0 }, { name := "T_BOOLEAN", type := .int, accessFlags := 25, slot := 11, constantValue := 0 }, { name := "T_CHAR", type := .int, accessFlags := 25, slot := 12, constantValue := 0 }, { name := "T_FLOAT", type := .int, accessFlags := 25, slot := 13, constantValue := 0 }, { name := "T_DOUBLE", type := .int, accessFlags := 25, slot := 14, constantValue := 0 }, { name := "T_BYTE", type := .int, accessFlags := 25, slot := 15, constantValue := 0 }, { name := "T_SHORT", type := .int, accessFlags := 25, slot := 16, constantValue := 0 }, { name := "T_INT", type := .int, accessFlags := 25, slot := 17, constantValue := 0 }, { name := "T_LONG", type := .int, accessFlags := 25, slot := 18, constantValue := 0 }, { name := "JLA", type := (.object "jdk/internal/access/JavaLangAccess"), accessFlags := 26, slot := 19, constantValue := 0 }, { name := "SOFT_MAX_ARRAY_LENGTH", type := .int, accessFlags := 25, slot := 20, constantValue := 0 }]
  methods := #[k24m0]
  instanceTypes := #[]
  staticTypes := #[(.object "jdk/internal/misc/Unsafe"), .boolean, .int, .int, .int, .int, .int, .int, .int, .int, .int, .int, .int, .int, .int, .int, .int, .int, .int, (.object "jdk/internal/access/JavaLangAccess"), .int]
  resolved := Array.replicate 378 none
  statics := none }

/-- the primitive byte -/
def k25 : Class := { plain "byte" none with kind := .primitive 'B', accessFlags := 0x411 }
/-- [B -/
def k26 : Class := { plain "[B" (some 0) with kind := .array 25 .byte, interfaces := #[17, 2], accessFlags := 1041 }

/-- the primitive char -/
def k27 : Class := { plain "char" none with kind := .primitive 'C', accessFlags := 0x411 }
/-- [C -/
def k28 : Class := { plain "[C" (some 0) with kind := .array 27 .char, interfaces := #[17, 2], accessFlags := 1041 }

/-- the primitive int -/
def k29 : Class := { plain "int" none with kind := .primitive 'I', accessFlags := 0x411 }
/-- [I -/
def k30 : Class := { plain "[I" (some 0) with kind := .array 29 .int, interfaces := #[17, 2], accessFlags := 1041 }

/-- [Ljava/lang/Object; -/
def k31 : Class := { plain "[Ljava/lang/Object;" (some 0) with kind := .array 0 (.object "java/lang/Object"), interfaces := #[17, 2], accessFlags := 1041 }

def heap : Heap := #[{ cls := 7, slots := #[.long 0, .int 1, .null, .int 0, .null, .int 0, .int 0], vm := .statics 7 },
  { cls := 18, slots := #[.long 0, .int 0, .ref 3, .ref 4], vm := .statics 18 },
  { cls := 23, slots := #[.null, .null, .null], vm := .statics 23 },
  { cls := 31, slots := #[], vm := .none },
  { cls := 31, slots := #[], vm := .none }]
def classes : Array Class := #[k0, k1, k2, k3, k4, k5, k6, k7, k8, k9, k10, k11, k12, k13, k14, k15, k16, k17, k18, k19, k20, k21, k22, k23, k24, k25, k26, k27, k28, k29, k30, k31]
def interned : List (Array UInt16 × Addr) := []
def slotsUsed : Nat := 14
def theMethod : MethodId := ⟨1, 1⟩
def args0 : Array Value := #[.int 1, .int 6, .int 65, .int 66, .int 67]
def aboutOver (below : List Frame) : State where
  vm := { classes := classes, interned := interned.toArray }
  heap := heap
  slotsUsed := slotsUsed
  threads := #[{ frames := .invoking theMethod args0 :: below }]
def below0 : List Frame := [.native { method := ⟨0, 0⟩, args := #[] }]
def about1 : State := aboutOver below0
def p0 : Program := .bare "" "" ""
def e0 : Env := launch0.env 0 0 0
theorem w_frames : about1.frames = Frame.invoking theMethod args0 :: below0 := rfl
set_option maxRecDepth 65536 in
theorem w_args : argsFit about1.vm theMethod args0 = true := by decide +kernel
set_option maxRecDepth 65536 in
theorem w_heap : heapFits about1 = true := by decide +kernel
set_option maxRecDepth 65536 in
theorem w_runnable : about1.curStatus? = some .runnable := by decide +kernel
set_option maxRecDepth 65536 in
theorem w_alone : about1.alone = true := by decide +kernel
set_option maxRecDepth 65536 in
theorem w_named : about1.methodNamed? x = some theMethod := by decide +kernel
set_option maxRecDepth 65536 in
theorem w_hears : about1.hears theMethod below0 = true := by decide +kernel
set_option maxRecDepth 65536 in
theorem w_ripe : about1.ripe theMethod args0 below0 = true := by decide +kernel
theorem w_running : about1.status = .running := rfl
set_option maxRecDepth 65536 in
theorem w_room : about1.hasRoom e0.platform room_1 = true :=
  launch0.hasRoom_least _ room_1 (by decide +kernel) (by decide +kernel) (by decide +kernel) (by decide +kernel) (by decide +kernel) (by decide +kernel)
theorem allAtoms_all (ts : List Jvm.Cond) (a : Array Jvm.Value) (st : Jvm.State) : (allAtoms ts).before a st = ts.all (fun c => c.before a st) := by
  induction ts with
  | nil => rfl
  | cons c t ih =>
    show (Jvm.Cond.and c (allAtoms t)).before a st = _
    rw [Jvm.Cond.before_and, ih, List.all_cons]
def words1 : List Jvm.Cond := Jvm.Cond.code x code maxLocals ret :: tables_1
/-- a 'code' word, met by the world's own term for the bytes: nothing is compared byte by byte -/
theorem code_word {y : MethodName} {bytes : ByteArray} {mx : Nat} {rt : Option FieldType} {a : Array Value} {s : State} {m : MethodId} {meth : Method} {c : Code} (h1 : s.methodNamed? y = some m) (h2 : s.vm.method? m = some meth) (h3 : meth.code = some c) (h4 : c.code = bytes)
    (h5 : (c.maxLocals == mx && c.exceptionTable.isEmpty && decide (c.maxStack ≤ mostOperands) && decide (meth.sig.returnType = rt) && !meth.locks && decide (parseMethodDescriptor y.desc = some meth.sig)) = true) : (Jvm.Cond.code y bytes mx rt).before a s = true := by
  simp only [Bool.and_eq_true, beq_iff_eq, Bool.not_eq_true', decide_eq_true_eq] at h5
  obtain ⟨⟨⟨⟨⟨g1, g2⟩, g3⟩, g4⟩, g5⟩, g6⟩ := h5
  simp [Cond.before, Cond.holds, Cond.value, h1, h2, h3, h4, g1, g2, g3, g4, g5, g6]
def isCode : Jvm.Cond → Bool
  | .code _ _ _ _ => true
  | _ => false
theorem all_split {L : List Jvm.Cond} {P : Jvm.Cond → Bool} (h1 : L.all (fun c => isCode c || P c) = true) (h2 : ∀ c ∈ L.filter isCode, P c = true) : L.all P = true := by
  refine List.all_eq_true.mpr fun c hc => ?_
  have h := List.all_eq_true.mp h1 c hc
  rcases Bool.eq_false_or_eq_true (isCode c) with hi | hi
  · exact h2 c (List.mem_filter.mpr ⟨hc, hi⟩)
  · simpa [hi] using h
set_option maxRecDepth 65536 in
theorem w_c0 : (Jvm.Cond.code x code maxLocals ret).before args0 about1 = true := code_word (m := ⟨1, 1⟩) (meth := k1m1) (c := k1c1) (by decide +kernel) rfl rfl rfl (by decide +kernel)
set_option maxRecDepth 65536 in
theorem w_c1 : (Jvm.Cond.code ({ cls := "java/lang/String", name := "<init>", desc := "([C)V" } : Jvm.MethodName) jdk_42_method_3_code (2 : Nat) (Option.none : Option Jvm.ClassFile.FieldType)).before args0 about1 = true := code_word (m := ⟨7, 1⟩) (meth := k7m1) (c := k7c1) (by decide +kernel) rfl rfl rfl (by decide +kernel)
set_option maxRecDepth 65536 in
theorem w_c2 : (Jvm.Cond.code ({ cls := "java/lang/String", name := "<init>", desc := "([CIILjava/lang/Void;)V" } : Jvm.MethodName) jdk_42_method_149_code (6 : Nat) (Option.none : Option Jvm.ClassFile.FieldType)).before args0 about1 = true := code_word (m := ⟨7, 3⟩) (meth := k7m3) (c := k7c3) (by decide +kernel) rfl rfl rfl (by decide +kernel)
set_option maxRecDepth 65536 in
theorem w_c3 : (Jvm.Cond.code ({ cls := "java/lang/Object", name := "<init>", desc := "()V" } : Jvm.MethodName) object_method_1_code (1 : Nat) (Option.none : Option Jvm.ClassFile.FieldType)).before args0 about1 = true := code_word (m := ⟨0, 0⟩) (meth := k0m0) (c := k0c0) (by decide +kernel) rfl rfl rfl (by decide +kernel)
set_option maxRecDepth 65536 in
theorem w_c4 : (Jvm.Cond.code ({ cls := "java/lang/StringUTF16", name := "compress", desc := "([CII)[B" } : Jvm.MethodName) jdk_52_method_16_code (6 : Nat) (Option.some (Jvm.ClassFile.FieldType.array Jvm.ClassFile.FieldType.byte))).before args0 about1 = true := code_word (m := ⟨8, 2⟩) (meth := k8m2) (c := k8c2) (by decide +kernel) rfl rfl rfl (by decide +kernel)
set_option maxRecDepth 65536 in
theorem w_c5 : (Jvm.Cond.code ({ cls := "java/lang/StringUTF16", name := "compress", desc := "([CI[BII)I" } : Jvm.MethodName) jdk_52_method_21_code (7 : Nat) (Option.some Jvm.ClassFile.FieldType.int)).before args0 about1 = true := code_word (m := ⟨8, 3⟩) (meth := k8m3) (c := k8c3) (by decide +kernel) rfl rfl rfl (by decide +kernel)
set_option maxRecDepth 65536 in
theorem w_c6 : (Jvm.Cond.code ({ cls := "java/lang/StringUTF16", name := "coderFromArrayLen", desc := "([BI)B" } : Jvm.MethodName) jdk_52_method_15_code (2 : Nat) (Option.some Jvm.ClassFile.FieldType.byte)).before args0 about1 = true := code_word (m := ⟨8, 1⟩) (meth := k8m1) (c := k8c1) (by decide +kernel) rfl rfl rfl (by decide +kernel)
set_option maxRecDepth 65536 in
theorem w_c7 : (Jvm.Cond.code ({ cls := "java/lang/String", name := "valueOf", desc := "(C)Ljava/lang/String;" } : Jvm.MethodName) jdk_42_method_139_code (1 : Nat) (Option.some (Jvm.ClassFile.FieldType.object "java/lang/String"))).before args0 about1 = true := code_word (m := ⟨7, 2⟩) (meth := k7m2) (c := k7c2) (by decide +kernel) rfl rfl rfl (by decide +kernel)
set_option maxRecDepth 65536 in
theorem w_c8 : (Jvm.Cond.code ({ cls := "java/lang/StringLatin1", name := "canEncode", desc := "(C)Z" } : Jvm.MethodName) jdk_43_method_3_code (1 : Nat) (Option.some Jvm.ClassFile.FieldType.boolean)).before args0 about1 = true := code_word (m := ⟨9, 1⟩) (meth := k9m1) (c := k9c1) (by decide +kernel) rfl rfl rfl (by decide +kernel)
set_option maxRecDepth 65536 in
theorem w_c9 : (Jvm.Cond.code ({ cls := "java/lang/StringLatin1", name := "toBytes", desc := "(C)[B" } : Jvm.MethodName) jdk_43_method_46_code (1 : Nat) (Option.some (Jvm.ClassFile.FieldType.array Jvm.ClassFile.FieldType.byte))).before args0 about1 = true := code_word (m := ⟨9, 2⟩) (meth := k9m2) (c := k9c2) (by decide +kernel) rfl rfl rfl (by decide +kernel)
set_option maxRecDepth 65536 in
theorem w_c10 : (Jvm.Cond.code ({ cls := "java/lang/String", name := "<init>", desc := "([BB)V" } : Jvm.MethodName) jdk_42_method_151_code (3 : Nat) (Option.none : Option Jvm.ClassFile.FieldType)).before args0 about1 = true := code_word (m := ⟨7, 4⟩) (meth := k7m4) (c := k7c4) (by decide +kernel) rfl rfl rfl (by decide +kernel)
set_option maxRecDepth 65536 in
theorem w_c11 : (Jvm.Cond.code ({ cls := "java/util/ArrayList", name := "<init>", desc := "()V" } : Jvm.MethodName) jdk_38_method_2_code (1 : Nat) (Option.none : Option Jvm.ClassFile.FieldType)).before args0 about1 = true := code_word (m := ⟨18, 0⟩) (meth := k18m0) (c := k18c0) (by decide +kernel) rfl rfl rfl (by decide +kernel)
set_option maxRecDepth 65536 in
theorem w_c12 : (Jvm.Cond.code ({ cls := "java/util/AbstractList", name := "<init>", desc := "()V" } : Jvm.MethodName) jdk_39_method_1_code (1 : Nat) (Option.none : Option Jvm.ClassFile.FieldType)).before args0 about1 = true := code_word (m := ⟨15, 0⟩) (meth := k15m0) (c := k15c0) (by decide +kernel) rfl rfl rfl (by decide +kernel)
set_option maxRecDepth 65536 in
theorem w_c13 : (Jvm.Cond.code ({ cls := "java/util/AbstractCollection", name := "<init>", desc := "()V" } : Jvm.MethodName) jdk_22_method_1_code (1 : Nat) (Option.none : Option Jvm.ClassFile.FieldType)).before args0 about1 = true := code_word (m := ⟨12, 0⟩) (meth := k12m0) (c := k12c0) (by decide +kernel) rfl rfl rfl (by decide +kernel)
set_option maxRecDepth 65536 in
theorem w_c14 : (Jvm.Cond.code ({ cls := "java/util/ArrayList", name := "add", desc := "(Ljava/lang/Object;)Z" } : Jvm.MethodName) jdk_38_method_25_code (2 : Nat) (Option.some Jvm.ClassFile.FieldType.boolean)).before args0 about1 = true := code_word (m := ⟨18, 6⟩) (meth := k18m6) (c := k18c6) (by decide +kernel) rfl rfl rfl (by decide +kernel)
set_option maxRecDepth 65536 in
theorem w_c15 : (Jvm.Cond.code ({ cls := "java/util/ArrayList", name := "add", desc := "(Ljava/lang/Object;[Ljava/lang/Object;I)V" } : Jvm.MethodName) jdk_38_method_24_code (4 : Nat) (Option.none : Option Jvm.ClassFile.FieldType)).before args0 about1 = true := code_word (m := ⟨18, 5⟩) (meth := k18m5) (c := k18c5) (by decide +kernel) rfl rfl rfl (by decide +kernel)
set_option maxRecDepth 65536 in
theorem w_c16 : (Jvm.Cond.code ({ cls := "java/util/ArrayList", name := "grow", desc := "()[Ljava/lang/Object;" } : Jvm.MethodName) jdk_38_method_7_code (1 : Nat) (Option.some (Jvm.ClassFile.FieldType.array (Jvm.ClassFile.FieldType.object "java/lang/Object")))).before args0 about1 = true := code_word (m := ⟨18, 2⟩) (meth := k18m2) (c := k18c2) (by decide +kernel) rfl rfl rfl (by decide +kernel)
set_option maxRecDepth 65536 in
theorem w_c17 : (Jvm.Cond.code ({ cls := "java/util/ArrayList", name := "grow", desc := "(I)[Ljava/lang/Object;" } : Jvm.MethodName) jdk_38_method_6_code (4 : Nat) (Option.some (Jvm.ClassFile.FieldType.array (Jvm.ClassFile.FieldType.object "java/lang/Object")))).before args0 about1 = true := code_word (m := ⟨18, 1⟩) (meth := k18m1) (c := k18c1) (by decide +kernel) rfl rfl rfl (by decide +kernel)
set_option maxRecDepth 65536 in
theorem w_c18 : (Jvm.Cond.code ({ cls := "java/lang/Math", name := "max", desc := "(II)I" } : Jvm.MethodName) jdk_29_method_65_code (2 : Nat) (Option.some Jvm.ClassFile.FieldType.int)).before args0 about1 = true := code_word (m := ⟨19, 1⟩) (meth := k19m1) (c := k19c1) (by decide +kernel) rfl rfl rfl (by decide +kernel)
set_option maxRecDepth 65536 in
theorem w_c19 : (Jvm.Cond.code ({ cls := "com/example/yusenkabu/yusenkabu/CsvFile$Row", name := "<init>", desc := "(ILjava/util/List;)V" } : Jvm.MethodName) prog_14_method_1_code (3 : Nat) (Option.none : Option Jvm.ClassFile.FieldType)).before args0 about1 = true := code_word (m := ⟨21, 0⟩) (meth := k21m0) (c := k21c0) (by decide +kernel) rfl rfl rfl (by decide +kernel)
set_option maxRecDepth 65536 in
theorem w_c20 : (Jvm.Cond.code ({ cls := "java/lang/Record", name := "<init>", desc := "()V" } : Jvm.MethodName) jdk_30_method_1_code (1 : Nat) (Option.none : Option Jvm.ClassFile.FieldType)).before args0 about1 = true := code_word (m := ⟨20, 0⟩) (meth := k20m0) (c := k20c0) (by decide +kernel) rfl rfl rfl (by decide +kernel)
set_option maxRecDepth 65536 in
theorem w_c21 : (Jvm.Cond.code ({ cls := "com/example/yusenkabu/yusenkabu/CsvFile$Row", name := "field", desc := "(I)Ljava/lang/String;" } : Jvm.MethodName) prog_14_method_2_code (2 : Nat) (Option.some (Jvm.ClassFile.FieldType.object "java/lang/String"))).before args0 about1 = true := code_word (m := ⟨21, 1⟩) (meth := k21m1) (c := k21c1) (by decide +kernel) rfl rfl rfl (by decide +kernel)
set_option maxRecDepth 65536 in
theorem w_c22 : (Jvm.Cond.code ({ cls := "java/util/ArrayList", name := "get", desc := "(I)Ljava/lang/Object;" } : Jvm.MethodName) jdk_38_method_20_code (2 : Nat) (Option.some (Jvm.ClassFile.FieldType.object "java/lang/Object"))).before args0 about1 = true := code_word (m := ⟨18, 4⟩) (meth := k18m4) (c := k18c4) (by decide +kernel) rfl rfl rfl (by decide +kernel)
set_option maxRecDepth 65536 in
theorem w_c23 : (Jvm.Cond.code ({ cls := "java/util/Objects", name := "checkIndex", desc := "(II)I" } : Jvm.MethodName) jdk_31_method_17_code (2 : Nat) (Option.some Jvm.ClassFile.FieldType.int)).before args0 about1 = true := code_word (m := ⟨22, 1⟩) (meth := k22m1) (c := k22c1) (by decide +kernel) rfl rfl rfl (by decide +kernel)
set_option maxRecDepth 65536 in
theorem w_c24 : (Jvm.Cond.code ({ cls := "jdk/internal/util/Preconditions", name := "checkIndex", desc := "(IILjava/util/function/BiFunction;)I" } : Jvm.MethodName) jdk_41_method_11_code (3 : Nat) (Option.some Jvm.ClassFile.FieldType.int)).before args0 about1 = true := code_word (m := ⟨23, 1⟩) (meth := k23m1) (c := k23c1) (by decide +kernel) rfl rfl rfl (by decide +kernel)
set_option maxRecDepth 65536 in
theorem w_c25 : (Jvm.Cond.code ({ cls := "java/util/ArrayList", name := "elementData", desc := "(I)Ljava/lang/Object;" } : Jvm.MethodName) jdk_38_method_18_code (2 : Nat) (Option.some (Jvm.ClassFile.FieldType.object "java/lang/Object"))).before args0 about1 = true := code_word (m := ⟨18, 3⟩) (meth := k18m3) (c := k18c3) (by decide +kernel) rfl rfl rfl (by decide +kernel)
def codes1 : List Jvm.Cond := [Jvm.Cond.code x code maxLocals ret, Jvm.Cond.code ({ cls := "java/lang/String", name := "<init>", desc := "([C)V" } : Jvm.MethodName) jdk_42_method_3_code (2 : Nat) (Option.none : Option Jvm.ClassFile.FieldType), Jvm.Cond.code ({ cls := "java/lang/String", name := "<init>", desc := "([CIILjava/lang/Void;)V" } : Jvm.MethodName) jdk_42_method_149_code (6 : Nat) (Option.none : Option Jvm.ClassFile.FieldType), Jvm.Cond.code ({ cls := "java/lang/Object", name := "<init>", desc := "()V" } : Jvm.MethodName) object_method_1_code (1 : Nat) (Option.none : Option Jvm.ClassFile.FieldType), Jvm.Cond.code ({ cls := "java/lang/StringUTF16", name := "compress", desc := "([CII)[B" } : Jvm.MethodName) jdk_52_method_16_code (6 : Nat) (Option.some (Jvm.ClassFile.FieldType.array Jvm.ClassFile.FieldType.byte)), Jvm.Cond.code ({ cls := "java/lang/StringUTF16", name := "compress", desc := "([CI[BII)I" } : Jvm.MethodName) jdk_52_method_21_code (7 : Nat) (Option.some Jvm.ClassFile.FieldType.int), Jvm.Cond.code ({ cls := "java/lang/StringUTF16", name := "coderFromArrayLen", desc := "([BI)B" } : Jvm.MethodName) jdk_52_method_15_code (2 : Nat) (Option.some Jvm.ClassFile.FieldType.byte), Jvm.Cond.code ({ cls := "java/lang/String", name := "valueOf", desc := "(C)Ljava/lang/String;" } : Jvm.MethodName) jdk_42_method_139_code (1 : Nat) (Option.some (Jvm.ClassFile.FieldType.object "java/lang/String")), Jvm.Cond.code ({ cls := "java/lang/StringLatin1", name := "canEncode", desc := "(C)Z" } : Jvm.MethodName) jdk_43_method_3_code (1 : Nat) (Option.some Jvm.ClassFile.FieldType.boolean), Jvm.Cond.code ({ cls := "java/lang/StringLatin1", name := "toBytes", desc := "(C)[B" } : Jvm.MethodName) jdk_43_method_46_code (1 : Nat) (Option.some (Jvm.ClassFile.FieldType.array Jvm.ClassFile.FieldType.byte)), Jvm.Cond.code ({ cls := "java/lang/String", name := "<init>", desc := "([BB)V" } : Jvm.MethodName) jdk_42_method_151_code (3 : Nat) (Option.none : Option Jvm.ClassFile.FieldType), Jvm.Cond.code ({ cls := "java/util/ArrayList", name := "<init>", desc := "()V" } : Jvm.MethodName) jdk_38_method_2_code (1 : Nat) (Option.none : Option Jvm.ClassFile.FieldType), Jvm.Cond.code ({ cls := "java/util/AbstractList", name := "<init>", desc := "()V" } : Jvm.MethodName) jdk_39_method_1_code (1 : Nat) (Option.none : Option Jvm.ClassFile.FieldType), Jvm.Cond.code ({ cls := "java/util/AbstractCollection", name := "<init>", desc := "()V" } : Jvm.MethodName) jdk_22_method_1_code (1 : Nat) (Option.none : Option Jvm.ClassFile.FieldType), Jvm.Cond.code ({ cls := "java/util/ArrayList", name := "add", desc := "(Ljava/lang/Object;)Z" } : Jvm.MethodName) jdk_38_method_25_code (2 : Nat) (Option.some Jvm.ClassFile.FieldType.boolean), Jvm.Cond.code ({ cls := "java/util/ArrayList", name := "add", desc := "(Ljava/lang/Object;[Ljava/lang/Object;I)V" } : Jvm.MethodName) jdk_38_method_24_code (4 : Nat) (Option.none : Option Jvm.ClassFile.FieldType), Jvm.Cond.code ({ cls := "java/util/ArrayList", name := "grow", desc := "()[Ljava/lang/Object;" } : Jvm.MethodName) jdk_38_method_7_code (1 : Nat) (Option.some (Jvm.ClassFile.FieldType.array (Jvm.ClassFile.FieldType.object "java/lang/Object"))), Jvm.Cond.code ({ cls := "java/util/ArrayList", name := "grow", desc := "(I)[Ljava/lang/Object;" } : Jvm.MethodName) jdk_38_method_6_code (4 : Nat) (Option.some (Jvm.ClassFile.FieldType.array (Jvm.ClassFile.FieldType.object "java/lang/Object"))), Jvm.Cond.code ({ cls := "java/lang/Math", name := "max", desc := "(II)I" } : Jvm.MethodName) jdk_29_method_65_code (2 : Nat) (Option.some Jvm.ClassFile.FieldType.int), Jvm.Cond.code ({ cls := "com/example/yusenkabu/yusenkabu/CsvFile$Row", name := "<init>", desc := "(ILjava/util/List;)V" } : Jvm.MethodName) prog_14_method_1_code (3 : Nat) (Option.none : Option Jvm.ClassFile.FieldType), Jvm.Cond.code ({ cls := "java/lang/Record", name := "<init>", desc := "()V" } : Jvm.MethodName) jdk_30_method_1_code (1 : Nat) (Option.none : Option Jvm.ClassFile.FieldType), Jvm.Cond.code ({ cls := "com/example/yusenkabu/yusenkabu/CsvFile$Row", name := "field", desc := "(I)Ljava/lang/String;" } : Jvm.MethodName) prog_14_method_2_code (2 : Nat) (Option.some (Jvm.ClassFile.FieldType.object "java/lang/String")), Jvm.Cond.code ({ cls := "java/util/ArrayList", name := "get", desc := "(I)Ljava/lang/Object;" } : Jvm.MethodName) jdk_38_method_20_code (2 : Nat) (Option.some (Jvm.ClassFile.FieldType.object "java/lang/Object")), Jvm.Cond.code ({ cls := "java/util/Objects", name := "checkIndex", desc := "(II)I" } : Jvm.MethodName) jdk_31_method_17_code (2 : Nat) (Option.some Jvm.ClassFile.FieldType.int), Jvm.Cond.code ({ cls := "jdk/internal/util/Preconditions", name := "checkIndex", desc := "(IILjava/util/function/BiFunction;)I" } : Jvm.MethodName) jdk_41_method_11_code (3 : Nat) (Option.some Jvm.ClassFile.FieldType.int), Jvm.Cond.code ({ cls := "java/util/ArrayList", name := "elementData", desc := "(I)Ljava/lang/Object;" } : Jvm.MethodName) jdk_38_method_18_code (2 : Nat) (Option.some (Jvm.ClassFile.FieldType.object "java/lang/Object"))]
set_option maxRecDepth 65536 in
theorem codes_eq : words1.filter isCode = codes1 := rfl
theorem w_codes : ∀ c ∈ words1.filter isCode, c.before args0 about1 = true := by
  rw [codes_eq]
  intro c hc
  simp only [codes1, List.mem_cons, List.not_mem_nil, or_false] at hc
  rcases hc with rfl | rfl | rfl | rfl | rfl | rfl | rfl | rfl | rfl | rfl | rfl | rfl | rfl | rfl | rfl | rfl | rfl | rfl | rfl | rfl | rfl | rfl | rfl | rfl | rfl | rfl
  · exact w_c0
  · exact w_c1
  · exact w_c2
  · exact w_c3
  · exact w_c4
  · exact w_c5
  · exact w_c6
  · exact w_c7
  · exact w_c8
  · exact w_c9
  · exact w_c10
  · exact w_c11
  · exact w_c12
  · exact w_c13
  · exact w_c14
  · exact w_c15
  · exact w_c16
  · exact w_c17
  · exact w_c18
  · exact w_c19
  · exact w_c20
  · exact w_c21
  · exact w_c22
  · exact w_c23
  · exact w_c24
  · exact w_c25
set_option maxRecDepth 65536 in
theorem w_t1 : (words1.take 24).all (fun c => isCode c || c.before args0 about1) = true := by decide +kernel
set_option maxRecDepth 65536 in
theorem w_t2 : ((words1.drop 24).take 24).all (fun c => isCode c || c.before args0 about1) = true := by decide +kernel
set_option maxRecDepth 65536 in
theorem w_t3 : (((words1.drop 24).drop 24).take 24).all (fun c => isCode c || c.before args0 about1) = true := by decide +kernel
set_option maxRecDepth 65536 in
theorem w_t4 : ((((words1.drop 24).drop 24).drop 24).take 24).all (fun c => isCode c || c.before args0 about1) = true := by decide +kernel
set_option maxRecDepth 65536 in
theorem w_t5 : (((((words1.drop 24).drop 24).drop 24).drop 24).take 24).all (fun c => isCode c || c.before args0 about1) = true := by decide +kernel
set_option maxRecDepth 65536 in
theorem w_t6 : ((((((words1.drop 24).drop 24).drop 24).drop 24).drop 24).take 24).all (fun c => isCode c || c.before args0 about1) = true := by decide +kernel
set_option maxRecDepth 65536 in
theorem w_t7 : ((((((words1.drop 24).drop 24).drop 24).drop 24).drop 24).drop 24).all (fun c => isCode c || c.before args0 about1) = true := by decide +kernel
theorem w_tables : (allAtoms (Jvm.Cond.code x code maxLocals ret :: tables_1)).before args0 about1 = true := by
  rw [allAtoms_all]
  show words1.all (fun c => c.before args0 about1) = true
  refine all_split ?_ w_codes
  rw [← List.take_append_drop 24 words1, List.all_append, w_t1, ← List.take_append_drop 24 (words1.drop 24), List.all_append, w_t2, ← List.take_append_drop 24 ((words1.drop 24).drop 24), List.all_append, w_t3, ← List.take_append_drop 24 (((words1.drop 24).drop 24).drop 24), List.all_append, w_t4, ← List.take_append_drop 24 ((((words1.drop 24).drop 24).drop 24).drop 24), List.all_append, w_t5, ← List.take_append_drop 24 (((((words1.drop 24).drop 24).drop 24).drop 24).drop 24), List.all_append, w_t6, w_t7]
  rfl
set_option maxRecDepth 65536 in
theorem w_rest : rest_1_c.before args0 about1 = true := by decide +kernel
set_option maxRecDepth 65536 in
theorem w_case : (Jvm.Cond.and given_1 narrow_1).before args0 about1 = true := by decide +kernel
theorem w_applies : (headSpec (Jvm.Cond.code x code maxLocals ret :: tables_1) room_1).applies x e0.platform about1 = true :=
  (Spec.applies_iff w_frames).mpr ⟨w_running, w_runnable, w_alone, w_named, w_hears, w_ripe, w_room, w_tables⟩
theorem atStart : AtStart classFile x code maxLocals ret World_1 tables_1 room_1 Calls_1 rest_1 Pre_1 launch0 p0 e0 about1 theMethod args0 below0 :=
  ⟨lists_1, trivial, launch0.admits_env _ _ _, launch0.least_env, fairChoices_fair.cas, fairChoices_fair.clock, w_frames, w_args, w_heap, w_applies, trivial, w_rest, w_case⟩
end start1
theorem witness_1 : WitnessClaimed_1 := ⟨start1.p0, start1.e0, start1.about1, start1.theMethod, start1.args0, start1.below0, start1.atStart⟩
end Jvm.Pilot.@@N@@
